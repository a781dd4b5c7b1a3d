import PyProof.Rows.All
import Wide.All
import OpenK.AllK
import Wide.FinOn
import PySem.Challenge.RW_tr0006_01
set_option Elab.async false
set_option linter.unusedVariables false
namespace Mine
/-! ## the wires, as a plain function -/
def minL : List Int → Int
  | [] => 0
  | a :: r => r.foldl min a
theorem minL_fold : ∀ (r : List Int) (a : Int), (∀ x ∈ a :: r, r.foldl min a ≤ x) ∧ r.foldl min a ∈ a :: r
  | [], a => ⟨fun x hx => by rw [List.mem_singleton.mp hx]; exact Int.le_refl _, List.mem_cons_self⟩
  | b :: r, a => by
    obtain ⟨h1, h2⟩ := minL_fold r (min a b)
    refine ⟨fun x hx => ?_, ?_⟩
    · have hm := h1 (min a b) List.mem_cons_self
      simp only [List.foldl_cons]
      rcases List.mem_cons.mp hx with rfl | hx
      · omega
      · rcases List.mem_cons.mp hx with rfl | hx
        · omega
        · exact h1 x (List.mem_cons_of_mem _ hx)
    · simp only [List.foldl_cons]
      rcases List.mem_cons.mp h2 with h | h
      · rw [h]
        rcases Int.le_total a b with q | q
        · rw [Int.min_eq_left q]; simp
        · rw [Int.min_eq_right q]; simp
      · simp [h]
theorem minL_eq {ns : List Int} {M : Int} (h1 : M ∈ ns) (h2 : ∀ a ∈ ns, M ≤ a) : M = minL ns := by
  match ns with
  | [] => cases h1
  | a :: r =>
    obtain ⟨q1, q2⟩ := minL_fold r a
    have := q1 M h1
    have := h2 _ q2
    show M = r.foldl min a
    omega
theorem minL_le {ns : List Int} {a : Int} (h : a ∈ ns) : minL ns ≤ a := by
  match ns with
  | [] => cases h
  | b :: r => exact (minL_fold r b).1 a h
theorem minL_mem {ns : List Int} (h : ns ≠ []) : minL ns ∈ ns := by
  match ns with
  | [] => exact absurd rfl h
  | b :: r => exact (minL_fold r b).2

def wpart (U : Nat → Nat → Int) (m : Int) (l : List Nat) : List Nat := l.filter fun j => decide (m < U (l.headD 0) j)
def wrest (p l : List Nat) : List Nat := l.filter fun j => !(p.any (· == j))
def wloop (rec : List Nat → Int × Int) (U : Nat → Nat → Int) (m : Int) : Nat → List Nat → Int → Int → Int × Int
  | 0, _, up, down => (up, down)
  | n + 1, l, up, down => if l = [] then (up, down) else
    wloop rec U m n (wrest (wpart U m l) l) (up * (rec (wpart U m l)).2 + (rec (wpart U m l)).1 * down) (down * (rec (wpart U m l)).2)
def wmeet (U : Nat → Nat → Int) (g : List Nat) : Int := minL (g.flatMap fun i => g.map fun j => U i j)
def wire (U : Nat → Nat → Int) : Nat → List Nat → Int → Int × Int
  | 0, _, _ => (0, 1)
  | n + 1, g, f => if g.length = 1 then (1, U (g.headD 0) (g.headD 0) - f) else
    ((wloop (fun p => wire U n p (wmeet U g)) U (wmeet U g) g.length g 0 1).1,
     (wloop (fun p => wire U n p (wmeet U g)) U (wmeet U g) g.length g 0 1).2 + (wmeet U g - f) * (wloop (fun p => wire U n p (wmeet U g)) U (wmeet U g) g.length g 0 1).1)

/-- a table of meeting heights -/
structure Ult (U : Nat → Nat → Int) : Prop where
  sym : ∀ i j, U i j = U j i
  tri : ∀ i j k, min (U i k) (U k j) ≤ U i j
  diag : ∀ i j, i < 5 → i ≠ j → U i j < U i i
  nn : ∀ i j, 0 ≤ U i j
  ub : ∀ i j, U i j ≤ 27

theorem wmeet_le {U : Nat → Nat → Int} {g : List Nat} {i j : Nat} (hi : i ∈ g) (hj : j ∈ g) : wmeet U g ≤ U i j :=
  minL_le (List.mem_flatMap.mpr ⟨i, hi, List.mem_map.mpr ⟨j, hj, rfl⟩⟩)
theorem wmeet_at {U : Nat → Nat → Int} {g : List Nat} (hg : g ≠ []) : ∃ i ∈ g, ∃ j ∈ g, wmeet U g = U i j := by
  have hne : (g.flatMap fun i => g.map fun j => U i j) ≠ [] := by
    match g, hg with
    | a :: r, _ => simp
  obtain ⟨i, hi, h⟩ := List.mem_flatMap.mp (minL_mem hne)
  obtain ⟨j, hj, e⟩ := List.mem_map.mp h
  exact ⟨i, hi, j, hj, e.symm⟩
theorem other {g : List Nat} (hn : g.Nodup) (hl : 2 ≤ g.length) {x : Nat} (hx : x ∈ g) : ∃ y ∈ g, y ≠ x := by
  match g, hn, hl with
  | a :: b :: r, hn, _ =>
    have hab : a ≠ b := by
      have := (List.nodup_cons.mp hn).1
      intro e; exact this (by simp [e])
    by_cases h : a = x
    · exact ⟨b, by simp, fun e => hab (h.trans e.symm)⟩
    · exact ⟨a, by simp, h⟩
theorem wmeet_diag {U : Nat → Nat → Int} (u : Ult U) {g : List Nat} (hn : g.Nodup) (hl : 2 ≤ g.length) (h5 : ∀ i ∈ g, i < 5) {x : Nat} (hx : x ∈ g) : wmeet U g < U x x := by
  obtain ⟨y, hy, hne⟩ := other hn hl hx
  have := wmeet_le (U := U) hx hy
  have := u.diag x y (h5 x hx) (Ne.symm hne)
  omega
theorem headD_mem {l : List Nat} (h : l ≠ []) : l.headD 0 ∈ l := by
  match l, h with
  | a :: r, _ => simp
theorem wpart_sub {U : Nat → Nat → Int} {m : Int} {l : List Nat} : (wpart U m l).Sublist l := List.filter_sublist
theorem wrest_sub {p l : List Nat} : (wrest p l).Sublist l := List.filter_sublist
theorem wpart_head {U : Nat → Nat → Int} {m : Int} {l : List Nat} (h : l ≠ []) (hd : m < U (l.headD 0) (l.headD 0)) : l.headD 0 ∈ wpart U m l := by
  unfold wpart
  exact List.mem_filter.mpr ⟨headD_mem h, decide_eq_true hd⟩
theorem wpart_lt {U : Nat → Nat → Int} (u : Ult U) {g l : List Nat} (hg : g ≠ []) (hs : l.Sublist g) (hl : l ≠ []) : (wpart U (wmeet U g) l).length < g.length := by
  refine Nat.lt_of_not_le fun hle => ?_
  have h1 := (wpart_sub (U := U) (m := wmeet U g) (l := l)).trans hs
  have e := h1.eq_of_length_le hle
  obtain ⟨i, hi, j, hj, hm⟩ := wmeet_at (U := U) hg
  have key : ∀ k ∈ g, wmeet U g < U (l.headD 0) k := fun k hk => by
    rw [← e] at hk
    unfold wpart at hk
    exact of_decide_eq_true (List.mem_filter.mp hk).2
  have a := key i hi
  have b := key j hj
  have c := u.tri i j (l.headD 0)
  rw [u.sym i (l.headD 0)] at c
  omega
theorem wrest_lt {p l : List Nat} {x : Nat} (hp : x ∈ p) (hl : x ∈ l) : (wrest p l).length < l.length := by
  unfold wrest
  refine List.length_filter_lt_length_iff_exists.mpr ⟨x, hl, ?_⟩
  simp only [Bool.not_eq_true, Bool.not_eq_false', List.any_eq_true, beq_iff_eq]
  exact ⟨x, hp, rfl⟩
end Mine
namespace Mine
/-! ## sums over lists -/
def sm (g : List Nat) (F : Nat → Int) : Int := (g.map F).sum
theorem sm_nil (F : Nat → Int) : sm [] F = 0 := rfl
theorem sm_cons (a : Nat) (g : List Nat) (F : Nat → Int) : sm (a :: g) F = F a + sm g F := by unfold sm; rw [List.map_cons, List.sum_cons]
theorem sm_append (g g' : List Nat) (F : Nat → Int) : sm (g ++ g') F = sm g F + sm g' F := by unfold sm; rw [List.map_append, List.sum_append]
theorem sm_congr : ∀ {g : List Nat} {F G : Nat → Int}, (∀ i ∈ g, F i = G i) → sm g F = sm g G
  | [], _, _, _ => rfl
  | a :: g, F, G, h => by rw [sm_cons, sm_cons, h a List.mem_cons_self, sm_congr fun i hi => h i (List.mem_cons_of_mem _ hi)]
theorem sm_add (g : List Nat) (F G : Nat → Int) : sm g (fun i => F i + G i) = sm g F + sm g G := by
  induction g with
  | nil => rfl
  | cons a g ih => rw [sm_cons, sm_cons, sm_cons, ih]; omega
theorem sm_mul (g : List Nat) (c : Int) (F : Nat → Int) : sm g (fun i => c * F i) = c * sm g F := by
  induction g with
  | nil => simp [sm_nil]
  | cons a g ih => rw [sm_cons, sm_cons, ih, Int.mul_add]
theorem sm_mulr (g : List Nat) (c : Int) (F : Nat → Int) : sm g (fun i => F i * c) = sm g F * c := by
  rw [Int.mul_comm, ← sm_mul]; exact sm_congr fun i _ => Int.mul_comm _ _
theorem sm_sub (g : List Nat) (F G : Nat → Int) : sm g (fun i => F i - G i) = sm g F - sm g G := by
  induction g with
  | nil => rfl
  | cons a g ih => rw [sm_cons, sm_cons, sm_cons, ih]; omega
theorem sm_zero (g : List Nat) : sm g (fun _ => 0) = 0 := by
  induction g with
  | nil => rfl
  | cons a g ih => rw [sm_cons, ih]; rfl
theorem sm_swap (g g' : List Nat) (F : Nat → Nat → Int) : sm g (fun i => sm g' (F i)) = sm g' (fun j => sm g (fun i => F i j)) := by
  induction g with
  | nil => simp only [sm_nil]; rw [sm_zero]
  | cons a g ih =>
    rw [sm_cons, ih, ← sm_add]
    exact sm_congr fun j _ => by rw [sm_cons]
theorem sm_perm {g g' : List Nat} (h : g.Perm g') (F : Nat → Int) : sm g F = sm g' F := by
  induction h with
  | nil => rfl
  | cons a _ ih => rw [sm_cons, sm_cons, ih]
  | swap a b l => rw [sm_cons, sm_cons, sm_cons, sm_cons]; omega
  | trans _ _ h1 h2 => exact h1.trans h2
theorem sm_pos {g : List Nat} {F : Nat → Int} (h : ∀ i ∈ g, 0 < F i) (hg : g ≠ []) : 0 < sm g F := by
  induction g with
  | nil => exact absurd rfl hg
  | cons a g ih =>
    rw [sm_cons]
    have h1 := h a List.mem_cons_self
    by_cases hn : g = []
    · subst hn; rw [sm_nil]; omega
    · have := ih (fun i hi => h i (List.mem_cons_of_mem _ hi)) hn; omega
theorem sm_nonneg {g : List Nat} {F : Nat → Int} (h : ∀ i ∈ g, 0 < F i) : 0 ≤ sm g F := by
  by_cases hn : g = []
  · subst hn; exact Int.le_refl _
  · exact Int.le_of_lt (sm_pos h hn)
/-- a sum with one place that counts -/
theorem sm_delta {g : List Nat} (hn : g.Nodup) {j : Nat} (hj : j ∈ g) (c : Int) : sm g (fun i => if i = j then c else 0) = c := by
  induction g with
  | nil => cases hj
  | cons a g ih =>
    obtain ⟨h1, h2⟩ := List.nodup_cons.mp hn
    rw [sm_cons]
    rcases List.mem_cons.mp hj with e | e
    · subst e
      rw [if_pos rfl, sm_congr (G := fun _ => 0) fun i hi => if_neg fun (q : i = j) => h1 (q ▸ hi), sm_zero]
      omega
    · rw [if_neg fun (q : a = j) => h1 (q ▸ e), ih h2 e]
      omega

/-! ## a group's table turned over, in ints over one denominator -/
structure Tn (U : Nat → Nat → Int) (g : List Nat) (f : Int) (V : Nat → Nat → Int) (D : Int) : Prop where
  pos : 0 < D
  inv : ∀ i ∈ g, ∀ j ∈ g, sm g (fun k => (U i k - f) * V k j) = if i = j then D else 0
  sym : ∀ i ∈ g, ∀ j ∈ g, V i j = V j i
  neg : ∀ i ∈ g, ∀ j ∈ g, i ≠ j → V i j ≤ 0 ∧ (V i j < 0 ↔ f < U i j)
  row : ∀ i ∈ g, 0 < sm g (V i)
def tot (g : List Nat) (V : Nat → Nat → Int) : Int := sm g (fun i => sm g (V i))
theorem Tn.perm {U : Nat → Nat → Int} {g g' : List Nat} {f : Int} {V : Nat → Nat → Int} {D : Int} (x : Tn U g f V D) (h : g.Perm g') : Tn U g' f V D where
  pos := x.pos
  inv := fun i hi j hj => by rw [← sm_perm h]; exact x.inv i (h.mem_iff.mpr hi) j (h.mem_iff.mpr hj)
  sym := fun i hi j hj => x.sym i (h.mem_iff.mpr hi) j (h.mem_iff.mpr hj)
  neg := fun i hi j hj => x.neg i (h.mem_iff.mpr hi) j (h.mem_iff.mpr hj)
  row := fun i hi => by rw [← sm_perm h]; exact x.row i (h.mem_iff.mpr hi)
theorem tot_perm {g g' : List Nat} (h : g.Perm g') (V : Nat → Nat → Int) : tot g V = tot g' V := by
  unfold tot
  rw [sm_perm h]
  exact sm_congr fun i _ => sm_perm h _
theorem Tn.nil (U : Nat → Nat → Int) (f : Int) : Tn U [] f (fun _ _ => 0) 1 where
  pos := by omega
  inv := fun i hi => nomatch hi
  sym := fun i hi => nomatch hi
  neg := fun i hi => nomatch hi
  row := fun i hi => nomatch hi
theorem Tn.one {U : Nat → Nat → Int} {x : Nat} {f : Int} (h : f < U x x) : Tn U [x] f (fun _ _ => 1) (U x x - f) where
  pos := by omega
  inv := fun i hi j hj => by
    rw [List.mem_singleton.mp hi, List.mem_singleton.mp hj, sm_cons, sm_nil, if_pos rfl]; omega
  sym := fun _ _ _ _ => rfl
  neg := fun i hi j hj hne => absurd ((List.mem_singleton.mp hi).trans (List.mem_singleton.mp hj).symm) hne
  row := fun i _ => by rw [sm_cons, sm_nil]; omega

/-- two groups that meet at the floor stand side by side -/
theorem Tn.join {U : Nat → Nat → Int} {g1 g2 : List Nat} {m : Int} {V1 V2 : Nat → Nat → Int} {D1 D2 : Int} (x1 : Tn U g1 m V1 D1) (x2 : Tn U g2 m V2 D2) (usym : ∀ i j, U i j = U j i)
    (hx : ∀ i ∈ g1, ∀ j ∈ g2, U i j = m) (hd : ∀ i ∈ g1, i ∉ g2) :
    ∃ V, Tn U (g1 ++ g2) m V (D1 * D2) ∧ tot (g1 ++ g2) V = D2 * tot g1 V1 + D1 * tot g2 V2 := by
  let V : Nat → Nat → Int := fun i j => if i ∈ g1 ∧ j ∈ g1 then D2 * V1 i j else if i ∈ g2 ∧ j ∈ g2 then D1 * V2 i j else 0
  have v11 : ∀ i ∈ g1, ∀ j ∈ g1, V i j = D2 * V1 i j := fun i hi j hj => if_pos ⟨hi, hj⟩
  have v22 : ∀ i ∈ g2, ∀ j ∈ g2, V i j = D1 * V2 i j := fun i hi j hj => by
    show (if i ∈ g1 ∧ j ∈ g1 then _ else _) = _
    rw [if_neg fun h => hd i h.1 hi, if_pos ⟨hi, hj⟩]
  have v12 : ∀ i ∈ g1, ∀ j ∈ g2, V i j = 0 := fun i hi j hj => by
    show (if i ∈ g1 ∧ j ∈ g1 then _ else _) = _
    rw [if_neg fun h => hd j h.2 hj, if_neg fun h => hd i hi h.1]
  have v21 : ∀ i ∈ g2, ∀ j ∈ g1, V i j = 0 := fun i hi j hj => by
    show (if i ∈ g1 ∧ j ∈ g1 then _ else _) = _
    rw [if_neg fun h => hd i h.1 hi, if_neg fun h => hd j hj h.2]
  have r1 : ∀ i ∈ g1, sm (g1 ++ g2) (V i) = D2 * sm g1 (V1 i) := fun i hi => by
    rw [sm_append, sm_congr (v11 i hi), sm_mul, sm_congr (v12 i hi), sm_zero]; omega
  have r2 : ∀ i ∈ g2, sm (g1 ++ g2) (V i) = D1 * sm g2 (V2 i) := fun i hi => by
    rw [sm_append, sm_congr (v21 i hi), sm_zero, sm_congr (v22 i hi), sm_mul]; omega
  refine ⟨V, ⟨Int.mul_pos x1.pos x2.pos, ?_, ?_, ?_, ?_⟩, ?_⟩
  · intro i hi j hj
    rw [sm_append]
    rcases List.mem_append.mp hi with hi | hi <;> rcases List.mem_append.mp hj with hj | hj
    · rw [sm_congr (G := fun k => D2 * ((U i k - m) * V1 k j)) fun k hk => by rw [v11 k hk j hj, Int.mul_left_comm], sm_mul, x1.inv i hi j hj,
        sm_congr (G := fun _ => 0) (fun k hk => by rw [v21 k hk j hj, Int.mul_zero]), sm_zero]
      by_cases e : i = j
      · rw [if_pos e, if_pos e, Int.mul_comm]; omega
      · rw [if_neg e, if_neg e]; omega
    · rw [sm_congr (G := fun _ => 0) fun k hk => by rw [v12 k hk j hj, Int.mul_zero], sm_zero, sm_congr (G := fun _ => 0) (fun k hk => by rw [hx i hi k hk, Int.sub_self, Int.zero_mul]), sm_zero,
        if_neg fun (e : i = j) => hd i hi (e ▸ hj)]
      rfl
    · rw [sm_congr (G := fun _ => 0) fun k hk => by rw [usym i k, hx k hk i hi, Int.sub_self, Int.zero_mul], sm_zero, sm_congr (G := fun _ => 0) (fun k hk => by rw [v21 k hk j hj, Int.mul_zero]), sm_zero,
        if_neg fun (e : i = j) => hd j hj (e ▸ hi)]
      rfl
    · rw [sm_congr (G := fun _ => 0) fun k hk => by rw [v12 k hk j hj, Int.mul_zero], sm_zero,
        sm_congr (G := fun k => D1 * ((U i k - m) * V2 k j)) (fun k hk => by rw [v22 k hk j hj, Int.mul_left_comm]), sm_mul, x2.inv i hi j hj]
      by_cases e : i = j
      · rw [if_pos e, if_pos e]; omega
      · rw [if_neg e, if_neg e]; omega
  · intro i hi j hj
    rcases List.mem_append.mp hi with hi | hi <;> rcases List.mem_append.mp hj with hj | hj
    · rw [v11 i hi j hj, v11 j hj i hi, x1.sym i hi j hj]
    · rw [v12 i hi j hj, v21 j hj i hi]
    · rw [v21 i hi j hj, v12 j hj i hi]
    · rw [v22 i hi j hj, v22 j hj i hi, x2.sym i hi j hj]
  · intro i hi j hj hne
    rcases List.mem_append.mp hi with hi | hi <;> rcases List.mem_append.mp hj with hj | hj
    · obtain ⟨n1, n2⟩ := x1.neg i hi j hj hne
      rw [v11 i hi j hj, ← n2]
      refine ⟨Int.mul_nonpos_of_nonneg_of_nonpos (Int.le_of_lt x2.pos) n1, fun h => ?_, fun h => Int.mul_neg_of_pos_of_neg x2.pos h⟩
      rcases Int.lt_or_eq_of_le n1 with q | q
      · exact q
      · rw [q, Int.mul_zero] at h; omega
    · rw [v12 i hi j hj, hx i hi j hj]; exact ⟨Int.le_refl _, fun h => absurd h (by omega), fun h => absurd h (by omega)⟩
    · rw [v21 i hi j hj, usym i j, hx j hj i hi]; exact ⟨Int.le_refl _, fun h => absurd h (by omega), fun h => absurd h (by omega)⟩
    · obtain ⟨n1, n2⟩ := x2.neg i hi j hj hne
      rw [v22 i hi j hj, ← n2]
      refine ⟨Int.mul_nonpos_of_nonneg_of_nonpos (Int.le_of_lt x1.pos) n1, fun h => ?_, fun h => Int.mul_neg_of_pos_of_neg x1.pos h⟩
      rcases Int.lt_or_eq_of_le n1 with q | q
      · exact q
      · rw [q, Int.mul_zero] at h; omega
  · intro i hi
    rcases List.mem_append.mp hi with hi | hi
    · rw [r1 i hi]; exact Int.mul_pos x2.pos (x1.row i hi)
    · rw [r2 i hi]; exact Int.mul_pos x1.pos (x2.row i hi)
  · unfold tot
    rw [sm_append, sm_congr r1, sm_mul, sm_congr r2, sm_mul]

/-- the floor goes down from m to f -/
theorem Tn.raise {U : Nat → Nat → Int} {g : List Nat} {m f : Int} {V : Nat → Nat → Int} {D : Int} (x : Tn U g m V D) (hn : g.Nodup) (hf : f ≤ m) (hm : ∀ i ∈ g, ∀ j ∈ g, m ≤ U i j) :
    ∃ V', Tn U g f V' (D * (D + (m - f) * tot g V)) ∧ tot g V' = D * tot g V := by
  have hy : ∀ i ∈ g, 0 < sm g (V i) := x.row
  have hT : 0 ≤ tot g V := sm_nonneg hy
  have hr : 0 ≤ m - f := by omega
  have hrT : 0 ≤ (m - f) * tot g V := Int.mul_nonneg hr hT
  have hD := x.pos
  have hDT : 0 < D + (m - f) * tot g V := by omega
  have colsum : ∀ j ∈ g, sm g (fun k => V k j) = sm g (V j) := fun j hj => sm_congr fun k hk => x.sym k hk j hj
  have one : ∀ i ∈ g, sm g (fun k => (U i k - m) * sm g (V k)) = D := fun i hi => by
    have e : sm g (fun k => (U i k - m) * sm g (V k)) = sm g (fun j => sm g (fun k => (U i k - m) * V k j)) := by
      rw [← sm_swap]
      exact sm_congr fun k _ => by rw [sm_mul]
    rw [e, sm_congr (G := fun j => if j = i then D else 0) (fun j hj => by rw [x.inv i hi j hj]; by_cases q : i = j <;> simp [q, eq_comm]), sm_delta hn hi]
  let V' : Nat → Nat → Int := fun i j => (D + (m - f) * tot g V) * V i j - (m - f) * (sm g (V i) * sm g (V j))
  have hrow : ∀ i ∈ g, sm g (V' i) = D * sm g (V i) := fun i hi => by
    show sm g (fun j => (D + (m - f) * tot g V) * V i j - (m - f) * (sm g (V i) * sm g (V j))) = _
    rw [sm_sub, sm_mul, sm_mul, sm_mul]
    show (D + (m - f) * tot g V) * sm g (V i) - (m - f) * (sm g (V i) * tot g V) = _
    rw [Int.add_mul, Int.mul_assoc, Int.mul_comm (sm g (V i))]; omega
  refine ⟨V', ⟨Int.mul_pos hD hDT, ?_, ?_, ?_, ?_⟩, ?_⟩
  · intro i hi j hj
    have e1 : sm g (fun k => (U i k - f) * V' k j) = sm g (fun k => (U i k - m) * V' k j) + (m - f) * sm g (fun k => V' k j) := by
      rw [← sm_mul, ← sm_add]
      exact sm_congr fun k _ => by rw [← Int.add_mul]; congr 1; omega
    have e2 : sm g (fun k => (U i k - m) * V' k j) = (D + (m - f) * tot g V) * (if i = j then D else 0) - (m - f) * (D * sm g (V j)) := by
      have q : ∀ k ∈ g, (U i k - m) * V' k j = (D + (m - f) * tot g V) * ((U i k - m) * V k j) - (m - f) * (((U i k - m) * sm g (V k)) * sm g (V j)) := fun k _ => by
        show (U i k - m) * ((D + (m - f) * tot g V) * V k j - (m - f) * (sm g (V k) * sm g (V j))) = _
        rw [Int.mul_sub, Int.mul_left_comm, Int.mul_left_comm (U i k - m) (m - f), Int.mul_assoc (U i k - m)]
      rw [sm_congr q, sm_sub, sm_mul, sm_mul, sm_mulr, x.inv i hi j hj, one i hi]
    have e3 : sm g (fun k => V' k j) = D * sm g (V j) := by
      have q : ∀ k ∈ g, V' k j = (D + (m - f) * tot g V) * V k j - (m - f) * (sm g (V k) * sm g (V j)) := fun k _ => rfl
      rw [sm_congr q, sm_sub, sm_mul, sm_mul, sm_mulr, colsum j hj]
      show (D + (m - f) * tot g V) * sm g (V j) - (m - f) * (tot g V * sm g (V j)) = _
      rw [Int.add_mul, Int.mul_assoc]; omega
    rw [e1, e2, e3]
    by_cases e : i = j
    · rw [if_pos e, if_pos e, Int.mul_comm (D + (m - f) * tot g V) D]; omega
    · rw [if_neg e, if_neg e]; omega
  · intro i hi j hj
    show (D + (m - f) * tot g V) * V i j - (m - f) * (sm g (V i) * sm g (V j)) = (D + (m - f) * tot g V) * V j i - (m - f) * (sm g (V j) * sm g (V i))
    rw [x.sym i hi j hj, Int.mul_comm (sm g (V i))]
  · intro i hi j hj hne
    obtain ⟨n1, n2⟩ := x.neg i hi j hj hne
    have hyy : 0 < sm g (V i) * sm g (V j) := Int.mul_pos (hy i hi) (hy j hj)
    have a1 : (D + (m - f) * tot g V) * V i j ≤ 0 := Int.mul_nonpos_of_nonneg_of_nonpos (Int.le_of_lt hDT) n1
    have a2 : 0 ≤ (m - f) * (sm g (V i) * sm g (V j)) := Int.mul_nonneg hr (Int.le_of_lt hyy)
    show (D + (m - f) * tot g V) * V i j - (m - f) * (sm g (V i) * sm g (V j)) ≤ 0 ∧ ((D + (m - f) * tot g V) * V i j - (m - f) * (sm g (V i) * sm g (V j)) < 0 ↔ _)
    refine ⟨by omega, ?_⟩
    by_cases q : m = f
    · have z : m - f = 0 := by omega
      rw [z, Int.zero_mul, Int.zero_mul, Int.add_zero, Int.sub_zero, ← q, ← n2]
      constructor
      · intro h
        rcases Int.lt_or_eq_of_le n1 with w | w
        · exact w
        · rw [w, Int.mul_zero] at h; omega
      · exact fun h => Int.mul_neg_of_pos_of_neg hD h
    · have hr' : 0 < m - f := by omega
      have a3 : 0 < (m - f) * (sm g (V i) * sm g (V j)) := Int.mul_pos hr' hyy
      have := hm i hi j hj
      exact ⟨fun _ => by omega, fun _ => by omega⟩
  · intro i hi
    rw [hrow i hi]; exact Int.mul_pos hD (hy i hi)
  · show sm g (fun i => sm g (V' i)) = _
    rw [sm_congr hrow, sm_mul]; rfl
end Mine
namespace Mine
/-! ## the wires tell the whole of the table turned over -/
theorem filter_perm (p : Nat → Bool) : ∀ l : List Nat, (l.filter p ++ l.filter (fun x => !p x)).Perm l
  | [] => .nil
  | a :: l => by
    have ih := filter_perm p l
    by_cases h : p a = true
    · rw [List.filter_cons_of_pos h, List.filter_cons_of_neg (by simp [h])]
      exact (ih.cons a)
    · rw [List.filter_cons_of_neg h, List.filter_cons_of_pos (by simp [h])]
      exact List.perm_middle.trans (ih.cons a)
theorem part_rest (U : Nat → Nat → Int) (m : Int) (l : List Nat) : (wpart U m l ++ wrest (wpart U m l) l).Perm l := by
  have e : wrest (wpart U m l) l = l.filter (fun x => !decide (m < U (l.headD 0) x)) := by
    unfold wrest
    refine List.filter_congr fun x hx => ?_
    congr 1
    unfold wpart
    by_cases q : m < U (l.headD 0) x
    · rw [decide_eq_true q, List.any_eq_true]
      exact ⟨x, List.mem_filter.mpr ⟨hx, decide_eq_true q⟩, beq_self_eq_true x⟩
    · rw [decide_eq_false q, Bool.eq_false_iff]
      intro h
      obtain ⟨y, hy, e⟩ := List.any_eq_true.mp h
      rw [beq_iff_eq.mp e] at hy
      exact q (of_decide_eq_true (List.mem_filter.mp hy).2)
  rw [e]
  exact filter_perm _ l
theorem part_mem {U : Nat → Nat → Int} {m : Int} {l : List Nat} {x : Nat} : x ∈ wpart U m l ↔ x ∈ l ∧ m < U (l.headD 0) x := by
  unfold wpart
  rw [List.mem_filter, decide_eq_true_eq]
theorem rest_mem {U : Nat → Nat → Int} {m : Int} {l : List Nat} {x : Nat} : x ∈ wrest (wpart U m l) l ↔ x ∈ l ∧ ¬ m < U (l.headD 0) x := by
  unfold wrest
  rw [List.mem_filter]
  constructor
  · rintro ⟨h1, h2⟩
    refine ⟨h1, fun q => ?_⟩
    simp only [Bool.not_eq_true', List.any_eq_false, beq_iff_eq] at h2
    exact h2 x (part_mem.mpr ⟨h1, q⟩) rfl
  · rintro ⟨h1, h2⟩
    refine ⟨h1, ?_⟩
    simp only [Bool.not_eq_true', List.any_eq_false, beq_iff_eq]
    intro y hy e
    subst e
    exact h2 (part_mem.mp hy).2
/-- what a group's wire says -/
def Told (U : Nat → Nat → Int) (g : List Nat) (f : Int) (r : Int × Int) : Prop := ∃ V D, Tn U g f V D ∧ tot g V * r.2 = r.1 * D
theorem loop_told {U : Nat → Nat → Int} (u : Ult U) {m : Int} {g : List Nat} (hn : g.Nodup) (hm : ∀ i ∈ g, ∀ j ∈ g, m ≤ U i j) (hd : ∀ i ∈ g, m < U i i) (rec : List Nat → Int × Int)
    (hrec : ∀ p, p.Sublist g → p ≠ [] → (∃ x ∈ g, ∀ y ∈ p, m < U x y) → Told U p m (rec p)) :
    ∀ (n : Nat) (don l : List Nat) (up down : Int), (don ++ l).Perm g → l.Sublist g → l.length ≤ n → (∀ i ∈ don, ∀ j ∈ l, U i j = m) → Told U don m (up, down) → Told U g m (wloop rec U m n l up down)
  | 0, don, l, up, down, hp, hs, hl, hx, ht => by
    have : l = [] := List.length_eq_zero_iff.mp (Nat.le_zero.mp hl)
    subst this
    rw [List.append_nil] at hp
    obtain ⟨V, D, t, e⟩ := ht
    exact ⟨V, D, t.perm hp, by rw [← tot_perm hp]; exact e⟩
  | n + 1, don, l, up, down, hp, hs, hl, hx, ht => by
    unfold wloop
    by_cases hl0 : l = []
    · rw [if_pos hl0]
      subst hl0
      rw [List.append_nil] at hp
      obtain ⟨V, D, t, e⟩ := ht
      exact ⟨V, D, t.perm hp, by rw [← tot_perm hp]; exact e⟩
    · rw [if_neg hl0]
      have hh : l.headD 0 ∈ l := headD_mem hl0
      have hhg : l.headD 0 ∈ g := hs.subset hh
      have hhp : l.headD 0 ∈ wpart U m l := wpart_head hl0 (hd _ hhg)
      have hps : (wpart U m l).Sublist g := wpart_sub.trans hs
      have hpne : wpart U m l ≠ [] := fun e => by rw [e] at hhp; cases hhp
      obtain ⟨V2, D2, t2, e2⟩ := hrec _ hps hpne ⟨_, hhg, fun y hy => (part_mem.mp hy).2⟩
      obtain ⟨V1, D1, t1, e1⟩ := ht
      have hnd : (don ++ l).Nodup := hp.nodup_iff.mpr hn
      have hdis : ∀ i ∈ don, i ∉ l := fun i hi hil => (List.nodup_append.mp hnd).2.2 i hi i hil rfl
      obtain ⟨V, t, et⟩ := t1.join t2 u.sym (fun i hi j hj => hx i hi j (wpart_sub.subset hj)) (fun i hi hj => hdis i hi (wpart_sub.subset hj))
      refine loop_told u hn hm hd rec hrec n (don ++ wpart U m l) (wrest (wpart U m l) l) _ _ ?_ (wrest_sub.trans hs) ?_ ?_ ⟨V, _, t, ?_⟩
      · rw [List.append_assoc]
        exact ((part_rest U m l).append_left don).trans hp
      · have := wrest_lt hhp hh; omega
      · intro i hi j hj
        obtain ⟨hjl, hjn⟩ := rest_mem.mp hj
        rcases List.mem_append.mp hi with hi | hi
        · exact hx i hi j hjl
        · obtain ⟨hil, hip⟩ := part_mem.mp hi
          have h1 := hm i (hs.subset hil) j (hs.subset hjl)
          have h2 := u.tri (l.headD 0) j i
          omega
      · show tot (don ++ wpart U m l) V * (down * (rec (wpart U m l)).2) = (up * (rec (wpart U m l)).2 + (rec (wpart U m l)).1 * down) * (D1 * D2)
        rw [et]
        have e1' : tot don V1 * down = up * D1 := e1
        generalize (rec (wpart U m l)).1 = a at e2 ⊢
        generalize (rec (wpart U m l)).2 = b at e2 ⊢
        generalize tot don V1 = T1 at e1' ⊢
        generalize tot (wpart U m l) V2 = T2 at e2 ⊢
        have q1 : D2 * T1 * (down * b) = D2 * b * (T1 * down) := by ac_rfl
        have q2 : D1 * T2 * (down * b) = D1 * down * (T2 * b) := by ac_rfl
        rw [Int.add_mul, q1, q2, e1', e2, Int.add_mul]
        have q3 : D2 * b * (up * D1) = up * b * (D1 * D2) := by
          rw [Int.mul_comm D2 b, Int.mul_comm up b, Int.mul_assoc, Int.mul_assoc, Int.mul_left_comm D2, Int.mul_comm D2 D1]
        have q4 : D1 * down * (a * D2) = a * down * (D1 * D2) := by
          rw [Int.mul_comm D1 down, Int.mul_comm a down, Int.mul_assoc, Int.mul_assoc, Int.mul_left_comm D1]
        rw [q3, q4]
theorem wire_told {U : Nat → Nat → Int} (u : Ult U) : ∀ (n : Nat) (g : List Nat) (f : Int), g ≠ [] → g.length ≤ n → g.Nodup → (∀ i ∈ g, i < 5) → (∀ i ∈ g, ∀ j ∈ g, f ≤ U i j) → (∀ i ∈ g, f < U i i) → Told U g f (wire U n g f)
  | 0, g, f, h0, hl, _, _, _, _ => absurd (List.length_eq_zero_iff.mp (Nat.le_zero.mp hl)) h0
  | n + 1, g, f, h0, hl, hn, h5, hf, hd => by
    unfold wire
    by_cases h1 : g.length = 1
    · rw [if_pos h1]
      match g, h1 with
      | [x], _ =>
        refine ⟨_, _, Tn.one (hd x (by simp)), ?_⟩
        show tot [x] (fun _ _ => 1) * (U x x - f) = 1 * (U x x - f)
        rfl
    · rw [if_neg h1]
      have hl2 : 2 ≤ g.length := by
        match g, h0, h1 with
        | a :: b :: r, _, _ => simp
      have hmd : ∀ i ∈ g, wmeet U g < U i i := fun i hi => wmeet_diag u hn hl2 h5 hi
      have hmle : ∀ i ∈ g, ∀ j ∈ g, wmeet U g ≤ U i j := fun i hi j hj => wmeet_le hi hj
      have T := loop_told u hn hmle hmd (fun p => wire U n p (wmeet U g)) (fun p hp hpne hx => ?_) g.length [] g 0 1 (.refl _) (List.Sublist.refl g) (Nat.le_refl _) (fun _ h => nomatch h) ⟨_, _, Tn.nil U _, by simp [tot, sm_nil]⟩
      · obtain ⟨V, D, t, e⟩ := T
        have hfm : f ≤ wmeet U g := by
          obtain ⟨i, hi, j, hj, q⟩ := wmeet_at (U := U) h0
          rw [q]; exact hf i hi j hj
        obtain ⟨V', t', e'⟩ := t.raise hn hfm hmle
        refine ⟨V', _, t', ?_⟩
        rw [e']
        generalize wloop (fun p => wire U n p (wmeet U g)) U (wmeet U g) g.length g 0 1 = ud at e ⊢
        obtain ⟨up, down⟩ := ud
        simp only at e ⊢
        generalize tot g V = T0 at e ⊢
        generalize wmeet U g - f = r
        -- D*T0*(down + r*up) = up*(D*(D + r*T0))
        have q1 : D * T0 * (down + r * up) = D * (T0 * down) + D * (T0 * (r * up)) := by rw [Int.mul_assoc, Int.mul_add, Int.mul_add]
        have q2 : up * (D * (D + r * T0)) = D * (up * D) + D * (up * (r * T0)) := by rw [Int.mul_left_comm, Int.mul_add, Int.mul_add]
        have q3 : T0 * (r * up) = up * (r * T0) := by rw [Int.mul_comm, Int.mul_comm r up, Int.mul_assoc]
        rw [q1, q2, e, q3]
      · obtain ⟨x, hx, hy⟩ := hx
        have hlt : p.length < g.length := by
          refine Nat.lt_of_not_le fun hle => ?_
          have e := hp.eq_of_length_le hle
          obtain ⟨i, hi, j, hj, hq⟩ := wmeet_at (U := U) h0
          have a := hy i (e ▸ hi)
          have b := hy j (e ▸ hj)
          have c := u.tri i j x
          rw [u.sym i x] at c
          omega
        exact wire_told u n p (wmeet U g) hpne (by omega) (hn.sublist hp) (fun i hi => h5 i (hp.subset hi)) (fun i hi j hj => hmle i (hp.subset hi) j (hp.subset hj)) fun i hi => hmd i (hp.subset hi)
end Mine
namespace Mine
theorem xor_and_add : ∀ (n a b : Nat), a < 2 ^ n → (a ^^^ b) + 2 * (a &&& b) = a + b
  | 0, a, b, h => by
    obtain rfl : a = 0 := by omega
    simp
  | n + 1, a, b, h => by
    have ih := xor_and_add n (a / 2) (b / 2) (by omega)
    have x1 : (a ^^^ b) / 2 = a / 2 ^^^ b / 2 := Nat.xor_div_two
    have x2 : (a &&& b) / 2 = a / 2 &&& b / 2 := Nat.and_div_two
    have x3 : (a ^^^ b) % 2 = (a + b) % 2 := by
      have h := Nat.xor_mod_two_pow (a := a) (b := b) (n := 1)
      rw [Nat.pow_one] at h
      rw [h]
      rcases Nat.mod_two_eq_zero_or_one a with p | p <;> rcases Nat.mod_two_eq_zero_or_one b with q | q <;> rw [p, q] <;> simp <;> omega
    have x4 : (a &&& b) % 2 = (a % 2) * (b % 2) := by
      have h1 : (a &&& b) % 2 = 1 ↔ a % 2 = 1 ∧ b % 2 = 1 := Nat.and_mod_two_eq_one
      rcases Nat.mod_two_eq_zero_or_one a with p | p <;> rcases Nat.mod_two_eq_zero_or_one b with q | q <;> rw [p, q] at h1 ⊢ <;> omega
    rw [← x1, ← x2] at ih
    rcases Nat.mod_two_eq_zero_or_one a with p | p <;> rcases Nat.mod_two_eq_zero_or_one b with q | q <;> rw [p, q] at x4 <;> omega
end Mine
namespace Mine
set_option maxRecDepth 100000
theorem bar_0_1 (u00 u01 u02 u03 u04 u10 u11 u12 u13 u14 u20 u21 u22 u23 u24 u30 u31 u32 u33 u34 u40 u41 u42 u43 u44 c0 c1 c2 c3 c4 : Int) : (u00) * (c1) - (u10) * (c0) = (1) * (- u10 * (c0) + c1 * (u00)) := by grind
theorem bar_0_2 (u00 u01 u02 u03 u04 u10 u11 u12 u13 u14 u20 u21 u22 u23 u24 u30 u31 u32 u33 u34 u40 u41 u42 u43 u44 c0 c1 c2 c3 c4 : Int) : (u00) * (c2) - (u20) * (c0) = (1) * (- u20 * (c0) + c2 * (u00)) := by grind
theorem bar_0_3 (u00 u01 u02 u03 u04 u10 u11 u12 u13 u14 u20 u21 u22 u23 u24 u30 u31 u32 u33 u34 u40 u41 u42 u43 u44 c0 c1 c2 c3 c4 : Int) : (u00) * (c3) - (u30) * (c0) = (1) * (- u30 * (c0) + c3 * (u00)) := by grind
theorem bar_0_4 (u00 u01 u02 u03 u04 u10 u11 u12 u13 u14 u20 u21 u22 u23 u24 u30 u31 u32 u33 u34 u40 u41 u42 u43 u44 c0 c1 c2 c3 c4 : Int) : (u00) * (c4) - (u40) * (c0) = (1) * (- u40 * (c0) + c4 * (u00)) := by grind
theorem bar_1_0 (u00 u01 u02 u03 u04 u10 u11 u12 u13 u14 u20 u21 u22 u23 u24 u30 u31 u32 u33 u34 u40 u41 u42 u43 u44 c0 c1 c2 c3 c4 : Int) : (- u10 * (u01) + u11 * (u00)) * (c0) - (u01) * (- u10 * (c0) + c1 * (u00)) = (u00) * (- c1 * (u01) + u11 * (c0)) := by grind
theorem bar_1_2 (u00 u01 u02 u03 u04 u10 u11 u12 u13 u14 u20 u21 u22 u23 u24 u30 u31 u32 u33 u34 u40 u41 u42 u43 u44 c0 c1 c2 c3 c4 : Int) : (- u10 * (u01) + u11 * (u00)) * (- u20 * (c0) + c2 * (u00)) - (- u20 * (u01) + u21 * (u00)) * (- u10 * (c0) + c1 * (u00)) = (u00) * (u20 * (- u11 * (c0) + c1 * (u01)) - u21 * (- u10 * (c0) + c1 * (u00)) + c2 * (- u10 * (u01) + u11 * (u00))) := by grind
theorem bar_1_3 (u00 u01 u02 u03 u04 u10 u11 u12 u13 u14 u20 u21 u22 u23 u24 u30 u31 u32 u33 u34 u40 u41 u42 u43 u44 c0 c1 c2 c3 c4 : Int) : (- u10 * (u01) + u11 * (u00)) * (- u30 * (c0) + c3 * (u00)) - (- u30 * (u01) + u31 * (u00)) * (- u10 * (c0) + c1 * (u00)) = (u00) * (u30 * (- u11 * (c0) + c1 * (u01)) - u31 * (- u10 * (c0) + c1 * (u00)) + c3 * (- u10 * (u01) + u11 * (u00))) := by grind
theorem bar_1_4 (u00 u01 u02 u03 u04 u10 u11 u12 u13 u14 u20 u21 u22 u23 u24 u30 u31 u32 u33 u34 u40 u41 u42 u43 u44 c0 c1 c2 c3 c4 : Int) : (- u10 * (u01) + u11 * (u00)) * (- u40 * (c0) + c4 * (u00)) - (- u40 * (u01) + u41 * (u00)) * (- u10 * (c0) + c1 * (u00)) = (u00) * (u40 * (- u11 * (c0) + c1 * (u01)) - u41 * (- u10 * (c0) + c1 * (u00)) + c4 * (- u10 * (u01) + u11 * (u00))) := by grind
theorem bar_2_0 (u00 u01 u02 u03 u04 u10 u11 u12 u13 u14 u20 u21 u22 u23 u24 u30 u31 u32 u33 u34 u40 u41 u42 u43 u44 c0 c1 c2 c3 c4 : Int) : (u20 * (- u11 * (u02) + u12 * (u01)) - u21 * (- u10 * (u02) + u12 * (u00)) + u22 * (- u10 * (u01) + u11 * (u00))) * (- c1 * (u01) + u11 * (c0)) - (- u12 * (u01) + u11 * (u02)) * (u20 * (- u11 * (c0) + c1 * (u01)) - u21 * (- u10 * (c0) + c1 * (u00)) + c2 * (- u10 * (u01) + u11 * (u00))) = (- u10 * (u01) + u11 * (u00)) * (c2 * (- u11 * (u02) + u12 * (u01)) - u21 * (- c1 * (u02) + u12 * (c0)) + u22 * (- c1 * (u01) + u11 * (c0))) := by grind
theorem bar_2_1 (u00 u01 u02 u03 u04 u10 u11 u12 u13 u14 u20 u21 u22 u23 u24 u30 u31 u32 u33 u34 u40 u41 u42 u43 u44 c0 c1 c2 c3 c4 : Int) : (u20 * (- u11 * (u02) + u12 * (u01)) - u21 * (- u10 * (u02) + u12 * (u00)) + u22 * (- u10 * (u01) + u11 * (u00))) * (- u10 * (c0) + c1 * (u00)) - (- u10 * (u02) + u12 * (u00)) * (u20 * (- u11 * (c0) + c1 * (u01)) - u21 * (- u10 * (c0) + c1 * (u00)) + c2 * (- u10 * (u01) + u11 * (u00))) = (- u10 * (u01) + u11 * (u00)) * (u20 * (- c1 * (u02) + u12 * (c0)) - c2 * (- u10 * (u02) + u12 * (u00)) + u22 * (- u10 * (c0) + c1 * (u00))) := by grind
theorem bar_2_3 (u00 u01 u02 u03 u04 u10 u11 u12 u13 u14 u20 u21 u22 u23 u24 u30 u31 u32 u33 u34 u40 u41 u42 u43 u44 c0 c1 c2 c3 c4 : Int) : (u20 * (- u11 * (u02) + u12 * (u01)) - u21 * (- u10 * (u02) + u12 * (u00)) + u22 * (- u10 * (u01) + u11 * (u00))) * (u30 * (- u11 * (c0) + c1 * (u01)) - u31 * (- u10 * (c0) + c1 * (u00)) + c3 * (- u10 * (u01) + u11 * (u00))) - (u30 * (- u11 * (u02) + u12 * (u01)) - u31 * (- u10 * (u02) + u12 * (u00)) + u32 * (- u10 * (u01) + u11 * (u00))) * (u20 * (- u11 * (c0) + c1 * (u01)) - u21 * (- u10 * (c0) + c1 * (u00)) + c2 * (- u10 * (u01) + u11 * (u00))) = (- u10 * (u01) + u11 * (u00)) * (- u30 * (u21 * (- u12 * (c0) + c1 * (u02)) - u22 * (- u11 * (c0) + c1 * (u01)) + c2 * (- u11 * (u02) + u12 * (u01))) + u31 * (u20 * (- u12 * (c0) + c1 * (u02)) - u22 * (- u10 * (c0) + c1 * (u00)) + c2 * (- u10 * (u02) + u12 * (u00))) - u32 * (u20 * (- u11 * (c0) + c1 * (u01)) - u21 * (- u10 * (c0) + c1 * (u00)) + c2 * (- u10 * (u01) + u11 * (u00))) + c3 * (u20 * (- u11 * (u02) + u12 * (u01)) - u21 * (- u10 * (u02) + u12 * (u00)) + u22 * (- u10 * (u01) + u11 * (u00)))) := by grind
theorem bar_2_4 (u00 u01 u02 u03 u04 u10 u11 u12 u13 u14 u20 u21 u22 u23 u24 u30 u31 u32 u33 u34 u40 u41 u42 u43 u44 c0 c1 c2 c3 c4 : Int) : (u20 * (- u11 * (u02) + u12 * (u01)) - u21 * (- u10 * (u02) + u12 * (u00)) + u22 * (- u10 * (u01) + u11 * (u00))) * (u40 * (- u11 * (c0) + c1 * (u01)) - u41 * (- u10 * (c0) + c1 * (u00)) + c4 * (- u10 * (u01) + u11 * (u00))) - (u40 * (- u11 * (u02) + u12 * (u01)) - u41 * (- u10 * (u02) + u12 * (u00)) + u42 * (- u10 * (u01) + u11 * (u00))) * (u20 * (- u11 * (c0) + c1 * (u01)) - u21 * (- u10 * (c0) + c1 * (u00)) + c2 * (- u10 * (u01) + u11 * (u00))) = (- u10 * (u01) + u11 * (u00)) * (- u40 * (u21 * (- u12 * (c0) + c1 * (u02)) - u22 * (- u11 * (c0) + c1 * (u01)) + c2 * (- u11 * (u02) + u12 * (u01))) + u41 * (u20 * (- u12 * (c0) + c1 * (u02)) - u22 * (- u10 * (c0) + c1 * (u00)) + c2 * (- u10 * (u02) + u12 * (u00))) - u42 * (u20 * (- u11 * (c0) + c1 * (u01)) - u21 * (- u10 * (c0) + c1 * (u00)) + c2 * (- u10 * (u01) + u11 * (u00))) + c4 * (u20 * (- u11 * (u02) + u12 * (u01)) - u21 * (- u10 * (u02) + u12 * (u00)) + u22 * (- u10 * (u01) + u11 * (u00)))) := by grind
theorem syl_0 (u00 u01 u02 u03 u10 u11 u12 u13 u20 u21 u22 u23 c0 c1 c2 : Int) : (u20 * (- u12 * (u03) + u13 * (u02)) - u22 * (- u10 * (u03) + u13 * (u00)) + u23 * (- u10 * (u02) + u12 * (u00))) * (u21 * (- u12 * (c0) + c1 * (u02)) - u22 * (- u11 * (c0) + c1 * (u01)) + c2 * (- u11 * (u02) + u12 * (u01))) - (u21 * (- u12 * (u03) + u13 * (u02)) - u22 * (- u11 * (u03) + u13 * (u01)) + u23 * (- u11 * (u02) + u12 * (u01))) * (u20 * (- u12 * (c0) + c1 * (u02)) - u22 * (- u10 * (c0) + c1 * (u00)) + c2 * (- u10 * (u02) + u12 * (u00))) = (u20 * (- u11 * (u02) + u12 * (u01)) - u21 * (- u10 * (u02) + u12 * (u00)) + u22 * (- u10 * (u01) + u11 * (u00))) * (u22 * (- u13 * (c0) + c1 * (u03)) - u23 * (- u12 * (c0) + c1 * (u02)) + c2 * (- u12 * (u03) + u13 * (u02))) := by grind
theorem syl_1 (u00 u01 u02 u03 u10 u11 u12 u13 u20 u21 u22 u23 c0 c1 c2 : Int) : (u20 * (- u11 * (u03) + u13 * (u01)) - u21 * (- u10 * (u03) + u13 * (u00)) + u23 * (- u10 * (u01) + u11 * (u00))) * (u21 * (- u12 * (c0) + c1 * (u02)) - u22 * (- u11 * (c0) + c1 * (u01)) + c2 * (- u11 * (u02) + u12 * (u01))) - (u21 * (- u12 * (u03) + u13 * (u02)) - u22 * (- u11 * (u03) + u13 * (u01)) + u23 * (- u11 * (u02) + u12 * (u01))) * (u20 * (- u11 * (c0) + c1 * (u01)) - u21 * (- u10 * (c0) + c1 * (u00)) + c2 * (- u10 * (u01) + u11 * (u00))) = (u20 * (- u11 * (u02) + u12 * (u01)) - u21 * (- u10 * (u02) + u12 * (u00)) + u22 * (- u10 * (u01) + u11 * (u00))) * (u21 * (- u13 * (c0) + c1 * (u03)) - u23 * (- u11 * (c0) + c1 * (u01)) + c2 * (- u11 * (u03) + u13 * (u01))) := by grind
theorem syl_2 (u00 u01 u02 u03 u10 u11 u12 u13 u20 u21 u22 u23 c0 c1 c2 : Int) : (u20 * (- u11 * (u03) + u13 * (u01)) - u21 * (- u10 * (u03) + u13 * (u00)) + u23 * (- u10 * (u01) + u11 * (u00))) * (u20 * (- u12 * (c0) + c1 * (u02)) - u22 * (- u10 * (c0) + c1 * (u00)) + c2 * (- u10 * (u02) + u12 * (u00))) - (u20 * (- u12 * (u03) + u13 * (u02)) - u22 * (- u10 * (u03) + u13 * (u00)) + u23 * (- u10 * (u02) + u12 * (u00))) * (u20 * (- u11 * (c0) + c1 * (u01)) - u21 * (- u10 * (c0) + c1 * (u00)) + c2 * (- u10 * (u01) + u11 * (u00))) = (u20 * (- u11 * (u02) + u12 * (u01)) - u21 * (- u10 * (u02) + u12 * (u00)) + u22 * (- u10 * (u01) + u11 * (u00))) * (u20 * (- u13 * (c0) + c1 * (u03)) - u23 * (- u10 * (c0) + c1 * (u00)) + c2 * (- u10 * (u03) + u13 * (u00))) := by grind
theorem bar_abs (m012 m123 m023 m013 m12c m02c m01c m23c m13c m03c u30 u31 u32 u33 u40 u41 u42 u43 c3 c4 : Int) (h0 : (m023) * (m12c) - (m123) * (m02c) = (m012) * (m23c)) (h1 : (m013) * (m12c) - (m123) * (m01c) = (m012) * (m13c)) (h2 : (m013) * (m02c) - (m023) * (m01c) = (m012) * (m03c)) : (- u30 * (m123) + u31 * (m023) - u32 * (m013) + u33 * (m012)) * (- u40 * (m12c) + u41 * (m02c) - u42 * (m01c) + c4 * (m012)) - (- u40 * (m123) + u41 * (m023) - u42 * (m013) + u43 * (m012)) * (- u30 * (m12c) + u31 * (m02c) - u32 * (m01c) + c3 * (m012)) = (m012) * (u40 * (- u31 * (m23c) + u32 * (m13c) - u33 * (m12c) + c3 * (m123)) - u41 * (- u30 * (m23c) + u32 * (m03c) - u33 * (m02c) + c3 * (m023)) + u42 * (- u30 * (m13c) + u31 * (m03c) - u33 * (m01c) + c3 * (m013)) - u43 * (- u30 * (m12c) + u31 * (m02c) - u32 * (m01c) + c3 * (m012)) + c4 * (- u30 * (m123) + u31 * (m023) - u32 * (m013) + u33 * (m012))) := by
  have e : (- u30 * (m123) + u31 * (m023) - u32 * (m013) + u33 * (m012)) * (- u40 * (m12c) + u41 * (m02c) - u42 * (m01c) + c4 * (m012)) - (- u40 * (m123) + u41 * (m023) - u42 * (m013) + u43 * (m012)) * (- u30 * (m12c) + u31 * (m02c) - u32 * (m01c) + c3 * (m012)) - (m012) * (u40 * (- u31 * (m23c) + u32 * (m13c) - u33 * (m12c) + c3 * (m123)) - u41 * (- u30 * (m23c) + u32 * (m03c) - u33 * (m02c) + c3 * (m023)) + u42 * (- u30 * (m13c) + u31 * (m03c) - u33 * (m01c) + c3 * (m013)) - u43 * (- u30 * (m12c) + u31 * (m02c) - u32 * (m01c) + c3 * (m012)) + c4 * (- u30 * (m123) + u31 * (m023) - u32 * (m013) + u33 * (m012))) = (u30 * u41 - u31 * u40) * ((m023) * (m12c) - (m123) * (m02c) - (m012) * (m23c)) + (u32 * u40 - u30 * u42) * ((m013) * (m12c) - (m123) * (m01c) - (m012) * (m13c)) + (u31 * u42 - u32 * u41) * ((m013) * (m02c) - (m023) * (m01c) - (m012) * (m03c)) := by grind
  rw [h0, h1, h2, Int.sub_self, Int.sub_self, Int.sub_self, Int.mul_zero, Int.mul_zero, Int.mul_zero] at e
  omega
theorem bar_3_4 (u00 u01 u02 u03 u04 u10 u11 u12 u13 u14 u20 u21 u22 u23 u24 u30 u31 u32 u33 u34 u40 u41 u42 u43 u44 c0 c1 c2 c3 c4 : Int) : (- u30 * (u21 * (- u12 * (u03) + u13 * (u02)) - u22 * (- u11 * (u03) + u13 * (u01)) + u23 * (- u11 * (u02) + u12 * (u01))) + u31 * (u20 * (- u12 * (u03) + u13 * (u02)) - u22 * (- u10 * (u03) + u13 * (u00)) + u23 * (- u10 * (u02) + u12 * (u00))) - u32 * (u20 * (- u11 * (u03) + u13 * (u01)) - u21 * (- u10 * (u03) + u13 * (u00)) + u23 * (- u10 * (u01) + u11 * (u00))) + u33 * (u20 * (- u11 * (u02) + u12 * (u01)) - u21 * (- u10 * (u02) + u12 * (u00)) + u22 * (- u10 * (u01) + u11 * (u00)))) * (- u40 * (u21 * (- u12 * (c0) + c1 * (u02)) - u22 * (- u11 * (c0) + c1 * (u01)) + c2 * (- u11 * (u02) + u12 * (u01))) + u41 * (u20 * (- u12 * (c0) + c1 * (u02)) - u22 * (- u10 * (c0) + c1 * (u00)) + c2 * (- u10 * (u02) + u12 * (u00))) - u42 * (u20 * (- u11 * (c0) + c1 * (u01)) - u21 * (- u10 * (c0) + c1 * (u00)) + c2 * (- u10 * (u01) + u11 * (u00))) + c4 * (u20 * (- u11 * (u02) + u12 * (u01)) - u21 * (- u10 * (u02) + u12 * (u00)) + u22 * (- u10 * (u01) + u11 * (u00)))) - (- u40 * (u21 * (- u12 * (u03) + u13 * (u02)) - u22 * (- u11 * (u03) + u13 * (u01)) + u23 * (- u11 * (u02) + u12 * (u01))) + u41 * (u20 * (- u12 * (u03) + u13 * (u02)) - u22 * (- u10 * (u03) + u13 * (u00)) + u23 * (- u10 * (u02) + u12 * (u00))) - u42 * (u20 * (- u11 * (u03) + u13 * (u01)) - u21 * (- u10 * (u03) + u13 * (u00)) + u23 * (- u10 * (u01) + u11 * (u00))) + u43 * (u20 * (- u11 * (u02) + u12 * (u01)) - u21 * (- u10 * (u02) + u12 * (u00)) + u22 * (- u10 * (u01) + u11 * (u00)))) * (- u30 * (u21 * (- u12 * (c0) + c1 * (u02)) - u22 * (- u11 * (c0) + c1 * (u01)) + c2 * (- u11 * (u02) + u12 * (u01))) + u31 * (u20 * (- u12 * (c0) + c1 * (u02)) - u22 * (- u10 * (c0) + c1 * (u00)) + c2 * (- u10 * (u02) + u12 * (u00))) - u32 * (u20 * (- u11 * (c0) + c1 * (u01)) - u21 * (- u10 * (c0) + c1 * (u00)) + c2 * (- u10 * (u01) + u11 * (u00))) + c3 * (u20 * (- u11 * (u02) + u12 * (u01)) - u21 * (- u10 * (u02) + u12 * (u00)) + u22 * (- u10 * (u01) + u11 * (u00)))) = (u20 * (- u11 * (u02) + u12 * (u01)) - u21 * (- u10 * (u02) + u12 * (u00)) + u22 * (- u10 * (u01) + u11 * (u00))) * (u40 * (- u31 * (u22 * (- u13 * (c0) + c1 * (u03)) - u23 * (- u12 * (c0) + c1 * (u02)) + c2 * (- u12 * (u03) + u13 * (u02))) + u32 * (u21 * (- u13 * (c0) + c1 * (u03)) - u23 * (- u11 * (c0) + c1 * (u01)) + c2 * (- u11 * (u03) + u13 * (u01))) - u33 * (u21 * (- u12 * (c0) + c1 * (u02)) - u22 * (- u11 * (c0) + c1 * (u01)) + c2 * (- u11 * (u02) + u12 * (u01))) + c3 * (u21 * (- u12 * (u03) + u13 * (u02)) - u22 * (- u11 * (u03) + u13 * (u01)) + u23 * (- u11 * (u02) + u12 * (u01)))) - u41 * (- u30 * (u22 * (- u13 * (c0) + c1 * (u03)) - u23 * (- u12 * (c0) + c1 * (u02)) + c2 * (- u12 * (u03) + u13 * (u02))) + u32 * (u20 * (- u13 * (c0) + c1 * (u03)) - u23 * (- u10 * (c0) + c1 * (u00)) + c2 * (- u10 * (u03) + u13 * (u00))) - u33 * (u20 * (- u12 * (c0) + c1 * (u02)) - u22 * (- u10 * (c0) + c1 * (u00)) + c2 * (- u10 * (u02) + u12 * (u00))) + c3 * (u20 * (- u12 * (u03) + u13 * (u02)) - u22 * (- u10 * (u03) + u13 * (u00)) + u23 * (- u10 * (u02) + u12 * (u00)))) + u42 * (- u30 * (u21 * (- u13 * (c0) + c1 * (u03)) - u23 * (- u11 * (c0) + c1 * (u01)) + c2 * (- u11 * (u03) + u13 * (u01))) + u31 * (u20 * (- u13 * (c0) + c1 * (u03)) - u23 * (- u10 * (c0) + c1 * (u00)) + c2 * (- u10 * (u03) + u13 * (u00))) - u33 * (u20 * (- u11 * (c0) + c1 * (u01)) - u21 * (- u10 * (c0) + c1 * (u00)) + c2 * (- u10 * (u01) + u11 * (u00))) + c3 * (u20 * (- u11 * (u03) + u13 * (u01)) - u21 * (- u10 * (u03) + u13 * (u00)) + u23 * (- u10 * (u01) + u11 * (u00)))) - u43 * (- u30 * (u21 * (- u12 * (c0) + c1 * (u02)) - u22 * (- u11 * (c0) + c1 * (u01)) + c2 * (- u11 * (u02) + u12 * (u01))) + u31 * (u20 * (- u12 * (c0) + c1 * (u02)) - u22 * (- u10 * (c0) + c1 * (u00)) + c2 * (- u10 * (u02) + u12 * (u00))) - u32 * (u20 * (- u11 * (c0) + c1 * (u01)) - u21 * (- u10 * (c0) + c1 * (u00)) + c2 * (- u10 * (u01) + u11 * (u00))) + c3 * (u20 * (- u11 * (u02) + u12 * (u01)) - u21 * (- u10 * (u02) + u12 * (u00)) + u22 * (- u10 * (u01) + u11 * (u00)))) + c4 * (- u30 * (u21 * (- u12 * (u03) + u13 * (u02)) - u22 * (- u11 * (u03) + u13 * (u01)) + u23 * (- u11 * (u02) + u12 * (u01))) + u31 * (u20 * (- u12 * (u03) + u13 * (u02)) - u22 * (- u10 * (u03) + u13 * (u00)) + u23 * (- u10 * (u02) + u12 * (u00))) - u32 * (u20 * (- u11 * (u03) + u13 * (u01)) - u21 * (- u10 * (u03) + u13 * (u00)) + u23 * (- u10 * (u01) + u11 * (u00))) + u33 * (u20 * (- u11 * (u02) + u12 * (u01)) - u21 * (- u10 * (u02) + u12 * (u00)) + u22 * (- u10 * (u01) + u11 * (u00))))) :=
  bar_abs _ _ _ _ _ _ _ _ _ _ u30 u31 u32 u33 u40 u41 u42 u43 c3 c4 (syl_0 u00 u01 u02 u03 u10 u11 u12 u13 u20 u21 u22 u23 c0 c1 c2) (syl_1 u00 u01 u02 u03 u10 u11 u12 u13 u20 u21 u22 u23 c0 c1 c2) (syl_2 u00 u01 u02 u03 u10 u11 u12 u13 u20 u21 u22 u23 c0 c1 c2)
theorem per_c12 (u00 u01 u02 u03 u10 u11 u12 u13 u20 u21 u22 u23 c0 c1 c2 : Int) : c2 * (- u11 * (u02) + u12 * (u01)) - u21 * (- c1 * (u02) + u12 * (c0)) + u22 * (- c1 * (u01) + u11 * (c0)) = (u21 * (- u12 * (c0) + c1 * (u02)) - u22 * (- u11 * (c0) + c1 * (u01)) + c2 * (- u11 * (u02) + u12 * (u01))) := by grind
theorem per_312 (u00 u01 u02 u03 u10 u11 u12 u13 u20 u21 u22 u23 c0 c1 c2 : Int) : u23 * (- u11 * (u02) + u12 * (u01)) - u21 * (- u13 * (u02) + u12 * (u03)) + u22 * (- u13 * (u01) + u11 * (u03)) = (u21 * (- u12 * (u03) + u13 * (u02)) - u22 * (- u11 * (u03) + u13 * (u01)) + u23 * (- u11 * (u02) + u12 * (u01))) := by grind
theorem per_c23 (u00 u01 u02 u03 u10 u11 u12 u13 u20 u21 u22 u23 c0 c1 c2 : Int) : c2 * (- u12 * (u03) + u13 * (u02)) - u22 * (- c1 * (u03) + u13 * (c0)) + u23 * (- c1 * (u02) + u12 * (c0)) = (u22 * (- u13 * (c0) + c1 * (u03)) - u23 * (- u12 * (c0) + c1 * (u02)) + c2 * (- u12 * (u03) + u13 * (u02))) := by grind
theorem per_c13 (u00 u01 u02 u03 u10 u11 u12 u13 u20 u21 u22 u23 c0 c1 c2 : Int) : c2 * (- u11 * (u03) + u13 * (u01)) - u21 * (- c1 * (u03) + u13 * (c0)) + u23 * (- c1 * (u01) + u11 * (c0)) = (u21 * (- u13 * (c0) + c1 * (u03)) - u23 * (- u11 * (c0) + c1 * (u01)) + c2 * (- u11 * (u03) + u13 * (u01))) := by grind
theorem bar_abs_0 (m012 m123 m023 m013 m12c m02c m01c m23c m13c m03c mc12 m312 mc23 mc13 u30 u31 u32 u33 c3 : Int) (h0 : (m023) * (m12c) - (m123) * (m02c) = (m012) * (m23c)) (h1 : (m013) * (m12c) - (m123) * (m01c) = (m012) * (m13c)) (h2 : (m013) * (m02c) - (m023) * (m01c) = (m012) * (m03c)) (pc12 : mc12 = (m12c)) (p312 : m312 = (m123)) (pc23 : mc23 = (m23c)) (pc13 : mc13 = (m13c)) : (- u30 * (m123) + u31 * (m023) - u32 * (m013) + u33 * (m012)) * (mc12) - (m312) * (- u30 * (m12c) + u31 * (m02c) - u32 * (m01c) + c3 * (m012)) = (m012) * (- c3 * (m123) + u31 * (mc23) - u32 * (mc13) + u33 * (mc12)) := by
  subst pc12 p312 pc23 pc13
  grind
theorem bar_3_0 (u00 u01 u02 u03 u04 u10 u11 u12 u13 u14 u20 u21 u22 u23 u24 u30 u31 u32 u33 u34 u40 u41 u42 u43 u44 c0 c1 c2 c3 c4 : Int) : (- u30 * (u21 * (- u12 * (u03) + u13 * (u02)) - u22 * (- u11 * (u03) + u13 * (u01)) + u23 * (- u11 * (u02) + u12 * (u01))) + u31 * (u20 * (- u12 * (u03) + u13 * (u02)) - u22 * (- u10 * (u03) + u13 * (u00)) + u23 * (- u10 * (u02) + u12 * (u00))) - u32 * (u20 * (- u11 * (u03) + u13 * (u01)) - u21 * (- u10 * (u03) + u13 * (u00)) + u23 * (- u10 * (u01) + u11 * (u00))) + u33 * (u20 * (- u11 * (u02) + u12 * (u01)) - u21 * (- u10 * (u02) + u12 * (u00)) + u22 * (- u10 * (u01) + u11 * (u00)))) * (c2 * (- u11 * (u02) + u12 * (u01)) - u21 * (- c1 * (u02) + u12 * (c0)) + u22 * (- c1 * (u01) + u11 * (c0))) - (u23 * (- u11 * (u02) + u12 * (u01)) - u21 * (- u13 * (u02) + u12 * (u03)) + u22 * (- u13 * (u01) + u11 * (u03))) * (- u30 * (u21 * (- u12 * (c0) + c1 * (u02)) - u22 * (- u11 * (c0) + c1 * (u01)) + c2 * (- u11 * (u02) + u12 * (u01))) + u31 * (u20 * (- u12 * (c0) + c1 * (u02)) - u22 * (- u10 * (c0) + c1 * (u00)) + c2 * (- u10 * (u02) + u12 * (u00))) - u32 * (u20 * (- u11 * (c0) + c1 * (u01)) - u21 * (- u10 * (c0) + c1 * (u00)) + c2 * (- u10 * (u01) + u11 * (u00))) + c3 * (u20 * (- u11 * (u02) + u12 * (u01)) - u21 * (- u10 * (u02) + u12 * (u00)) + u22 * (- u10 * (u01) + u11 * (u00)))) = (u20 * (- u11 * (u02) + u12 * (u01)) - u21 * (- u10 * (u02) + u12 * (u00)) + u22 * (- u10 * (u01) + u11 * (u00))) * (- c3 * (u21 * (- u12 * (u03) + u13 * (u02)) - u22 * (- u11 * (u03) + u13 * (u01)) + u23 * (- u11 * (u02) + u12 * (u01))) + u31 * (c2 * (- u12 * (u03) + u13 * (u02)) - u22 * (- c1 * (u03) + u13 * (c0)) + u23 * (- c1 * (u02) + u12 * (c0))) - u32 * (c2 * (- u11 * (u03) + u13 * (u01)) - u21 * (- c1 * (u03) + u13 * (c0)) + u23 * (- c1 * (u01) + u11 * (c0))) + u33 * (c2 * (- u11 * (u02) + u12 * (u01)) - u21 * (- c1 * (u02) + u12 * (c0)) + u22 * (- c1 * (u01) + u11 * (c0)))) :=
  bar_abs_0 _ _ _ _ _ _ _ _ _ _ _ _ _ _ u30 u31 u32 u33 c3 (syl_0 u00 u01 u02 u03 u10 u11 u12 u13 u20 u21 u22 u23 c0 c1 c2) (syl_1 u00 u01 u02 u03 u10 u11 u12 u13 u20 u21 u22 u23 c0 c1 c2) (syl_2 u00 u01 u02 u03 u10 u11 u12 u13 u20 u21 u22 u23 c0 c1 c2) (per_c12 u00 u01 u02 u03 u10 u11 u12 u13 u20 u21 u22 u23 c0 c1 c2) (per_312 u00 u01 u02 u03 u10 u11 u12 u13 u20 u21 u22 u23 c0 c1 c2) (per_c23 u00 u01 u02 u03 u10 u11 u12 u13 u20 u21 u22 u23 c0 c1 c2) (per_c13 u00 u01 u02 u03 u10 u11 u12 u13 u20 u21 u22 u23 c0 c1 c2)
theorem per_0c2 (u00 u01 u02 u03 u10 u11 u12 u13 u20 u21 u22 u23 c0 c1 c2 : Int) : u20 * (- c1 * (u02) + u12 * (c0)) - c2 * (- u10 * (u02) + u12 * (u00)) + u22 * (- u10 * (c0) + c1 * (u00)) = -(u20 * (- u12 * (c0) + c1 * (u02)) - u22 * (- u10 * (c0) + c1 * (u00)) + c2 * (- u10 * (u02) + u12 * (u00))) := by grind
theorem per_032 (u00 u01 u02 u03 u10 u11 u12 u13 u20 u21 u22 u23 c0 c1 c2 : Int) : u20 * (- u13 * (u02) + u12 * (u03)) - u23 * (- u10 * (u02) + u12 * (u00)) + u22 * (- u10 * (u03) + u13 * (u00)) = -(u20 * (- u12 * (u03) + u13 * (u02)) - u22 * (- u10 * (u03) + u13 * (u00)) + u23 * (- u10 * (u02) + u12 * (u00))) := by grind
theorem per_0c3 (u00 u01 u02 u03 u10 u11 u12 u13 u20 u21 u22 u23 c0 c1 c2 : Int) : u20 * (- c1 * (u03) + u13 * (c0)) - c2 * (- u10 * (u03) + u13 * (u00)) + u23 * (- u10 * (c0) + c1 * (u00)) = -(u20 * (- u13 * (c0) + c1 * (u03)) - u23 * (- u10 * (c0) + c1 * (u00)) + c2 * (- u10 * (u03) + u13 * (u00))) := by grind
theorem bar_abs_1 (m012 m123 m023 m013 m12c m02c m01c m23c m13c m03c m0c2 m032 mc23 m0c3 u30 u31 u32 u33 c3 : Int) (h0 : (m023) * (m12c) - (m123) * (m02c) = (m012) * (m23c)) (h1 : (m013) * (m12c) - (m123) * (m01c) = (m012) * (m13c)) (h2 : (m013) * (m02c) - (m023) * (m01c) = (m012) * (m03c)) (p0c2 : m0c2 = -(m02c)) (p032 : m032 = -(m023)) (pc23 : mc23 = (m23c)) (p0c3 : m0c3 = -(m03c)) : (- u30 * (m123) + u31 * (m023) - u32 * (m013) + u33 * (m012)) * (m0c2) - (m032) * (- u30 * (m12c) + u31 * (m02c) - u32 * (m01c) + c3 * (m012)) = (m012) * (- u30 * (mc23) + c3 * (m023) - u32 * (m0c3) + u33 * (m0c2)) := by
  subst p0c2 p032 pc23 p0c3
  grind
theorem bar_3_1 (u00 u01 u02 u03 u04 u10 u11 u12 u13 u14 u20 u21 u22 u23 u24 u30 u31 u32 u33 u34 u40 u41 u42 u43 u44 c0 c1 c2 c3 c4 : Int) : (- u30 * (u21 * (- u12 * (u03) + u13 * (u02)) - u22 * (- u11 * (u03) + u13 * (u01)) + u23 * (- u11 * (u02) + u12 * (u01))) + u31 * (u20 * (- u12 * (u03) + u13 * (u02)) - u22 * (- u10 * (u03) + u13 * (u00)) + u23 * (- u10 * (u02) + u12 * (u00))) - u32 * (u20 * (- u11 * (u03) + u13 * (u01)) - u21 * (- u10 * (u03) + u13 * (u00)) + u23 * (- u10 * (u01) + u11 * (u00))) + u33 * (u20 * (- u11 * (u02) + u12 * (u01)) - u21 * (- u10 * (u02) + u12 * (u00)) + u22 * (- u10 * (u01) + u11 * (u00)))) * (u20 * (- c1 * (u02) + u12 * (c0)) - c2 * (- u10 * (u02) + u12 * (u00)) + u22 * (- u10 * (c0) + c1 * (u00))) - (u20 * (- u13 * (u02) + u12 * (u03)) - u23 * (- u10 * (u02) + u12 * (u00)) + u22 * (- u10 * (u03) + u13 * (u00))) * (- u30 * (u21 * (- u12 * (c0) + c1 * (u02)) - u22 * (- u11 * (c0) + c1 * (u01)) + c2 * (- u11 * (u02) + u12 * (u01))) + u31 * (u20 * (- u12 * (c0) + c1 * (u02)) - u22 * (- u10 * (c0) + c1 * (u00)) + c2 * (- u10 * (u02) + u12 * (u00))) - u32 * (u20 * (- u11 * (c0) + c1 * (u01)) - u21 * (- u10 * (c0) + c1 * (u00)) + c2 * (- u10 * (u01) + u11 * (u00))) + c3 * (u20 * (- u11 * (u02) + u12 * (u01)) - u21 * (- u10 * (u02) + u12 * (u00)) + u22 * (- u10 * (u01) + u11 * (u00)))) = (u20 * (- u11 * (u02) + u12 * (u01)) - u21 * (- u10 * (u02) + u12 * (u00)) + u22 * (- u10 * (u01) + u11 * (u00))) * (- u30 * (c2 * (- u12 * (u03) + u13 * (u02)) - u22 * (- c1 * (u03) + u13 * (c0)) + u23 * (- c1 * (u02) + u12 * (c0))) + c3 * (u20 * (- u12 * (u03) + u13 * (u02)) - u22 * (- u10 * (u03) + u13 * (u00)) + u23 * (- u10 * (u02) + u12 * (u00))) - u32 * (u20 * (- c1 * (u03) + u13 * (c0)) - c2 * (- u10 * (u03) + u13 * (u00)) + u23 * (- u10 * (c0) + c1 * (u00))) + u33 * (u20 * (- c1 * (u02) + u12 * (c0)) - c2 * (- u10 * (u02) + u12 * (u00)) + u22 * (- u10 * (c0) + c1 * (u00)))) :=
  bar_abs_1 _ _ _ _ _ _ _ _ _ _ _ _ _ _ u30 u31 u32 u33 c3 (syl_0 u00 u01 u02 u03 u10 u11 u12 u13 u20 u21 u22 u23 c0 c1 c2) (syl_1 u00 u01 u02 u03 u10 u11 u12 u13 u20 u21 u22 u23 c0 c1 c2) (syl_2 u00 u01 u02 u03 u10 u11 u12 u13 u20 u21 u22 u23 c0 c1 c2) (per_0c2 u00 u01 u02 u03 u10 u11 u12 u13 u20 u21 u22 u23 c0 c1 c2) (per_032 u00 u01 u02 u03 u10 u11 u12 u13 u20 u21 u22 u23 c0 c1 c2) (per_c23 u00 u01 u02 u03 u10 u11 u12 u13 u20 u21 u22 u23 c0 c1 c2) (per_0c3 u00 u01 u02 u03 u10 u11 u12 u13 u20 u21 u22 u23 c0 c1 c2)
theorem per_1c3 (u00 u01 u02 u03 u10 u11 u12 u13 u20 u21 u22 u23 c0 c1 c2 : Int) : u21 * (- c1 * (u03) + u13 * (c0)) - c2 * (- u11 * (u03) + u13 * (u01)) + u23 * (- u11 * (c0) + c1 * (u01)) = -(u21 * (- u13 * (c0) + c1 * (u03)) - u23 * (- u11 * (c0) + c1 * (u01)) + c2 * (- u11 * (u03) + u13 * (u01))) := by grind
theorem bar_abs_2 (m012 m123 m023 m013 m12c m02c m01c m23c m13c m03c m1c3 m0c3 u30 u31 u32 u33 c3 : Int) (h0 : (m023) * (m12c) - (m123) * (m02c) = (m012) * (m23c)) (h1 : (m013) * (m12c) - (m123) * (m01c) = (m012) * (m13c)) (h2 : (m013) * (m02c) - (m023) * (m01c) = (m012) * (m03c)) (p1c3 : m1c3 = -(m13c)) (p0c3 : m0c3 = -(m03c)) : (- u30 * (m123) + u31 * (m023) - u32 * (m013) + u33 * (m012)) * (m01c) - (m013) * (- u30 * (m12c) + u31 * (m02c) - u32 * (m01c) + c3 * (m012)) = (m012) * (- u30 * (m1c3) + u31 * (m0c3) - c3 * (m013) + u33 * (m01c)) := by
  subst p1c3 p0c3
  grind
theorem bar_3_2 (u00 u01 u02 u03 u04 u10 u11 u12 u13 u14 u20 u21 u22 u23 u24 u30 u31 u32 u33 u34 u40 u41 u42 u43 u44 c0 c1 c2 c3 c4 : Int) : (- u30 * (u21 * (- u12 * (u03) + u13 * (u02)) - u22 * (- u11 * (u03) + u13 * (u01)) + u23 * (- u11 * (u02) + u12 * (u01))) + u31 * (u20 * (- u12 * (u03) + u13 * (u02)) - u22 * (- u10 * (u03) + u13 * (u00)) + u23 * (- u10 * (u02) + u12 * (u00))) - u32 * (u20 * (- u11 * (u03) + u13 * (u01)) - u21 * (- u10 * (u03) + u13 * (u00)) + u23 * (- u10 * (u01) + u11 * (u00))) + u33 * (u20 * (- u11 * (u02) + u12 * (u01)) - u21 * (- u10 * (u02) + u12 * (u00)) + u22 * (- u10 * (u01) + u11 * (u00)))) * (u20 * (- u11 * (c0) + c1 * (u01)) - u21 * (- u10 * (c0) + c1 * (u00)) + c2 * (- u10 * (u01) + u11 * (u00))) - (u20 * (- u11 * (u03) + u13 * (u01)) - u21 * (- u10 * (u03) + u13 * (u00)) + u23 * (- u10 * (u01) + u11 * (u00))) * (- u30 * (u21 * (- u12 * (c0) + c1 * (u02)) - u22 * (- u11 * (c0) + c1 * (u01)) + c2 * (- u11 * (u02) + u12 * (u01))) + u31 * (u20 * (- u12 * (c0) + c1 * (u02)) - u22 * (- u10 * (c0) + c1 * (u00)) + c2 * (- u10 * (u02) + u12 * (u00))) - u32 * (u20 * (- u11 * (c0) + c1 * (u01)) - u21 * (- u10 * (c0) + c1 * (u00)) + c2 * (- u10 * (u01) + u11 * (u00))) + c3 * (u20 * (- u11 * (u02) + u12 * (u01)) - u21 * (- u10 * (u02) + u12 * (u00)) + u22 * (- u10 * (u01) + u11 * (u00)))) = (u20 * (- u11 * (u02) + u12 * (u01)) - u21 * (- u10 * (u02) + u12 * (u00)) + u22 * (- u10 * (u01) + u11 * (u00))) * (- u30 * (u21 * (- c1 * (u03) + u13 * (c0)) - c2 * (- u11 * (u03) + u13 * (u01)) + u23 * (- u11 * (c0) + c1 * (u01))) + u31 * (u20 * (- c1 * (u03) + u13 * (c0)) - c2 * (- u10 * (u03) + u13 * (u00)) + u23 * (- u10 * (c0) + c1 * (u00))) - c3 * (u20 * (- u11 * (u03) + u13 * (u01)) - u21 * (- u10 * (u03) + u13 * (u00)) + u23 * (- u10 * (u01) + u11 * (u00))) + u33 * (u20 * (- u11 * (c0) + c1 * (u01)) - u21 * (- u10 * (c0) + c1 * (u00)) + c2 * (- u10 * (u01) + u11 * (u00)))) :=
  bar_abs_2 _ _ _ _ _ _ _ _ _ _ _ _ u30 u31 u32 u33 c3 (syl_0 u00 u01 u02 u03 u10 u11 u12 u13 u20 u21 u22 u23 c0 c1 c2) (syl_1 u00 u01 u02 u03 u10 u11 u12 u13 u20 u21 u22 u23 c0 c1 c2) (syl_2 u00 u01 u02 u03 u10 u11 u12 u13 u20 u21 u22 u23 c0 c1 c2) (per_1c3 u00 u01 u02 u03 u10 u11 u12 u13 u20 u21 u22 u23 c0 c1 c2) (per_0c3 u00 u01 u02 u03 u10 u11 u12 u13 u20 u21 u22 u23 c0 c1 c2)
end Mine
namespace Mine
set_option maxRecDepth 100000
/-- minors -/
def Ex (U : Nat → Nat → Int) (c : Nat → Int) : Nat → Nat → Int
  | 0, 0 => (c 0)
  | 0, 1 => (c 1)
  | 0, 2 => (c 2)
  | 0, 3 => (c 3)
  | 0, 4 => (c 4)
  | 1, 0 => (c 0)
  | 1, 1 => - (U 1 0) * ((c 0)) + (c 1) * ((U 0 0))
  | 1, 2 => - (U 2 0) * ((c 0)) + (c 2) * ((U 0 0))
  | 1, 3 => - (U 3 0) * ((c 0)) + (c 3) * ((U 0 0))
  | 1, 4 => - (U 4 0) * ((c 0)) + (c 4) * ((U 0 0))
  | 2, 0 => - (c 1) * ((U 0 1)) + (U 1 1) * ((c 0))
  | 2, 1 => - (U 1 0) * ((c 0)) + (c 1) * ((U 0 0))
  | 2, 2 => (U 2 0) * (- (U 1 1) * ((c 0)) + (c 1) * ((U 0 1))) - (U 2 1) * (- (U 1 0) * ((c 0)) + (c 1) * ((U 0 0))) + (c 2) * (- (U 1 0) * ((U 0 1)) + (U 1 1) * ((U 0 0)))
  | 2, 3 => (U 3 0) * (- (U 1 1) * ((c 0)) + (c 1) * ((U 0 1))) - (U 3 1) * (- (U 1 0) * ((c 0)) + (c 1) * ((U 0 0))) + (c 3) * (- (U 1 0) * ((U 0 1)) + (U 1 1) * ((U 0 0)))
  | 2, 4 => (U 4 0) * (- (U 1 1) * ((c 0)) + (c 1) * ((U 0 1))) - (U 4 1) * (- (U 1 0) * ((c 0)) + (c 1) * ((U 0 0))) + (c 4) * (- (U 1 0) * ((U 0 1)) + (U 1 1) * ((U 0 0)))
  | 3, 0 => (c 2) * (- (U 1 1) * ((U 0 2)) + (U 1 2) * ((U 0 1))) - (U 2 1) * (- (c 1) * ((U 0 2)) + (U 1 2) * ((c 0))) + (U 2 2) * (- (c 1) * ((U 0 1)) + (U 1 1) * ((c 0)))
  | 3, 1 => (U 2 0) * (- (c 1) * ((U 0 2)) + (U 1 2) * ((c 0))) - (c 2) * (- (U 1 0) * ((U 0 2)) + (U 1 2) * ((U 0 0))) + (U 2 2) * (- (U 1 0) * ((c 0)) + (c 1) * ((U 0 0)))
  | 3, 2 => (U 2 0) * (- (U 1 1) * ((c 0)) + (c 1) * ((U 0 1))) - (U 2 1) * (- (U 1 0) * ((c 0)) + (c 1) * ((U 0 0))) + (c 2) * (- (U 1 0) * ((U 0 1)) + (U 1 1) * ((U 0 0)))
  | 3, 3 => - (U 3 0) * ((U 2 1) * (- (U 1 2) * ((c 0)) + (c 1) * ((U 0 2))) - (U 2 2) * (- (U 1 1) * ((c 0)) + (c 1) * ((U 0 1))) + (c 2) * (- (U 1 1) * ((U 0 2)) + (U 1 2) * ((U 0 1)))) + (U 3 1) * ((U 2 0) * (- (U 1 2) * ((c 0)) + (c 1) * ((U 0 2))) - (U 2 2) * (- (U 1 0) * ((c 0)) + (c 1) * ((U 0 0))) + (c 2) * (- (U 1 0) * ((U 0 2)) + (U 1 2) * ((U 0 0)))) - (U 3 2) * ((U 2 0) * (- (U 1 1) * ((c 0)) + (c 1) * ((U 0 1))) - (U 2 1) * (- (U 1 0) * ((c 0)) + (c 1) * ((U 0 0))) + (c 2) * (- (U 1 0) * ((U 0 1)) + (U 1 1) * ((U 0 0)))) + (c 3) * ((U 2 0) * (- (U 1 1) * ((U 0 2)) + (U 1 2) * ((U 0 1))) - (U 2 1) * (- (U 1 0) * ((U 0 2)) + (U 1 2) * ((U 0 0))) + (U 2 2) * (- (U 1 0) * ((U 0 1)) + (U 1 1) * ((U 0 0))))
  | 3, 4 => - (U 4 0) * ((U 2 1) * (- (U 1 2) * ((c 0)) + (c 1) * ((U 0 2))) - (U 2 2) * (- (U 1 1) * ((c 0)) + (c 1) * ((U 0 1))) + (c 2) * (- (U 1 1) * ((U 0 2)) + (U 1 2) * ((U 0 1)))) + (U 4 1) * ((U 2 0) * (- (U 1 2) * ((c 0)) + (c 1) * ((U 0 2))) - (U 2 2) * (- (U 1 0) * ((c 0)) + (c 1) * ((U 0 0))) + (c 2) * (- (U 1 0) * ((U 0 2)) + (U 1 2) * ((U 0 0)))) - (U 4 2) * ((U 2 0) * (- (U 1 1) * ((c 0)) + (c 1) * ((U 0 1))) - (U 2 1) * (- (U 1 0) * ((c 0)) + (c 1) * ((U 0 0))) + (c 2) * (- (U 1 0) * ((U 0 1)) + (U 1 1) * ((U 0 0)))) + (c 4) * ((U 2 0) * (- (U 1 1) * ((U 0 2)) + (U 1 2) * ((U 0 1))) - (U 2 1) * (- (U 1 0) * ((U 0 2)) + (U 1 2) * ((U 0 0))) + (U 2 2) * (- (U 1 0) * ((U 0 1)) + (U 1 1) * ((U 0 0))))
  | 4, 0 => - (c 3) * ((U 2 1) * (- (U 1 2) * ((U 0 3)) + (U 1 3) * ((U 0 2))) - (U 2 2) * (- (U 1 1) * ((U 0 3)) + (U 1 3) * ((U 0 1))) + (U 2 3) * (- (U 1 1) * ((U 0 2)) + (U 1 2) * ((U 0 1)))) + (U 3 1) * ((c 2) * (- (U 1 2) * ((U 0 3)) + (U 1 3) * ((U 0 2))) - (U 2 2) * (- (c 1) * ((U 0 3)) + (U 1 3) * ((c 0))) + (U 2 3) * (- (c 1) * ((U 0 2)) + (U 1 2) * ((c 0)))) - (U 3 2) * ((c 2) * (- (U 1 1) * ((U 0 3)) + (U 1 3) * ((U 0 1))) - (U 2 1) * (- (c 1) * ((U 0 3)) + (U 1 3) * ((c 0))) + (U 2 3) * (- (c 1) * ((U 0 1)) + (U 1 1) * ((c 0)))) + (U 3 3) * ((c 2) * (- (U 1 1) * ((U 0 2)) + (U 1 2) * ((U 0 1))) - (U 2 1) * (- (c 1) * ((U 0 2)) + (U 1 2) * ((c 0))) + (U 2 2) * (- (c 1) * ((U 0 1)) + (U 1 1) * ((c 0))))
  | 4, 1 => - (U 3 0) * ((c 2) * (- (U 1 2) * ((U 0 3)) + (U 1 3) * ((U 0 2))) - (U 2 2) * (- (c 1) * ((U 0 3)) + (U 1 3) * ((c 0))) + (U 2 3) * (- (c 1) * ((U 0 2)) + (U 1 2) * ((c 0)))) + (c 3) * ((U 2 0) * (- (U 1 2) * ((U 0 3)) + (U 1 3) * ((U 0 2))) - (U 2 2) * (- (U 1 0) * ((U 0 3)) + (U 1 3) * ((U 0 0))) + (U 2 3) * (- (U 1 0) * ((U 0 2)) + (U 1 2) * ((U 0 0)))) - (U 3 2) * ((U 2 0) * (- (c 1) * ((U 0 3)) + (U 1 3) * ((c 0))) - (c 2) * (- (U 1 0) * ((U 0 3)) + (U 1 3) * ((U 0 0))) + (U 2 3) * (- (U 1 0) * ((c 0)) + (c 1) * ((U 0 0)))) + (U 3 3) * ((U 2 0) * (- (c 1) * ((U 0 2)) + (U 1 2) * ((c 0))) - (c 2) * (- (U 1 0) * ((U 0 2)) + (U 1 2) * ((U 0 0))) + (U 2 2) * (- (U 1 0) * ((c 0)) + (c 1) * ((U 0 0))))
  | 4, 2 => - (U 3 0) * ((U 2 1) * (- (c 1) * ((U 0 3)) + (U 1 3) * ((c 0))) - (c 2) * (- (U 1 1) * ((U 0 3)) + (U 1 3) * ((U 0 1))) + (U 2 3) * (- (U 1 1) * ((c 0)) + (c 1) * ((U 0 1)))) + (U 3 1) * ((U 2 0) * (- (c 1) * ((U 0 3)) + (U 1 3) * ((c 0))) - (c 2) * (- (U 1 0) * ((U 0 3)) + (U 1 3) * ((U 0 0))) + (U 2 3) * (- (U 1 0) * ((c 0)) + (c 1) * ((U 0 0)))) - (c 3) * ((U 2 0) * (- (U 1 1) * ((U 0 3)) + (U 1 3) * ((U 0 1))) - (U 2 1) * (- (U 1 0) * ((U 0 3)) + (U 1 3) * ((U 0 0))) + (U 2 3) * (- (U 1 0) * ((U 0 1)) + (U 1 1) * ((U 0 0)))) + (U 3 3) * ((U 2 0) * (- (U 1 1) * ((c 0)) + (c 1) * ((U 0 1))) - (U 2 1) * (- (U 1 0) * ((c 0)) + (c 1) * ((U 0 0))) + (c 2) * (- (U 1 0) * ((U 0 1)) + (U 1 1) * ((U 0 0))))
  | 4, 3 => - (U 3 0) * ((U 2 1) * (- (U 1 2) * ((c 0)) + (c 1) * ((U 0 2))) - (U 2 2) * (- (U 1 1) * ((c 0)) + (c 1) * ((U 0 1))) + (c 2) * (- (U 1 1) * ((U 0 2)) + (U 1 2) * ((U 0 1)))) + (U 3 1) * ((U 2 0) * (- (U 1 2) * ((c 0)) + (c 1) * ((U 0 2))) - (U 2 2) * (- (U 1 0) * ((c 0)) + (c 1) * ((U 0 0))) + (c 2) * (- (U 1 0) * ((U 0 2)) + (U 1 2) * ((U 0 0)))) - (U 3 2) * ((U 2 0) * (- (U 1 1) * ((c 0)) + (c 1) * ((U 0 1))) - (U 2 1) * (- (U 1 0) * ((c 0)) + (c 1) * ((U 0 0))) + (c 2) * (- (U 1 0) * ((U 0 1)) + (U 1 1) * ((U 0 0)))) + (c 3) * ((U 2 0) * (- (U 1 1) * ((U 0 2)) + (U 1 2) * ((U 0 1))) - (U 2 1) * (- (U 1 0) * ((U 0 2)) + (U 1 2) * ((U 0 0))) + (U 2 2) * (- (U 1 0) * ((U 0 1)) + (U 1 1) * ((U 0 0))))
  | 4, 4 => (U 4 0) * (- (U 3 1) * ((U 2 2) * (- (U 1 3) * ((c 0)) + (c 1) * ((U 0 3))) - (U 2 3) * (- (U 1 2) * ((c 0)) + (c 1) * ((U 0 2))) + (c 2) * (- (U 1 2) * ((U 0 3)) + (U 1 3) * ((U 0 2)))) + (U 3 2) * ((U 2 1) * (- (U 1 3) * ((c 0)) + (c 1) * ((U 0 3))) - (U 2 3) * (- (U 1 1) * ((c 0)) + (c 1) * ((U 0 1))) + (c 2) * (- (U 1 1) * ((U 0 3)) + (U 1 3) * ((U 0 1)))) - (U 3 3) * ((U 2 1) * (- (U 1 2) * ((c 0)) + (c 1) * ((U 0 2))) - (U 2 2) * (- (U 1 1) * ((c 0)) + (c 1) * ((U 0 1))) + (c 2) * (- (U 1 1) * ((U 0 2)) + (U 1 2) * ((U 0 1)))) + (c 3) * ((U 2 1) * (- (U 1 2) * ((U 0 3)) + (U 1 3) * ((U 0 2))) - (U 2 2) * (- (U 1 1) * ((U 0 3)) + (U 1 3) * ((U 0 1))) + (U 2 3) * (- (U 1 1) * ((U 0 2)) + (U 1 2) * ((U 0 1))))) - (U 4 1) * (- (U 3 0) * ((U 2 2) * (- (U 1 3) * ((c 0)) + (c 1) * ((U 0 3))) - (U 2 3) * (- (U 1 2) * ((c 0)) + (c 1) * ((U 0 2))) + (c 2) * (- (U 1 2) * ((U 0 3)) + (U 1 3) * ((U 0 2)))) + (U 3 2) * ((U 2 0) * (- (U 1 3) * ((c 0)) + (c 1) * ((U 0 3))) - (U 2 3) * (- (U 1 0) * ((c 0)) + (c 1) * ((U 0 0))) + (c 2) * (- (U 1 0) * ((U 0 3)) + (U 1 3) * ((U 0 0)))) - (U 3 3) * ((U 2 0) * (- (U 1 2) * ((c 0)) + (c 1) * ((U 0 2))) - (U 2 2) * (- (U 1 0) * ((c 0)) + (c 1) * ((U 0 0))) + (c 2) * (- (U 1 0) * ((U 0 2)) + (U 1 2) * ((U 0 0)))) + (c 3) * ((U 2 0) * (- (U 1 2) * ((U 0 3)) + (U 1 3) * ((U 0 2))) - (U 2 2) * (- (U 1 0) * ((U 0 3)) + (U 1 3) * ((U 0 0))) + (U 2 3) * (- (U 1 0) * ((U 0 2)) + (U 1 2) * ((U 0 0))))) + (U 4 2) * (- (U 3 0) * ((U 2 1) * (- (U 1 3) * ((c 0)) + (c 1) * ((U 0 3))) - (U 2 3) * (- (U 1 1) * ((c 0)) + (c 1) * ((U 0 1))) + (c 2) * (- (U 1 1) * ((U 0 3)) + (U 1 3) * ((U 0 1)))) + (U 3 1) * ((U 2 0) * (- (U 1 3) * ((c 0)) + (c 1) * ((U 0 3))) - (U 2 3) * (- (U 1 0) * ((c 0)) + (c 1) * ((U 0 0))) + (c 2) * (- (U 1 0) * ((U 0 3)) + (U 1 3) * ((U 0 0)))) - (U 3 3) * ((U 2 0) * (- (U 1 1) * ((c 0)) + (c 1) * ((U 0 1))) - (U 2 1) * (- (U 1 0) * ((c 0)) + (c 1) * ((U 0 0))) + (c 2) * (- (U 1 0) * ((U 0 1)) + (U 1 1) * ((U 0 0)))) + (c 3) * ((U 2 0) * (- (U 1 1) * ((U 0 3)) + (U 1 3) * ((U 0 1))) - (U 2 1) * (- (U 1 0) * ((U 0 3)) + (U 1 3) * ((U 0 0))) + (U 2 3) * (- (U 1 0) * ((U 0 1)) + (U 1 1) * ((U 0 0))))) - (U 4 3) * (- (U 3 0) * ((U 2 1) * (- (U 1 2) * ((c 0)) + (c 1) * ((U 0 2))) - (U 2 2) * (- (U 1 1) * ((c 0)) + (c 1) * ((U 0 1))) + (c 2) * (- (U 1 1) * ((U 0 2)) + (U 1 2) * ((U 0 1)))) + (U 3 1) * ((U 2 0) * (- (U 1 2) * ((c 0)) + (c 1) * ((U 0 2))) - (U 2 2) * (- (U 1 0) * ((c 0)) + (c 1) * ((U 0 0))) + (c 2) * (- (U 1 0) * ((U 0 2)) + (U 1 2) * ((U 0 0)))) - (U 3 2) * ((U 2 0) * (- (U 1 1) * ((c 0)) + (c 1) * ((U 0 1))) - (U 2 1) * (- (U 1 0) * ((c 0)) + (c 1) * ((U 0 0))) + (c 2) * (- (U 1 0) * ((U 0 1)) + (U 1 1) * ((U 0 0)))) + (c 3) * ((U 2 0) * (- (U 1 1) * ((U 0 2)) + (U 1 2) * ((U 0 1))) - (U 2 1) * (- (U 1 0) * ((U 0 2)) + (U 1 2) * ((U 0 0))) + (U 2 2) * (- (U 1 0) * ((U 0 1)) + (U 1 1) * ((U 0 0))))) + (c 4) * (- (U 3 0) * ((U 2 1) * (- (U 1 2) * ((U 0 3)) + (U 1 3) * ((U 0 2))) - (U 2 2) * (- (U 1 1) * ((U 0 3)) + (U 1 3) * ((U 0 1))) + (U 2 3) * (- (U 1 1) * ((U 0 2)) + (U 1 2) * ((U 0 1)))) + (U 3 1) * ((U 2 0) * (- (U 1 2) * ((U 0 3)) + (U 1 3) * ((U 0 2))) - (U 2 2) * (- (U 1 0) * ((U 0 3)) + (U 1 3) * ((U 0 0))) + (U 2 3) * (- (U 1 0) * ((U 0 2)) + (U 1 2) * ((U 0 0)))) - (U 3 2) * ((U 2 0) * (- (U 1 1) * ((U 0 3)) + (U 1 3) * ((U 0 1))) - (U 2 1) * (- (U 1 0) * ((U 0 3)) + (U 1 3) * ((U 0 0))) + (U 2 3) * (- (U 1 0) * ((U 0 1)) + (U 1 1) * ((U 0 0)))) + (U 3 3) * ((U 2 0) * (- (U 1 1) * ((U 0 2)) + (U 1 2) * ((U 0 1))) - (U 2 1) * (- (U 1 0) * ((U 0 2)) + (U 1 2) * ((U 0 0))) + (U 2 2) * (- (U 1 0) * ((U 0 1)) + (U 1 1) * ((U 0 0)))))
  | _, _ => 0
def Dx (U : Nat → Nat → Int) : Nat → Int
  | 0 => 1
  | 1 => (U 0 0)
  | 2 => - (U 1 0) * ((U 0 1)) + (U 1 1) * ((U 0 0))
  | 3 => (U 2 0) * (- (U 1 1) * ((U 0 2)) + (U 1 2) * ((U 0 1))) - (U 2 1) * (- (U 1 0) * ((U 0 2)) + (U 1 2) * ((U 0 0))) + (U 2 2) * (- (U 1 0) * ((U 0 1)) + (U 1 1) * ((U 0 0)))
  | 4 => - (U 3 0) * ((U 2 1) * (- (U 1 2) * ((U 0 3)) + (U 1 3) * ((U 0 2))) - (U 2 2) * (- (U 1 1) * ((U 0 3)) + (U 1 3) * ((U 0 1))) + (U 2 3) * (- (U 1 1) * ((U 0 2)) + (U 1 2) * ((U 0 1)))) + (U 3 1) * ((U 2 0) * (- (U 1 2) * ((U 0 3)) + (U 1 3) * ((U 0 2))) - (U 2 2) * (- (U 1 0) * ((U 0 3)) + (U 1 3) * ((U 0 0))) + (U 2 3) * (- (U 1 0) * ((U 0 2)) + (U 1 2) * ((U 0 0)))) - (U 3 2) * ((U 2 0) * (- (U 1 1) * ((U 0 3)) + (U 1 3) * ((U 0 1))) - (U 2 1) * (- (U 1 0) * ((U 0 3)) + (U 1 3) * ((U 0 0))) + (U 2 3) * (- (U 1 0) * ((U 0 1)) + (U 1 1) * ((U 0 0)))) + (U 3 3) * ((U 2 0) * (- (U 1 1) * ((U 0 2)) + (U 1 2) * ((U 0 1))) - (U 2 1) * (- (U 1 0) * ((U 0 2)) + (U 1 2) * ((U 0 0))) + (U 2 2) * (- (U 1 0) * ((U 0 1)) + (U 1 1) * ((U 0 0))))
  | _ => 0
theorem Ex_step (U : Nat → Nat → Int) (c : Nat → Int) : ∀ k i, k < 4 → i < 5 → i ≠ k → Ex U (fun t => U t k) k k * Ex U c k i - Ex U (fun t => U t k) k i * Ex U c k k = Dx U k * Ex U c (k + 1) i
  | 0, 0, _, _, h => absurd rfl h
  | 0, 1, _, _, _ => bar_0_1 (U 0 0) (U 0 1) (U 0 2) (U 0 3) (U 0 4) (U 1 0) (U 1 1) (U 1 2) (U 1 3) (U 1 4) (U 2 0) (U 2 1) (U 2 2) (U 2 3) (U 2 4) (U 3 0) (U 3 1) (U 3 2) (U 3 3) (U 3 4) (U 4 0) (U 4 1) (U 4 2) (U 4 3) (U 4 4) (c 0) (c 1) (c 2) (c 3) (c 4)
  | 0, 2, _, _, _ => bar_0_2 (U 0 0) (U 0 1) (U 0 2) (U 0 3) (U 0 4) (U 1 0) (U 1 1) (U 1 2) (U 1 3) (U 1 4) (U 2 0) (U 2 1) (U 2 2) (U 2 3) (U 2 4) (U 3 0) (U 3 1) (U 3 2) (U 3 3) (U 3 4) (U 4 0) (U 4 1) (U 4 2) (U 4 3) (U 4 4) (c 0) (c 1) (c 2) (c 3) (c 4)
  | 0, 3, _, _, _ => bar_0_3 (U 0 0) (U 0 1) (U 0 2) (U 0 3) (U 0 4) (U 1 0) (U 1 1) (U 1 2) (U 1 3) (U 1 4) (U 2 0) (U 2 1) (U 2 2) (U 2 3) (U 2 4) (U 3 0) (U 3 1) (U 3 2) (U 3 3) (U 3 4) (U 4 0) (U 4 1) (U 4 2) (U 4 3) (U 4 4) (c 0) (c 1) (c 2) (c 3) (c 4)
  | 0, 4, _, _, _ => bar_0_4 (U 0 0) (U 0 1) (U 0 2) (U 0 3) (U 0 4) (U 1 0) (U 1 1) (U 1 2) (U 1 3) (U 1 4) (U 2 0) (U 2 1) (U 2 2) (U 2 3) (U 2 4) (U 3 0) (U 3 1) (U 3 2) (U 3 3) (U 3 4) (U 4 0) (U 4 1) (U 4 2) (U 4 3) (U 4 4) (c 0) (c 1) (c 2) (c 3) (c 4)
  | 1, 0, _, _, _ => bar_1_0 (U 0 0) (U 0 1) (U 0 2) (U 0 3) (U 0 4) (U 1 0) (U 1 1) (U 1 2) (U 1 3) (U 1 4) (U 2 0) (U 2 1) (U 2 2) (U 2 3) (U 2 4) (U 3 0) (U 3 1) (U 3 2) (U 3 3) (U 3 4) (U 4 0) (U 4 1) (U 4 2) (U 4 3) (U 4 4) (c 0) (c 1) (c 2) (c 3) (c 4)
  | 1, 1, _, _, h => absurd rfl h
  | 1, 2, _, _, _ => bar_1_2 (U 0 0) (U 0 1) (U 0 2) (U 0 3) (U 0 4) (U 1 0) (U 1 1) (U 1 2) (U 1 3) (U 1 4) (U 2 0) (U 2 1) (U 2 2) (U 2 3) (U 2 4) (U 3 0) (U 3 1) (U 3 2) (U 3 3) (U 3 4) (U 4 0) (U 4 1) (U 4 2) (U 4 3) (U 4 4) (c 0) (c 1) (c 2) (c 3) (c 4)
  | 1, 3, _, _, _ => bar_1_3 (U 0 0) (U 0 1) (U 0 2) (U 0 3) (U 0 4) (U 1 0) (U 1 1) (U 1 2) (U 1 3) (U 1 4) (U 2 0) (U 2 1) (U 2 2) (U 2 3) (U 2 4) (U 3 0) (U 3 1) (U 3 2) (U 3 3) (U 3 4) (U 4 0) (U 4 1) (U 4 2) (U 4 3) (U 4 4) (c 0) (c 1) (c 2) (c 3) (c 4)
  | 1, 4, _, _, _ => bar_1_4 (U 0 0) (U 0 1) (U 0 2) (U 0 3) (U 0 4) (U 1 0) (U 1 1) (U 1 2) (U 1 3) (U 1 4) (U 2 0) (U 2 1) (U 2 2) (U 2 3) (U 2 4) (U 3 0) (U 3 1) (U 3 2) (U 3 3) (U 3 4) (U 4 0) (U 4 1) (U 4 2) (U 4 3) (U 4 4) (c 0) (c 1) (c 2) (c 3) (c 4)
  | 2, 0, _, _, _ => bar_2_0 (U 0 0) (U 0 1) (U 0 2) (U 0 3) (U 0 4) (U 1 0) (U 1 1) (U 1 2) (U 1 3) (U 1 4) (U 2 0) (U 2 1) (U 2 2) (U 2 3) (U 2 4) (U 3 0) (U 3 1) (U 3 2) (U 3 3) (U 3 4) (U 4 0) (U 4 1) (U 4 2) (U 4 3) (U 4 4) (c 0) (c 1) (c 2) (c 3) (c 4)
  | 2, 1, _, _, _ => bar_2_1 (U 0 0) (U 0 1) (U 0 2) (U 0 3) (U 0 4) (U 1 0) (U 1 1) (U 1 2) (U 1 3) (U 1 4) (U 2 0) (U 2 1) (U 2 2) (U 2 3) (U 2 4) (U 3 0) (U 3 1) (U 3 2) (U 3 3) (U 3 4) (U 4 0) (U 4 1) (U 4 2) (U 4 3) (U 4 4) (c 0) (c 1) (c 2) (c 3) (c 4)
  | 2, 2, _, _, h => absurd rfl h
  | 2, 3, _, _, _ => bar_2_3 (U 0 0) (U 0 1) (U 0 2) (U 0 3) (U 0 4) (U 1 0) (U 1 1) (U 1 2) (U 1 3) (U 1 4) (U 2 0) (U 2 1) (U 2 2) (U 2 3) (U 2 4) (U 3 0) (U 3 1) (U 3 2) (U 3 3) (U 3 4) (U 4 0) (U 4 1) (U 4 2) (U 4 3) (U 4 4) (c 0) (c 1) (c 2) (c 3) (c 4)
  | 2, 4, _, _, _ => bar_2_4 (U 0 0) (U 0 1) (U 0 2) (U 0 3) (U 0 4) (U 1 0) (U 1 1) (U 1 2) (U 1 3) (U 1 4) (U 2 0) (U 2 1) (U 2 2) (U 2 3) (U 2 4) (U 3 0) (U 3 1) (U 3 2) (U 3 3) (U 3 4) (U 4 0) (U 4 1) (U 4 2) (U 4 3) (U 4 4) (c 0) (c 1) (c 2) (c 3) (c 4)
  | 3, 0, _, _, _ => bar_3_0 (U 0 0) (U 0 1) (U 0 2) (U 0 3) (U 0 4) (U 1 0) (U 1 1) (U 1 2) (U 1 3) (U 1 4) (U 2 0) (U 2 1) (U 2 2) (U 2 3) (U 2 4) (U 3 0) (U 3 1) (U 3 2) (U 3 3) (U 3 4) (U 4 0) (U 4 1) (U 4 2) (U 4 3) (U 4 4) (c 0) (c 1) (c 2) (c 3) (c 4)
  | 3, 1, _, _, _ => bar_3_1 (U 0 0) (U 0 1) (U 0 2) (U 0 3) (U 0 4) (U 1 0) (U 1 1) (U 1 2) (U 1 3) (U 1 4) (U 2 0) (U 2 1) (U 2 2) (U 2 3) (U 2 4) (U 3 0) (U 3 1) (U 3 2) (U 3 3) (U 3 4) (U 4 0) (U 4 1) (U 4 2) (U 4 3) (U 4 4) (c 0) (c 1) (c 2) (c 3) (c 4)
  | 3, 2, _, _, _ => bar_3_2 (U 0 0) (U 0 1) (U 0 2) (U 0 3) (U 0 4) (U 1 0) (U 1 1) (U 1 2) (U 1 3) (U 1 4) (U 2 0) (U 2 1) (U 2 2) (U 2 3) (U 2 4) (U 3 0) (U 3 1) (U 3 2) (U 3 3) (U 3 4) (U 4 0) (U 4 1) (U 4 2) (U 4 3) (U 4 4) (c 0) (c 1) (c 2) (c 3) (c 4)
  | 3, 3, _, _, h => absurd rfl h
  | 3, 4, _, _, _ => bar_3_4 (U 0 0) (U 0 1) (U 0 2) (U 0 3) (U 0 4) (U 1 0) (U 1 1) (U 1 2) (U 1 3) (U 1 4) (U 2 0) (U 2 1) (U 2 2) (U 2 3) (U 2 4) (U 3 0) (U 3 1) (U 3 2) (U 3 3) (U 3 4) (U 4 0) (U 4 1) (U 4 2) (U 4 3) (U 4 4) (c 0) (c 1) (c 2) (c 3) (c 4)
  | k + 4, _, h, _, _ => absurd h (by omega)
  | 0, i + 5, _, h, _ => absurd h (by omega)
  | 1, i + 5, _, h, _ => absurd h (by omega)
  | 2, i + 5, _, h, _ => absurd h (by omega)
  | 3, i + 5, _, h, _ => absurd h (by omega)
theorem Ex_own (U : Nat → Nat → Int) (c : Nat → Int) : ∀ k, k < 4 → Ex U c (k + 1) k = Ex U c k k
  | 0, _ => rfl
  | 1, _ => rfl
  | 2, _ => rfl
  | 3, _ => rfl
  | k + 4, h => absurd h (by omega)
theorem Dx_next (U : Nat → Nat → Int) : ∀ k, k < 4 → Dx U (k + 1) = Ex U (fun t => U t k) k k
  | 0, _ => rfl
  | 1, _ => rfl
  | 2, _ => rfl
  | 3, _ => rfl
  | k + 4, h => absurd h (by omega)
def Ad (U : Nat → Nat → Int) : Nat → Nat → Int
  | 0, 0 => (- (U 4 1) * ((U 3 2) * (- (U 2 3) * ((U 1 4)) + (U 2 4) * ((U 1 3))) - (U 3 3) * (- (U 2 2) * ((U 1 4)) + (U 2 4) * ((U 1 2))) + (U 3 4) * (- (U 2 2) * ((U 1 3)) + (U 2 3) * ((U 1 2)))) + (U 4 2) * ((U 3 1) * (- (U 2 3) * ((U 1 4)) + (U 2 4) * ((U 1 3))) - (U 3 3) * (- (U 2 1) * ((U 1 4)) + (U 2 4) * ((U 1 1))) + (U 3 4) * (- (U 2 1) * ((U 1 3)) + (U 2 3) * ((U 1 1)))) - (U 4 3) * ((U 3 1) * (- (U 2 2) * ((U 1 4)) + (U 2 4) * ((U 1 2))) - (U 3 2) * (- (U 2 1) * ((U 1 4)) + (U 2 4) * ((U 1 1))) + (U 3 4) * (- (U 2 1) * ((U 1 2)) + (U 2 2) * ((U 1 1)))) + (U 4 4) * ((U 3 1) * (- (U 2 2) * ((U 1 3)) + (U 2 3) * ((U 1 2))) - (U 3 2) * (- (U 2 1) * ((U 1 3)) + (U 2 3) * ((U 1 1))) + (U 3 3) * (- (U 2 1) * ((U 1 2)) + (U 2 2) * ((U 1 1)))))
  | 0, 1 => -(- (U 4 1) * ((U 3 2) * (- (U 2 3) * ((U 0 4)) + (U 2 4) * ((U 0 3))) - (U 3 3) * (- (U 2 2) * ((U 0 4)) + (U 2 4) * ((U 0 2))) + (U 3 4) * (- (U 2 2) * ((U 0 3)) + (U 2 3) * ((U 0 2)))) + (U 4 2) * ((U 3 1) * (- (U 2 3) * ((U 0 4)) + (U 2 4) * ((U 0 3))) - (U 3 3) * (- (U 2 1) * ((U 0 4)) + (U 2 4) * ((U 0 1))) + (U 3 4) * (- (U 2 1) * ((U 0 3)) + (U 2 3) * ((U 0 1)))) - (U 4 3) * ((U 3 1) * (- (U 2 2) * ((U 0 4)) + (U 2 4) * ((U 0 2))) - (U 3 2) * (- (U 2 1) * ((U 0 4)) + (U 2 4) * ((U 0 1))) + (U 3 4) * (- (U 2 1) * ((U 0 2)) + (U 2 2) * ((U 0 1)))) + (U 4 4) * ((U 3 1) * (- (U 2 2) * ((U 0 3)) + (U 2 3) * ((U 0 2))) - (U 3 2) * (- (U 2 1) * ((U 0 3)) + (U 2 3) * ((U 0 1))) + (U 3 3) * (- (U 2 1) * ((U 0 2)) + (U 2 2) * ((U 0 1)))))
  | 0, 2 => (- (U 4 1) * ((U 3 2) * (- (U 1 3) * ((U 0 4)) + (U 1 4) * ((U 0 3))) - (U 3 3) * (- (U 1 2) * ((U 0 4)) + (U 1 4) * ((U 0 2))) + (U 3 4) * (- (U 1 2) * ((U 0 3)) + (U 1 3) * ((U 0 2)))) + (U 4 2) * ((U 3 1) * (- (U 1 3) * ((U 0 4)) + (U 1 4) * ((U 0 3))) - (U 3 3) * (- (U 1 1) * ((U 0 4)) + (U 1 4) * ((U 0 1))) + (U 3 4) * (- (U 1 1) * ((U 0 3)) + (U 1 3) * ((U 0 1)))) - (U 4 3) * ((U 3 1) * (- (U 1 2) * ((U 0 4)) + (U 1 4) * ((U 0 2))) - (U 3 2) * (- (U 1 1) * ((U 0 4)) + (U 1 4) * ((U 0 1))) + (U 3 4) * (- (U 1 1) * ((U 0 2)) + (U 1 2) * ((U 0 1)))) + (U 4 4) * ((U 3 1) * (- (U 1 2) * ((U 0 3)) + (U 1 3) * ((U 0 2))) - (U 3 2) * (- (U 1 1) * ((U 0 3)) + (U 1 3) * ((U 0 1))) + (U 3 3) * (- (U 1 1) * ((U 0 2)) + (U 1 2) * ((U 0 1)))))
  | 0, 3 => -(- (U 4 1) * ((U 2 2) * (- (U 1 3) * ((U 0 4)) + (U 1 4) * ((U 0 3))) - (U 2 3) * (- (U 1 2) * ((U 0 4)) + (U 1 4) * ((U 0 2))) + (U 2 4) * (- (U 1 2) * ((U 0 3)) + (U 1 3) * ((U 0 2)))) + (U 4 2) * ((U 2 1) * (- (U 1 3) * ((U 0 4)) + (U 1 4) * ((U 0 3))) - (U 2 3) * (- (U 1 1) * ((U 0 4)) + (U 1 4) * ((U 0 1))) + (U 2 4) * (- (U 1 1) * ((U 0 3)) + (U 1 3) * ((U 0 1)))) - (U 4 3) * ((U 2 1) * (- (U 1 2) * ((U 0 4)) + (U 1 4) * ((U 0 2))) - (U 2 2) * (- (U 1 1) * ((U 0 4)) + (U 1 4) * ((U 0 1))) + (U 2 4) * (- (U 1 1) * ((U 0 2)) + (U 1 2) * ((U 0 1)))) + (U 4 4) * ((U 2 1) * (- (U 1 2) * ((U 0 3)) + (U 1 3) * ((U 0 2))) - (U 2 2) * (- (U 1 1) * ((U 0 3)) + (U 1 3) * ((U 0 1))) + (U 2 3) * (- (U 1 1) * ((U 0 2)) + (U 1 2) * ((U 0 1)))))
  | 0, 4 => (- (U 3 1) * ((U 2 2) * (- (U 1 3) * ((U 0 4)) + (U 1 4) * ((U 0 3))) - (U 2 3) * (- (U 1 2) * ((U 0 4)) + (U 1 4) * ((U 0 2))) + (U 2 4) * (- (U 1 2) * ((U 0 3)) + (U 1 3) * ((U 0 2)))) + (U 3 2) * ((U 2 1) * (- (U 1 3) * ((U 0 4)) + (U 1 4) * ((U 0 3))) - (U 2 3) * (- (U 1 1) * ((U 0 4)) + (U 1 4) * ((U 0 1))) + (U 2 4) * (- (U 1 1) * ((U 0 3)) + (U 1 3) * ((U 0 1)))) - (U 3 3) * ((U 2 1) * (- (U 1 2) * ((U 0 4)) + (U 1 4) * ((U 0 2))) - (U 2 2) * (- (U 1 1) * ((U 0 4)) + (U 1 4) * ((U 0 1))) + (U 2 4) * (- (U 1 1) * ((U 0 2)) + (U 1 2) * ((U 0 1)))) + (U 3 4) * ((U 2 1) * (- (U 1 2) * ((U 0 3)) + (U 1 3) * ((U 0 2))) - (U 2 2) * (- (U 1 1) * ((U 0 3)) + (U 1 3) * ((U 0 1))) + (U 2 3) * (- (U 1 1) * ((U 0 2)) + (U 1 2) * ((U 0 1)))))
  | 1, 0 => -(- (U 4 0) * ((U 3 2) * (- (U 2 3) * ((U 1 4)) + (U 2 4) * ((U 1 3))) - (U 3 3) * (- (U 2 2) * ((U 1 4)) + (U 2 4) * ((U 1 2))) + (U 3 4) * (- (U 2 2) * ((U 1 3)) + (U 2 3) * ((U 1 2)))) + (U 4 2) * ((U 3 0) * (- (U 2 3) * ((U 1 4)) + (U 2 4) * ((U 1 3))) - (U 3 3) * (- (U 2 0) * ((U 1 4)) + (U 2 4) * ((U 1 0))) + (U 3 4) * (- (U 2 0) * ((U 1 3)) + (U 2 3) * ((U 1 0)))) - (U 4 3) * ((U 3 0) * (- (U 2 2) * ((U 1 4)) + (U 2 4) * ((U 1 2))) - (U 3 2) * (- (U 2 0) * ((U 1 4)) + (U 2 4) * ((U 1 0))) + (U 3 4) * (- (U 2 0) * ((U 1 2)) + (U 2 2) * ((U 1 0)))) + (U 4 4) * ((U 3 0) * (- (U 2 2) * ((U 1 3)) + (U 2 3) * ((U 1 2))) - (U 3 2) * (- (U 2 0) * ((U 1 3)) + (U 2 3) * ((U 1 0))) + (U 3 3) * (- (U 2 0) * ((U 1 2)) + (U 2 2) * ((U 1 0)))))
  | 1, 1 => (- (U 4 0) * ((U 3 2) * (- (U 2 3) * ((U 0 4)) + (U 2 4) * ((U 0 3))) - (U 3 3) * (- (U 2 2) * ((U 0 4)) + (U 2 4) * ((U 0 2))) + (U 3 4) * (- (U 2 2) * ((U 0 3)) + (U 2 3) * ((U 0 2)))) + (U 4 2) * ((U 3 0) * (- (U 2 3) * ((U 0 4)) + (U 2 4) * ((U 0 3))) - (U 3 3) * (- (U 2 0) * ((U 0 4)) + (U 2 4) * ((U 0 0))) + (U 3 4) * (- (U 2 0) * ((U 0 3)) + (U 2 3) * ((U 0 0)))) - (U 4 3) * ((U 3 0) * (- (U 2 2) * ((U 0 4)) + (U 2 4) * ((U 0 2))) - (U 3 2) * (- (U 2 0) * ((U 0 4)) + (U 2 4) * ((U 0 0))) + (U 3 4) * (- (U 2 0) * ((U 0 2)) + (U 2 2) * ((U 0 0)))) + (U 4 4) * ((U 3 0) * (- (U 2 2) * ((U 0 3)) + (U 2 3) * ((U 0 2))) - (U 3 2) * (- (U 2 0) * ((U 0 3)) + (U 2 3) * ((U 0 0))) + (U 3 3) * (- (U 2 0) * ((U 0 2)) + (U 2 2) * ((U 0 0)))))
  | 1, 2 => -(- (U 4 0) * ((U 3 2) * (- (U 1 3) * ((U 0 4)) + (U 1 4) * ((U 0 3))) - (U 3 3) * (- (U 1 2) * ((U 0 4)) + (U 1 4) * ((U 0 2))) + (U 3 4) * (- (U 1 2) * ((U 0 3)) + (U 1 3) * ((U 0 2)))) + (U 4 2) * ((U 3 0) * (- (U 1 3) * ((U 0 4)) + (U 1 4) * ((U 0 3))) - (U 3 3) * (- (U 1 0) * ((U 0 4)) + (U 1 4) * ((U 0 0))) + (U 3 4) * (- (U 1 0) * ((U 0 3)) + (U 1 3) * ((U 0 0)))) - (U 4 3) * ((U 3 0) * (- (U 1 2) * ((U 0 4)) + (U 1 4) * ((U 0 2))) - (U 3 2) * (- (U 1 0) * ((U 0 4)) + (U 1 4) * ((U 0 0))) + (U 3 4) * (- (U 1 0) * ((U 0 2)) + (U 1 2) * ((U 0 0)))) + (U 4 4) * ((U 3 0) * (- (U 1 2) * ((U 0 3)) + (U 1 3) * ((U 0 2))) - (U 3 2) * (- (U 1 0) * ((U 0 3)) + (U 1 3) * ((U 0 0))) + (U 3 3) * (- (U 1 0) * ((U 0 2)) + (U 1 2) * ((U 0 0)))))
  | 1, 3 => (- (U 4 0) * ((U 2 2) * (- (U 1 3) * ((U 0 4)) + (U 1 4) * ((U 0 3))) - (U 2 3) * (- (U 1 2) * ((U 0 4)) + (U 1 4) * ((U 0 2))) + (U 2 4) * (- (U 1 2) * ((U 0 3)) + (U 1 3) * ((U 0 2)))) + (U 4 2) * ((U 2 0) * (- (U 1 3) * ((U 0 4)) + (U 1 4) * ((U 0 3))) - (U 2 3) * (- (U 1 0) * ((U 0 4)) + (U 1 4) * ((U 0 0))) + (U 2 4) * (- (U 1 0) * ((U 0 3)) + (U 1 3) * ((U 0 0)))) - (U 4 3) * ((U 2 0) * (- (U 1 2) * ((U 0 4)) + (U 1 4) * ((U 0 2))) - (U 2 2) * (- (U 1 0) * ((U 0 4)) + (U 1 4) * ((U 0 0))) + (U 2 4) * (- (U 1 0) * ((U 0 2)) + (U 1 2) * ((U 0 0)))) + (U 4 4) * ((U 2 0) * (- (U 1 2) * ((U 0 3)) + (U 1 3) * ((U 0 2))) - (U 2 2) * (- (U 1 0) * ((U 0 3)) + (U 1 3) * ((U 0 0))) + (U 2 3) * (- (U 1 0) * ((U 0 2)) + (U 1 2) * ((U 0 0)))))
  | 1, 4 => -(- (U 3 0) * ((U 2 2) * (- (U 1 3) * ((U 0 4)) + (U 1 4) * ((U 0 3))) - (U 2 3) * (- (U 1 2) * ((U 0 4)) + (U 1 4) * ((U 0 2))) + (U 2 4) * (- (U 1 2) * ((U 0 3)) + (U 1 3) * ((U 0 2)))) + (U 3 2) * ((U 2 0) * (- (U 1 3) * ((U 0 4)) + (U 1 4) * ((U 0 3))) - (U 2 3) * (- (U 1 0) * ((U 0 4)) + (U 1 4) * ((U 0 0))) + (U 2 4) * (- (U 1 0) * ((U 0 3)) + (U 1 3) * ((U 0 0)))) - (U 3 3) * ((U 2 0) * (- (U 1 2) * ((U 0 4)) + (U 1 4) * ((U 0 2))) - (U 2 2) * (- (U 1 0) * ((U 0 4)) + (U 1 4) * ((U 0 0))) + (U 2 4) * (- (U 1 0) * ((U 0 2)) + (U 1 2) * ((U 0 0)))) + (U 3 4) * ((U 2 0) * (- (U 1 2) * ((U 0 3)) + (U 1 3) * ((U 0 2))) - (U 2 2) * (- (U 1 0) * ((U 0 3)) + (U 1 3) * ((U 0 0))) + (U 2 3) * (- (U 1 0) * ((U 0 2)) + (U 1 2) * ((U 0 0)))))
  | 2, 0 => (- (U 4 0) * ((U 3 1) * (- (U 2 3) * ((U 1 4)) + (U 2 4) * ((U 1 3))) - (U 3 3) * (- (U 2 1) * ((U 1 4)) + (U 2 4) * ((U 1 1))) + (U 3 4) * (- (U 2 1) * ((U 1 3)) + (U 2 3) * ((U 1 1)))) + (U 4 1) * ((U 3 0) * (- (U 2 3) * ((U 1 4)) + (U 2 4) * ((U 1 3))) - (U 3 3) * (- (U 2 0) * ((U 1 4)) + (U 2 4) * ((U 1 0))) + (U 3 4) * (- (U 2 0) * ((U 1 3)) + (U 2 3) * ((U 1 0)))) - (U 4 3) * ((U 3 0) * (- (U 2 1) * ((U 1 4)) + (U 2 4) * ((U 1 1))) - (U 3 1) * (- (U 2 0) * ((U 1 4)) + (U 2 4) * ((U 1 0))) + (U 3 4) * (- (U 2 0) * ((U 1 1)) + (U 2 1) * ((U 1 0)))) + (U 4 4) * ((U 3 0) * (- (U 2 1) * ((U 1 3)) + (U 2 3) * ((U 1 1))) - (U 3 1) * (- (U 2 0) * ((U 1 3)) + (U 2 3) * ((U 1 0))) + (U 3 3) * (- (U 2 0) * ((U 1 1)) + (U 2 1) * ((U 1 0)))))
  | 2, 1 => -(- (U 4 0) * ((U 3 1) * (- (U 2 3) * ((U 0 4)) + (U 2 4) * ((U 0 3))) - (U 3 3) * (- (U 2 1) * ((U 0 4)) + (U 2 4) * ((U 0 1))) + (U 3 4) * (- (U 2 1) * ((U 0 3)) + (U 2 3) * ((U 0 1)))) + (U 4 1) * ((U 3 0) * (- (U 2 3) * ((U 0 4)) + (U 2 4) * ((U 0 3))) - (U 3 3) * (- (U 2 0) * ((U 0 4)) + (U 2 4) * ((U 0 0))) + (U 3 4) * (- (U 2 0) * ((U 0 3)) + (U 2 3) * ((U 0 0)))) - (U 4 3) * ((U 3 0) * (- (U 2 1) * ((U 0 4)) + (U 2 4) * ((U 0 1))) - (U 3 1) * (- (U 2 0) * ((U 0 4)) + (U 2 4) * ((U 0 0))) + (U 3 4) * (- (U 2 0) * ((U 0 1)) + (U 2 1) * ((U 0 0)))) + (U 4 4) * ((U 3 0) * (- (U 2 1) * ((U 0 3)) + (U 2 3) * ((U 0 1))) - (U 3 1) * (- (U 2 0) * ((U 0 3)) + (U 2 3) * ((U 0 0))) + (U 3 3) * (- (U 2 0) * ((U 0 1)) + (U 2 1) * ((U 0 0)))))
  | 2, 2 => (- (U 4 0) * ((U 3 1) * (- (U 1 3) * ((U 0 4)) + (U 1 4) * ((U 0 3))) - (U 3 3) * (- (U 1 1) * ((U 0 4)) + (U 1 4) * ((U 0 1))) + (U 3 4) * (- (U 1 1) * ((U 0 3)) + (U 1 3) * ((U 0 1)))) + (U 4 1) * ((U 3 0) * (- (U 1 3) * ((U 0 4)) + (U 1 4) * ((U 0 3))) - (U 3 3) * (- (U 1 0) * ((U 0 4)) + (U 1 4) * ((U 0 0))) + (U 3 4) * (- (U 1 0) * ((U 0 3)) + (U 1 3) * ((U 0 0)))) - (U 4 3) * ((U 3 0) * (- (U 1 1) * ((U 0 4)) + (U 1 4) * ((U 0 1))) - (U 3 1) * (- (U 1 0) * ((U 0 4)) + (U 1 4) * ((U 0 0))) + (U 3 4) * (- (U 1 0) * ((U 0 1)) + (U 1 1) * ((U 0 0)))) + (U 4 4) * ((U 3 0) * (- (U 1 1) * ((U 0 3)) + (U 1 3) * ((U 0 1))) - (U 3 1) * (- (U 1 0) * ((U 0 3)) + (U 1 3) * ((U 0 0))) + (U 3 3) * (- (U 1 0) * ((U 0 1)) + (U 1 1) * ((U 0 0)))))
  | 2, 3 => -(- (U 4 0) * ((U 2 1) * (- (U 1 3) * ((U 0 4)) + (U 1 4) * ((U 0 3))) - (U 2 3) * (- (U 1 1) * ((U 0 4)) + (U 1 4) * ((U 0 1))) + (U 2 4) * (- (U 1 1) * ((U 0 3)) + (U 1 3) * ((U 0 1)))) + (U 4 1) * ((U 2 0) * (- (U 1 3) * ((U 0 4)) + (U 1 4) * ((U 0 3))) - (U 2 3) * (- (U 1 0) * ((U 0 4)) + (U 1 4) * ((U 0 0))) + (U 2 4) * (- (U 1 0) * ((U 0 3)) + (U 1 3) * ((U 0 0)))) - (U 4 3) * ((U 2 0) * (- (U 1 1) * ((U 0 4)) + (U 1 4) * ((U 0 1))) - (U 2 1) * (- (U 1 0) * ((U 0 4)) + (U 1 4) * ((U 0 0))) + (U 2 4) * (- (U 1 0) * ((U 0 1)) + (U 1 1) * ((U 0 0)))) + (U 4 4) * ((U 2 0) * (- (U 1 1) * ((U 0 3)) + (U 1 3) * ((U 0 1))) - (U 2 1) * (- (U 1 0) * ((U 0 3)) + (U 1 3) * ((U 0 0))) + (U 2 3) * (- (U 1 0) * ((U 0 1)) + (U 1 1) * ((U 0 0)))))
  | 2, 4 => (- (U 3 0) * ((U 2 1) * (- (U 1 3) * ((U 0 4)) + (U 1 4) * ((U 0 3))) - (U 2 3) * (- (U 1 1) * ((U 0 4)) + (U 1 4) * ((U 0 1))) + (U 2 4) * (- (U 1 1) * ((U 0 3)) + (U 1 3) * ((U 0 1)))) + (U 3 1) * ((U 2 0) * (- (U 1 3) * ((U 0 4)) + (U 1 4) * ((U 0 3))) - (U 2 3) * (- (U 1 0) * ((U 0 4)) + (U 1 4) * ((U 0 0))) + (U 2 4) * (- (U 1 0) * ((U 0 3)) + (U 1 3) * ((U 0 0)))) - (U 3 3) * ((U 2 0) * (- (U 1 1) * ((U 0 4)) + (U 1 4) * ((U 0 1))) - (U 2 1) * (- (U 1 0) * ((U 0 4)) + (U 1 4) * ((U 0 0))) + (U 2 4) * (- (U 1 0) * ((U 0 1)) + (U 1 1) * ((U 0 0)))) + (U 3 4) * ((U 2 0) * (- (U 1 1) * ((U 0 3)) + (U 1 3) * ((U 0 1))) - (U 2 1) * (- (U 1 0) * ((U 0 3)) + (U 1 3) * ((U 0 0))) + (U 2 3) * (- (U 1 0) * ((U 0 1)) + (U 1 1) * ((U 0 0)))))
  | 3, 0 => -(- (U 4 0) * ((U 3 1) * (- (U 2 2) * ((U 1 4)) + (U 2 4) * ((U 1 2))) - (U 3 2) * (- (U 2 1) * ((U 1 4)) + (U 2 4) * ((U 1 1))) + (U 3 4) * (- (U 2 1) * ((U 1 2)) + (U 2 2) * ((U 1 1)))) + (U 4 1) * ((U 3 0) * (- (U 2 2) * ((U 1 4)) + (U 2 4) * ((U 1 2))) - (U 3 2) * (- (U 2 0) * ((U 1 4)) + (U 2 4) * ((U 1 0))) + (U 3 4) * (- (U 2 0) * ((U 1 2)) + (U 2 2) * ((U 1 0)))) - (U 4 2) * ((U 3 0) * (- (U 2 1) * ((U 1 4)) + (U 2 4) * ((U 1 1))) - (U 3 1) * (- (U 2 0) * ((U 1 4)) + (U 2 4) * ((U 1 0))) + (U 3 4) * (- (U 2 0) * ((U 1 1)) + (U 2 1) * ((U 1 0)))) + (U 4 4) * ((U 3 0) * (- (U 2 1) * ((U 1 2)) + (U 2 2) * ((U 1 1))) - (U 3 1) * (- (U 2 0) * ((U 1 2)) + (U 2 2) * ((U 1 0))) + (U 3 2) * (- (U 2 0) * ((U 1 1)) + (U 2 1) * ((U 1 0)))))
  | 3, 1 => (- (U 4 0) * ((U 3 1) * (- (U 2 2) * ((U 0 4)) + (U 2 4) * ((U 0 2))) - (U 3 2) * (- (U 2 1) * ((U 0 4)) + (U 2 4) * ((U 0 1))) + (U 3 4) * (- (U 2 1) * ((U 0 2)) + (U 2 2) * ((U 0 1)))) + (U 4 1) * ((U 3 0) * (- (U 2 2) * ((U 0 4)) + (U 2 4) * ((U 0 2))) - (U 3 2) * (- (U 2 0) * ((U 0 4)) + (U 2 4) * ((U 0 0))) + (U 3 4) * (- (U 2 0) * ((U 0 2)) + (U 2 2) * ((U 0 0)))) - (U 4 2) * ((U 3 0) * (- (U 2 1) * ((U 0 4)) + (U 2 4) * ((U 0 1))) - (U 3 1) * (- (U 2 0) * ((U 0 4)) + (U 2 4) * ((U 0 0))) + (U 3 4) * (- (U 2 0) * ((U 0 1)) + (U 2 1) * ((U 0 0)))) + (U 4 4) * ((U 3 0) * (- (U 2 1) * ((U 0 2)) + (U 2 2) * ((U 0 1))) - (U 3 1) * (- (U 2 0) * ((U 0 2)) + (U 2 2) * ((U 0 0))) + (U 3 2) * (- (U 2 0) * ((U 0 1)) + (U 2 1) * ((U 0 0)))))
  | 3, 2 => -(- (U 4 0) * ((U 3 1) * (- (U 1 2) * ((U 0 4)) + (U 1 4) * ((U 0 2))) - (U 3 2) * (- (U 1 1) * ((U 0 4)) + (U 1 4) * ((U 0 1))) + (U 3 4) * (- (U 1 1) * ((U 0 2)) + (U 1 2) * ((U 0 1)))) + (U 4 1) * ((U 3 0) * (- (U 1 2) * ((U 0 4)) + (U 1 4) * ((U 0 2))) - (U 3 2) * (- (U 1 0) * ((U 0 4)) + (U 1 4) * ((U 0 0))) + (U 3 4) * (- (U 1 0) * ((U 0 2)) + (U 1 2) * ((U 0 0)))) - (U 4 2) * ((U 3 0) * (- (U 1 1) * ((U 0 4)) + (U 1 4) * ((U 0 1))) - (U 3 1) * (- (U 1 0) * ((U 0 4)) + (U 1 4) * ((U 0 0))) + (U 3 4) * (- (U 1 0) * ((U 0 1)) + (U 1 1) * ((U 0 0)))) + (U 4 4) * ((U 3 0) * (- (U 1 1) * ((U 0 2)) + (U 1 2) * ((U 0 1))) - (U 3 1) * (- (U 1 0) * ((U 0 2)) + (U 1 2) * ((U 0 0))) + (U 3 2) * (- (U 1 0) * ((U 0 1)) + (U 1 1) * ((U 0 0)))))
  | 3, 3 => (- (U 4 0) * ((U 2 1) * (- (U 1 2) * ((U 0 4)) + (U 1 4) * ((U 0 2))) - (U 2 2) * (- (U 1 1) * ((U 0 4)) + (U 1 4) * ((U 0 1))) + (U 2 4) * (- (U 1 1) * ((U 0 2)) + (U 1 2) * ((U 0 1)))) + (U 4 1) * ((U 2 0) * (- (U 1 2) * ((U 0 4)) + (U 1 4) * ((U 0 2))) - (U 2 2) * (- (U 1 0) * ((U 0 4)) + (U 1 4) * ((U 0 0))) + (U 2 4) * (- (U 1 0) * ((U 0 2)) + (U 1 2) * ((U 0 0)))) - (U 4 2) * ((U 2 0) * (- (U 1 1) * ((U 0 4)) + (U 1 4) * ((U 0 1))) - (U 2 1) * (- (U 1 0) * ((U 0 4)) + (U 1 4) * ((U 0 0))) + (U 2 4) * (- (U 1 0) * ((U 0 1)) + (U 1 1) * ((U 0 0)))) + (U 4 4) * ((U 2 0) * (- (U 1 1) * ((U 0 2)) + (U 1 2) * ((U 0 1))) - (U 2 1) * (- (U 1 0) * ((U 0 2)) + (U 1 2) * ((U 0 0))) + (U 2 2) * (- (U 1 0) * ((U 0 1)) + (U 1 1) * ((U 0 0)))))
  | 3, 4 => -(- (U 3 0) * ((U 2 1) * (- (U 1 2) * ((U 0 4)) + (U 1 4) * ((U 0 2))) - (U 2 2) * (- (U 1 1) * ((U 0 4)) + (U 1 4) * ((U 0 1))) + (U 2 4) * (- (U 1 1) * ((U 0 2)) + (U 1 2) * ((U 0 1)))) + (U 3 1) * ((U 2 0) * (- (U 1 2) * ((U 0 4)) + (U 1 4) * ((U 0 2))) - (U 2 2) * (- (U 1 0) * ((U 0 4)) + (U 1 4) * ((U 0 0))) + (U 2 4) * (- (U 1 0) * ((U 0 2)) + (U 1 2) * ((U 0 0)))) - (U 3 2) * ((U 2 0) * (- (U 1 1) * ((U 0 4)) + (U 1 4) * ((U 0 1))) - (U 2 1) * (- (U 1 0) * ((U 0 4)) + (U 1 4) * ((U 0 0))) + (U 2 4) * (- (U 1 0) * ((U 0 1)) + (U 1 1) * ((U 0 0)))) + (U 3 4) * ((U 2 0) * (- (U 1 1) * ((U 0 2)) + (U 1 2) * ((U 0 1))) - (U 2 1) * (- (U 1 0) * ((U 0 2)) + (U 1 2) * ((U 0 0))) + (U 2 2) * (- (U 1 0) * ((U 0 1)) + (U 1 1) * ((U 0 0)))))
  | 4, 0 => (- (U 4 0) * ((U 3 1) * (- (U 2 2) * ((U 1 3)) + (U 2 3) * ((U 1 2))) - (U 3 2) * (- (U 2 1) * ((U 1 3)) + (U 2 3) * ((U 1 1))) + (U 3 3) * (- (U 2 1) * ((U 1 2)) + (U 2 2) * ((U 1 1)))) + (U 4 1) * ((U 3 0) * (- (U 2 2) * ((U 1 3)) + (U 2 3) * ((U 1 2))) - (U 3 2) * (- (U 2 0) * ((U 1 3)) + (U 2 3) * ((U 1 0))) + (U 3 3) * (- (U 2 0) * ((U 1 2)) + (U 2 2) * ((U 1 0)))) - (U 4 2) * ((U 3 0) * (- (U 2 1) * ((U 1 3)) + (U 2 3) * ((U 1 1))) - (U 3 1) * (- (U 2 0) * ((U 1 3)) + (U 2 3) * ((U 1 0))) + (U 3 3) * (- (U 2 0) * ((U 1 1)) + (U 2 1) * ((U 1 0)))) + (U 4 3) * ((U 3 0) * (- (U 2 1) * ((U 1 2)) + (U 2 2) * ((U 1 1))) - (U 3 1) * (- (U 2 0) * ((U 1 2)) + (U 2 2) * ((U 1 0))) + (U 3 2) * (- (U 2 0) * ((U 1 1)) + (U 2 1) * ((U 1 0)))))
  | 4, 1 => -(- (U 4 0) * ((U 3 1) * (- (U 2 2) * ((U 0 3)) + (U 2 3) * ((U 0 2))) - (U 3 2) * (- (U 2 1) * ((U 0 3)) + (U 2 3) * ((U 0 1))) + (U 3 3) * (- (U 2 1) * ((U 0 2)) + (U 2 2) * ((U 0 1)))) + (U 4 1) * ((U 3 0) * (- (U 2 2) * ((U 0 3)) + (U 2 3) * ((U 0 2))) - (U 3 2) * (- (U 2 0) * ((U 0 3)) + (U 2 3) * ((U 0 0))) + (U 3 3) * (- (U 2 0) * ((U 0 2)) + (U 2 2) * ((U 0 0)))) - (U 4 2) * ((U 3 0) * (- (U 2 1) * ((U 0 3)) + (U 2 3) * ((U 0 1))) - (U 3 1) * (- (U 2 0) * ((U 0 3)) + (U 2 3) * ((U 0 0))) + (U 3 3) * (- (U 2 0) * ((U 0 1)) + (U 2 1) * ((U 0 0)))) + (U 4 3) * ((U 3 0) * (- (U 2 1) * ((U 0 2)) + (U 2 2) * ((U 0 1))) - (U 3 1) * (- (U 2 0) * ((U 0 2)) + (U 2 2) * ((U 0 0))) + (U 3 2) * (- (U 2 0) * ((U 0 1)) + (U 2 1) * ((U 0 0)))))
  | 4, 2 => (- (U 4 0) * ((U 3 1) * (- (U 1 2) * ((U 0 3)) + (U 1 3) * ((U 0 2))) - (U 3 2) * (- (U 1 1) * ((U 0 3)) + (U 1 3) * ((U 0 1))) + (U 3 3) * (- (U 1 1) * ((U 0 2)) + (U 1 2) * ((U 0 1)))) + (U 4 1) * ((U 3 0) * (- (U 1 2) * ((U 0 3)) + (U 1 3) * ((U 0 2))) - (U 3 2) * (- (U 1 0) * ((U 0 3)) + (U 1 3) * ((U 0 0))) + (U 3 3) * (- (U 1 0) * ((U 0 2)) + (U 1 2) * ((U 0 0)))) - (U 4 2) * ((U 3 0) * (- (U 1 1) * ((U 0 3)) + (U 1 3) * ((U 0 1))) - (U 3 1) * (- (U 1 0) * ((U 0 3)) + (U 1 3) * ((U 0 0))) + (U 3 3) * (- (U 1 0) * ((U 0 1)) + (U 1 1) * ((U 0 0)))) + (U 4 3) * ((U 3 0) * (- (U 1 1) * ((U 0 2)) + (U 1 2) * ((U 0 1))) - (U 3 1) * (- (U 1 0) * ((U 0 2)) + (U 1 2) * ((U 0 0))) + (U 3 2) * (- (U 1 0) * ((U 0 1)) + (U 1 1) * ((U 0 0)))))
  | 4, 3 => -(- (U 4 0) * ((U 2 1) * (- (U 1 2) * ((U 0 3)) + (U 1 3) * ((U 0 2))) - (U 2 2) * (- (U 1 1) * ((U 0 3)) + (U 1 3) * ((U 0 1))) + (U 2 3) * (- (U 1 1) * ((U 0 2)) + (U 1 2) * ((U 0 1)))) + (U 4 1) * ((U 2 0) * (- (U 1 2) * ((U 0 3)) + (U 1 3) * ((U 0 2))) - (U 2 2) * (- (U 1 0) * ((U 0 3)) + (U 1 3) * ((U 0 0))) + (U 2 3) * (- (U 1 0) * ((U 0 2)) + (U 1 2) * ((U 0 0)))) - (U 4 2) * ((U 2 0) * (- (U 1 1) * ((U 0 3)) + (U 1 3) * ((U 0 1))) - (U 2 1) * (- (U 1 0) * ((U 0 3)) + (U 1 3) * ((U 0 0))) + (U 2 3) * (- (U 1 0) * ((U 0 1)) + (U 1 1) * ((U 0 0)))) + (U 4 3) * ((U 2 0) * (- (U 1 1) * ((U 0 2)) + (U 1 2) * ((U 0 1))) - (U 2 1) * (- (U 1 0) * ((U 0 2)) + (U 1 2) * ((U 0 0))) + (U 2 2) * (- (U 1 0) * ((U 0 1)) + (U 1 1) * ((U 0 0)))))
  | 4, 4 => (- (U 3 0) * ((U 2 1) * (- (U 1 2) * ((U 0 3)) + (U 1 3) * ((U 0 2))) - (U 2 2) * (- (U 1 1) * ((U 0 3)) + (U 1 3) * ((U 0 1))) + (U 2 3) * (- (U 1 1) * ((U 0 2)) + (U 1 2) * ((U 0 1)))) + (U 3 1) * ((U 2 0) * (- (U 1 2) * ((U 0 3)) + (U 1 3) * ((U 0 2))) - (U 2 2) * (- (U 1 0) * ((U 0 3)) + (U 1 3) * ((U 0 0))) + (U 2 3) * (- (U 1 0) * ((U 0 2)) + (U 1 2) * ((U 0 0)))) - (U 3 2) * ((U 2 0) * (- (U 1 1) * ((U 0 3)) + (U 1 3) * ((U 0 1))) - (U 2 1) * (- (U 1 0) * ((U 0 3)) + (U 1 3) * ((U 0 0))) + (U 2 3) * (- (U 1 0) * ((U 0 1)) + (U 1 1) * ((U 0 0)))) + (U 3 3) * ((U 2 0) * (- (U 1 1) * ((U 0 2)) + (U 1 2) * ((U 0 1))) - (U 2 1) * (- (U 1 0) * ((U 0 2)) + (U 1 2) * ((U 0 0))) + (U 2 2) * (- (U 1 0) * ((U 0 1)) + (U 1 1) * ((U 0 0)))))
  | _, _ => 0
theorem adj_0_0 (u00 u01 u02 u03 u04 u10 u11 u12 u13 u14 u20 u21 u22 u23 u24 u30 u31 u32 u33 u34 u40 u41 u42 u43 u44 : Int) : (- u41 * (u32 * (- u23 * (u14) + u24 * (u13)) - u33 * (- u22 * (u14) + u24 * (u12)) + u34 * (- u22 * (u13) + u23 * (u12))) + u42 * (u31 * (- u23 * (u14) + u24 * (u13)) - u33 * (- u21 * (u14) + u24 * (u11)) + u34 * (- u21 * (u13) + u23 * (u11))) - u43 * (u31 * (- u22 * (u14) + u24 * (u12)) - u32 * (- u21 * (u14) + u24 * (u11)) + u34 * (- u21 * (u12) + u22 * (u11))) + u44 * (u31 * (- u22 * (u13) + u23 * (u12)) - u32 * (- u21 * (u13) + u23 * (u11)) + u33 * (- u21 * (u12) + u22 * (u11)))) * u00 + -(- u41 * (u32 * (- u23 * (u04) + u24 * (u03)) - u33 * (- u22 * (u04) + u24 * (u02)) + u34 * (- u22 * (u03) + u23 * (u02))) + u42 * (u31 * (- u23 * (u04) + u24 * (u03)) - u33 * (- u21 * (u04) + u24 * (u01)) + u34 * (- u21 * (u03) + u23 * (u01))) - u43 * (u31 * (- u22 * (u04) + u24 * (u02)) - u32 * (- u21 * (u04) + u24 * (u01)) + u34 * (- u21 * (u02) + u22 * (u01))) + u44 * (u31 * (- u22 * (u03) + u23 * (u02)) - u32 * (- u21 * (u03) + u23 * (u01)) + u33 * (- u21 * (u02) + u22 * (u01)))) * u10 + (- u41 * (u32 * (- u13 * (u04) + u14 * (u03)) - u33 * (- u12 * (u04) + u14 * (u02)) + u34 * (- u12 * (u03) + u13 * (u02))) + u42 * (u31 * (- u13 * (u04) + u14 * (u03)) - u33 * (- u11 * (u04) + u14 * (u01)) + u34 * (- u11 * (u03) + u13 * (u01))) - u43 * (u31 * (- u12 * (u04) + u14 * (u02)) - u32 * (- u11 * (u04) + u14 * (u01)) + u34 * (- u11 * (u02) + u12 * (u01))) + u44 * (u31 * (- u12 * (u03) + u13 * (u02)) - u32 * (- u11 * (u03) + u13 * (u01)) + u33 * (- u11 * (u02) + u12 * (u01)))) * u20 + -(- u41 * (u22 * (- u13 * (u04) + u14 * (u03)) - u23 * (- u12 * (u04) + u14 * (u02)) + u24 * (- u12 * (u03) + u13 * (u02))) + u42 * (u21 * (- u13 * (u04) + u14 * (u03)) - u23 * (- u11 * (u04) + u14 * (u01)) + u24 * (- u11 * (u03) + u13 * (u01))) - u43 * (u21 * (- u12 * (u04) + u14 * (u02)) - u22 * (- u11 * (u04) + u14 * (u01)) + u24 * (- u11 * (u02) + u12 * (u01))) + u44 * (u21 * (- u12 * (u03) + u13 * (u02)) - u22 * (- u11 * (u03) + u13 * (u01)) + u23 * (- u11 * (u02) + u12 * (u01)))) * u30 + (- u31 * (u22 * (- u13 * (u04) + u14 * (u03)) - u23 * (- u12 * (u04) + u14 * (u02)) + u24 * (- u12 * (u03) + u13 * (u02))) + u32 * (u21 * (- u13 * (u04) + u14 * (u03)) - u23 * (- u11 * (u04) + u14 * (u01)) + u24 * (- u11 * (u03) + u13 * (u01))) - u33 * (u21 * (- u12 * (u04) + u14 * (u02)) - u22 * (- u11 * (u04) + u14 * (u01)) + u24 * (- u11 * (u02) + u12 * (u01))) + u34 * (u21 * (- u12 * (u03) + u13 * (u02)) - u22 * (- u11 * (u03) + u13 * (u01)) + u23 * (- u11 * (u02) + u12 * (u01)))) * u40 = (u40 * (- u31 * (u22 * (- u13 * (u04) + u14 * (u03)) - u23 * (- u12 * (u04) + u14 * (u02)) + u24 * (- u12 * (u03) + u13 * (u02))) + u32 * (u21 * (- u13 * (u04) + u14 * (u03)) - u23 * (- u11 * (u04) + u14 * (u01)) + u24 * (- u11 * (u03) + u13 * (u01))) - u33 * (u21 * (- u12 * (u04) + u14 * (u02)) - u22 * (- u11 * (u04) + u14 * (u01)) + u24 * (- u11 * (u02) + u12 * (u01))) + u34 * (u21 * (- u12 * (u03) + u13 * (u02)) - u22 * (- u11 * (u03) + u13 * (u01)) + u23 * (- u11 * (u02) + u12 * (u01)))) - u41 * (- u30 * (u22 * (- u13 * (u04) + u14 * (u03)) - u23 * (- u12 * (u04) + u14 * (u02)) + u24 * (- u12 * (u03) + u13 * (u02))) + u32 * (u20 * (- u13 * (u04) + u14 * (u03)) - u23 * (- u10 * (u04) + u14 * (u00)) + u24 * (- u10 * (u03) + u13 * (u00))) - u33 * (u20 * (- u12 * (u04) + u14 * (u02)) - u22 * (- u10 * (u04) + u14 * (u00)) + u24 * (- u10 * (u02) + u12 * (u00))) + u34 * (u20 * (- u12 * (u03) + u13 * (u02)) - u22 * (- u10 * (u03) + u13 * (u00)) + u23 * (- u10 * (u02) + u12 * (u00)))) + u42 * (- u30 * (u21 * (- u13 * (u04) + u14 * (u03)) - u23 * (- u11 * (u04) + u14 * (u01)) + u24 * (- u11 * (u03) + u13 * (u01))) + u31 * (u20 * (- u13 * (u04) + u14 * (u03)) - u23 * (- u10 * (u04) + u14 * (u00)) + u24 * (- u10 * (u03) + u13 * (u00))) - u33 * (u20 * (- u11 * (u04) + u14 * (u01)) - u21 * (- u10 * (u04) + u14 * (u00)) + u24 * (- u10 * (u01) + u11 * (u00))) + u34 * (u20 * (- u11 * (u03) + u13 * (u01)) - u21 * (- u10 * (u03) + u13 * (u00)) + u23 * (- u10 * (u01) + u11 * (u00)))) - u43 * (- u30 * (u21 * (- u12 * (u04) + u14 * (u02)) - u22 * (- u11 * (u04) + u14 * (u01)) + u24 * (- u11 * (u02) + u12 * (u01))) + u31 * (u20 * (- u12 * (u04) + u14 * (u02)) - u22 * (- u10 * (u04) + u14 * (u00)) + u24 * (- u10 * (u02) + u12 * (u00))) - u32 * (u20 * (- u11 * (u04) + u14 * (u01)) - u21 * (- u10 * (u04) + u14 * (u00)) + u24 * (- u10 * (u01) + u11 * (u00))) + u34 * (u20 * (- u11 * (u02) + u12 * (u01)) - u21 * (- u10 * (u02) + u12 * (u00)) + u22 * (- u10 * (u01) + u11 * (u00)))) + u44 * (- u30 * (u21 * (- u12 * (u03) + u13 * (u02)) - u22 * (- u11 * (u03) + u13 * (u01)) + u23 * (- u11 * (u02) + u12 * (u01))) + u31 * (u20 * (- u12 * (u03) + u13 * (u02)) - u22 * (- u10 * (u03) + u13 * (u00)) + u23 * (- u10 * (u02) + u12 * (u00))) - u32 * (u20 * (- u11 * (u03) + u13 * (u01)) - u21 * (- u10 * (u03) + u13 * (u00)) + u23 * (- u10 * (u01) + u11 * (u00))) + u33 * (u20 * (- u11 * (u02) + u12 * (u01)) - u21 * (- u10 * (u02) + u12 * (u00)) + u22 * (- u10 * (u01) + u11 * (u00))))) := by grind
theorem adj_0_1 (u00 u01 u02 u03 u04 u10 u11 u12 u13 u14 u20 u21 u22 u23 u24 u30 u31 u32 u33 u34 u40 u41 u42 u43 u44 : Int) : (- u41 * (u32 * (- u23 * (u14) + u24 * (u13)) - u33 * (- u22 * (u14) + u24 * (u12)) + u34 * (- u22 * (u13) + u23 * (u12))) + u42 * (u31 * (- u23 * (u14) + u24 * (u13)) - u33 * (- u21 * (u14) + u24 * (u11)) + u34 * (- u21 * (u13) + u23 * (u11))) - u43 * (u31 * (- u22 * (u14) + u24 * (u12)) - u32 * (- u21 * (u14) + u24 * (u11)) + u34 * (- u21 * (u12) + u22 * (u11))) + u44 * (u31 * (- u22 * (u13) + u23 * (u12)) - u32 * (- u21 * (u13) + u23 * (u11)) + u33 * (- u21 * (u12) + u22 * (u11)))) * u01 + -(- u41 * (u32 * (- u23 * (u04) + u24 * (u03)) - u33 * (- u22 * (u04) + u24 * (u02)) + u34 * (- u22 * (u03) + u23 * (u02))) + u42 * (u31 * (- u23 * (u04) + u24 * (u03)) - u33 * (- u21 * (u04) + u24 * (u01)) + u34 * (- u21 * (u03) + u23 * (u01))) - u43 * (u31 * (- u22 * (u04) + u24 * (u02)) - u32 * (- u21 * (u04) + u24 * (u01)) + u34 * (- u21 * (u02) + u22 * (u01))) + u44 * (u31 * (- u22 * (u03) + u23 * (u02)) - u32 * (- u21 * (u03) + u23 * (u01)) + u33 * (- u21 * (u02) + u22 * (u01)))) * u11 + (- u41 * (u32 * (- u13 * (u04) + u14 * (u03)) - u33 * (- u12 * (u04) + u14 * (u02)) + u34 * (- u12 * (u03) + u13 * (u02))) + u42 * (u31 * (- u13 * (u04) + u14 * (u03)) - u33 * (- u11 * (u04) + u14 * (u01)) + u34 * (- u11 * (u03) + u13 * (u01))) - u43 * (u31 * (- u12 * (u04) + u14 * (u02)) - u32 * (- u11 * (u04) + u14 * (u01)) + u34 * (- u11 * (u02) + u12 * (u01))) + u44 * (u31 * (- u12 * (u03) + u13 * (u02)) - u32 * (- u11 * (u03) + u13 * (u01)) + u33 * (- u11 * (u02) + u12 * (u01)))) * u21 + -(- u41 * (u22 * (- u13 * (u04) + u14 * (u03)) - u23 * (- u12 * (u04) + u14 * (u02)) + u24 * (- u12 * (u03) + u13 * (u02))) + u42 * (u21 * (- u13 * (u04) + u14 * (u03)) - u23 * (- u11 * (u04) + u14 * (u01)) + u24 * (- u11 * (u03) + u13 * (u01))) - u43 * (u21 * (- u12 * (u04) + u14 * (u02)) - u22 * (- u11 * (u04) + u14 * (u01)) + u24 * (- u11 * (u02) + u12 * (u01))) + u44 * (u21 * (- u12 * (u03) + u13 * (u02)) - u22 * (- u11 * (u03) + u13 * (u01)) + u23 * (- u11 * (u02) + u12 * (u01)))) * u31 + (- u31 * (u22 * (- u13 * (u04) + u14 * (u03)) - u23 * (- u12 * (u04) + u14 * (u02)) + u24 * (- u12 * (u03) + u13 * (u02))) + u32 * (u21 * (- u13 * (u04) + u14 * (u03)) - u23 * (- u11 * (u04) + u14 * (u01)) + u24 * (- u11 * (u03) + u13 * (u01))) - u33 * (u21 * (- u12 * (u04) + u14 * (u02)) - u22 * (- u11 * (u04) + u14 * (u01)) + u24 * (- u11 * (u02) + u12 * (u01))) + u34 * (u21 * (- u12 * (u03) + u13 * (u02)) - u22 * (- u11 * (u03) + u13 * (u01)) + u23 * (- u11 * (u02) + u12 * (u01)))) * u41 = 0 := by grind
theorem adj_0_2 (u00 u01 u02 u03 u04 u10 u11 u12 u13 u14 u20 u21 u22 u23 u24 u30 u31 u32 u33 u34 u40 u41 u42 u43 u44 : Int) : (- u41 * (u32 * (- u23 * (u14) + u24 * (u13)) - u33 * (- u22 * (u14) + u24 * (u12)) + u34 * (- u22 * (u13) + u23 * (u12))) + u42 * (u31 * (- u23 * (u14) + u24 * (u13)) - u33 * (- u21 * (u14) + u24 * (u11)) + u34 * (- u21 * (u13) + u23 * (u11))) - u43 * (u31 * (- u22 * (u14) + u24 * (u12)) - u32 * (- u21 * (u14) + u24 * (u11)) + u34 * (- u21 * (u12) + u22 * (u11))) + u44 * (u31 * (- u22 * (u13) + u23 * (u12)) - u32 * (- u21 * (u13) + u23 * (u11)) + u33 * (- u21 * (u12) + u22 * (u11)))) * u02 + -(- u41 * (u32 * (- u23 * (u04) + u24 * (u03)) - u33 * (- u22 * (u04) + u24 * (u02)) + u34 * (- u22 * (u03) + u23 * (u02))) + u42 * (u31 * (- u23 * (u04) + u24 * (u03)) - u33 * (- u21 * (u04) + u24 * (u01)) + u34 * (- u21 * (u03) + u23 * (u01))) - u43 * (u31 * (- u22 * (u04) + u24 * (u02)) - u32 * (- u21 * (u04) + u24 * (u01)) + u34 * (- u21 * (u02) + u22 * (u01))) + u44 * (u31 * (- u22 * (u03) + u23 * (u02)) - u32 * (- u21 * (u03) + u23 * (u01)) + u33 * (- u21 * (u02) + u22 * (u01)))) * u12 + (- u41 * (u32 * (- u13 * (u04) + u14 * (u03)) - u33 * (- u12 * (u04) + u14 * (u02)) + u34 * (- u12 * (u03) + u13 * (u02))) + u42 * (u31 * (- u13 * (u04) + u14 * (u03)) - u33 * (- u11 * (u04) + u14 * (u01)) + u34 * (- u11 * (u03) + u13 * (u01))) - u43 * (u31 * (- u12 * (u04) + u14 * (u02)) - u32 * (- u11 * (u04) + u14 * (u01)) + u34 * (- u11 * (u02) + u12 * (u01))) + u44 * (u31 * (- u12 * (u03) + u13 * (u02)) - u32 * (- u11 * (u03) + u13 * (u01)) + u33 * (- u11 * (u02) + u12 * (u01)))) * u22 + -(- u41 * (u22 * (- u13 * (u04) + u14 * (u03)) - u23 * (- u12 * (u04) + u14 * (u02)) + u24 * (- u12 * (u03) + u13 * (u02))) + u42 * (u21 * (- u13 * (u04) + u14 * (u03)) - u23 * (- u11 * (u04) + u14 * (u01)) + u24 * (- u11 * (u03) + u13 * (u01))) - u43 * (u21 * (- u12 * (u04) + u14 * (u02)) - u22 * (- u11 * (u04) + u14 * (u01)) + u24 * (- u11 * (u02) + u12 * (u01))) + u44 * (u21 * (- u12 * (u03) + u13 * (u02)) - u22 * (- u11 * (u03) + u13 * (u01)) + u23 * (- u11 * (u02) + u12 * (u01)))) * u32 + (- u31 * (u22 * (- u13 * (u04) + u14 * (u03)) - u23 * (- u12 * (u04) + u14 * (u02)) + u24 * (- u12 * (u03) + u13 * (u02))) + u32 * (u21 * (- u13 * (u04) + u14 * (u03)) - u23 * (- u11 * (u04) + u14 * (u01)) + u24 * (- u11 * (u03) + u13 * (u01))) - u33 * (u21 * (- u12 * (u04) + u14 * (u02)) - u22 * (- u11 * (u04) + u14 * (u01)) + u24 * (- u11 * (u02) + u12 * (u01))) + u34 * (u21 * (- u12 * (u03) + u13 * (u02)) - u22 * (- u11 * (u03) + u13 * (u01)) + u23 * (- u11 * (u02) + u12 * (u01)))) * u42 = 0 := by grind
theorem adj_0_3 (u00 u01 u02 u03 u04 u10 u11 u12 u13 u14 u20 u21 u22 u23 u24 u30 u31 u32 u33 u34 u40 u41 u42 u43 u44 : Int) : (- u41 * (u32 * (- u23 * (u14) + u24 * (u13)) - u33 * (- u22 * (u14) + u24 * (u12)) + u34 * (- u22 * (u13) + u23 * (u12))) + u42 * (u31 * (- u23 * (u14) + u24 * (u13)) - u33 * (- u21 * (u14) + u24 * (u11)) + u34 * (- u21 * (u13) + u23 * (u11))) - u43 * (u31 * (- u22 * (u14) + u24 * (u12)) - u32 * (- u21 * (u14) + u24 * (u11)) + u34 * (- u21 * (u12) + u22 * (u11))) + u44 * (u31 * (- u22 * (u13) + u23 * (u12)) - u32 * (- u21 * (u13) + u23 * (u11)) + u33 * (- u21 * (u12) + u22 * (u11)))) * u03 + -(- u41 * (u32 * (- u23 * (u04) + u24 * (u03)) - u33 * (- u22 * (u04) + u24 * (u02)) + u34 * (- u22 * (u03) + u23 * (u02))) + u42 * (u31 * (- u23 * (u04) + u24 * (u03)) - u33 * (- u21 * (u04) + u24 * (u01)) + u34 * (- u21 * (u03) + u23 * (u01))) - u43 * (u31 * (- u22 * (u04) + u24 * (u02)) - u32 * (- u21 * (u04) + u24 * (u01)) + u34 * (- u21 * (u02) + u22 * (u01))) + u44 * (u31 * (- u22 * (u03) + u23 * (u02)) - u32 * (- u21 * (u03) + u23 * (u01)) + u33 * (- u21 * (u02) + u22 * (u01)))) * u13 + (- u41 * (u32 * (- u13 * (u04) + u14 * (u03)) - u33 * (- u12 * (u04) + u14 * (u02)) + u34 * (- u12 * (u03) + u13 * (u02))) + u42 * (u31 * (- u13 * (u04) + u14 * (u03)) - u33 * (- u11 * (u04) + u14 * (u01)) + u34 * (- u11 * (u03) + u13 * (u01))) - u43 * (u31 * (- u12 * (u04) + u14 * (u02)) - u32 * (- u11 * (u04) + u14 * (u01)) + u34 * (- u11 * (u02) + u12 * (u01))) + u44 * (u31 * (- u12 * (u03) + u13 * (u02)) - u32 * (- u11 * (u03) + u13 * (u01)) + u33 * (- u11 * (u02) + u12 * (u01)))) * u23 + -(- u41 * (u22 * (- u13 * (u04) + u14 * (u03)) - u23 * (- u12 * (u04) + u14 * (u02)) + u24 * (- u12 * (u03) + u13 * (u02))) + u42 * (u21 * (- u13 * (u04) + u14 * (u03)) - u23 * (- u11 * (u04) + u14 * (u01)) + u24 * (- u11 * (u03) + u13 * (u01))) - u43 * (u21 * (- u12 * (u04) + u14 * (u02)) - u22 * (- u11 * (u04) + u14 * (u01)) + u24 * (- u11 * (u02) + u12 * (u01))) + u44 * (u21 * (- u12 * (u03) + u13 * (u02)) - u22 * (- u11 * (u03) + u13 * (u01)) + u23 * (- u11 * (u02) + u12 * (u01)))) * u33 + (- u31 * (u22 * (- u13 * (u04) + u14 * (u03)) - u23 * (- u12 * (u04) + u14 * (u02)) + u24 * (- u12 * (u03) + u13 * (u02))) + u32 * (u21 * (- u13 * (u04) + u14 * (u03)) - u23 * (- u11 * (u04) + u14 * (u01)) + u24 * (- u11 * (u03) + u13 * (u01))) - u33 * (u21 * (- u12 * (u04) + u14 * (u02)) - u22 * (- u11 * (u04) + u14 * (u01)) + u24 * (- u11 * (u02) + u12 * (u01))) + u34 * (u21 * (- u12 * (u03) + u13 * (u02)) - u22 * (- u11 * (u03) + u13 * (u01)) + u23 * (- u11 * (u02) + u12 * (u01)))) * u43 = 0 := by grind
theorem adj_0_4 (u00 u01 u02 u03 u04 u10 u11 u12 u13 u14 u20 u21 u22 u23 u24 u30 u31 u32 u33 u34 u40 u41 u42 u43 u44 : Int) : (- u41 * (u32 * (- u23 * (u14) + u24 * (u13)) - u33 * (- u22 * (u14) + u24 * (u12)) + u34 * (- u22 * (u13) + u23 * (u12))) + u42 * (u31 * (- u23 * (u14) + u24 * (u13)) - u33 * (- u21 * (u14) + u24 * (u11)) + u34 * (- u21 * (u13) + u23 * (u11))) - u43 * (u31 * (- u22 * (u14) + u24 * (u12)) - u32 * (- u21 * (u14) + u24 * (u11)) + u34 * (- u21 * (u12) + u22 * (u11))) + u44 * (u31 * (- u22 * (u13) + u23 * (u12)) - u32 * (- u21 * (u13) + u23 * (u11)) + u33 * (- u21 * (u12) + u22 * (u11)))) * u04 + -(- u41 * (u32 * (- u23 * (u04) + u24 * (u03)) - u33 * (- u22 * (u04) + u24 * (u02)) + u34 * (- u22 * (u03) + u23 * (u02))) + u42 * (u31 * (- u23 * (u04) + u24 * (u03)) - u33 * (- u21 * (u04) + u24 * (u01)) + u34 * (- u21 * (u03) + u23 * (u01))) - u43 * (u31 * (- u22 * (u04) + u24 * (u02)) - u32 * (- u21 * (u04) + u24 * (u01)) + u34 * (- u21 * (u02) + u22 * (u01))) + u44 * (u31 * (- u22 * (u03) + u23 * (u02)) - u32 * (- u21 * (u03) + u23 * (u01)) + u33 * (- u21 * (u02) + u22 * (u01)))) * u14 + (- u41 * (u32 * (- u13 * (u04) + u14 * (u03)) - u33 * (- u12 * (u04) + u14 * (u02)) + u34 * (- u12 * (u03) + u13 * (u02))) + u42 * (u31 * (- u13 * (u04) + u14 * (u03)) - u33 * (- u11 * (u04) + u14 * (u01)) + u34 * (- u11 * (u03) + u13 * (u01))) - u43 * (u31 * (- u12 * (u04) + u14 * (u02)) - u32 * (- u11 * (u04) + u14 * (u01)) + u34 * (- u11 * (u02) + u12 * (u01))) + u44 * (u31 * (- u12 * (u03) + u13 * (u02)) - u32 * (- u11 * (u03) + u13 * (u01)) + u33 * (- u11 * (u02) + u12 * (u01)))) * u24 + -(- u41 * (u22 * (- u13 * (u04) + u14 * (u03)) - u23 * (- u12 * (u04) + u14 * (u02)) + u24 * (- u12 * (u03) + u13 * (u02))) + u42 * (u21 * (- u13 * (u04) + u14 * (u03)) - u23 * (- u11 * (u04) + u14 * (u01)) + u24 * (- u11 * (u03) + u13 * (u01))) - u43 * (u21 * (- u12 * (u04) + u14 * (u02)) - u22 * (- u11 * (u04) + u14 * (u01)) + u24 * (- u11 * (u02) + u12 * (u01))) + u44 * (u21 * (- u12 * (u03) + u13 * (u02)) - u22 * (- u11 * (u03) + u13 * (u01)) + u23 * (- u11 * (u02) + u12 * (u01)))) * u34 + (- u31 * (u22 * (- u13 * (u04) + u14 * (u03)) - u23 * (- u12 * (u04) + u14 * (u02)) + u24 * (- u12 * (u03) + u13 * (u02))) + u32 * (u21 * (- u13 * (u04) + u14 * (u03)) - u23 * (- u11 * (u04) + u14 * (u01)) + u24 * (- u11 * (u03) + u13 * (u01))) - u33 * (u21 * (- u12 * (u04) + u14 * (u02)) - u22 * (- u11 * (u04) + u14 * (u01)) + u24 * (- u11 * (u02) + u12 * (u01))) + u34 * (u21 * (- u12 * (u03) + u13 * (u02)) - u22 * (- u11 * (u03) + u13 * (u01)) + u23 * (- u11 * (u02) + u12 * (u01)))) * u44 = 0 := by grind
theorem adj_1_0 (u00 u01 u02 u03 u04 u10 u11 u12 u13 u14 u20 u21 u22 u23 u24 u30 u31 u32 u33 u34 u40 u41 u42 u43 u44 : Int) : -(- u40 * (u32 * (- u23 * (u14) + u24 * (u13)) - u33 * (- u22 * (u14) + u24 * (u12)) + u34 * (- u22 * (u13) + u23 * (u12))) + u42 * (u30 * (- u23 * (u14) + u24 * (u13)) - u33 * (- u20 * (u14) + u24 * (u10)) + u34 * (- u20 * (u13) + u23 * (u10))) - u43 * (u30 * (- u22 * (u14) + u24 * (u12)) - u32 * (- u20 * (u14) + u24 * (u10)) + u34 * (- u20 * (u12) + u22 * (u10))) + u44 * (u30 * (- u22 * (u13) + u23 * (u12)) - u32 * (- u20 * (u13) + u23 * (u10)) + u33 * (- u20 * (u12) + u22 * (u10)))) * u00 + (- u40 * (u32 * (- u23 * (u04) + u24 * (u03)) - u33 * (- u22 * (u04) + u24 * (u02)) + u34 * (- u22 * (u03) + u23 * (u02))) + u42 * (u30 * (- u23 * (u04) + u24 * (u03)) - u33 * (- u20 * (u04) + u24 * (u00)) + u34 * (- u20 * (u03) + u23 * (u00))) - u43 * (u30 * (- u22 * (u04) + u24 * (u02)) - u32 * (- u20 * (u04) + u24 * (u00)) + u34 * (- u20 * (u02) + u22 * (u00))) + u44 * (u30 * (- u22 * (u03) + u23 * (u02)) - u32 * (- u20 * (u03) + u23 * (u00)) + u33 * (- u20 * (u02) + u22 * (u00)))) * u10 + -(- u40 * (u32 * (- u13 * (u04) + u14 * (u03)) - u33 * (- u12 * (u04) + u14 * (u02)) + u34 * (- u12 * (u03) + u13 * (u02))) + u42 * (u30 * (- u13 * (u04) + u14 * (u03)) - u33 * (- u10 * (u04) + u14 * (u00)) + u34 * (- u10 * (u03) + u13 * (u00))) - u43 * (u30 * (- u12 * (u04) + u14 * (u02)) - u32 * (- u10 * (u04) + u14 * (u00)) + u34 * (- u10 * (u02) + u12 * (u00))) + u44 * (u30 * (- u12 * (u03) + u13 * (u02)) - u32 * (- u10 * (u03) + u13 * (u00)) + u33 * (- u10 * (u02) + u12 * (u00)))) * u20 + (- u40 * (u22 * (- u13 * (u04) + u14 * (u03)) - u23 * (- u12 * (u04) + u14 * (u02)) + u24 * (- u12 * (u03) + u13 * (u02))) + u42 * (u20 * (- u13 * (u04) + u14 * (u03)) - u23 * (- u10 * (u04) + u14 * (u00)) + u24 * (- u10 * (u03) + u13 * (u00))) - u43 * (u20 * (- u12 * (u04) + u14 * (u02)) - u22 * (- u10 * (u04) + u14 * (u00)) + u24 * (- u10 * (u02) + u12 * (u00))) + u44 * (u20 * (- u12 * (u03) + u13 * (u02)) - u22 * (- u10 * (u03) + u13 * (u00)) + u23 * (- u10 * (u02) + u12 * (u00)))) * u30 + -(- u30 * (u22 * (- u13 * (u04) + u14 * (u03)) - u23 * (- u12 * (u04) + u14 * (u02)) + u24 * (- u12 * (u03) + u13 * (u02))) + u32 * (u20 * (- u13 * (u04) + u14 * (u03)) - u23 * (- u10 * (u04) + u14 * (u00)) + u24 * (- u10 * (u03) + u13 * (u00))) - u33 * (u20 * (- u12 * (u04) + u14 * (u02)) - u22 * (- u10 * (u04) + u14 * (u00)) + u24 * (- u10 * (u02) + u12 * (u00))) + u34 * (u20 * (- u12 * (u03) + u13 * (u02)) - u22 * (- u10 * (u03) + u13 * (u00)) + u23 * (- u10 * (u02) + u12 * (u00)))) * u40 = 0 := by grind
theorem adj_1_1 (u00 u01 u02 u03 u04 u10 u11 u12 u13 u14 u20 u21 u22 u23 u24 u30 u31 u32 u33 u34 u40 u41 u42 u43 u44 : Int) : -(- u40 * (u32 * (- u23 * (u14) + u24 * (u13)) - u33 * (- u22 * (u14) + u24 * (u12)) + u34 * (- u22 * (u13) + u23 * (u12))) + u42 * (u30 * (- u23 * (u14) + u24 * (u13)) - u33 * (- u20 * (u14) + u24 * (u10)) + u34 * (- u20 * (u13) + u23 * (u10))) - u43 * (u30 * (- u22 * (u14) + u24 * (u12)) - u32 * (- u20 * (u14) + u24 * (u10)) + u34 * (- u20 * (u12) + u22 * (u10))) + u44 * (u30 * (- u22 * (u13) + u23 * (u12)) - u32 * (- u20 * (u13) + u23 * (u10)) + u33 * (- u20 * (u12) + u22 * (u10)))) * u01 + (- u40 * (u32 * (- u23 * (u04) + u24 * (u03)) - u33 * (- u22 * (u04) + u24 * (u02)) + u34 * (- u22 * (u03) + u23 * (u02))) + u42 * (u30 * (- u23 * (u04) + u24 * (u03)) - u33 * (- u20 * (u04) + u24 * (u00)) + u34 * (- u20 * (u03) + u23 * (u00))) - u43 * (u30 * (- u22 * (u04) + u24 * (u02)) - u32 * (- u20 * (u04) + u24 * (u00)) + u34 * (- u20 * (u02) + u22 * (u00))) + u44 * (u30 * (- u22 * (u03) + u23 * (u02)) - u32 * (- u20 * (u03) + u23 * (u00)) + u33 * (- u20 * (u02) + u22 * (u00)))) * u11 + -(- u40 * (u32 * (- u13 * (u04) + u14 * (u03)) - u33 * (- u12 * (u04) + u14 * (u02)) + u34 * (- u12 * (u03) + u13 * (u02))) + u42 * (u30 * (- u13 * (u04) + u14 * (u03)) - u33 * (- u10 * (u04) + u14 * (u00)) + u34 * (- u10 * (u03) + u13 * (u00))) - u43 * (u30 * (- u12 * (u04) + u14 * (u02)) - u32 * (- u10 * (u04) + u14 * (u00)) + u34 * (- u10 * (u02) + u12 * (u00))) + u44 * (u30 * (- u12 * (u03) + u13 * (u02)) - u32 * (- u10 * (u03) + u13 * (u00)) + u33 * (- u10 * (u02) + u12 * (u00)))) * u21 + (- u40 * (u22 * (- u13 * (u04) + u14 * (u03)) - u23 * (- u12 * (u04) + u14 * (u02)) + u24 * (- u12 * (u03) + u13 * (u02))) + u42 * (u20 * (- u13 * (u04) + u14 * (u03)) - u23 * (- u10 * (u04) + u14 * (u00)) + u24 * (- u10 * (u03) + u13 * (u00))) - u43 * (u20 * (- u12 * (u04) + u14 * (u02)) - u22 * (- u10 * (u04) + u14 * (u00)) + u24 * (- u10 * (u02) + u12 * (u00))) + u44 * (u20 * (- u12 * (u03) + u13 * (u02)) - u22 * (- u10 * (u03) + u13 * (u00)) + u23 * (- u10 * (u02) + u12 * (u00)))) * u31 + -(- u30 * (u22 * (- u13 * (u04) + u14 * (u03)) - u23 * (- u12 * (u04) + u14 * (u02)) + u24 * (- u12 * (u03) + u13 * (u02))) + u32 * (u20 * (- u13 * (u04) + u14 * (u03)) - u23 * (- u10 * (u04) + u14 * (u00)) + u24 * (- u10 * (u03) + u13 * (u00))) - u33 * (u20 * (- u12 * (u04) + u14 * (u02)) - u22 * (- u10 * (u04) + u14 * (u00)) + u24 * (- u10 * (u02) + u12 * (u00))) + u34 * (u20 * (- u12 * (u03) + u13 * (u02)) - u22 * (- u10 * (u03) + u13 * (u00)) + u23 * (- u10 * (u02) + u12 * (u00)))) * u41 = (u40 * (- u31 * (u22 * (- u13 * (u04) + u14 * (u03)) - u23 * (- u12 * (u04) + u14 * (u02)) + u24 * (- u12 * (u03) + u13 * (u02))) + u32 * (u21 * (- u13 * (u04) + u14 * (u03)) - u23 * (- u11 * (u04) + u14 * (u01)) + u24 * (- u11 * (u03) + u13 * (u01))) - u33 * (u21 * (- u12 * (u04) + u14 * (u02)) - u22 * (- u11 * (u04) + u14 * (u01)) + u24 * (- u11 * (u02) + u12 * (u01))) + u34 * (u21 * (- u12 * (u03) + u13 * (u02)) - u22 * (- u11 * (u03) + u13 * (u01)) + u23 * (- u11 * (u02) + u12 * (u01)))) - u41 * (- u30 * (u22 * (- u13 * (u04) + u14 * (u03)) - u23 * (- u12 * (u04) + u14 * (u02)) + u24 * (- u12 * (u03) + u13 * (u02))) + u32 * (u20 * (- u13 * (u04) + u14 * (u03)) - u23 * (- u10 * (u04) + u14 * (u00)) + u24 * (- u10 * (u03) + u13 * (u00))) - u33 * (u20 * (- u12 * (u04) + u14 * (u02)) - u22 * (- u10 * (u04) + u14 * (u00)) + u24 * (- u10 * (u02) + u12 * (u00))) + u34 * (u20 * (- u12 * (u03) + u13 * (u02)) - u22 * (- u10 * (u03) + u13 * (u00)) + u23 * (- u10 * (u02) + u12 * (u00)))) + u42 * (- u30 * (u21 * (- u13 * (u04) + u14 * (u03)) - u23 * (- u11 * (u04) + u14 * (u01)) + u24 * (- u11 * (u03) + u13 * (u01))) + u31 * (u20 * (- u13 * (u04) + u14 * (u03)) - u23 * (- u10 * (u04) + u14 * (u00)) + u24 * (- u10 * (u03) + u13 * (u00))) - u33 * (u20 * (- u11 * (u04) + u14 * (u01)) - u21 * (- u10 * (u04) + u14 * (u00)) + u24 * (- u10 * (u01) + u11 * (u00))) + u34 * (u20 * (- u11 * (u03) + u13 * (u01)) - u21 * (- u10 * (u03) + u13 * (u00)) + u23 * (- u10 * (u01) + u11 * (u00)))) - u43 * (- u30 * (u21 * (- u12 * (u04) + u14 * (u02)) - u22 * (- u11 * (u04) + u14 * (u01)) + u24 * (- u11 * (u02) + u12 * (u01))) + u31 * (u20 * (- u12 * (u04) + u14 * (u02)) - u22 * (- u10 * (u04) + u14 * (u00)) + u24 * (- u10 * (u02) + u12 * (u00))) - u32 * (u20 * (- u11 * (u04) + u14 * (u01)) - u21 * (- u10 * (u04) + u14 * (u00)) + u24 * (- u10 * (u01) + u11 * (u00))) + u34 * (u20 * (- u11 * (u02) + u12 * (u01)) - u21 * (- u10 * (u02) + u12 * (u00)) + u22 * (- u10 * (u01) + u11 * (u00)))) + u44 * (- u30 * (u21 * (- u12 * (u03) + u13 * (u02)) - u22 * (- u11 * (u03) + u13 * (u01)) + u23 * (- u11 * (u02) + u12 * (u01))) + u31 * (u20 * (- u12 * (u03) + u13 * (u02)) - u22 * (- u10 * (u03) + u13 * (u00)) + u23 * (- u10 * (u02) + u12 * (u00))) - u32 * (u20 * (- u11 * (u03) + u13 * (u01)) - u21 * (- u10 * (u03) + u13 * (u00)) + u23 * (- u10 * (u01) + u11 * (u00))) + u33 * (u20 * (- u11 * (u02) + u12 * (u01)) - u21 * (- u10 * (u02) + u12 * (u00)) + u22 * (- u10 * (u01) + u11 * (u00))))) := by grind
theorem adj_1_2 (u00 u01 u02 u03 u04 u10 u11 u12 u13 u14 u20 u21 u22 u23 u24 u30 u31 u32 u33 u34 u40 u41 u42 u43 u44 : Int) : -(- u40 * (u32 * (- u23 * (u14) + u24 * (u13)) - u33 * (- u22 * (u14) + u24 * (u12)) + u34 * (- u22 * (u13) + u23 * (u12))) + u42 * (u30 * (- u23 * (u14) + u24 * (u13)) - u33 * (- u20 * (u14) + u24 * (u10)) + u34 * (- u20 * (u13) + u23 * (u10))) - u43 * (u30 * (- u22 * (u14) + u24 * (u12)) - u32 * (- u20 * (u14) + u24 * (u10)) + u34 * (- u20 * (u12) + u22 * (u10))) + u44 * (u30 * (- u22 * (u13) + u23 * (u12)) - u32 * (- u20 * (u13) + u23 * (u10)) + u33 * (- u20 * (u12) + u22 * (u10)))) * u02 + (- u40 * (u32 * (- u23 * (u04) + u24 * (u03)) - u33 * (- u22 * (u04) + u24 * (u02)) + u34 * (- u22 * (u03) + u23 * (u02))) + u42 * (u30 * (- u23 * (u04) + u24 * (u03)) - u33 * (- u20 * (u04) + u24 * (u00)) + u34 * (- u20 * (u03) + u23 * (u00))) - u43 * (u30 * (- u22 * (u04) + u24 * (u02)) - u32 * (- u20 * (u04) + u24 * (u00)) + u34 * (- u20 * (u02) + u22 * (u00))) + u44 * (u30 * (- u22 * (u03) + u23 * (u02)) - u32 * (- u20 * (u03) + u23 * (u00)) + u33 * (- u20 * (u02) + u22 * (u00)))) * u12 + -(- u40 * (u32 * (- u13 * (u04) + u14 * (u03)) - u33 * (- u12 * (u04) + u14 * (u02)) + u34 * (- u12 * (u03) + u13 * (u02))) + u42 * (u30 * (- u13 * (u04) + u14 * (u03)) - u33 * (- u10 * (u04) + u14 * (u00)) + u34 * (- u10 * (u03) + u13 * (u00))) - u43 * (u30 * (- u12 * (u04) + u14 * (u02)) - u32 * (- u10 * (u04) + u14 * (u00)) + u34 * (- u10 * (u02) + u12 * (u00))) + u44 * (u30 * (- u12 * (u03) + u13 * (u02)) - u32 * (- u10 * (u03) + u13 * (u00)) + u33 * (- u10 * (u02) + u12 * (u00)))) * u22 + (- u40 * (u22 * (- u13 * (u04) + u14 * (u03)) - u23 * (- u12 * (u04) + u14 * (u02)) + u24 * (- u12 * (u03) + u13 * (u02))) + u42 * (u20 * (- u13 * (u04) + u14 * (u03)) - u23 * (- u10 * (u04) + u14 * (u00)) + u24 * (- u10 * (u03) + u13 * (u00))) - u43 * (u20 * (- u12 * (u04) + u14 * (u02)) - u22 * (- u10 * (u04) + u14 * (u00)) + u24 * (- u10 * (u02) + u12 * (u00))) + u44 * (u20 * (- u12 * (u03) + u13 * (u02)) - u22 * (- u10 * (u03) + u13 * (u00)) + u23 * (- u10 * (u02) + u12 * (u00)))) * u32 + -(- u30 * (u22 * (- u13 * (u04) + u14 * (u03)) - u23 * (- u12 * (u04) + u14 * (u02)) + u24 * (- u12 * (u03) + u13 * (u02))) + u32 * (u20 * (- u13 * (u04) + u14 * (u03)) - u23 * (- u10 * (u04) + u14 * (u00)) + u24 * (- u10 * (u03) + u13 * (u00))) - u33 * (u20 * (- u12 * (u04) + u14 * (u02)) - u22 * (- u10 * (u04) + u14 * (u00)) + u24 * (- u10 * (u02) + u12 * (u00))) + u34 * (u20 * (- u12 * (u03) + u13 * (u02)) - u22 * (- u10 * (u03) + u13 * (u00)) + u23 * (- u10 * (u02) + u12 * (u00)))) * u42 = 0 := by grind
theorem adj_1_3 (u00 u01 u02 u03 u04 u10 u11 u12 u13 u14 u20 u21 u22 u23 u24 u30 u31 u32 u33 u34 u40 u41 u42 u43 u44 : Int) : -(- u40 * (u32 * (- u23 * (u14) + u24 * (u13)) - u33 * (- u22 * (u14) + u24 * (u12)) + u34 * (- u22 * (u13) + u23 * (u12))) + u42 * (u30 * (- u23 * (u14) + u24 * (u13)) - u33 * (- u20 * (u14) + u24 * (u10)) + u34 * (- u20 * (u13) + u23 * (u10))) - u43 * (u30 * (- u22 * (u14) + u24 * (u12)) - u32 * (- u20 * (u14) + u24 * (u10)) + u34 * (- u20 * (u12) + u22 * (u10))) + u44 * (u30 * (- u22 * (u13) + u23 * (u12)) - u32 * (- u20 * (u13) + u23 * (u10)) + u33 * (- u20 * (u12) + u22 * (u10)))) * u03 + (- u40 * (u32 * (- u23 * (u04) + u24 * (u03)) - u33 * (- u22 * (u04) + u24 * (u02)) + u34 * (- u22 * (u03) + u23 * (u02))) + u42 * (u30 * (- u23 * (u04) + u24 * (u03)) - u33 * (- u20 * (u04) + u24 * (u00)) + u34 * (- u20 * (u03) + u23 * (u00))) - u43 * (u30 * (- u22 * (u04) + u24 * (u02)) - u32 * (- u20 * (u04) + u24 * (u00)) + u34 * (- u20 * (u02) + u22 * (u00))) + u44 * (u30 * (- u22 * (u03) + u23 * (u02)) - u32 * (- u20 * (u03) + u23 * (u00)) + u33 * (- u20 * (u02) + u22 * (u00)))) * u13 + -(- u40 * (u32 * (- u13 * (u04) + u14 * (u03)) - u33 * (- u12 * (u04) + u14 * (u02)) + u34 * (- u12 * (u03) + u13 * (u02))) + u42 * (u30 * (- u13 * (u04) + u14 * (u03)) - u33 * (- u10 * (u04) + u14 * (u00)) + u34 * (- u10 * (u03) + u13 * (u00))) - u43 * (u30 * (- u12 * (u04) + u14 * (u02)) - u32 * (- u10 * (u04) + u14 * (u00)) + u34 * (- u10 * (u02) + u12 * (u00))) + u44 * (u30 * (- u12 * (u03) + u13 * (u02)) - u32 * (- u10 * (u03) + u13 * (u00)) + u33 * (- u10 * (u02) + u12 * (u00)))) * u23 + (- u40 * (u22 * (- u13 * (u04) + u14 * (u03)) - u23 * (- u12 * (u04) + u14 * (u02)) + u24 * (- u12 * (u03) + u13 * (u02))) + u42 * (u20 * (- u13 * (u04) + u14 * (u03)) - u23 * (- u10 * (u04) + u14 * (u00)) + u24 * (- u10 * (u03) + u13 * (u00))) - u43 * (u20 * (- u12 * (u04) + u14 * (u02)) - u22 * (- u10 * (u04) + u14 * (u00)) + u24 * (- u10 * (u02) + u12 * (u00))) + u44 * (u20 * (- u12 * (u03) + u13 * (u02)) - u22 * (- u10 * (u03) + u13 * (u00)) + u23 * (- u10 * (u02) + u12 * (u00)))) * u33 + -(- u30 * (u22 * (- u13 * (u04) + u14 * (u03)) - u23 * (- u12 * (u04) + u14 * (u02)) + u24 * (- u12 * (u03) + u13 * (u02))) + u32 * (u20 * (- u13 * (u04) + u14 * (u03)) - u23 * (- u10 * (u04) + u14 * (u00)) + u24 * (- u10 * (u03) + u13 * (u00))) - u33 * (u20 * (- u12 * (u04) + u14 * (u02)) - u22 * (- u10 * (u04) + u14 * (u00)) + u24 * (- u10 * (u02) + u12 * (u00))) + u34 * (u20 * (- u12 * (u03) + u13 * (u02)) - u22 * (- u10 * (u03) + u13 * (u00)) + u23 * (- u10 * (u02) + u12 * (u00)))) * u43 = 0 := by grind
theorem adj_1_4 (u00 u01 u02 u03 u04 u10 u11 u12 u13 u14 u20 u21 u22 u23 u24 u30 u31 u32 u33 u34 u40 u41 u42 u43 u44 : Int) : -(- u40 * (u32 * (- u23 * (u14) + u24 * (u13)) - u33 * (- u22 * (u14) + u24 * (u12)) + u34 * (- u22 * (u13) + u23 * (u12))) + u42 * (u30 * (- u23 * (u14) + u24 * (u13)) - u33 * (- u20 * (u14) + u24 * (u10)) + u34 * (- u20 * (u13) + u23 * (u10))) - u43 * (u30 * (- u22 * (u14) + u24 * (u12)) - u32 * (- u20 * (u14) + u24 * (u10)) + u34 * (- u20 * (u12) + u22 * (u10))) + u44 * (u30 * (- u22 * (u13) + u23 * (u12)) - u32 * (- u20 * (u13) + u23 * (u10)) + u33 * (- u20 * (u12) + u22 * (u10)))) * u04 + (- u40 * (u32 * (- u23 * (u04) + u24 * (u03)) - u33 * (- u22 * (u04) + u24 * (u02)) + u34 * (- u22 * (u03) + u23 * (u02))) + u42 * (u30 * (- u23 * (u04) + u24 * (u03)) - u33 * (- u20 * (u04) + u24 * (u00)) + u34 * (- u20 * (u03) + u23 * (u00))) - u43 * (u30 * (- u22 * (u04) + u24 * (u02)) - u32 * (- u20 * (u04) + u24 * (u00)) + u34 * (- u20 * (u02) + u22 * (u00))) + u44 * (u30 * (- u22 * (u03) + u23 * (u02)) - u32 * (- u20 * (u03) + u23 * (u00)) + u33 * (- u20 * (u02) + u22 * (u00)))) * u14 + -(- u40 * (u32 * (- u13 * (u04) + u14 * (u03)) - u33 * (- u12 * (u04) + u14 * (u02)) + u34 * (- u12 * (u03) + u13 * (u02))) + u42 * (u30 * (- u13 * (u04) + u14 * (u03)) - u33 * (- u10 * (u04) + u14 * (u00)) + u34 * (- u10 * (u03) + u13 * (u00))) - u43 * (u30 * (- u12 * (u04) + u14 * (u02)) - u32 * (- u10 * (u04) + u14 * (u00)) + u34 * (- u10 * (u02) + u12 * (u00))) + u44 * (u30 * (- u12 * (u03) + u13 * (u02)) - u32 * (- u10 * (u03) + u13 * (u00)) + u33 * (- u10 * (u02) + u12 * (u00)))) * u24 + (- u40 * (u22 * (- u13 * (u04) + u14 * (u03)) - u23 * (- u12 * (u04) + u14 * (u02)) + u24 * (- u12 * (u03) + u13 * (u02))) + u42 * (u20 * (- u13 * (u04) + u14 * (u03)) - u23 * (- u10 * (u04) + u14 * (u00)) + u24 * (- u10 * (u03) + u13 * (u00))) - u43 * (u20 * (- u12 * (u04) + u14 * (u02)) - u22 * (- u10 * (u04) + u14 * (u00)) + u24 * (- u10 * (u02) + u12 * (u00))) + u44 * (u20 * (- u12 * (u03) + u13 * (u02)) - u22 * (- u10 * (u03) + u13 * (u00)) + u23 * (- u10 * (u02) + u12 * (u00)))) * u34 + -(- u30 * (u22 * (- u13 * (u04) + u14 * (u03)) - u23 * (- u12 * (u04) + u14 * (u02)) + u24 * (- u12 * (u03) + u13 * (u02))) + u32 * (u20 * (- u13 * (u04) + u14 * (u03)) - u23 * (- u10 * (u04) + u14 * (u00)) + u24 * (- u10 * (u03) + u13 * (u00))) - u33 * (u20 * (- u12 * (u04) + u14 * (u02)) - u22 * (- u10 * (u04) + u14 * (u00)) + u24 * (- u10 * (u02) + u12 * (u00))) + u34 * (u20 * (- u12 * (u03) + u13 * (u02)) - u22 * (- u10 * (u03) + u13 * (u00)) + u23 * (- u10 * (u02) + u12 * (u00)))) * u44 = 0 := by grind
theorem adj_2_0 (u00 u01 u02 u03 u04 u10 u11 u12 u13 u14 u20 u21 u22 u23 u24 u30 u31 u32 u33 u34 u40 u41 u42 u43 u44 : Int) : (- u40 * (u31 * (- u23 * (u14) + u24 * (u13)) - u33 * (- u21 * (u14) + u24 * (u11)) + u34 * (- u21 * (u13) + u23 * (u11))) + u41 * (u30 * (- u23 * (u14) + u24 * (u13)) - u33 * (- u20 * (u14) + u24 * (u10)) + u34 * (- u20 * (u13) + u23 * (u10))) - u43 * (u30 * (- u21 * (u14) + u24 * (u11)) - u31 * (- u20 * (u14) + u24 * (u10)) + u34 * (- u20 * (u11) + u21 * (u10))) + u44 * (u30 * (- u21 * (u13) + u23 * (u11)) - u31 * (- u20 * (u13) + u23 * (u10)) + u33 * (- u20 * (u11) + u21 * (u10)))) * u00 + -(- u40 * (u31 * (- u23 * (u04) + u24 * (u03)) - u33 * (- u21 * (u04) + u24 * (u01)) + u34 * (- u21 * (u03) + u23 * (u01))) + u41 * (u30 * (- u23 * (u04) + u24 * (u03)) - u33 * (- u20 * (u04) + u24 * (u00)) + u34 * (- u20 * (u03) + u23 * (u00))) - u43 * (u30 * (- u21 * (u04) + u24 * (u01)) - u31 * (- u20 * (u04) + u24 * (u00)) + u34 * (- u20 * (u01) + u21 * (u00))) + u44 * (u30 * (- u21 * (u03) + u23 * (u01)) - u31 * (- u20 * (u03) + u23 * (u00)) + u33 * (- u20 * (u01) + u21 * (u00)))) * u10 + (- u40 * (u31 * (- u13 * (u04) + u14 * (u03)) - u33 * (- u11 * (u04) + u14 * (u01)) + u34 * (- u11 * (u03) + u13 * (u01))) + u41 * (u30 * (- u13 * (u04) + u14 * (u03)) - u33 * (- u10 * (u04) + u14 * (u00)) + u34 * (- u10 * (u03) + u13 * (u00))) - u43 * (u30 * (- u11 * (u04) + u14 * (u01)) - u31 * (- u10 * (u04) + u14 * (u00)) + u34 * (- u10 * (u01) + u11 * (u00))) + u44 * (u30 * (- u11 * (u03) + u13 * (u01)) - u31 * (- u10 * (u03) + u13 * (u00)) + u33 * (- u10 * (u01) + u11 * (u00)))) * u20 + -(- u40 * (u21 * (- u13 * (u04) + u14 * (u03)) - u23 * (- u11 * (u04) + u14 * (u01)) + u24 * (- u11 * (u03) + u13 * (u01))) + u41 * (u20 * (- u13 * (u04) + u14 * (u03)) - u23 * (- u10 * (u04) + u14 * (u00)) + u24 * (- u10 * (u03) + u13 * (u00))) - u43 * (u20 * (- u11 * (u04) + u14 * (u01)) - u21 * (- u10 * (u04) + u14 * (u00)) + u24 * (- u10 * (u01) + u11 * (u00))) + u44 * (u20 * (- u11 * (u03) + u13 * (u01)) - u21 * (- u10 * (u03) + u13 * (u00)) + u23 * (- u10 * (u01) + u11 * (u00)))) * u30 + (- u30 * (u21 * (- u13 * (u04) + u14 * (u03)) - u23 * (- u11 * (u04) + u14 * (u01)) + u24 * (- u11 * (u03) + u13 * (u01))) + u31 * (u20 * (- u13 * (u04) + u14 * (u03)) - u23 * (- u10 * (u04) + u14 * (u00)) + u24 * (- u10 * (u03) + u13 * (u00))) - u33 * (u20 * (- u11 * (u04) + u14 * (u01)) - u21 * (- u10 * (u04) + u14 * (u00)) + u24 * (- u10 * (u01) + u11 * (u00))) + u34 * (u20 * (- u11 * (u03) + u13 * (u01)) - u21 * (- u10 * (u03) + u13 * (u00)) + u23 * (- u10 * (u01) + u11 * (u00)))) * u40 = 0 := by grind
theorem adj_2_1 (u00 u01 u02 u03 u04 u10 u11 u12 u13 u14 u20 u21 u22 u23 u24 u30 u31 u32 u33 u34 u40 u41 u42 u43 u44 : Int) : (- u40 * (u31 * (- u23 * (u14) + u24 * (u13)) - u33 * (- u21 * (u14) + u24 * (u11)) + u34 * (- u21 * (u13) + u23 * (u11))) + u41 * (u30 * (- u23 * (u14) + u24 * (u13)) - u33 * (- u20 * (u14) + u24 * (u10)) + u34 * (- u20 * (u13) + u23 * (u10))) - u43 * (u30 * (- u21 * (u14) + u24 * (u11)) - u31 * (- u20 * (u14) + u24 * (u10)) + u34 * (- u20 * (u11) + u21 * (u10))) + u44 * (u30 * (- u21 * (u13) + u23 * (u11)) - u31 * (- u20 * (u13) + u23 * (u10)) + u33 * (- u20 * (u11) + u21 * (u10)))) * u01 + -(- u40 * (u31 * (- u23 * (u04) + u24 * (u03)) - u33 * (- u21 * (u04) + u24 * (u01)) + u34 * (- u21 * (u03) + u23 * (u01))) + u41 * (u30 * (- u23 * (u04) + u24 * (u03)) - u33 * (- u20 * (u04) + u24 * (u00)) + u34 * (- u20 * (u03) + u23 * (u00))) - u43 * (u30 * (- u21 * (u04) + u24 * (u01)) - u31 * (- u20 * (u04) + u24 * (u00)) + u34 * (- u20 * (u01) + u21 * (u00))) + u44 * (u30 * (- u21 * (u03) + u23 * (u01)) - u31 * (- u20 * (u03) + u23 * (u00)) + u33 * (- u20 * (u01) + u21 * (u00)))) * u11 + (- u40 * (u31 * (- u13 * (u04) + u14 * (u03)) - u33 * (- u11 * (u04) + u14 * (u01)) + u34 * (- u11 * (u03) + u13 * (u01))) + u41 * (u30 * (- u13 * (u04) + u14 * (u03)) - u33 * (- u10 * (u04) + u14 * (u00)) + u34 * (- u10 * (u03) + u13 * (u00))) - u43 * (u30 * (- u11 * (u04) + u14 * (u01)) - u31 * (- u10 * (u04) + u14 * (u00)) + u34 * (- u10 * (u01) + u11 * (u00))) + u44 * (u30 * (- u11 * (u03) + u13 * (u01)) - u31 * (- u10 * (u03) + u13 * (u00)) + u33 * (- u10 * (u01) + u11 * (u00)))) * u21 + -(- u40 * (u21 * (- u13 * (u04) + u14 * (u03)) - u23 * (- u11 * (u04) + u14 * (u01)) + u24 * (- u11 * (u03) + u13 * (u01))) + u41 * (u20 * (- u13 * (u04) + u14 * (u03)) - u23 * (- u10 * (u04) + u14 * (u00)) + u24 * (- u10 * (u03) + u13 * (u00))) - u43 * (u20 * (- u11 * (u04) + u14 * (u01)) - u21 * (- u10 * (u04) + u14 * (u00)) + u24 * (- u10 * (u01) + u11 * (u00))) + u44 * (u20 * (- u11 * (u03) + u13 * (u01)) - u21 * (- u10 * (u03) + u13 * (u00)) + u23 * (- u10 * (u01) + u11 * (u00)))) * u31 + (- u30 * (u21 * (- u13 * (u04) + u14 * (u03)) - u23 * (- u11 * (u04) + u14 * (u01)) + u24 * (- u11 * (u03) + u13 * (u01))) + u31 * (u20 * (- u13 * (u04) + u14 * (u03)) - u23 * (- u10 * (u04) + u14 * (u00)) + u24 * (- u10 * (u03) + u13 * (u00))) - u33 * (u20 * (- u11 * (u04) + u14 * (u01)) - u21 * (- u10 * (u04) + u14 * (u00)) + u24 * (- u10 * (u01) + u11 * (u00))) + u34 * (u20 * (- u11 * (u03) + u13 * (u01)) - u21 * (- u10 * (u03) + u13 * (u00)) + u23 * (- u10 * (u01) + u11 * (u00)))) * u41 = 0 := by grind
theorem adj_2_2 (u00 u01 u02 u03 u04 u10 u11 u12 u13 u14 u20 u21 u22 u23 u24 u30 u31 u32 u33 u34 u40 u41 u42 u43 u44 : Int) : (- u40 * (u31 * (- u23 * (u14) + u24 * (u13)) - u33 * (- u21 * (u14) + u24 * (u11)) + u34 * (- u21 * (u13) + u23 * (u11))) + u41 * (u30 * (- u23 * (u14) + u24 * (u13)) - u33 * (- u20 * (u14) + u24 * (u10)) + u34 * (- u20 * (u13) + u23 * (u10))) - u43 * (u30 * (- u21 * (u14) + u24 * (u11)) - u31 * (- u20 * (u14) + u24 * (u10)) + u34 * (- u20 * (u11) + u21 * (u10))) + u44 * (u30 * (- u21 * (u13) + u23 * (u11)) - u31 * (- u20 * (u13) + u23 * (u10)) + u33 * (- u20 * (u11) + u21 * (u10)))) * u02 + -(- u40 * (u31 * (- u23 * (u04) + u24 * (u03)) - u33 * (- u21 * (u04) + u24 * (u01)) + u34 * (- u21 * (u03) + u23 * (u01))) + u41 * (u30 * (- u23 * (u04) + u24 * (u03)) - u33 * (- u20 * (u04) + u24 * (u00)) + u34 * (- u20 * (u03) + u23 * (u00))) - u43 * (u30 * (- u21 * (u04) + u24 * (u01)) - u31 * (- u20 * (u04) + u24 * (u00)) + u34 * (- u20 * (u01) + u21 * (u00))) + u44 * (u30 * (- u21 * (u03) + u23 * (u01)) - u31 * (- u20 * (u03) + u23 * (u00)) + u33 * (- u20 * (u01) + u21 * (u00)))) * u12 + (- u40 * (u31 * (- u13 * (u04) + u14 * (u03)) - u33 * (- u11 * (u04) + u14 * (u01)) + u34 * (- u11 * (u03) + u13 * (u01))) + u41 * (u30 * (- u13 * (u04) + u14 * (u03)) - u33 * (- u10 * (u04) + u14 * (u00)) + u34 * (- u10 * (u03) + u13 * (u00))) - u43 * (u30 * (- u11 * (u04) + u14 * (u01)) - u31 * (- u10 * (u04) + u14 * (u00)) + u34 * (- u10 * (u01) + u11 * (u00))) + u44 * (u30 * (- u11 * (u03) + u13 * (u01)) - u31 * (- u10 * (u03) + u13 * (u00)) + u33 * (- u10 * (u01) + u11 * (u00)))) * u22 + -(- u40 * (u21 * (- u13 * (u04) + u14 * (u03)) - u23 * (- u11 * (u04) + u14 * (u01)) + u24 * (- u11 * (u03) + u13 * (u01))) + u41 * (u20 * (- u13 * (u04) + u14 * (u03)) - u23 * (- u10 * (u04) + u14 * (u00)) + u24 * (- u10 * (u03) + u13 * (u00))) - u43 * (u20 * (- u11 * (u04) + u14 * (u01)) - u21 * (- u10 * (u04) + u14 * (u00)) + u24 * (- u10 * (u01) + u11 * (u00))) + u44 * (u20 * (- u11 * (u03) + u13 * (u01)) - u21 * (- u10 * (u03) + u13 * (u00)) + u23 * (- u10 * (u01) + u11 * (u00)))) * u32 + (- u30 * (u21 * (- u13 * (u04) + u14 * (u03)) - u23 * (- u11 * (u04) + u14 * (u01)) + u24 * (- u11 * (u03) + u13 * (u01))) + u31 * (u20 * (- u13 * (u04) + u14 * (u03)) - u23 * (- u10 * (u04) + u14 * (u00)) + u24 * (- u10 * (u03) + u13 * (u00))) - u33 * (u20 * (- u11 * (u04) + u14 * (u01)) - u21 * (- u10 * (u04) + u14 * (u00)) + u24 * (- u10 * (u01) + u11 * (u00))) + u34 * (u20 * (- u11 * (u03) + u13 * (u01)) - u21 * (- u10 * (u03) + u13 * (u00)) + u23 * (- u10 * (u01) + u11 * (u00)))) * u42 = (u40 * (- u31 * (u22 * (- u13 * (u04) + u14 * (u03)) - u23 * (- u12 * (u04) + u14 * (u02)) + u24 * (- u12 * (u03) + u13 * (u02))) + u32 * (u21 * (- u13 * (u04) + u14 * (u03)) - u23 * (- u11 * (u04) + u14 * (u01)) + u24 * (- u11 * (u03) + u13 * (u01))) - u33 * (u21 * (- u12 * (u04) + u14 * (u02)) - u22 * (- u11 * (u04) + u14 * (u01)) + u24 * (- u11 * (u02) + u12 * (u01))) + u34 * (u21 * (- u12 * (u03) + u13 * (u02)) - u22 * (- u11 * (u03) + u13 * (u01)) + u23 * (- u11 * (u02) + u12 * (u01)))) - u41 * (- u30 * (u22 * (- u13 * (u04) + u14 * (u03)) - u23 * (- u12 * (u04) + u14 * (u02)) + u24 * (- u12 * (u03) + u13 * (u02))) + u32 * (u20 * (- u13 * (u04) + u14 * (u03)) - u23 * (- u10 * (u04) + u14 * (u00)) + u24 * (- u10 * (u03) + u13 * (u00))) - u33 * (u20 * (- u12 * (u04) + u14 * (u02)) - u22 * (- u10 * (u04) + u14 * (u00)) + u24 * (- u10 * (u02) + u12 * (u00))) + u34 * (u20 * (- u12 * (u03) + u13 * (u02)) - u22 * (- u10 * (u03) + u13 * (u00)) + u23 * (- u10 * (u02) + u12 * (u00)))) + u42 * (- u30 * (u21 * (- u13 * (u04) + u14 * (u03)) - u23 * (- u11 * (u04) + u14 * (u01)) + u24 * (- u11 * (u03) + u13 * (u01))) + u31 * (u20 * (- u13 * (u04) + u14 * (u03)) - u23 * (- u10 * (u04) + u14 * (u00)) + u24 * (- u10 * (u03) + u13 * (u00))) - u33 * (u20 * (- u11 * (u04) + u14 * (u01)) - u21 * (- u10 * (u04) + u14 * (u00)) + u24 * (- u10 * (u01) + u11 * (u00))) + u34 * (u20 * (- u11 * (u03) + u13 * (u01)) - u21 * (- u10 * (u03) + u13 * (u00)) + u23 * (- u10 * (u01) + u11 * (u00)))) - u43 * (- u30 * (u21 * (- u12 * (u04) + u14 * (u02)) - u22 * (- u11 * (u04) + u14 * (u01)) + u24 * (- u11 * (u02) + u12 * (u01))) + u31 * (u20 * (- u12 * (u04) + u14 * (u02)) - u22 * (- u10 * (u04) + u14 * (u00)) + u24 * (- u10 * (u02) + u12 * (u00))) - u32 * (u20 * (- u11 * (u04) + u14 * (u01)) - u21 * (- u10 * (u04) + u14 * (u00)) + u24 * (- u10 * (u01) + u11 * (u00))) + u34 * (u20 * (- u11 * (u02) + u12 * (u01)) - u21 * (- u10 * (u02) + u12 * (u00)) + u22 * (- u10 * (u01) + u11 * (u00)))) + u44 * (- u30 * (u21 * (- u12 * (u03) + u13 * (u02)) - u22 * (- u11 * (u03) + u13 * (u01)) + u23 * (- u11 * (u02) + u12 * (u01))) + u31 * (u20 * (- u12 * (u03) + u13 * (u02)) - u22 * (- u10 * (u03) + u13 * (u00)) + u23 * (- u10 * (u02) + u12 * (u00))) - u32 * (u20 * (- u11 * (u03) + u13 * (u01)) - u21 * (- u10 * (u03) + u13 * (u00)) + u23 * (- u10 * (u01) + u11 * (u00))) + u33 * (u20 * (- u11 * (u02) + u12 * (u01)) - u21 * (- u10 * (u02) + u12 * (u00)) + u22 * (- u10 * (u01) + u11 * (u00))))) := by grind
theorem adj_2_3 (u00 u01 u02 u03 u04 u10 u11 u12 u13 u14 u20 u21 u22 u23 u24 u30 u31 u32 u33 u34 u40 u41 u42 u43 u44 : Int) : (- u40 * (u31 * (- u23 * (u14) + u24 * (u13)) - u33 * (- u21 * (u14) + u24 * (u11)) + u34 * (- u21 * (u13) + u23 * (u11))) + u41 * (u30 * (- u23 * (u14) + u24 * (u13)) - u33 * (- u20 * (u14) + u24 * (u10)) + u34 * (- u20 * (u13) + u23 * (u10))) - u43 * (u30 * (- u21 * (u14) + u24 * (u11)) - u31 * (- u20 * (u14) + u24 * (u10)) + u34 * (- u20 * (u11) + u21 * (u10))) + u44 * (u30 * (- u21 * (u13) + u23 * (u11)) - u31 * (- u20 * (u13) + u23 * (u10)) + u33 * (- u20 * (u11) + u21 * (u10)))) * u03 + -(- u40 * (u31 * (- u23 * (u04) + u24 * (u03)) - u33 * (- u21 * (u04) + u24 * (u01)) + u34 * (- u21 * (u03) + u23 * (u01))) + u41 * (u30 * (- u23 * (u04) + u24 * (u03)) - u33 * (- u20 * (u04) + u24 * (u00)) + u34 * (- u20 * (u03) + u23 * (u00))) - u43 * (u30 * (- u21 * (u04) + u24 * (u01)) - u31 * (- u20 * (u04) + u24 * (u00)) + u34 * (- u20 * (u01) + u21 * (u00))) + u44 * (u30 * (- u21 * (u03) + u23 * (u01)) - u31 * (- u20 * (u03) + u23 * (u00)) + u33 * (- u20 * (u01) + u21 * (u00)))) * u13 + (- u40 * (u31 * (- u13 * (u04) + u14 * (u03)) - u33 * (- u11 * (u04) + u14 * (u01)) + u34 * (- u11 * (u03) + u13 * (u01))) + u41 * (u30 * (- u13 * (u04) + u14 * (u03)) - u33 * (- u10 * (u04) + u14 * (u00)) + u34 * (- u10 * (u03) + u13 * (u00))) - u43 * (u30 * (- u11 * (u04) + u14 * (u01)) - u31 * (- u10 * (u04) + u14 * (u00)) + u34 * (- u10 * (u01) + u11 * (u00))) + u44 * (u30 * (- u11 * (u03) + u13 * (u01)) - u31 * (- u10 * (u03) + u13 * (u00)) + u33 * (- u10 * (u01) + u11 * (u00)))) * u23 + -(- u40 * (u21 * (- u13 * (u04) + u14 * (u03)) - u23 * (- u11 * (u04) + u14 * (u01)) + u24 * (- u11 * (u03) + u13 * (u01))) + u41 * (u20 * (- u13 * (u04) + u14 * (u03)) - u23 * (- u10 * (u04) + u14 * (u00)) + u24 * (- u10 * (u03) + u13 * (u00))) - u43 * (u20 * (- u11 * (u04) + u14 * (u01)) - u21 * (- u10 * (u04) + u14 * (u00)) + u24 * (- u10 * (u01) + u11 * (u00))) + u44 * (u20 * (- u11 * (u03) + u13 * (u01)) - u21 * (- u10 * (u03) + u13 * (u00)) + u23 * (- u10 * (u01) + u11 * (u00)))) * u33 + (- u30 * (u21 * (- u13 * (u04) + u14 * (u03)) - u23 * (- u11 * (u04) + u14 * (u01)) + u24 * (- u11 * (u03) + u13 * (u01))) + u31 * (u20 * (- u13 * (u04) + u14 * (u03)) - u23 * (- u10 * (u04) + u14 * (u00)) + u24 * (- u10 * (u03) + u13 * (u00))) - u33 * (u20 * (- u11 * (u04) + u14 * (u01)) - u21 * (- u10 * (u04) + u14 * (u00)) + u24 * (- u10 * (u01) + u11 * (u00))) + u34 * (u20 * (- u11 * (u03) + u13 * (u01)) - u21 * (- u10 * (u03) + u13 * (u00)) + u23 * (- u10 * (u01) + u11 * (u00)))) * u43 = 0 := by grind
theorem adj_2_4 (u00 u01 u02 u03 u04 u10 u11 u12 u13 u14 u20 u21 u22 u23 u24 u30 u31 u32 u33 u34 u40 u41 u42 u43 u44 : Int) : (- u40 * (u31 * (- u23 * (u14) + u24 * (u13)) - u33 * (- u21 * (u14) + u24 * (u11)) + u34 * (- u21 * (u13) + u23 * (u11))) + u41 * (u30 * (- u23 * (u14) + u24 * (u13)) - u33 * (- u20 * (u14) + u24 * (u10)) + u34 * (- u20 * (u13) + u23 * (u10))) - u43 * (u30 * (- u21 * (u14) + u24 * (u11)) - u31 * (- u20 * (u14) + u24 * (u10)) + u34 * (- u20 * (u11) + u21 * (u10))) + u44 * (u30 * (- u21 * (u13) + u23 * (u11)) - u31 * (- u20 * (u13) + u23 * (u10)) + u33 * (- u20 * (u11) + u21 * (u10)))) * u04 + -(- u40 * (u31 * (- u23 * (u04) + u24 * (u03)) - u33 * (- u21 * (u04) + u24 * (u01)) + u34 * (- u21 * (u03) + u23 * (u01))) + u41 * (u30 * (- u23 * (u04) + u24 * (u03)) - u33 * (- u20 * (u04) + u24 * (u00)) + u34 * (- u20 * (u03) + u23 * (u00))) - u43 * (u30 * (- u21 * (u04) + u24 * (u01)) - u31 * (- u20 * (u04) + u24 * (u00)) + u34 * (- u20 * (u01) + u21 * (u00))) + u44 * (u30 * (- u21 * (u03) + u23 * (u01)) - u31 * (- u20 * (u03) + u23 * (u00)) + u33 * (- u20 * (u01) + u21 * (u00)))) * u14 + (- u40 * (u31 * (- u13 * (u04) + u14 * (u03)) - u33 * (- u11 * (u04) + u14 * (u01)) + u34 * (- u11 * (u03) + u13 * (u01))) + u41 * (u30 * (- u13 * (u04) + u14 * (u03)) - u33 * (- u10 * (u04) + u14 * (u00)) + u34 * (- u10 * (u03) + u13 * (u00))) - u43 * (u30 * (- u11 * (u04) + u14 * (u01)) - u31 * (- u10 * (u04) + u14 * (u00)) + u34 * (- u10 * (u01) + u11 * (u00))) + u44 * (u30 * (- u11 * (u03) + u13 * (u01)) - u31 * (- u10 * (u03) + u13 * (u00)) + u33 * (- u10 * (u01) + u11 * (u00)))) * u24 + -(- u40 * (u21 * (- u13 * (u04) + u14 * (u03)) - u23 * (- u11 * (u04) + u14 * (u01)) + u24 * (- u11 * (u03) + u13 * (u01))) + u41 * (u20 * (- u13 * (u04) + u14 * (u03)) - u23 * (- u10 * (u04) + u14 * (u00)) + u24 * (- u10 * (u03) + u13 * (u00))) - u43 * (u20 * (- u11 * (u04) + u14 * (u01)) - u21 * (- u10 * (u04) + u14 * (u00)) + u24 * (- u10 * (u01) + u11 * (u00))) + u44 * (u20 * (- u11 * (u03) + u13 * (u01)) - u21 * (- u10 * (u03) + u13 * (u00)) + u23 * (- u10 * (u01) + u11 * (u00)))) * u34 + (- u30 * (u21 * (- u13 * (u04) + u14 * (u03)) - u23 * (- u11 * (u04) + u14 * (u01)) + u24 * (- u11 * (u03) + u13 * (u01))) + u31 * (u20 * (- u13 * (u04) + u14 * (u03)) - u23 * (- u10 * (u04) + u14 * (u00)) + u24 * (- u10 * (u03) + u13 * (u00))) - u33 * (u20 * (- u11 * (u04) + u14 * (u01)) - u21 * (- u10 * (u04) + u14 * (u00)) + u24 * (- u10 * (u01) + u11 * (u00))) + u34 * (u20 * (- u11 * (u03) + u13 * (u01)) - u21 * (- u10 * (u03) + u13 * (u00)) + u23 * (- u10 * (u01) + u11 * (u00)))) * u44 = 0 := by grind
theorem adj_3_0 (u00 u01 u02 u03 u04 u10 u11 u12 u13 u14 u20 u21 u22 u23 u24 u30 u31 u32 u33 u34 u40 u41 u42 u43 u44 : Int) : -(- u40 * (u31 * (- u22 * (u14) + u24 * (u12)) - u32 * (- u21 * (u14) + u24 * (u11)) + u34 * (- u21 * (u12) + u22 * (u11))) + u41 * (u30 * (- u22 * (u14) + u24 * (u12)) - u32 * (- u20 * (u14) + u24 * (u10)) + u34 * (- u20 * (u12) + u22 * (u10))) - u42 * (u30 * (- u21 * (u14) + u24 * (u11)) - u31 * (- u20 * (u14) + u24 * (u10)) + u34 * (- u20 * (u11) + u21 * (u10))) + u44 * (u30 * (- u21 * (u12) + u22 * (u11)) - u31 * (- u20 * (u12) + u22 * (u10)) + u32 * (- u20 * (u11) + u21 * (u10)))) * u00 + (- u40 * (u31 * (- u22 * (u04) + u24 * (u02)) - u32 * (- u21 * (u04) + u24 * (u01)) + u34 * (- u21 * (u02) + u22 * (u01))) + u41 * (u30 * (- u22 * (u04) + u24 * (u02)) - u32 * (- u20 * (u04) + u24 * (u00)) + u34 * (- u20 * (u02) + u22 * (u00))) - u42 * (u30 * (- u21 * (u04) + u24 * (u01)) - u31 * (- u20 * (u04) + u24 * (u00)) + u34 * (- u20 * (u01) + u21 * (u00))) + u44 * (u30 * (- u21 * (u02) + u22 * (u01)) - u31 * (- u20 * (u02) + u22 * (u00)) + u32 * (- u20 * (u01) + u21 * (u00)))) * u10 + -(- u40 * (u31 * (- u12 * (u04) + u14 * (u02)) - u32 * (- u11 * (u04) + u14 * (u01)) + u34 * (- u11 * (u02) + u12 * (u01))) + u41 * (u30 * (- u12 * (u04) + u14 * (u02)) - u32 * (- u10 * (u04) + u14 * (u00)) + u34 * (- u10 * (u02) + u12 * (u00))) - u42 * (u30 * (- u11 * (u04) + u14 * (u01)) - u31 * (- u10 * (u04) + u14 * (u00)) + u34 * (- u10 * (u01) + u11 * (u00))) + u44 * (u30 * (- u11 * (u02) + u12 * (u01)) - u31 * (- u10 * (u02) + u12 * (u00)) + u32 * (- u10 * (u01) + u11 * (u00)))) * u20 + (- u40 * (u21 * (- u12 * (u04) + u14 * (u02)) - u22 * (- u11 * (u04) + u14 * (u01)) + u24 * (- u11 * (u02) + u12 * (u01))) + u41 * (u20 * (- u12 * (u04) + u14 * (u02)) - u22 * (- u10 * (u04) + u14 * (u00)) + u24 * (- u10 * (u02) + u12 * (u00))) - u42 * (u20 * (- u11 * (u04) + u14 * (u01)) - u21 * (- u10 * (u04) + u14 * (u00)) + u24 * (- u10 * (u01) + u11 * (u00))) + u44 * (u20 * (- u11 * (u02) + u12 * (u01)) - u21 * (- u10 * (u02) + u12 * (u00)) + u22 * (- u10 * (u01) + u11 * (u00)))) * u30 + -(- u30 * (u21 * (- u12 * (u04) + u14 * (u02)) - u22 * (- u11 * (u04) + u14 * (u01)) + u24 * (- u11 * (u02) + u12 * (u01))) + u31 * (u20 * (- u12 * (u04) + u14 * (u02)) - u22 * (- u10 * (u04) + u14 * (u00)) + u24 * (- u10 * (u02) + u12 * (u00))) - u32 * (u20 * (- u11 * (u04) + u14 * (u01)) - u21 * (- u10 * (u04) + u14 * (u00)) + u24 * (- u10 * (u01) + u11 * (u00))) + u34 * (u20 * (- u11 * (u02) + u12 * (u01)) - u21 * (- u10 * (u02) + u12 * (u00)) + u22 * (- u10 * (u01) + u11 * (u00)))) * u40 = 0 := by grind
theorem adj_3_1 (u00 u01 u02 u03 u04 u10 u11 u12 u13 u14 u20 u21 u22 u23 u24 u30 u31 u32 u33 u34 u40 u41 u42 u43 u44 : Int) : -(- u40 * (u31 * (- u22 * (u14) + u24 * (u12)) - u32 * (- u21 * (u14) + u24 * (u11)) + u34 * (- u21 * (u12) + u22 * (u11))) + u41 * (u30 * (- u22 * (u14) + u24 * (u12)) - u32 * (- u20 * (u14) + u24 * (u10)) + u34 * (- u20 * (u12) + u22 * (u10))) - u42 * (u30 * (- u21 * (u14) + u24 * (u11)) - u31 * (- u20 * (u14) + u24 * (u10)) + u34 * (- u20 * (u11) + u21 * (u10))) + u44 * (u30 * (- u21 * (u12) + u22 * (u11)) - u31 * (- u20 * (u12) + u22 * (u10)) + u32 * (- u20 * (u11) + u21 * (u10)))) * u01 + (- u40 * (u31 * (- u22 * (u04) + u24 * (u02)) - u32 * (- u21 * (u04) + u24 * (u01)) + u34 * (- u21 * (u02) + u22 * (u01))) + u41 * (u30 * (- u22 * (u04) + u24 * (u02)) - u32 * (- u20 * (u04) + u24 * (u00)) + u34 * (- u20 * (u02) + u22 * (u00))) - u42 * (u30 * (- u21 * (u04) + u24 * (u01)) - u31 * (- u20 * (u04) + u24 * (u00)) + u34 * (- u20 * (u01) + u21 * (u00))) + u44 * (u30 * (- u21 * (u02) + u22 * (u01)) - u31 * (- u20 * (u02) + u22 * (u00)) + u32 * (- u20 * (u01) + u21 * (u00)))) * u11 + -(- u40 * (u31 * (- u12 * (u04) + u14 * (u02)) - u32 * (- u11 * (u04) + u14 * (u01)) + u34 * (- u11 * (u02) + u12 * (u01))) + u41 * (u30 * (- u12 * (u04) + u14 * (u02)) - u32 * (- u10 * (u04) + u14 * (u00)) + u34 * (- u10 * (u02) + u12 * (u00))) - u42 * (u30 * (- u11 * (u04) + u14 * (u01)) - u31 * (- u10 * (u04) + u14 * (u00)) + u34 * (- u10 * (u01) + u11 * (u00))) + u44 * (u30 * (- u11 * (u02) + u12 * (u01)) - u31 * (- u10 * (u02) + u12 * (u00)) + u32 * (- u10 * (u01) + u11 * (u00)))) * u21 + (- u40 * (u21 * (- u12 * (u04) + u14 * (u02)) - u22 * (- u11 * (u04) + u14 * (u01)) + u24 * (- u11 * (u02) + u12 * (u01))) + u41 * (u20 * (- u12 * (u04) + u14 * (u02)) - u22 * (- u10 * (u04) + u14 * (u00)) + u24 * (- u10 * (u02) + u12 * (u00))) - u42 * (u20 * (- u11 * (u04) + u14 * (u01)) - u21 * (- u10 * (u04) + u14 * (u00)) + u24 * (- u10 * (u01) + u11 * (u00))) + u44 * (u20 * (- u11 * (u02) + u12 * (u01)) - u21 * (- u10 * (u02) + u12 * (u00)) + u22 * (- u10 * (u01) + u11 * (u00)))) * u31 + -(- u30 * (u21 * (- u12 * (u04) + u14 * (u02)) - u22 * (- u11 * (u04) + u14 * (u01)) + u24 * (- u11 * (u02) + u12 * (u01))) + u31 * (u20 * (- u12 * (u04) + u14 * (u02)) - u22 * (- u10 * (u04) + u14 * (u00)) + u24 * (- u10 * (u02) + u12 * (u00))) - u32 * (u20 * (- u11 * (u04) + u14 * (u01)) - u21 * (- u10 * (u04) + u14 * (u00)) + u24 * (- u10 * (u01) + u11 * (u00))) + u34 * (u20 * (- u11 * (u02) + u12 * (u01)) - u21 * (- u10 * (u02) + u12 * (u00)) + u22 * (- u10 * (u01) + u11 * (u00)))) * u41 = 0 := by grind
theorem adj_3_2 (u00 u01 u02 u03 u04 u10 u11 u12 u13 u14 u20 u21 u22 u23 u24 u30 u31 u32 u33 u34 u40 u41 u42 u43 u44 : Int) : -(- u40 * (u31 * (- u22 * (u14) + u24 * (u12)) - u32 * (- u21 * (u14) + u24 * (u11)) + u34 * (- u21 * (u12) + u22 * (u11))) + u41 * (u30 * (- u22 * (u14) + u24 * (u12)) - u32 * (- u20 * (u14) + u24 * (u10)) + u34 * (- u20 * (u12) + u22 * (u10))) - u42 * (u30 * (- u21 * (u14) + u24 * (u11)) - u31 * (- u20 * (u14) + u24 * (u10)) + u34 * (- u20 * (u11) + u21 * (u10))) + u44 * (u30 * (- u21 * (u12) + u22 * (u11)) - u31 * (- u20 * (u12) + u22 * (u10)) + u32 * (- u20 * (u11) + u21 * (u10)))) * u02 + (- u40 * (u31 * (- u22 * (u04) + u24 * (u02)) - u32 * (- u21 * (u04) + u24 * (u01)) + u34 * (- u21 * (u02) + u22 * (u01))) + u41 * (u30 * (- u22 * (u04) + u24 * (u02)) - u32 * (- u20 * (u04) + u24 * (u00)) + u34 * (- u20 * (u02) + u22 * (u00))) - u42 * (u30 * (- u21 * (u04) + u24 * (u01)) - u31 * (- u20 * (u04) + u24 * (u00)) + u34 * (- u20 * (u01) + u21 * (u00))) + u44 * (u30 * (- u21 * (u02) + u22 * (u01)) - u31 * (- u20 * (u02) + u22 * (u00)) + u32 * (- u20 * (u01) + u21 * (u00)))) * u12 + -(- u40 * (u31 * (- u12 * (u04) + u14 * (u02)) - u32 * (- u11 * (u04) + u14 * (u01)) + u34 * (- u11 * (u02) + u12 * (u01))) + u41 * (u30 * (- u12 * (u04) + u14 * (u02)) - u32 * (- u10 * (u04) + u14 * (u00)) + u34 * (- u10 * (u02) + u12 * (u00))) - u42 * (u30 * (- u11 * (u04) + u14 * (u01)) - u31 * (- u10 * (u04) + u14 * (u00)) + u34 * (- u10 * (u01) + u11 * (u00))) + u44 * (u30 * (- u11 * (u02) + u12 * (u01)) - u31 * (- u10 * (u02) + u12 * (u00)) + u32 * (- u10 * (u01) + u11 * (u00)))) * u22 + (- u40 * (u21 * (- u12 * (u04) + u14 * (u02)) - u22 * (- u11 * (u04) + u14 * (u01)) + u24 * (- u11 * (u02) + u12 * (u01))) + u41 * (u20 * (- u12 * (u04) + u14 * (u02)) - u22 * (- u10 * (u04) + u14 * (u00)) + u24 * (- u10 * (u02) + u12 * (u00))) - u42 * (u20 * (- u11 * (u04) + u14 * (u01)) - u21 * (- u10 * (u04) + u14 * (u00)) + u24 * (- u10 * (u01) + u11 * (u00))) + u44 * (u20 * (- u11 * (u02) + u12 * (u01)) - u21 * (- u10 * (u02) + u12 * (u00)) + u22 * (- u10 * (u01) + u11 * (u00)))) * u32 + -(- u30 * (u21 * (- u12 * (u04) + u14 * (u02)) - u22 * (- u11 * (u04) + u14 * (u01)) + u24 * (- u11 * (u02) + u12 * (u01))) + u31 * (u20 * (- u12 * (u04) + u14 * (u02)) - u22 * (- u10 * (u04) + u14 * (u00)) + u24 * (- u10 * (u02) + u12 * (u00))) - u32 * (u20 * (- u11 * (u04) + u14 * (u01)) - u21 * (- u10 * (u04) + u14 * (u00)) + u24 * (- u10 * (u01) + u11 * (u00))) + u34 * (u20 * (- u11 * (u02) + u12 * (u01)) - u21 * (- u10 * (u02) + u12 * (u00)) + u22 * (- u10 * (u01) + u11 * (u00)))) * u42 = 0 := by grind
theorem adj_3_3 (u00 u01 u02 u03 u04 u10 u11 u12 u13 u14 u20 u21 u22 u23 u24 u30 u31 u32 u33 u34 u40 u41 u42 u43 u44 : Int) : -(- u40 * (u31 * (- u22 * (u14) + u24 * (u12)) - u32 * (- u21 * (u14) + u24 * (u11)) + u34 * (- u21 * (u12) + u22 * (u11))) + u41 * (u30 * (- u22 * (u14) + u24 * (u12)) - u32 * (- u20 * (u14) + u24 * (u10)) + u34 * (- u20 * (u12) + u22 * (u10))) - u42 * (u30 * (- u21 * (u14) + u24 * (u11)) - u31 * (- u20 * (u14) + u24 * (u10)) + u34 * (- u20 * (u11) + u21 * (u10))) + u44 * (u30 * (- u21 * (u12) + u22 * (u11)) - u31 * (- u20 * (u12) + u22 * (u10)) + u32 * (- u20 * (u11) + u21 * (u10)))) * u03 + (- u40 * (u31 * (- u22 * (u04) + u24 * (u02)) - u32 * (- u21 * (u04) + u24 * (u01)) + u34 * (- u21 * (u02) + u22 * (u01))) + u41 * (u30 * (- u22 * (u04) + u24 * (u02)) - u32 * (- u20 * (u04) + u24 * (u00)) + u34 * (- u20 * (u02) + u22 * (u00))) - u42 * (u30 * (- u21 * (u04) + u24 * (u01)) - u31 * (- u20 * (u04) + u24 * (u00)) + u34 * (- u20 * (u01) + u21 * (u00))) + u44 * (u30 * (- u21 * (u02) + u22 * (u01)) - u31 * (- u20 * (u02) + u22 * (u00)) + u32 * (- u20 * (u01) + u21 * (u00)))) * u13 + -(- u40 * (u31 * (- u12 * (u04) + u14 * (u02)) - u32 * (- u11 * (u04) + u14 * (u01)) + u34 * (- u11 * (u02) + u12 * (u01))) + u41 * (u30 * (- u12 * (u04) + u14 * (u02)) - u32 * (- u10 * (u04) + u14 * (u00)) + u34 * (- u10 * (u02) + u12 * (u00))) - u42 * (u30 * (- u11 * (u04) + u14 * (u01)) - u31 * (- u10 * (u04) + u14 * (u00)) + u34 * (- u10 * (u01) + u11 * (u00))) + u44 * (u30 * (- u11 * (u02) + u12 * (u01)) - u31 * (- u10 * (u02) + u12 * (u00)) + u32 * (- u10 * (u01) + u11 * (u00)))) * u23 + (- u40 * (u21 * (- u12 * (u04) + u14 * (u02)) - u22 * (- u11 * (u04) + u14 * (u01)) + u24 * (- u11 * (u02) + u12 * (u01))) + u41 * (u20 * (- u12 * (u04) + u14 * (u02)) - u22 * (- u10 * (u04) + u14 * (u00)) + u24 * (- u10 * (u02) + u12 * (u00))) - u42 * (u20 * (- u11 * (u04) + u14 * (u01)) - u21 * (- u10 * (u04) + u14 * (u00)) + u24 * (- u10 * (u01) + u11 * (u00))) + u44 * (u20 * (- u11 * (u02) + u12 * (u01)) - u21 * (- u10 * (u02) + u12 * (u00)) + u22 * (- u10 * (u01) + u11 * (u00)))) * u33 + -(- u30 * (u21 * (- u12 * (u04) + u14 * (u02)) - u22 * (- u11 * (u04) + u14 * (u01)) + u24 * (- u11 * (u02) + u12 * (u01))) + u31 * (u20 * (- u12 * (u04) + u14 * (u02)) - u22 * (- u10 * (u04) + u14 * (u00)) + u24 * (- u10 * (u02) + u12 * (u00))) - u32 * (u20 * (- u11 * (u04) + u14 * (u01)) - u21 * (- u10 * (u04) + u14 * (u00)) + u24 * (- u10 * (u01) + u11 * (u00))) + u34 * (u20 * (- u11 * (u02) + u12 * (u01)) - u21 * (- u10 * (u02) + u12 * (u00)) + u22 * (- u10 * (u01) + u11 * (u00)))) * u43 = (u40 * (- u31 * (u22 * (- u13 * (u04) + u14 * (u03)) - u23 * (- u12 * (u04) + u14 * (u02)) + u24 * (- u12 * (u03) + u13 * (u02))) + u32 * (u21 * (- u13 * (u04) + u14 * (u03)) - u23 * (- u11 * (u04) + u14 * (u01)) + u24 * (- u11 * (u03) + u13 * (u01))) - u33 * (u21 * (- u12 * (u04) + u14 * (u02)) - u22 * (- u11 * (u04) + u14 * (u01)) + u24 * (- u11 * (u02) + u12 * (u01))) + u34 * (u21 * (- u12 * (u03) + u13 * (u02)) - u22 * (- u11 * (u03) + u13 * (u01)) + u23 * (- u11 * (u02) + u12 * (u01)))) - u41 * (- u30 * (u22 * (- u13 * (u04) + u14 * (u03)) - u23 * (- u12 * (u04) + u14 * (u02)) + u24 * (- u12 * (u03) + u13 * (u02))) + u32 * (u20 * (- u13 * (u04) + u14 * (u03)) - u23 * (- u10 * (u04) + u14 * (u00)) + u24 * (- u10 * (u03) + u13 * (u00))) - u33 * (u20 * (- u12 * (u04) + u14 * (u02)) - u22 * (- u10 * (u04) + u14 * (u00)) + u24 * (- u10 * (u02) + u12 * (u00))) + u34 * (u20 * (- u12 * (u03) + u13 * (u02)) - u22 * (- u10 * (u03) + u13 * (u00)) + u23 * (- u10 * (u02) + u12 * (u00)))) + u42 * (- u30 * (u21 * (- u13 * (u04) + u14 * (u03)) - u23 * (- u11 * (u04) + u14 * (u01)) + u24 * (- u11 * (u03) + u13 * (u01))) + u31 * (u20 * (- u13 * (u04) + u14 * (u03)) - u23 * (- u10 * (u04) + u14 * (u00)) + u24 * (- u10 * (u03) + u13 * (u00))) - u33 * (u20 * (- u11 * (u04) + u14 * (u01)) - u21 * (- u10 * (u04) + u14 * (u00)) + u24 * (- u10 * (u01) + u11 * (u00))) + u34 * (u20 * (- u11 * (u03) + u13 * (u01)) - u21 * (- u10 * (u03) + u13 * (u00)) + u23 * (- u10 * (u01) + u11 * (u00)))) - u43 * (- u30 * (u21 * (- u12 * (u04) + u14 * (u02)) - u22 * (- u11 * (u04) + u14 * (u01)) + u24 * (- u11 * (u02) + u12 * (u01))) + u31 * (u20 * (- u12 * (u04) + u14 * (u02)) - u22 * (- u10 * (u04) + u14 * (u00)) + u24 * (- u10 * (u02) + u12 * (u00))) - u32 * (u20 * (- u11 * (u04) + u14 * (u01)) - u21 * (- u10 * (u04) + u14 * (u00)) + u24 * (- u10 * (u01) + u11 * (u00))) + u34 * (u20 * (- u11 * (u02) + u12 * (u01)) - u21 * (- u10 * (u02) + u12 * (u00)) + u22 * (- u10 * (u01) + u11 * (u00)))) + u44 * (- u30 * (u21 * (- u12 * (u03) + u13 * (u02)) - u22 * (- u11 * (u03) + u13 * (u01)) + u23 * (- u11 * (u02) + u12 * (u01))) + u31 * (u20 * (- u12 * (u03) + u13 * (u02)) - u22 * (- u10 * (u03) + u13 * (u00)) + u23 * (- u10 * (u02) + u12 * (u00))) - u32 * (u20 * (- u11 * (u03) + u13 * (u01)) - u21 * (- u10 * (u03) + u13 * (u00)) + u23 * (- u10 * (u01) + u11 * (u00))) + u33 * (u20 * (- u11 * (u02) + u12 * (u01)) - u21 * (- u10 * (u02) + u12 * (u00)) + u22 * (- u10 * (u01) + u11 * (u00))))) := by grind
theorem adj_3_4 (u00 u01 u02 u03 u04 u10 u11 u12 u13 u14 u20 u21 u22 u23 u24 u30 u31 u32 u33 u34 u40 u41 u42 u43 u44 : Int) : -(- u40 * (u31 * (- u22 * (u14) + u24 * (u12)) - u32 * (- u21 * (u14) + u24 * (u11)) + u34 * (- u21 * (u12) + u22 * (u11))) + u41 * (u30 * (- u22 * (u14) + u24 * (u12)) - u32 * (- u20 * (u14) + u24 * (u10)) + u34 * (- u20 * (u12) + u22 * (u10))) - u42 * (u30 * (- u21 * (u14) + u24 * (u11)) - u31 * (- u20 * (u14) + u24 * (u10)) + u34 * (- u20 * (u11) + u21 * (u10))) + u44 * (u30 * (- u21 * (u12) + u22 * (u11)) - u31 * (- u20 * (u12) + u22 * (u10)) + u32 * (- u20 * (u11) + u21 * (u10)))) * u04 + (- u40 * (u31 * (- u22 * (u04) + u24 * (u02)) - u32 * (- u21 * (u04) + u24 * (u01)) + u34 * (- u21 * (u02) + u22 * (u01))) + u41 * (u30 * (- u22 * (u04) + u24 * (u02)) - u32 * (- u20 * (u04) + u24 * (u00)) + u34 * (- u20 * (u02) + u22 * (u00))) - u42 * (u30 * (- u21 * (u04) + u24 * (u01)) - u31 * (- u20 * (u04) + u24 * (u00)) + u34 * (- u20 * (u01) + u21 * (u00))) + u44 * (u30 * (- u21 * (u02) + u22 * (u01)) - u31 * (- u20 * (u02) + u22 * (u00)) + u32 * (- u20 * (u01) + u21 * (u00)))) * u14 + -(- u40 * (u31 * (- u12 * (u04) + u14 * (u02)) - u32 * (- u11 * (u04) + u14 * (u01)) + u34 * (- u11 * (u02) + u12 * (u01))) + u41 * (u30 * (- u12 * (u04) + u14 * (u02)) - u32 * (- u10 * (u04) + u14 * (u00)) + u34 * (- u10 * (u02) + u12 * (u00))) - u42 * (u30 * (- u11 * (u04) + u14 * (u01)) - u31 * (- u10 * (u04) + u14 * (u00)) + u34 * (- u10 * (u01) + u11 * (u00))) + u44 * (u30 * (- u11 * (u02) + u12 * (u01)) - u31 * (- u10 * (u02) + u12 * (u00)) + u32 * (- u10 * (u01) + u11 * (u00)))) * u24 + (- u40 * (u21 * (- u12 * (u04) + u14 * (u02)) - u22 * (- u11 * (u04) + u14 * (u01)) + u24 * (- u11 * (u02) + u12 * (u01))) + u41 * (u20 * (- u12 * (u04) + u14 * (u02)) - u22 * (- u10 * (u04) + u14 * (u00)) + u24 * (- u10 * (u02) + u12 * (u00))) - u42 * (u20 * (- u11 * (u04) + u14 * (u01)) - u21 * (- u10 * (u04) + u14 * (u00)) + u24 * (- u10 * (u01) + u11 * (u00))) + u44 * (u20 * (- u11 * (u02) + u12 * (u01)) - u21 * (- u10 * (u02) + u12 * (u00)) + u22 * (- u10 * (u01) + u11 * (u00)))) * u34 + -(- u30 * (u21 * (- u12 * (u04) + u14 * (u02)) - u22 * (- u11 * (u04) + u14 * (u01)) + u24 * (- u11 * (u02) + u12 * (u01))) + u31 * (u20 * (- u12 * (u04) + u14 * (u02)) - u22 * (- u10 * (u04) + u14 * (u00)) + u24 * (- u10 * (u02) + u12 * (u00))) - u32 * (u20 * (- u11 * (u04) + u14 * (u01)) - u21 * (- u10 * (u04) + u14 * (u00)) + u24 * (- u10 * (u01) + u11 * (u00))) + u34 * (u20 * (- u11 * (u02) + u12 * (u01)) - u21 * (- u10 * (u02) + u12 * (u00)) + u22 * (- u10 * (u01) + u11 * (u00)))) * u44 = 0 := by grind
theorem adj_4_0 (u00 u01 u02 u03 u04 u10 u11 u12 u13 u14 u20 u21 u22 u23 u24 u30 u31 u32 u33 u34 u40 u41 u42 u43 u44 : Int) : (- u40 * (u31 * (- u22 * (u13) + u23 * (u12)) - u32 * (- u21 * (u13) + u23 * (u11)) + u33 * (- u21 * (u12) + u22 * (u11))) + u41 * (u30 * (- u22 * (u13) + u23 * (u12)) - u32 * (- u20 * (u13) + u23 * (u10)) + u33 * (- u20 * (u12) + u22 * (u10))) - u42 * (u30 * (- u21 * (u13) + u23 * (u11)) - u31 * (- u20 * (u13) + u23 * (u10)) + u33 * (- u20 * (u11) + u21 * (u10))) + u43 * (u30 * (- u21 * (u12) + u22 * (u11)) - u31 * (- u20 * (u12) + u22 * (u10)) + u32 * (- u20 * (u11) + u21 * (u10)))) * u00 + -(- u40 * (u31 * (- u22 * (u03) + u23 * (u02)) - u32 * (- u21 * (u03) + u23 * (u01)) + u33 * (- u21 * (u02) + u22 * (u01))) + u41 * (u30 * (- u22 * (u03) + u23 * (u02)) - u32 * (- u20 * (u03) + u23 * (u00)) + u33 * (- u20 * (u02) + u22 * (u00))) - u42 * (u30 * (- u21 * (u03) + u23 * (u01)) - u31 * (- u20 * (u03) + u23 * (u00)) + u33 * (- u20 * (u01) + u21 * (u00))) + u43 * (u30 * (- u21 * (u02) + u22 * (u01)) - u31 * (- u20 * (u02) + u22 * (u00)) + u32 * (- u20 * (u01) + u21 * (u00)))) * u10 + (- u40 * (u31 * (- u12 * (u03) + u13 * (u02)) - u32 * (- u11 * (u03) + u13 * (u01)) + u33 * (- u11 * (u02) + u12 * (u01))) + u41 * (u30 * (- u12 * (u03) + u13 * (u02)) - u32 * (- u10 * (u03) + u13 * (u00)) + u33 * (- u10 * (u02) + u12 * (u00))) - u42 * (u30 * (- u11 * (u03) + u13 * (u01)) - u31 * (- u10 * (u03) + u13 * (u00)) + u33 * (- u10 * (u01) + u11 * (u00))) + u43 * (u30 * (- u11 * (u02) + u12 * (u01)) - u31 * (- u10 * (u02) + u12 * (u00)) + u32 * (- u10 * (u01) + u11 * (u00)))) * u20 + -(- u40 * (u21 * (- u12 * (u03) + u13 * (u02)) - u22 * (- u11 * (u03) + u13 * (u01)) + u23 * (- u11 * (u02) + u12 * (u01))) + u41 * (u20 * (- u12 * (u03) + u13 * (u02)) - u22 * (- u10 * (u03) + u13 * (u00)) + u23 * (- u10 * (u02) + u12 * (u00))) - u42 * (u20 * (- u11 * (u03) + u13 * (u01)) - u21 * (- u10 * (u03) + u13 * (u00)) + u23 * (- u10 * (u01) + u11 * (u00))) + u43 * (u20 * (- u11 * (u02) + u12 * (u01)) - u21 * (- u10 * (u02) + u12 * (u00)) + u22 * (- u10 * (u01) + u11 * (u00)))) * u30 + (- u30 * (u21 * (- u12 * (u03) + u13 * (u02)) - u22 * (- u11 * (u03) + u13 * (u01)) + u23 * (- u11 * (u02) + u12 * (u01))) + u31 * (u20 * (- u12 * (u03) + u13 * (u02)) - u22 * (- u10 * (u03) + u13 * (u00)) + u23 * (- u10 * (u02) + u12 * (u00))) - u32 * (u20 * (- u11 * (u03) + u13 * (u01)) - u21 * (- u10 * (u03) + u13 * (u00)) + u23 * (- u10 * (u01) + u11 * (u00))) + u33 * (u20 * (- u11 * (u02) + u12 * (u01)) - u21 * (- u10 * (u02) + u12 * (u00)) + u22 * (- u10 * (u01) + u11 * (u00)))) * u40 = 0 := by grind
theorem adj_4_1 (u00 u01 u02 u03 u04 u10 u11 u12 u13 u14 u20 u21 u22 u23 u24 u30 u31 u32 u33 u34 u40 u41 u42 u43 u44 : Int) : (- u40 * (u31 * (- u22 * (u13) + u23 * (u12)) - u32 * (- u21 * (u13) + u23 * (u11)) + u33 * (- u21 * (u12) + u22 * (u11))) + u41 * (u30 * (- u22 * (u13) + u23 * (u12)) - u32 * (- u20 * (u13) + u23 * (u10)) + u33 * (- u20 * (u12) + u22 * (u10))) - u42 * (u30 * (- u21 * (u13) + u23 * (u11)) - u31 * (- u20 * (u13) + u23 * (u10)) + u33 * (- u20 * (u11) + u21 * (u10))) + u43 * (u30 * (- u21 * (u12) + u22 * (u11)) - u31 * (- u20 * (u12) + u22 * (u10)) + u32 * (- u20 * (u11) + u21 * (u10)))) * u01 + -(- u40 * (u31 * (- u22 * (u03) + u23 * (u02)) - u32 * (- u21 * (u03) + u23 * (u01)) + u33 * (- u21 * (u02) + u22 * (u01))) + u41 * (u30 * (- u22 * (u03) + u23 * (u02)) - u32 * (- u20 * (u03) + u23 * (u00)) + u33 * (- u20 * (u02) + u22 * (u00))) - u42 * (u30 * (- u21 * (u03) + u23 * (u01)) - u31 * (- u20 * (u03) + u23 * (u00)) + u33 * (- u20 * (u01) + u21 * (u00))) + u43 * (u30 * (- u21 * (u02) + u22 * (u01)) - u31 * (- u20 * (u02) + u22 * (u00)) + u32 * (- u20 * (u01) + u21 * (u00)))) * u11 + (- u40 * (u31 * (- u12 * (u03) + u13 * (u02)) - u32 * (- u11 * (u03) + u13 * (u01)) + u33 * (- u11 * (u02) + u12 * (u01))) + u41 * (u30 * (- u12 * (u03) + u13 * (u02)) - u32 * (- u10 * (u03) + u13 * (u00)) + u33 * (- u10 * (u02) + u12 * (u00))) - u42 * (u30 * (- u11 * (u03) + u13 * (u01)) - u31 * (- u10 * (u03) + u13 * (u00)) + u33 * (- u10 * (u01) + u11 * (u00))) + u43 * (u30 * (- u11 * (u02) + u12 * (u01)) - u31 * (- u10 * (u02) + u12 * (u00)) + u32 * (- u10 * (u01) + u11 * (u00)))) * u21 + -(- u40 * (u21 * (- u12 * (u03) + u13 * (u02)) - u22 * (- u11 * (u03) + u13 * (u01)) + u23 * (- u11 * (u02) + u12 * (u01))) + u41 * (u20 * (- u12 * (u03) + u13 * (u02)) - u22 * (- u10 * (u03) + u13 * (u00)) + u23 * (- u10 * (u02) + u12 * (u00))) - u42 * (u20 * (- u11 * (u03) + u13 * (u01)) - u21 * (- u10 * (u03) + u13 * (u00)) + u23 * (- u10 * (u01) + u11 * (u00))) + u43 * (u20 * (- u11 * (u02) + u12 * (u01)) - u21 * (- u10 * (u02) + u12 * (u00)) + u22 * (- u10 * (u01) + u11 * (u00)))) * u31 + (- u30 * (u21 * (- u12 * (u03) + u13 * (u02)) - u22 * (- u11 * (u03) + u13 * (u01)) + u23 * (- u11 * (u02) + u12 * (u01))) + u31 * (u20 * (- u12 * (u03) + u13 * (u02)) - u22 * (- u10 * (u03) + u13 * (u00)) + u23 * (- u10 * (u02) + u12 * (u00))) - u32 * (u20 * (- u11 * (u03) + u13 * (u01)) - u21 * (- u10 * (u03) + u13 * (u00)) + u23 * (- u10 * (u01) + u11 * (u00))) + u33 * (u20 * (- u11 * (u02) + u12 * (u01)) - u21 * (- u10 * (u02) + u12 * (u00)) + u22 * (- u10 * (u01) + u11 * (u00)))) * u41 = 0 := by grind
theorem adj_4_2 (u00 u01 u02 u03 u04 u10 u11 u12 u13 u14 u20 u21 u22 u23 u24 u30 u31 u32 u33 u34 u40 u41 u42 u43 u44 : Int) : (- u40 * (u31 * (- u22 * (u13) + u23 * (u12)) - u32 * (- u21 * (u13) + u23 * (u11)) + u33 * (- u21 * (u12) + u22 * (u11))) + u41 * (u30 * (- u22 * (u13) + u23 * (u12)) - u32 * (- u20 * (u13) + u23 * (u10)) + u33 * (- u20 * (u12) + u22 * (u10))) - u42 * (u30 * (- u21 * (u13) + u23 * (u11)) - u31 * (- u20 * (u13) + u23 * (u10)) + u33 * (- u20 * (u11) + u21 * (u10))) + u43 * (u30 * (- u21 * (u12) + u22 * (u11)) - u31 * (- u20 * (u12) + u22 * (u10)) + u32 * (- u20 * (u11) + u21 * (u10)))) * u02 + -(- u40 * (u31 * (- u22 * (u03) + u23 * (u02)) - u32 * (- u21 * (u03) + u23 * (u01)) + u33 * (- u21 * (u02) + u22 * (u01))) + u41 * (u30 * (- u22 * (u03) + u23 * (u02)) - u32 * (- u20 * (u03) + u23 * (u00)) + u33 * (- u20 * (u02) + u22 * (u00))) - u42 * (u30 * (- u21 * (u03) + u23 * (u01)) - u31 * (- u20 * (u03) + u23 * (u00)) + u33 * (- u20 * (u01) + u21 * (u00))) + u43 * (u30 * (- u21 * (u02) + u22 * (u01)) - u31 * (- u20 * (u02) + u22 * (u00)) + u32 * (- u20 * (u01) + u21 * (u00)))) * u12 + (- u40 * (u31 * (- u12 * (u03) + u13 * (u02)) - u32 * (- u11 * (u03) + u13 * (u01)) + u33 * (- u11 * (u02) + u12 * (u01))) + u41 * (u30 * (- u12 * (u03) + u13 * (u02)) - u32 * (- u10 * (u03) + u13 * (u00)) + u33 * (- u10 * (u02) + u12 * (u00))) - u42 * (u30 * (- u11 * (u03) + u13 * (u01)) - u31 * (- u10 * (u03) + u13 * (u00)) + u33 * (- u10 * (u01) + u11 * (u00))) + u43 * (u30 * (- u11 * (u02) + u12 * (u01)) - u31 * (- u10 * (u02) + u12 * (u00)) + u32 * (- u10 * (u01) + u11 * (u00)))) * u22 + -(- u40 * (u21 * (- u12 * (u03) + u13 * (u02)) - u22 * (- u11 * (u03) + u13 * (u01)) + u23 * (- u11 * (u02) + u12 * (u01))) + u41 * (u20 * (- u12 * (u03) + u13 * (u02)) - u22 * (- u10 * (u03) + u13 * (u00)) + u23 * (- u10 * (u02) + u12 * (u00))) - u42 * (u20 * (- u11 * (u03) + u13 * (u01)) - u21 * (- u10 * (u03) + u13 * (u00)) + u23 * (- u10 * (u01) + u11 * (u00))) + u43 * (u20 * (- u11 * (u02) + u12 * (u01)) - u21 * (- u10 * (u02) + u12 * (u00)) + u22 * (- u10 * (u01) + u11 * (u00)))) * u32 + (- u30 * (u21 * (- u12 * (u03) + u13 * (u02)) - u22 * (- u11 * (u03) + u13 * (u01)) + u23 * (- u11 * (u02) + u12 * (u01))) + u31 * (u20 * (- u12 * (u03) + u13 * (u02)) - u22 * (- u10 * (u03) + u13 * (u00)) + u23 * (- u10 * (u02) + u12 * (u00))) - u32 * (u20 * (- u11 * (u03) + u13 * (u01)) - u21 * (- u10 * (u03) + u13 * (u00)) + u23 * (- u10 * (u01) + u11 * (u00))) + u33 * (u20 * (- u11 * (u02) + u12 * (u01)) - u21 * (- u10 * (u02) + u12 * (u00)) + u22 * (- u10 * (u01) + u11 * (u00)))) * u42 = 0 := by grind
theorem adj_4_3 (u00 u01 u02 u03 u04 u10 u11 u12 u13 u14 u20 u21 u22 u23 u24 u30 u31 u32 u33 u34 u40 u41 u42 u43 u44 : Int) : (- u40 * (u31 * (- u22 * (u13) + u23 * (u12)) - u32 * (- u21 * (u13) + u23 * (u11)) + u33 * (- u21 * (u12) + u22 * (u11))) + u41 * (u30 * (- u22 * (u13) + u23 * (u12)) - u32 * (- u20 * (u13) + u23 * (u10)) + u33 * (- u20 * (u12) + u22 * (u10))) - u42 * (u30 * (- u21 * (u13) + u23 * (u11)) - u31 * (- u20 * (u13) + u23 * (u10)) + u33 * (- u20 * (u11) + u21 * (u10))) + u43 * (u30 * (- u21 * (u12) + u22 * (u11)) - u31 * (- u20 * (u12) + u22 * (u10)) + u32 * (- u20 * (u11) + u21 * (u10)))) * u03 + -(- u40 * (u31 * (- u22 * (u03) + u23 * (u02)) - u32 * (- u21 * (u03) + u23 * (u01)) + u33 * (- u21 * (u02) + u22 * (u01))) + u41 * (u30 * (- u22 * (u03) + u23 * (u02)) - u32 * (- u20 * (u03) + u23 * (u00)) + u33 * (- u20 * (u02) + u22 * (u00))) - u42 * (u30 * (- u21 * (u03) + u23 * (u01)) - u31 * (- u20 * (u03) + u23 * (u00)) + u33 * (- u20 * (u01) + u21 * (u00))) + u43 * (u30 * (- u21 * (u02) + u22 * (u01)) - u31 * (- u20 * (u02) + u22 * (u00)) + u32 * (- u20 * (u01) + u21 * (u00)))) * u13 + (- u40 * (u31 * (- u12 * (u03) + u13 * (u02)) - u32 * (- u11 * (u03) + u13 * (u01)) + u33 * (- u11 * (u02) + u12 * (u01))) + u41 * (u30 * (- u12 * (u03) + u13 * (u02)) - u32 * (- u10 * (u03) + u13 * (u00)) + u33 * (- u10 * (u02) + u12 * (u00))) - u42 * (u30 * (- u11 * (u03) + u13 * (u01)) - u31 * (- u10 * (u03) + u13 * (u00)) + u33 * (- u10 * (u01) + u11 * (u00))) + u43 * (u30 * (- u11 * (u02) + u12 * (u01)) - u31 * (- u10 * (u02) + u12 * (u00)) + u32 * (- u10 * (u01) + u11 * (u00)))) * u23 + -(- u40 * (u21 * (- u12 * (u03) + u13 * (u02)) - u22 * (- u11 * (u03) + u13 * (u01)) + u23 * (- u11 * (u02) + u12 * (u01))) + u41 * (u20 * (- u12 * (u03) + u13 * (u02)) - u22 * (- u10 * (u03) + u13 * (u00)) + u23 * (- u10 * (u02) + u12 * (u00))) - u42 * (u20 * (- u11 * (u03) + u13 * (u01)) - u21 * (- u10 * (u03) + u13 * (u00)) + u23 * (- u10 * (u01) + u11 * (u00))) + u43 * (u20 * (- u11 * (u02) + u12 * (u01)) - u21 * (- u10 * (u02) + u12 * (u00)) + u22 * (- u10 * (u01) + u11 * (u00)))) * u33 + (- u30 * (u21 * (- u12 * (u03) + u13 * (u02)) - u22 * (- u11 * (u03) + u13 * (u01)) + u23 * (- u11 * (u02) + u12 * (u01))) + u31 * (u20 * (- u12 * (u03) + u13 * (u02)) - u22 * (- u10 * (u03) + u13 * (u00)) + u23 * (- u10 * (u02) + u12 * (u00))) - u32 * (u20 * (- u11 * (u03) + u13 * (u01)) - u21 * (- u10 * (u03) + u13 * (u00)) + u23 * (- u10 * (u01) + u11 * (u00))) + u33 * (u20 * (- u11 * (u02) + u12 * (u01)) - u21 * (- u10 * (u02) + u12 * (u00)) + u22 * (- u10 * (u01) + u11 * (u00)))) * u43 = 0 := by grind
theorem adj_4_4 (u00 u01 u02 u03 u04 u10 u11 u12 u13 u14 u20 u21 u22 u23 u24 u30 u31 u32 u33 u34 u40 u41 u42 u43 u44 : Int) : (- u40 * (u31 * (- u22 * (u13) + u23 * (u12)) - u32 * (- u21 * (u13) + u23 * (u11)) + u33 * (- u21 * (u12) + u22 * (u11))) + u41 * (u30 * (- u22 * (u13) + u23 * (u12)) - u32 * (- u20 * (u13) + u23 * (u10)) + u33 * (- u20 * (u12) + u22 * (u10))) - u42 * (u30 * (- u21 * (u13) + u23 * (u11)) - u31 * (- u20 * (u13) + u23 * (u10)) + u33 * (- u20 * (u11) + u21 * (u10))) + u43 * (u30 * (- u21 * (u12) + u22 * (u11)) - u31 * (- u20 * (u12) + u22 * (u10)) + u32 * (- u20 * (u11) + u21 * (u10)))) * u04 + -(- u40 * (u31 * (- u22 * (u03) + u23 * (u02)) - u32 * (- u21 * (u03) + u23 * (u01)) + u33 * (- u21 * (u02) + u22 * (u01))) + u41 * (u30 * (- u22 * (u03) + u23 * (u02)) - u32 * (- u20 * (u03) + u23 * (u00)) + u33 * (- u20 * (u02) + u22 * (u00))) - u42 * (u30 * (- u21 * (u03) + u23 * (u01)) - u31 * (- u20 * (u03) + u23 * (u00)) + u33 * (- u20 * (u01) + u21 * (u00))) + u43 * (u30 * (- u21 * (u02) + u22 * (u01)) - u31 * (- u20 * (u02) + u22 * (u00)) + u32 * (- u20 * (u01) + u21 * (u00)))) * u14 + (- u40 * (u31 * (- u12 * (u03) + u13 * (u02)) - u32 * (- u11 * (u03) + u13 * (u01)) + u33 * (- u11 * (u02) + u12 * (u01))) + u41 * (u30 * (- u12 * (u03) + u13 * (u02)) - u32 * (- u10 * (u03) + u13 * (u00)) + u33 * (- u10 * (u02) + u12 * (u00))) - u42 * (u30 * (- u11 * (u03) + u13 * (u01)) - u31 * (- u10 * (u03) + u13 * (u00)) + u33 * (- u10 * (u01) + u11 * (u00))) + u43 * (u30 * (- u11 * (u02) + u12 * (u01)) - u31 * (- u10 * (u02) + u12 * (u00)) + u32 * (- u10 * (u01) + u11 * (u00)))) * u24 + -(- u40 * (u21 * (- u12 * (u03) + u13 * (u02)) - u22 * (- u11 * (u03) + u13 * (u01)) + u23 * (- u11 * (u02) + u12 * (u01))) + u41 * (u20 * (- u12 * (u03) + u13 * (u02)) - u22 * (- u10 * (u03) + u13 * (u00)) + u23 * (- u10 * (u02) + u12 * (u00))) - u42 * (u20 * (- u11 * (u03) + u13 * (u01)) - u21 * (- u10 * (u03) + u13 * (u00)) + u23 * (- u10 * (u01) + u11 * (u00))) + u43 * (u20 * (- u11 * (u02) + u12 * (u01)) - u21 * (- u10 * (u02) + u12 * (u00)) + u22 * (- u10 * (u01) + u11 * (u00)))) * u34 + (- u30 * (u21 * (- u12 * (u03) + u13 * (u02)) - u22 * (- u11 * (u03) + u13 * (u01)) + u23 * (- u11 * (u02) + u12 * (u01))) + u31 * (u20 * (- u12 * (u03) + u13 * (u02)) - u22 * (- u10 * (u03) + u13 * (u00)) + u23 * (- u10 * (u02) + u12 * (u00))) - u32 * (u20 * (- u11 * (u03) + u13 * (u01)) - u21 * (- u10 * (u03) + u13 * (u00)) + u23 * (- u10 * (u01) + u11 * (u00))) + u33 * (u20 * (- u11 * (u02) + u12 * (u01)) - u21 * (- u10 * (u02) + u12 * (u00)) + u22 * (- u10 * (u01) + u11 * (u00)))) * u44 = (u40 * (- u31 * (u22 * (- u13 * (u04) + u14 * (u03)) - u23 * (- u12 * (u04) + u14 * (u02)) + u24 * (- u12 * (u03) + u13 * (u02))) + u32 * (u21 * (- u13 * (u04) + u14 * (u03)) - u23 * (- u11 * (u04) + u14 * (u01)) + u24 * (- u11 * (u03) + u13 * (u01))) - u33 * (u21 * (- u12 * (u04) + u14 * (u02)) - u22 * (- u11 * (u04) + u14 * (u01)) + u24 * (- u11 * (u02) + u12 * (u01))) + u34 * (u21 * (- u12 * (u03) + u13 * (u02)) - u22 * (- u11 * (u03) + u13 * (u01)) + u23 * (- u11 * (u02) + u12 * (u01)))) - u41 * (- u30 * (u22 * (- u13 * (u04) + u14 * (u03)) - u23 * (- u12 * (u04) + u14 * (u02)) + u24 * (- u12 * (u03) + u13 * (u02))) + u32 * (u20 * (- u13 * (u04) + u14 * (u03)) - u23 * (- u10 * (u04) + u14 * (u00)) + u24 * (- u10 * (u03) + u13 * (u00))) - u33 * (u20 * (- u12 * (u04) + u14 * (u02)) - u22 * (- u10 * (u04) + u14 * (u00)) + u24 * (- u10 * (u02) + u12 * (u00))) + u34 * (u20 * (- u12 * (u03) + u13 * (u02)) - u22 * (- u10 * (u03) + u13 * (u00)) + u23 * (- u10 * (u02) + u12 * (u00)))) + u42 * (- u30 * (u21 * (- u13 * (u04) + u14 * (u03)) - u23 * (- u11 * (u04) + u14 * (u01)) + u24 * (- u11 * (u03) + u13 * (u01))) + u31 * (u20 * (- u13 * (u04) + u14 * (u03)) - u23 * (- u10 * (u04) + u14 * (u00)) + u24 * (- u10 * (u03) + u13 * (u00))) - u33 * (u20 * (- u11 * (u04) + u14 * (u01)) - u21 * (- u10 * (u04) + u14 * (u00)) + u24 * (- u10 * (u01) + u11 * (u00))) + u34 * (u20 * (- u11 * (u03) + u13 * (u01)) - u21 * (- u10 * (u03) + u13 * (u00)) + u23 * (- u10 * (u01) + u11 * (u00)))) - u43 * (- u30 * (u21 * (- u12 * (u04) + u14 * (u02)) - u22 * (- u11 * (u04) + u14 * (u01)) + u24 * (- u11 * (u02) + u12 * (u01))) + u31 * (u20 * (- u12 * (u04) + u14 * (u02)) - u22 * (- u10 * (u04) + u14 * (u00)) + u24 * (- u10 * (u02) + u12 * (u00))) - u32 * (u20 * (- u11 * (u04) + u14 * (u01)) - u21 * (- u10 * (u04) + u14 * (u00)) + u24 * (- u10 * (u01) + u11 * (u00))) + u34 * (u20 * (- u11 * (u02) + u12 * (u01)) - u21 * (- u10 * (u02) + u12 * (u00)) + u22 * (- u10 * (u01) + u11 * (u00)))) + u44 * (- u30 * (u21 * (- u12 * (u03) + u13 * (u02)) - u22 * (- u11 * (u03) + u13 * (u01)) + u23 * (- u11 * (u02) + u12 * (u01))) + u31 * (u20 * (- u12 * (u03) + u13 * (u02)) - u22 * (- u10 * (u03) + u13 * (u00)) + u23 * (- u10 * (u02) + u12 * (u00))) - u32 * (u20 * (- u11 * (u03) + u13 * (u01)) - u21 * (- u10 * (u03) + u13 * (u00)) + u23 * (- u10 * (u01) + u11 * (u00))) + u33 * (u20 * (- u11 * (u02) + u12 * (u01)) - u21 * (- u10 * (u02) + u12 * (u00)) + u22 * (- u10 * (u01) + u11 * (u00))))) := by grind
theorem Ad_mul (U : Nat → Nat → Int) : ∀ i j, i < 5 → j < 5 → Ad U i 0 * U 0 j + Ad U i 1 * U 1 j + Ad U i 2 * U 2 j + Ad U i 3 * U 3 j + Ad U i 4 * U 4 j = if i = j then Ex U (fun t => U t 4) 4 4 else 0
  | 0, 0, _, _ => adj_0_0 (U 0 0) (U 0 1) (U 0 2) (U 0 3) (U 0 4) (U 1 0) (U 1 1) (U 1 2) (U 1 3) (U 1 4) (U 2 0) (U 2 1) (U 2 2) (U 2 3) (U 2 4) (U 3 0) (U 3 1) (U 3 2) (U 3 3) (U 3 4) (U 4 0) (U 4 1) (U 4 2) (U 4 3) (U 4 4)
  | 0, 1, _, _ => adj_0_1 (U 0 0) (U 0 1) (U 0 2) (U 0 3) (U 0 4) (U 1 0) (U 1 1) (U 1 2) (U 1 3) (U 1 4) (U 2 0) (U 2 1) (U 2 2) (U 2 3) (U 2 4) (U 3 0) (U 3 1) (U 3 2) (U 3 3) (U 3 4) (U 4 0) (U 4 1) (U 4 2) (U 4 3) (U 4 4)
  | 0, 2, _, _ => adj_0_2 (U 0 0) (U 0 1) (U 0 2) (U 0 3) (U 0 4) (U 1 0) (U 1 1) (U 1 2) (U 1 3) (U 1 4) (U 2 0) (U 2 1) (U 2 2) (U 2 3) (U 2 4) (U 3 0) (U 3 1) (U 3 2) (U 3 3) (U 3 4) (U 4 0) (U 4 1) (U 4 2) (U 4 3) (U 4 4)
  | 0, 3, _, _ => adj_0_3 (U 0 0) (U 0 1) (U 0 2) (U 0 3) (U 0 4) (U 1 0) (U 1 1) (U 1 2) (U 1 3) (U 1 4) (U 2 0) (U 2 1) (U 2 2) (U 2 3) (U 2 4) (U 3 0) (U 3 1) (U 3 2) (U 3 3) (U 3 4) (U 4 0) (U 4 1) (U 4 2) (U 4 3) (U 4 4)
  | 0, 4, _, _ => adj_0_4 (U 0 0) (U 0 1) (U 0 2) (U 0 3) (U 0 4) (U 1 0) (U 1 1) (U 1 2) (U 1 3) (U 1 4) (U 2 0) (U 2 1) (U 2 2) (U 2 3) (U 2 4) (U 3 0) (U 3 1) (U 3 2) (U 3 3) (U 3 4) (U 4 0) (U 4 1) (U 4 2) (U 4 3) (U 4 4)
  | 1, 0, _, _ => adj_1_0 (U 0 0) (U 0 1) (U 0 2) (U 0 3) (U 0 4) (U 1 0) (U 1 1) (U 1 2) (U 1 3) (U 1 4) (U 2 0) (U 2 1) (U 2 2) (U 2 3) (U 2 4) (U 3 0) (U 3 1) (U 3 2) (U 3 3) (U 3 4) (U 4 0) (U 4 1) (U 4 2) (U 4 3) (U 4 4)
  | 1, 1, _, _ => adj_1_1 (U 0 0) (U 0 1) (U 0 2) (U 0 3) (U 0 4) (U 1 0) (U 1 1) (U 1 2) (U 1 3) (U 1 4) (U 2 0) (U 2 1) (U 2 2) (U 2 3) (U 2 4) (U 3 0) (U 3 1) (U 3 2) (U 3 3) (U 3 4) (U 4 0) (U 4 1) (U 4 2) (U 4 3) (U 4 4)
  | 1, 2, _, _ => adj_1_2 (U 0 0) (U 0 1) (U 0 2) (U 0 3) (U 0 4) (U 1 0) (U 1 1) (U 1 2) (U 1 3) (U 1 4) (U 2 0) (U 2 1) (U 2 2) (U 2 3) (U 2 4) (U 3 0) (U 3 1) (U 3 2) (U 3 3) (U 3 4) (U 4 0) (U 4 1) (U 4 2) (U 4 3) (U 4 4)
  | 1, 3, _, _ => adj_1_3 (U 0 0) (U 0 1) (U 0 2) (U 0 3) (U 0 4) (U 1 0) (U 1 1) (U 1 2) (U 1 3) (U 1 4) (U 2 0) (U 2 1) (U 2 2) (U 2 3) (U 2 4) (U 3 0) (U 3 1) (U 3 2) (U 3 3) (U 3 4) (U 4 0) (U 4 1) (U 4 2) (U 4 3) (U 4 4)
  | 1, 4, _, _ => adj_1_4 (U 0 0) (U 0 1) (U 0 2) (U 0 3) (U 0 4) (U 1 0) (U 1 1) (U 1 2) (U 1 3) (U 1 4) (U 2 0) (U 2 1) (U 2 2) (U 2 3) (U 2 4) (U 3 0) (U 3 1) (U 3 2) (U 3 3) (U 3 4) (U 4 0) (U 4 1) (U 4 2) (U 4 3) (U 4 4)
  | 2, 0, _, _ => adj_2_0 (U 0 0) (U 0 1) (U 0 2) (U 0 3) (U 0 4) (U 1 0) (U 1 1) (U 1 2) (U 1 3) (U 1 4) (U 2 0) (U 2 1) (U 2 2) (U 2 3) (U 2 4) (U 3 0) (U 3 1) (U 3 2) (U 3 3) (U 3 4) (U 4 0) (U 4 1) (U 4 2) (U 4 3) (U 4 4)
  | 2, 1, _, _ => adj_2_1 (U 0 0) (U 0 1) (U 0 2) (U 0 3) (U 0 4) (U 1 0) (U 1 1) (U 1 2) (U 1 3) (U 1 4) (U 2 0) (U 2 1) (U 2 2) (U 2 3) (U 2 4) (U 3 0) (U 3 1) (U 3 2) (U 3 3) (U 3 4) (U 4 0) (U 4 1) (U 4 2) (U 4 3) (U 4 4)
  | 2, 2, _, _ => adj_2_2 (U 0 0) (U 0 1) (U 0 2) (U 0 3) (U 0 4) (U 1 0) (U 1 1) (U 1 2) (U 1 3) (U 1 4) (U 2 0) (U 2 1) (U 2 2) (U 2 3) (U 2 4) (U 3 0) (U 3 1) (U 3 2) (U 3 3) (U 3 4) (U 4 0) (U 4 1) (U 4 2) (U 4 3) (U 4 4)
  | 2, 3, _, _ => adj_2_3 (U 0 0) (U 0 1) (U 0 2) (U 0 3) (U 0 4) (U 1 0) (U 1 1) (U 1 2) (U 1 3) (U 1 4) (U 2 0) (U 2 1) (U 2 2) (U 2 3) (U 2 4) (U 3 0) (U 3 1) (U 3 2) (U 3 3) (U 3 4) (U 4 0) (U 4 1) (U 4 2) (U 4 3) (U 4 4)
  | 2, 4, _, _ => adj_2_4 (U 0 0) (U 0 1) (U 0 2) (U 0 3) (U 0 4) (U 1 0) (U 1 1) (U 1 2) (U 1 3) (U 1 4) (U 2 0) (U 2 1) (U 2 2) (U 2 3) (U 2 4) (U 3 0) (U 3 1) (U 3 2) (U 3 3) (U 3 4) (U 4 0) (U 4 1) (U 4 2) (U 4 3) (U 4 4)
  | 3, 0, _, _ => adj_3_0 (U 0 0) (U 0 1) (U 0 2) (U 0 3) (U 0 4) (U 1 0) (U 1 1) (U 1 2) (U 1 3) (U 1 4) (U 2 0) (U 2 1) (U 2 2) (U 2 3) (U 2 4) (U 3 0) (U 3 1) (U 3 2) (U 3 3) (U 3 4) (U 4 0) (U 4 1) (U 4 2) (U 4 3) (U 4 4)
  | 3, 1, _, _ => adj_3_1 (U 0 0) (U 0 1) (U 0 2) (U 0 3) (U 0 4) (U 1 0) (U 1 1) (U 1 2) (U 1 3) (U 1 4) (U 2 0) (U 2 1) (U 2 2) (U 2 3) (U 2 4) (U 3 0) (U 3 1) (U 3 2) (U 3 3) (U 3 4) (U 4 0) (U 4 1) (U 4 2) (U 4 3) (U 4 4)
  | 3, 2, _, _ => adj_3_2 (U 0 0) (U 0 1) (U 0 2) (U 0 3) (U 0 4) (U 1 0) (U 1 1) (U 1 2) (U 1 3) (U 1 4) (U 2 0) (U 2 1) (U 2 2) (U 2 3) (U 2 4) (U 3 0) (U 3 1) (U 3 2) (U 3 3) (U 3 4) (U 4 0) (U 4 1) (U 4 2) (U 4 3) (U 4 4)
  | 3, 3, _, _ => adj_3_3 (U 0 0) (U 0 1) (U 0 2) (U 0 3) (U 0 4) (U 1 0) (U 1 1) (U 1 2) (U 1 3) (U 1 4) (U 2 0) (U 2 1) (U 2 2) (U 2 3) (U 2 4) (U 3 0) (U 3 1) (U 3 2) (U 3 3) (U 3 4) (U 4 0) (U 4 1) (U 4 2) (U 4 3) (U 4 4)
  | 3, 4, _, _ => adj_3_4 (U 0 0) (U 0 1) (U 0 2) (U 0 3) (U 0 4) (U 1 0) (U 1 1) (U 1 2) (U 1 3) (U 1 4) (U 2 0) (U 2 1) (U 2 2) (U 2 3) (U 2 4) (U 3 0) (U 3 1) (U 3 2) (U 3 3) (U 3 4) (U 4 0) (U 4 1) (U 4 2) (U 4 3) (U 4 4)
  | 4, 0, _, _ => adj_4_0 (U 0 0) (U 0 1) (U 0 2) (U 0 3) (U 0 4) (U 1 0) (U 1 1) (U 1 2) (U 1 3) (U 1 4) (U 2 0) (U 2 1) (U 2 2) (U 2 3) (U 2 4) (U 3 0) (U 3 1) (U 3 2) (U 3 3) (U 3 4) (U 4 0) (U 4 1) (U 4 2) (U 4 3) (U 4 4)
  | 4, 1, _, _ => adj_4_1 (U 0 0) (U 0 1) (U 0 2) (U 0 3) (U 0 4) (U 1 0) (U 1 1) (U 1 2) (U 1 3) (U 1 4) (U 2 0) (U 2 1) (U 2 2) (U 2 3) (U 2 4) (U 3 0) (U 3 1) (U 3 2) (U 3 3) (U 3 4) (U 4 0) (U 4 1) (U 4 2) (U 4 3) (U 4 4)
  | 4, 2, _, _ => adj_4_2 (U 0 0) (U 0 1) (U 0 2) (U 0 3) (U 0 4) (U 1 0) (U 1 1) (U 1 2) (U 1 3) (U 1 4) (U 2 0) (U 2 1) (U 2 2) (U 2 3) (U 2 4) (U 3 0) (U 3 1) (U 3 2) (U 3 3) (U 3 4) (U 4 0) (U 4 1) (U 4 2) (U 4 3) (U 4 4)
  | 4, 3, _, _ => adj_4_3 (U 0 0) (U 0 1) (U 0 2) (U 0 3) (U 0 4) (U 1 0) (U 1 1) (U 1 2) (U 1 3) (U 1 4) (U 2 0) (U 2 1) (U 2 2) (U 2 3) (U 2 4) (U 3 0) (U 3 1) (U 3 2) (U 3 3) (U 3 4) (U 4 0) (U 4 1) (U 4 2) (U 4 3) (U 4 4)
  | 4, 4, _, _ => adj_4_4 (U 0 0) (U 0 1) (U 0 2) (U 0 3) (U 0 4) (U 1 0) (U 1 1) (U 1 2) (U 1 3) (U 1 4) (U 2 0) (U 2 1) (U 2 2) (U 2 3) (U 2 4) (U 3 0) (U 3 1) (U 3 2) (U 3 3) (U 3 4) (U 4 0) (U 4 1) (U 4 2) (U 4 3) (U 4 4)
  | 0, j + 5, _, h => absurd h (by omega)
  | 1, j + 5, _, h => absurd h (by omega)
  | 2, j + 5, _, h => absurd h (by omega)
  | 3, j + 5, _, h => absurd h (by omega)
  | 4, j + 5, _, h => absurd h (by omega)
  | i + 5, _, h, _ => absurd h (by omega)
end Mine
namespace Mine
/-! ## the turning over, as a plain function -/
def R0 (U : Nat → Nat → Int) (i j : Nat) : Int := if j < 5 then U i j else if i = j - 5 then 1 else 0
def barS (U : Nat → Nat → Int) : Nat → (Nat → Nat → Int) × Int
  | 0 => (R0 U, 1)
  | k + 1 => (fun i j => if i = k then (barS U k).1 i j else ((barS U k).1 k k * (barS U k).1 i j - (barS U k).1 i k * (barS U k).1 k j).fdiv (barS U k).2, (barS U k).1 k k)
abbrev bR (U : Nat → Nat → Int) (k i j : Nat) : Int := (barS U k).1 i j
abbrev bd (U : Nat → Nat → Int) (k : Nat) : Int := (barS U k).2
/-- what holds after k turns -/
structure St (U : Nat → Nat → Int) (k : Nat) : Prop where
  pos : 0 < bd U k
  z : ∀ i j, i < 5 → j < k → bR U k i j = if i = j then bd U k else 0
  lr : ∀ i j, i < 5 → j < 5 → bR U k i j = bR U k i 5 * U 0 j + bR U k i 6 * U 1 j + bR U k i 7 * U 2 j + bR U k i 8 * U 3 j + bR U k i 9 * U 4 j
  sup : ∀ i t, i < 5 → t < 5 → k ≤ t → bR U k i (5 + t) = if i = t then bd U k else 0
theorem st_zero (U : Nat → Nat → Int) : St U 0 := by
  refine ⟨by show (0:Int) < 1; omega, fun i j _ h => absurd h (by omega), fun i j hi hj => ?_, fun i t hi ht _ => ?_⟩
  · show R0 U i j = R0 U i 5 * U 0 j + R0 U i 6 * U 1 j + R0 U i 7 * U 2 j + R0 U i 8 * U 3 j + R0 U i 9 * U 4 j
    unfold R0
    rw [if_pos hj]
    match i, hi with
    | 0, _ | 1, _ | 2, _ | 3, _ | 4, _ => simp
  · show R0 U i (5 + t) = if i = t then 1 else 0
    unfold R0
    rw [if_neg (by omega)]
    have : 5 + t - 5 = t := by omega
    rw [this]
theorem mul_cancel {d a b : Int} (hd : d ≠ 0) (h : d * a = d * b) : a = b := Int.eq_of_mul_eq_mul_left hd h
/-- one turn, when the division is exact -/
theorem st_step {U : Nat → Nat → Int} {k : Nat} (hk : k < 5) (s : St U k) (hp : 0 < bd U (k + 1))
    (ex : ∀ i j, i < 5 → j < 10 → i ≠ k → bd U k * bR U (k + 1) i j = bR U k k k * bR U k i j - bR U k i k * bR U k k j) : St U (k + 1) := by
  have hd : bd U k ≠ 0 := by have := s.pos; omega
  have own : ∀ j, bR U (k + 1) k j = bR U k k j := fun j => by show (if k = k then _ else _) = _; rw [if_pos rfl]
  have dn : bd U (k + 1) = bR U k k k := rfl
  refine ⟨hp, fun i j hi hj => ?_, fun i j hi hj => ?_, fun i t hi ht hkt => ?_⟩
  · by_cases hik : i = k
    · subst hik
      rw [own]
      by_cases h : j = i
      · subst h; rw [if_pos rfl, dn]
      · rw [s.z i j hi (by omega), if_neg (Ne.symm h), if_neg (Ne.symm h)]
    · refine mul_cancel hd ?_
      rw [ex i j hi (by omega) hik]
      by_cases h : j = k
      · subst h; rw [if_neg hik]; grind
      · rw [s.z i j hi (by omega), s.z k j hk (by omega), if_neg (show ¬ k = j from Ne.symm h), dn]
        by_cases q : i = j
        · rw [if_pos q, if_pos q]; grind
        · rw [if_neg q, if_neg q]; grind
  · by_cases hik : i = k
    · subst hik
      rw [own, own, own, own, own, own]
      exact s.lr i j hi hj
    · refine mul_cancel hd ?_
      rw [ex i j hi (by omega) hik, s.lr i j hi hj, s.lr k j hk hj]
      have e5 := ex i 5 hi (by omega) hik
      have e6 := ex i 6 hi (by omega) hik
      have e7 := ex i 7 hi (by omega) hik
      have e8 := ex i 8 hi (by omega) hik
      have e9 := ex i 9 hi (by omega) hik
      have rhs : bd U k * (bR U (k + 1) i 5 * U 0 j + bR U (k + 1) i 6 * U 1 j + bR U (k + 1) i 7 * U 2 j + bR U (k + 1) i 8 * U 3 j + bR U (k + 1) i 9 * U 4 j) =
          bd U k * bR U (k + 1) i 5 * U 0 j + bd U k * bR U (k + 1) i 6 * U 1 j + bd U k * bR U (k + 1) i 7 * U 2 j + bd U k * bR U (k + 1) i 8 * U 3 j + bd U k * bR U (k + 1) i 9 * U 4 j := by
        simp only [Int.mul_add, Int.mul_assoc]
      rw [rhs, e5, e6, e7, e8, e9]
      clear e5 e6 e7 e8 e9 rhs
      generalize bR U k k k = a
      generalize bR U k i k = b
      generalize bR U k i 5 = p5
      generalize bR U k i 6 = p6
      generalize bR U k i 7 = p7
      generalize bR U k i 8 = p8
      generalize bR U k i 9 = p9
      generalize bR U k k 5 = q5
      generalize bR U k k 6 = q6
      generalize bR U k k 7 = q7
      generalize bR U k k 8 = q8
      generalize bR U k k 9 = q9
      grind
  · by_cases hik : i = k
    · subst hik
      rw [own, s.sup i t hi ht (by omega), if_neg (by omega), if_neg (by omega)]
    · refine mul_cancel hd ?_
      rw [ex i (5 + t) hi (by omega) hik, s.sup i t hi ht (by omega), s.sup k t hk ht (by omega), if_neg (show ¬ k = t by omega), dn]
      by_cases q : i = t
      · rw [if_pos q, if_pos q]; grind
      · rw [if_neg q, if_neg q]; grind

theorem col_eq (U : Nat → Nat → Int) {k : Nat} (hk : k < 5) : (fun t => R0 U t k) = fun t => U t k := by
  funext t; unfold R0; rw [if_pos hk]
/-- the minors -/
structure Mn (U : Nat → Nat → Int) (k : Nat) : Prop where
  e : ∀ i j, i < 5 → j < 10 → bR U k i j = Ex U (fun t => R0 U t j) k i
  d : bd U k = Dx U k
theorem mn_zero (U : Nat → Nat → Int) : Mn U 0 := by
  refine ⟨fun i j hi _ => ?_, rfl⟩
  match i, hi with
  | 0, _ | 1, _ | 2, _ | 3, _ | 4, _ => rfl
theorem mn_ex {U : Nat → Nat → Int} {k : Nat} (hk : k < 4) (m : Mn U k) {i j : Nat} (hi : i < 5) (hj : j < 10) (hik : i ≠ k) :
    bR U k k k * bR U k i j - bR U k i k * bR U k k j = bd U k * Ex U (fun t => R0 U t j) (k + 1) i := by
  rw [m.e k k (by omega) (by omega), m.e i j hi hj, m.e i k hi (by omega), m.e k j (by omega) hj, m.d, col_eq U (by omega)]
  exact Ex_step U _ k i hk hi hik
theorem mn_step {U : Nat → Nat → Int} {k : Nat} (hk : k < 4) (m : Mn U k) (hd : bd U k ≠ 0) : Mn U (k + 1) := by
  refine ⟨fun i j hi hj => ?_, ?_⟩
  · show (if i = k then _ else _) = _
    by_cases hik : i = k
    · rw [if_pos hik, hik, Ex_own U _ k hk]; exact m.e k j (by omega) hj
    · rw [if_neg hik]
      show (bR U k k k * bR U k i j - bR U k i k * bR U k k j).fdiv (bd U k) = _
      rw [mn_ex hk m hi hj hik]
      exact Int.mul_fdiv_cancel_left _ hd
  · show bR U k k k = _
    rw [m.e k k (by omega) (by omega), col_eq U (by omega), Dx_next U k hk]
theorem mn_exact {U : Nat → Nat → Int} {k : Nat} (hk : k < 4) (m : Mn U k) (hd : bd U k ≠ 0) (i j : Nat) (hi : i < 5) (hj : j < 10) (hik : i ≠ k) :
    bd U k * bR U (k + 1) i j = bR U k k k * bR U k i j - bR U k i k * bR U k k j := by
  rw [(mn_step hk m hd).e i j hi hj, mn_ex hk m hi hj hik]
end Mine
namespace Mine
theorem five (r0 r1 r2 r3 r4 v0 v1 v2 v3 v4 : Int) (U : Nat → Nat → Int) :
    (r0 * U 0 0 + r1 * U 1 0 + r2 * U 2 0 + r3 * U 3 0 + r4 * U 4 0) * v0 + (r0 * U 0 1 + r1 * U 1 1 + r2 * U 2 1 + r3 * U 3 1 + r4 * U 4 1) * v1 + (r0 * U 0 2 + r1 * U 1 2 + r2 * U 2 2 + r3 * U 3 2 + r4 * U 4 2) * v2 +
      (r0 * U 0 3 + r1 * U 1 3 + r2 * U 2 3 + r3 * U 3 3 + r4 * U 4 3) * v3 + (r0 * U 0 4 + r1 * U 1 4 + r2 * U 2 4 + r3 * U 3 4 + r4 * U 4 4) * v4 =
    r0 * (U 0 0 * v0 + U 0 1 * v1 + U 0 2 * v2 + U 0 3 * v3 + U 0 4 * v4) + r1 * (U 1 0 * v0 + U 1 1 * v1 + U 1 2 * v2 + U 1 3 * v3 + U 1 4 * v4) + r2 * (U 2 0 * v0 + U 2 1 * v1 + U 2 2 * v2 + U 2 3 * v3 + U 2 4 * v4) +
      r3 * (U 3 0 * v0 + U 3 1 * v1 + U 3 2 * v2 + U 3 3 * v3 + U 3 4 * v4) + r4 * (U 4 0 * v0 + U 4 1 * v1 + U 4 2 * v2 + U 4 3 * v3 + U 4 4 * v4) := by grind
theorem sm_range (U : Nat → Nat → Int) (V : Nat → Nat → Int) (t j : Nat) : ∀ k, k < 5 → sm (List.range (k + 1)) (fun s => (U t s - 0) * V s j) =
    U t 0 * (if 0 ≤ k then V 0 j else 0) + U t 1 * (if 1 ≤ k then V 1 j else 0) + U t 2 * (if 2 ≤ k then V 2 j else 0) + U t 3 * (if 3 ≤ k then V 3 j else 0) + U t 4 * (if 4 ≤ k then V 4 j else 0)
  | 0, _ | 1, _ | 2, _ | 3, _ | 4, _ => by simp [sm, List.range_succ, Int.add_assoc]
  | k + 5, h => absurd h (by omega)
theorem st_kk {U V : Nat → Nat → Int} {D : Int} {k : Nat} (hk : k < 5) (s : St U k) (T : Tn U (List.range (k + 1)) 0 V D) : bR U k k k * V k k = bd U k * D := by
  have hin : ∀ t, t ≤ k → U t 0 * (if 0 ≤ k then V 0 k else 0) + U t 1 * (if 1 ≤ k then V 1 k else 0) + U t 2 * (if 2 ≤ k then V 2 k else 0) + U t 3 * (if 3 ≤ k then V 3 k else 0) + U t 4 * (if 4 ≤ k then V 4 k else 0) = if t = k then D else 0 := fun t ht => by
    rw [← sm_range U V t k k hk]
    exact T.inv t (List.mem_range.mpr (by omega)) k (List.mem_range.mpr (by omega))
  have F := five (bR U k k 5) (bR U k k 6) (bR U k k 7) (bR U k k 8) (bR U k k 9) (if 0 ≤ k then V 0 k else 0) (if 1 ≤ k then V 1 k else 0) (if 2 ≤ k then V 2 k else 0) (if 3 ≤ k then V 3 k else 0) (if 4 ≤ k then V 4 k else 0) U
  rw [← s.lr k 0 hk (by omega), ← s.lr k 1 hk (by omega), ← s.lr k 2 hk (by omega), ← s.lr k 3 hk (by omega), ← s.lr k 4 hk (by omega)] at F
  have rr : ∀ t, t < 5 → ∀ x : Int, (t ≤ k → x = if t = k then D else 0) → bR U k k (5 + t) * x = if t = k then bd U k * D else 0 := fun t ht x hx => by
    rcases Nat.lt_trichotomy t k with h | h | h
    · rw [hx (by omega), if_neg (by omega), if_neg (by omega), Int.mul_zero]
    · rw [hx (by omega), if_pos h, if_pos h, s.sup k t hk ht (by omega), if_pos h.symm]
    · rw [s.sup k t hk ht (by omega), if_neg (by omega), if_neg (by omega), Int.zero_mul]
  rw [rr 0 (by omega) _ (hin 0), rr 1 (by omega) _ (hin 1), rr 2 (by omega) _ (hin 2), rr 3 (by omega) _ (hin 3), rr 4 (by omega) _ (hin 4)] at F
  have zz : ∀ j, j < k → bR U k k j = 0 := fun j hj => by rw [s.z k j hk hj, if_neg (by omega)]
  match k, hk with
  | 0, _ => simpa using F
  | 1, _ => rw [zz 0 (by omega)] at F; simpa using F
  | 2, _ => rw [zz 0 (by omega), zz 1 (by omega)] at F; simpa using F
  | 3, _ => rw [zz 0 (by omega), zz 1 (by omega), zz 2 (by omega)] at F; simpa using F
  | 4, _ => rw [zz 0 (by omega), zz 1 (by omega), zz 2 (by omega), zz 3 (by omega)] at F; simpa using F
end Mine
namespace Mine
theorem sm_le : ∀ {g : List Nat} {F G : Nat → Int}, (∀ i ∈ g, F i ≤ G i) → sm g F ≤ sm g G
  | [], _, _, _ => Int.le_refl _
  | a :: g, F, G, h => by
    rw [sm_cons, sm_cons]
    have h1 := h a List.mem_cons_self
    have h2 := sm_le (g := g) fun i hi => h i (List.mem_cons_of_mem _ hi)
    omega
theorem Tn.diag {U V : Nat → Nat → Int} {g : List Nat} {f D : Int} (T : Tn U g f V D) (hn : g.Nodup) {i : Nat} (hi : i ∈ g) : 0 < V i i := by
  have h1 := T.row i hi
  have h2 : sm g (V i) ≤ sm g (fun s => if s = i then V i i else 0) := sm_le fun s hs => by
    by_cases q : s = i
    · subst q; rw [if_pos rfl]; exact Int.le_refl _
    · rw [if_neg q]; exact (T.neg i hi s hs (Ne.symm q)).1
  rw [sm_delta hn hi] at h2
  omega
theorem told_range {U : Nat → Nat → Int} (u : Ult U) (k : Nat) (hk : k < 5) : ∃ V D, Tn U (List.range (k + 1)) 0 V D := by
  have h := wire_told u 5 (List.range (k + 1)) 0 (by simp) (by simp; omega) List.nodup_range (fun i hi => by have := List.mem_range.mp hi; omega) (fun i _ j _ => u.nn i j) fun i hi => by
    have hi' := List.mem_range.mp hi
    have a := u.diag i (i + 1) (by omega) (by omega)
    have b := u.nn i (i + 1)
    omega
  obtain ⟨V, D, T, _⟩ := h
  exact ⟨V, D, T⟩
theorem st_pos {U : Nat → Nat → Int} (u : Ult U) {k : Nat} (hk : k < 5) (s : St U k) : 0 < bR U k k k := by
  obtain ⟨V, D, T⟩ := told_range u k hk
  have h := st_kk hk s T
  have hV := T.diag List.nodup_range (List.mem_range.mpr (Nat.lt_succ_self k))
  have hp : 0 < bd U k * D := Int.mul_pos s.pos T.pos
  rw [← h] at hp
  exact Int.pos_of_mul_pos_left hp hV
theorem st_mn {U : Nat → Nat → Int} (u : Ult U) : ∀ k, k ≤ 4 → St U k ∧ Mn U k
  | 0, _ => ⟨st_zero U, mn_zero U⟩
  | k + 1, hk => by
    obtain ⟨s, m⟩ := st_mn u k (by omega)
    have hd : bd U k ≠ 0 := by have := s.pos; omega
    exact ⟨st_step (by omega) s (st_pos u (by omega) s) (mn_exact (by omega) m hd), mn_step (by omega) m hd⟩
theorem last_num {U : Nat → Nat → Int} (u : Ult U) {i : Nat} (hi : i < 4) : ∀ t, t < 5 → bR U 4 4 4 * bR U 4 i (5 + t) - bR U 4 i 4 * bR U 4 4 (5 + t) = bd U 4 * Ad U i t := by
  obtain ⟨s, m⟩ := st_mn u 4 (Nat.le_refl _)
  obtain ⟨V, D, T⟩ := told_range u 4 (by omega)
  have e44 : bR U 4 4 4 = Ex U (fun t => U t 4) 4 4 := by rw [m.e 4 4 (by omega) (by omega), col_eq U (by omega)]
  generalize hy : (fun t => bR U 4 4 4 * bR U 4 i (5 + t) - bR U 4 i 4 * bR U 4 4 (5 + t) - bd U 4 * Ad U i t) = y
  have yU : ∀ j, j < 5 → y 0 * U 0 j + y 1 * U 1 j + y 2 * U 2 j + y 3 * U 3 j + y 4 * U 4 j = 0 := fun j hj => by
    have l1 := s.lr i j (by omega) hj
    have l2 := s.lr 4 j (by omega) hj
    have l3 := Ad_mul U i j (by omega) hj
    rw [← e44] at l3
    have z : bR U 4 4 4 * bR U 4 i j - bR U 4 i 4 * bR U 4 4 j = bd U 4 * (if i = j then bR U 4 4 4 else 0) := by
      by_cases h : j = 4
      · subst h; rw [if_neg (by omega)]; grind
      · rw [s.z i j (by omega) (by omega), s.z 4 j (by omega) (by omega), if_neg (show ¬ 4 = j by omega)]
        by_cases q : i = j
        · rw [if_pos q, if_pos q]; grind
        · rw [if_neg q, if_neg q]; grind
    rw [← l3, l1, l2] at z
    rw [← hy]
    show (bR U 4 4 4 * bR U 4 i 5 - bR U 4 i 4 * bR U 4 4 5 - bd U 4 * Ad U i 0) * U 0 j + (bR U 4 4 4 * bR U 4 i 6 - bR U 4 i 4 * bR U 4 4 6 - bd U 4 * Ad U i 1) * U 1 j + (bR U 4 4 4 * bR U 4 i 7 - bR U 4 i 4 * bR U 4 4 7 - bd U 4 * Ad U i 2) * U 2 j +
      (bR U 4 4 4 * bR U 4 i 8 - bR U 4 i 4 * bR U 4 4 8 - bd U 4 * Ad U i 3) * U 3 j + (bR U 4 4 4 * bR U 4 i 9 - bR U 4 i 4 * bR U 4 4 9 - bd U 4 * Ad U i 4) * U 4 j = 0
    clear l1 l2 l3 hy e44
    generalize bR U 4 4 4 = a at *
    generalize bR U 4 i 4 = b at *
    generalize bd U 4 = d at *
    generalize bR U 4 i 5 = p5 at *
    generalize bR U 4 i 6 = p6 at *
    generalize bR U 4 i 7 = p7 at *
    generalize bR U 4 i 8 = p8 at *
    generalize bR U 4 i 9 = p9 at *
    generalize bR U 4 4 5 = q5 at *
    generalize bR U 4 4 6 = q6 at *
    generalize bR U 4 4 7 = q7 at *
    generalize bR U 4 4 8 = q8 at *
    generalize bR U 4 4 9 = q9 at *
    generalize Ad U i 0 = c0 at *
    generalize Ad U i 1 = c1 at *
    generalize Ad U i 2 = c2 at *
    generalize Ad U i 3 = c3 at *
    generalize Ad U i 4 = c4 at *
    generalize U 0 j = x0 at *
    generalize U 1 j = x1 at *
    generalize U 2 j = x2 at *
    generalize U 3 j = x3 at *
    generalize U 4 j = x4 at *
    clear s m T u
    grind
  have yz : ∀ t, t < 5 → y t = 0 := fun t ht => by
    have hin : ∀ r, r < 5 → U r 0 * V 0 t + U r 1 * V 1 t + U r 2 * V 2 t + U r 3 * V 3 t + U r 4 * V 4 t = if r = t then D else 0 := fun r hr => by
      have h := T.inv r (List.mem_range.mpr (by omega)) t (List.mem_range.mpr (by omega))
      rw [sm_range U V r t 4 (by omega)] at h
      simpa using h
    have F := five (y 0) (y 1) (y 2) (y 3) (y 4) (V 0 t) (V 1 t) (V 2 t) (V 3 t) (V 4 t) U
    rw [yU 0 (by omega), yU 1 (by omega), yU 2 (by omega), yU 3 (by omega), yU 4 (by omega), hin 0 (by omega), hin 1 (by omega), hin 2 (by omega), hin 3 (by omega), hin 4 (by omega)] at F
    have hD := T.pos
    have : y t * D = 0 := by
      match t, ht with
      | 0, _ | 1, _ | 2, _ | 3, _ | 4, _ => simpa using F.symm
    rcases Int.mul_eq_zero.mp this with h | h
    · exact h
    · omega
  intro t ht
  have := yz t ht
  rw [← hy] at this
  have h2 : bR U 4 4 4 * bR U 4 i (5 + t) - bR U 4 i 4 * bR U 4 4 (5 + t) - bd U 4 * Ad U i t = 0 := this
  omega
end Mine
namespace Mine
theorem last_exact {U : Nat → Nat → Int} (u : Ult U) (i j : Nat) (hi : i < 5) (hj : j < 10) (hik : i ≠ 4) :
    bd U 4 * bR U 5 i j = bR U 4 4 4 * bR U 4 i j - bR U 4 i 4 * bR U 4 4 j := by
  obtain ⟨s, m⟩ := st_mn u 4 (Nat.le_refl _)
  have hd : bd U 4 ≠ 0 := by have := s.pos; omega
  have L := last_num u (i := i) (by omega)
  have main : ∃ c, bR U 4 4 4 * bR U 4 i j - bR U 4 i 4 * bR U 4 4 j = bd U 4 * c := by
    by_cases h : j < 5
    · have l1 := s.lr i j hi h
      have l2 := s.lr 4 j (by omega) h
      refine ⟨Ad U i 0 * U 0 j + Ad U i 1 * U 1 j + Ad U i 2 * U 2 j + Ad U i 3 * U 3 j + Ad U i 4 * U 4 j, ?_⟩
      rw [l1, l2]
      have a0 := L 0 (by omega)
      have a1 := L 1 (by omega)
      have a2 := L 2 (by omega)
      have a3 := L 3 (by omega)
      have a4 := L 4 (by omega)
      clear l1 l2 L
      simp only [Nat.add_zero, Nat.reduceAdd] at a0 a1 a2 a3 a4
      generalize bR U 4 4 4 = a at *
      generalize bR U 4 i 4 = b at *
      generalize bd U 4 = d at *
      generalize bR U 4 i 5 = p5 at *
      generalize bR U 4 i 6 = p6 at *
      generalize bR U 4 i 7 = p7 at *
      generalize bR U 4 i 8 = p8 at *
      generalize bR U 4 i 9 = p9 at *
      generalize bR U 4 4 5 = q5 at *
      generalize bR U 4 4 6 = q6 at *
      generalize bR U 4 4 7 = q7 at *
      generalize bR U 4 4 8 = q8 at *
      generalize bR U 4 4 9 = q9 at *
      have e : a * (p5 * U 0 j + p6 * U 1 j + p7 * U 2 j + p8 * U 3 j + p9 * U 4 j) - b * (q5 * U 0 j + q6 * U 1 j + q7 * U 2 j + q8 * U 3 j + q9 * U 4 j) =
        (a * p5 - b * q5) * U 0 j + (a * p6 - b * q6) * U 1 j + (a * p7 - b * q7) * U 2 j + (a * p8 - b * q8) * U 3 j + (a * p9 - b * q9) * U 4 j := by
        clear a0 a1 a2 a3 a4 s m u
        generalize U 0 j = x0
        generalize U 1 j = x1
        generalize U 2 j = x2
        generalize U 3 j = x3
        generalize U 4 j = x4
        grind
      rw [e, a0, a1, a2, a3, a4]
      simp only [Int.mul_add, Int.mul_assoc]
    · obtain ⟨t, rfl⟩ : ∃ t, j = 5 + t := ⟨j - 5, by omega⟩
      exact ⟨_, L t (by omega)⟩
  obtain ⟨c, hc⟩ := main
  have : bR U 5 i j = c := by
    show (if i = 4 then _ else _) = _
    rw [if_neg hik]
    show (bR U 4 4 4 * bR U 4 i j - bR U 4 i 4 * bR U 4 4 j).fdiv (bd U 4) = c
    rw [hc]
    exact Int.mul_fdiv_cancel_left _ hd
  rw [this, hc]
theorem st5 {U : Nat → Nat → Int} (u : Ult U) : St U 5 := by
  obtain ⟨s, m⟩ := st_mn u 4 (Nat.le_refl _)
  exact st_step (by omega) s (st_pos u (by omega) s) (last_exact u)
theorem bd_pos {U : Nat → Nat → Int} (u : Ult U) (k : Nat) (hk : k ≤ 5) : 0 < bd U k := by
  by_cases h : k = 5
  · subst h; exact (st5 u).pos
  · exact (st_mn u k (by omega)).1.pos
/-- the inverse -/
abbrev ov (U : Nat → Nat → Int) (i j : Nat) : Int := bR U 5 i (5 + j)
theorem ov_mul {U : Nat → Nat → Int} (u : Ult U) {i j : Nat} (hi : i < 5) (hj : j < 5) : ov U i 0 * U 0 j + ov U i 1 * U 1 j + ov U i 2 * U 2 j + ov U i 3 * U 3 j + ov U i 4 * U 4 j = if i = j then bd U 5 else 0 := by
  rw [← (st5 u).z i j hi hj]
  exact ((st5 u).lr i j hi hj).symm
theorem ov_V {U V : Nat → Nat → Int} {D : Int} (u : Ult U) (T : Tn U (List.range 5) 0 V D) {i t : Nat} (hi : i < 5) (ht : t < 5) : ov U i t * D = bd U 5 * V i t := by
  have hin : ∀ r, r < 5 → U r 0 * V 0 t + U r 1 * V 1 t + U r 2 * V 2 t + U r 3 * V 3 t + U r 4 * V 4 t = if r = t then D else 0 := fun r hr => by
    have h := T.inv r (List.mem_range.mpr (by omega)) t (List.mem_range.mpr (by omega))
    rw [sm_range U V r t 4 (by omega)] at h
    simpa using h
  have F := five (ov U i 0) (ov U i 1) (ov U i 2) (ov U i 3) (ov U i 4) (V 0 t) (V 1 t) (V 2 t) (V 3 t) (V 4 t) U
  rw [ov_mul u hi (by omega), ov_mul u hi (by omega), ov_mul u hi (by omega), ov_mul u hi (by omega), ov_mul u hi (by omega), hin 0 (by omega), hin 1 (by omega), hin 2 (by omega), hin 3 (by omega), hin 4 (by omega)] at F
  match i, hi, t, ht with
  | 0, _, 0, _ | 0, _, 1, _ | 0, _, 2, _ | 0, _, 3, _ | 0, _, 4, _ | 1, _, 0, _ | 1, _, 1, _ | 1, _, 2, _ | 1, _, 3, _ | 1, _, 4, _ | 2, _, 0, _ | 2, _, 1, _ | 2, _, 2, _ | 2, _, 3, _ | 2, _, 4, _
  | 3, _, 0, _ | 3, _, 1, _ | 3, _, 2, _ | 3, _, 3, _ | 3, _, 4, _ | 4, _, 0, _ | 4, _, 1, _ | 4, _, 2, _ | 4, _, 3, _ | 4, _, 4, _ => simpa using F.symm
end Mine
namespace Mine
theorem sm5 (F : Nat → Int) : sm (List.range 5) F = F 0 + F 1 + F 2 + F 3 + F 4 := by
  simp [sm, List.range_succ, Int.add_assoc]
theorem told5 {U : Nat → Nat → Int} (u : Ult U) : Told U (List.range 5) 0 (wire U 5 (List.range 5) 0) :=
  wire_told u 5 (List.range 5) 0 (by simp) (by simp) List.nodup_range (fun i hi => List.mem_range.mp hi) (fun i _ j _ => u.nn i j) fun i hi => by
    have hi' := List.mem_range.mp hi
    have a := u.diag i (i + 1) (by omega) (by omega)
    have b := u.nn i (i + 1)
    omega
theorem ov_off {U : Nat → Nat → Int} (u : Ult U) {i j : Nat} (hi : i < 5) (hj : j < 5) (hij : i ≠ j) : ov U i j ≤ 0 ∧ (ov U i j < 0 ↔ 0 < U i j) := by
  obtain ⟨V, D, T, _⟩ := told5 u
  have e := ov_V u T hi hj
  have n := T.neg i (List.mem_range.mpr hi) j (List.mem_range.mpr hj) hij
  have hD := T.pos
  have hw := bd_pos u 5 (by omega)
  have key : (ov U i j < 0 ↔ V i j < 0) ∧ (0 < ov U i j ↔ 0 < V i j) := by
    have p1 : ∀ {a b x y : Int}, 0 < x → 0 < y → a * x = y * b → b < 0 → a < 0 := fun {a b x y} hx hy h hb => by
      rcases (by omega : a < 0 ∨ 0 ≤ a) with q | q
      · exact q
      · have h1 : 0 ≤ a * x := Int.mul_nonneg q (by omega)
        have h2 : y * b < 0 := Int.mul_neg_of_pos_of_neg hy hb
        omega
    have p2 : ∀ {a b x y : Int}, 0 < x → 0 < y → a * x = y * b → 0 < b → 0 < a := fun {a b x y} hx hy h hb => by
      rcases (by omega : 0 < a ∨ a ≤ 0) with q | q
      · exact q
      · have h1 : a * x ≤ 0 := Int.mul_nonpos_of_nonpos_of_nonneg q (by omega)
        have h2 : 0 < y * b := Int.mul_pos hy hb
        omega
    have e2 : V i j * bd U 5 = D * ov U i j := by rw [Int.mul_comm, ← e, Int.mul_comm]
    exact ⟨⟨fun h => p1 hw hD e2 h, fun h => p1 hD hw e h⟩, ⟨fun h => p2 hw hD e2 h, fun h => p2 hD hw e h⟩⟩
  refine ⟨?_, key.1.trans n.2⟩
  rcases (by omega : 0 < ov U i j ∨ ov U i j ≤ 0) with q | q
  · have := key.2.mp q; omega
  · exact q
theorem ov_row {U : Nat → Nat → Int} (u : Ult U) {i : Nat} (hi : i < 5) : 0 < ov U i 0 + ov U i 1 + ov U i 2 + ov U i 3 + ov U i 4 := by
  obtain ⟨V, D, T, _⟩ := told5 u
  have h := T.row i (List.mem_range.mpr hi)
  rw [sm5] at h
  have hD := T.pos
  have hw := bd_pos u 5 (by omega)
  have e : (ov U i 0 + ov U i 1 + ov U i 2 + ov U i 3 + ov U i 4) * D = bd U 5 * (V i 0 + V i 1 + V i 2 + V i 3 + V i 4) := by
    simp only [Int.add_mul, Int.mul_add]
    rw [ov_V u T hi (by omega), ov_V u T hi (by omega), ov_V u T hi (by omega), ov_V u T hi (by omega), ov_V u T hi (by omega)]
  have hp : 0 < bd U 5 * (V i 0 + V i 1 + V i 2 + V i 3 + V i 4) := Int.mul_pos hw h
  rw [← e] at hp
  exact Int.pos_of_mul_pos_left hp hD
theorem ov_sym {U : Nat → Nat → Int} (u : Ult U) {i j : Nat} (hi : i < 5) (hj : j < 5) : ov U i j = ov U j i := by
  obtain ⟨V, D, T, _⟩ := told5 u
  have hD := T.pos
  have e1 := ov_V u T hi hj
  have e2 := ov_V u T hj hi
  rw [T.sym i (List.mem_range.mpr hi) j (List.mem_range.mpr hj), ← e2] at e1
  exact Int.eq_of_mul_eq_mul_right (by omega) e1
def ovRow (U : Nat → Nat → Int) (i : Nat) : Int := ov U i 0 + ov U i 1 + ov U i 2 + ov U i 3 + ov U i 4
theorem ov_total {U : Nat → Nat → Int} (u : Ult U) : (ovRow U 0 + ovRow U 1 + ovRow U 2 + ovRow U 3 + ovRow U 4) * (wire U 5 (List.range 5) 0).2 = (wire U 5 (List.range 5) 0).1 * bd U 5 := by
  obtain ⟨V, D, T, hT⟩ := told5 u
  have hD := T.pos
  have row : ∀ i, i < 5 → ovRow U i * D = bd U 5 * sm (List.range 5) (V i) := fun i hi => by
    unfold ovRow
    rw [sm5]
    simp only [Int.add_mul, Int.mul_add]
    rw [ov_V u T hi (by omega), ov_V u T hi (by omega), ov_V u T hi (by omega), ov_V u T hi (by omega), ov_V u T hi (by omega)]
  have e : (ovRow U 0 + ovRow U 1 + ovRow U 2 + ovRow U 3 + ovRow U 4) * D = bd U 5 * tot (List.range 5) V := by
    unfold tot
    rw [sm5 (fun i => sm (List.range 5) (V i))]
    simp only [Int.add_mul, Int.mul_add]
    rw [row 0 (by omega), row 1 (by omega), row 2 (by omega), row 3 (by omega), row 4 (by omega)]
  generalize ovRow U 0 + ovRow U 1 + ovRow U 2 + ovRow U 3 + ovRow U 4 = S at e ⊢
  generalize (wire U 5 (List.range 5) 0).2 = dn at hT ⊢
  generalize (wire U 5 (List.range 5) 0).1 = up at hT ⊢
  have h : D * (S * dn) = D * (up * bd U 5) := by
    have h1 : D * (S * dn) = (S * D) * dn := by grind
    rw [h1, e, Int.mul_assoc, hT]
    grind
  exact Int.eq_of_mul_eq_mul_left (by omega) h
/-- the energy -/
theorem form5 (a00 a01 a02 a03 a04 a11 a12 a13 a14 a22 a23 a24 a33 a34 a44 x0 x1 x2 x3 x4 : Int) :
    a00 * x0 * x0 + a01 * x0 * x1 + a02 * x0 * x2 + a03 * x0 * x3 + a04 * x0 * x4 + (a01 * x1 * x0 + a11 * x1 * x1 + a12 * x1 * x2 + a13 * x1 * x3 + a14 * x1 * x4) + (a02 * x2 * x0 + a12 * x2 * x1 + a22 * x2 * x2 + a23 * x2 * x3 + a24 * x2 * x4) +
      (a03 * x3 * x0 + a13 * x3 * x1 + a23 * x3 * x2 + a33 * x3 * x3 + a34 * x3 * x4) + (a04 * x4 * x0 + a14 * x4 * x1 + a24 * x4 * x2 + a34 * x4 * x3 + a44 * x4 * x4) =
    (a00 + a01 + a02 + a03 + a04) * (x0 * x0) + (a01 + a11 + a12 + a13 + a14) * (x1 * x1) + (a02 + a12 + a22 + a23 + a24) * (x2 * x2) + (a03 + a13 + a23 + a33 + a34) * (x3 * x3) + (a04 + a14 + a24 + a34 + a44) * (x4 * x4) +
      (-a01) * ((x0 - x1) * (x0 - x1)) + (-a02) * ((x0 - x2) * (x0 - x2)) + (-a03) * ((x0 - x3) * (x0 - x3)) + (-a04) * ((x0 - x4) * (x0 - x4)) + (-a12) * ((x1 - x2) * (x1 - x2)) + (-a13) * ((x1 - x3) * (x1 - x3)) + (-a14) * ((x1 - x4) * (x1 - x4)) +
      (-a23) * ((x2 - x3) * (x2 - x3)) + (-a24) * ((x2 - x4) * (x2 - x4)) + (-a34) * ((x3 - x4) * (x3 - x4)) := by grind
end Mine
namespace Mine
def EN (A : Nat → Nat → Int) (x : Nat → Int) : Int := ((List.range 5).flatMap fun i => (List.range 5).map fun j => A i j * x i * x j).sum
theorem EN_eq (A : Nat → Nat → Int) (x : Nat → Int) (s : ∀ i j, i < 5 → j < 5 → A i j = A j i) : EN A x =
    (A 0 0 + A 0 1 + A 0 2 + A 0 3 + A 0 4) * (x 0 * x 0) + (A 1 0 + A 1 1 + A 1 2 + A 1 3 + A 1 4) * (x 1 * x 1) + (A 2 0 + A 2 1 + A 2 2 + A 2 3 + A 2 4) * (x 2 * x 2) + (A 3 0 + A 3 1 + A 3 2 + A 3 3 + A 3 4) * (x 3 * x 3) + (A 4 0 + A 4 1 + A 4 2 + A 4 3 + A 4 4) * (x 4 * x 4) +
      (-A 0 1) * ((x 0 - x 1) * (x 0 - x 1)) + (-A 0 2) * ((x 0 - x 2) * (x 0 - x 2)) + (-A 0 3) * ((x 0 - x 3) * (x 0 - x 3)) + (-A 0 4) * ((x 0 - x 4) * (x 0 - x 4)) + (-A 1 2) * ((x 1 - x 2) * (x 1 - x 2)) + (-A 1 3) * ((x 1 - x 3) * (x 1 - x 3)) + (-A 1 4) * ((x 1 - x 4) * (x 1 - x 4)) +
      (-A 2 3) * ((x 2 - x 3) * (x 2 - x 3)) + (-A 2 4) * ((x 2 - x 4) * (x 2 - x 4)) + (-A 3 4) * ((x 3 - x 4) * (x 3 - x 4)) := by
  have f := form5 (A 0 0) (A 0 1) (A 0 2) (A 0 3) (A 0 4) (A 1 1) (A 1 2) (A 1 3) (A 1 4) (A 2 2) (A 2 3) (A 2 4) (A 3 3) (A 3 4) (A 4 4) (x 0) (x 1) (x 2) (x 3) (x 4)
  rw [s 1 0 (by omega) (by omega), s 2 0 (by omega) (by omega), s 2 1 (by omega) (by omega), s 3 0 (by omega) (by omega), s 3 1 (by omega) (by omega), s 3 2 (by omega) (by omega), s 4 0 (by omega) (by omega), s 4 1 (by omega) (by omega), s 4 2 (by omega) (by omega), s 4 3 (by omega) (by omega)]
  rw [← f]
  have e : EN A x = A 0 0 * x 0 * x 0 + A 0 1 * x 0 * x 1 + A 0 2 * x 0 * x 2 + A 0 3 * x 0 * x 3 + A 0 4 * x 0 * x 4 + (A 1 0 * x 1 * x 0 + A 1 1 * x 1 * x 1 + A 1 2 * x 1 * x 2 + A 1 3 * x 1 * x 3 + A 1 4 * x 1 * x 4) + (A 2 0 * x 2 * x 0 + A 2 1 * x 2 * x 1 + A 2 2 * x 2 * x 2 + A 2 3 * x 2 * x 3 + A 2 4 * x 2 * x 4) +
      (A 3 0 * x 3 * x 0 + A 3 1 * x 3 * x 1 + A 3 2 * x 3 * x 2 + A 3 3 * x 3 * x 3 + A 3 4 * x 3 * x 4) + (A 4 0 * x 4 * x 0 + A 4 1 * x 4 * x 1 + A 4 2 * x 4 * x 2 + A 4 3 * x 4 * x 3 + A 4 4 * x 4 * x 4) := by
    unfold EN
    simp [List.range_succ, Int.add_assoc]
  rw [e, s 1 0 (by omega) (by omega), s 2 0 (by omega) (by omega), s 2 1 (by omega) (by omega), s 3 0 (by omega) (by omega), s 3 1 (by omega) (by omega), s 3 2 (by omega) (by omega), s 4 0 (by omega) (by omega), s 4 1 (by omega) (by omega), s 4 2 (by omega) (by omega), s 4 3 (by omega) (by omega)]
theorem EN_le {A : Nat → Nat → Int} (s : ∀ i j, i < 5 → j < 5 → A i j = A j i) (off : ∀ i j, i < 5 → j < 5 → i ≠ j → A i j ≤ 0) (row : ∀ i, i < 5 → 0 ≤ A i 0 + A i 1 + A i 2 + A i 3 + A i 4) {c g : Nat → Int}
    (h1 : ∀ i, i < 5 → c i * c i ≤ g i * g i) (h2 : ∀ i j, i < 5 → j < 5 → (c i - c j) * (c i - c j) ≤ (g i - g j) * (g i - g j)) : EN A c ≤ EN A g := by
  rw [EN_eq A c s, EN_eq A g s]
  have r : ∀ i, i < 5 → (A i 0 + A i 1 + A i 2 + A i 3 + A i 4) * (c i * c i) ≤ (A i 0 + A i 1 + A i 2 + A i 3 + A i 4) * (g i * g i) := fun i hi => Int.mul_le_mul_of_nonneg_left (h1 i hi) (row i hi)
  have o : ∀ i j, i < 5 → j < 5 → i ≠ j → (-A i j) * ((c i - c j) * (c i - c j)) ≤ (-A i j) * ((g i - g j) * (g i - g j)) := fun i j hi hj hij => Int.mul_le_mul_of_nonneg_left (h2 i j hi hj) (by have := off i j hi hj hij; omega)
  have r0 := r 0 (by omega)
  have r1 := r 1 (by omega)
  have r2 := r 2 (by omega)
  have r3 := r 3 (by omega)
  have r4 := r 4 (by omega)
  have o01 := o 0 1 (by omega) (by omega) (by omega)
  have o02 := o 0 2 (by omega) (by omega) (by omega)
  have o03 := o 0 3 (by omega) (by omega) (by omega)
  have o04 := o 0 4 (by omega) (by omega) (by omega)
  have o12 := o 1 2 (by omega) (by omega) (by omega)
  have o13 := o 1 3 (by omega) (by omega) (by omega)
  have o14 := o 1 4 (by omega) (by omega) (by omega)
  have o23 := o 2 3 (by omega) (by omega) (by omega)
  have o24 := o 2 4 (by omega) (by omega) (by omega)
  have o34 := o 3 4 (by omega) (by omega) (by omega)
  exact Int.add_le_add (Int.add_le_add (Int.add_le_add (Int.add_le_add (Int.add_le_add (Int.add_le_add (Int.add_le_add (Int.add_le_add (Int.add_le_add (Int.add_le_add (Int.add_le_add (Int.add_le_add (Int.add_le_add (Int.add_le_add r0 r1) r2) r3) r4) o01) o02) o03) o04) o12) o13) o14) o23) o24) o34
def clip (x : Int) : Int := min 8 (max 0 x)
theorem sq_le {a b : Int} (h1 : -b ≤ a) (h2 : a ≤ b) : a * a ≤ b * b := by
  have hb : 0 ≤ b := by omega
  have h3 : 0 ≤ (b - a) * (b + a) := Int.mul_nonneg (by omega) (by omega)
  have e : (b - a) * (b + a) = b * b - a * a := by grind
  omega
theorem sq_le' {a b : Int} (h : (0 ≤ b ∧ -b ≤ a ∧ a ≤ b) ∨ (b ≤ 0 ∧ b ≤ a ∧ a ≤ -b)) : a * a ≤ b * b := by
  rcases h with ⟨_, h1, h2⟩ | ⟨_, h1, h2⟩
  · exact sq_le h1 h2
  · have := sq_le (a := a) (b := -b) (by omega) h2
    have e : -b * -b = b * b := by grind
    rw [e] at this; exact this
theorem clip_sq (x : Int) : clip x * clip x ≤ x * x := sq_le' (by unfold clip; omega)
theorem clip_sub (x y : Int) : (clip x - clip y) * (clip x - clip y) ≤ (x - y) * (x - y) := sq_le' (by unfold clip; omega)
theorem ov_energy {U : Nat → Nat → Int} (u : Ult U) (g : Nat → Int) : EN (ov U) (fun i => clip (g i)) ≤ EN (ov U) g :=
  EN_le (fun i j hi hj => ov_sym u hi hj) (fun i j hi hj hij => (ov_off u hi hj hij).1) (fun i hi => by have := ov_row u hi; omega) (fun i _ => clip_sq _) fun i j _ _ => clip_sub _ _
end Mine
open PySem PySem.W PyProof.Rows PySem.Calls
namespace Mine

/-! ## the heap's order, its frozen part -/
abbrev Fm := Addr → Option Obj
def Ext (h h' : Heap) : Prop := ∀ b o, h.get? b = some o → h'.get? b = some o
theorem Ext.refl (h : Heap) : Ext h h := fun _ _ e => e
theorem Ext.trans {a b c : Heap} (x : Ext a b) (y : Ext b c) : Ext a c := fun d o e => y d o (x d o e)
theorem Ext.push {a b : Heap} (x : Ext a b) (o : Obj) : Ext a (b.push o) := fun d p e => Heap.get?_push_of_some _ (x d p e)
def Fz (W : List Addr) (h : Heap) : Fm := fun b => if b ∈ W then none else h.get? b
def FExt (G G' : Fm) : Prop := ∀ b o, G b = some o → G' b = some o
theorem FExt.refl (G : Fm) : FExt G G := fun _ _ e => e
theorem FExt.trans {a b c : Fm} (x : FExt a b) (y : FExt b c) : FExt a c := fun d o e => y d o (x d o e)
theorem Ext.fz {h h' : Heap} (x : Ext h h') (W : List Addr) : FExt (Fz W h) (Fz W h') := by
  intro b o e
  unfold Fz at e ⊢
  by_cases hb : b ∈ W
  · rw [if_pos hb] at e; cases e
  · rw [if_neg hb] at e ⊢; exact x b o e
theorem Fz.get {W : List Addr} {h : Heap} {b : Addr} {o : Obj} (e : Fz W h b = some o) : h.get? b = some o := by
  unfold Fz at e
  by_cases hb : b ∈ W
  · rw [if_pos hb] at e; cases e
  · rw [if_neg hb] at e; exact e
theorem Fz.of {W : List Addr} {h : Heap} {b : Addr} {o : Obj} (hb : b ∉ W) (e : h.get? b = some o) : Fz W h b = some o := by
  unfold Fz; rw [if_neg hb]; exact e
theorem Fz.notin {W : List Addr} {h : Heap} {b : Addr} {o : Obj} (e : Fz W h b = some o) : b ∉ W := by
  intro hb; unfold Fz at e; rw [if_pos hb] at e; cases e
def WIn (W : List Addr) (h : Heap) : Prop := ∀ b ∈ W, ∃ o, h.get? b = some o
theorem WIn.ext {W : List Addr} {h h' : Heap} (x : WIn W h) (e : Ext h h') : WIn W h' := fun b hb => let ⟨o, q⟩ := x b hb; ⟨o, e _ _ q⟩
theorem WIn.fresh {W : List Addr} {h : Heap} (x : WIn W h) : h.objs.size ∉ W := fun hb => let ⟨_, q⟩ := x _ hb; Nat.lt_irrefl _ (Heap.lt_size q)
theorem Fz.new {W : List Addr} {h : Heap} (x : WIn W h) (o : Obj) (hf : o.isFreed = false := by rfl) : Fz W (h.push o) h.objs.size = some o :=
  Fz.of x.fresh (Heap.get?_push_size _ hf)

/-! ## what a value stands for -/
structure RP where
  rel : Fm → Value → Prop
  mono : ∀ {G G' : Fm} {v : Value}, FExt G G' → rel G v → rel G' v
def IsI (i : Int) : RP := ⟨fun _ v => ∃ t, v = .int i t, fun _ h => h⟩
def IsB (b : Bool) : RP := ⟨fun _ v => v = .bool b, fun _ h => h⟩
def IsV (u : Value) : RP := ⟨fun _ v => v = u, fun _ h => h⟩
def All2 (G : Fm) : List Value → List RP → Prop
  | [], [] => True
  | v :: vs, P :: Ps => P.rel G v ∧ All2 G vs Ps
  | _, _ => False
theorem All2.mono {G G' : Fm} (x : FExt G G') : ∀ {vs : List Value} {Ps : List RP}, All2 G vs Ps → All2 G' vs Ps
  | [], [], _ => trivial
  | _ :: _, P :: _, h => ⟨P.mono x h.1, All2.mono x h.2⟩
  | [], _ :: _, h => h.elim
  | _ :: _, [], h => h.elim
theorem All2.length {G : Fm} : ∀ {vs : List Value} {Ps : List RP}, All2 G vs Ps → vs.length = Ps.length
  | [], [], _ => rfl
  | _ :: _, _ :: _, h => by rw [List.length_cons, List.length_cons, All2.length h.2]
  | [], _ :: _, h => h.elim
  | _ :: _, [], h => h.elim
theorem All2.get {G : Fm} : ∀ {vs : List Value} {Ps : List RP} {i : Nat} {P : RP}, All2 G vs Ps → Ps[i]? = some P → ∃ v, vs[i]? = some v ∧ P.rel G v
  | v :: _, _ :: _, 0, _, h, e => by
    rw [List.getElem?_cons_zero] at e; cases e
    exact ⟨v, rfl, h.1⟩
  | _ :: _, _ :: _, i + 1, _, h, e => by
    rw [List.getElem?_cons_succ] at e
    obtain ⟨v, q, r⟩ := All2.get h.2 e
    exact ⟨v, by rw [List.getElem?_cons_succ]; exact q, r⟩
  | [], [], _, _, _, e => by simp at e
  | [], _ :: _, _, _, h, _ => h.elim
  | _ :: _, [], _, _, h, _ => h.elim
theorem All2.get' {G : Fm} : ∀ {vs : List Value} {Ps : List RP} {i : Nat} {v : Value}, All2 G vs Ps → vs[i]? = some v → ∃ P, Ps[i]? = some P ∧ P.rel G v
  | _ :: _, P :: _, 0, _, h, e => by
    rw [List.getElem?_cons_zero] at e; cases e
    exact ⟨P, rfl, h.1⟩
  | _ :: _, _ :: _, i + 1, _, h, e => by
    rw [List.getElem?_cons_succ] at e
    obtain ⟨v, q, r⟩ := All2.get' h.2 e
    exact ⟨v, by rw [List.getElem?_cons_succ]; exact q, r⟩
  | [], [], _, _, _, e => by simp at e
  | [], _ :: _, _, _, h, _ => h.elim
  | _ :: _, [], _, _, h, _ => h.elim
theorem all1 {G : Fm} {vs : List Value} {P : RP} (h : All2 G vs [P]) : ∃ a, vs = [a] ∧ All2 G [a] [P] := match vs, h with
  | [a], h => ⟨a, rfl, h⟩
theorem all2 {G : Fm} {vs : List Value} {P1 P2 : RP} (h : All2 G vs [P1, P2]) : ∃ a b, vs = [a, b] ∧ All2 G [a, b] [P1, P2] := match vs, h with
  | [a, b], h => ⟨a, b, rfl, h⟩
theorem all3 {G : Fm} {vs : List Value} {P1 P2 P3 : RP} (h : All2 G vs [P1, P2, P3]) : ∃ a b c, vs = [a, b, c] ∧ All2 G [a, b, c] [P1, P2, P3] := match vs, h with
  | [a, b, c], h => ⟨a, b, c, rfl, h⟩
theorem All2.append {G : Fm} : ∀ {vs vs' : List Value} {Ps Ps' : List RP}, All2 G vs Ps → All2 G vs' Ps' → All2 G (vs ++ vs') (Ps ++ Ps')
  | [], _, [], _, _, h' => h'
  | _ :: _, _, _ :: _, _, h, h' => ⟨h.1, All2.append h.2 h'⟩
  | [], _, _ :: _, _, h, _ => h.elim
  | _ :: _, _, [], _, h, _ => h.elim
theorem All2.snoc {G : Fm} {vs : List Value} {Ps : List RP} {v : Value} {P : RP} (h : All2 G vs Ps) (hv : P.rel G v) : All2 G (vs ++ [v]) (Ps ++ [P]) := All2.append h ⟨hv, trivial⟩
theorem All2.ints {G : Fm} : ∀ {vs : List Value} {ns : List Int}, All2 G vs (ns.map IsI) → IntsAre vs ns
  | [], [], _ => .nil
  | _ :: _, _ :: _, h => by obtain ⟨⟨t, rfl⟩, r⟩ := h; exact .cons _ _ (All2.ints r)
  | [], _ :: _, h => h.elim
  | _ :: _, [], h => h.elim
theorem All2.ofInts {G : Fm} : ∀ {vs : List Value} {ns : List Int}, IntsAre vs ns → All2 G vs (ns.map IsI)
  | _, _, .nil => trivial
  | _, _, .cons _ t h => ⟨⟨t, rfl⟩, All2.ofInts h⟩
def IsL (Ps : List RP) : RP := ⟨fun G v => ∃ a vs n, v = .ref a ∧ G a = some (listOf (vs : List Value).toArray n) ∧ All2 G vs Ps,
  fun x ⟨a, vs, n, e, g, h⟩ => ⟨a, vs, n, e, x _ _ g, h.mono x⟩⟩
abbrev tupOf (its : Array Value) (n : Nat) : Obj := { cls := .type "tuple", data := .seq its n }
def IsT (Ps : List RP) : RP := ⟨fun G v => ∃ a vs n, v = .ref a ∧ G a = some (tupOf (vs : List Value).toArray n) ∧ All2 G vs Ps,
  fun x ⟨a, vs, n, e, g, h⟩ => ⟨a, vs, n, e, x _ _ g, h.mono x⟩⟩
abbrev IsLI (ns : List Int) : RP := IsL (ns.map IsI)
abbrev IsM (rows : List (List Int)) : RP := IsL (rows.map IsLI)

/-! ## expressions -/
section
variable (prog : Program) (w : World) (W : List Addr) (A : Around) (env : Env) (h : Heap)
def Ev (e : Expr) (P : RP) : Prop := ∀ (s : Shared) (Q : Value → Shared → Prop) (E : Value → Shared → Prop), Ext h s.heap → WIn W h →
  (∀ v h' tk', Ext s.heap h' → P.rel (Fz W h') v → Q v { s with heap := h', toks := tk' }) → wpAny (model prog w) A (eval e env) Q E s
def EvL (pos : Pos) (es : List Expr) (Ps : List RP) : Prop := ∀ (s : Shared) (Q : List Value → Shared → Prop) (E : Value → Shared → Prop), Ext h s.heap → WIn W h →
  (∀ vs h' tk', Ext s.heap h' → All2 (Fz W h') vs Ps → Q vs { s with heap := h', toks := tk' }) → wpAny (model prog w) A (spliced (backTo pos (starEach es env))) Q E s
def Tv (e : Expr) (b : Bool) : Prop := ∀ (s : Shared) (Q : Bool → Shared → Prop) (E : Value → Shared → Prop), Ext h s.heap → WIn W h →
  (∀ h' tk', Ext s.heap h' → Q b { s with heap := h', toks := tk' }) → wpAny (model prog w) A (isTrue e env (eval e env)) Q E s
def Nm (x : Str) (v : Value) : Prop := ∀ (s : Shared) (Q : Value → Shared → Prop) (E : Value → Shared → Prop), Ext h s.heap → Q v s → wpAny (model prog w) A (loadName env x) Q E s
def Cmp (op : CmpOp) (P1 P2 : RP) (b : Bool) : Prop := ∀ (s : Shared) (Q : Value → Shared → Prop) (E : Value → Shared → Prop) (v1 v2 : Value), Ext h s.heap → WIn W h → P1.rel (Fz W s.heap) v1 → P2.rel (Fz W s.heap) v2 →
  (∀ h' tk', Ext s.heap h' → Q (.bool b) { s with heap := h', toks := tk' }) → wpAny (model prog w) A (compareOp op v1 v2) Q E s
def CallB (f : Value) (Ps : List RP) (R : RP) : Prop := ∀ (s : Shared) (Q : Value → Shared → Prop) (E : Value → Shared → Prop) (vs : List Value), Ext h s.heap → WIn W h → All2 (Fz W s.heap) vs Ps →
  (∀ v h' tk', Ext s.heap h' → R.rel (Fz W h') v → Q v { s with heap := h', toks := tk' }) → wpAny (model prog w) A (call f vs) Q E s
end
section
variable {prog : Program} {w : World} {W : List Addr} {A : Around} {env : Env} {h h' : Heap}
theorem Ev.ext {e : Expr} {P : RP} (x : Ev prog w W A env h e P) (hx : Ext h h') (hw : WIn W h) : Ev prog w W A env h' e P := fun s Q E y _ k => x s Q E (hx.trans y) hw k
theorem Nm.ext {x : Str} {v : Value} (n : Nm prog w A env h x v) (hx : Ext h h') : Nm prog w A env h' x v := fun s Q E y k => n s Q E (hx.trans y) k
theorem ev_name {x : Str} {pos : Pos} {v : Value} {P : RP} (n : Nm prog w A env h x v) (hv : P.rel (Fz W h) v) (hd : (x == ("__debug__" : Str)) = false := by decide) : Ev prog w W A env h (.Name x pos) P := by
  intro s Q E y hw k
  exact wpAny_Name (n s Q E y (k v s.heap s.toks (Ext.refl _) (P.mono (y.fz W) hv))) hd
theorem nm_local {x : Str} {m : Str → Option Value} {v : Value} (hn : h.Ns env.locals m) (hv : m x = some v) (hk : env.scope.kind = .function := by rfl) (hl : env.kindOf x = some .local := by rfl) : Nm prog w A env h x v :=
  fun s Q E y k => wpAny_loadName_local hk hl (hn.keeps y) hv k
theorem nm_cell {x : Str} {c : Addr} {v : Value} (hc : env.cells.lookup x = some c) (hv : h.IsCell c (some v)) (hk : env.scope.kind = .function := by rfl) (hl : env.kindOf x = some .cell := by rfl) : Nm prog w A env h x v :=
  fun s Q E y k => wpAny_loadName_cell hk hl hc (hv.keeps y) k
theorem nm_free {x : Str} {c : Addr} {v : Value} (hc : env.cells.lookup x = some c) (hv : h.IsCell c (some v)) (hk : env.scope.kind = .function := by rfl) (hl : env.kindOf x = some .free := by rfl)
    (hn : (x == ("__classdict__" : Str)) = false := by decide) : Nm prog w A env h x v :=
  fun s Q E y k => wpAny_loadName_free hk hl hc (hv.keeps y) k hn
theorem ev_int {i : Int} {k : Nat} {pos : Pos} : Ev prog w W A env h (.Constant (.int i) k pos) (IsI i) := fun s Q E _ _ c => wpAny_Constant_int (c _ s.heap _ (Ext.refl _) ⟨_, rfl⟩)
theorem ev_bool {b : Bool} {k : Nat} {pos : Pos} : Ev prog w W A env h (.Constant (.bool b) k pos) (IsB b) := fun s Q E _ _ c => wpAny_Constant_bool (c _ s.heap s.toks (Ext.refl _) rfl)
theorem ev_weak {e : Expr} {P P' : RP} (x : Ev prog w W A env h e P) (k : ∀ G v, P.rel G v → P'.rel G v) : Ev prog w W A env h e P' :=
  fun s Q E y hw c => x s Q E y hw fun v h' tk' y' p => c v h' tk' y' (k _ _ p)
/-- an operation of two operands, from what it does with their values -/
theorem ev_bin {l r : Expr} {op : Operator} {pos : Pos} {P1 P2 R : RP} (hl : Ev prog w W A env h l P1) (hr : Ev prog w W A env h r P2)
    (hop : ∀ (s : Shared) (Q : Value → Shared → Prop) (E : Value → Shared → Prop) (v1 v2 : Value), Ext h s.heap → WIn W h → P1.rel (Fz W s.heap) v1 → P2.rel (Fz W s.heap) v2 →
      (∀ v h' tk', Ext s.heap h' → R.rel (Fz W h') v → Q v { s with heap := h', toks := tk' }) → wpAny (model prog w) A (binaryOp op v1 v2) Q E s) :
    Ev prog w W A env h (.BinOp l op r pos) R := by
  intro s Q E y hw k
  refine wpAny_BinOp (hl s _ _ y hw fun v h1 tk1 y1 p1 => ?_)
  refine hr _ _ _ (y.trans y1) hw fun v2 h2 tk2 y2 p2 => ?_
  exact hop _ _ _ _ _ ((y.trans y1).trans y2) hw (P1.mono (y2.fz W) p1) p2 fun v h' tk' y3 p3 => k _ _ _ ((y1.trans y2).trans y3) p3
theorem ev_add {l r : Expr} {pos : Pos} {a b : Int} (hl : Ev prog w W A env h l (IsI a)) (hr : Ev prog w W A env h r (IsI b)) : Ev prog w W A env h (.BinOp l .Add r pos) (IsI (a + b)) :=
  ev_bin hl hr fun s Q E v1 v2 _ _ ⟨t1, e1⟩ ⟨t2, e2⟩ k => by subst e1 e2; exact add_int (k _ _ _ (Ext.refl _) ⟨_, rfl⟩)
theorem ev_sub {l r : Expr} {pos : Pos} {a b : Int} (hl : Ev prog w W A env h l (IsI a)) (hr : Ev prog w W A env h r (IsI b)) : Ev prog w W A env h (.BinOp l .Sub r pos) (IsI (a - b)) :=
  ev_bin hl hr fun s Q E v1 v2 _ _ ⟨t1, e1⟩ ⟨t2, e2⟩ k => by subst e1 e2; exact sub_int (k _ _ _ (Ext.refl _) ⟨_, rfl⟩)
theorem ev_mul {l r : Expr} {pos : Pos} {a b : Int} (hl : Ev prog w W A env h l (IsI a)) (hr : Ev prog w W A env h r (IsI b)) (hm : IntMulOk a b) : Ev prog w W A env h (.BinOp l .Mult r pos) (IsI (a * b)) :=
  ev_bin hl hr fun s Q E v1 v2 _ _ ⟨t1, e1⟩ ⟨t2, e2⟩ k => by subst e1 e2; exact mul_int (k _ _ _ (Ext.refl _) ⟨_, rfl⟩) hm
theorem ev_fdiv {l r : Expr} {pos : Pos} {a b : Int} (hl : Ev prog w W A env h l (IsI a)) (hr : Ev prog w W A env h r (IsI b)) (hb : b ≠ 0) (hp : Builtin.divisionGoesByPylong a b = false) :
    Ev prog w W A env h (.BinOp l .FloorDiv r pos) (IsI (a.fdiv b)) :=
  ev_bin hl hr fun s Q E v1 v2 _ _ ⟨t1, e1⟩ ⟨t2, e2⟩ k => by subst e1 e2; exact floordiv_int hb (k _ _ _ (Ext.refl _) ⟨_, rfl⟩) (.inl hp)
theorem ev_mod {l r : Expr} {pos : Pos} {a b : Int} (hl : Ev prog w W A env h l (IsI a)) (hr : Ev prog w W A env h r (IsI b)) (hb : b ≠ 0) : Ev prog w W A env h (.BinOp l .Mod r pos) (IsI (a.fmod b)) :=
  ev_bin hl hr fun s Q E v1 v2 _ _ ⟨t1, e1⟩ ⟨t2, e2⟩ k => by subst e1 e2; exact mod_int hb (k _ _ _ (Ext.refl _) ⟨_, rfl⟩)
theorem ev_xor {l r : Expr} {pos : Pos} {a b : Int} (hl : Ev prog w W A env h l (IsI a)) (hr : Ev prog w W A env h r (IsI b)) : Ev prog w W A env h (.BinOp l .BitXor r pos) (IsI (Builtin.bitXor a b)) :=
  ev_bin hl hr fun s Q E v1 v2 _ _ ⟨t1, e1⟩ ⟨t2, e2⟩ k => by subst e1 e2; exact xor_int (k _ _ _ (Ext.refl _) ⟨_, rfl⟩)
theorem cmp_gt {a b : Int} : Cmp prog w W A h .Gt (IsI a) (IsI b) (decide (b < a)) := fun s Q E v1 v2 _ _ ⟨t1, e1⟩ ⟨t2, e2⟩ k => by subst e1 e2; exact gt_int (k _ s.toks (Ext.refl _))
theorem cmp_ge {a b : Int} : Cmp prog w W A h .GtE (IsI a) (IsI b) (decide (b ≤ a)) := fun s Q E v1 v2 _ _ ⟨t1, e1⟩ ⟨t2, e2⟩ k => by subst e1 e2; exact ge_int (k _ s.toks (Ext.refl _))
theorem cmp_le {a b : Int} : Cmp prog w W A h .LtE (IsI a) (IsI b) (decide (a ≤ b)) := fun s Q E v1 v2 _ _ ⟨t1, e1⟩ ⟨t2, e2⟩ k => by subst e1 e2; exact le_int (k _ s.toks (Ext.refl _))
theorem cmp_lt {a b : Int} : Cmp prog w W A h .Lt (IsI a) (IsI b) (decide (a < b)) := fun s Q E v1 v2 _ _ ⟨t1, e1⟩ ⟨t2, e2⟩ k => by subst e1 e2; exact lt_int (k _ s.toks (Ext.refl _))
theorem cmp_eq {a b : Int} : Cmp prog w W A h .Eq (IsI a) (IsI b) (a == b) := fun s Q E v1 v2 _ _ ⟨t1, e1⟩ ⟨t2, e2⟩ k => by subst e1 e2; exact eq_int (k _ s.toks (Ext.refl _))
theorem cmp_ne {a b : Int} : Cmp prog w W A h .NotEq (IsI a) (IsI b) (a != b) := fun s Q E v1 v2 _ _ ⟨t1, e1⟩ ⟨t2, e2⟩ k => by subst e1 e2; exact ne_int (k _ s.toks (Ext.refl _))
theorem cmp_neB {a b : Bool} : Cmp prog w W A h .NotEq (IsB a) (IsB b) (a != b) := fun s Q E v1 v2 _ _ e1 e2 k => by
  have e1' : v1 = .bool a := e1
  have e2' : v2 = .bool b := e2
  subst e1' e2'; exact ne_bool (k _ s.toks (Ext.refl _))
theorem ev_cmp {l r : Expr} {op : CmpOp} {pos : Pos} {P1 P2 : RP} {b : Bool} (hl : Ev prog w W A env h l P1) (hr : Ev prog w W A env h r P2) (hc : Cmp prog w W A h op P1 P2 b)
    (hm : behindInMarks op r = false := by with_unfolding_all rfl) : Ev prog w W A env h (.Compare l [op] [r] pos) (IsB b) := by
  intro s Q E y hw k
  refine wpAny_Compare1 (hl s _ _ y hw fun v h1 tk1 y1 p1 => ?_) hm
  refine hr _ _ _ (y.trans y1) hw fun v2 h2 tk2 y2 p2 => ?_
  exact hc _ _ _ _ _ ((y.trans y1).trans y2) hw (P1.mono (y2.fz W) p1) p2 fun h' tk' y3 => k _ _ _ ((y1.trans y2).trans y3) rfl
theorem tv_cmp {l r : Expr} {op : CmpOp} {pos : Pos} {P1 P2 : RP} {b : Bool} (hl : Ev prog w W A env h l P1) (hr : Ev prog w W A env h r P2) (hc : Cmp prog w W A h op P1 P2 b)
    (hm : behindInMarks op r = false := by with_unfolding_all rfl) : Tv prog w W A env h (.Compare l [op] [r] pos) b := by
  intro s Q E y hw k
  refine wpAny_isTrue_Compare1 (hl s _ _ y hw fun v h1 tk1 y1 p1 => ?_) hm
  refine hr _ _ _ (y.trans y1) hw fun v2 h2 tk2 y2 p2 => ?_
  exact hc _ _ _ _ _ ((y.trans y1).trans y2) hw (P1.mono (y2.fz W) p1) p2 fun h' tk' y3 => wpAny_truthy_bool (k _ _ ((y1.trans y2).trans y3))
theorem tv_plain {e : Expr} {b : Bool} (x : Ev prog w W A env h e (IsB b)) (he : isTrue e env (eval e env) = (do let v ← eval e env; standAt e.pos; holding [v] (truthy v)) := by rfl) : Tv prog w W A env h e b := by
  intro s Q E y hw k
  refine isTrue_plain (x s _ _ y hw fun v h1 tk1 y1 p1 => ?_) he
  have p : v = .bool b := p1
  subst p
  exact wpAny_truthy_bool (k _ _ y1)
theorem tv_not {e : Expr} {pos : Pos} {b : Bool} (x : Tv prog w W A env h e b) : Tv prog w W A env h (.UnaryOp .Not e pos) (!b) := by
  intro s Q E y hw k
  exact isTrue_not (x s _ _ y hw fun h1 tk1 y1 => k _ _ y1)
theorem ev_ite {t b o : Expr} {pos : Pos} {c : Bool} {P : RP} (ht : Tv prog w W A env h t c) (h1 : c = true → Ev prog w W A env h b P) (h2 : c = false → Ev prog w W A env h o P) :
    Ev prog w W A env h (.IfExp t b o pos) P := by
  intro s Q E y hw k
  refine wpAny_IfExp (ht s _ _ y hw fun h' tk' y' => ?_)
  cases c
  · exact h2 rfl _ _ _ (y.trans y') hw fun v h'' tk'' y'' p => k _ _ _ (y'.trans y'') p
  · exact h1 rfl _ _ _ (y.trans y') hw fun v h'' tk'' y'' p => k _ _ _ (y'.trans y'') p
theorem tv_eq {e : Expr} {b c : Bool} (x : Tv prog w W A env h e b) (hb : b = c) : Tv prog w W A env h e c := hb ▸ x
theorem evl_nil {pos : Pos} : EvL prog w W A env h pos [] [] := fun s Q E _ _ k => spliced_none (k [] s.heap s.toks (Ext.refl _) trivial)
theorem evl_cons {pos : Pos} {e : Expr} {rest : List Expr} {P : RP} {Ps : List RP} (he : Ev prog w W A env h e P) (hr : EvL prog w W A env h pos rest Ps)
    (hs : starEach (e :: rest) env = (false, eval e env) :: starEach rest env := by rfl) : EvL prog w W A env h pos (e :: rest) (P :: Ps) := by
  intro s Q E y hw k
  refine spliced_more (he s _ _ y hw fun v h1 tk1 y1 p1 => ?_) hs
  exact hr _ _ _ (y.trans y1) hw fun vs h2 tk2 y2 p2 => k _ _ _ (y1.trans y2) ⟨P.mono (y2.fz W) p1, p2⟩
theorem ev_list {pos : Pos} {es : List Expr} {Ps : List RP} (x : EvL prog w W A env h pos es Ps) (hz : Ps.length ≤ sizeLine := by first | decide | size_fits) : Ev prog w W A env h (.List es pos) (IsL Ps) := by
  intro s Q E y hw k
  refine List_ (x s _ _ y hw fun vs h1 tk1 y1 p1 => ?_)
  refine wpAny_newList (k _ _ _ (y1.push _) ⟨_, vs, _, rfl, Fz.new (hw.ext (y.trans y1)) _, p1.mono (((Ext.refl h1).push _).fz W)⟩) (by rw [p1.length]; exact hz)
theorem ev_tuple {pos : Pos} {es : List Expr} {n : Nat} {Ps : List RP} (x : EvL prog w W A env h pos es Ps) (hz : Ps.length ≤ sizeLine := by first | decide | size_fits) : Ev prog w W A env h (.Tuple es n pos) (IsT Ps) := by
  intro s Q E y hw k
  refine Tuple_ (x s _ _ y hw fun vs h1 tk1 y1 p1 => ?_)
  refine wpAny_newTuple (k _ _ _ (y1.push _) ⟨_, vs, _, rfl, Fz.new (hw.ext (y.trans y1)) _, p1.mono (((Ext.refl h1).push _).fz W)⟩) (by rw [p1.length]; exact hz)
theorem ev_item {value slice : Expr} {pos : Pos} {Ps : List RP} {P : RP} {k : Int} (hv : Ev prog w W A env h value (IsL Ps)) (hi : Ev prog w W A env h slice (IsI k)) (h0 : 0 ≤ k) (hfit : k < 2 ^ 63) (hx : Ps[k.toNat]? = some P)
    (hs : ∀ a u, subscripted slice false (.ref a) (.int k u) = operate [.ref a, .int k u] (getItem (.ref a) (.int k u)) := by intro _ _; with_unfolding_all rfl) :
    Ev prog w W A env h (.Subscript value slice pos) P := by
  intro s Q E y hw c
  refine Subscript_ (hv s _ _ y hw fun v h1 tk1 y1 p1 => ?_)
  refine hi _ _ _ (y.trans y1) hw fun v2 h2 tk2 y2 p2 => ?_
  obtain ⟨a, vs, n, rfl, g, hall⟩ := p1
  obtain ⟨u, rfl⟩ := p2
  obtain ⟨r, hr, pr⟩ := hall.get hx
  have hl : h2.IsList a vs.toArray := ⟨_, y2 _ _ (Fz.get g), rfl, _, rfl⟩
  exact tail_any hl.typeIs slot_list_getitem.lookup (wpAny_getItem_list hl h0 hfit (by simpa using hr) (c _ _ _ (y1.trans y2) (P.mono (y2.fz W) pr))) (hs _ _)
theorem ev_itemT {value slice : Expr} {pos : Pos} {Ps : List RP} {P : RP} {k : Int} (hv : Ev prog w W A env h value (IsT Ps)) (hi : Ev prog w W A env h slice (IsI k)) (h0 : 0 ≤ k) (hfit : k < 2 ^ 63) (hx : Ps[k.toNat]? = some P)
    (hs : ∀ a u, subscripted slice false (.ref a) (.int k u) = operate [.ref a, .int k u] (getItem (.ref a) (.int k u)) := by intro _ _; with_unfolding_all rfl) :
    Ev prog w W A env h (.Subscript value slice pos) P := by
  intro s Q E y hw c
  refine Subscript_ (hv s _ _ y hw fun v h1 tk1 y1 p1 => ?_)
  refine hi _ _ _ (y.trans y1) hw fun v2 h2 tk2 y2 p2 => ?_
  obtain ⟨a, vs, n, rfl, g, hall⟩ := p1
  obtain ⟨u, rfl⟩ := p2
  obtain ⟨r, hr, pr⟩ := hall.get hx
  have hlt : k.toNat < vs.length := by
    rcases Nat.lt_or_ge k.toNat vs.length with q | q
    · exact q
    · rw [List.getElem?_eq_none q] at hr; cases hr
  refine item_tupleT (l := vs) (j := k.toNat) ⟨_, y2 _ _ (Fz.get g), rfl, _, rfl⟩ (by omega) hfit ?_ hr (c _ _ _ (y1.trans y2) (P.mono (y2.fz W) pr)) (hs _ _)
  unfold seqIndex?
  simp only
  rw [if_neg (by omega : ¬ k < 0), if_pos (by simp only [Bool.and_eq_true, decide_eq_true_eq]; omega)]
end
end Mine
namespace Mine

/-! ## comprehensions -/
structure CS (s₂ : Shared) (h0 : Heap) (W : List Addr) (C D : Addr) (X : List Addr) (Rs : List RP) (s : Shared) : Prop where
  same : ∃ h tk, s = { s₂ with heap := h, toks := tk }
  ext : Ext h0 s.heap
  acc : ∃ ys : List Value, s.heap.get? D = some (listOf ys.toArray ys.length) ∧ All2 (Fz (D :: C :: (X ++ W)) s.heap) ys Rs
  off : ∀ b ∈ D :: C :: X, h0.get? b = none
  live : ∀ b ∈ D :: C :: X, ∃ o, s.heap.get? b = some o
  nd : D ∉ C :: X
  nc : C ∉ X
theorem fext_but {Z : List Addr} {h h' : Heap} (k : ∀ b o, b ∉ Z → h.get? b = some o → h'.get? b = some o) : FExt (Fz Z h) (Fz Z h') := fun b o e =>
  Fz.of (Fz.notin e) (k b o (Fz.notin e) (Fz.get e))
theorem mem_z {b D C : Addr} {X W : List Addr} (hb : b ∈ D :: C :: (X ++ W)) : b ∈ D :: C :: X ∨ b ∈ W := by
  simp only [List.mem_cons, List.mem_append] at hb ⊢
  rcases hb with h | h | h | h
  · exact .inl (.inl h)
  · exact .inl (.inr (.inl h))
  · exact .inl (.inr (.inr h))
  · exact .inr h
theorem z_mem {b D C : Addr} {X W : List Addr} (hb : b ∈ C :: X) : b ∈ D :: C :: (X ++ W) := by
  simp only [List.mem_cons, List.mem_append] at hb ⊢
  rcases hb with h | h
  · exact .inr (.inl h)
  · exact .inr (.inr (.inl h))
namespace CS
variable {s₂ s : Shared} {h0 : Heap} {W : List Addr} {C D : Addr} {X : List Addr} {Rs : List RP}
theorem win (x : CS s₂ h0 W C D X Rs s) (hw : WIn W h0) : WIn (D :: C :: (X ++ W)) s.heap := fun b hb => by
  rcases mem_z hb with h | h
  · exact x.live b h
  · obtain ⟨o, e⟩ := hw b h
    exact ⟨o, x.ext _ _ e⟩
theorem fext (x : CS s₂ h0 W C D X Rs s) : FExt (Fz W h0) (Fz (D :: C :: (X ++ W)) s.heap) := fun b o e => by
  refine Fz.of (fun hb => ?_) (x.ext _ _ (Fz.get e))
  rcases mem_z hb with h | h
  · have := x.off b h; rw [Fz.get e] at this; cases this
  · exact Fz.notin e h
theorem step (x : CS s₂ h0 W C D X Rs s) {h' : Heap} {tk' : Nat} (keep : ∀ b o, b ∉ C :: X → s.heap.get? b = some o → h'.get? b = some o) (live' : ∀ b ∈ C :: X, ∃ o, h'.get? b = some o) :
    CS s₂ h0 W C D X Rs { s with heap := h', toks := tk' } := by
  obtain ⟨⟨h, tk, rfl⟩, e, ⟨ys, g, a⟩, off, live, nd, nc⟩ := x
  refine ⟨⟨h', tk', rfl⟩, fun b o q => keep b o (fun hb => ?_) (e b o q), ⟨ys, keep _ _ nd g, a.mono (fext_but fun b o hb q => keep b o (fun h => hb (z_mem h)) q)⟩, off, fun b hb => ?_, nd, nc⟩
  · have := off b (List.mem_cons_of_mem _ hb); rw [q] at this; cases this
  · rcases List.mem_cons.mp hb with rfl | hb
    · exact ⟨_, keep _ _ nd g⟩
    · exact live' b hb
theorem grow (x : CS s₂ h0 W C D X Rs s) {h' : Heap} {tk' : Nat} (k : Ext s.heap h') : CS s₂ h0 W C D X Rs { s with heap := h', toks := tk' } :=
  x.step (fun b o _ e => k b o e) fun b hb => let ⟨o, e⟩ := x.live b (List.mem_cons_of_mem _ hb); ⟨o, k _ _ e⟩
theorem push (x : CS s₂ h0 W C D X Rs s) {ys : List Value} {v : Value} {R : RP} {h' : Heap} {tk' : Nat} (g : s.heap.get? D = some (listOf ys.toArray ys.length)) (a : All2 (Fz (D :: C :: (X ++ W)) s.heap) ys Rs)
    (hv : R.rel (Fz (D :: C :: (X ++ W)) s.heap) v) (hs : Heap.SameBut D s.heap h') (hD : h'.get? D = some (listOf (ys.toArray.push v) (ys.length + 1))) : CS s₂ h0 W C D X (Rs ++ [R]) { s with heap := h', toks := tk' } := by
  obtain ⟨⟨h, tk, rfl⟩, e, _, off, live, nd, nc⟩ := x
  have fx : FExt (Fz (D :: C :: (X ++ W)) h) (Fz (D :: C :: (X ++ W)) h') := fext_but fun b o hb q => (hs.2 b (fun h => hb (h ▸ List.mem_cons_self))).trans q
  refine ⟨⟨h', tk', rfl⟩, fun b o q => (hs.2 b (fun hb => ?_)).trans (e b o q), ⟨ys ++ [v], by rw [hD]; exact congrArg some (LCg.lst_snoc ys v), (a.snoc hv).mono fx⟩, off, fun b hb => ?_, nd, nc⟩
  · have := off D List.mem_cons_self; rw [← hb, q] at this; cases this
  · by_cases hbD : b = D
    · exact ⟨_, hbD ▸ hD⟩
    · obtain ⟨o, q⟩ := live b hb
      exact ⟨o, (hs.2 b hbD).trans q⟩
end CS

/-- what is left of it at its end -/
structure CE (s₂ : Shared) (h0 : Heap) (W : List Addr) (C D : Addr) (Rs : List RP) (s : Shared) : Prop where
  same : ∃ h tk, s = { s₂ with heap := h, toks := tk }
  ext : Ext h0 s.heap
  res : (IsL Rs).rel (Fz (C :: W) s.heap) (.ref D)
  dc : D ≠ C
  own : ∃ (ys : List Value) (n : Nat), s.heap.get? D = some (listOf ys.toArray n) ∧ All2 (Fz (D :: C :: W) s.heap) ys Rs
theorem fext_sub {Z Z' : List Addr} {h : Heap} (k : ∀ b, b ∈ Z' → b ∈ Z) : FExt (Fz Z h) (Fz Z' h) := fun b o e => Fz.of (fun hb => Fz.notin e (k b hb)) (Fz.get e)
theorem CS.done {s₂ s : Shared} {h0 : Heap} {W : List Addr} {C D I : Addr} {Rs : List RP} {X : List Addr} (x : CS s₂ h0 W C D (I :: X) Rs s) (hw : WIn W h0) {h' : Heap} {tk' : Nat}
    (keep : ∀ b o, b ∉ [I] → s.heap.get? b = some o → h'.get? b = some o) : CE s₂ h0 W C D Rs { s with heap := h', toks := tk' } := by
  obtain ⟨⟨h, tk, rfl⟩, e, ⟨ys, g, a⟩, off, live, nd, nc⟩ := x
  have hD' : h'.get? D = some (listOf ys.toArray ys.length) := keep _ _ (fun hb => nd (by simp at hb; simp [hb])) g
  have a2 : All2 (Fz (D :: C :: W) h') ys Rs := (a.mono (fext_but fun b o hb q => keep b o (fun h => hb (by simp at h; simp [h])) q)).mono (fext_sub fun b hb => by
    simp only [List.mem_cons, List.mem_append] at hb ⊢
    rcases hb with hb | hb | hb <;> simp [hb])
  refine ⟨⟨h', tk', rfl⟩, fun b o q => keep b o (fun hb => ?_) (e b o q), ⟨D, ys, _, rfl, Fz.of (fun hb => ?_) hD', a2.mono (fext_sub fun b hb => List.mem_cons_of_mem _ hb)⟩, fun e => nd (e ▸ List.mem_cons_self), ys, _, hD', a2⟩
  · have := off b (by simp at hb; simp [hb]); rw [q] at this; cases this
  · rcases List.mem_cons.mp hb with hb | hb
    · exact nd (by simp [hb])
    · obtain ⟨o, q⟩ := hw _ hb
      have := off D (by simp); rw [q] at this; cases this
/-- the tests of a comprehension's clause come to b -/
def TestsTo (prog : Program) (w : World) (W : List Addr) (A : Around) (env : Env) (h : Heap) (ifs : List Expr) (b : Bool) : Prop :=
  ∀ (s : Shared) (Q : Bool → Shared → Prop) (E : Value → Shared → Prop), Ext h s.heap → WIn W h → (∀ h' tk', Ext s.heap h' → Q b { s with heap := h', toks := tk' }) →
    wpAny (model prog w) A (forIn ifs true fun c r => if r = true then do let ok ← isTrue c env (eval c env); pure (ForInStep.yield ok) else pure (ForInStep.yield r)) Q E s
section
variable {prog : Program} {w : World} {W : List Addr} {A : Around} {env : Env} {h : Heap}
theorem tests_none : TestsTo prog w W A env h [] true := fun s Q E _ _ k => wpAny_tests_nil (k s.heap s.toks (Ext.refl _))
theorem tests_one {c : Expr} {b : Bool} (x : Tv prog w W A env h c b) : TestsTo prog w W A env h [c] b := fun s Q E y hw k => wpAny_tests_one (x s Q E y hw k)
end

section
variable {prog : Program} {w : World} {W : List Addr} {A : Around} {env : Env} {s s₂ : Shared} {h0 : Heap} {C D I : Addr} {fp : List Addr} {n : Nat} {P : Nat → Value → Prop} {St : Nat → Heap → Prop} {RR : Result → Shared → Prop}

/-- one turn's end: the element is reckoned and appended -/
theorem emit {X : List Addr} {Rs : List RP} {cenv : Env} {elt : Expr} {R : RP} {Q : Shared → Prop} {E : Value → Shared → Prop} {m : Str → Option Value} (x : CS s₂ h0 W C D X Rs s) (hw : WIn W h0) (hz : Rs.length ≤ sizeLine) (hn : s.heap.Ns C m)
    (he : Ev prog w (D :: C :: (X ++ W)) A cenv s.heap elt R)
    (k : ∀ h' tk', CS s₂ h0 W C D X (Rs ++ [R]) { s with heap := h', toks := tk' } → h'.Ns C m → (∀ b o, b ≠ D → s.heap.get? b = some o → h'.get? b = some o) → Q { s with heap := h', toks := tk' }) :
    wpAny (model prog w) A (eval elt cenv) (fun v s₄ => wpAny (model prog w) A (call (.builtin "list.append") [.ref D, v]) (fun _ s₅ => Q s₅) E s₄) E s := by
  refine he s _ _ (Ext.refl _) (x.win hw) fun v h1 tk1 y1 p1 => ?_
  have x1 := x.grow (tk' := tk1) y1
  obtain ⟨ys, g, a⟩ := id x1.acc
  refine append_at g (fun h2 hs hD => ?_) (by show ys.toArray.size ≤ sizeLine; rw [List.size_toArray, a.length]; exact hz)
  have hDC : D ≠ C := fun e => x.nd (e ▸ List.mem_cons_self)
  exact k h2 tk1 (x1.push g a p1 hs hD) ((hn.keeps y1).sameBut hs (Ne.symm hDC)) fun b o hb e => (hs.2 b hb).trans (y1 b o e)

theorem loop1 {elt iter : Expr} {x : Str} {px : Pos} {ifs : List Expr} {scope : Scope} {pos : Pos} {cenv : Env} {m : Str → Option Value} (hC : cenv.locals = C) (hk : cenv.scope.kind = .function) (hx : cenv.kindOf x = some .local) (hw : WIn W h0)
    (Wk : Walks prog w A I fp [I] n P St) (hz : n ≤ sizeLine) (hfp : ∀ b ∈ fp, b = I ∨ ∃ o, h0.get? b = some o) (hlive : ∀ i h, St i h → ∃ o, h.get? I = some o) (sel : Nat → Option RP)
    (turn : ∀ i v m2 s Rs, i < n → P i v → CS s₂ h0 W C D [I] Rs s → s.heap.Ns C m2 → m2 x = some v →
      ∃ b, TestsTo prog w (D :: C :: ([I] ++ W)) A cenv s.heap ifs b ∧ (match sel i with | some R => b = true ∧ Ev prog w (D :: C :: ([I] ++ W)) A cenv s.heap elt R | none => b = false))
    (X0 : CS s₂ h0 W C D [I] [] s) (h0St : St 0 s.heap) (hn : s.heap.Ns C m)
    (fin : ∀ s' m', CE s₂ h0 W C D ((List.range n).filterMap sel) s' → s'.heap.Ns C m' → RR (.ok .next) s') :
    codeAny (model prog w) A (.compLoop (.ListComp elt [⟨.Name x px, iter, ifs, 0⟩] scope pos) 0 (.ref I) (.ref D) cenv) RR s := by
  have hID : I ≠ D := fun e => X0.nd (e ▸ by simp)
  have hIC : I ≠ C := fun e => X0.nc (e ▸ by simp)
  have hDC : D ≠ C := fun e => X0.nd (e ▸ by simp)
  have offC : ∀ b ∈ fp, b ≠ C := fun b hb e => by
    rcases hfp b hb with rfl | ⟨o, q⟩
    · exact hIC e
    · have := X0.off C (by simp); rw [← e, q] at this; cases this
  have offD : ∀ b ∈ fp, b ≠ D := fun b hb e => by
    rcases hfp b hb with rfl | ⟨o, q⟩
    · exact hID e
    · have := X0.off D (by simp); rw [← e, q] at this; cases this
  refine codeAny_compLoop_tests
    (fun k s' => ∃ i m', i ≤ n ∧ k = n + 1 - i ∧ St i s'.heap ∧ s'.heap.Ns C m' ∧ CS s₂ h0 W C D [I] ((List.range i).filterMap sel) s') ?_ (n + 1) ⟨0, m, Nat.zero_le _, rfl, h0St, hn, X0⟩
  rintro k s' ⟨i, m', hi, rfl, hst, hn', x'⟩
  by_cases hlt : i < n
  · refine Wk.item i _ _ _ hlt hst fun v h₂ tk₂ hPv hst₂ hk₂ => ?_
    have x2 : CS s₂ h0 W C D [I] ((List.range i).filterMap sel) { s' with heap := h₂, toks := tk₂ } := x'.step (fun b o hb e => hk₂ b o (by simp at hb ⊢; exact hb.2) e) fun b hb => by
      rcases List.mem_cons.mp hb with rfl | hb
      · obtain ⟨o, _, _, q, _⟩ := hn'
        exact ⟨o, hk₂ _ _ (by simpa using Ne.symm hIC) q⟩
      · rw [List.mem_singleton.mp hb]; exact hlive _ _ hst₂
    have hn2 : h₂.Ns C m' := hn'.at' fun o e => hk₂ _ o (by simpa using Ne.symm hIC) e
    refine wpAny_assign_Name (wpAny_storeName_local hx (hC ▸ hn2) (fun h₃ hn₃ hs₃ => ?_) (by rw [hk]; rfl))
    rw [hC] at hn₃ hs₃
    have x3 : CS s₂ h0 W C D [I] ((List.range i).filterMap sel) { s' with heap := h₃, toks := tk₂ + 1 } := x2.step (h' := h₃) (tk' := tk₂ + 1) (fun b o hb e => (hs₃.2 b (fun q => hb (by simp [q]))).trans e) fun b hb => by
      rcases List.mem_cons.mp hb with rfl | hb
      · obtain ⟨o, _, _, q, _⟩ := hn₃
        exact ⟨o, q⟩
      · rw [List.mem_singleton.mp hb]
        obtain ⟨o, q⟩ := hlive _ _ hst₂
        exact ⟨o, (hs₃.2 I hIC).trans q⟩
    have hst₃ : St (i + 1) h₃ := Wk.frame _ _ _ hst₂ fun b hb o e => (hs₃.2 b (offC b hb)).trans e
    obtain ⟨b, ht, hsel⟩ := turn i v _ _ _ hlt hPv x3 hn₃ (by simp)
    refine ht _ _ _ (Ext.refl _) (x3.win hw) fun h₄ tk₄ y₄ => ?_
    have x4 := x3.grow (tk' := tk₄) y₄
    have hst₄ : St (i + 1) h₄ := Wk.frame _ _ _ hst₃ fun b _ o e => y₄ b o e
    have hr : (List.range (i + 1)).filterMap sel = (List.range i).filterMap sel ++ (match sel i with | some R => [R] | none => []) := by
      rw [List.range_succ, List.filterMap_append]
      congr 1
      cases hq : sel i with
      | none => rw [List.filterMap_cons_none hq]; rfl
      | some R => rw [List.filterMap_cons_some hq]; rfl
    cases hs : sel i with
    | none =>
      rw [hs] at hsel hr
      simp only at hsel
      subst hsel
      simp only [Bool.false_eq_true, if_false]
      rw [List.append_nil] at hr
      exact ⟨n + 1 - (i + 1), by omega, i + 1, _, hlt, rfl, hst₄, hn₃.keeps y₄, hr ▸ x4⟩
    | some R =>
      rw [hs] at hsel hr
      obtain ⟨rfl, he⟩ := hsel
      simp only [if_true]
      refine emit x4 hw ?_ (hn₃.keeps y₄) (he.ext y₄ (x3.win hw)) fun h₅ tk₅ x5 hn₅ hk₅ => ?_
      · refine Nat.le_trans (List.length_filterMap_le _ _) ?_
        rw [List.length_range]; omega
      · exact ⟨n + 1 - (i + 1), by omega, i + 1, _, hlt, rfl, Wk.frame _ _ _ hst₄ fun b hb o e => hk₅ b o (offD b hb) e, hn₅, hr ▸ x5⟩
  · obtain rfl : i = n := Nat.le_antisymm hi (Nat.not_lt.mp hlt)
    refine Wk.done _ _ _ hst fun h₂ tk₂ hk₂ => ?_
    exact fin _ m' (x'.done hw hk₂) (hn'.at' fun o e => hk₂ _ o (by simpa using Ne.symm hIC) e)
end
end Mine
namespace Mine
section
variable {prog : Program} {w : World} {W : List Addr} {A : Around} {env : Env} {s s₂ : Shared} {R : Result → Shared → Prop}
theorem compTurn_two0 (elt t0 i0 t1 i1 : Expr) (scope : Scope) (pos : Pos) (it acc : Value) (env : Env) :
    compTurn (.ListComp elt [⟨t0, i0, [], 0⟩, ⟨t1, i1, [], 0⟩] scope pos) 0 it acc env = (standAt i0.pos >>= fun _ => pyNext it >>= fun r => match r with
      | none => pure (.done .next)
      | some v => letOwnedTupleGo t0 it v >>= fun _ => assign t0 env v >>= fun _ => eval i1 env >>= fun x => standAt i1.pos >>= fun _ => foldedSetIterable i1 env x >>= fun x =>
          holding [x] (pyIter x) >>= fun it' => runOwn (.compStart (.ListComp elt [⟨t0, i0, [], 0⟩, ⟨t1, i1, [], 0⟩] scope pos) 1 it' acc env) env >>= fun _ =>
          again (.compLoop (.ListComp elt [⟨t0, i0, [], 0⟩, ⟨t1, i1, [], 0⟩] scope pos) 0 it acc env)) := by rfl
theorem compTurn_two1 (elt t0 i0 t1 i1 : Expr) (scope : Scope) (pos : Pos) (it acc : Value) (env : Env) :
    compTurn (.ListComp elt [⟨t0, i0, [], 0⟩, ⟨t1, i1, [], 0⟩] scope pos) 1 it acc env = (standAt i1.pos >>= fun _ => pyNext it >>= fun r => match r with
      | none => pure (.done .next)
      | some v => letOwnedTupleGo t1 it v >>= fun _ => assign t1 env v >>= fun _ =>
          (eval elt env >>= fun x => call (.builtin "list.append") [acc, x] >>= fun _ => pure ()) >>= fun _ =>
          again (.compLoop (.ListComp elt [⟨t0, i0, [], 0⟩, ⟨t1, i1, [], 0⟩] scope pos) 1 it acc env)) := by rfl
theorem start_two1 {elt t0 i0 t1 i1 : Expr} {scope : Scope} {pos : Pos} {it acc : Value} {env : Env}
    (h0 : codeAny (model prog w) A (.compLoop (.ListComp elt [⟨t0, i0, [], 0⟩, ⟨t1, i1, [], 0⟩] scope pos) 1 it acc env) R s)
    (h : wpAny (model prog w) A (pyIter it) (fun it' s' => codeAny (model prog w) A (.compLoop (.ListComp elt [⟨t0, i0, [], 0⟩, ⟨t1, i1, [], 0⟩] scope pos) 1 it' acc env) R s')
      (notedBy (model prog w) A env fun x s' => R (.error x) s') s) :
    codeAny (model prog w) A (.compStart (.ListComp elt [⟨t0, i0, [], 0⟩, ⟨t1, i1, [], 0⟩] scope pos) 1 it acc env) R s := by
  refine codeAny_of_tree ?_
  show wpAny _ _ ((compStart (.ListComp elt [⟨t0, i0, [], 0⟩, ⟨t1, i1, [], 0⟩] scope pos) 1 it acc env).onRaise (fun x => do noteFrame x env; standAt theWindowsPlace)) _ _ s
  refine wpAny_notedAt ?_
  unfold compStart
  show wpAny _ _ (ask >>= _) _ _ s
  refine wpAny_bind (wpAny_askSetting (wpAny_ite ?_))
  split
  · first
      | exact wpAny_bind (wpAny_pure (wpAny_pure (And.intro rfl h0)))
      | exact wpAny_pure (And.intro rfl h0)
  · first
      | exact wpAny_bind (wpAny_rule (wpAny_bind (wpAny_standAt (wpAny_bind (wpAny_mono h (fun it' s' h' => wpAny_pure (And.intro rfl h')) fun _ _ x => x)))))
      | (refine wpAny_bind (wpAny_rule ?_); show wpAny _ _ (standAt i1.pos >>= _) _ _ s; exact wpAny_bind (wpAny_standAt (wpAny_bind (wpAny_mono h (fun it' s' h' => wpAny_pure (And.intro rfl h')) fun _ _ x => x))))
theorem loop_two1 {elt t0 i0 t1 i1 : Expr} {scope : Scope} {pos : Pos} {it acc : Value} {env : Env} (I : Nat → Shared → Prop)
    (turn : ∀ n s, I n s → wpAny (model prog w) A (pyNext it) (fun r s₁ => match r with
      | none => R (.ok .next) s₁
      | some v => wpAny (model prog w) A (assign t1 env v) (fun _ s₂ => wpAny (model prog w) A (eval elt env) (fun x s₃ =>
          wpAny (model prog w) A (call (.builtin "list.append") [acc, x]) (fun _ s₄ => ∃ m, m < n ∧ I m s₄) (notedBy (model prog w) A env fun e s' => R (.error e) s') s₃)
          (notedBy (model prog w) A env fun e s' => R (.error e) s') s₂) (notedBy (model prog w) A env fun e s' => R (.error e) s') s₁) (notedBy (model prog w) A env fun e s' => R (.error e) s') s)
    (n : Nat) (h : I n s) (ht : ∀ v, letOwnedTupleGo t1 it v = pure () := by intro _; rfl) :
    codeAny (model prog w) A (.compLoop (.ListComp elt [⟨t0, i0, [], 0⟩, ⟨t1, i1, [], 0⟩] scope pos) 1 it acc env) R s := by
  refine codeAny_loop rfl I (fun n s hI => ?_) n h
  show wpAny _ A ((compTurn (.ListComp elt [⟨t0, i0, [], 0⟩, ⟨t1, i1, [], 0⟩] scope pos) 1 it acc env).onRaise (fun x => do noteFrame x env; theTreesLotGoes x)) _ _ s
  refine wpAny_noted ?_
  rw [compTurn_two1]
  refine wpAny_bind (wpAny_standAt (wpAny_bind (wpAny_mono (turn n s hI) (fun r s₁ h₁ => ?_) fun _ _ h' => h')))
  cases r with
  | none => exact wpAny_pure h₁
  | some v =>
    refine wpAny_bind (wpAny_of_eq (ht v) ?_)
    refine wpAny_bind (wpAny_mono h₁ (fun _ s₂ h₂ => ?_) fun _ _ h' => h')
    exact wpAny_bind (wpAny_bind (wpAny_mono h₂ (fun x s₄ h₄ => wpAny_bind (wpAny_mono h₄ (fun _ s₅ h₅ => wpAny_pure (wpAny_pure ⟨rfl, h₅⟩)) fun _ _ h' => h')) fun _ _ h' => h'))
theorem loop_two0 {elt t0 i0 t1 i1 : Expr} {scope : Scope} {pos : Pos} {it acc : Value} {env : Env} (I : Nat → Shared → Prop) (hA : A.handled = none)
    (turn : ∀ n s, I n s → wpAny (model prog w) A (pyNext it) (fun r s₁ => match r with
      | none => R (.ok .next) s₁
      | some v => wpAny (model prog w) A (assign t0 env v) (fun _ s₂ => wpAny (model prog w) A (eval i1 env) (fun x s₃ => wpAny (model prog w) A (pyIter x) (fun it' s₄ =>
          codeAny (model prog w) A (.compStart (.ListComp elt [⟨t0, i0, [], 0⟩, ⟨t1, i1, [], 0⟩] scope pos) 1 it' acc env) (fun r s₅ => r = .ok .next ∧ ∃ m, m < n ∧ I m s₅) s₄) (notedBy (model prog w) A env fun e s' => R (.error e) s') s₃)
          (notedBy (model prog w) A env fun e s' => R (.error e) s') s₂) (notedBy (model prog w) A env fun e s' => R (.error e) s') s₁) (notedBy (model prog w) A env fun e s' => R (.error e) s') s)
    (n : Nat) (h : I n s) (ht : ∀ v, letOwnedTupleGo t0 it v = pure () := by intro _; rfl) (hs : ∀ x, foldedSetIterable i1 env x = pure x) :
    codeAny (model prog w) A (.compLoop (.ListComp elt [⟨t0, i0, [], 0⟩, ⟨t1, i1, [], 0⟩] scope pos) 0 it acc env) R s := by
  refine codeAny_loop rfl I (fun n s hI => ?_) n h
  show wpAny _ A ((compTurn (.ListComp elt [⟨t0, i0, [], 0⟩, ⟨t1, i1, [], 0⟩] scope pos) 0 it acc env).onRaise (fun x => do noteFrame x env; theTreesLotGoes x)) _ _ s
  refine wpAny_noted ?_
  rw [compTurn_two0]
  refine wpAny_bind (wpAny_standAt (wpAny_bind (wpAny_mono (turn n s hI) (fun r s₁ h₁ => ?_) fun _ _ h' => h')))
  cases r with
  | none => exact wpAny_pure h₁
  | some v =>
    refine wpAny_bind (wpAny_of_eq (ht v) ?_)
    refine wpAny_bind (wpAny_mono h₁ (fun _ s₂ h₂ => ?_) fun _ _ h' => h')
    refine wpAny_bind (wpAny_mono h₂ (fun x s₃ h₃ => ?_) fun _ _ h' => h')
    refine wpAny_bind (wpAny_standAt (wpAny_bind (wpAny_of_eq (hs x) ?_)))
    refine wpAny_bind (wpAny_holding (wpAny_mono h₃ (fun it' s₄ h₄ => ?_) fun _ _ h' => h'))
    refine wpAny_bind (wpAny_runOwn (h := none) ?_)
    have hm : A.mark none = A := by unfold Around.mark; rfl
    rw [hm]
    refine codeAny_mono h₄ fun r s₅ h₅ => ?_
    obtain ⟨rfl, h₅⟩ := h₅
    exact wpAny_pure ⟨rfl, h₅⟩
end
end Mine
namespace Mine

/-- what an iterator over values like Ps is -/
def SrcAt (prog : Program) (w : World) (A : Around) (W : List Addr) (Ps : List RP) (h : Heap) (I : Addr) (h' : Heap) : Prop :=
  ∃ (fp : List Addr) (P : Nat → Value → Prop) (St : Nat → Heap → Prop), Walks prog w A I fp [I] Ps.length P St ∧ St 0 h' ∧ h.get? I = none ∧ (∀ b ∈ fp, b = I ∨ ∃ o, Fz W h b = some o) ∧ (∀ i h, St i h → ∃ o, h.get? I = some o) ∧
    ∀ i v, P i v → ∃ R, Ps[i]? = some R ∧ R.rel (Fz W h) v
section
variable (prog : Program) (w : World) (W : List Addr) (A : Around) (env : Env) (h : Heap)
def Src (iter : Expr) (Ps : List RP) : Prop := ∀ (s : Shared) (Q : Value → Shared → Prop) (E : Value → Shared → Prop), Ext h s.heap → WIn W h →
  (∀ I h1 h' tk', Ext s.heap h1 → Ext h1 h' → SrcAt prog w A W Ps h1 I h' → Q (.ref I) { s with heap := h', toks := tk' }) →
  wpAny (model prog w) A (eval iter env) (fun x s₁ => wpAny (model prog w) A (pyIter x) Q E s₁) E s
end
section
variable {prog : Program} {w : World} {W : List Addr} {A : Around} {env : Env} {h : Heap}
theorem src_list {iter : Expr} {Ps : List RP} (hA : A.handled = none) (he : Ev prog w W A env h iter (IsL Ps)) : Src prog w W A env h iter Ps := by
  intro s Q E y hw k
  refine he s _ _ y hw fun v h1 tk1 y1 p1 => ?_
  obtain ⟨a, vs, n, rfl, g, hall⟩ := p1
  have hl : h1.IsList a vs.toArray := ⟨_, Fz.get g, rfl, _, rfl⟩
  have hlt : a < h1.objs.size := Heap.lt_size (Fz.get g)
  refine wpAny_pyIter_list hl (k h1.objs.size h1 _ tk1 y1 (fun b o e => Heap.get?_push_of_some _ e) ⟨[h1.objs.size, a], fun i v => vs.toArray[i]? = some v, fun i h => h.IsListIter h1.objs.size a i ∧ h.IsList a vs.toArray, ?_, ⟨⟨_, Heap.get?_push_size _ rfl, rfl, rfl⟩, hl.push _⟩, ?_, ?_, ?_, ?_⟩)
  · have := Walks.list (prog := prog) (w := w) hA h1.objs.size a (Nat.ne_of_lt hlt) vs.toArray
    have e : vs.toArray.size = Ps.length := by rw [List.size_toArray, hall.length]
    rw [e] at this; exact this
  · cases e : h1.get? h1.objs.size with
    | none => rfl
    | some o => exact absurd (Heap.lt_size e) (Nat.lt_irrefl _)
  · intro b hb
    rcases List.mem_cons.mp hb with rfl | hb
    · exact .inl rfl
    · rw [List.mem_singleton.mp hb]; exact .inr ⟨_, g⟩
  · exact fun i h st => let ⟨⟨o, e, _⟩, _⟩ := st; ⟨o, e⟩
  · intro i v hv
    exact hall.get' (by simpa using hv)
theorem call_range1 {n : Nat} (hn : n ≤ sizeLine) : ∀ (s : Shared) (Q : Value → Shared → Prop) (E : Value → Shared → Prop) (t : Tok), A.handled = none →
    (∀ I h1 h' tk', Ext s.heap h1 → Ext h1 h' → SrcAt prog w A W ((List.range n).map fun i => IsI (i : Nat)) h1 I h' → Q (.ref I) { s with heap := h', toks := tk' }) →
    wpAny (model prog w) A (call (.type "range") [.int n t]) (fun x s₁ => wpAny (model prog w) A (pyIter x) Q E s₁) E s := by
  intro s Q E t hA k
  have hs : n ≤ 2 ^ 24 := by have := sizeLine_eq; omega
  refine call_range_1 ?_
  have hsz : Builtin.Range.rangeSize 0 (n : Int) 1 = ((n : Nat) : Int) := by
    rw [rangeSize_one]; split <;> omega
  refine wpAny_pyIter_range (IsRange.new s.heap 0 n 1 s.toks t (s.toks + 1)) (small_one (by omega) (by omega) (by omega) (by omega)) ?_
  refine k (s.heap.push { cls := .type "range", data := .fields #[.int 0 s.toks, .int n t, .int 1 (s.toks + 1)] }).objs.size (s.heap.push { cls := .type "range", data := .fields #[.int 0 s.toks, .int n t, .int 1 (s.toks + 1)] }) _ _ (fun b o e => Heap.get?_push_of_some _ e) (fun b o e => Heap.get?_push_of_some _ e)
    ⟨[(s.heap.push { cls := .type "range", data := .fields #[.int 0 s.toks, .int n t, .int 1 (s.toks + 1)] }).objs.size], fun i v => i < n ∧ ∃ t, v = .int (0 + (i : Nat) * 1) t,
     fun i h => IsRangeIter h (s.heap.push { cls := .type "range", data := .fields #[.int 0 s.toks, .int n t, .int 1 (s.toks + 1)] }).objs.size (0 + (i : Nat) * 1) ((n : Int) - (i : Nat)) 1, ?_, ?_, ?_, ?_, ?_, ?_⟩
  · have W' := (Walks.range (prog := prog) (w := w) hA (s.heap.push { cls := .type "range", data := .fields #[.int 0 s.toks, .int n t, .int 1 (s.toks + 1)] }).objs.size 0 1 n).bound
    rwa [List.length_map, List.length_range]
  · show IsRangeIter _ _ _ _ _
    rw [hsz]
    have := Heap.get?_push_size (s.heap.push { cls := .type "range", data := .fields #[.int 0 s.toks, .int n t, .int 1 (s.toks + 1)] }) (o := { cls := .type "range_iterator", data := .fields #[rawInt 0, rawInt ((n : Nat) : Int), rawInt 1] }) rfl
    simpa using this
  · cases e : (s.heap.push { cls := .type "range", data := .fields #[.int 0 s.toks, .int n t, .int 1 (s.toks + 1)] }).get? _ with
    | none => rfl
    | some o => exact absurd (Heap.lt_size e) (Nat.lt_irrefl _)
  · intro b hb; exact .inl (List.mem_singleton.mp hb)
  · exact fun i h st => ⟨_, st⟩
  · rintro i v ⟨hi, t, rfl⟩
    refine ⟨IsI (i : Nat), by rw [List.getElem?_map, List.getElem?_range hi]; rfl, t, ?_⟩
    rw [Int.zero_add, Int.mul_one]
/-- iterating over range(e) -/
theorem src_range {x : Str} {px pc : Pos} {e : Expr} {n : Nat} (hA : A.handled = none) (hr : Nm prog w A env h x (.type "range")) (he : Ev prog w W A env h e (IsI (n : Nat))) (hn : n ≤ sizeLine)
    (hd : (x == ("__debug__" : Str)) = false := by decide) (hs : starEach [e] env = (false, eval e env) :: starEach [] env := by rfl)
    (hc : ∀ pc, eval (.Call (.Name x px) [e] [] pc) env = (do callWith pc (← eval (.Name x px) env) [] (backTo pc (starEach [e] env)) (backToKw pc (keywordEach [] env))) := by intro _; rfl) :
    Src prog w W A env h (.Call (.Name x px) [e] [] pc) ((List.range n).map fun i => IsI (i : Nat)) := by
  intro s Q E y hw k
  refine Call_ ?_ (hc pc)
  refine wpAny_Name (hr s _ _ y ?_) hd
  refine PyProof.Rows.callWith_type1 ?_ hs (by rfl)
  refine spliced_more (he s _ _ y hw fun v h1 tk1 y1 p1 => ?_) hs
  obtain ⟨t, rfl⟩ := p1
  refine spliced_none ?_
  exact call_range1 hn _ _ _ t hA fun I h2 h' tk' y2 y3 S => k I h2 h' tk' (y1.trans y2) y3 S
end

section
variable {prog : Program} {w : World} {W : List Addr} {A : Around} {env : Env} {h : Heap}
/-- the block of a comprehension: what it makes ahead of its loop -/
theorem comp_alloc {elt iter target : Expr} {ifs : List Expr} {rest : List Comprehension} {scope : Scope} {pos : Pos} {cl : List (Str × Addr)} {Ss : List RP} (hsrc : Src prog w W A env h iter Ss)
    (hcell : ∀ y ∈ scope.names, y.2 ≠ .cell) (hkind : scope.kind = .function)
    {use : Option (Value → Sem Unit)} {s : Shared} {Q : Value → Shared → Prop} {E : Value → Shared → Prop} (y : Ext h s.heap) (hw : WIn W h)
    (lp : ∀ (I : Addr) (h1 : Heap) (fp : List Addr) (P : Nat → Value → Prop) (St : Nat → Heap → Prop) (C D : Addr) (h₁ : Heap) (tk2 : Nat), Ext s.heap h1 → Walks prog w A I fp [I] Ss.length P St → (∀ b ∈ fp, b = I ∨ ∃ o, Fz W h1 b = some o) →
      (∀ i h, St i h → ∃ o, h.get? I = some o) → (∀ i v, P i v → ∃ R, Ss[i]? = some R ∧ R.rel (Fz W h1) v) → CS s h1 W C D [I] [] { s with heap := h₁, toks := tk2 } → St 0 h₁ → h₁.Ns C (fun _ => none) → h1.get? C = none → WIn W h1 →
      codeAny (model prog w) A (.compLoop (.ListComp elt (⟨target, iter, ifs, 0⟩ :: rest) scope pos) 0 (.ref I) (.ref D) (compEnvC scope cl C env)) (compPost (model prog w) A E use Q (.ref D) C) { s with heap := h₁, toks := tk2 }) :
    wpAny (model prog w) A (eval iter env) (fun x' s₁ => wpAny (model prog w) A (pyIter x') (fun it s₂ => wpAny (model prog w) A (newList []) (fun acc s₃ =>
      wpAny (model prog w) A (newFunctionEnv scope env.globals cl [] env.qual none .none (some env)) (fun cenv s₄ =>
        codeAny (model prog w) A (.compStart (.ListComp elt (⟨target, iter, ifs, 0⟩ :: rest) scope pos) 0 it acc { cenv with scope := relabel scope env }) (compPost (model prog w) A E use Q acc cenv.locals) s₄) E s₃) E s₂) E s₁) E s := by
  refine hsrc s _ _ y hw fun I h1 h2 tk2 y1 y2 S => ?_
  obtain ⟨fp, P, St, Wk, h0St, hI, hfp, hlive, hP⟩ := S
  refine wpAny_newObj_type (wpAny_newFunctionEnv hcell (by intro y hy; simp at hy) (fun h₁ hns₁ hsb₁ => ?_) hkind)
  dsimp only at hns₁ hsb₁ ⊢
  generalize hH2 : h2.push { cls := .type "list", dict := none, data := .seq ([] : List Value).toArray } = H2 at hns₁ hsb₁ ⊢
  have hC : H2.objs.size = h2.objs.size + 1 := by rw [← hH2, Heap.size_push]
  have hDC : h2.objs.size ≠ H2.objs.size := by rw [hC]; exact Nat.ne_of_lt (Nat.lt_succ_self _)
  have below : ∀ b, b < h2.objs.size → b ≠ H2.objs.size ∧ b ≠ h2.objs.size := fun b hb => ⟨by rw [hC]; exact Nat.ne_of_lt (Nat.lt_succ_of_lt hb), Nat.ne_of_lt hb⟩
  have old : ∀ b o, h2.get? b = some o → h₁.get? b = some o := fun b o e => hsb₁.extBut b o (below b (Heap.lt_size e)).1 (Heap.get?_push_of_some _ (hH2 ▸ Heap.get?_push_of_some _ e))
  have hacc : h₁.get? h2.objs.size = some (listOf ([] : List Value).toArray ([] : List Value).length) := hsb₁.extBut _ _ hDC (Heap.get?_push_of_some _ (hH2 ▸ Heap.get?_push_size _ rfl))
  have hst₁ : St 0 h₁ := Wk.frame _ _ _ h0St fun b _ o e => old b o e
  obtain ⟨oI, hoI⟩ := hlive _ _ h0St
  have hIlt : I < h2.objs.size := Heap.lt_size hoI
  have fresh : ∀ a, h2.objs.size ≤ a → h1.get? a = none := fun a ha => by
    cases e : h1.get? a with
    | none => rfl
    | some o' => exact absurd (Heap.lt_size (y2 _ _ e)) (Nat.not_lt.mpr ha)
  have X0 : CS s h1 W H2.objs.size h2.objs.size [I] [] { s with heap := h₁, toks := tk2 } := by
    refine ⟨⟨_, _, rfl⟩, fun b o e => old b o (y2 b o e), ⟨[], hacc, trivial⟩, fun b hb => ?_, fun b hb => ?_, fun hb => ?_, fun hb => ?_⟩
    · simp only [List.mem_cons, List.mem_singleton, List.not_mem_nil, or_false] at hb
      rcases hb with rfl | rfl | rfl
      · exact fresh _ (Nat.le_refl _)
      · exact fresh _ (by rw [hC]; exact Nat.le_succ _)
      · exact hI
    · simp only [List.mem_cons, List.mem_singleton, List.not_mem_nil, or_false] at hb
      rcases hb with rfl | rfl | rfl
      · exact ⟨_, hacc⟩
      · obtain ⟨o, _, _, q, _⟩ := hns₁; exact ⟨o, q⟩
      · exact ⟨_, old _ _ hoI⟩
    · simp only [List.mem_cons, List.mem_singleton, List.not_mem_nil, or_false] at hb
      rcases hb with hb | hb
      · exact hDC hb
      · exact absurd hIlt (by rw [← hb]; exact Nat.lt_irrefl _)
    · have e : H2.objs.size = I := List.mem_singleton.mp hb
      rw [e] at hC
      exact absurd hIlt (by rw [hC]; exact Nat.not_lt.mpr (Nat.le_succ _))
  have hw1 : WIn W h1 := hw.ext (y.trans y1)
  have L := lp I h1 fp P St H2.objs.size h2.objs.size h₁ tk2 y1 Wk hfp hlive hP X0 hst₁ hns₁ (fresh _ (by rw [hC]; exact Nat.le_succ _)) hw1
  exact codeAny_compStart_list L (Wk.self 0 _ _ _ hst₁ L)
/-- the block of a comprehension over one clause -/
theorem comp_core {elt iter : Expr} {x : Str} {px : Pos} {ifs : List Expr} {scope : Scope} {pos : Pos} {cl : List (Str × Addr)} {Ss : List RP} (hA : A.handled = none) (hsrc : Src prog w W A env h iter Ss) (hz : Ss.length ≤ sizeLine) (sel : Nat → Option RP)
    (hcell : ∀ y ∈ scope.names, y.2 ≠ .cell) (hkind : scope.kind = .function) (hx : scope.names.lookup x = some .local)
    (turn : ∀ i S h' C W' m2 v, Ss[i]? = some S → Ext h h' → FExt (Fz W h) (Fz W' h') → WIn W' h' → h'.Ns C m2 → m2 x = some v → S.rel (Fz W' h') v →
      ∃ b, TestsTo prog w W' A (compEnvC scope cl C env) h' ifs b ∧ (match sel i with | some R => b = true ∧ Ev prog w W' A (compEnvC scope cl C env) h' elt R | none => b = false))
    {use : Option (Value → Sem Unit)} {s : Shared} {Q : Value → Shared → Prop} {E : Value → Shared → Prop} (y : Ext h s.heap) (hw : WIn W h)
    (k : ∀ D C h1 s' m', Ext s.heap h1 → CE s h1 W C D ((List.range Ss.length).filterMap sel) s' → s'.heap.Ns C m' → h1.get? C = none → compPost (model prog w) A E use Q (.ref D) C (.ok .next) s') :
    wpAny (model prog w) A (eval iter env) (fun x' s₁ => wpAny (model prog w) A (pyIter x') (fun it s₂ => wpAny (model prog w) A (newList []) (fun acc s₃ =>
      wpAny (model prog w) A (newFunctionEnv scope env.globals cl [] env.qual none .none (some env)) (fun cenv s₄ =>
        codeAny (model prog w) A (.compStart (.ListComp elt [⟨.Name x px, iter, ifs, 0⟩] scope pos) 0 it acc { cenv with scope := relabel scope env }) (compPost (model prog w) A E use Q acc cenv.locals) s₄) E s₃) E s₂) E s₁) E s := by
  refine comp_alloc hsrc hcell hkind y hw fun I h1 fp P St C D h₁ tk2 y1 Wk hfp hlive hP X0 hst₁ hns₁ hC hw1 => ?_
  refine loop1 (cenv := compEnvC scope cl C env) rfl hkind (lookup_relabel_local hx) hw1 Wk hz (fun b hb => (hfp b hb).imp id fun ⟨o, q⟩ => ⟨o, Fz.get q⟩) hlive sel (fun i v m2 s' Rs hi hPv X hn hv => ?_) X0 hst₁ hns₁ fun s' m' c hn => ?_
  · obtain ⟨S, hS, hrel⟩ := hP i v hPv
    have fx : FExt (Fz W h) (Fz W h1) := (y.trans y1).fz W
    exact turn i S s'.heap _ _ m2 v hS ((y.trans y1).trans X.ext) (fx.trans X.fext) (X.win hw1) hn hv (S.mono X.fext hrel)
  · exact k _ _ h1 s' m' y1 c hn hC

theorem CE.rel {s₂ s : Shared} {h0 : Heap} {C D : Addr} {Rs : List RP} (x : CE s₂ h0 W C D Rs s) {h' : Heap} (hs : Heap.SameBut C s.heap h') : (IsL Rs).rel (Fz W h') (.ref D) :=
  (IsL Rs).mono ((fext_but (Z := C :: W) fun b o hb e => (hs.2 b (fun q => hb (q ▸ List.mem_cons_self))).trans e).trans (fext_sub fun b hb => List.mem_cons_of_mem _ hb)) x.res

theorem ev_compS {elt iter : Expr} {x : Str} {px : Pos} {ifs : List Expr} {scope : Scope} {pos : Pos} {cl : List (Str × Addr)} {Ss : List RP} (hA : A.handled = none) (hsrc : Src prog w W A env h iter Ss) (hz : Ss.length ≤ sizeLine) (sel : Nat → Option RP) {Rs : List RP}
    (hRs : (List.range Ss.length).filterMap sel = Rs)
    (turn : ∀ i S h' C W' m2 v, Ss[i]? = some S → Ext h h' → FExt (Fz W h) (Fz W' h') → WIn W' h' → h'.Ns C m2 → m2 x = some v → S.rel (Fz W' h') v →
      ∃ b, TestsTo prog w W' A (compEnvC scope cl C env) h' ifs b ∧ (match sel i with | some R => b = true ∧ Ev prog w W' A (compEnvC scope cl C env) h' elt R | none => b = false))
    (hclos : closureFor scope env = pure cl) (hcell : ∀ y ∈ scope.names, y.2 ≠ .cell := by decide) (hkind : scope.kind = .function := by rfl) (hx : scope.names.lookup x = some .local := by rfl)
    (hnames : ∀ y ∈ scope.names, y.2 = .local → scope.names.lookup y.1 = some .local := by decide)
    (hs : ∀ x, foldedSetIterable iter env x = pure x := by intro _; rfl) : Ev prog w W A env h (.ListComp elt [⟨.Name x px, iter, ifs, 0⟩] scope pos) (IsL Rs) := by
  intro s Q E y hw k
  rw [eval_ListComp]
  refine wpAny_comprehension_free (use := none) rfl hs hclos hkind hnames (comp_core hA hsrc hz sel hcell hkind hx turn y hw fun D C h1 s' m' y1 c hn hC => ?_)
  refine ⟨m', hn, fun h'' hs'' => ?_⟩
  obtain ⟨h3, tk3, rfl⟩ := c.same
  rw [hRs] at c
  exact k _ h'' tk3 (fun b o e => (hs''.2 b (fun q => by have := y1 b o e; rw [q, hC] at this; cases this)).trans (c.ext _ _ (y1 b o e))) (c.rel hs'')
theorem ax_compS {elt iter : Expr} {x yn : Str} {px py : Pos} {ifs : List Expr} {scope : Scope} {pos spos : Pos} {cl : List (Str × Addr)} {Ss : List RP} {m : Str → Option Value} {s : Shared} {Q : Flow → Shared → Prop} {E : Value → Shared → Prop}
    (hA : A.handled = none) (hsrc : Src prog w W A env s.heap iter Ss) (hz : Ss.length ≤ sizeLine) (sel : Nat → Option RP) {Rs : List RP}
    (hRs : (List.range Ss.length).filterMap sel = Rs) (hw : WIn W s.heap) (hL : env.locals ∈ W) (hns : s.heap.Ns env.locals m)
    (turn : ∀ i S h' C W' m2 v, Ss[i]? = some S → Ext s.heap h' → FExt (Fz W s.heap) (Fz W' h') → WIn W' h' → h'.Ns C m2 → m2 x = some v → S.rel (Fz W' h') v →
      ∃ b, TestsTo prog w W' A (compEnvC scope cl C env) h' ifs b ∧ (match sel i with | some R => b = true ∧ Ev prog w W' A (compEnvC scope cl C env) h' elt R | none => b = false))
    (k : ∀ v h' tk', (∀ b o, b ≠ env.locals → s.heap.get? b = some o → h'.get? b = some o) → h'.Ns env.locals (fun z => if z = yn then some v else m z) → (IsL Rs).rel (Fz W h') v → Q .next { s with heap := h', toks := tk' })
    (hclos : closureFor scope env = pure cl) (hsw : swapsWith (.ListComp elt [⟨.Name x px, iter, ifs, 0⟩] scope pos) (some (.Name yn py)) spos.line env = pure true := by rfl)
    (hcell : ∀ y ∈ scope.names, y.2 ≠ .cell := by decide) (hkind : scope.kind = .function := by rfl) (hx : scope.names.lookup x = some .local := by rfl)
    (hnames : ∀ y ∈ scope.names, y.2 = .local → scope.names.lookup y.1 = some .local := by decide) (hy : env.kindOf yn = some .local := by rfl) (hp : (env.scope.kind == .class || (env.scope.kind == .module && env.locals != env.globals)) = false := by rfl)
    (hs : ∀ x, foldedSetIterable iter env x = pure x := by intro _; rfl) : wpAny (model prog w) A (exec (.Assign [.Name yn py] (.ListComp elt [⟨.Name x px, iter, ifs, 0⟩] scope pos) spos) env) Q E s := by
  rw [exec_Assign_Name_used _ _ _ _ hsw]
  refine wpAny_bind (wpAny_standAt (wpAny_bind ?_))
  show wpAny _ A (do let _ ← comprehension (.ListComp elt [⟨.Name x px, iter, ifs, 0⟩] scope pos) scope env _ (newList []) false (eval iter env) (some (assign (.Name yn py) env))) _ _ s
  refine wpAny_bind (wpAny_mono (wpAny_comprehension_free (use := some (assign (.Name yn py) env)) (Q := fun _ s' => Q .next s') rfl hs hclos hkind hnames
    (comp_core hA hsrc hz sel hcell hkind hx turn (Ext.refl _) hw fun D C h1 s' m' y1 c hn hC => ?_)) (fun _ s' hq => wpAny_pure (wpAny_pure hq)) fun _ _ e => e)
  obtain ⟨h3, tk3, rfl⟩ := c.same
  rw [hRs] at c
  have hLC : env.locals ≠ C := fun e => by
    obtain ⟨o, q⟩ := hw _ hL
    have := y1 _ _ q; rw [e, hC] at this; cases this
  have hns3 : h3.Ns env.locals m := hns.keeps (y1.trans c.ext)
  show wpAny _ A (assign (.Name yn py) env (.ref D)) _ _ _
  refine wpAny_assign_Name (wpAny_storeName_local hy hns3 (fun h4 hn4 hs4 => ?_) hp)
  refine ⟨m', hn.sameBut hs4 (Ne.symm hLC), fun h'' hs'' => k _ h'' _ (fun b o hb e => ?_) (hn4.sameBut hs'' hLC) ?_⟩
  · have e1 := y1 b o e
    exact (hs''.2 b (fun q => by rw [q, hC] at e1; cases e1)).trans ((hs4.2 b hb).trans (c.ext _ _ e1))
  · refine (IsL Rs).mono ((fext_but (Z := C :: W) (h' := h'') fun b o hb e => ?_).trans (fext_sub fun b hb => List.mem_cons_of_mem _ hb)) c.res
    exact (hs''.2 b (fun q => hb (q ▸ List.mem_cons_self))).trans ((hs4.2 b (fun q => hb (q ▸ List.mem_cons_of_mem _ hL))).trans e)
end
end Mine
namespace Mine
theorem CS.drop {s₂ s : Shared} {h0 : Heap} {W : List Addr} {C D J : Addr} {Rs : List RP} {X : List Addr} (x : CS s₂ h0 W C D (J :: X) Rs s) {h' : Heap} {tk' : Nat} (hJ : J ∉ X)
    (keep : ∀ b o, b ∉ [J] → s.heap.get? b = some o → h'.get? b = some o) : CS s₂ h0 W C D X Rs { s with heap := h', toks := tk' } := by
  obtain ⟨⟨h, tk, rfl⟩, e, ⟨ys, g, a⟩, off, live, nd, nc⟩ := x
  refine ⟨⟨h', tk', rfl⟩, fun b o q => keep b o (fun hb => ?_) (e b o q), ⟨ys, keep _ _ (fun hb => nd ?_) g, (a.mono (fext_but fun b o hb q => keep b o (fun h => hb ?_) q)).mono (fext_sub fun b hb => ?_)⟩, fun b hb => off b ?_, fun b hb => ?_, fun hb => nd ?_, fun hb => nc ?_⟩
  · have := off b (by simp at hb; simp [hb]); rw [q] at this; cases this
  · simp at hb; simp [hb]
  · simp at h; simp [h]
  · simp only [List.mem_cons, List.mem_append] at hb ⊢
    rcases hb with hb | hb | hb | hb <;> simp [hb]
  · simp only [List.mem_cons] at hb ⊢
    rcases hb with hb | hb | hb <;> simp [hb]
  · obtain ⟨o, q⟩ := live b (by simp only [List.mem_cons] at hb ⊢; rcases hb with hb | hb | hb <;> simp [hb])
    refine ⟨o, keep _ _ (fun h => ?_) q⟩
    have hbJ := List.mem_singleton.mp h
    subst hbJ
    simp only [List.mem_cons] at hb
    rcases hb with hb | hb | hb
    · exact nd (by simp [hb])
    · exact nc (by simp [hb])
    · exact hJ hb
  · simp only [List.mem_cons] at hb ⊢; rcases hb with hb | hb <;> simp [hb]
  · simp [hb]
section
variable {prog : Program} {w : World} {W : List Addr} {A : Around} {env : Env} {s s₂ : Shared} {h0 : Heap} {C D I J : Addr}
/-- the inner loop of two clauses -/
theorem loop2in {elt i0 i1 : Expr} {x y : Str} {px py : Pos} {scope : Scope} {pos : Pos} {cenv : Env} {m : Str → Option Value} {fp : List Addr} {n : Nat} {P : Nat → Value → Prop} {St : Nat → Heap → Prop} {Rs₀ : List RP}
    (hC : cenv.locals = C) (hk : cenv.scope.kind = .function) (hy : cenv.kindOf y = some .local) (hxy : x ≠ y) (hw : WIn W h0)
    (Wk : Walks prog w A J fp [J] n P St) (hz : Rs₀.length + n ≤ sizeLine) (hfp : ∀ b ∈ fp, b = J ∨ (b ≠ C ∧ b ≠ D)) (hlive : ∀ i h, St i h → ∃ o, h.get? J = some o) (R : Nat → RP) {vx : Value} (hJI : J ≠ I)
    (turn : ∀ j v m2 s' Rs, j < n → P j v → CS s₂ h0 W C D (J :: [I]) Rs s' → s'.heap.Ns C m2 → m2 x = some vx → m2 y = some v → (∀ b o, b ≠ C → b ≠ D → b ≠ J → s.heap.get? b = some o → s'.heap.get? b = some o) → Ev prog w (D :: C :: ([J, I] ++ W)) A cenv s'.heap elt (R j))
    (X0 : CS s₂ h0 W C D (J :: [I]) Rs₀ s) (h0St : St 0 s.heap) (hn : s.heap.Ns C m) (hmx : m x = some vx)
    {RR : Result → Shared → Prop}
    (fin : ∀ s' m', CS s₂ h0 W C D [I] (Rs₀ ++ (List.range n).map R) s' → s'.heap.Ns C m' → (∀ b o, b ≠ C → b ≠ D → b ≠ J → s.heap.get? b = some o → s'.heap.get? b = some o) → RR (.ok .next) s') :
    codeAny (model prog w) A (.compLoop (.ListComp elt [⟨.Name x px, i0, [], 0⟩, ⟨.Name y py, i1, [], 0⟩] scope pos) 1 (.ref J) (.ref D) cenv) RR s := by
  have hJD : J ≠ D := fun e => X0.nd (e ▸ by simp)
  have hJC : J ≠ C := fun e => X0.nc (e ▸ by simp)
  have hDC : D ≠ C := fun e => X0.nd (e ▸ by simp)
  have hIC : I ≠ C := fun e => X0.nc (e ▸ by simp)
  have offC : ∀ b ∈ fp, b ≠ C := fun b hb => (hfp b hb).elim (fun e => e ▸ hJC) fun q => q.1
  have offD : ∀ b ∈ fp, b ≠ D := fun b hb => (hfp b hb).elim (fun e => e ▸ hJD) fun q => q.2
  refine loop_two1
    (fun k s' => ∃ i m', i ≤ n ∧ k = n + 1 - i ∧ St i s'.heap ∧ s'.heap.Ns C m' ∧ m' x = some vx ∧ CS s₂ h0 W C D (J :: [I]) (Rs₀ ++ (List.range i).map R) s' ∧
      ∀ b o, b ≠ C → b ≠ D → b ≠ J → s.heap.get? b = some o → s'.heap.get? b = some o) ?_ (n + 1) ⟨0, m, Nat.zero_le _, rfl, h0St, hn, hmx, by simpa using X0, fun _ _ _ _ _ e => e⟩
  rintro k s' ⟨i, m', hi, rfl, hst, hn', hmx', x', kp⟩
  by_cases hlt : i < n
  · refine Wk.item i _ _ _ hlt hst fun v h₂ tk₂ hPv hst₂ hk₂ => ?_
    have hI2 : ∃ o, h₂.get? I = some o := by
      obtain ⟨o, q⟩ := x'.live I (by simp)
      exact ⟨o, hk₂ _ _ (by simpa using Ne.symm hJI) q⟩
    have x2 : CS s₂ h0 W C D (J :: [I]) (Rs₀ ++ (List.range i).map R) { s' with heap := h₂, toks := tk₂ } := x'.step (fun b o hb e => hk₂ b o (by simp at hb ⊢; exact hb.2.1) e) fun b hb => by
      simp only [List.mem_cons, List.not_mem_nil, or_false] at hb
      rcases hb with rfl | rfl | rfl
      · obtain ⟨o, _, _, q, _⟩ := hn'
        exact ⟨o, hk₂ _ _ (by simpa using Ne.symm hJC) q⟩
      · exact hlive _ _ hst₂
      · exact hI2
    have hn2 : h₂.Ns C m' := hn'.at' fun o e => hk₂ _ o (by simpa using Ne.symm hJC) e
    refine wpAny_assign_Name (wpAny_storeName_local hy (hC ▸ hn2) (fun h₃ hn₃ hs₃ => ?_) (by rw [hk]; rfl))
    rw [hC] at hn₃ hs₃
    have x3 : CS s₂ h0 W C D (J :: [I]) (Rs₀ ++ (List.range i).map R) { s' with heap := h₃, toks := tk₂ + 1 } := x2.step (h' := h₃) (tk' := tk₂ + 1) (fun b o hb e => (hs₃.2 b (fun q => hb (by simp [q]))).trans e) fun b hb => by
      simp only [List.mem_cons, List.not_mem_nil, or_false] at hb
      rcases hb with rfl | rfl | rfl
      · obtain ⟨o, _, _, q, _⟩ := hn₃
        exact ⟨o, q⟩
      · obtain ⟨o, q⟩ := hlive _ _ hst₂
        exact ⟨o, (hs₃.2 b hJC).trans q⟩
      · obtain ⟨o, q⟩ := hI2
        exact ⟨o, (hs₃.2 b hIC).trans q⟩
    have hst₃ : St (i + 1) h₃ := Wk.frame _ _ _ hst₂ fun b hb o e => (hs₃.2 b (offC b hb)).trans e
    have hmx3 : (fun z => if z = y then some v else m' z) x = some vx := by simp [hxy, hmx']
    refine emit x3 hw ?_ hn₃ (turn i v _ _ _ hlt hPv x3 hn₃ hmx3 (by simp) fun b o h1 h2 h3 e => (hs₃.2 b h1).trans (hk₂ b o (by simpa using h3) (kp b o h1 h2 h3 e))) fun h₅ tk₅ x5 hn₅ hk₅ => ?_
    · rw [List.length_append, List.length_map, List.length_range]; omega
    · refine ⟨n + 1 - (i + 1), by omega, i + 1, _, hlt, rfl, Wk.frame _ _ _ hst₃ fun b hb o e => hk₅ b o (offD b hb) e, hn₅, hmx3, ?_, fun b o h1 h2 h3 e => hk₅ b o h2 ((hs₃.2 b h1).trans (hk₂ b o (by simpa using h3) (kp b o h1 h2 h3 e)))⟩
      rw [List.range_succ, List.map_append, ← List.append_assoc]
      exact x5
  · obtain rfl : i = n := Nat.le_antisymm hi (Nat.not_lt.mp hlt)
    refine Wk.done _ _ _ hst fun h₂ tk₂ hk₂ => ?_
    exact fin _ m' (x'.drop (by simpa using hJI) hk₂) (hn'.at' fun o e => hk₂ _ o (by simpa using Ne.symm hJC) e) fun b o h1 h2 h3 e => hk₂ b o (by simpa using h3) (kp b o h1 h2 h3 e)

theorem loop2 {elt i0 i1 : Expr} {x y : Str} {px py : Pos} {scope : Scope} {pos : Pos} {cenv : Env} {m : Str → Option Value} {fp : List Addr} {n : Nat} {P : Nat → Value → Prop} {St : Nat → Heap → Prop}
    (hA : A.handled = none) (hC : cenv.locals = C) (hk : cenv.scope.kind = .function) (hx : cenv.kindOf x = some .local) (hy : cenv.kindOf y = some .local) (hxy : x ≠ y) (hw : WIn W h0)
    (Wk : Walks prog w A I fp [I] n P St) (len : Nat → Nat) (hz : ∀ i, i ≤ n → ((List.range i).map len).sum ≤ sizeLine) (hfp : ∀ b ∈ fp, b = I ∨ ∃ o, h0.get? b = some o) (hlive : ∀ i h, St i h → ∃ o, h.get? I = some o)
    (Ss2 : Nat → List RP) (hlen : ∀ i, (Ss2 i).length = len i) (R : Nat → Nat → RP)
    (src2 : ∀ i v m2 s Rs, i < n → P i v → CS s₂ h0 W C D [I] Rs s → s.heap.Ns C m2 → m2 x = some v → Src prog w (D :: C :: ([I] ++ W)) A cenv s.heap i1 (Ss2 i))
    (turn : ∀ i j v v2 S2 m2 s Rs J, i < n → P i v → (Ss2 i)[j]? = some S2 → CS s₂ h0 W C D [J, I] Rs s → s.heap.Ns C m2 → m2 x = some v → m2 y = some v2 → S2.rel (Fz (D :: C :: ([J, I] ++ W)) s.heap) v2 → Ev prog w (D :: C :: ([J, I] ++ W)) A cenv s.heap elt (R i j))
    (X0 : CS s₂ h0 W C D [I] [] s) (h0St : St 0 s.heap) (hn : s.heap.Ns C m) (hs : ∀ x, foldedSetIterable i1 cenv x = pure x)
    {RR : Result → Shared → Prop}
    (fin : ∀ s' m', CE s₂ h0 W C D ((List.range n).flatMap fun i => (List.range (len i)).map (R i)) s' → s'.heap.Ns C m' → RR (.ok .next) s') :
    codeAny (model prog w) A (.compLoop (.ListComp elt [⟨.Name x px, i0, [], 0⟩, ⟨.Name y py, i1, [], 0⟩] scope pos) 0 (.ref I) (.ref D) cenv) RR s := by
  have hID : I ≠ D := fun e => X0.nd (e ▸ by simp)
  have hIC : I ≠ C := fun e => X0.nc (e ▸ by simp)
  have hDC : D ≠ C := fun e => X0.nd (e ▸ by simp)
  have offC : ∀ b ∈ fp, b ≠ C := fun b hb e => by
    rcases hfp b hb with rfl | ⟨o, q⟩
    · exact hIC e
    · have := X0.off C (by simp); rw [← e, q] at this; cases this
  have offD : ∀ b ∈ fp, b ≠ D := fun b hb e => by
    rcases hfp b hb with rfl | ⟨o, q⟩
    · exact hID e
    · have := X0.off D (by simp); rw [← e, q] at this; cases this
  refine loop_two0
    (fun k s' => ∃ i m', i ≤ n ∧ k = n + 1 - i ∧ St i s'.heap ∧ s'.heap.Ns C m' ∧ CS s₂ h0 W C D [I] ((List.range i).flatMap fun i => (List.range (len i)).map (R i)) s') hA ?_ (n + 1) ⟨0, m, Nat.zero_le _, rfl, h0St, hn, X0⟩ (by intro _; rfl) hs
  rintro k s' ⟨i, m', hi, rfl, hst, hn', x'⟩
  by_cases hlt : i < n
  · refine Wk.item i _ _ _ hlt hst fun v h₂ tk₂ hPv hst₂ hk₂ => ?_
    have x2 : CS s₂ h0 W C D [I] ((List.range i).flatMap fun i => (List.range (len i)).map (R i)) { s' with heap := h₂, toks := tk₂ } := x'.step (fun b o hb e => hk₂ b o (by simp at hb ⊢; exact hb.2) e) fun b hb => by
      rcases List.mem_cons.mp hb with rfl | hb
      · obtain ⟨o, _, _, q, _⟩ := hn'
        exact ⟨o, hk₂ _ _ (by simpa using Ne.symm hIC) q⟩
      · rw [List.mem_singleton.mp hb]; exact hlive _ _ hst₂
    have hn2 : h₂.Ns C m' := hn'.at' fun o e => hk₂ _ o (by simpa using Ne.symm hIC) e
    refine wpAny_assign_Name (wpAny_storeName_local hx (hC ▸ hn2) (fun h₃ hn₃ hs₃ => ?_) (by rw [hk]; rfl))
    rw [hC] at hn₃ hs₃
    have x3 : CS s₂ h0 W C D [I] ((List.range i).flatMap fun i => (List.range (len i)).map (R i)) { s' with heap := h₃, toks := tk₂ + 1 } := x2.step (h' := h₃) (tk' := tk₂ + 1) (fun b o hb e => (hs₃.2 b (fun q => hb (by simp [q]))).trans e) fun b hb => by
      rcases List.mem_cons.mp hb with rfl | hb
      · obtain ⟨o, _, _, q, _⟩ := hn₃
        exact ⟨o, q⟩
      · rw [List.mem_singleton.mp hb]
        obtain ⟨o, q⟩ := hlive _ _ hst₂
        exact ⟨o, (hs₃.2 I hIC).trans q⟩
    have hst₃ : St (i + 1) h₃ := Wk.frame _ _ _ hst₂ fun b hb o e => (hs₃.2 b (offC b hb)).trans e
    refine src2 i v _ _ _ hlt hPv x3 hn₃ (by simp) _ _ _ (Ext.refl _) (x3.win hw) fun J h4 h5 tk5 y4 y5 S => ?_
    obtain ⟨fp2, P2, St2, Wk2, h0St2, hJ, hfp2, hlive2, hP2⟩ := S
    have x4 := x3.grow (tk' := tk5) y4
    have x5 := x3.grow (tk' := tk5) (y4.trans y5)
    have hlv : ∀ b ∈ D :: C :: [I], ∃ o, h4.get? b = some o := fun b hb => x4.live b hb
    have hJn : J ∉ D :: C :: [I] := fun hb => by obtain ⟨o, q⟩ := hlv J hb; rw [hJ] at q; cases q
    have hJD : J ≠ D := fun e => hJn (by simp [e])
    have hJC : J ≠ C := fun e => hJn (by simp [e])
    have hJI : J ≠ I := fun e => hJn (by simp [e])
    obtain ⟨oJ, hoJ⟩ := hlive2 _ _ h0St2
    have x6 : CS s₂ h0 W C D (J :: [I]) ((List.range i).flatMap fun i => (List.range (len i)).map (R i)) { s' with heap := h5, toks := tk5 } := by
      obtain ⟨sm, e, ⟨ys, g, a⟩, off, live, nd, nc⟩ := x5
      refine ⟨sm, e, ⟨ys, g, ?_⟩, fun b hb => ?_, fun b hb => ?_, fun hb => ?_, fun hb => ?_⟩
      · obtain ⟨ys', g', a'⟩ := x4.acc
        have : some (listOf ys.toArray ys.length) = some (listOf ys'.toArray ys'.length) := g.symm.trans (y5 _ _ g')
        have hys : ys = ys' := by
          have q := congrArg (fun o => match o with | some (o : Obj) => (match o.data with | .seq a _ => a.toList | _ => []) | none => []) this
          simpa using q
        subst hys
        refine a'.mono (fun b o q => Fz.of (fun hb => ?_) (y5 _ _ (Fz.get q)))
        simp only [List.mem_cons, List.mem_append, List.not_mem_nil, or_false, List.cons_append, List.nil_append] at hb
        rcases hb with hb | hb | hb | hb | hb
        · exact Fz.notin q (by simp [hb])
        · exact Fz.notin q (by simp [hb])
        · subst hb; have := Fz.get q; rw [hJ] at this; cases this
        · exact Fz.notin q (by simp [hb])
        · exact Fz.notin q (by simp [hb])
      · simp only [List.mem_cons, List.not_mem_nil, or_false] at hb
        rcases hb with hb | hb | hb | hb
        · exact off b (by simp [hb])
        · exact off b (by simp [hb])
        · subst hb
          cases q : h0.get? b with
          | none => rfl
          | some o => have := x4.ext _ _ q; rw [hJ] at this; cases this
        · exact off b (by simp [hb])
      · simp only [List.mem_cons, List.not_mem_nil, or_false] at hb
        rcases hb with hb | hb | hb | hb
        · exact live b (by simp [hb])
        · exact live b (by simp [hb])
        · subst hb; exact ⟨_, hoJ⟩
        · exact live b (by simp [hb])
      · simp only [List.mem_cons, List.not_mem_nil, or_false] at hb
        rcases hb with hb | hb | hb
        · exact hDC hb
        · exact hJD hb.symm
        · exact hID hb.symm
      · simp only [List.mem_cons, List.not_mem_nil, or_false] at hb
        rcases hb with hb | hb
        · exact hJC hb.symm
        · exact hIC hb.symm
    have hsum : ((List.range (i + 1)).map len).sum = ((List.range i).map len).sum + len i := by
      rw [List.range_succ, List.map_append, List.sum_append]; simp
    have hflen : ∀ i, ((List.range i).flatMap fun i => (List.range (len i)).map (R i)).length = ((List.range i).map len).sum := fun i => by
      rw [List.length_flatMap]; congr 1; apply List.map_congr_left; intro a _; rw [List.length_map, List.length_range]
    have lp : codeAny (model prog w) A (.compLoop (.ListComp elt [⟨.Name x px, i0, [], 0⟩, ⟨.Name y py, i1, [], 0⟩] scope pos) 1 (.ref J) (.ref D) cenv)
        (fun r s₅ => r = .ok .next ∧ ∃ k', k' < n + 1 - i ∧ ∃ i' m', i' ≤ n ∧ k' = n + 1 - i' ∧ St i' s₅.heap ∧ s₅.heap.Ns C m' ∧ CS s₂ h0 W C D [I] ((List.range i').flatMap fun i => (List.range (len i)).map (R i)) s₅) { s' with heap := h5, toks := tk5 } := by
      rw [hlen] at Wk2
      refine loop2in (I := I) hC hk hy hxy hw Wk2 ?_ ?_ hlive2 (R i) hJI (fun j v2 m2 s Rs hj hPj X hn hmx hmy kp => ?_) x6 h0St2 (hn₃.keeps (y4.trans y5)) (vx := v) (by simp) fun s6 m6 c6 hn6 kp6 => ?_
      · rw [hflen, ← hsum]; exact hz _ hlt
      · intro b hb
        rcases hfp2 b hb with rfl | ⟨o, q⟩
        · exact .inl rfl
        · exact .inr ⟨fun e => Fz.notin q (by simp [e]), fun e => Fz.notin q (by simp [e])⟩
      · obtain ⟨S2, hS2, hr2⟩ := hP2 j v2 hPj
        refine turn i j v v2 S2 m2 s Rs J hlt hPv hS2 X hn hmx hmy (S2.mono (fun b o q => Fz.of (fun hb => ?_) (kp b o (fun e => Fz.notin q (by simp [e])) (fun e => Fz.notin q (by simp [e])) (fun e => ?_) (y5 _ _ (Fz.get q)))) hr2)
        · simp only [List.mem_cons, List.mem_append, List.not_mem_nil, or_false, List.cons_append, List.nil_append] at hb
          rcases hb with hb | hb | hb | hb | hb
          · exact Fz.notin q (by simp [hb])
          · exact Fz.notin q (by simp [hb])
          · subst hb; have := Fz.get q; rw [hJ] at this; cases this
          · exact Fz.notin q (by simp [hb])
          · exact Fz.notin q (by simp [hb])
        · subst e; have := Fz.get q; rw [hJ] at this; cases this
      · refine ⟨rfl, n + 1 - (i + 1), by omega, i + 1, m6, hlt, rfl, ?_, hn6, ?_⟩
        · refine Wk.frame _ _ _ hst₃ fun b hb o e => kp6 b o (offC b hb) (offD b hb) (fun q => ?_) (y5 _ _ (y4 _ _ e))
          have := y4 _ _ e
          rw [q, hJ] at this; cases this
        · rw [List.range_succ, List.flatMap_append]; simpa using c6
    exact start_two1 lp (Wk2.self 0 _ _ _ h0St2 lp)
  · obtain rfl : i = n := Nat.le_antisymm hi (Nat.not_lt.mp hlt)
    refine Wk.done _ _ _ hst fun h₂ tk₂ hk₂ => ?_
    exact fin _ m' (x'.done hw hk₂) (hn'.at' fun o e => hk₂ _ o (by simpa using Ne.symm hIC) e)
end
section
variable {prog : Program} {w : World} {W : List Addr} {A : Around} {env : Env} {h : Heap}
theorem ev_comp2 {elt i0 i1 : Expr} {x y : Str} {px py : Pos} {scope : Scope} {pos : Pos} {cl : List (Str × Addr)} {Ss : List RP} (hA : A.handled = none) (hsrc : Src prog w W A env h i0 Ss) (len : Nat → Nat) (hz : ∀ i, i ≤ Ss.length → ((List.range i).map len).sum ≤ sizeLine)
    (Ss2 : Nat → List RP) (hlen : ∀ i, (Ss2 i).length = len i) (R : Nat → Nat → RP) {Rs : List RP} (hRs : ((List.range Ss.length).flatMap fun i => (List.range (len i)).map (R i)) = Rs)
    (src2 : ∀ i S h' C W' m2 v, Ss[i]? = some S → Ext h h' → FExt (Fz W h) (Fz W' h') → WIn W' h' → h'.Ns C m2 → m2 x = some v → S.rel (Fz W' h') v → Src prog w W' A (compEnvC scope cl C env) h' i1 (Ss2 i))
    (turn : ∀ i j S S2 h' C W' m2 v v2, Ss[i]? = some S → (Ss2 i)[j]? = some S2 → Ext h h' → FExt (Fz W h) (Fz W' h') → WIn W' h' → h'.Ns C m2 → m2 x = some v → m2 y = some v2 → S.rel (Fz W' h') v → S2.rel (Fz W' h') v2 →
      Ev prog w W' A (compEnvC scope cl C env) h' elt (R i j))
    (hclos : closureFor scope env = pure cl) (hxy : x ≠ y := by decide) (hcell : ∀ y ∈ scope.names, y.2 ≠ .cell := by decide) (hkind : scope.kind = .function := by rfl) (hx : scope.names.lookup x = some .local := by rfl) (hy : scope.names.lookup y = some .local := by rfl)
    (hnames : ∀ y ∈ scope.names, y.2 = .local → scope.names.lookup y.1 = some .local := by decide)
    (hs : ∀ x, foldedSetIterable i0 env x = pure x := by intro _; rfl) (hs1 : ∀ C x, foldedSetIterable i1 (compEnvC scope cl C env) x = pure x := by intro _ _; rfl) :
    Ev prog w W A env h (.ListComp elt [⟨.Name x px, i0, [], 0⟩, ⟨.Name y py, i1, [], 0⟩] scope pos) (IsL Rs) := by
  intro s Q E yy hw k
  rw [eval_ListComp]
  refine wpAny_comprehension_free (use := none) rfl hs hclos hkind hnames (comp_alloc hsrc hcell hkind yy hw fun I h1 fp P St C D h₁ tk2 y1 Wk hfp hlive hP X0 hst₁ hns₁ hC hw1 => ?_)
  refine loop2 hA (cenv := compEnvC scope cl C env) rfl hkind (lookup_relabel_local hx) (lookup_relabel_local hy) hxy hw1 Wk len hz (fun b hb => (hfp b hb).imp id fun ⟨o, q⟩ => ⟨o, Fz.get q⟩) hlive Ss2 hlen R
    (fun i v m2 s' Rs hi hPv X hn hv => ?_) (fun i j v v2 S2 m2 s' Rs J hi hPv hS2 X hn hv hv2 hr2 => ?_) X0 hst₁ hns₁ (hs1 C) fun s' m' c hn => ?_
  · obtain ⟨S, hS, hrel⟩ := hP i v hPv
    have fx : FExt (Fz W h) (Fz W h1) := (yy.trans y1).fz W
    exact src2 i S s'.heap _ _ m2 v hS ((yy.trans y1).trans X.ext) (fx.trans X.fext) (X.win hw1) hn hv (S.mono X.fext hrel)
  · obtain ⟨S, hS, hrel⟩ := hP i v hPv
    have fx : FExt (Fz W h) (Fz W h1) := (yy.trans y1).fz W
    exact turn i j S S2 s'.heap _ _ m2 v v2 hS hS2 ((yy.trans y1).trans X.ext) (fx.trans X.fext) (X.win hw1) hn hv hv2 (S.mono X.fext hrel) hr2
  · refine ⟨m', hn, fun h'' hs'' => ?_⟩
    obtain ⟨h3, tk3, rfl⟩ := c.same
    rw [hRs] at c
    exact k _ h'' tk3 (fun b o e => (hs''.2 b (fun q => by have := y1 b o e; rw [q, hC] at this; cases this)).trans (c.ext _ _ (y1 b o e))) (c.rel hs'')
end
end Mine
namespace Mine

/-! ## names of the top, calls -/
section
variable {prog : Program} {w : World} {W : List Addr} {A : Around} {env : Env} {h T0 : Heap} {K : Frag} {mg mb : Str → Option Value}
theorem nm_glob {x : Str} {v : Value} (X : K.In T0) (G : T0.Ns mainGlobals mg) (ht : Ext T0 h) (e : nsIn K mainGlobals x = some (some v)) (hg : env.globals = mainGlobals := by rfl) (hk : env.scope.kind = .function := by rfl)
    (hx : env.kindOf x = some .globalImplicit := by rfl) : Nm prog w A env h x v := fun s Q E y k => by
  have q : wpAny (model prog w) A (loadGlobal env x) Q E s := loadGlobal_global (env := env) (by rw [hg]; exact G.keeps (ht.trans y)) (mg_of X G e) k
  unfold loadName
  simp only [Env.blockKind, hk, hx, ScopeKind.isAnnotationScope, Bool.false_and, Bool.false_eq_true, if_false]
  exact q
theorem nm_boot {x : Str} {v : Value} (X : K.In T0) (G : T0.Ns mainGlobals mg) (B : T0.Ns builtinsNs mb) (hmb : ∀ x : Str, x ≠ "__name__" → mb x = bootBuiltins x) (ht : Ext T0 h) (e : nsIn K mainGlobals x = some none) (hv : bootBuiltins x = some v) (hn : x ≠ "__name__" := by decide)
    (hg : env.globals = mainGlobals := by rfl) (hb : env.builtins = builtinsNs := by rfl) (hk : env.scope.kind = .function := by rfl) (hx : env.kindOf x = some .globalImplicit := by rfl) : Nm prog w A env h x v := fun s Q E y k => by
  have q : wpAny (model prog w) A (loadGlobal env x) Q E s := loadGlobal_builtin (env := env) (by rw [hg]; exact G.keeps (ht.trans y)) (mg_none_of X G e) (by rw [hb]; exact B.keeps (ht.trans y)) ((hmb x hn).trans hv) k
  unfold loadName
  simp only [Env.blockKind, hk, hx, ScopeKind.isAnnotationScope, Bool.false_and, Bool.false_eq_true, if_false]
  exact q
theorem ev_callB {x : Str} {px pos : Pos} {id : String} {e : Expr} {rest : List Expr} {Ps : List RP} {R : RP} (hf : Nm prog w A env h x (.builtin id)) (ha : EvL prog w W A env h pos (e :: rest) Ps) (hc : CallB prog w W A h (.builtin id) Ps R)
    (hd : (x == ("__debug__" : Str)) = false := by decide) (hs : starEach (e :: rest) env = (false, eval e env) :: starEach rest env := by rfl) (hp : (backTo pos (starEach rest env)).any (·.1) = false := by rfl)
    (he : ∀ pc, eval (.Call (.Name x px) (e :: rest) [] pc) env = (do callWith pc (← eval (.Name x px) env) [] (backTo pc (starEach (e :: rest) env)) (backToKw pc (keywordEach [] env))) := by intro _; rfl) :
    Ev prog w W A env h (.Call (.Name x px) (e :: rest) [] pos) R := by
  intro s Q E y hw k
  refine Call_ (wpAny_Name (hf s _ _ y ?_) hd) (he _)
  refine PyProof.Rows.callWith_builtin1 ?_ hs hp
  exact ha _ _ _ y hw fun vs h1 tk1 y1 p1 => hc _ _ _ _ (y.trans y1) hw p1 fun v h2 tk2 y2 p2 => k _ _ _ (y1.trans y2) p2
theorem ev_callT {x : Str} {px pos : Pos} {id : String} {e : Expr} {rest : List Expr} {Ps : List RP} {R : RP} (hf : Nm prog w A env h x (.type id)) (ha : EvL prog w W A env h pos (e :: rest) Ps) (hc : CallB prog w W A h (.type id) Ps R)
    (hd : (x == ("__debug__" : Str)) = false := by decide) (hs : starEach (e :: rest) env = (false, eval e env) :: starEach rest env := by rfl) (hp : (backTo pos (starEach rest env)).any (·.1) = false := by rfl)
    (he : ∀ pc, eval (.Call (.Name x px) (e :: rest) [] pc) env = (do callWith pc (← eval (.Name x px) env) [] (backTo pc (starEach (e :: rest) env)) (backToKw pc (keywordEach [] env))) := by intro _; rfl) :
    Ev prog w W A env h (.Call (.Name x px) (e :: rest) [] pos) R := by
  intro s Q E y hw k
  refine Call_ (wpAny_Name (hf s _ _ y ?_) hd) (he _)
  refine PyProof.Rows.callWith_type1 ?_ hs hp
  exact ha _ _ _ y hw fun vs h1 tk1 y1 p1 => hc _ _ _ _ (y.trans y1) hw p1 fun v h2 tk2 y2 p2 => k _ _ _ (y1.trans y2) p2
theorem ev_callK {x : Str} {px pos : Pos} {f : Addr} {e : Expr} {rest : List Expr} {Ps : List RP} {R : RP} (X : K.In T0) (ht : Ext T0 h) (hk : keepIn K (.ref f) = true) (hf : Nm prog w A env h x (.ref f)) (ha : EvL prog w W A env h pos (e :: rest) Ps) (hc : CallB prog w W A h (.ref f) Ps R)
    (hd : (x == ("__debug__" : Str)) = false := by decide) (hs : starEach (e :: rest) env = (false, eval e env) :: starEach rest env := by rfl) (hp : (backTo pos (starEach rest env)).any (·.1) = false := by rfl)
    (he : ∀ pc, eval (.Call (.Name x px) (e :: rest) [] pc) env = (do callWith pc (← eval (.Name x px) env) [] (backTo pc (starEach (e :: rest) env)) (backToKw pc (keywordEach [] env))) := by intro _; rfl) :
    Ev prog w W A env h (.Call (.Name x px) (e :: rest) [] pos) R := by
  intro s Q E y hw k
  refine Call_ (wpAny_Name (hf s _ _ y ?_) hd) (he _)
  refine callWith_K X hk ?_ hs hp
  exact ha _ _ _ y hw fun vs h1 tk1 y1 p1 => ⟨X.keeps ((ht.trans y).trans y1), hc _ _ _ _ (y.trans y1) hw p1 fun v h2 tk2 y2 p2 => k _ _ _ (y1.trans y2) p2⟩
end

/-! ## frames -/
structure AOk (A : Around) (d : Nat) : Prop where
  handled : A.handled = none
  depth : A.depth + d < recursionLimit
  units : A.units + 8 * d < cLine
theorem AOk.deeper {A : Around} {d : Nat} {env : Env} (x : AOk A (d + 1)) : AOk (A.deeper env) d := ⟨x.handled, by have := x.depth; show A.depth + 1 + d < _; omega, by have := x.units; show A.units + 3 + 8 * d < _; omega⟩
theorem AOk.le {A : Around} {d d' : Nat} (x : AOk A d) (h : d' ≤ d) : AOk A d' := ⟨x.handled, by have := x.depth; omega, by have := x.units; omega⟩
theorem AOk.u {A : Around} {d : Nat} (x : AOk A d) : A.units < cLine := by have := x.units; omega
/-- what a def of the text does, at every call -/
def Fn (prog : Program) (w : World) (T0 : Heap) (d : Nat) (f : Addr) (Ps : List RP) (R : RP) : Prop :=
  ∀ (W : List Addr) (A : Around) (s : Shared) (vs : List Value) (Q E : Value → Shared → Prop), AOk A d → Ext T0 s.heap → WIn W s.heap → All2 (Fz W s.heap) vs Ps →
    (∀ v h' tk', Ext s.heap h' → R.rel (Fz W h') v → Q v { s with heap := h', toks := tk' }) → wpAny (model prog w) A (call (.ref f) vs) Q E s
theorem Fn.callB {prog : Program} {w : World} {T0 : Heap} {d : Nat} {f : Addr} {Ps : List RP} {R : RP} (x : Fn prog w T0 d f Ps R) {W : List Addr} {A : Around} {h : Heap} (hA : AOk A d) (ht : Ext T0 h) : CallB prog w W A h (.ref f) Ps R :=
  fun s Q E vs y hw p k => x W A s vs Q E hA (ht.trans y) (hw.ext y) p k

structure FS (s₀ : Shared) (env : Env) (W : List Addr) (Mu : List (Addr × Obj)) (m cm : Str → Option Value) (s : Shared) : Prop where
  same : ∃ h tk, s = { s₀ with heap := h, toks := tk }
  ns : s.heap.Ns env.locals m
  cell : ∀ n c, env.cells.lookup n = some c → s.heap.IsCell c (cm n)
  apart : env.cells.Pairwise fun x y => x.2 ≠ y.2
  cne : ∀ n c, (n, c) ∈ env.cells → c ≠ env.locals
  wl : env.locals ∈ W
  wc : ∀ n c, (n, c) ∈ env.cells → c ∈ W
  mu : ∀ p ∈ Mu, s.heap.get? p.1 = some p.2 ∧ p.1 ∈ W ∧ p.1 ≠ env.locals ∧ (∀ n c, (n, c) ∈ env.cells → p.1 ≠ c) ∧ s₀.heap.get? p.1 = none
  mud : Mu.Pairwise fun p q => p.1 ≠ q.1
  old : Ext s₀.heap s.heap
  fl : s₀.heap.get? env.locals = none
  fc : ∀ n c, (n, c) ∈ env.cells → s₀.heap.get? c = none
  win : WIn W s.heap
def upd (m : Str → Option Value) (x : Str) (v : Value) : Str → Option Value := fun y => if y = x then some v else m y
theorem upd_same {m : Str → Option Value} {x : Str} {v : Value} : upd m x v x = some v := if_pos rfl
theorem upd_other {m : Str → Option Value} {x y : Str} {v u : Value} (h : m y = some u) (hn : y ≠ x := by decide) : upd m x v y = some u := by unfold upd; rw [if_neg hn]; exact h
namespace FS
variable {s₀ s : Shared} {env : Env} {W : List Addr} {Mu : List (Addr × Obj)} {m cm : Str → Option Value}
theorem fz0 (F : FS s₀ env W Mu m cm s) : FExt (Fz W s₀.heap) (Fz W s.heap) := F.old.fz W
theorem grow (F : FS s₀ env W Mu m cm s) {h' : Heap} {tk' : Nat} (k : Ext s.heap h') : FS s₀ env W Mu m cm { s with heap := h', toks := tk' } := by
  obtain ⟨⟨h, tk, rfl⟩, ns, cell, apart, cne, wl, wc, mu, mud, old, fl, fc, win⟩ := F
  exact ⟨⟨h', tk', rfl⟩, ns.keeps k, fun n c e => (cell n c e).keeps k, apart, cne, wl, wc, fun p hp => ⟨k _ _ (mu p hp).1, (mu p hp).2⟩, mud, old.trans k, fl, fc, win.ext k⟩
/-- only one private thing has turned -/
theorem but (F : FS s₀ env W Mu m cm s) {h' : Heap} {tk' : Nat} {a : Addr} (k : ∀ b o, b ≠ a → s.heap.get? b = some o → h'.get? b = some o) (ha : a ∈ W → ∃ o, h'.get? a = some o) (h0 : s₀.heap.get? a = none) (hL : a ≠ env.locals) (hc : ∀ n c, (n, c) ∈ env.cells → a ≠ c) (hm : ∀ p ∈ Mu, p.1 ≠ a) :
    FS s₀ env W Mu m cm { s with heap := h', toks := tk' } := by
  obtain ⟨⟨h, tk, rfl⟩, ns, cell, apart, cne, wl, wc, mu, mud, old, fl, fc, win⟩ := F
  refine ⟨⟨h', tk', rfl⟩, ns.at' fun o e => k _ o (Ne.symm hL) e, fun n c e => ?_, apart, cne, wl, wc, fun p hp => ⟨k _ _ (hm p hp) (mu p hp).1, (mu p hp).2⟩, mud, fun b o e => k _ _ (fun q => by rw [q, h0] at e; cases e) (old b o e), fl, fc, fun b hb => ?_⟩
  · obtain ⟨o, ho, hd⟩ := cell n c e
    exact ⟨o, k _ _ (Ne.symm (hc n c (mem_of_lookup e))) ho, hd⟩
  · by_cases q : b = a
    · rw [q]; exact ha (q ▸ hb)
    · obtain ⟨o, g⟩ := win b hb; exact ⟨o, k _ _ q g⟩
theorem setL (F : FS s₀ env W Mu m cm s) {h' : Heap} {tk' : Nat} {m' : Str → Option Value} (k : ∀ b o, b ≠ env.locals → s.heap.get? b = some o → h'.get? b = some o) (hn : h'.Ns env.locals m') : FS s₀ env W Mu m' cm { s with heap := h', toks := tk' } := by
  obtain ⟨⟨h, tk, rfl⟩, ns, cell, apart, cne, wl, wc, mu, mud, old, fl, fc, win⟩ := F
  refine ⟨⟨h', tk', rfl⟩, hn, fun n c e => ?_, apart, cne, wl, wc, fun p hp => ⟨k _ _ (mu p hp).2.2.1 (mu p hp).1, (mu p hp).2⟩, mud, fun b o e => k _ _ (fun q => by rw [q, fl] at e; cases e) (old b o e), fl, fc, fun b hb => ?_⟩
  · obtain ⟨o, ho, hd⟩ := cell n c e
    exact ⟨o, k _ _ (cne n c (mem_of_lookup e)) ho, hd⟩
  · by_cases q : b = env.locals
    · obtain ⟨o, _, _, g, _⟩ := hn; exact ⟨o, q ▸ g⟩
    · obtain ⟨o, g⟩ := win b hb; exact ⟨o, k _ _ q g⟩
theorem fzL {h h' : Heap} (F : FS s₀ env W Mu m cm s) (k : ∀ b o, b ≠ env.locals → h.get? b = some o → h'.get? b = some o) : FExt (Fz W h) (Fz W h') := fext_but fun b o hb e => k b o (fun q => hb (q ▸ F.wl)) e
theorem setC (F : FS s₀ env W Mu m cm s) {h' : Heap} {tk' : Nat} {n : Str} {c : Addr} {v : Option Value} (hc : env.cells.lookup n = some c) (hs : Heap.SameBut c s.heap h') (hv : h'.IsCell c v) :
    FS s₀ env W Mu m (fun y => if y = n then v else cm y) { s with heap := h', toks := tk' } := by
  obtain ⟨⟨h, tk, rfl⟩, ns, cell, apart, cne, wl, wc, mu, mud, old, fl, fc, win⟩ := F
  have hm := mem_of_lookup hc
  refine ⟨⟨h', tk', rfl⟩, ns.sameBut hs (Ne.symm (cne n c hm)), fun n' c' e => ?_, apart, cne, wl, wc, fun p hp => ⟨(hs.2 _ ((mu p hp).2.2.2.1 n c hm)).trans (mu p hp).1, (mu p hp).2⟩, mud,
    fun b o e => (hs.2 b (fun q => by rw [q, fc n c hm] at e; cases e)).trans (old b o e), fl, fc, fun b hb => ?_⟩
  · by_cases q : n' = n
    · subst q; rw [hc] at e; cases e; rw [if_pos rfl]; exact hv
    · rw [if_neg q]
      exact (cell n' c' e).sameBut hs fun q' => q (name_of_addr apart (mem_of_lookup e) (q' ▸ hm))
  · by_cases q : b = c
    · obtain ⟨o, g, _⟩ := hv; exact ⟨o, q ▸ g⟩
    · obtain ⟨o, g⟩ := win b hb; exact ⟨o, (hs.2 b q).trans g⟩
/-- one more thing under watch -/
theorem more (F : FS s₀ env W Mu m cm s) {a : Addr} {o : Obj} (ho : s.heap.get? a = some o) (h0 : s₀.heap.get? a = none) (hL : a ≠ env.locals) (hc : ∀ n c, (n, c) ∈ env.cells → a ≠ c) (hm : ∀ p ∈ Mu, p.1 ≠ a) : FS s₀ env (a :: W) ((a, o) :: Mu) m cm s := by
  obtain ⟨same, ns, cell, apart, cne, wl, wc, mu, mud, old, fl, fc, win⟩ := F
  refine ⟨same, ns, cell, apart, cne, List.mem_cons_of_mem _ wl, fun n c h => List.mem_cons_of_mem _ (wc n c h), fun p hp => ?_, List.pairwise_cons.mpr ⟨fun p hp => Ne.symm (hm p hp), mud⟩, old, fl, fc, fun b hb => ?_⟩
  · rcases List.mem_cons.mp hp with rfl | hp
    · exact ⟨ho, List.mem_cons_self, hL, hc, h0⟩
    · exact ⟨(mu p hp).1, List.mem_cons_of_mem _ (mu p hp).2.1, (mu p hp).2.2⟩
  · rcases List.mem_cons.mp hb with rfl | hb
    · exact ⟨o, ho⟩
    · exact win b hb
/-- a thing under watch turns -/
theorem setMuAt {a : Addr} {o o' : Obj} {pre post : List (Addr × Obj)} (F : FS s₀ env W (pre ++ (a, o) :: post) m cm s) {h' : Heap} {tk' : Nat} (k : ∀ b o, b ≠ a → s.heap.get? b = some o → h'.get? b = some o) (ho : h'.get? a = some o') :
    FS s₀ env W (pre ++ (a, o') :: post) m cm { s with heap := h', toks := tk' } := by
  obtain ⟨⟨h, tk, rfl⟩, ns, cell, apart, cne, wl, wc, mu, mud, old, fl, fc, win⟩ := F
  obtain ⟨h1, h2, h3, h4, h5⟩ := mu (a, o) (by simp)
  obtain ⟨d1, d2, d3⟩ := List.pairwise_append.mp mud
  obtain ⟨md, mr⟩ := List.pairwise_cons.mp d2
  refine ⟨⟨h', tk', rfl⟩, ns.at' fun o e => k _ o (Ne.symm h3) e, fun n c e => ?_, apart, cne, wl, wc, fun p hp => ?_, List.pairwise_append.mpr ⟨d1, List.pairwise_cons.mpr ⟨md, mr⟩, fun p hp q hq => ?_⟩, fun b o e => k _ _ (fun q => by rw [q, h5] at e; cases e) (old b o e), fl, fc, fun b hb => ?_⟩
  · obtain ⟨o, ho, hd⟩ := cell n c e
    exact ⟨o, k _ _ (Ne.symm (h4 n c (mem_of_lookup e))) ho, hd⟩
  · rcases List.mem_append.mp hp with hp | hp
    · have z := mu p (List.mem_append_left _ hp)
      exact ⟨k _ _ (d3 p hp (a, o) List.mem_cons_self) z.1, z.2⟩
    · rcases List.mem_cons.mp hp with rfl | hp
      · exact ⟨ho, h2, h3, h4, h5⟩
      · have z := mu p (List.mem_append_right _ (List.mem_cons_of_mem _ hp))
        exact ⟨k _ _ (Ne.symm (md p hp)) z.1, z.2⟩
  · rcases List.mem_cons.mp hq with rfl | hq
    · exact d3 p hp (a, o) List.mem_cons_self
    · exact d3 p hp q (List.mem_cons_of_mem _ hq)
  · by_cases q : b = a
    · exact ⟨o', q ▸ ho⟩
    · obtain ⟨o, g⟩ := win b hb; exact ⟨o, k _ _ q g⟩
theorem setMu {a : Addr} {o o' : Obj} (F : FS s₀ env W ((a, o) :: Mu) m cm s) {h' : Heap} {tk' : Nat} (k : ∀ b o, b ≠ a → s.heap.get? b = some o → h'.get? b = some o) (ho : h'.get? a = some o') : FS s₀ env W ((a, o') :: Mu) m cm { s with heap := h', toks := tk' } :=
  setMuAt (pre := []) F k ho
theorem fzMu {a : Addr} {o : Obj} (F : FS s₀ env W Mu m cm s) (hm : (a, o) ∈ Mu) {h h' : Heap} (k : ∀ b o, b ≠ a → h.get? b = some o → h'.get? b = some o) : FExt (Fz W h) (Fz W h') := fext_but fun b o' hb e => k b o' (fun q => hb (q ▸ (F.mu _ hm).2.1)) e
/-- no longer under watch -/
theorem less {a : Addr} {o : Obj} (F : FS s₀ env (a :: W) ((a, o) :: Mu) m cm s) (ha : a ∉ W) : FS s₀ env W Mu m cm s := by
  obtain ⟨same, ns, cell, apart, cne, wl, wc, mu, mud, old, fl, fc, win⟩ := F
  have h := mu _ List.mem_cons_self
  obtain ⟨md, mr⟩ := List.pairwise_cons.mp mud
  refine ⟨same, ns, cell, apart, cne, ?_, fun n c hm => ?_, fun p hp => ⟨(mu p (List.mem_cons_of_mem _ hp)).1, ?_, (mu p (List.mem_cons_of_mem _ hp)).2.2⟩, mr, old, fl, fc, fun b hb => win b (List.mem_cons_of_mem _ hb)⟩
  · rcases List.mem_cons.mp wl with q | q
    · exact absurd q (Ne.symm h.2.2.1)
    · exact q
  · rcases List.mem_cons.mp (wc n c hm) with q | q
    · exact absurd q (Ne.symm (h.2.2.2.1 n c hm))
    · exact q
  · rcases List.mem_cons.mp (mu p (List.mem_cons_of_mem _ hp)).2.1 with q | q
    · exact absurd q (Ne.symm (md p hp))
    · exact q
end FS

section
variable {prog : Program} {w : World} {A : Around} {s₀ s : Shared} {env : Env} {W : List Addr} {Mu : List (Addr × Obj)} {m cm : Str → Option Value} {E : Value → Shared → Prop} {Q : Flow → Shared → Prop}
/-- x = e, x a local -/
theorem x_set {x : Str} {px pos : Pos} {e : Expr} {P : RP} (F : FS s₀ env W Mu m cm s) (he : Ev prog w W A env s.heap e P)
    (k : ∀ v s', FS s₀ env W Mu (upd m x v) cm s' → FExt (Fz W s.heap) (Fz W s'.heap) → P.rel (Fz W s'.heap) v → Q .next s')
    (hs : swapsWith e (some (.Name x px)) pos.line env = pure false := by rfl) (hl : env.kindOf x = some .local := by rfl) (hk : env.scope.kind = .function := by rfl) :
    wpAny (model prog w) A (exec (.Assign [.Name x px] e pos) env) Q E s := by
  refine wpAny_Assign_Name (he s _ _ (Ext.refl _) F.win fun v h1 tk1 y1 p1 => ?_) hs
  have F1 := F.grow (tk' := tk1) y1
  refine wpAny_storeName_local hl F1.ns (fun h2 hn hs => ?_) (by rw [hk]; rfl)
  have kk : ∀ b o, b ≠ env.locals → h1.get? b = some o → h2.get? b = some o := fun b o hb e => (hs.2 b hb).trans e
  exact k v _ (F1.setL (tk' := tk1 + 1) kk hn) ((y1.fz W).trans (F.fzL kk)) (P.mono (F.fzL kk) p1)
/-- x = e, x a cell -/
theorem x_setC {x : Str} {c : Addr} {px pos : Pos} {e : Expr} {P : RP} (F : FS s₀ env W Mu m cm s) (hc : env.cells.lookup x = some c) (he : Ev prog w W A env s.heap e P)
    (k : ∀ v s', FS s₀ env W Mu m (upd cm x v) s' → FExt (Fz W s.heap) (Fz W s'.heap) → P.rel (Fz W s'.heap) v → Q .next s')
    (hs : swapsWith e (some (.Name x px)) pos.line env = pure false := by rfl) (hl : env.kindOf x = some .cell := by rfl) (hk : env.scope.kind = .function := by rfl) :
    wpAny (model prog w) A (exec (.Assign [.Name x px] e pos) env) Q E s := by
  refine wpAny_Assign_Name (he s _ _ (Ext.refl _) F.win fun v h1 tk1 y1 p1 => ?_) hs
  have F1 := F.grow (tk' := tk1) y1
  refine wpAny_storeName_cell hk hl hc (F1.cell x c hc) fun h2 hv hs => ?_
  have fx : FExt (Fz W h1) (Fz W h2) := fext_but fun b o hb e => (hs.2 b (fun q => hb (q ▸ F.wc x c (mem_of_lookup hc)))).trans e
  exact k v _ (F1.setC (tk' := tk1) hc hs hv) ((y1.fz W).trans fx) (P.mono fx p1)
theorem x_ret {pos : Pos} {e : Expr} {P : RP} (F : FS s₀ env W Mu m cm s) (he : Ev prog w W A env s.heap e P) (k : ∀ v h' tk', Ext s.heap h' → P.rel (Fz W h') v → Q (.ret v) { s with heap := h', toks := tk' }) :
    wpAny (model prog w) A (exec (.Return (some e) pos) env) Q E s := wpAny_Return_some (he s _ _ (Ext.refl _) F.win fun v h1 tk1 y1 p1 => k v h1 tk1 y1 p1)
theorem x_if {t : Expr} {body orelse : List Stmt} {pos : Pos} {b : Bool} (F : FS s₀ env W Mu m cm s) (ht : Tv prog w W A env s.heap t b)
    (k : ∀ s', FS s₀ env W Mu m cm s' → FExt (Fz W s.heap) (Fz W s'.heap) → Ext s.heap s'.heap → if b = true then wpAny (model prog w) A (execs body env) Q E s' else wpAny (model prog w) A (execs orelse env) Q E s') :
    wpAny (model prog w) A (exec (.If t body orelse pos) env) Q E s :=
  wpAny_If (ht s _ _ (Ext.refl _) F.win fun h1 tk1 y1 => k _ (F.grow (tk' := tk1) y1) (y1.fz W) y1)
/-- x op= e, x a local -/
theorem x_aug {x : Str} {px pos : Pos} {op : Operator} {e : Expr} {P0 P R : RP} {v0 : Value} (F : FS s₀ env W Mu m cm s) (hm : m x = some v0) (h0 : P0.rel (Fz W s.heap) v0) (he : Ev prog w W A env s.heap e P)
    (hop : ∀ (s : Shared) (Q : Value → Shared → Prop) (E : Value → Shared → Prop) (v1 v2 : Value), P0.rel (Fz W s.heap) v1 → P.rel (Fz W s.heap) v2 → (∀ v h' tk', Ext s.heap h' → R.rel (Fz W h') v → Q v { s with heap := h', toks := tk' }) → wpAny (model prog w) A (inplaceOp op v1 v2) Q E s)
    (k : ∀ v s', FS s₀ env W Mu (upd m x v) cm s' → FExt (Fz W s.heap) (Fz W s'.heap) → R.rel (Fz W s'.heap) v → Q .next s')
    (hl : env.kindOf x = some .local := by rfl) (hk : env.scope.kind = .function := by rfl) :
    wpAny (model prog w) A (exec (.AugAssign (.Name x px) op e pos) env) Q E s := by
  refine wpAny_AugAssign_Name (wpAny_loadName_local hk hl F.ns hm ?_)
  refine he s _ _ (Ext.refl _) F.win fun v h1 tk1 y1 p1 => ?_
  refine hop _ _ _ _ _ (P0.mono (y1.fz W) h0) p1 fun v2 h2 tk2 y2 p2 => ?_
  have F1 := F.grow (tk' := tk2) (y1.trans y2)
  refine wpAny_storeName_local hl F1.ns (fun h3 hn hs => ?_) (by rw [hk]; rfl)
  have kk : ∀ b o, b ≠ env.locals → h2.get? b = some o → h3.get? b = some o := fun b o hb e => (hs.2 b hb).trans e
  exact k v2 _ (F1.setL (tk' := tk2 + 1) kk hn) (((y1.trans y2).fz W).trans (F.fzL kk)) (R.mono (F.fzL kk) p2)
end
end Mine
namespace Mine
theorem len1 {vs : List Value} (h : vs.length = 1) : ∃ a, vs = [a] := match vs, h with
  | [a], _ => ⟨a, rfl⟩
theorem len2 {vs : List Value} (h : vs.length = 2) : ∃ a b, vs = [a, b] := match vs, h with
  | [a, b], _ => ⟨a, b, rfl⟩
theorem len3 {vs : List Value} (h : vs.length = 3) : ∃ a b c, vs = [a, b, c] := match vs, h with
  | [a, b, c], _ => ⟨a, b, c, rfl⟩
section
variable {prog : Program} {w : World} {A : Around} {s₀ s : Shared} {env : Env} {W : List Addr} {Mu : List (Addr × Obj)} {m cm : Str → Option Value} {E : Value → Shared → Prop} {Q : Flow → Shared → Prop}
theorem x_retF {pos : Pos} {e : Expr} {P : RP} (F : FS s₀ env W Mu m cm s) (he : Ev prog w W A env s.heap e P) (k : ∀ v h' tk', Ext s₀.heap h' → P.rel (Fz W h') v → Q (.ret v) { s₀ with heap := h', toks := tk' }) :
    wpAny (model prog w) A (exec (.Return (some e) pos) env) Q E s := x_ret F he fun v h' tk' y p => by
  obtain ⟨h, tk, rfl⟩ := F.same
  exact k v h' tk' (F.old.trans y) p
/-- storing at a name -/
def StoreOk (prog : Program) (w : World) (A : Around) (env : Env) (x : Str) (um uc : Value → (Str → Option Value) → Str → Option Value) : Prop :=
  ∀ (s₀ s : Shared) (W : List Addr) (Mu : List (Addr × Obj)) (m cm : Str → Option Value) (v : Value) (Q : Unit → Shared → Prop) (E : Value → Shared → Prop), FS s₀ env W Mu m cm s →
    (∀ s', FS s₀ env W Mu (um v m) (uc v cm) s' → FExt (Fz W s.heap) (Fz W s'.heap) → Q () s') → wpAny (model prog w) A (storeName env x v) Q E s
theorem storeL {x : Str} (hl : env.kindOf x = some .local := by rfl) (hk : env.scope.kind = .function := by rfl) : StoreOk prog w A env x (fun v m => upd m x v) (fun _ c => c) := by
  intro s₀ s W Mu m cm v Q E F k
  refine wpAny_storeName_local hl F.ns (fun h2 hn hs => ?_) (by rw [hk]; rfl)
  have kk : ∀ b o, b ≠ env.locals → s.heap.get? b = some o → h2.get? b = some o := fun b o hb e => (hs.2 b hb).trans e
  exact k _ (F.setL (tk' := s.toks + 1) kk hn) (F.fzL kk)
theorem storeC {x : Str} {c : Addr} (hc : env.cells.lookup x = some c) (hl : env.kindOf x = some .cell := by rfl) (hk : env.scope.kind = .function := by rfl) : StoreOk prog w A env x (fun _ m => m) (fun v c => upd c x v) := by
  intro s₀ s W Mu m cm v Q E F k
  refine wpAny_storeName_cell hk hl hc (F.cell x c hc) fun h2 hv hs => ?_
  have fx : FExt (Fz W s.heap) (Fz W h2) := fext_but fun b o hb e => (hs.2 b (fun q => hb (q ▸ F.wc x c (mem_of_lookup hc)))).trans e
  obtain ⟨h, tk, rfl⟩ := F.same
  exact k _ (F.setC (tk' := tk) hc hs hv) fx
/-- a for over the values of a source -/
theorem x_for {x : Str} {px pos : Pos} {iter : Expr} {body : List Stmt} {Ps : List RP} {um uc : Value → (Str → Option Value) → Str → Option Value} (F : FS s₀ env W Mu m cm s) (hsrc : Src prog w W A env s.heap iter Ps) (hso : StoreOk prog w A env x um uc)
    (Inv : Nat → Fm → List (Addr × Obj) → (Str → Option Value) → (Str → Option Value) → Prop) (hmono : ∀ i G G' Mu m cm, FExt G G' → Inv i G Mu m cm → Inv i G' Mu m cm)
    (Brk : Fm → List (Addr × Obj) → (Str → Option Value) → (Str → Option Value) → Prop) (hbmono : ∀ G G' Mu m cm, FExt G G' → Brk G Mu m cm → Brk G' Mu m cm) (h0 : Inv 0 (Fz W s.heap) Mu m cm)
    (turn : ∀ i S v I oI Mu m cm s' G1 (E' : Value → Shared → Prop), Ps[i]? = some S → FExt (Fz W s.heap) G1 → FExt G1 (Fz (I :: W) s'.heap) → FS s₀ env (I :: W) ((I, oI) :: Mu) (um v m) (uc v cm) s' → S.rel (Fz (I :: W) s'.heap) v → Inv i (Fz (I :: W) s'.heap) Mu m cm →
      wpAny (model prog w) A (execs body env) (fun f s'' => match f with
        | .next | .cont => ∃ m' cm' Mu', FS s₀ env (I :: W) ((I, oI) :: Mu') m' cm' s'' ∧ FExt G1 (Fz (I :: W) s''.heap) ∧ Inv (i + 1) (Fz (I :: W) s''.heap) Mu' m' cm'
        | .brk => ∃ m' cm' Mu', FS s₀ env (I :: W) ((I, oI) :: Mu') m' cm' s'' ∧ FExt G1 (Fz (I :: W) s''.heap) ∧ Brk (Fz (I :: W) s''.heap) Mu' m' cm'
        | .ret v => Q (.ret v) s'') E' s')
    {orelse : List Stmt}
    (done : ∀ m' cm' Mu' s' (E' : Value → Shared → Prop), FS s₀ env W Mu' m' cm' s' → FExt (Fz W s.heap) (Fz W s'.heap) → Inv Ps.length (Fz W s'.heap) Mu' m' cm' → wpAny (model prog w) A (execs orelse env) Q E' s')
    (broke : ∀ m' cm' Mu' s', FS s₀ env W Mu' m' cm' s' → FExt (Fz W s.heap) (Fz W s'.heap) → Brk (Fz W s'.heap) Mu' m' cm' → Q .next s')
    (hs : ∀ x, foldedSetIterable iter env x = pure x := by intro _; rfl) (ht : ∀ it v, letOwnedTupleGo (.Name x px) it v = pure () := by intro _ _; rfl) :
    wpAny (model prog w) A (exec (.For (.Name x px) iter body orelse pos) env) Q E s := by
  refine wpAny_For (hsrc s _ _ (Ext.refl _) F.win fun I h1 h2 tk2 y1 y2 S => ?_) hs
  obtain ⟨fp, P, St, Wk, h0St, hI, hfp, hlive, hP⟩ := S
  have F1 : FS s₀ env W Mu m cm { s with heap := h1, toks := tk2 } := F.grow y1
  have F2 : FS s₀ env W Mu m cm { s with heap := h2, toks := tk2 } := F.grow (y1.trans y2)
  obtain ⟨oI, hoI⟩ := hlive _ _ h0St
  have none1 : ∀ b o, h1.get? b = some o → b ≠ I := fun b o e q => by rw [q, hI] at e; cases e
  have hIW : I ∉ W := fun hb => by obtain ⟨o, e⟩ := F1.win I hb; exact none1 _ _ e rfl
  have hIs : s₀.heap.get? I = none := by
    cases e : s₀.heap.get? I with
    | none => rfl
    | some o => exact absurd rfl (none1 _ _ (F1.old _ _ e))
  have hIL : I ≠ env.locals := fun q => hIW (q ▸ F.wl)
  have hIc : ∀ n c, (n, c) ∈ env.cells → I ≠ c := fun n c hm q => hIW (q ▸ F.wc n c hm)
  have hIm : ∀ p ∈ Mu, p.1 ≠ I := fun p hp q => hIW (q ▸ (F.mu p hp).2.1)
  have F3 := F2.more hoI hIs hIL hIc hIm
  have g1 : FExt (Fz W h1) (Fz (I :: W) h2) := fun b o e => Fz.of (fun hb => by
    rcases List.mem_cons.mp hb with hb | hb
    · exact none1 _ _ (Fz.get e) hb
    · exact Fz.notin e hb) (y2 _ _ (Fz.get e))
  have sub : ∀ {h : Heap}, FExt (Fz (I :: W) h) (Fz W h) := fext_sub fun b hb => List.mem_cons_of_mem _ hb
  refine codeAny_forLoop
    (fun k s' => ∃ i Mu m cm oI, i ≤ Ps.length ∧ k = Ps.length + 1 - i ∧ FS s₀ env (I :: W) ((I, oI) :: Mu) m cm s' ∧ St i s'.heap ∧ FExt (Fz W h1) (Fz (I :: W) s'.heap) ∧ Inv i (Fz (I :: W) s'.heap) Mu m cm) ?_ (Ps.length + 1)
    ⟨0, Mu, m, cm, oI, Nat.zero_le _, rfl, F3, h0St, g1, hmono _ _ _ _ _ _ ((y1.fz W).trans g1) h0⟩ (ht _)
  rintro k s' ⟨i, Mu', m', cm', oI', hi, rfl, F', hst, g', inv⟩
  by_cases hlt : i < Ps.length
  · refine Wk.item i _ _ _ hlt hst fun v h₂ tk₂ hPv hst₂ hk₂ => ?_
    obtain ⟨oI₂, hoI₂⟩ := hlive _ _ hst₂
    have kI : ∀ b o, b ≠ I → s'.heap.get? b = some o → h₂.get? b = some o := fun b o hb e => hk₂ b o (by simpa using hb) e
    have F4 := F'.setMu (tk' := tk₂) kI hoI₂
    have g4 : FExt (Fz (I :: W) s'.heap) (Fz (I :: W) h₂) := F'.fzMu List.mem_cons_self kI
    refine wpAny_assign_Name (hso _ _ _ _ _ _ v _ _ F4 fun s5 F5 g5 => ?_)
    have hst5 : St (i + 1) s5.heap := Wk.frame _ _ _ hst₂ fun b hb o e => by
      rcases hfp b hb with rfl | ⟨o', q⟩
      · rw [hoI₂] at e; cases e
        exact (F5.mu _ List.mem_cons_self).1
      · have q2 := Fz.get (((g'.trans g4)) _ _ q)
        have q3 := Fz.get (((g'.trans g4).trans g5) _ _ q)
        rw [e] at q2; cases q2; exact q3
    obtain ⟨S, hS, hrel⟩ := hP i v hPv
    have g6 : FExt (Fz W h1) (Fz (I :: W) s5.heap) := (g'.trans g4).trans g5
    refine wpAny_mono (turn i S v I oI₂ Mu' m' cm' s5 (Fz W h1) _ hS (y1.fz W) g6 F5 (S.mono g6 hrel) (hmono _ _ _ _ _ _ (g4.trans g5) inv)) (fun f s6 h6 => ?_) fun _ _ e => e
    have fin : (∃ m' cm' Mu', FS s₀ env (I :: W) ((I, oI₂) :: Mu') m' cm' s6 ∧ FExt (Fz W h1) (Fz (I :: W) s6.heap) ∧ Inv (i + 1) (Fz (I :: W) s6.heap) Mu' m' cm') → ∃ k', k' < Ps.length + 1 - i ∧
        ∃ i Mu m cm oI, i ≤ Ps.length ∧ k' = Ps.length + 1 - i ∧ FS s₀ env (I :: W) ((I, oI) :: Mu) m cm s6 ∧ St i s6.heap ∧ FExt (Fz W h1) (Fz (I :: W) s6.heap) ∧ Inv i (Fz (I :: W) s6.heap) Mu m cm := by
      rintro ⟨m6, cm6, Mu6, F6, g7, inv6⟩
      refine ⟨Ps.length + 1 - (i + 1), by omega, i + 1, Mu6, m6, cm6, oI₂, hlt, rfl, F6, ?_, g7, inv6⟩
      refine Wk.frame _ _ _ hst5 fun b hb o e => ?_
      rcases hfp b hb with rfl | ⟨o', q⟩
      · have z := (F5.mu _ List.mem_cons_self).1
        rw [z] at e; cases e
        exact (F6.mu _ List.mem_cons_self).1
      · have q2 := Fz.get (g6 _ _ q)
        have q3 := Fz.get (g7 _ _ q)
        rw [e] at q2; cases q2; exact q3
    cases f with
    | next => exact fin h6
    | cont => exact fin h6
    | brk =>
      obtain ⟨m6, cm6, Mu6, F6, g7, b6⟩ := h6
      exact broke _ _ _ _ (F6.less hIW) (((y1.fz W).trans g7).trans sub) (hbmono _ _ _ _ _ sub b6)
    | ret v => exact h6
  · obtain rfl : i = Ps.length := Nat.le_antisymm hi (Nat.not_lt.mp hlt)
    refine Wk.done _ _ _ hst fun h₂ tk₂ hk₂ => ?_
    have kI : ∀ b o, b ≠ I → s'.heap.get? b = some o → h₂.get? b = some o := fun b o hb e => hk₂ b o (by simpa using hb) e
    have F7 := (F'.less hIW).but (tk' := tk₂) kI (fun hb => absurd hb hIW) hIs hIL hIc fun p hp q => hIW (q ▸ ((F'.less hIW).mu p hp).2.1)
    have g7 : FExt (Fz (I :: W) s'.heap) (Fz W h₂) := (F'.fzMu List.mem_cons_self kI).trans sub
    exact done _ _ _ _ _ F7 (((y1.fz W).trans g').trans g7) (hmono _ _ _ _ _ _ g7 inv)
/-- a while by a measure -/
theorem x_while {test : Expr} {body : List Stmt} {pos : Pos} (F : FS s₀ env W Mu m cm s)
    (Inv : Nat → Fm → List (Addr × Obj) → (Str → Option Value) → (Str → Option Value) → Prop) (n : Nat) (h0 : Inv n (Fz W s.heap) Mu m cm)
    (turn : ∀ n Mu m cm s' G1 (E' : Value → Shared → Prop), FS s₀ env W Mu m cm s' → FExt (Fz W s.heap) G1 → FExt G1 (Fz W s'.heap) → Inv n (Fz W s'.heap) Mu m cm →
      ∃ b, Tv prog w W A env s'.heap test b ∧ (b = true → ∀ s1, FS s₀ env W Mu m cm s1 → Ext s'.heap s1.heap → FExt G1 (Fz W s1.heap) → wpAny (model prog w) A (execs body env) (fun f s'' => match f with
        | .next | .cont => ∃ n' m' cm' Mu', n' < n ∧ FS s₀ env W Mu' m' cm' s'' ∧ FExt G1 (Fz W s''.heap) ∧ Inv n' (Fz W s''.heap) Mu' m' cm'
        | .brk => False
        | .ret v => Q (.ret v) s'') E' s1) ∧
        (b = false → ∀ s1, FS s₀ env W Mu m cm s1 → Ext s'.heap s1.heap → FExt G1 (Fz W s1.heap) → Q .next s1)) :
    wpAny (model prog w) A (exec (.While test body [] pos) env) Q E s := by
  refine wpAny_While (codeAny_whileLoop (fun k s' => ∃ Mu m cm, FS s₀ env W Mu m cm s' ∧ FExt (Fz W s.heap) (Fz W s'.heap) ∧ Inv k (Fz W s'.heap) Mu m cm) ?_ n ⟨Mu, m, cm, F, FExt.refl _, h0⟩)
  rintro k s' ⟨Mu', m', cm', F', g', inv⟩
  obtain ⟨b, ht, h1, h2⟩ := turn k Mu' m' cm' s' (Fz W s.heap) (notedBy (model prog w) A env fun e s' => (match (Except.error e : Result) with | .ok f => Q f s' | .error e => cameBackBy (model prog w) A env E e s')) F' (FExt.refl _) g' inv
  refine ht _ _ _ (Ext.refl _) F'.win fun h3 tk3 y3 => ?_
  have F3 := F'.grow (tk' := tk3) y3
  cases b with
  | true =>
    simp only [if_true]
    refine wpAny_mono (h1 rfl _ F3 y3 (g'.trans (y3.fz W))) (fun f s4 h4 => ?_) fun _ _ e => e
    cases f with
    | next => obtain ⟨n', m4, cm4, Mu4, hn, F4, g4, inv4⟩ := h4; exact ⟨n', hn, Mu4, m4, cm4, F4, g4, inv4⟩
    | cont => obtain ⟨n', m4, cm4, Mu4, hn, F4, g4, inv4⟩ := h4; exact ⟨n', hn, Mu4, m4, cm4, F4, g4, inv4⟩
    | brk => exact h4.elim
    | ret v => exact h4
  | false =>
    simp only [Bool.false_eq_true, if_false]
    exact wpAny_execs_nil (h2 rfl _ F3 y3 (g'.trans (y3.fz W)))
/-- x, y = e, both locals -/
theorem x_setT2 {x y : Str} {px py tp pos : Pos} {k : Nat} {e : Expr} {P1 P2 : RP} (hA : A.handled = none) (F : FS s₀ env W Mu m cm s) (he : Ev prog w W A env s.heap e (IsT [P1, P2]))
    (c : ∀ v1 v2 s', FS s₀ env W Mu (upd (upd m x v1) y v2) cm s' → FExt (Fz W s.heap) (Fz W s'.heap) → P1.rel (Fz W s'.heap) v1 → P2.rel (Fz W s'.heap) v2 → Q .next s')
    (hx : env.kindOf x = some .local := by rfl) (hy : env.kindOf y = some .local := by rfl) (hk : env.scope.kind = .function := by rfl)
    (hs : swapsWithSole [.Tuple [.Name x px, .Name y py] k tp] e pos.line env = pure false := by rfl) (hw : swappedStores [.Tuple [.Name x px, .Name y py] k tp] e env = pure none := by rfl) :
    wpAny (model prog w) A (exec (.Assign [.Tuple [.Name x px, .Name y py] k tp] e pos) env) Q E s := by
  refine Assign_Tuple (he s _ _ (Ext.refl _) F.win fun v h1 tk1 y1 p1 => ?_) hs hw
  obtain ⟨a, vs, n, rfl, g, hall⟩ := p1
  obtain ⟨v1, v2, rfl, hall⟩ := all2 hall
  obtain ⟨r1, r2, _⟩ := hall
  refine assign_Tuple_tuple hA (items := [v1, v2].toArray) ⟨_, Fz.get g, rfl, _, rfl⟩ rfl rfl fun h2 he2 => ?_
  have y2 : Ext h1 h2 := fun b o e => he2 b o (Nat.ne_of_lt (Heap.lt_size e)) e
  have F2 := F.grow (tk' := tk1) (y1.trans y2)
  show wpAny _ A (assignInOrder [assign (.Name x px) env, assign (.Name y py) env] [v1, v2]) _ _ _
  unfold assignInOrder
  refine wpAny_bind (wpAny_holding (wpAny_assign_Name (storeL hx hk _ _ _ _ _ _ v1 _ _ F2 fun s3 F3 g3 => ?_)))
  unfold assignInOrder
  refine wpAny_bind (wpAny_holding (wpAny_assign_Name (storeL hy hk _ _ _ _ _ _ v2 _ _ F3 fun s4 F4 g4 => ?_)))
  unfold assignInOrder
  refine wpAny_pure (c v1 v2 s4 F4 (((y1.trans y2).fz W).trans (g3.trans g4)) (P1.mono ((y2.fz W).trans (g3.trans g4)) r1) (P2.mono ((y2.fz W).trans (g3.trans g4)) r2))
end

/-! ## the entry of a def -/
theorem fn_of {prog : Program} {w : World} {T0 : Heap} {d : Nat} {f : Addr} {fd : FuncData} {body : List Stmt} {o : Obj} {Ps : List RP} {R : RP} (ho : T0.get? f = some o) (hd : o.data = .func fd) (hlim : T0.NoLimit) (hcd : T0.CodeRec fd.code fd.qualname)
    (bindsOf : List Value → List (Str × Value)) (hbody : fd.body = .stmts body) (hclo : fd.closure = []) (hbind : ∀ vs : List Value, vs.length = Ps.length → bindArgs fd ⟨vs, []⟩ = pure (bindsOf vs))
    (hkind : ∀ vs : List Value, vs.length = Ps.length → ∀ n, ∀ x ∈ bindsOf vs, fd.scope.names.lookup x.1 = some .local ∨ (fd.scope.names.lookup x.1 = some .cell ∧ ((cellsFrom n fd.scope.names []).lookup x.1).isSome = true))
    (hnd : ((cellsFrom 0 fd.scope.names []).map (·.1)).Nodup)
    (hb : ∀ (W : List Addr) (A : Around) (s s₁ : Shared) (vs : List Value) (Q : Flow → Shared → Prop) (E : Value → Shared → Prop), AOk A d → Ext T0 s.heap → vs.length = Ps.length →
      FS s (callEnvC fd s.heap.objs.size f) W [] (bindL (callEnvC fd s.heap.objs.size f).kindOf (bindsOf vs) fun _ => none) (bindC (callEnvC fd s.heap.objs.size f).kindOf (bindsOf vs) fun _ => none) s₁ → All2 (Fz W s₁.heap) vs Ps →
      (∀ v h' tk', Ext s.heap h' → R.rel (Fz W h') v → Q (.ret v) { s with heap := h', toks := tk' }) → wpAny (model prog w) A (execs body (callEnvC fd s.heap.objs.size f)) Q E s₁)
    (hco : fd.scope.isCoroutine = false := by rfl) (hgen : fd.scope.isGenerator = false := by rfl) (hk : fd.scope.kind = .function := by rfl) : Fn prog w T0 (d + 1) f Ps R := by
  intro W A s vs Q E hA hT hw hargs k
  have hlen := hargs.length
  refine wpAny_call (codeAny_call_cells (by have := hA.depth; omega) (hT _ _ ho) hd (hlim.keeps hT) (hcd.keeps hT) hbody (hbind vs hlen) hclo (hkind vs hlen _) (fun s₁ x => ?_) hco hgen hk)
  have hcells : ∀ n c, (n, c) ∈ (callEnvC fd s.heap.objs.size f).cells → (callEnvC fd s.heap.objs.size f).cells.lookup n = some c := fun n c hm =>
    lookup_of_mem_nodup (cellsFrom_names fd.scope.names 0 (s.heap.objs.size + 1) [] [] rfl ▸ hnd) hm
  have none_of : ∀ a, s.heap.objs.size ≤ a → s.heap.get? a = none := fun a ha => by
    cases e : s.heap.get? a with
    | none => rfl
    | some o => exact absurd (Heap.lt_size e) (Nat.not_lt.mpr ha)
  have F : FS s (callEnvC fd s.heap.objs.size f) ((callEnvC fd s.heap.objs.size f).locals :: ((callEnvC fd s.heap.objs.size f).cells.map (·.2) ++ W)) [] _ _ s₁ :=
    { same := x.toInCall.same, ns := x.toInCall.ns, cell := x.cell, apart := x.apart, cne := fun n c hm => Ne.symm (Nat.ne_of_lt (x.above n c hm)), wl := List.mem_cons_self,
      wc := fun n c hm => List.mem_cons_of_mem _ (List.mem_append_left _ (List.mem_map.mpr ⟨(n, c), hm, rfl⟩)), mu := fun _ h => (nomatch h), mud := List.Pairwise.nil, old := x.toInCall.keep, fl := none_of _ (Nat.le_refl _),
      fc := fun n c hm => none_of _ (Nat.le_of_lt (x.above n c hm)),
      win := fun b hb => by
        rcases List.mem_cons.mp hb with rfl | hb
        · obtain ⟨o, _, _, q, _⟩ := x.toInCall.ns; exact ⟨o, q⟩
        · rcases List.mem_append.mp hb with hb | hb
          · obtain ⟨⟨n, c⟩, hm, rfl⟩ := List.mem_map.mp hb
            obtain ⟨o, q, _⟩ := x.cell n c (hcells n c hm); exact ⟨o, q⟩
          · obtain ⟨o, q⟩ := hw b hb; exact ⟨o, x.toInCall.keep _ _ q⟩ }
  refine hb _ _ s s₁ vs _ _ hA.deeper hT hlen F (hargs.mono fun b o e => Fz.of (fun hb => ?_) (x.toInCall.keep _ _ (Fz.get e))) fun v h' tk' y p => ?_
  · rcases List.mem_cons.mp hb with q | hb
    · have := none_of b (by rw [q]; exact Nat.le_refl _)
      rw [Fz.get e] at this; cases this
    · rcases List.mem_append.mp hb with hb | hb
      · obtain ⟨⟨n, c⟩, hm, rfl⟩ := List.mem_map.mp hb
        have := none_of c (Nat.le_of_lt (x.above n c hm))
        rw [Fz.get e] at this; cases this
      · exact Fz.notin e hb
  · exact k v h' tk' y (R.mono (fext_sub fun b hb => List.mem_cons_of_mem _ (List.mem_append_right _ hb)) p)
theorem fn_K {prog : Program} {w : World} {T0 : Heap} {d : Nat} {K : Frag} {f : Addr} {name qual : Str} {params : Arguments} {body : List Stmt} {scope : Scope} {dV kV doc pm cdv ct oc : Value} {an od : Option Addr} {osl : Array (Option Value)} {Ps : List RP} {R : RP}
    (X : K.In T0) (hlim : T0.NoLimit) (ho : K.lookup f = some ⟨oc, od, .func (fnX name qual params body scope [] dV kV doc pm an cdv ct), osl⟩) (hcd : codeIn K cdv qual = true)
    (bindsOf : List Value → List (Str × Value)) (hbind : ∀ vs : List Value, vs.length = Ps.length → bindArgs (fnX name qual params body scope [] dV kV doc pm an cdv ct) ⟨vs, []⟩ = pure (bindsOf vs))
    (hkind : ∀ vs : List Value, vs.length = Ps.length → ∀ n, ∀ x ∈ bindsOf vs, scope.names.lookup x.1 = some .local ∨ (scope.names.lookup x.1 = some .cell ∧ ((cellsFrom n scope.names []).lookup x.1).isSome = true))
    (hnd : ((cellsFrom 0 scope.names []).map (·.1)).Nodup)
    (hb : ∀ (W : List Addr) (A : Around) (s s₁ : Shared) (L : Addr) (vs : List Value) (Q : Flow → Shared → Prop) (E : Value → Shared → Prop), AOk A d → Ext T0 s.heap → vs.length = Ps.length →
      FS s (envOfC qual scope L f cdv) W [] (bindL (envOfC qual scope L f cdv).kindOf (bindsOf vs) fun _ => none) (bindC (envOfC qual scope L f cdv).kindOf (bindsOf vs) fun _ => none) s₁ → All2 (Fz W s₁.heap) vs Ps →
      (∀ v h' tk', Ext s.heap h' → R.rel (Fz W h') v → Q (.ret v) { s with heap := h', toks := tk' }) → wpAny (model prog w) A (execs body (envOfC qual scope L f cdv)) Q E s₁)
    (hco : scope.isCoroutine = false := by rfl) (hgen : scope.isGenerator = false := by rfl) (hk : scope.kind = .function := by rfl) : Fn prog w T0 (d + 1) f Ps R :=
  fn_of (X _ _ ho) rfl hlim (codeRec_of X hcd) bindsOf rfl rfl hbind hkind hnd (fun W A s s₁ vs Q E => hb W A s s₁ s.heap.objs.size vs Q E) hco hgen hk
end Mine
namespace Mine
section
variable {prog : Program} {w : World} {W : List Addr} {A : Around} {env : Env} {h : Heap}
theorem isL_list {G : Fm} {s : Shared} {Ps : List RP} {v : Value} (p : (IsL Ps).rel (Fz W s.heap) v) : ∃ a vs, v = .ref a ∧ s.heap.IsList a (vs : List Value).toArray ∧ All2 (Fz W s.heap) vs Ps := by
  obtain ⟨a, vs, n, rfl, g, hall⟩ := p
  exact ⟨a, vs, rfl, ⟨_, Fz.get g, rfl, _, rfl⟩, hall⟩
theorem callB_sum {ns : List Int} (hA : A.handled = none) : CallB prog w W A h (.builtin "sum") [IsLI ns] (IsI ns.sum) := by
  intro s Q E vs y hw p k
  obtain ⟨v, rfl, p⟩ := all1 p
  obtain ⟨⟨a, us, n, rfl, g, hall⟩, _⟩ := p
  have hi := hall.ints
  obtain ⟨xs, e⟩ := hi.allInts.items
  have hns : ns = xs.toList.map (·.1) := by rw [← hi.numsOf, ← nums_intItems, ← e]
  have hl : s.heap.IsList a (intItems xs) := e ▸ ⟨_, Fz.get g, rfl, _, rfl⟩
  refine sum_intListG hA hl fun h' tk t' hk => k _ _ _ hk ⟨t', ?_⟩
  rw [preSum_eq, List.take_of_length_le (by simp), hns]
theorem callB_min {ns : List Int} (hA : A.handled = none) (hne : ns ≠ []) : CallB prog w W A h (.builtin "min") [IsLI ns] (IsI (minL ns)) := by
  intro s Q E vs y hw p k
  obtain ⟨v, rfl, p⟩ := all1 p
  obtain ⟨⟨a, us, n, rfl, g, hall⟩, _⟩ := p
  have hi := hall.ints
  obtain ⟨xs, e⟩ := hi.allInts.items
  have hns : ns = xs.toList.map (·.1) := by rw [← hi.numsOf, ← nums_intItems, ← e]
  have hsz : 0 < xs.size := by
    have h3 : 0 < ns.length := List.length_pos_iff.mpr hne
    rw [hns, List.length_map, Array.length_toList] at h3; exact h3
  have hl : s.heap.IsList a (intItems xs) := e ▸ ⟨_, Fz.get g, rfl, _, rfl⟩
  refine min_intList hA hl hsz fun v h' tk hv hk => ?_
  obtain ⟨t, rfl⟩ := intItems_at hv
  obtain ⟨h1, h2⟩ := argBest_lt (numAt xs) (xs.size - 1)
  refine k _ _ _ hk ⟨t, congrArg (Value.int · t) (minL_eq ?_ fun a ha => ?_)⟩
  · rw [hns, numAt_eq]; exact getD_mem (by rw [List.length_map, Array.length_toList]; omega)
  · rw [hns] at ha
    obtain ⟨j, hj, rfl⟩ := mem_getD ha
    rw [List.length_map, Array.length_toList] at hj
    rw [← numAt_eq]; exact h2 j (by omega)
theorem callB_len {Ps : List RP} (hfit : (Ps.length : Int) < 2 ^ 63) : CallB prog w W A h (.builtin "len") [IsL Ps] (IsI Ps.length) := by
  intro s Q E vs y hw p k
  obtain ⟨v, rfl, p⟩ := all1 p
  obtain ⟨⟨a, us, n, rfl, g, hall⟩, _⟩ := p
  have e : us.toArray.size = Ps.length := by rw [List.size_toArray, hall.length]
  refine call_len_list (items := us.toArray) ⟨_, Fz.get g, rfl, _, rfl⟩ (by rw [e]; exact hfit) (k _ _ _ (Ext.refl _) ⟨_, by rw [e]⟩)
theorem callB_copy {Ps : List RP} (hsz : Ps.length ≤ sizeLine) : CallB prog w W A h (.type "list") [IsL Ps] (IsL Ps) := by
  intro s Q E vs y hw p k
  obtain ⟨v, rfl, p⟩ := all1 p
  obtain ⟨⟨a, us, n, rfl, g, hall⟩, _⟩ := p
  refine call_list_seq a (.inl rfl) (Fz.get g) rfl rfl (fun h' c' hk hD => k _ _ s.toks hk ⟨_, us, c', rfl, Fz.of ((hw.ext y).fresh) hD, hall.mono (Ext.fz (h := s.heap) (h' := h') hk W)⟩) (by rw [List.size_toArray, hall.length]; exact hsz)
theorem callB_min2 {a b : Int} (hA : A.handled = none) : CallB prog w W A h (.builtin "min") [IsI a, IsI b] (IsI (if b < a then b else a)) := by
  intro s Q E vs y hw p k
  obtain ⟨v1, v2, rfl, p⟩ := all2 p
  obtain ⟨⟨t1, rfl⟩, ⟨t2, rfl⟩, _⟩ := p
  refine min_two_ints hA fun h' tk hk => ?_
  by_cases c : b < a
  · simp only [if_pos c]; exact k _ _ _ hk ⟨t2, by simp [c]⟩
  · simp only [if_neg c]; exact k _ _ _ hk ⟨t1, by simp [c]⟩
theorem callB_max2 {a b : Int} (hA : A.handled = none) : CallB prog w W A h (.builtin "max") [IsI a, IsI b] (IsI (if a < b then b else a)) := by
  intro s Q E vs y hw p k
  obtain ⟨v1, v2, rfl, p⟩ := all2 p
  obtain ⟨⟨t1, rfl⟩, ⟨t2, rfl⟩, _⟩ := p
  refine max_two_ints hA fun h' tk hk => ?_
  by_cases c : a < b
  · simp only [gt_iff_lt, if_pos c]; exact k _ _ _ hk ⟨t2, by simp [c]⟩
  · simp only [gt_iff_lt, if_neg c]; exact k _ _ _ hk ⟨t1, by simp [c]⟩
theorem cmp_notin {k : Int} {ns : List Int} : Cmp prog w W A h .NotIn (IsI k) (IsLI ns) (!(ns.any (· == k))) := by
  intro s Q E v1 v2 y hw p1 p2 c
  obtain ⟨t, rfl⟩ := p1
  obtain ⟨a, us, n, rfl, g, hall⟩ := p2
  exact notin_list_ints ⟨_, Fz.get g, rfl, _, rfl⟩ hall.ints (c _ s.toks (Ext.refl _))
theorem cmp_eqLen {P1 P2 : List RP} (hu : A.units < cLine) (hne : P1.length ≠ P2.length) : Cmp prog w W A h .Eq (IsL P1) (IsL P2) false := by
  intro s Q E v1 v2 y hw p1 p2 c
  obtain ⟨a, us, n, rfl, g, hall⟩ := p1
  obtain ⟨b, us2, n2, rfl, g2, hall2⟩ := p2
  exact PySem.SeqAt.eq_list_lengthsAt (items := us.toArray) (items2 := us2.toArray) ⟨_, Fz.get g, rfl, _, rfl⟩ ⟨_, Fz.get g2, rfl, _, rfl⟩ (by simpa [hall.length, hall2.length] using hne) hu (c _ s.toks (Ext.refl _))
theorem cmp_neLen {P1 P2 : List RP} (hu : A.units < cLine) (hne : P1.length ≠ P2.length) : Cmp prog w W A h .NotEq (IsL P1) (IsL P2) true := by
  intro s Q E v1 v2 y hw p1 p2 c
  obtain ⟨a, us, n, rfl, g, hall⟩ := p1
  obtain ⟨b, us2, n2, rfl, g2, hall2⟩ := p2
  have := PySem.SeqAt.RcNeAt.lists_lengths (A := A) (s := s) (items := us.toArray) (items2 := us2.toArray) (l := a) (b := b) ⟨_, Fz.get g, rfl, _, rfl⟩ ⟨_, Fz.get g2, rfl, _, rfl⟩ (by simpa [hall.length, hall2.length] using hne) hu
  exact this prog w E Q (c _ s.toks (Ext.refl _))
theorem cmp_neNil (hu : A.units < cLine) : Cmp prog w W A h .NotEq (IsL []) (IsL []) false := by
  intro s Q E v1 v2 y hw p1 p2 c
  obtain ⟨a, us, n, rfl, g, hall⟩ := p1
  obtain ⟨b, us2, n2, rfl, g2, hall2⟩ := p2
  have e1 : us = [] := List.length_eq_zero_iff.mp hall.length
  have e2 : us2 = [] := List.length_eq_zero_iff.mp hall2.length
  subst e1 e2
  have := PySem.SeqAt.RcNeAt.lists (A := A) (s := s) (items := [].toArray) (items2 := [].toArray) (l := a) (b := b) (e := fun _ => true) ⟨_, Fz.get g, rfl, _, rfl⟩ ⟨_, Fz.get g2, rfl, _, rfl⟩ rfl hu (fun j h1 _ => absurd h1 (Nat.not_lt_zero _))
  exact this prog w E Q (c _ s.toks (Ext.refl _))
theorem cmp_neNilI {ns : List Int} (hu : A.units < cLine) : Cmp prog w W A h .NotEq (IsLI ns) (IsL []) (decide (ns ≠ [])) := by
  by_cases e : ns = []
  · subst e; exact cmp_neNil hu
  · rw [decide_eq_true e]
    exact cmp_neLen hu (by simpa using e)
theorem ev_cat {l r : Expr} {pos : Pos} {P1 P2 : List RP} (hl : Ev prog w W A env h l (IsL P1)) (hr : Ev prog w W A env h r (IsL P2)) (hz : P1.length + P2.length ≤ sizeLine) : Ev prog w W A env h (.BinOp l .Add r pos) (IsL (P1 ++ P2)) :=
  ev_bin hl hr fun s Q E v1 v2 y hw p1 p2 k => by
    obtain ⟨a, us, n, rfl, g, hall⟩ := p1
    obtain ⟨b, us2, n2, rfl, g2, hall2⟩ := p2
    have hk : us.toArray.size + us2.toArray.size ≤ sizeLine := by rw [List.size_toArray, List.size_toArray, hall.length, hall2.length]; exact hz
    refine concat_meets ⟨_, Fz.get g, rfl⟩ ⟨_, Fz.get g2, rfl⟩ noFill_list_add seq_list_add PySem.F.slot_list_add PySem.F.entry_list_add (PySem.F.args_list_add_2 _ _) (list_addW a b us.toArray us2.toArray n n2 none none #[] #[] hk) ⟨Fz.get g, Fz.get g2, ?_⟩
    exact k _ _ _ ((Ext.refl s.heap).push _) ⟨_, us ++ us2, _, rfl, by rw [show us.toArray ++ us2.toArray = (us ++ us2).toArray by simp]; exact Fz.new (hw.ext y) _, (hall.append hall2).mono (((Ext.refl s.heap).push _).fz W)⟩
end
end Mine
namespace Mine
def at2 (M : List (List Int)) (i j : Nat) : Int := (M.getD i []).getD j 0
def energy (M : List (List Int)) (gs : List Int) : Int := ((List.range 5).flatMap fun i => (List.range 5).map fun j => at2 M i j * gs.getD i 0 * gs.getD j 0).sum
theorem range_item {n i : Nat} {S : RP} (h : ((List.range n).map fun i => IsI (i : Nat))[i]? = some S) : i < n ∧ S = IsI (i : Nat) := by
  rw [List.getElem?_map] at h
  by_cases hi : i < n
  · rw [List.getElem?_range hi] at h; cases h; exact ⟨hi, rfl⟩
  · rw [List.getElem?_eq_none (by rw [List.length_range]; omega)] at h; cases h
structure Sq (M : List (List Int)) : Prop where
  len : M.length = 5
  row : ∀ i, i < 5 → (M.getD i []).length = 5
theorem li_item {ns : List Int} {i : Nat} (h : i < ns.length) : (ns.map IsI)[((i : Nat) : Int).toNat]? = some (IsI (ns.getD i 0)) := by
  rw [Int.toNat_natCast, List.getElem?_map, List.getElem?_eq_getElem h, List.getD_eq_getElem?_getD, List.getElem?_eq_getElem h]; rfl
theorem isM_row {M : List (List Int)} {i : Nat} (h : i < M.length) : (M.map IsLI)[((i : Nat) : Int).toNat]? = some (IsLI (M.getD i [])) := by
  rw [Int.toNat_natCast, List.getElem?_map, List.getElem?_eq_getElem h, List.getD_eq_getElem?_getD, List.getElem?_eq_getElem h]; rfl
theorem getD_mem' {ns : List Int} {i : Nat} (h : i < ns.length) : ns.getD i 0 ∈ ns := by
  rw [List.getD_eq_getElem?_getD, List.getElem?_eq_getElem h]; exact List.getElem_mem h
section
variable {prog : Program} {w : World} {W : List Addr} {A : Around} {env : Env} {h : Heap}
theorem ev_at2 {a b c : Expr} {p1 p2 : Pos} {M : List (List Int)} {i j : Nat} (hM : Sq M) (hi : i < 5) (hj : j < 5) (ha : Ev prog w W A env h a (IsM M)) (hb : Ev prog w W A env h b (IsI (i : Nat))) (hc : Ev prog w W A env h c (IsI (j : Nat)))
    (hs : ∀ a u, subscripted b false (.ref a) (.int (i : Nat) u) = operate [.ref a, .int (i : Nat) u] (getItem (.ref a) (.int (i : Nat) u)) := by intro _ _; with_unfolding_all rfl)
    (hs2 : ∀ a u, subscripted c false (.ref a) (.int (j : Nat) u) = operate [.ref a, .int (j : Nat) u] (getItem (.ref a) (.int (j : Nat) u)) := by intro _ _; with_unfolding_all rfl) :
    Ev prog w W A env h (.Subscript (.Subscript a b p1) c p2) (IsI (at2 M i j)) :=
  ev_item (ev_item ha hb (by omega) (by omega) (isM_row (by rw [hM.len]; exact hi)) hs) hc (by omega) (by omega) (li_item (by rw [hM.row i hi]; exact hj)) hs2
end
theorem range5_z : (5 : Nat) ≤ sizeLine := by rw [sizeLine_eq]; omega
theorem sum5_z (i : Nat) (h : i ≤ 5) : ((List.range i).map fun _ => 5).sum ≤ sizeLine := by
  have e : ((List.range i).map fun _ => 5).sum = 5 * i := by
    rw [List.map_const', List.sum_replicate_nat, List.length_range, Nat.mul_comm]
  rw [e, sizeLine_eq]; omega
theorem filterMap_some {α β : Type} (f : α → β) (l : List α) : l.filterMap (fun x => some (f x)) = l.map f := by
  induction l with
  | nil => rfl
  | cons a r ih => simp
section
variable {prog : Program} {w : World} {W : List Addr} {A : Around} {env : Env} {h : Heap}
theorem tv_and2 {e1 e2 : Expr} {pos : Pos} {b1 b2 : Bool} (x1 : Tv prog w W A env h e1 b1) (x2 : b1 = true → Tv prog w W A env h e2 b2) : Tv prog w W A env h (.BoolOp .And [e1, e2] pos) (b1 && b2) := by
  intro s Q E y hw k
  refine isTrue_and (x1 s _ _ y hw fun h1 tk1 y1 => ?_)
  cases b1 with
  | false => exact k _ _ y1
  | true =>
    refine isTrue_and (x2 rfl _ _ _ (y.trans y1) hw fun h2 tk2 y2 => ?_)
    cases b2 with
    | false => exact k _ _ (y1.trans y2)
    | true => exact isTrue_and_nil (k _ _ (y1.trans y2))
theorem tv_or2 {e1 e2 : Expr} {pos : Pos} {b1 b2 : Bool} (x1 : Tv prog w W A env h e1 b1) (x2 : b1 = false → Tv prog w W A env h e2 b2) : Tv prog w W A env h (.BoolOp .Or [e1, e2] pos) (b1 || b2) := by
  intro s Q E y hw k
  refine isTrue_or (x1 s _ _ y hw fun h1 tk1 y1 => ?_)
  cases b1 with
  | true => exact k _ _ y1
  | false =>
    refine isTrue_or (x2 rfl _ _ _ (y.trans y1) hw fun h2 tk2 y2 => ?_)
    cases b2 with
    | true => exact k _ _ (y1.trans y2)
    | false => exact isTrue_or_nil (k _ _ (y1.trans y2))
end
section
variable {prog : Program} {w : World} {W : List Addr} {A : Around} {env : Env} {h : Heap}
theorem ev_comp {elt iter : Expr} {x : Str} {px : Pos} {scope : Scope} {pos : Pos} {cl : List (Str × Addr)} {Ss : List RP} (hA : A.handled = none) (hsrc : Src prog w W A env h iter Ss) (hz : Ss.length ≤ sizeLine) (R : Nat → RP) {Rs : List RP}
    (hRs : (List.range Ss.length).map R = Rs)
    (turn : ∀ i S h' C W' m2 v, Ss[i]? = some S → Ext h h' → FExt (Fz W h) (Fz W' h') → WIn W' h' → h'.Ns C m2 → m2 x = some v → S.rel (Fz W' h') v → Ev prog w W' A (compEnvC scope cl C env) h' elt (R i))
    (hclos : closureFor scope env = pure cl) (hcell : ∀ y ∈ scope.names, y.2 ≠ .cell := by decide) (hkind : scope.kind = .function := by rfl) (hx : scope.names.lookup x = some .local := by rfl)
    (hnames : ∀ y ∈ scope.names, y.2 = .local → scope.names.lookup y.1 = some .local := by decide)
    (hs : ∀ x, foldedSetIterable iter env x = pure x := by intro _; rfl) : Ev prog w W A env h (.ListComp elt [⟨.Name x px, iter, [], 0⟩] scope pos) (IsL Rs) :=
  ev_compS hA hsrc hz (fun i => some (R i)) (by rw [filterMap_some]; exact hRs) (fun i S h' C W' m2 v hS y fx hw hn hv hr => ⟨true, tests_none, rfl, turn i S h' C W' m2 v hS y fx hw hn hv hr⟩) hclos hcell hkind hx hnames hs
theorem ax_comp {elt iter : Expr} {x yn : Str} {px py : Pos} {scope : Scope} {pos spos : Pos} {cl : List (Str × Addr)} {Ss : List RP} {s₀ s : Shared} {Mu : List (Addr × Obj)} {m cm : Str → Option Value} {Q : Flow → Shared → Prop} {E : Value → Shared → Prop}
    (F : FS s₀ env W Mu m cm s) (hA : A.handled = none) (hsrc : Src prog w W A env s.heap iter Ss) (hz : Ss.length ≤ sizeLine) (R : Nat → RP) {Rs : List RP}
    (hRs : (List.range Ss.length).map R = Rs)
    (turn : ∀ i S h' C W' m2 v, Ss[i]? = some S → Ext s.heap h' → FExt (Fz W s.heap) (Fz W' h') → WIn W' h' → h'.Ns C m2 → m2 x = some v → S.rel (Fz W' h') v → Ev prog w W' A (compEnvC scope cl C env) h' elt (R i))
    (k : ∀ v s', FS s₀ env W Mu (upd m yn v) cm s' → FExt (Fz W s.heap) (Fz W s'.heap) → (IsL Rs).rel (Fz W s'.heap) v → Q .next s')
    (hclos : closureFor scope env = pure cl) (hsw : swapsWith (.ListComp elt [⟨.Name x px, iter, [], 0⟩] scope pos) (some (.Name yn py)) spos.line env = pure true := by rfl)
    (hcell : ∀ y ∈ scope.names, y.2 ≠ .cell := by decide) (hkind : scope.kind = .function := by rfl) (hx : scope.names.lookup x = some .local := by rfl)
    (hnames : ∀ y ∈ scope.names, y.2 = .local → scope.names.lookup y.1 = some .local := by decide) (hy : env.kindOf yn = some .local := by rfl) (hp : (env.scope.kind == .class || (env.scope.kind == .module && env.locals != env.globals)) = false := by rfl)
    (hs : ∀ x, foldedSetIterable iter env x = pure x := by intro _; rfl) : wpAny (model prog w) A (exec (.Assign [.Name yn py] (.ListComp elt [⟨.Name x px, iter, [], 0⟩] scope pos) spos) env) Q E s :=
  ax_compS hA hsrc hz (fun i => some (R i)) (by rw [filterMap_some]; exact hRs) F.win F.wl F.ns (fun i S h' C W' m2 v hS y fx hw hn hv hr => ⟨true, tests_none, rfl, turn i S h' C W' m2 v hS y fx hw hn hv hr⟩)
    (fun v h' tk' kk hn hr => k v _ (F.setL kk hn) (F.fzL kk) hr) hclos hsw hcell hkind hx hnames hy hp hs
theorem li_get {M : List (List Int)} {i : Nat} {S : RP} (h : (M.map IsLI)[i]? = some S) : i < M.length ∧ S = IsLI (M.getD i []) := by
  rw [List.getElem?_map] at h
  by_cases hi : i < M.length
  · rw [List.getElem?_eq_getElem hi] at h; cases h
    refine ⟨hi, ?_⟩
    rw [List.getD_eq_getElem?_getD, List.getElem?_eq_getElem hi]; rfl
  · rw [List.getElem?_eq_none (by omega)] at h; cases h
theorem i_get {ns : List Int} {i : Nat} {S : RP} (h : (ns.map IsI)[i]? = some S) : i < ns.length ∧ S = IsI (ns.getD i 0) := by
  rw [List.getElem?_map] at h
  by_cases hi : i < ns.length
  · rw [List.getElem?_eq_getElem hi] at h; cases h
    refine ⟨hi, ?_⟩
    rw [List.getD_eq_getElem?_getD, List.getElem?_eq_getElem hi]; rfl
  · rw [List.getElem?_eq_none (by omega)] at h; cases h
end
end Mine
namespace Mine
/-! ## a comprehension whose own name is a cell -/
def compEnvK (scope : Scope) (cl : List (Str × Addr)) (x : Str) (C c : Addr) (env : Env) : Env :=
  { scope := relabel scope env, locals := C, globals := env.globals, cells := (x, c) :: cl, qual := env.qual, func := none, code := env.code, frame := env.frame, builtins := env.builtins }
section
variable {prog : Program} {w : World} {W : List Addr} {A : Around} {env : Env} {h : Heap}
theorem newEnv_comp {scope : Scope} {globals : Addr} {cl : List (Str × Addr)} {qual : Str} {outer : Env} {Q : Env → Shared → Prop} {E : Value → Shared → Prop} {s : Shared}
    (hQ : Q { scope, locals := s.heap.objs.size, globals, cells := cellsFrom (s.heap.objs.size + 1) scope.names cl, qual, func := none, code := outer.code, frame := outer.frame, builtins := outer.builtins }
      { s with heap := pushCells (s.heap.push { cls := .type "dict", data := .dict #[] }) scope.names }) :
    wpAny (model prog w) A (newFunctionEnv scope globals cl [] qual none .none (some outer)) Q E s := by
  simp only [newFunctionEnv, Option.isSome_some, if_true]
  refine wpAny_bind (wpAny_alloc ?_)
  refine wpAny_bind (wpAny_layCells _ (fun name kind cells => by cases hkc : kind == NameKind.cell <;> simp [hkc]) _ _ _ _ ?_)
  rw [show ({ s with heap := s.heap.push { cls := .type "dict", data := .dict #[] } } : Shared).heap.objs.size = s.heap.objs.size + 1 from Heap.size_push ..]
  refine wpAny_bind ?_
  rw [List.forIn_nil]
  exact wpAny_pure (wpAny_pure hQ)

theorem loop1c {elt iter : Expr} {x : Str} {px : Pos} {scope : Scope} {pos : Pos} {cenv : Env} {s s₂ : Shared} {h0 : Heap} {C D I c : Addr} {fp : List Addr} {n : Nat} {P : Nat → Value → Prop} {St : Nat → Heap → Prop} {RR : Result → Shared → Prop} {m : Str → Option Value} {v₀ : Option Value}
    (hk : cenv.scope.kind = .function) (hx : cenv.kindOf x = some .cell) (hc : cenv.cells.lookup x = some c) (hw : WIn W h0)
    (Wk : Walks prog w A I fp [I] n P St) (hz : n ≤ sizeLine) (hfp : ∀ b ∈ fp, b = I ∨ ∃ o, h0.get? b = some o) (hlive : ∀ i h, St i h → ∃ o, h.get? I = some o) (R : Nat → RP) (hcI : c ≠ I)
    (turn : ∀ i v s Rs, i < n → P i v → CS s₂ h0 W C D [I, c] Rs s → s.heap.IsCell c (some v) → Ev prog w (D :: C :: ([I, c] ++ W)) A cenv s.heap elt (R i))
    (X0 : CS s₂ h0 W C D [I, c] [] s) (h0St : St 0 s.heap) (hn : s.heap.Ns C m) (hv0 : s.heap.IsCell c v₀)
    (fin : ∀ s' m', CE s₂ h0 W C D ((List.range n).map R) s' → s'.heap.Ns C m' → RR (.ok .next) s') :
    codeAny (model prog w) A (.compLoop (.ListComp elt [⟨.Name x px, iter, [], 0⟩] scope pos) 0 (.ref I) (.ref D) cenv) RR s := by
  have hID : I ≠ D := fun e => X0.nd (e ▸ by simp)
  have hIC : I ≠ C := fun e => X0.nc (e ▸ by simp)
  have hDC : D ≠ C := fun e => X0.nd (e ▸ by simp)
  have hcC : c ≠ C := fun e => X0.nc (e ▸ by simp)
  have hcD : c ≠ D := fun e => X0.nd (e ▸ by simp)
  have offc : ∀ b ∈ fp, b ≠ c := fun b hb e => by
    rcases hfp b hb with rfl | ⟨o, q⟩
    · exact hcI e.symm
    · have := X0.off c (by simp); rw [← e, q] at this; cases this
  have offD : ∀ b ∈ fp, b ≠ D := fun b hb e => by
    rcases hfp b hb with rfl | ⟨o, q⟩
    · exact hID e
    · have := X0.off D (by simp); rw [← e, q] at this; cases this
  refine codeAny_compLoop_list
    (fun k s' => ∃ i v₁, i ≤ n ∧ k = n + 1 - i ∧ St i s'.heap ∧ s'.heap.Ns C m ∧ s'.heap.IsCell c v₁ ∧ CS s₂ h0 W C D [I, c] ((List.range i).map R) s') ?_ (n + 1) ⟨0, v₀, Nat.zero_le _, rfl, h0St, hn, hv0, X0⟩
  rintro k s' ⟨i, v₁, hi, rfl, hst, hn', hv', x'⟩
  by_cases hlt : i < n
  · refine Wk.item i _ _ _ hlt hst fun v h₂ tk₂ hPv hst₂ hk₂ => ?_
    have hn2 : h₂.Ns C m := hn'.at' fun o e => hk₂ _ o (by simpa using Ne.symm hIC) e
    have hv2 : h₂.IsCell c v₁ := by
      obtain ⟨o, q, r⟩ := hv'
      exact ⟨o, hk₂ _ _ (by simpa using hcI) q, r⟩
    have x2 : CS s₂ h0 W C D [I, c] ((List.range i).map R) { s' with heap := h₂, toks := tk₂ } := x'.step (fun b o hb e => hk₂ b o (by simp at hb ⊢; exact hb.2.1) e) fun b hb => by
      simp only [List.mem_cons, List.not_mem_nil, or_false] at hb
      rcases hb with rfl | rfl | rfl
      · obtain ⟨o, _, _, q, _⟩ := hn2; exact ⟨o, q⟩
      · exact hlive _ _ hst₂
      · obtain ⟨o, q, _⟩ := hv2; exact ⟨o, q⟩
    refine wpAny_assign_Name (wpAny_storeName_cell hk hx hc hv2 fun h₃ hv₃ hs₃ => ?_)
    have x3 : CS s₂ h0 W C D [I, c] ((List.range i).map R) { s' with heap := h₃, toks := tk₂ } := x2.step (h' := h₃) (tk' := tk₂) (fun b o hb e => (hs₃.2 b (fun q => hb (by simp [q]))).trans e) fun b hb => by
      simp only [List.mem_cons, List.not_mem_nil, or_false] at hb
      rcases hb with rfl | rfl | rfl
      · obtain ⟨o, _, _, q, _⟩ := hn2
        exact ⟨o, (hs₃.2 b (Ne.symm hcC)).trans q⟩
      · obtain ⟨o, q⟩ := hlive _ _ hst₂
        exact ⟨o, (hs₃.2 b (Ne.symm hcI)).trans q⟩
      · obtain ⟨o, q, _⟩ := hv₃; exact ⟨o, q⟩
    have hst₃ : St (i + 1) h₃ := Wk.frame _ _ _ hst₂ fun b hb o e => (hs₃.2 b (offc b hb)).trans e
    have hn3 : h₃.Ns C m := hn2.sameBut hs₃ (Ne.symm hcC)
    refine emit x3 hw (by rw [List.length_map, List.length_range]; omega) hn3 (turn i v _ _ hlt hPv x3 hv₃) fun h₅ tk₅ x5 hn₅ hk₅ => ?_
    refine ⟨n + 1 - (i + 1), by omega, i + 1, some v, hlt, rfl, Wk.frame _ _ _ hst₃ fun b hb o e => hk₅ b o (offD b hb) e, hn₅, ?_, ?_⟩
    · obtain ⟨o, q, r⟩ := hv₃
      exact ⟨o, hk₅ _ _ hcD q, r⟩
    · rw [List.range_succ, List.map_append]; exact x5
  · obtain rfl : i = n := Nat.le_antisymm hi (Nat.not_lt.mp hlt)
    refine Wk.done _ _ _ hst fun h₂ tk₂ hk₂ => ?_
    exact fin _ m (x'.done hw hk₂) (hn'.at' fun o e => hk₂ _ o (by simpa using Ne.symm hIC) e)

theorem comp_coreC {elt iter : Expr} {x : Str} {px : Pos} {scope : Scope} {pos : Pos} {cl : List (Str × Addr)} {Ss : List RP} (hsrc : Src prog w W A env h iter Ss) (hz : Ss.length ≤ sizeLine) (R : Nat → RP)
    (hcells : ∀ n cl, cellsFrom n scope.names cl = (x, n) :: cl) (hpush : ∀ h, pushCells h scope.names = h.push { cls := .type "cell", data := .cell none }) (hkind : scope.kind = .function) (hx : (relabel scope env).names.lookup x = some .cell)
    (turn : ∀ i S h' C c W' v, Ss[i]? = some S → Ext h h' → FExt (Fz W h) (Fz W' h') → WIn W' h' → h'.IsCell c (some v) → S.rel (Fz W' h') v → Ev prog w W' A (compEnvK scope cl x C c env) h' elt (R i))
    {use : Option (Value → Sem Unit)} {s : Shared} {Q : Value → Shared → Prop} {E : Value → Shared → Prop} (y : Ext h s.heap) (hw : WIn W h)
    (k : ∀ D C h1 s' m', Ext s.heap h1 → CE s h1 W C D ((List.range Ss.length).map R) s' → s'.heap.Ns C m' → h1.get? C = none → h1.get? D = none → compPost (model prog w) A E use Q (.ref D) C (.ok .next) s') :
    wpAny (model prog w) A (eval iter env) (fun x' s₁ => wpAny (model prog w) A (pyIter x') (fun it s₂ => wpAny (model prog w) A (newList []) (fun acc s₃ =>
      wpAny (model prog w) A (newFunctionEnv scope env.globals cl [] env.qual none .none (some env)) (fun cenv s₄ =>
        codeAny (model prog w) A (.compStart (.ListComp elt [⟨.Name x px, iter, [], 0⟩] scope pos) 0 it acc { cenv with scope := relabel scope env }) (compPost (model prog w) A E use Q acc cenv.locals) s₄) E s₃) E s₂) E s₁) E s := by
  refine hsrc s _ _ y hw fun I h1 h2 tk2 y1 y2 S => ?_
  obtain ⟨fp, P, St, Wk, h0St, hI, hfp, hlive, hP⟩ := S
  refine wpAny_newObj_type (newEnv_comp ?_)
  dsimp only
  rw [hcells, hpush]
  generalize hH2 : h2.push { cls := .type "list", dict := none, data := .seq ([] : List Value).toArray } = H2
  have hC : H2.objs.size = h2.objs.size + 1 := by rw [← hH2, Heap.size_push]
  generalize hH3 : H2.push { cls := .type "dict", data := .dict #[] } = H3
  have hc : H3.objs.size = H2.objs.size + 1 := by rw [← hH3, Heap.size_push]
  have hns : (H3.push { cls := .type "cell", data := .cell none }).Ns H2.objs.size (fun _ => none) := by
    rw [← hH3]
    exact (Heap.Ns.new H2 (.type "dict")).keeps fun b o e => Heap.get?_push_of_some _ e
  have hcell : (H3.push { cls := .type "cell", data := .cell none }).IsCell (H2.objs.size + 1) none := ⟨_, hc ▸ Heap.get?_push_size _ rfl, rfl⟩
  have old : ∀ b o, h2.get? b = some o → (H3.push { cls := .type "cell", data := .cell none }).get? b = some o := fun b o e =>
    Heap.get?_push_of_some _ (hH3 ▸ Heap.get?_push_of_some _ (hH2 ▸ Heap.get?_push_of_some _ e))
  have hacc : (H3.push { cls := .type "cell", data := .cell none }).get? h2.objs.size = some (listOf ([] : List Value).toArray ([] : List Value).length) :=
    Heap.get?_push_of_some _ (hH3 ▸ Heap.get?_push_of_some _ (hH2 ▸ Heap.get?_push_size _ rfl))
  generalize H3.push { cls := .type "cell", data := .cell none } = H4 at hns hcell old hacc ⊢
  have hst₁ : St 0 H4 := Wk.frame _ _ _ h0St fun b _ o e => old b o e
  obtain ⟨oI, hoI⟩ := hlive _ _ h0St
  have hIlt : I < h2.objs.size := Heap.lt_size hoI
  have fresh : ∀ a, h2.objs.size ≤ a → h1.get? a = none := fun a ha => by
    cases e : h1.get? a with
    | none => rfl
    | some o' => exact absurd (Heap.lt_size (y2 _ _ e)) (Nat.not_lt.mpr ha)
  have i1 : I ≠ H2.objs.size := by rw [hC]; exact Nat.ne_of_lt (Nat.lt_succ_of_lt hIlt)
  have i2 : I ≠ H2.objs.size + 1 := by rw [hC]; exact Nat.ne_of_lt (Nat.lt_succ_of_lt (Nat.lt_succ_of_lt hIlt))
  have i3 : I ≠ h2.objs.size := Nat.ne_of_lt hIlt
  have d1 : h2.objs.size ≠ H2.objs.size := by rw [hC]; exact Nat.ne_of_lt (Nat.lt_succ_self _)
  have d2 : h2.objs.size ≠ H2.objs.size + 1 := by rw [hC]; exact Nat.ne_of_lt (Nat.lt_succ_of_lt (Nat.lt_succ_self _))
  have X0 : CS s h1 W H2.objs.size h2.objs.size [I, H2.objs.size + 1] [] { s with heap := H4, toks := tk2 } := by
    refine ⟨⟨_, _, rfl⟩, fun b o e => old b o (y2 b o e), ⟨[], hacc, trivial⟩, fun b hb => ?_, fun b hb => ?_, fun hb => ?_, fun hb => ?_⟩
    · simp only [List.mem_cons, List.not_mem_nil, or_false] at hb
      rcases hb with rfl | rfl | rfl | rfl
      · exact fresh _ (Nat.le_refl _)
      · exact fresh _ (by rw [hC]; exact Nat.le_succ _)
      · exact hI
      · exact fresh _ (by rw [hC]; exact Nat.le_succ_of_le (Nat.le_succ _))
    · simp only [List.mem_cons, List.not_mem_nil, or_false] at hb
      rcases hb with rfl | rfl | rfl | rfl
      · exact ⟨_, hacc⟩
      · obtain ⟨o, _, _, q, _⟩ := hns; exact ⟨o, q⟩
      · exact ⟨_, old _ _ hoI⟩
      · obtain ⟨o, q, _⟩ := hcell; exact ⟨o, q⟩
    · simp only [List.mem_cons, List.not_mem_nil, or_false] at hb
      rcases hb with hb | hb | hb
      · exact d1 hb
      · exact i3 hb.symm
      · exact d2 hb
    · simp only [List.mem_cons, List.not_mem_nil, or_false] at hb
      rcases hb with hb | hb
      · exact i1 hb.symm
      · exact absurd hb (Nat.ne_of_lt (Nat.lt_succ_self _))
  have hw1 : WIn W h1 := hw.ext (y.trans y1)
  have L : codeAny (model prog w) A (.compLoop (.ListComp elt [⟨.Name x px, iter, [], 0⟩] scope pos) 0 (.ref I) (.ref h2.objs.size) (compEnvK scope cl x H2.objs.size (H2.objs.size + 1) env)) (compPost (model prog w) A E use Q (.ref h2.objs.size) H2.objs.size) { s with heap := H4, toks := tk2 } := by
    refine loop1c (cenv := compEnvK scope cl x H2.objs.size (H2.objs.size + 1) env) hkind hx (by simp [compEnvK]) hw1 Wk hz (fun b hb => (hfp b hb).imp id fun ⟨o, q⟩ => ⟨o, Fz.get q⟩) hlive R (Ne.symm i2) (fun i v s' Rs hi hPv X hv => ?_) X0 hst₁ hns hcell fun s' m' c hn => ?_
    · obtain ⟨S, hS, hrel⟩ := hP i v hPv
      have fx : FExt (Fz W h) (Fz W h1) := (y.trans y1).fz W
      exact turn i S s'.heap _ _ _ v hS ((y.trans y1).trans X.ext) (fx.trans X.fext) (X.win hw1) hv (S.mono X.fext hrel)
    · exact k _ _ h1 s' m' y1 c hn (fresh _ (by rw [hC]; exact Nat.le_succ _)) (fresh _ (Nat.le_refl _))
  exact codeAny_compStart_list L (Wk.self 0 _ _ _ hst₁ L)
theorem ax_compC {elt iter : Expr} {x yn : Str} {px py : Pos} {scope : Scope} {pos spos : Pos} {cl : List (Str × Addr)} {Ss : List RP} {s₀ s : Shared} {Mu : List (Addr × Obj)} {m cm : Str → Option Value} {Q : Flow → Shared → Prop} {E : Value → Shared → Prop}
    (F : FS s₀ env W Mu m cm s) (hsrc : Src prog w W A env s.heap iter Ss) (hz : Ss.length ≤ sizeLine) (R : Nat → RP) {Rs : List RP}
    (hRs : (List.range Ss.length).map R = Rs)
    (turn : ∀ i S h' C c W' v, Ss[i]? = some S → Ext s.heap h' → FExt (Fz W s.heap) (Fz W' h') → WIn W' h' → h'.IsCell c (some v) → S.rel (Fz W' h') v → Ev prog w W' A (compEnvK scope cl x C c env) h' elt (R i))
    (k : ∀ D ys n s', FS s₀ env W Mu (upd m yn (.ref D)) cm s' → FExt (Fz W s.heap) (Fz W s'.heap) → s'.heap.get? D = some (listOf (ys : List Value).toArray n) → All2 (Fz (D :: W) s'.heap) ys Rs → D ∉ W → s.heap.get? D = none → Q .next s')
    (hclos : closureFor scope env = pure cl) (hcells : ∀ n cl, cellsFrom n scope.names cl = (x, n) :: cl) (hpush : ∀ h, pushCells h scope.names = h.push { cls := .type "cell", data := .cell none })
    (hx : (relabel scope env).names.lookup x = some .cell) (hsw : swapsWith (.ListComp elt [⟨.Name x px, iter, [], 0⟩] scope pos) (some (.Name yn py)) spos.line env = pure true := by rfl)
    (hkind : scope.kind = .function := by rfl)
    (hnames : ∀ y ∈ scope.names, y.2 = .local → scope.names.lookup y.1 = some .local := by decide) (hy : env.kindOf yn = some .local := by rfl) (hp : (env.scope.kind == .class || (env.scope.kind == .module && env.locals != env.globals)) = false := by rfl)
    (hs : ∀ x, foldedSetIterable iter env x = pure x := by intro _; rfl) : wpAny (model prog w) A (exec (.Assign [.Name yn py] (.ListComp elt [⟨.Name x px, iter, [], 0⟩] scope pos) spos) env) Q E s := by
  rw [exec_Assign_Name_used _ _ _ _ hsw]
  refine wpAny_bind (wpAny_standAt (wpAny_bind ?_))
  show wpAny _ A (do let _ ← comprehension (.ListComp elt [⟨.Name x px, iter, [], 0⟩] scope pos) scope env _ (newList []) false (eval iter env) (some (assign (.Name yn py) env))) _ _ s
  refine wpAny_bind (wpAny_mono (wpAny_comprehension_free (use := some (assign (.Name yn py) env)) (Q := fun _ s' => Q .next s') rfl hs hclos hkind hnames
    (comp_coreC hsrc hz R hcells hpush hkind hx turn (Ext.refl _) F.win fun D C h1 s' m' y1 c hn hC hDn => ?_)) (fun _ s' hq => wpAny_pure (wpAny_pure hq)) fun _ _ e => e)
  obtain ⟨h3, tk3, rfl⟩ := c.same
  rw [hRs] at c
  have hLC : env.locals ≠ C := fun e => by
    obtain ⟨o, q⟩ := F.win _ F.wl
    have := y1 _ _ q; rw [e, hC] at this; cases this
  have hns3 : h3.Ns env.locals m := F.ns.keeps (y1.trans c.ext)
  show wpAny _ A (assign (.Name yn py) env (.ref D)) _ _ _
  refine wpAny_assign_Name (wpAny_storeName_local hy hns3 (fun h4 hn4 hs4 => ?_) hp)
  refine ⟨m', hn.sameBut hs4 (Ne.symm hLC), fun h'' hs'' => ?_⟩
  have kk : ∀ b o, b ≠ env.locals → s.heap.get? b = some o → h''.get? b = some o := fun b o hb e => by
    have e1 := y1 b o e
    exact (hs''.2 b (fun q => by rw [q, hC] at e1; cases e1)).trans ((hs4.2 b hb).trans (c.ext _ _ e1))
  obtain ⟨ys, n, gD, a⟩ := c.own
  have hDs : s.heap.get? D = none := by
    cases e : s.heap.get? D with
    | none => rfl
    | some o => have := y1 _ _ e; rw [hDn] at this; cases this
  have hDW : D ∉ W := fun hb => by obtain ⟨o, q⟩ := F.win _ hb; rw [hDs] at q; cases q
  have hDC : D ≠ C := c.dc
  have k34 : ∀ b o, b ≠ C → b ≠ env.locals → h3.get? b = some o → h''.get? b = some o := fun b o h1 h2 e => (hs''.2 b h1).trans ((hs4.2 b h2).trans e)
  refine k D ys n _ (F.setL (tk' := tk3 + 1) kk (hn4.sameBut hs'' hLC)) (F.fzL kk) (k34 _ _ hDC (fun e => hDW (e ▸ F.wl)) gD) (a.mono ((fext_but (h' := h'') fun b o hb e => k34 b o (fun q => hb (by simp [q])) (fun q => hb (by rw [q]; simp [F.wl])) e).trans (fext_sub fun b hb => by
    simp only [List.mem_cons] at hb ⊢; rcases hb with hb | hb <;> simp [hb]))) hDW hDs
end
end Mine
namespace Mine
/-! ## lists under watch; slices -/
theorem All2.set {G : Fm} : ∀ {vs : List Value} {Ps : List RP} {i : Nat} {v : Value} {P : RP}, All2 G vs Ps → P.rel G v → All2 G (vs.set i v) (Ps.set i P)
  | [], [], _, _, _, _, _ => trivial
  | _ :: _, _ :: _, 0, _, _, h, hv => ⟨hv, h.2⟩
  | _ :: _, _ :: _, i + 1, _, _, h, hv => ⟨h.1, h.2.set hv⟩
  | [], _ :: _, _, _, _, h, _ => absurd h (by simp [All2])
  | _ :: _, [], _, _, _, h, _ => absurd h (by simp [All2])
theorem All2.drop {G : Fm} : ∀ {vs : List Value} {Ps : List RP} {i : Nat}, All2 G vs Ps → All2 G (vs.drop i) (Ps.drop i)
  | [], [], 0, _ => trivial
  | [], [], _ + 1, _ => trivial
  | _ :: _, _ :: _, 0, h => h
  | _ :: _, _ :: _, i + 1, h => (h.2.drop : All2 G (List.drop i _) (List.drop i _))
  | [], _ :: _, _, h => absurd h (by simp [All2])
  | _ :: _, [], _, h => absurd h (by simp [All2])
section
variable {prog : Program} {w : World} {W : List Addr} {A : Around} {env : Env} {h : Heap}
theorem ev_itemW {value slice : Expr} {pos : Pos} {Ps : List RP} {P : RP} {k : Int} {D : Addr} {ys : List Value} {n : Nat} (g : h.get? D = some (listOf ys.toArray n)) (hall : All2 (Fz W h) ys Ps)
    (hv : Ev prog w W A env h value (IsV (.ref D))) (hi : Ev prog w W A env h slice (IsI k)) (h0 : 0 ≤ k) (hfit : k < 2 ^ 63) (hx : Ps[k.toNat]? = some P)
    (hs : ∀ a u, subscripted slice false (.ref a) (.int k u) = operate [.ref a, .int k u] (getItem (.ref a) (.int k u)) := by intro _ _; with_unfolding_all rfl) :
    Ev prog w W A env h (.Subscript value slice pos) P := by
  intro s Q E y hw c
  refine Subscript_ (hv s _ _ y hw fun v h1 tk1 y1 p1 => ?_)
  refine hi _ _ _ (y.trans y1) hw fun v2 h2 tk2 y2 p2 => ?_
  obtain rfl : v = .ref D := p1
  obtain ⟨u, rfl⟩ := p2
  obtain ⟨r, hr, pr⟩ := hall.get hx
  have hl : h2.IsList D ys.toArray := ⟨_, y2 _ _ (y1 _ _ (y _ _ g)), rfl, _, rfl⟩
  exact tail_any hl.typeIs slot_list_getitem.lookup (wpAny_getItem_list hl h0 hfit (by simpa using hr) (c _ _ _ (y1.trans y2) (P.mono (((y.trans y1).trans y2).fz W) pr))) (hs _ _)
/-- l[a:] -/
theorem ev_sliceFrom {value : Expr} {pos p1 p2 : Pos} {kk : Nat} {Ps : List RP} {a : Nat} (hv : Ev prog w W A env h value (IsL Ps)) (ha : a ≤ Ps.length) (hz : Ps.length ≤ sizeLine)
    (hs : ∀ l b, subscripted (.Slice (some (.Constant (.int (a : Nat)) kk p1)) none none p2) false (.ref l) (.ref b) = operate [.ref b, .ref l] (getItem (.ref l) (.ref b)) := by intro _ _; with_unfolding_all rfl) :
    Ev prog w W A env h (.Subscript value (.Slice (some (.Constant (.int (a : Nat)) kk p1)) none none p2) pos) (IsL (Ps.drop a)) := by
  intro s Q E y hw c
  refine Subscript_ (hv s _ _ y hw fun v h1 tk1 y1 p1' => ?_)
  obtain ⟨l, vs, n, rfl, g, hall⟩ := p1'
  refine wpAny_Slice ?_
  rw [evalPart_some, evalPart_none]
  refine wpAny_Constant_int (wpAny_pure (wpAny_pure ?_))
  have hl : ({ s with heap := h1, toks := tk1 + 1 } : Shared).heap.IsList l vs.toArray := ⟨_, Fz.get g, rfl, _, rfl⟩
  refine tail_any (Heap.IsList.typeIs (s := { s with heap := h1.push _, toks := tk1 + 1 }) (hl.push _)) slot_list_getitem.lookup
    (wpAny_getItem_list_slice (hl.push _) (Heap.IsSliceOf.new ..) (.int _ _) .none .none (by simp) ?_ (by rw [List.size_toArray, hall.length]; exact hz)) (hs _ _)
  have e : slicePick vs.toArray (some (a : Int)) none none = (vs.drop a).toArray := slicePick_from _ _ (by rw [List.size_toArray, hall.length]; exact ha)
  rw [e]
  have hw2 : WIn W h1 := hw.ext (y.trans y1)
  refine c _ _ _ ((y1.push _).push _) ⟨_, vs.drop a, _, rfl, Fz.new (hw2.ext ((Ext.refl _).push _)) _, ?_⟩
  exact (hall.drop).mono ((((Ext.refl h1).push _).push _).fz W)
end
section
variable {prog : Program} {w : World} {A : Around} {s₀ s : Shared} {env : Env} {W : List Addr} {Mu : List (Addr × Obj)} {m cm : Str → Option Value} {E : Value → Shared → Prop} {Q : Flow → Shared → Prop}
/-- l[k] = e, l under watch -/
theorem x_setAt {pre post : List (Addr × Obj)} {D : Addr} {ys : List Value} {n : Nat} {o i value : Expr} {p1 pos : Pos} {P : RP} {k : Int} (F : FS s₀ env W (pre ++ (D, listOf ys.toArray n) :: post) m cm s)
    (he : Ev prog w W A env s.heap value P) (ho : ∀ h', Ext s.heap h' → Ev prog w W A env h' o (IsV (.ref D))) (hi : ∀ h', Ext s.heap h' → Ev prog w W A env h' i (IsI k)) (h0 : 0 ≤ k) (hfit : k < 2 ^ 63) (hn : k.toNat < ys.length)
    (c : ∀ v s', FS s₀ env W (pre ++ (D, listOf (ys.set k.toNat v).toArray n) :: post) m cm s' → FExt (Fz W s.heap) (Fz W s'.heap) → P.rel (Fz W s'.heap) v → Q .next s')
    (hs : swapsWith value (some (.Subscript o i p1)) pos.line env = pure false := by rfl) : wpAny (model prog w) A (exec (.Assign [.Subscript o i p1] value pos) env) Q E s := by
  refine wpAny_Assign_Subscript (he s _ _ (Ext.refl _) F.win fun v h1 tk1 y1 p1 => ?_) hs
  refine ho h1 y1 _ _ _ (Ext.refl _) (F.win.ext y1) fun ov h2 tk2 y2 p2 => ?_
  obtain rfl : ov = .ref D := p2
  refine hi h2 (y1.trans y2) _ _ _ (Ext.refl _) (F.win.ext (y1.trans y2)) fun iv h3 tk3 y3 p3 => ?_
  obtain ⟨u, rfl⟩ := p3
  have y : Ext s.heap h3 := (y1.trans y2).trans y3
  have F3 := F.grow (tk' := tk3) y
  have g : h3.get? D = some (listOf ys.toArray n) := (F3.mu (D, listOf ys.toArray n) (by simp)).1
  refine PySem.W.ki_setAt g h0 hfit (by rw [List.size_toArray]; omega) ?_
  have kk : ∀ b o, b ≠ D → h3.get? b = some o → (h3.update D (Obj.mapSeq (·.setIfInBounds k.toNat v))).get? b = some o := fun b o hb e => ((Heap.SameBut.update h3 D _).2 b hb).trans e
  have hD : (h3.update D (Obj.mapSeq (·.setIfInBounds k.toNat v))).get? D = some (listOf (ys.set k.toNat v).toArray n) := by
    rw [Heap.get?_update_self _ g (by rfl)]
    simp [Obj.mapSeq, PySem.W.listOf]
  have hDm : (D, listOf ys.toArray n) ∈ (pre ++ (D, listOf ys.toArray n) :: post) := by simp
  have fx : FExt (Fz W h3) (Fz W (h3.update D (Obj.mapSeq (·.setIfInBounds k.toNat v)))) := F3.fzMu hDm kk
  exact c v _ (F3.setMuAt (tk' := tk3) kk hD) ((y.fz W).trans fx) (P.mono (((y2.trans y3).fz W).trans fx) p1)
/-- the fresh list of a name goes under watch -/
theorem FS.watch (F : FS s₀ env W Mu m cm s) {D : Addr} {o : Obj} (g : s.heap.get? D = some o) (hD : D ∉ W) (h0 : s₀.heap.get? D = none) : FS s₀ env (D :: W) ((D, o) :: Mu) m cm s :=
  F.more g h0 (fun e => hD (e ▸ F.wl)) (fun n c hm e => hD (e ▸ F.wc n c hm)) (fun p hp e => hD (e ▸ (F.mu p hp).2.1))
end
theorem FS.cellAt {s₀ s : Shared} {env : Env} {W : List Addr} {Mu : List (Addr × Obj)} {m cm : Str → Option Value} (F : FS s₀ env W Mu m cm s) {n : Str} {c : Addr} {v : Value} (hc : env.cells.lookup n = some c) (hv : cm n = some v) : s.heap.IsCell c (some v) := hv ▸ F.cell n c hc
end Mine
namespace Mine
section
variable {prog : Program} {w : World} {W : List Addr} {A : Around} {env : Env} {h : Heap}
theorem ev_pow {l r : Expr} {pos : Pos} {a n : Int} (hl : Ev prog w W A env h l (IsI a)) (hr : Ev prog w W A env h r (IsI n)) (hn : 0 ≤ n) (hn2 : n ≤ 1000000) (ha : a.natAbs < 2 ^ 64) :
    Ev prog w W A env h (.BinOp l .Pow r pos) (IsI (a ^ n.toNat)) :=
  ev_bin hl hr fun s Q E v1 v2 _ _ ⟨t1, e1⟩ ⟨t2, e2⟩ k => by subst e1 e2; exact pow_int_small hn hn2 ha (k _ _ _ (Ext.refl _) ⟨_, rfl⟩)
theorem ev_powN {l r : Expr} {pos : Pos} {a : Int} {n : Nat} (hl : Ev prog w W A env h l (IsI a)) (hr : Ev prog w W A env h r (IsI (n : Nat))) (hn2 : n ≤ 1000000) (ha : a.natAbs < 2 ^ 64) :
    Ev prog w W A env h (.BinOp l .Pow r pos) (IsI (a ^ n)) := by
  have := ev_pow (pos := pos) hl hr (by omega) (by omega) ha
  rwa [Int.toNat_natCast] at this
end
section
variable {prog : Program} {w : World} {A : Around} {s₀ s : Shared} {env : Env} {W : List Addr} {Mu : List (Addr × Obj)} {m cm : Str → Option Value} {E : Value → Shared → Prop} {Q : Flow → Shared → Prop}
theorem x_augAdd {x : Str} {px pos : Pos} {e : Expr} {a b : Int} {v0 : Value} (F : FS s₀ env W Mu m cm s) (hm : m x = some v0) (h0 : (IsI a).rel (Fz W s.heap) v0) (he : Ev prog w W A env s.heap e (IsI b))
    (k : ∀ v s', FS s₀ env W Mu (upd m x v) cm s' → FExt (Fz W s.heap) (Fz W s'.heap) → (IsI (a + b)).rel (Fz W s'.heap) v → Q .next s')
    (hl : env.kindOf x = some .local := by rfl) (hk : env.scope.kind = .function := by rfl) :
    wpAny (model prog w) A (exec (.AugAssign (.Name x px) .Add e pos) env) Q E s :=
  x_aug F hm h0 he (fun s Q E v1 v2 ⟨t1, e1⟩ ⟨t2, e2⟩ k => by subst e1 e2; exact iadd_int (k _ _ _ (Ext.refl _) ⟨_, rfl⟩)) k hl hk
theorem x_augFdiv {x : Str} {px pos : Pos} {e : Expr} {a b : Int} {v0 : Value} (F : FS s₀ env W Mu m cm s) (hm : m x = some v0) (h0 : (IsI a).rel (Fz W s.heap) v0) (he : Ev prog w W A env s.heap e (IsI b)) (hb : b ≠ 0) (hp : Builtin.divisionGoesByPylong a b = false)
    (k : ∀ v s', FS s₀ env W Mu (upd m x v) cm s' → FExt (Fz W s.heap) (Fz W s'.heap) → (IsI (a.fdiv b)).rel (Fz W s'.heap) v → Q .next s')
    (hl : env.kindOf x = some .local := by rfl) (hk : env.scope.kind = .function := by rfl) :
    wpAny (model prog w) A (exec (.AugAssign (.Name x px) .FloorDiv e pos) env) Q E s :=
  x_aug F hm h0 he (fun s Q E v1 v2 ⟨t1, e1⟩ ⟨t2, e2⟩ k => by subst e1 e2; exact ifloordiv_int hb (k _ _ _ (Ext.refl _) ⟨_, rfl⟩) (.inl hp)) k hl hk
theorem x_augXor {x : Str} {px pos : Pos} {e : Expr} {a b : Int} {v0 : Value} (F : FS s₀ env W Mu m cm s) (hm : m x = some v0) (h0 : (IsI a).rel (Fz W s.heap) v0) (he : Ev prog w W A env s.heap e (IsI b))
    (k : ∀ v s', FS s₀ env W Mu (upd m x v) cm s' → FExt (Fz W s.heap) (Fz W s'.heap) → (IsI (Builtin.bitXor a b)).rel (Fz W s'.heap) v → Q .next s')
    (hl : env.kindOf x = some .local := by rfl) (hk : env.scope.kind = .function := by rfl) :
    wpAny (model prog w) A (exec (.AugAssign (.Name x px) .BitXor e pos) env) Q E s :=
  x_aug F hm h0 he (fun s Q E v1 v2 ⟨t1, e1⟩ ⟨t2, e2⟩ k => by subst e1 e2; exact ixor_int (k _ _ _ (Ext.refl _) ⟨_, rfl⟩)) k hl hk
/-- x = [] -/
theorem x_nil {x : Str} {px p1 pos : Pos} (F : FS s₀ env W Mu m cm s)
    (k : ∀ D s', FS s₀ env W Mu (upd m x (.ref D)) cm s' → FExt (Fz W s.heap) (Fz W s'.heap) → s'.heap.get? D = some (PySem.W.listOf ([] : List Value).toArray 0) → D ∉ W → s.heap.get? D = none → Q .next s')
    (hs : swapsWith (.List [] p1) (some (.Name x px)) pos.line env = pure false := by rfl) (hl : env.kindOf x = some .local := by rfl) (hk : env.scope.kind = .function := by rfl) :
    wpAny (model prog w) A (exec (.Assign [.Name x px] (.List [] p1) pos) env) Q E s := by
  refine wpAny_Assign_Name (List_ (spliced_none (wpAny_newList ?_ (by simp)))) hs
  have y1 : Ext s.heap (s.heap.push { cls := .type "list", data := .seq ([] : List Value).toArray }) := (Ext.refl _).push _
  have F1 := F.grow (tk' := s.toks) y1
  have g : (s.heap.push { cls := .type "list", data := .seq ([] : List Value).toArray }).get? s.heap.objs.size = some (PySem.W.listOf ([] : List Value).toArray 0) := Heap.get?_push_size _ rfl
  have hD : s.heap.objs.size ∉ W := F.win.fresh
  refine wpAny_storeName_local hl F1.ns (fun h2 hn hs => ?_) (by rw [hk]; rfl)
  have kk : ∀ b o, b ≠ env.locals → (s.heap.push { cls := .type "list", data := .seq ([] : List Value).toArray }).get? b = some o → h2.get? b = some o := fun b o hb e => (hs.2 b hb).trans e
  refine k _ _ (F1.setL (tk' := s.toks + 1) kk hn) ((y1.fz W).trans (F.fzL kk)) (kk _ _ (fun e => hD (e ▸ F.wl)) g) hD ?_
  cases e : s.heap.get? s.heap.objs.size with
  | none => rfl
  | some o => exact absurd (Heap.lt_size e) (Nat.lt_irrefl _)
/-- x.append(e), x under watch -/
theorem x_append {pre post : List (Addr × Obj)} {x : Str} {D : Addr} {ys : List Value} {e : Expr} {p0 p1 p2 pos : Pos} {P : RP} {pl : Sem Bool} (F : FS s₀ env W (pre ++ (D, PySem.W.listOf ys.toArray ys.length) :: post) m cm s) (hm : m x = some (.ref D))
    (he : Ev prog w W A env s.heap e P) (hz : ys.length ≤ sizeLine)
    (c : ∀ v s', FS s₀ env W (pre ++ (D, PySem.W.listOf (ys ++ [v]).toArray (ys ++ [v]).length) :: post) m cm s' → FExt (Fz W s.heap) (Fz W s'.heap) → P.rel (Fz W s'.heap) v → Q .next s')
    (hl : env.kindOf x = some .local := by rfl) (hk : env.scope.kind = .function := by rfl) (hd : (x == ("__debug__" : Str)) = false := by decide)
    (hi : interactive env = false := by rfl) (hs : swapsWith (.Call (.Attribute (.Name x p0) "append" p1) [e] [] p2) none pos.line env = pure false := by rfl)
    (he1 : starEach [e] env = [(false, eval e env)] := by rfl)
    (he2 : eval (.Call (.Attribute (.Name x p0) "append" p1) [e] [] p2) env = (do
      let ov ← eval (.Name x p0) env
      standAt p1.atName
      let (f, first) ← holding [ov] (getMethod ov "append" pl)
      callWith p2 f first (backTo p2 (starEach [e] env)) []) := by rfl) :
    wpAny (model prog w) A (exec (.Expr (.Call (.Attribute (.Name x p0) "append" p1) [e] [] p2) pos) env) Q E s := by
  refine wpAny_Expr_any (MethodCall_ (pl := pl) (wpAny_Name (wpAny_loadName_local hk hl F.ns hm ?_) hd) he2) hi hs
  have g : s.heap.get? D = some (PySem.W.listOf ys.toArray ys.length) := (F.mu (D, PySem.W.listOf ys.toArray ys.length) (by simp)).1
  refine Calls.getMethod_list_append g rfl rfl (callWith_method1 ?_ he1)
  have he' : EvL prog w W A env s.heap p2 [e] [P] := evl_cons he evl_nil he1
  refine he' s _ _ (Ext.refl _) F.win fun vs h1 tk1 y1 p1 => ?_
  match vs, p1 with
  | [v], p1 =>
  have F1 := F.grow (tk' := tk1) y1
  refine append_at (its := ys.toArray) (n := ys.length) (y1 _ _ g) (fun h2 hs2 hD => ?_) (by rw [List.size_toArray]; exact hz)
  have kk : ∀ b o, b ≠ D → h1.get? b = some o → h2.get? b = some o := fun b o hb e => (hs2.2 b hb).trans e
  have hDm : (D, PySem.W.listOf ys.toArray ys.length) ∈ (pre ++ (D, PySem.W.listOf ys.toArray ys.length) :: post) := by simp
  have fx : FExt (Fz W h1) (Fz W h2) := F1.fzMu hDm kk
  refine c v _ (F1.setMuAt (tk' := tk1) kk (hD.trans ?_)) ((y1.fz W).trans fx) (P.mono fx p1.1)
  exact congrArg some (by simp [PySem.W.listOf])
end
theorem range_set {f g : Nat → RP} {n i : Nat} (hi : i < n) : ((List.range n).map fun t => if t < i then g t else f t).set i (g i) = (List.range n).map fun t => if t < i + 1 then g t else f t := by
  refine List.ext_getElem (by simp) fun k h1 h2 => ?_
  rw [List.getElem_set]
  simp only [List.getElem_map, List.getElem_range]
  by_cases e : i = k
  · subst e; rw [if_pos rfl, if_pos (by omega)]
  · rw [if_neg e]
    by_cases q : k < i
    · rw [if_pos q, if_pos (by omega)]
    · rw [if_neg q, if_neg (by omega)]
theorem range_keep {f g : Nat → RP} {n i : Nat} (e : g i = f i) : ((List.range n).map fun t => if t < i then g t else f t) = (List.range n).map fun t => if t < i + 1 then g t else f t := by
  refine List.map_congr_left fun t _ => ?_
  by_cases q : t < i
  · rw [if_pos q, if_pos (by omega)]
  · rw [if_neg q]
    by_cases q2 : t = i
    · subst q2; rw [if_pos (by omega), e]
    · rw [if_neg (by omega)]
theorem range_at {f : Nat → RP} {n i : Nat} (hi : i < n) : ((List.range n).map f)[((i : Nat) : Int).toNat]? = some (f i) := by
  simp [hi]
theorem noPy {a b : Int} (h : Builtin.Int.intBits b ≤ 200) : Builtin.divisionGoesByPylong a b = false := by
  refine PyProof.noPylong_of_log2 ?_
  have h2 := intBits_le_iff.mp h
  by_cases q : b.natAbs = 0
  · rw [q]; decide
  · have : b.natAbs.log2 < 200 := (Nat.log2_lt q).mpr h2
    omega
end Mine
namespace Mine
/-! ## bytes -/
def IsY (l : List UInt8) : RP := ⟨fun _ v => ∃ t, v = .bytes l.toArray t, fun _ h => h⟩
section
set_option maxRecDepth 100000
theorem slot_bytes_rstrip : Slot "bytes" "rstrip" "bytes.rstrip" :=
  .of (owner := "bytes") (n := "rstrip") (by rw [typeLookup_type, builtinLookup_eq_fast]; kernel_rfl) (by decide +kernel) (by decide +kernel) (by decide +kernel)
    (by first | exact .inl (by decide +kernel) | exact .inr (by decide +kernel)) (by rw [isSubtype_type]; kernel_rfl)
theorem type_bytes_rstrip : typeOf (.builtin "bytes.rstrip") = pure (.type "method_descriptor") := by show builtinType _ = _; rw [builtinType_eq_fast]; kernel_rfl
theorem entry_bytes_rstrip : entryFor table "bytes.rstrip" = some Builtin.«bytes.rstrip» := entryFor_of_tree (by kernel_rfl)
theorem args_bytes_rstrip (a b : Value) : argsOk "bytes.rstrip" ⟨[a, b], []⟩ := by
  unfold argsOk; rw [signature?_of (id := "bytes.rstrip") (n := ['p', 'i', 'r', 't', 's', 'r']) (o := ['s', 'e', 't', 'y', 'b']) (by kernel_rfl) FB.owner_bytes]; kernel_rfl
def rstripY (b c : List UInt8) : List UInt8 := (b.reverse.dropWhile c.contains).reverse
section
variable {prog : Program} {w : World} {W : List Addr} {A : Around} {env : Env} {h : Heap}
theorem callB_rstrip {b c : List UInt8} (hz : b.length ≤ sizeLine) : CallB prog w W A h (.builtin "bytes.rstrip") [IsY b, IsY c] (IsY (rstripY b c)) := by
  intro s Q E vs y hw p k
  obtain ⟨_, _, rfl, ⟨⟨t, rfl⟩, ⟨u, rfl⟩, _⟩⟩ := all2 p
  refine wpAny_call_entry slot_bytes_rstrip (typeIs_bytes s _ t) entry_bytes_rstrip ?_ (args_bytes_rstrip _ _)
  show wpAny _ _ (Builtin.Bytes.bytesLike _ (.bytes c.toArray u) >>= fun r => _) _ _ s
  have e : ∀ id, Builtin.Bytes.bytesLike id (.bytes c.toArray u) = pure c.toArray := fun id => by
    unfold Builtin.Bytes.bytesLike
    rw [KBy.buffer_eq]
    rfl
  rw [e]
  have hl : (rstripY b c).length ≤ b.length := by
    unfold rstripY
    rw [List.length_reverse]
    exact Nat.le_trans (List.dropWhile_suffix _).sublist.length_le (by rw [List.length_reverse]; exact Nat.le_refl _)
  have e2 : (b.toArray.toList.reverse.dropWhile c.toArray.contains).reverse = rstripY b c := by
    unfold rstripY
    have : (c.toArray.contains : UInt8 → Bool) = c.contains := by funext x; simp
    rw [this]
  show wpAny _ _ (if ((b.toArray.toList.reverse.dropWhile c.toArray.contains).reverse.length == b.toArray.size) = true then _ else _) _ _ s
  rw [e2]
  by_cases q : ((rstripY b c).length == b.toArray.size) = true
  · rw [if_pos q]
    have hs : rstripY b c = b := by
      have hsub : (rstripY b c).Sublist b := by
        unfold rstripY
        have := (List.dropWhile_suffix c.contains (l := b.reverse)).sublist.reverse
        rwa [List.reverse_reverse] at this
      exact hsub.eq_of_length (by simpa using q)
    refine wpAny_bind (wpAny_rule ?_)
    show wpAny _ _ (typeOf (.bytes b.toArray t) >>= fun r => _) _ _ s
    refine wpAny_bind (wpAny_typeOf (typeIs_bytes s _ t) ?_)
    refine wpAny_pure ⟨_, rfl, k _ _ _ (Ext.refl _) ⟨t, by rw [hs]⟩⟩
  · rw [if_neg q]
    show wpAny _ _ (Builtin.Bytes.Kind.new .bytes (b.toArray.toList.reverse.dropWhile c.toArray.contains).reverse.toArray >>= fun r => _) _ _ s
    rw [e2]
    exact wpAny_bind (wpAny_mkBytes (wpAny_pure ⟨_, rfl, k _ _ _ (Ext.refl _) ⟨_, rfl⟩⟩) (by rw [List.size_toArray]; omega))
end
end
section
variable {prog : Program} {w : World} {W : List Addr} {A : Around} {env : Env} {h : Heap}
/-- a method of a value whose type is known -/
theorem ev_meth {o : Expr} {name : Str} {apos pos : Pos} {e : Expr} {rest : List Expr} {P0 R : RP} {Ps : List RP} {T id : String} (ho : Ev prog w W A env h o P0) (ha : EvL prog w W A env h pos (e :: rest) Ps)
    (hT : ∀ (s : Shared) v, Ext h s.heap → P0.rel (Fz W s.heap) v → s.TypeIs v T) (hr : ∀ (s : Shared) v, Ext h s.heap → P0.rel (Fz W s.heap) v → ∀ a, v = .ref a → ∃ ob, s.heap.get? a = some ob ∧ ob.dict = none) (pa : PlainAttrs T) (slot : Slot T name id) (ty : typeOf (.builtin id) = pure (.type "method_descriptor"))
    (hc : CallB prog w W A h (.builtin id) (P0 :: Ps) R)
    (hbase : attributeBase o name env (eval o env) = eval o env := by rfl) (hs : starEach (e :: rest) env = (false, eval e env) :: starEach rest env := by rfl) (hp : (backTo pos (starEach rest env)).any (·.1) = false := by rfl)
    (hfew : ((backTo pos (starEach (e :: rest) env)).all (fun x => !x.1) && (backToKw pos (keywordEach [] env)).all (fun x => x.1.isSome)
      && decide ((e :: rest).length + ([] : List Keyword).length + (if ([] : List Keyword).isEmpty then 0 else 1) < 30)) = true := by rfl)
    (hline : (apos.endLine == pos.line) = true := by rfl) : Ev prog w W A env h (.Call (.Attribute o name apos) (e :: rest) [] pos) R := by
  intro s Q E y hw k
  refine PySem.wpAny_Call_method_lateS hbase hfew hline (ho s _ _ y hw fun v h1 tk1 y1 p1 => ⟨T, id, pa, slot, ty, hT { s with heap := h1, toks := tk1 } v (y.trans y1) p1, hr { s with heap := h1, toks := tk1 } v (y.trans y1) p1, callWith_method1 ?_ hs hp⟩)
  refine ha _ _ _ (y.trans y1) hw fun vs h2 tk2 y2 p2 => ?_
  exact hc _ _ _ _ ((y.trans y1).trans y2) hw ⟨P0.mono (y2.fz W) p1, p2⟩ fun v' h3 tk3 y3 p3 => k _ _ _ ((y1.trans y2).trans y3) p3
theorem ev_addN {l r : Expr} {pos : Pos} {a b : Nat} (hl : Ev prog w W A env h l (IsI (a : Nat))) (hr : Ev prog w W A env h r (IsI (b : Nat))) : Ev prog w W A env h (.BinOp l .Add r pos) (IsI ((a + b : Nat))) := by
  rw [Int.natCast_add]; exact ev_add hl hr
theorem tv_int {e : Expr} {a : Int} (x : Ev prog w W A env h e (IsI a)) (he : isTrue e env (eval e env) = (do let v ← eval e env; standAt e.pos; holding [v] (truthy v)) := by rfl) : Tv prog w W A env h e (a != 0) := by
  intro s Q E y hw k
  refine isTrue_plain (x s _ _ y hw fun v h1 tk1 y1 p1 => ?_) he
  obtain ⟨t, rfl⟩ := p1
  exact PyProof.Rows.truthy_int (k _ _ y1)
theorem ev_rstrip {o e : Expr} {apos pos : Pos} {b c : List UInt8} (ho : Ev prog w W A env h o (IsY b)) (he : Ev prog w W A env h e (IsY c)) (hz : b.length ≤ sizeLine)
    (hbase : attributeBase o "rstrip" env (eval o env) = eval o env := by rfl) (hs : starEach [e] env = [(false, eval e env)] := by rfl) (hline : (apos.endLine == pos.line) = true := by rfl) :
    Ev prog w W A env h (.Call (.Attribute o "rstrip" apos) [e] [] pos) (IsY (rstripY b c)) :=
  ev_meth ho (evl_cons he evl_nil hs) (fun s v _ ⟨t, e⟩ => by subst e; exact typeIs_bytes s _ t) (fun _ v _ ⟨t, e⟩ a e2 => by rw [e] at e2; cases e2) FB.plainAttrs_bytes slot_bytes_rstrip type_bytes_rstrip (callB_rstrip hz) hbase hs rfl (by rw [hs]; rfl) hline
theorem ev_bytes {x : List UInt8} {k : Nat} {pos : Pos} : Ev prog w W A env h (.Constant (.bytes x) k pos) (IsY x) := fun s Q E _ _ c => Constant_bytes (c _ s.heap _ (Ext.refl _) ⟨_, rfl⟩)
theorem ev_addY {l r : Expr} {pos : Pos} {a b : List UInt8} (hl : Ev prog w W A env h l (IsY a)) (hr : Ev prog w W A env h r (IsY b)) (hz : a.length + b.length ≤ 16777216) : Ev prog w W A env h (.BinOp l .Add r pos) (IsY (a ++ b)) :=
  ev_bin hl hr fun s Q E v1 v2 _ _ ⟨t1, e1⟩ ⟨t2, e2⟩ k => by subst e1 e2; exact bytes_add_K (by simpa using hz) rfl fun t' kk => k _ _ _ (Ext.refl _) ⟨_, rfl⟩
theorem cmp_neY {a b : List UInt8} : Cmp prog w W A h .NotEq (IsY a) (IsY b) (a != b) := fun s Q E v1 v2 _ _ ⟨t1, e1⟩ ⟨t2, e2⟩ k => by subst e1 e2; exact ne_bytes (k _ s.toks (Ext.refl _))
theorem callB_lenY {a : List UInt8} (hz : a.length ≤ 1099511627776) : CallB prog w W A h (.builtin "len") [IsY a] (IsI (a.length : Nat)) := by
  intro s Q E vs y hw p k
  obtain ⟨_, rfl, ⟨⟨t, rfl⟩, _⟩⟩ := all1 p
  exact len_bytes (by simpa using hz) (k _ _ _ (Ext.refl _) ⟨_, rfl⟩)
theorem callB_abs {a : Int} : CallB prog w W A h (.builtin "abs") [IsI a] (IsI (if a < 0 then -a else a)) := by
  intro s Q E vs y hw p k
  obtain ⟨_, rfl, ⟨⟨t, rfl⟩, _⟩⟩ := all1 p
  exact call_abs_int fun u tk => k _ _ _ (Ext.refl _) ⟨_, rfl⟩
theorem callB_int {a : Int} : CallB prog w W A h (.type "int") [IsI a] (IsI a) := by
  intro s Q E vs y hw p k
  obtain ⟨_, rfl, ⟨⟨t, rfl⟩, _⟩⟩ := all1 p
  exact call_int_int (k _ _ _ (Ext.refl _) ⟨_, rfl⟩)
theorem callB_divmod {a b : Int} (hb : b ≠ 0) (hp : Builtin.divisionGoesByPylong a b = false) : CallB prog w W A h (.builtin "divmod") [IsI a, IsI b] (IsT [IsI (a.fdiv b), IsI (a.fmod b)]) := by
  intro s Q E vs y hw p k
  obtain ⟨_, _, rfl, ⟨⟨t, rfl⟩, ⟨u, rfl⟩, _⟩⟩ := all2 p
  refine divmod_int hb (k _ _ _ ((Ext.refl _).push _) ⟨_, [.int (a.fdiv b) s.toks, .int (a.fmod b) (s.toks + 1)], _, rfl, Fz.new (hw.ext y) _, ⟨_, rfl⟩, ⟨_, rfl⟩, trivial⟩) (.inl hp)
/-- b[i:j] -/
theorem ev_sliceY {value el eh : Expr} {pos p2 : Pos} {l : List UInt8} {i j : Nat} (hv : Ev prog w W A env h value (IsY l)) (hi : Ev prog w W A env h el (IsI (i : Nat))) (hj : Ev prog w W A env h eh (IsI (j : Nat))) (h1 : i ≤ j) (h2 : j ≤ l.length) (hz : l.length ≤ 16777216)
    (hs : ∀ b t a, subscripted (.Slice (some el) (some eh) none p2) false (.bytes b t) (.ref a) = operate [.ref a, .bytes b t] (getItem (.bytes b t) (.ref a)) := by intro _ _ _; with_unfolding_all rfl)
    (ht : ∀ b t r, letTemporaryGo value (.bytes b t) r = pure () := by intro _ _ _; with_unfolding_all rfl) :
    Ev prog w W A env h (.Subscript value (.Slice (some el) (some eh) none p2) pos) (IsY ((l.drop i).take (j - i))) := by
  intro s Q E y hw c
  refine Subscript_ (hv s _ _ y hw fun v h1' tk1 y1 p1' => ?_)
  obtain ⟨t, rfl⟩ := p1'
  refine wpAny_Slice ?_
  rw [evalPart_some, evalPart_some, evalPart_none]
  refine hi _ _ _ (y.trans y1) hw fun v2 h2' tk2 y2 p2 => ?_
  obtain ⟨t2, rfl⟩ := p2
  refine hj _ _ _ ((y.trans y1).trans y2) hw fun v3 h3' tk3 y3 p3 => ?_
  obtain ⟨t3, rfl⟩ := p3
  refine wpAny_pure ?_
  have e : KBy.picked l.toArray (some (i : Nat)) (some (j : Nat)) = ((l.drop i).take (j - i)).toArray := by
    rw [KBc.picked_eq]
    simp only [Option.elim, clipAt_nat, List.size_toArray]
    rw [Nat.min_eq_left (Nat.le_trans h1 h2), Nat.min_eq_left h2]
  have hsz : (KBy.picked l.toArray (some (i : Nat)) (some (j : Nat))).size ≤ sizeLine := Nat.le_trans (KBc.size_picked_le _ _ _) (by rw [List.size_toArray, sizeLine_eq]; exact hz)
  refine tail_of_ItemOn ⟨"bytes", _, FB.slot_bytes_getitem.lookup, typeIs_bytes _ _ _, getItem_meets (typeIs_bytes _ _ _) (by decide) FB.slot_bytes_getitem FB.entry_bytes_getitem (FB.args_bytes_getitem_2 _ _) (KBc.meets_slice2 l.toArray t _ (.int _ _) (.int _ _))
    ⟨Heap.IsSliceOf.new _ _ _ _, hsz, fun t' k => ?_⟩⟩ (hs _ _ _) (ht _ _)
  rw [e]
  exact c _ _ _ (((y1.trans y2).trans y3).push _) ⟨_, rfl⟩
/-- b[-1] -/
theorem ev_lastY {value slice : Expr} {pos : Pos} {l : List UInt8} {i : Int} (hv : Ev prog w W A env h value (IsY l)) (hi : Ev prog w W A env h slice (IsI i)) (hi1 : i = -1) (hl : l ≠ []) (hz : l.length ≤ 1099511627776)
    (hs : ∀ b t i u, subscripted slice false (.bytes b t) (.int i u) = operate [.bytes b t, .int i u] (getItem (.bytes b t) (.int i u)) := by intro _ _ _ _; with_unfolding_all rfl)
    (ht : ∀ b t r, letTemporaryGo value (.bytes b t) r = pure () := by intro _ _ _; with_unfolding_all rfl) :
    Ev prog w W A env h (.Subscript value slice pos) (IsI ((l.getD (l.length - 1) 0).toNat : Nat)) := by
  intro s Q E y hw c
  subst hi1
  refine Subscript_ (hv s _ _ y hw fun v h1' tk1 y1 p1' => ?_)
  obtain ⟨t, rfl⟩ := p1'
  refine hi _ _ _ (y.trans y1) hw fun v2 h2' tk2 y2 p2 => ?_
  obtain ⟨t2, rfl⟩ := p2
  have hp := List.length_pos_iff.mpr hl
  refine KBc.itemR_K (b := l.toArray) (ks := l.map fun c => (c.toNat : Int)) rfl (by rw [List.length_map]; exact hz) (by rw [List.length_map]; omega) (by omega) (fun t' k a b => ?_) (hs _ _ _ _) (ht _ _)
  have e : ((-1 : Int) + ((l.map fun c => (c.toNat : Int)).length : Nat)).toNat = l.length - 1 := by rw [List.length_map]; omega
  rw [e, ← KBw.getD_ints]
  exact c _ _ _ (y1.trans y2) ⟨_, rfl⟩
end
end Mine
namespace Mine
/-! ## words -/
def IsS (x : Str) : RP := ⟨fun _ v => ∃ t, v = .str x t, fun _ h => h⟩
theorem All2.strs {G : Fm} : ∀ {vs : List Value} {ns : List Str}, All2 G vs (ns.map IsS) → StrsAre vs ns
  | [], [], _ => .nil
  | v :: vs, n :: ns, h => by
    obtain ⟨⟨t, e⟩, h2⟩ := h
    subst e
    exact .cons n t (All2.strs h2)
  | [], _ :: _, h => absurd h (by simp [All2])
  | _ :: _, [], h => absurd h (by simp [All2])
theorem All2.ofStrs {G : Fm} : ∀ (l : List (Str × Tok)), All2 G (strValues l) ((l.map (·.1)).map IsS)
  | [] => trivial
  | p :: r => ⟨⟨p.2, rfl⟩, All2.ofStrs r⟩
section
variable {prog : Program} {w : World} {W : List Addr} {A : Around} {env : Env} {h : Heap}
theorem ev_str {x : Str} {k : Nat} {pos : Pos} : Ev prog w W A env h (.Constant (.str x) k pos) (IsS x) := fun s Q E _ _ c => Calls.Constant_str (c _ s.heap _ (Ext.refl _) ⟨_, rfl⟩)
theorem ev_shl {l r : Expr} {pos : Pos} {a : Int} {n : Nat} (hl : Ev prog w W A env h l (IsI a)) (hr : Ev prog w W A env h r (IsI (n : Nat))) (hn2 : n ≤ 1000000) (ha : a.natAbs < 2 ^ 64) :
    Ev prog w W A env h (.BinOp l .LShift r pos) (IsI (a * 2 ^ n)) :=
  ev_bin hl hr fun s Q E v1 v2 _ _ ⟨t1, e1⟩ ⟨t2, e2⟩ k => by subst e1 e2; exact lshift_int_small (by omega) (by omega) ha (k _ _ _ (Ext.refl _) ⟨_, by rw [Int.toNat_natCast]⟩)
theorem ev_and {l r : Expr} {pos : Pos} {a b : Int} (hl : Ev prog w W A env h l (IsI a)) (hr : Ev prog w W A env h r (IsI b)) : Ev prog w W A env h (.BinOp l .BitAnd r pos) (IsI (Builtin.bitAnd a b)) :=
  ev_bin hl hr fun s Q E v1 v2 _ _ ⟨t1, e1⟩ ⟨t2, e2⟩ k => by subst e1 e2; exact and_int (k _ _ _ (Ext.refl _) ⟨_, rfl⟩)
theorem cmp_eqS {a b : Str} : Cmp prog w W A h .Eq (IsS a) (IsS b) (a == b) := fun s Q E v1 v2 _ _ ⟨t1, e1⟩ ⟨t2, e2⟩ k => by subst e1 e2; exact PyProof.Rows.eq_str (k _ s.toks (Ext.refl _))
theorem callB_hex {a : Int} (hsz : (baseText "0x" 16 a).length ≤ sizeLine) : CallB prog w W A h (.builtin "hex") [IsI a] (IsS (baseText "0x" 16 a)) := by
  intro s Q E vs y hw p k
  obtain ⟨_, rfl, ⟨⟨t, rfl⟩, _⟩⟩ := all1 p
  exact P.hex_of_int (k _ _ _ (Ext.refl _) ⟨_, rfl⟩) hsz
theorem callB_join {x : Str} {ys : List Str} (hok : (ys.map (·.length)).sum + ys.length * x.length ≤ 16777216) : CallB prog w W A h (.builtin "str.join") [IsS x, IsL (ys.map IsS)] (IsS (Txt.join x ys)) := by
  intro s Q E vs y hw p k
  obtain ⟨_, _, rfl, ⟨⟨t, rfl⟩, ⟨D, vs, n, rfl, g, a⟩, _⟩⟩ := all2 p
  exact join_list (items := vs.toArray) ⟨_, Fz.get g, rfl, _, rfl⟩ a.strs hok fun t' kk => k _ _ _ (Ext.refl _) ⟨_, rfl⟩
theorem callB_split {x y : Str} (hy : (y.length == 0) = false) (hsz : x.length + 2 ≤ sizeLine) : CallB prog w W A h (.builtin "str.split") [IsS x, IsS y] (IsL ((Txt.split x y).map IsS)) := by
  intro s Q E vs yy hw p k
  obtain ⟨_, _, rfl, ⟨⟨t, rfl⟩, ⟨u, rfl⟩, _⟩⟩ := all2 p
  have fin : ∀ (l : List (Str × Tok)) (tk : Nat), l.map (·.1) = Txt.split x y → Q (.ref s.heap.objs.size) { s with heap := s.heap.push { cls := .type "list", data := .seq (strValues l).toArray }, toks := tk } := fun l tk e =>
    k _ _ _ ((Ext.refl _).push _) ⟨_, strValues l, _, rfl, Fz.new (hw.ext yy) _, e ▸ All2.ofStrs l⟩
  have hn : (Builtin.Str.partsBetween x (Builtin.Str.occurrences x y 0 x.length (x.length + 1)) y.length).length ≤ sizeLine := by
    have e1 := StrLaws.occ_length_le x y 0 x.length (x.length + 1)
    rw [length_partsBetween]; omega
  cases h1 : (decide (x.length < y.length) || decide (Builtin.Str.strKind x < Builtin.Str.strKind y))
  · cases hf : (Builtin.Str.occurrences x y 0 x.length (x.length + 1)).isEmpty
    · refine call_meets F.slot_str_split (typeIs_str _ _ _) F.entry_str_split (F.args_str_split_2 _ _) (meets_str_split_sep x y t u h1 hy hf (by omega) hn) ?_
      show wants Q E _ { s with toks := _, heap := s.heap.push { cls := .type "list", data := .seq (strsFrom s.toks (Builtin.Str.partsBetween x (Builtin.Str.occurrences x y 0 x.length (x.length + 1)) y.length)).toArray } }
      rw [strsFrom_eq]
      exact fin (numbered s.toks _) _ ((numbered_texts _ _).trans ((if_neg (ne_true_of_eq_false h1)).trans (if_neg (ne_true_of_eq_false hf))).symm)
    · exact call_meets F.slot_str_split (typeIs_str _ _ _) F.entry_str_split (F.args_str_split_2 _ _) (meets_str_split_not_found x y t u h1 hy hf)
        (fin [(x, t)] s.toks ((if_neg (ne_true_of_eq_false h1)).trans (if_pos hf)).symm)
  · exact call_meets F.slot_str_split (typeIs_str _ _ _) F.entry_str_split (F.args_str_split_2 _ _) (meets_str_split_cannot_occur x y t u h1)
      (fin [(x, t)] s.toks (if_pos h1).symm)
theorem ev_join {o e : Expr} {apos pos : Pos} {x : Str} {ys : List Str} (ho : Ev prog w W A env h o (IsS x)) (he : Ev prog w W A env h e (IsL (ys.map IsS))) (hok : (ys.map (·.length)).sum + ys.length * x.length ≤ 16777216)
    (hbase : attributeBase o "join" env (eval o env) = eval o env := by rfl) (hs : starEach [e] env = [(false, eval e env)] := by rfl) (hline : (apos.endLine == pos.line) = true := by rfl) :
    Ev prog w W A env h (.Call (.Attribute o "join" apos) [e] [] pos) (IsS (Txt.join x ys)) :=
  ev_meth ho (evl_cons he evl_nil hs) (fun s v _ ⟨t, e⟩ => by subst e; exact typeIs_str s _ t) (fun _ v _ ⟨t, e⟩ a e2 => by rw [e] at e2; cases e2) F.plainAttrs_str F.slot_str_join F.type_str_join (callB_join hok) hbase hs rfl (by rw [hs]; rfl) hline
theorem ev_split {o e : Expr} {apos pos : Pos} {x y : Str} (ho : Ev prog w W A env h o (IsS x)) (he : Ev prog w W A env h e (IsS y)) (hy : (y.length == 0) = false) (hsz : x.length + 2 ≤ sizeLine)
    (hbase : attributeBase o "split" env (eval o env) = eval o env := by rfl) (hs : starEach [e] env = [(false, eval e env)] := by rfl) (hline : (apos.endLine == pos.line) = true := by rfl) :
    Ev prog w W A env h (.Call (.Attribute o "split" apos) [e] [] pos) (IsL ((Txt.split x y).map IsS)) :=
  ev_meth ho (evl_cons he evl_nil hs) (fun s v _ ⟨t, e⟩ => by subst e; exact typeIs_str s _ t) (fun _ v _ ⟨t, e⟩ a e2 => by rw [e] at e2; cases e2) F.plainAttrs_str F.slot_str_split F.type_str_split (callB_split hy hsz) hbase hs rfl (by rw [hs]; rfl) hline
/-- d.get(k, e), d a dict of ints -/
theorem ev_dictGet {o e1 e2 : Expr} {apos pos : Pos} {d : Addr} {f : Int → Option Value} {k : Int} {P R : RP} (hd : (d == sysModules) = false) (hm : h.MapOf (intKind prog w) d f) (ho : Ev prog w W A env h o (IsV (.ref d))) (h1 : Ev prog w W A env h e1 (IsI k)) (h2 : Ev prog w W A env h e2 P)
    (hR : ∀ G v, P.rel G v → R.rel G ((f k).getD v))
    (hbase : attributeBase o "get" env (eval o env) = eval o env := by rfl) (hs : starEach [e1, e2] env = [(false, eval e1 env), (false, eval e2 env)] := by rfl) (hs2 : starEach [e2] env = [(false, eval e2 env)] := by rfl) (hline : (apos.endLine == pos.line) = true := by rfl) :
    Ev prog w W A env h (.Call (.Attribute o "get" apos) [e1, e2] [] pos) R := by
  have km : ∀ {h' : Heap}, Ext h h' → h'.MapOf (intKind prog w) d f := fun y => let ⟨o, es, ep, ho, r⟩ := hm; ⟨o, es, ep, y _ _ ho, r⟩
  refine ev_meth ho (evl_cons h1 (evl_cons h2 evl_nil hs2) (by rw [hs, hs2])) (fun s v y e => by obtain rfl : v = .ref d := e; exact (km y).typeIs) (fun s v y e => by obtain rfl : v = .ref d := e; exact (km y).noDict) F.plainAttrs_dict F.slot_dict_get F.type_dict_get ?_ hbase (by rw [hs, hs2]) (by rw [hs2]; rfl) (by rw [hs]; rfl) hline
  intro s Q E vs y hw p c
  obtain ⟨_, _, _, rfl, ⟨e, ⟨t, rfl⟩, r, _⟩⟩ := all3 p
  obtain rfl := e
  exact call_meetsIn F.slot_dict_get (km y).typeIs F.entry_dict_get (F.args_dict_get_3 _ _ _) (meets_dict_get_default (intKind prog w) d (k := k) (by simp [intKind, Value.isInt]) hd _) ⟨f, km y, c _ _ _ (Ext.refl _) (hR _ _ r)⟩
end
/-! ## the first piece -/
theorem subAt_head {x y : Str} {i c : Nat} {t : List Nat} (hy : y.cps.toList = c :: t) (h : Builtin.Str.subAt x y i = true) : x.cps.toList[i]? = some c := by
  unfold Builtin.Str.subAt at h
  have e := congrArg Array.toList (eq_of_beq h)
  rw [hy, Array.toList_extract] at e
  have e0 : ((x.cps.toList.drop i).take (i + y.length - i))[0]? = some c := by
    rw [← List.extract_eq_take_drop]
    rw [e]; rfl
  rw [List.getElem?_take] at e0
  split at e0
  · rw [List.getElem?_drop] at e0; simpa using e0
  · cases e0
theorem split_first {x y a r : Str} (hx : x = a ∨ x = a ++ y ++ r) {c : Nat} {t : List Nat} (hy : y.cps.toList = c :: t) (hc : c ∉ a.cps.toList) (hk : Builtin.Str.strKind y = 1) : (Txt.split x y)[0]? = some a := by
  have hk2 : ¬ Builtin.Str.strKind x < Builtin.Str.strKind y := by
    rw [hk]; unfold Builtin.Str.strKind; split
    · omega
    · split <;> omega
  have ylen : y.length = (c :: t).length := by rw [← hy]; simp [Str.length]
  unfold Txt.split
  rcases hx with rfl | rfl
  · have hno : ∀ i, ¬ StrLaws.At x y x.length i := fun i hi => hc (List.mem_of_getElem? (subAt_head hy hi.2))
    rcases StrLaws.occ_head x y (x.length + 1) (by omega) with ⟨h0, _⟩ | ⟨i, r, _, h1, _⟩
    · rw [h0]
      split
      · rfl
      · rfl
    · exact absurd h1 (hno i)
  · have hl : (a ++ y ++ r).length = a.length + y.length + r.length := by rw [Str.length_append, Str.length_append]
    have hcps : (a ++ y ++ r).cps = a.cps ++ y.cps ++ r.cps := rfl
    have hAt : StrLaws.At (a ++ y ++ r) y (a ++ y ++ r).length a.length := by
      refine ⟨by omega, ?_⟩
      unfold Builtin.Str.subAt
      rw [hcps]
      refine beq_iff_eq.mpr (Array.toList_inj.mp ?_)
      rw [Array.toList_extract, List.extract_eq_take_drop]
      have e1 : a.length = a.cps.toList.length := by simp [Str.length]
      have e2 : y.length = y.cps.toList.length := by simp [Str.length]
      rw [Array.toList_append, Array.toList_append, List.append_assoc, e1, List.drop_left, Nat.add_sub_cancel_left, e2, List.take_left]
    rw [if_neg (by simp only [Bool.or_eq_true, decide_eq_true_eq, not_or]; exact ⟨by omega, hk2⟩)]
    rcases StrLaws.occ_head (a ++ y ++ r) y ((a ++ y ++ r).length + 1) (by omega) with ⟨_, hn⟩ | ⟨i, q, h0, h1, h2⟩
    · exact absurd hAt (hn _)
    · have hi : i = a.length := by
        rcases Nat.lt_trichotomy i a.length with g | g | g
        · have := subAt_head hy h1.2
          rw [hcps, Array.toList_append, Array.toList_append, List.append_assoc, List.getElem?_append_left (by simpa [Str.length] using g)] at this
          exact absurd (List.mem_of_getElem? this) hc
        · exact g
        · exact absurd hAt (h2 _ g)
      rw [h0, if_neg (by simp)]
      subst hi
      show some (Builtin.Str.strSub (a ++ y ++ r) 0 a.length) = some a
      congr 1
      apply Str.ext'
      apply Array.toList_inj.mp
      show (((a ++ y ++ r).cps).extract 0 a.length).toList = a.cps.toList
      have e1 : a.length = a.cps.toList.length := by simp [Str.length]
      rw [hcps, Array.toList_extract, List.extract_eq_take_drop, List.drop_zero, Nat.sub_zero, Array.toList_append, Array.toList_append, List.append_assoc, e1, List.take_left]
end Mine
namespace Mine
/-! ## a list of fresh things -/
def EvF (prog : Program) (w : World) (W : List Addr) (A : Around) (env : Env) (h : Heap) (e : Expr) (R : RP) : Prop :=
  ∀ (s : Shared) (Q : Value → Shared → Prop) (E : Value → Shared → Prop), Ext h s.heap → WIn W h →
    (∀ a h' tk', Ext s.heap h' → R.rel (Fz W h') (.ref a) → s.heap.get? a = none → (∃ o, h'.get? a = some o) → Q (.ref a) { s with heap := h', toks := tk' }) → wpAny (model prog w) A (eval e env) Q E s
def FrA (h0 : Heap) (D : Addr) (As : List Addr) (h : Heap) : Prop :=
  h.get? D = some (PySem.W.listOf (As.map Value.ref).toArray As.length) ∧ As.Nodup ∧ ∀ a ∈ As, h0.get? a = none ∧ a ≠ D ∧ ∃ o, h.get? a = some o
theorem FrA.keep {h0 h h' : Heap} {D : Addr} {As : List Addr} (x : FrA h0 D As h) (k : ∀ b o, (b = D ∨ b ∈ As) → h.get? b = some o → h'.get? b = some o) : FrA h0 D As h' :=
  ⟨k _ _ (.inl rfl) x.1, x.2.1, fun a ha => let ⟨p, q, o, e⟩ := x.2.2 a ha; ⟨p, q, o, k _ _ (.inr ha) e⟩⟩
section
variable {prog : Program} {w : World} {W : List Addr} {A : Around} {env : Env} {h : Heap}
theorem mul_raw {s : Shared} {E : Value → Shared → Prop} {l : Addr} {vs : List Value} {k : Nat} {x : Int} {u : Tok} {Q : Value → Shared → Prop} (ho : s.heap.get? l = some (PySem.W.listOf vs.toArray k)) (hlo : -(2 ^ 63 : Int) ≤ x) (hhi : x < 2 ^ 63) (hsz : vs.length * x.toNat ≤ 2 ^ 24)
    (h : Q (.ref s.heap.objs.size) { s with heap := s.heap.push { cls := .type "list", data := .seq (List.replicate x.toNat vs).flatten.toArray } }) : wpAny (model prog w) A (binaryOp .Mult (.ref l) (.int x u)) Q E s := by
  have hsz' : vs.toArray.size * x.toNat ≤ 2 ^ 24 := by simpa using hsz
  refine wpAny_binaryOp_repeat_ref (T := "list") (U := "int") (by decide) ⟨_, ho, rfl⟩ (fun s' => typeIs_int s' x u) noFill_list_mul F.fills_int_mul F.slot_int_rmul repeat_list F.slot_int_index.lookup
    (call_meets F.slot_int_rmul (typeIs_int s x u) F.entry_int_rmul (F.args_int_rmul_2 _ _) (lm_int_rmul_list_any x u l vs.toArray k none #[])
      ⟨ho, rfl, ⟨_, ho, rfl⟩, call_meets F.slot_list_mul ⟨_, ho, rfl⟩ F.entry_list_mul (F.args_list_mul_2 _ _)
        (lm_list_mul_any l vs.toArray k none #[] x u (by simp [Builtin.List.listFitsIndex]; omega) (by omega) (by simp [Builtin.List.listTooLong, sizeLine]; omega))
        ⟨ho, ?_⟩⟩)
  rw [listMul_foldl_if]
  exact h
theorem evF_mul {l r : Expr} {pos : Pos} {P : RP} {n : Nat} (hl : Ev prog w W A env h l (IsL [P])) (hr : Ev prog w W A env h r (IsI (n : Nat))) (hn : n ≤ 1000) : EvF prog w W A env h (.BinOp l .Mult r pos) (IsL (List.replicate n P)) := by
  intro s Q E y hw k
  refine wpAny_BinOp (hl s _ _ y hw fun v h1 tk1 y1 p1 => ?_)
  refine hr _ _ _ (y.trans y1) hw fun v2 h2 tk2 y2 p2 => ?_
  obtain ⟨a, vs, nn, rfl, g, hall⟩ := p1
  obtain ⟨u, rfl⟩ := p2
  obtain ⟨v, rfl, hall⟩ := all1 hall
  have ho : h2.get? a = some (PySem.W.listOf [v].toArray nn) := y2 _ _ (Fz.get g)
  refine mul_raw ho (by omega) (by omega) (by rw [Int.toNat_natCast]; simp; omega) ?_
  have e : (List.replicate ((n : Int).toNat) [v]).flatten = List.replicate n v := by
    rw [Int.toNat_natCast]
    show (List.replicate n [v]).flatten = _
    rw [List.flatten_replicate_singleton]
  rw [e]
  have hw2 : WIn W h2 := hw.ext ((y.trans y1).trans y2)
  have hrep : ∀ m, All2 (Fz W (h2.push { cls := .type "list", data := .seq (List.replicate n v).toArray })) (List.replicate m v) (List.replicate m P) := fun m => by
    induction m with
    | zero => trivial
    | succ m ih => exact ⟨P.mono ((y2.fz W).trans (((Ext.refl h2).push _).fz W)) hall.1, ih⟩
  refine k _ _ _ ((y1.trans y2).push _) ⟨_, List.replicate n v, _, rfl, Fz.new hw2 _, hrep n⟩ ?_ ⟨_, Heap.get?_push_size _ rfl⟩
  cases q : s.heap.get? h2.objs.size with
  | none => rfl
  | some o => exact absurd (Heap.lt_size (y2 _ _ (y1 _ _ q))) (Nat.lt_irrefl _)

theorem loop1f {elt iter : Expr} {x : Str} {px : Pos} {scope : Scope} {pos : Pos} {cenv : Env} {s s₂ : Shared} {h0 : Heap} {C D I : Addr} {fp : List Addr} {n : Nat} {P : Nat → Value → Prop} {St : Nat → Heap → Prop} {RR : Result → Shared → Prop} {m : Str → Option Value}
    (hC : cenv.locals = C) (hk : cenv.scope.kind = .function) (hx : cenv.kindOf x = some .local) (hw : WIn W h0)
    (Wk : Walks prog w A I fp [I] n P St) (hz : n ≤ sizeLine) (hfp : ∀ b ∈ fp, b = I ∨ ∃ o, h0.get? b = some o) (hlive : ∀ i h, St i h → ∃ o, h.get? I = some o) (R : RP)
    (turn : ∀ s Rs, CS s₂ h0 W C D [I] Rs s → EvF prog w (D :: C :: ([I] ++ W)) A cenv s.heap elt R)
    (X0 : CS s₂ h0 W C D [I] [] s) (h0St : St 0 s.heap) (hn : s.heap.Ns C m)
    (fin : ∀ s' m' As, CE s₂ h0 W C D (List.replicate n R) s' → s'.heap.Ns C m' → FrA h0 D As s'.heap → As.length = n → RR (.ok .next) s') :
    codeAny (model prog w) A (.compLoop (.ListComp elt [⟨.Name x px, iter, [], 0⟩] scope pos) 0 (.ref I) (.ref D) cenv) RR s := by
  have hID : I ≠ D := fun e => X0.nd (e ▸ by simp)
  have hIC : I ≠ C := fun e => X0.nc (e ▸ by simp)
  have hDC : D ≠ C := fun e => X0.nd (e ▸ by simp)
  have offC : ∀ b ∈ fp, b ≠ C := fun b hb e => by
    rcases hfp b hb with rfl | ⟨o, q⟩
    · exact hIC e
    · have := X0.off C (by simp); rw [← e, q] at this; cases this
  have offD : ∀ b ∈ fp, b ≠ D := fun b hb e => by
    rcases hfp b hb with rfl | ⟨o, q⟩
    · exact hID e
    · have := X0.off D (by simp); rw [← e, q] at this; cases this
  refine codeAny_compLoop_list
    (fun k s' => ∃ i m' As, i ≤ n ∧ k = n + 1 - i ∧ St i s'.heap ∧ s'.heap.Ns C m' ∧ CS s₂ h0 W C D [I] (List.replicate i R) s' ∧ FrA h0 D As s'.heap ∧ As.length = i ∧ ∀ a ∈ As, a ≠ C ∧ a ≠ I) ?_ (n + 1) ⟨0, m, [], Nat.zero_le _, rfl, h0St, hn, X0, ?_, rfl, by simp⟩
  rotate_left
  · obtain ⟨ys, g, a⟩ := X0.acc
    match ys, a with
    | [], _ => exact ⟨g, List.nodup_nil, by simp⟩
  rintro k s' ⟨i, m', As, hi, rfl, hst, hn', x', fr, lA, oA⟩
  by_cases hlt : i < n
  · refine Wk.item i _ _ _ hlt hst fun v h₂ tk₂ hPv hst₂ hk₂ => ?_
    have x2 : CS s₂ h0 W C D [I] (List.replicate i R) { s' with heap := h₂, toks := tk₂ } := x'.step (fun b o hb e => hk₂ b o (by simp at hb ⊢; exact hb.2) e) fun b hb => by
      rcases List.mem_cons.mp hb with rfl | hb
      · obtain ⟨o, _, _, q, _⟩ := hn'
        exact ⟨o, hk₂ _ _ (by simpa using Ne.symm hIC) q⟩
      · rw [List.mem_singleton.mp hb]; exact hlive _ _ hst₂
    have hn2 : h₂.Ns C m' := hn'.at' fun o e => hk₂ _ o (by simpa using Ne.symm hIC) e
    have fr2 : FrA h0 D As h₂ := fr.keep fun b o hb e => hk₂ b o (by
      rcases hb with rfl | hb
      · simpa using Ne.symm hID
      · simpa using (oA b hb).2) e
    refine wpAny_assign_Name (wpAny_storeName_local hx (hC ▸ hn2) (fun h₃ hn₃ hs₃ => ?_) (by rw [hk]; rfl))
    rw [hC] at hn₃ hs₃
    have x3 : CS s₂ h0 W C D [I] (List.replicate i R) { s' with heap := h₃, toks := tk₂ + 1 } := x2.step (h' := h₃) (tk' := tk₂ + 1) (fun b o hb e => (hs₃.2 b (fun q => hb (by simp [q]))).trans e) fun b hb => by
      rcases List.mem_cons.mp hb with rfl | hb
      · obtain ⟨o, _, _, q, _⟩ := hn₃
        exact ⟨o, q⟩
      · rw [List.mem_singleton.mp hb]
        obtain ⟨o, q⟩ := hlive _ _ hst₂
        exact ⟨o, (hs₃.2 I hIC).trans q⟩
    have fr3 : FrA h0 D As h₃ := fr2.keep fun b o hb e => (hs₃.2 b (by
      rcases hb with rfl | hb
      · exact hDC
      · exact (oA b hb).1)).trans e
    have hst₃ : St (i + 1) h₃ := Wk.frame _ _ _ hst₂ fun b hb o e => (hs₃.2 b (offC b hb)).trans e
    refine turn _ _ x3 _ _ _ (Ext.refl _) (x3.win hw) fun a h4 tk4 y4 pa ha la => ?_
    have x4 := x3.grow (tk' := tk4) y4
    obtain ⟨ys, g, al⟩ := id x4.acc
    have fr4 : FrA h0 D As h4 := fr3.keep fun b o _ e => y4 b o e
    have hzz : ys.length ≤ sizeLine := by rw [al.length, List.length_replicate]; omega
    refine append_at g (fun h5 hs hD => ?_) (by rw [List.size_toArray]; exact hzz)
    have x5 := x4.push (tk' := tk4) g al pa hs hD
    have kk : ∀ b o, b ≠ D → h4.get? b = some o → h5.get? b = some o := fun b o hb e => (hs.2 b hb).trans e
    have live3 : ∀ b o, h₃.get? b = some o → a ≠ b := fun b o e q => by
      have ha' : h₃.get? a = none := ha
      rw [q, e] at ha'; cases ha'
    have hy : ys = As.map Value.ref := by
      have e := g.symm.trans fr4.1
      have e2 := congrArg Obj.data (Option.some.inj e)
      have e3 : ys.toArray = (As.map Value.ref).toArray := by injection e2
      exact congrArg Array.toList e3
    have aD : a ≠ D := live3 D _ fr3.1
    have aC : a ≠ C := by obtain ⟨o, _, _, q, _⟩ := hn₃; exact live3 C o q
    have aI : a ≠ I := by
      obtain ⟨o, q⟩ := hlive _ _ hst₃
      exact live3 I o q
    refine ⟨n + 1 - (i + 1), by omega, i + 1, _, As ++ [a], hlt, rfl, Wk.frame _ _ _ (Wk.frame _ _ _ hst₃ fun b _ o e => y4 b o e) fun b hb o e => kk b o (offD b hb) e, (hn₃.keeps y4).at' fun o e => kk _ o (Ne.symm hDC) e, ?_, ?_, by simp [lA], ?_⟩
    · rw [List.replicate_succ']; exact x5
    · refine ⟨?_, ?_, fun b hb => ?_⟩
      · rw [hD, hy]
        exact congrArg some (by simp [PySem.W.listOf])
      · refine List.nodup_append.mpr ⟨fr.2.1, by simp, fun b hb c hc => ?_⟩
        rw [List.mem_singleton.mp hc]
        obtain ⟨_, _, o, e⟩ := fr3.2.2 b hb
        exact Ne.symm (live3 b o e)
      · rcases List.mem_append.mp hb with hb | hb
        · obtain ⟨p, q, o, e⟩ := fr4.2.2 b hb
          exact ⟨p, q, o, kk b o q e⟩
        · rw [List.mem_singleton.mp hb]
          refine ⟨?_, aD, ?_⟩
          · cases q : h0.get? a with
            | none => rfl
            | some o => exact absurd rfl (live3 a o (x3.ext _ _ q))
          · obtain ⟨o, e⟩ := la
            exact ⟨o, kk _ _ aD e⟩
    · intro b hb
      rcases List.mem_append.mp hb with hb | hb
      · exact oA b hb
      · rw [List.mem_singleton.mp hb]; exact ⟨aC, aI⟩
  · obtain rfl : i = n := Nat.le_antisymm hi (Nat.not_lt.mp hlt)
    refine Wk.done _ _ _ hst fun h₂ tk₂ hk₂ => ?_
    refine fin _ m' As (x'.done hw hk₂) (hn'.at' fun o e => hk₂ _ o (by simpa using Ne.symm hIC) e) (fr.keep fun b o hb e => hk₂ b o (by
      rcases hb with rfl | hb
      · simpa using Ne.symm hID
      · simpa using (oA b hb).2) e) lA
theorem ax_compF {elt iter : Expr} {x yn : Str} {px py : Pos} {scope : Scope} {pos spos : Pos} {cl : List (Str × Addr)} {Ss : List RP} {s₀ s : Shared} {Mu : List (Addr × Obj)} {m cm : Str → Option Value} {Q : Flow → Shared → Prop} {E : Value → Shared → Prop}
    (F : FS s₀ env W Mu m cm s) (hsrc : Src prog w W A env s.heap iter Ss) (hz : Ss.length ≤ sizeLine) (R : RP)
    (turn : ∀ h' C W', Ext s.heap h' → EvF prog w W' A (compEnvC scope cl C env) h' elt R)
    (k : ∀ (D : Addr) (As : List Addr) (s' : Shared), FS s₀ env W Mu (upd m yn (.ref D)) cm s' → FExt (Fz W s.heap) (Fz W s'.heap) → s'.heap.get? D = some (PySem.W.listOf (As.map Value.ref).toArray As.length) → All2 (Fz (D :: W) s'.heap) (As.map Value.ref) (List.replicate As.length R) → D ∉ W → s.heap.get? D = none →
      As.Nodup → As.length = Ss.length → (∀ a ∈ As, s.heap.get? a = none ∧ a ≠ D ∧ a ∉ W) → Q .next s')
    (hclos : closureFor scope env = pure cl) (hsw : swapsWith (.ListComp elt [⟨.Name x px, iter, [], 0⟩] scope pos) (some (.Name yn py)) spos.line env = pure true := by rfl)
    (hcell : ∀ y ∈ scope.names, y.2 ≠ .cell := by decide) (hkind : scope.kind = .function := by rfl) (hx : scope.names.lookup x = some .local := by rfl)
    (hnames : ∀ y ∈ scope.names, y.2 = .local → scope.names.lookup y.1 = some .local := by decide) (hy : env.kindOf yn = some .local := by rfl) (hp : (env.scope.kind == .class || (env.scope.kind == .module && env.locals != env.globals)) = false := by rfl)
    (hs : ∀ x, foldedSetIterable iter env x = pure x := by intro _; rfl) : wpAny (model prog w) A (exec (.Assign [.Name yn py] (.ListComp elt [⟨.Name x px, iter, [], 0⟩] scope pos) spos) env) Q E s := by
  rw [exec_Assign_Name_used _ _ _ _ hsw]
  refine wpAny_bind (wpAny_standAt (wpAny_bind ?_))
  show wpAny _ A (do let _ ← comprehension (.ListComp elt [⟨.Name x px, iter, [], 0⟩] scope pos) scope env _ (newList []) false (eval iter env) (some (assign (.Name yn py) env))) _ _ s
  refine wpAny_bind (wpAny_mono (wpAny_comprehension_free (use := some (assign (.Name yn py) env)) (Q := fun _ s' => Q .next s') rfl hs hclos hkind hnames
    (comp_alloc hsrc hcell hkind (Ext.refl _) F.win fun I h1 fp P St C D h₁ tk2 y1 Wk hfp hlive hP X0 hst₁ hns₁ hC hw1 => ?_)) (fun _ s' hq => wpAny_pure (wpAny_pure hq)) fun _ _ e => e)
  have hDn : h1.get? D = none := X0.off D List.mem_cons_self
  refine loop1f (C := C) (cenv := compEnvC scope cl C env) rfl hkind (lookup_relabel_local hx) hw1 Wk hz (fun b hb => (hfp b hb).imp id fun ⟨o, q⟩ => ⟨o, Fz.get q⟩) hlive R (fun s' Rs X => turn _ _ _ (y1.trans X.ext)) X0 hst₁ hns₁ fun s' m' As c hn fr lA => ?_
  obtain ⟨h3, tk3, rfl⟩ := c.same
  have hLC : env.locals ≠ C := fun e => by
    obtain ⟨o, q⟩ := F.win _ F.wl
    have := y1 _ _ q; rw [e, hC] at this; cases this
  have hns3 : h3.Ns env.locals m := F.ns.keeps (y1.trans c.ext)
  show wpAny _ A (assign (.Name yn py) env (.ref D)) _ _ _
  refine wpAny_assign_Name (wpAny_storeName_local hy hns3 (fun h4 hn4 hs4 => ?_) hp)
  refine ⟨m', hn.sameBut hs4 (Ne.symm hLC), fun h'' hs'' => ?_⟩
  have kk : ∀ b o, b ≠ env.locals → s.heap.get? b = some o → h''.get? b = some o := fun b o hb e => by
    have e1 := y1 b o e
    exact (hs''.2 b (fun q => by rw [q, hC] at e1; cases e1)).trans ((hs4.2 b hb).trans (c.ext _ _ e1))
  obtain ⟨ys, n, gD, a⟩ := c.own
  have hy2 : ys = As.map Value.ref := by
    have e2 := congrArg Obj.data (Option.some.inj (gD.symm.trans fr.1))
    have e3 : ys.toArray = (As.map Value.ref).toArray := by injection e2
    exact congrArg Array.toList e3
  have none_s : ∀ b, h1.get? b = none → s.heap.get? b = none := fun b hb => by
    cases e : s.heap.get? b with
    | none => rfl
    | some o => have := y1 _ _ e; rw [hb] at this; cases this
  have notW : ∀ b, s.heap.get? b = none → b ∉ W := fun b e hb => by obtain ⟨o, q⟩ := F.win _ hb; rw [e] at q; cases q
  have hDs := none_s D hDn
  have hDW := notW D hDs
  have k34 : ∀ b o, b ≠ C → b ≠ env.locals → h3.get? b = some o → h''.get? b = some o := fun b o h1 h2 e => (hs''.2 b h1).trans ((hs4.2 b h2).trans e)
  rw [hy2] at a
  rw [← lA] at a
  refine k D As _ (F.setL (tk' := tk3 + 1) kk (hn4.sameBut hs'' hLC)) (F.fzL kk) (k34 _ _ c.dc (fun e => hDW (e ▸ F.wl)) fr.1) (a.mono ((fext_but (h' := h'') fun b o hb e => k34 b o (fun q => hb (by simp [q])) (fun q => hb (by rw [q]; simp [F.wl])) e).trans (fext_sub fun b hb => by
    simp only [List.mem_cons] at hb ⊢; rcases hb with hb | hb <;> simp [hb]))) hDW hDs fr.2.1 lA fun b hb => ⟨none_s b (fr.2.2 b hb).1, (fr.2.2 b hb).2.1, notW b (none_s b (fr.2.2 b hb).1)⟩
end
end Mine
namespace Mine
/-! ## floats -/
def IsF (x : UInt64) : RP := ⟨fun _ v => ∃ t, v = .float x t, fun _ h => h⟩
section
variable {prog : Program} {w : World} {W : List Addr} {A : Around} {env : Env} {h : Heap}
theorem ev_float {x : UInt64} {k : Nat} {pos : Pos} : Ev prog w W A env h (.Constant (.float x) k pos) (IsF x) := fun s Q E _ _ c => PySem.wpAny_Constant_float (c _ s.heap _ (Ext.refl _) ⟨_, rfl⟩)
theorem ev_fadd {l r : Expr} {pos : Pos} {a b : UInt64} (hl : Ev prog w W A env h l (IsF a)) (hr : Ev prog w W A env h r (IsF b)) : Ev prog w W A env h (.BinOp l .Add r pos) (IsF (Float64.add a b)) :=
  ev_bin hl hr fun s Q E v1 v2 _ _ ⟨t1, e1⟩ ⟨t2, e2⟩ k => by subst e1 e2; exact add_float (k _ _ _ (Ext.refl _) ⟨_, rfl⟩)
theorem ev_fsub {l r : Expr} {pos : Pos} {a b : UInt64} (hl : Ev prog w W A env h l (IsF a)) (hr : Ev prog w W A env h r (IsF b)) : Ev prog w W A env h (.BinOp l .Sub r pos) (IsF (Float64.sub a b)) :=
  ev_bin hl hr fun s Q E v1 v2 _ _ ⟨t1, e1⟩ ⟨t2, e2⟩ k => by subst e1 e2; exact sub_float (k _ _ _ (Ext.refl _) ⟨_, rfl⟩)
theorem ev_fmulI {l r : Expr} {pos : Pos} {a : UInt64} {n : Int} (hl : Ev prog w W A env h l (IsF a)) (hr : Ev prog w W A env h r (IsI n)) (hn : n.natAbs < 2 ^ 1023) : Ev prog w W A env h (.BinOp l .Mult r pos) (IsF (Float64.mul a (Float64.ofInt n))) :=
  ev_bin hl hr fun s Q E v1 v2 _ _ ⟨t1, e1⟩ ⟨t2, e2⟩ k => by subst e1 e2; exact mul_fi_fits hn (k _ _ _ (Ext.refl _) ⟨_, rfl⟩)
theorem cmp_ltF {a b : UInt64} : Cmp prog w W A h .Lt (IsF a) (IsF b) (Float64.cmp a b == some Ordering.lt) := fun s Q E v1 v2 _ _ ⟨t1, e1⟩ ⟨t2, e2⟩ k => by subst e1 e2; exact AutoFloatOps.lt_0 (k _ s.toks (Ext.refl _))
theorem cmp_gtF {a b : UInt64} : Cmp prog w W A h .Gt (IsF a) (IsF b) (Float64.cmp a b == some Ordering.gt) := fun s Q E v1 v2 _ _ ⟨t1, e1⟩ ⟨t2, e2⟩ k => by subst e1 e2; exact AutoFloatOps.gt_0 (k _ s.toks (Ext.refl _))
end
/-- a float of Python's own (its token is told) -/
def IsFP (x : UInt64) : RP := ⟨fun _ v => ∃ t : Tok, v = .float x t ∧ (t == 0) = false, fun _ h => h⟩
theorem IsFP.f {x : UInt64} {G : Fm} {v : Value} (h : (IsFP x).rel G v) : (IsF x).rel G v := ⟨h.choose, h.choose_spec.1⟩
theorem pos1 (n : Nat) : ((n + 1 : Tok) == 0) = false := by simp
section
variable (prog : Program) (w : World) (W : List Addr) (A : Around) (env : Env) (h : Heap)
def EvP (e : Expr) (P : RP) : Prop := ∀ (s : Shared) (Q : Value → Shared → Prop) (E : Value → Shared → Prop), Ext h s.heap → WIn W h →
  (∀ v h' tk', Ext s.heap h' → P.rel (Fz W h') v → ((tk' : Tok) == 0) = false → Q v { s with heap := h', toks := tk' }) → wpAny (model prog w) A (eval e env) Q E s
def TvP (e : Expr) (b : Bool) : Prop := ∀ (s : Shared) (Q : Bool → Shared → Prop) (E : Value → Shared → Prop), Ext h s.heap → WIn W h →
  (∀ h' tk', Ext s.heap h' → ((tk' : Tok) == 0) = false → Q b { s with heap := h', toks := tk' }) → wpAny (model prog w) A (isTrue e env (eval e env)) Q E s
end
section
variable {prog : Program} {w : World} {W : List Addr} {A : Around} {env : Env} {h : Heap}
theorem EvP.ev {e : Expr} {P : RP} (x : EvP prog w W A env h e P) : Ev prog w W A env h e P := fun s Q E y hw k => x s Q E y hw fun v h' tk' y' p _ => k v h' tk' y' p
theorem evp_float {x : UInt64} {k : Nat} {pos : Pos} : EvP prog w W A env h (.Constant (.float x) k pos) (IsF x) := fun s Q E _ _ c => PySem.wpAny_Constant_float (c _ s.heap _ (Ext.refl _) ⟨_, rfl⟩ (pos1 _))
theorem evp_int {i : Int} {k : Nat} {pos : Pos} : EvP prog w W A env h (.Constant (.int i) k pos) (IsI i) := fun s Q E _ _ c => wpAny_Constant_int (c _ s.heap _ (Ext.refl _) ⟨_, rfl⟩ (pos1 _))
/-- an operation whose right operand leaves a token behind -/
theorem evp_bin {l r : Expr} {op : Operator} {pos : Pos} {P1 P2 R : RP} (hl : Ev prog w W A env h l P1) (hr : EvP prog w W A env h r P2)
    (hop : ∀ (s : Shared) (Q : Value → Shared → Prop) (E : Value → Shared → Prop) (v1 v2 : Value), ((s.toks : Tok) == 0) = false → P1.rel (Fz W s.heap) v1 → P2.rel (Fz W s.heap) v2 →
      (∀ v tk', R.rel (Fz W s.heap) v → ((tk' : Tok) == 0) = false → Q v { s with toks := tk' }) → wpAny (model prog w) A (binaryOp op v1 v2) Q E s) :
    EvP prog w W A env h (.BinOp l op r pos) R := by
  intro s Q E y hw k
  refine wpAny_BinOp (hl s _ _ y hw fun v h1 tk1 y1 p1 => ?_)
  refine hr _ _ _ (y.trans y1) hw fun v2 h2 tk2 y2 p2 n2 => ?_
  exact hop _ _ _ _ _ n2 (P1.mono (y2.fz W) p1) p2 fun v tk' p3 n3 => k v h2 tk' (y1.trans y2) p3 n3
theorem evp_fadd {l r : Expr} {pos : Pos} {a b : UInt64} (hl : Ev prog w W A env h l (IsF a)) (hr : EvP prog w W A env h r (IsF b)) : EvP prog w W A env h (.BinOp l .Add r pos) (IsFP (Float64.add a b)) :=
  evp_bin hl hr fun s Q E v1 v2 n ⟨t1, e1⟩ ⟨t2, e2⟩ k => by subst e1 e2; exact add_float (k _ _ ⟨_, rfl, n⟩ (pos1 _))
theorem evp_fsub {l r : Expr} {pos : Pos} {a b : UInt64} (hl : Ev prog w W A env h l (IsF a)) (hr : EvP prog w W A env h r (IsF b)) : EvP prog w W A env h (.BinOp l .Sub r pos) (IsFP (Float64.sub a b)) :=
  evp_bin hl hr fun s Q E v1 v2 n ⟨t1, e1⟩ ⟨t2, e2⟩ k => by subst e1 e2; exact sub_float (k _ _ ⟨_, rfl, n⟩ (pos1 _))
theorem evp_fmulI {l r : Expr} {pos : Pos} {a : UInt64} {n : Int} (hl : Ev prog w W A env h l (IsF a)) (hr : Ev prog w W A env h r (IsI n)) (hn : n.natAbs < 2 ^ 1023) : EvP prog w W A env h (.BinOp l .Mult r pos) (IsF (Float64.mul a (Float64.ofInt n))) := by
  intro s Q E y hw k
  refine wpAny_BinOp (hl s _ _ y hw fun v h1 tk1 y1 p1 => ?_)
  refine hr _ _ _ (y.trans y1) hw fun v2 h2 tk2 y2 p2 => ?_
  obtain ⟨t1, rfl⟩ := p1
  obtain ⟨t2, rfl⟩ := p2
  exact mul_fi_fits hn (k _ _ _ (y1.trans y2) ⟨_, rfl⟩ (pos1 _))
theorem tvp_ltF {l : Expr} {k : Nat} {p1 pos : Pos} {a c : UInt64} (hl : Ev prog w W A env h l (IsF a)) (hm : behindInMarks .Lt (.Constant (.float c) k p1) = false := by with_unfolding_all rfl) :
    TvP prog w W A env h (.Compare l [.Lt] [.Constant (.float c) k p1] pos) (Float64.cmp a c == some Ordering.lt) := by
  intro s Q E y hw kk
  refine wpAny_isTrue_Compare1 (hl s _ _ y hw fun v h1 tk1 y1 p1 => ?_) hm
  obtain ⟨t1, rfl⟩ := p1
  refine PySem.wpAny_Constant_float (AutoFloatOps.lt_0 (wpAny_truthy_bool ?_))
  exact kk h1 (tk1 + 1) y1 (pos1 _)
theorem tvp_gtF {l : Expr} {k : Nat} {p1 pos : Pos} {a c : UInt64} (hl : Ev prog w W A env h l (IsF a)) (hm : behindInMarks .Gt (.Constant (.float c) k p1) = false := by with_unfolding_all rfl) :
    TvP prog w W A env h (.Compare l [.Gt] [.Constant (.float c) k p1] pos) (Float64.cmp a c == some Ordering.gt) := by
  intro s Q E y hw kk
  refine wpAny_isTrue_Compare1 (hl s _ _ y hw fun v h1 tk1 y1 p1 => ?_) hm
  obtain ⟨t1, rfl⟩ := p1
  refine PySem.wpAny_Constant_float (AutoFloatOps.gt_0 (wpAny_truthy_bool ?_))
  exact kk h1 (tk1 + 1) y1 (pos1 _)
end
section
variable {prog : Program} {w : World} {A : Around} {s₀ s : Shared} {env : Env} {W : List Addr} {Mu : List (Addr × Obj)} {m cm : Str → Option Value} {E : Value → Shared → Prop} {Q : Flow → Shared → Prop}
/-- if x < c: x = c (or >) -/
theorem x_clamp {x : Str} {op : CmpOp} {b : Bool} {p1 p2 p3 p4 p5 p6 p7 : Pos} {k1 k2 : Nat} {a c : UInt64} {v : Value} (F : FS s₀ env W Mu m cm s) (hm : m x = some v) (hv : (IsFP a).rel (Fz W s.heap) v)
    (k : ∀ m' v' s', FS s₀ env W Mu m' cm s' → FExt (Fz W s.heap) (Fz W s'.heap) → m' x = some v' → (IsFP (if b = true then c else a)).rel (Fz W s'.heap) v' → (∀ y, y ≠ x → m' y = m y) → Q .next s')
    (ht : ∀ e, e = Expr.Compare (.Name x p1) [op] [.Constant (.float c) k1 p2] p3 → Ev prog w W A env s.heap (.Name x p1) (IsF a) → TvP prog w W A env s.heap e b)
    (hl : env.kindOf x = some .local := by rfl) (hk : env.scope.kind = .function := by rfl) (hd : (x == ("__debug__" : Str)) = false := by decide) :
    wpAny (model prog w) A (exec (.If (.Compare (.Name x p1) [op] [.Constant (.float c) k1 p2] p3) [.Assign [.Name x p4] (.Constant (.float c) k2 p5) p6] [] p7) env) Q E s := by
  refine wpAny_If (ht _ rfl (ev_name (nm_local F.ns hm hk hl) (IsFP.f hv) hd) s _ _ (Ext.refl _) F.win fun h1 tk1 y1 n1 => ?_)
  have F1 := F.grow (tk' := tk1) y1
  have g1 := y1.fz W
  cases b with
  | true =>
    show wpAny _ _ (execs _ env) _ _ _
    have he : ∀ (Q : Value → Shared → Prop) (E : Value → Shared → Prop), (∀ v h' tk', Ext h1 h' → (IsFP c).rel (Fz W h') v → Q v { s with heap := h', toks := tk' }) → wpAny (model prog w) A (eval (.Constant (.float c) k2 p5) env) Q E { s with heap := h1, toks := tk1 } :=
      fun Q E k => PySem.wpAny_Constant_float (k _ h1 _ (Ext.refl _) ⟨_, rfl, n1⟩)
    refine wpAny_execs_cons (wpAny_Assign_Name (he _ _ fun v h2 tk2 y2 p2 => ?_) rfl)
    have F2 := F1.grow (tk' := tk2) y2
    refine wpAny_storeName_local hl F2.ns (fun h3 hn hs => ?_) (by rw [hk]; rfl)
    have kk : ∀ b o, b ≠ env.locals → h2.get? b = some o → h3.get? b = some o := fun b o hb e => (hs.2 b hb).trans e
    refine wpAny_execs_nil (k _ v _ (F2.setL (tk' := tk2 + 1) kk hn) ((g1.trans (y2.fz W)).trans (F2.fzL kk)) upd_same p2 fun y hy => if_neg hy)
  | false =>
    show wpAny _ _ (execs _ env) _ _ _
    exact wpAny_execs_nil (k m v _ F1 g1 hm ((IsFP a).mono g1 hv) fun y _ => rfl)
end
end Mine
namespace Mine
set_option maxRecDepth 100000 in
set_option maxHeartbeats 0 in
open_top hd for PySem.Challenge.rw_tr0006_01
end Mine
namespace Mine

section
variable {prog : Program} {w : World} {T0 : Heap} {p : Program} {loose : List Str} {mean : ExcName → Option Value} {mg mb : Str → Option Value}
set_option maxRecDepth 100000 in
set_option maxHeartbeats 4000000 in
theorem energy_fn (X : (hd.heap_39 w.params).In T0) (T : Top p loose mean mg mb T0) {M : List (List Int)} {gs : List Int} (hM : Sq M) (hg : gs.length = 5) (hb : ∀ g ∈ gs, -100 < g ∧ g < 100) :
    Fn prog w T0 1 70 [IsM M, IsLI gs] (IsI (energy M gs)) := by
  refine' fn_K X T.nolimit ?ho ?hcd (fun vs => [Str.ofString "over", Str.ofString "greys"].zip vs) ?hbind ?hkind ?hnd ?hb ?c1 ?c2 ?c3
  case ho => k_is
  case hcd => k_is
  case hbind => 
    intro vs hvs
    obtain ⟨a, b, rfl⟩ := len2 hvs
    rfl
  case hkind =>
    intro vs hvs n
    obtain ⟨a, b, rfl⟩ := len2 hvs
    exact kindsX rfl n
  case hnd => decide +kernel
  case c1 => rfl
  case c2 => rfl
  case c3 => rfl
  case hb =>
    intro W A s s₁ L vs Q E hA hT hlen F hargs k
    obtain ⟨v1, v2, rfl⟩ := len2 hlen
    obtain ⟨r1, r2, _⟩ := hargs
    have hT1 : Ext T0 s₁.heap := hT.trans F.old
    have cOver : s₁.heap.IsCell (L + 1) (some v1) := F.cell (Str.ofString "over") (L + 1) rfl
    have cGreys : s₁.heap.IsCell (L + 1 + 1) (some v2) := F.cell (Str.ofString "greys") (L + 1 + 1) rfl
    refine wpAny_execs_cons (x_retF F (P := IsI (energy M gs)) ?_ fun v h' tk' y p => k v h' tk' y p)
    refine ev_callB (nm_boot X T.g T.b T.builtins hT1 (by k_is) boot_sum) (evl_cons ?_ evl_nil) (callB_sum (ns := (List.range 5).flatMap fun i => (List.range 5).map fun j => at2 M i j * gs.getD i 0 * gs.getD j 0) hA.handled)
    refine ev_comp2 hA.handled (src_range (n := 5) hA.handled (nm_boot X T.g T.b T.builtins hT1 (by k_is) boot_range) ev_int (by rw [sizeLine_eq]; omega)) (fun _ => 5) (fun i hi => ?_) (fun _ => (List.range 5).map fun i => IsI (i : Nat)) (fun _ => rfl)
      (fun i j => IsI (at2 M i j * gs.getD i 0 * gs.getD j 0)) ?_ (fun i S h' C W' m2 v hS y fx hw hn hv hr => ?_) (fun i j S S2 h' C W' m2 v v3 hS hS2 y fx hw hn hv hv2 hr hr2 => ?_) rfl
    · have e : ((List.range i).map fun _ => 5).sum = 5 * i := by
        rw [List.map_const', List.sum_replicate_nat, List.length_range, Nat.mul_comm]
      rw [e, sizeLine_eq]; simp at hi; omega
    · rw [List.map_flatMap]
      simp only [List.length_map, List.length_range, List.map_map]
      rfl
    · refine src_range (n := 5) hA.handled (nm_boot X T.g T.b T.builtins (hT1.trans y) (by k_is) boot_range) ev_int (by rw [sizeLine_eq]; omega)
    · obtain ⟨hi, rfl⟩ := range_item hS
      obtain ⟨hj, rfl⟩ := range_item hS2
      have bnd : ∀ k, k < 5 → Builtin.Int.intBits (gs.getD k 0) ≤ 64 := fun k hk => by
        have := hb _ (getD_mem' (by omega : k < gs.length))
        exact intBits_le_64 (by omega) (by omega)
      refine' ev_mul (ev_mul (ev_at2 hM hi hj (ev_name ?nO ((IsM M).mono fx r1)) (ev_name ?nI hr) (ev_name ?nJ hr2)) (ev_item (ev_name ?nG ((IsLI gs).mono fx r2)) (ev_name ?nI hr) (by omega) (by omega) (li_item (by omega))) (.of_right (bnd i hi)))
        (ev_item (ev_name ?nG ((IsLI gs).mono fx r2)) (ev_name ?nJ hr2) (by omega) (by omega) (li_item (by omega))) (.of_right (bnd j hj))
      case nO => exact nm_cell rfl (cOver.keeps y)
      case nG => exact nm_cell rfl (cGreys.keeps y)
      case nI => exact nm_local hn hv
      case nJ => exact nm_local hn hv2
end
end Mine
namespace Mine
/-- what _law_signs asks -/
structure Signs (U A : List (List Int)) : Prop where
  off : ∀ i j, i < 5 → j < 5 → i ≠ j → at2 A i j ≤ 0 ∧ (at2 A i j < 0 ↔ 0 < at2 U i j)
  row : ∀ i, i < 5 → 0 < (A.getD i []).sum
section
variable {prog : Program} {w : World} {T0 : Heap} {p : Program} {loose : List Str} {mean : ExcName → Option Value} {mg mb : Str → Option Value}
set_option maxRecDepth 100000 in
set_option maxHeartbeats 4000000 in
theorem signs_fn (X : (hd.heap_39 w.params).In T0) (T : Top p loose mean mg mb T0) {U A : List (List Int)} (hU : Sq U) (hA' : Sq A) (hS : Signs U A) :
    Fn prog w T0 1 75 [IsM U, IsM A] (IsB true) := by
  refine' fn_K X T.nolimit ?ho ?hcd (fun vs => [Str.ofString "table", Str.ofString "over"].zip vs) ?hbind ?hkind ?hnd ?hb ?c1 ?c2 ?c3
  case ho => k_is
  case hcd => k_is
  case hbind => 
    intro vs hvs
    obtain ⟨a, b, rfl⟩ := len2 hvs
    rfl
  case hkind =>
    intro vs hvs n
    obtain ⟨a, b, rfl⟩ := len2 hvs
    exact kindsX rfl n
  case hnd => decide +kernel
  case c1 => rfl
  case c2 => rfl
  case c3 => rfl
  case hb =>
    intro W Ar s s₁ L vs Q E hA hT hlen F hargs k
    obtain ⟨v1, v2, rfl⟩ := len2 hlen
    obtain ⟨r1, r2, _⟩ := hargs
    have hT1 : Ext T0 s₁.heap := hT.trans F.old
    have r1' : ∀ G, FExt (Fz W s₁.heap) G → (IsM U).rel G v1 := fun G g => (IsM U).mono g r1
    have r2' : ∀ G, FExt (Fz W s₁.heap) G → (IsM A).rel G v2 := fun G g => (IsM A).mono g r2
    refine wpAny_execs_cons (x_for F (src_range (n := 5) hA.handled (nm_boot X T.g T.b T.builtins hT1 (by k_is) boot_range) ev_int range5_z) storeL
      (fun i G Mu m cm => m (Str.ofString "table") = some v1 ∧ m (Str.ofString "over") = some v2 ∧ Mu = []) (fun _ _ _ _ _ _ _ h => h) (fun _ _ _ _ => False) (fun _ _ _ _ _ _ h => h) ⟨rfl, rfl, rfl⟩
      (fun i S v I oI Mu m cm s' G1 E' hS0 g1 g2 F' hr inv => ?_) (fun m' cm' Mu' s' E' F' g inv => ?_) (fun _ _ _ _ _ _ h => h.elim))
    · obtain ⟨hi, rfl⟩ := range_item hS0
      obtain ⟨i1, i2, rfl⟩ := inv
      refine wpAny_execs_cons (x_for F' (src_range (n := 5) hA.handled (nm_boot X T.g T.b T.builtins (hT.trans F'.old) (by k_is) boot_range) ev_int range5_z) storeL
        (fun j G Mu m cm => m (Str.ofString "table") = some v1 ∧ m (Str.ofString "over") = some v2 ∧ m (Str.ofString "i") = some v ∧ Mu = [(I, oI)]) (fun _ _ _ _ _ _ _ h => h) (fun _ _ _ _ => False) (fun _ _ _ _ _ _ h => h)
        ⟨upd_other i1, upd_other i2, upd_same, rfl⟩ (fun j S v' J oJ Mu m cm s'' G2 E'' hS' g3 g4 F'' hr' inv => ?_) (fun m' cm' Mu' s'' E'' F'' g inv => ?_) (fun _ _ _ _ _ _ h => h.elim))
      · obtain ⟨hj, rfl⟩ := range_item hS'
        obtain ⟨j1, j2, j3, rfl⟩ := inv
        have G : FExt (Fz W s₁.heap) (Fz (J :: I :: W) s''.heap) := ((g1.trans g2).trans g3).trans g4
        have hri : (IsI (i : Nat)).rel (Fz (J :: I :: W) s''.heap) v := (IsI (i : Nat)).mono (g3.trans g4) hr
        refine wpAny_execs_cons (x_if (b := false) F'' ?_ fun s3 F3 g5 y3 => ?_)
        · refine tv_eq (b := (((i : Nat) : Int) != ((j : Nat) : Int)) && (decide (0 < at2 A i j) || (decide (at2 A i j < 0) != decide (0 < at2 U i j)))) ?_ ?_
          · refine' tv_and2 (tv_cmp (ev_name ?nI hri) (ev_name ?nJ hr') cmp_ne) (fun _ => tv_or2 (tv_cmp (ev_at2 hA' hi hj (ev_name ?nO (r2' _ G)) (ev_name ?nI hri) (ev_name ?nJ hr')) ev_int cmp_gt)
              (fun _ => tv_cmp (ev_cmp (ev_at2 hA' hi hj (ev_name ?nO (r2' _ G)) (ev_name ?nI hri) (ev_name ?nJ hr')) ev_int cmp_lt) (ev_cmp (ev_at2 hU hi hj (ev_name ?nT (r1' _ G)) (ev_name ?nI hri) (ev_name ?nJ hr')) ev_int cmp_gt) cmp_neB))
            case nI => exact nm_local F''.ns (upd_other j3)
            case nJ => exact nm_local F''.ns upd_same
            case nO => exact nm_local F''.ns (upd_other j2)
            case nT => exact nm_local F''.ns (upd_other j1)
          · by_cases e : i = j
            · subst e; simp
            · obtain ⟨o1, o2⟩ := hS.off i j hi hj e
              have h1 : decide (0 < at2 A i j) = false := decide_eq_false (by omega)
              have h2 : decide (at2 A i j < 0) = decide (0 < at2 U i j) := by by_cases q : at2 A i j < 0 <;> simp [q, ← o2]
              rw [h1, h2]; simp
        · simp only [Bool.false_eq_true, if_false]
          refine wpAny_execs_nil (wpAny_execs_nil ?_)
          exact ⟨_, _, _, F3, g4.trans g5, upd_other j1, upd_other j2, upd_other j3, rfl⟩
      · obtain ⟨j1, j2, j3, rfl⟩ := inv
        exact wpAny_execs_nil (wpAny_execs_nil ⟨_, _, _, F'', g2.trans g, j1, j2, rfl⟩)
    · obtain ⟨i1, i2, rfl⟩ := inv
      refine wpAny_execs_nil (wpAny_execs_cons (x_retF F' (P := IsB true) ?_ fun v h' tk' y p => k v h' tk' y p))
      have e : IsB true = IsB (decide (0 < minL ((List.range 5).map fun i => (A.getD i []).sum))) := by
        congr 1
        symm
        refine decide_eq_true ?_
        have hm := minL_mem (ns := (List.range 5).map fun i => (A.getD i []).sum) (by simp)
        obtain ⟨q, hq, e⟩ := List.mem_map.mp hm
        rw [← e]
        exact hS.row q (by simpa using hq)
      rw [e]
      refine ev_cmp ?_ ev_int cmp_gt
      refine ev_callB (nm_boot X T.g T.b T.builtins (hT.trans F'.old) (by k_is) boot_min) (evl_cons ?_ evl_nil) (callB_min hA.handled (by simp))
      refine' ev_comp hA.handled (src_list hA.handled (ev_name ?nO (r2' _ g))) (by rw [List.length_map, hA'.len]; exact range5_z) (fun i => IsI (A.getD i []).sum) ?_ (fun i S h' C W' m2 v hS0 y fx hw hn hv hr => ?_) rfl
      case nO => exact nm_local F'.ns i2
      · rw [List.length_map, hA'.len]; rfl
      · obtain ⟨hi, rfl⟩ := li_get hS0
        refine ev_callB (nm_boot X T.g T.b T.builtins ((hT.trans F'.old).trans y) (by k_is) boot_sum) (evl_cons (ev_name (nm_local hn hv) hr) evl_nil) (callB_sum hA.handled)
end
end Mine
namespace Mine
structure Bar (M : List (List Int)) (R : Nat → Nat → Nat → Int) (d : Nat → Int) : Prop where
  r0 : ∀ i j, i < 5 → j < 10 → R 0 i j = if j < 5 then at2 M i j else (if i = j - 5 then 1 else 0)
  d0 : d 0 = 1
  dk : ∀ k, k < 5 → d (k + 1) = R k k k
  dne : ∀ k, k < 5 → d k ≠ 0
  own : ∀ k j, k < 5 → j < 10 → R (k + 1) k j = R k k j
  stp : ∀ k i j, k < 5 → i < 5 → i ≠ k → j < 10 → (R k k k * R k i j - R k i k * R k k j).fdiv (d k) = R (k + 1) i j
  bR : ∀ k i j, k ≤ 5 → i < 5 → j < 10 → Builtin.Int.intBits (R k i j) ≤ 200
  bd : ∀ k, k ≤ 5 → Builtin.Int.intBits (d k) ≤ 200
def rowL (f : Nat → Int) : List Int := (List.range 10).map f
theorem rowL_item {f : Nat → Int} {j : Nat} (h : j < 10) : ((rowL f).map IsI)[((j : Nat) : Int).toNat]? = some (IsI (f j)) := by
  rw [List.getElem?_map, rowL, List.getElem?_map]
  simp [h]
theorem rowL_first {M : List (List Int)} {R : Nat → Nat → Nat → Int} {d : Nat → Int} (hM : Sq M) (B : Bar M R d) {i : Nat} (hi : i < 5) :
    (M.getD i []).map IsI ++ (List.range 5).map (fun j => IsI (if i = j then 1 else 0)) = (rowL (R 0 i)).map IsI := by
  have hl : (M.getD i []).length = 5 := hM.2 i hi
  have e : M.getD i [] = (List.range 5).map fun j => at2 M i j := by
    refine List.ext_getElem (by rw [hl, List.length_map, List.length_range]) fun n h1 h2 => ?_
    rw [List.getElem_map, List.getElem_range]
    unfold at2
    rw [List.getD_eq_getElem?_getD (l := M.getD i []), List.getElem?_eq_getElem h1]; rfl
  rw [e]
  have e2 : rowL (R 0 i) = ((List.range 5).map fun j => at2 M i j) ++ (List.range 5).map (fun j => if i = j then (1 : Int) else 0) := by
    unfold rowL
    rw [show (10 : Nat) = 5 + 5 from rfl, List.range_add, List.map_append, List.map_map]
    congr 1
    · refine List.map_congr_left fun j hj => ?_
      have := List.mem_range.mp hj
      rw [B.r0 i j hi (by omega), if_pos this]
    · refine List.map_congr_left fun j hj => ?_
      have := List.mem_range.mp hj
      show R 0 i (5 + j) = _
      rw [B.r0 i (5 + j) hi (by omega), if_neg (by omega), show 5 + j - 5 = j by omega]
  rw [e2, List.map_append, List.map_map, List.map_map]
  rfl
section
variable {prog : Program} {w : World} {T0 : Heap} {p : Program} {loose : List Str} {mean : ExcName → Option Value} {mg mb : Str → Option Value}
set_option maxRecDepth 100000 in
set_option maxHeartbeats 4000000 in
theorem turned_fn (X : (hd.heap_39 w.params).In T0) (T : Top p loose mean mg mb T0) {M : List (List Int)} (hM : Sq M) {R : Nat → Nat → Nat → Int} {d : Nat → Int} (B : Bar M R d) :
    Fn prog w T0 1 60 [IsM M] (IsT [IsI (d 5), IsM ((List.range 5).map fun i => (rowL (R 5 i)).drop 5)]) := by
  refine' fn_K X T.nolimit ?ho ?hcd (fun vs => [Str.ofString "table"].zip vs) ?hbind ?hkind ?hnd ?hb ?c1 ?c2 ?c3
  case ho => k_is
  case hcd => k_is
  case hbind => 
    intro vs hvs
    obtain ⟨a, rfl⟩ := len1 hvs
    rfl
  case hkind =>
    intro vs hvs n
    obtain ⟨a, rfl⟩ := len1 hvs
    exact kindsX rfl n
  case hnd => decide +kernel
  case c1 => rfl
  case c2 => rfl
  case c3 => rfl
  case hb =>
    intro W A s s₁ L vs Q E hA hT hlen F hargs k
    obtain ⟨v1, rfl⟩ := len1 hlen
    obtain ⟨r1, _⟩ := hargs
    have hT1 : Ext T0 s₁.heap := hT.trans F.old
    have cT : s₁.heap.IsCell (L + 1) (some v1) := F.cell (Str.ofString "table") (L + 1) rfl
    have L5 : ((List.range 5).map fun i => IsI (i : Nat)).length ≤ sizeLine := by rw [List.length_map, List.length_range]; exact range5_z
    refine wpAny_execs_cons (ax_compC F (src_range (n := 5) hA.handled (nm_boot X T.g T.b T.builtins hT1 (by k_is) boot_range) ev_int range5_z) L5 (fun i => IsLI (rowL (R 0 i))) (Rs := (List.range 5).map fun i => IsLI (rowL (R 0 i))) rfl
      (fun i S h' C c W' v hS y fx hw hv hr => ?_) (fun D ys n s2 F2 g2 gD a2 hDW hD0 => ?_) rfl (fun _ _ => rfl) (fun _ => rfl) rfl)
    · obtain ⟨hi, rfl⟩ := range_item hS
      show Ev prog w W' A _ h' _ (IsL _)
      rw [← rowL_first hM B hi]
      refine' ev_cat (ev_item (ev_name ?nT ((IsM M).mono fx r1)) (ev_name ?nI hr) (by omega) (by omega) (isM_row (by rw [hM.1]; exact hi)))
        (ev_comp hA.handled (src_range (n := 5) hA.handled (nm_boot X T.g T.b T.builtins (hT1.trans y) (by k_is) boot_range) ev_int range5_z) L5 (fun j => IsI (if i = j then 1 else 0)) rfl
          (fun j S2 h2 C2 W2 m2 v2 hS2 y2 fx2 hw2 hn2 hv2 hr2 => ?_) rfl) ?hz
      case nT => exact nm_cell rfl (cT.keeps y)
      case nI => exact nm_cell rfl hv
      case hz =>
        rw [List.length_map, List.length_map, List.length_range, sizeLine_eq]
        have : (M.getD i []).length = 5 := hM.2 i hi
        omega
      · obtain ⟨hj, rfl⟩ := range_item hS2
        refine ev_ite (c := (((i : Nat) : Int) == ((j : Nat) : Int))) (tv_cmp (ev_name (nm_cell rfl (hv.keeps y2)) ((IsI (i : Nat)).mono fx2 hr)) (ev_name (nm_local hn2 hv2) hr2) cmp_eq) (fun q => ?_) (fun q => ?_)
        · have : i = j := by simp at q; omega
          rw [if_pos this]; exact ev_int
        · have : i ≠ j := by simp at q; omega
          rw [if_neg this]; exact ev_int
    · have hDs : s.heap.get? D = none := by
        cases e : s.heap.get? D with
        | none => rfl
        | some o => have := F.old _ _ e; rw [hD0] at this; cases this
      have F3 := F2.watch gD hDW hDs
      refine wpAny_execs_cons (x_setC (c := L + 1 + 1) F3 rfl (P := IsI (d 0)) (by rw [B.d0]; exact ev_int) fun vl s4 F4 g4 rl => ?_)
      refine wpAny_execs_cons (x_for F4 (src_range (n := 5) hA.handled (nm_boot X T.g T.b T.builtins (hT.trans F4.old) (by k_is) boot_range) ev_int range5_z) (storeC (c := L + 1 + 1 + 1) rfl)
        (fun kk G Mu m cm => ∃ (ys : List Value) (n : Nat) (vl : Value), Mu = [(D, PySem.W.listOf ys.toArray n)] ∧ All2 G ys ((List.range 5).map fun i => IsLI (rowL (R kk i))) ∧ m (Str.ofString "rows") = some (.ref D) ∧ cm (Str.ofString "last") = some vl ∧ (IsI (d kk)).rel G vl)
        (fun _ G G' _ _ _ g ⟨ys, n, vl, e, a, q1, q2, q3⟩ => ⟨ys, n, vl, e, a.mono g, q1, q2, (IsI _).mono g q3⟩) (fun _ _ _ _ => False) (fun _ _ _ _ _ _ h => h)
        ⟨ys, n, vl, rfl, a2.mono g4, upd_same, upd_same, rl⟩
        (fun kk S vk I oI Mu m cm s5 G1 E' hS g1 g5 F5 hrk inv => ?_) (fun m' cm' Mu' s' E' F' g inv => ?_) (fun _ _ _ _ _ _ h => h.elim))
      · obtain ⟨hk, rfl⟩ := range_item hS
        obtain ⟨ys5, n5, vl5, rfl, a5, i1, i2, i3⟩ := inv
        refine wpAny_execs_cons (x_setC (c := L + 1 + 1 + 1 + 1) F5 rfl (P := IsLI (rowL (R kk kk))) (ev_itemW (F5.mu (D, PySem.W.listOf ys5.toArray n5) (List.mem_cons_of_mem _ List.mem_cons_self)).1 a5 (ev_name (nm_local F5.ns i1) rfl) (ev_name (nm_cell (c := L + 1 + 1 + 1) rfl (F5.cellAt rfl upd_same)) hrk) (by omega) (by omega) (range_at hk)) fun ve s6 F6 g6 re => ?_)
        refine wpAny_execs_cons (x_for F6 (src_range (n := 5) hA.handled (nm_boot X T.g T.b T.builtins (hT.trans F6.old) (by k_is) boot_range) ev_int range5_z) storeL
          (fun ii G Mu m cm => ∃ (ys : List Value) (n : Nat), Mu = [(I, oI), (D, PySem.W.listOf ys.toArray n)] ∧ All2 G ys ((List.range 5).map fun t => if t < ii then IsLI (rowL (R (kk + 1) t)) else IsLI (rowL (R kk t))) ∧ m (Str.ofString "rows") = some (.ref D) ∧
            cm (Str.ofString "lead") = some ve ∧ cm (Str.ofString "last") = some vl5 ∧ cm (Str.ofString "k") = some vk)
          (fun _ G G' _ _ _ g ⟨ys, n, e, a, q1, q2⟩ => ⟨ys, n, e, a.mono g, q1, q2⟩) (fun _ _ _ _ => False) (fun _ _ _ _ _ _ h => h)
          ⟨ys5, n5, rfl, ?_, i1, upd_same, upd_other (upd_other i2), upd_other upd_same⟩
          (fun i S2 vi J oJ Mu m cm s7 G2 E'' hS2 g7 g8 F7 hri inv => ?_) (fun m' cm' Mu' s' E'' F' g inv => ?_) (fun _ _ _ _ _ _ h => h.elim))
        · exact a5.mono g6
        · obtain ⟨hi, rfl⟩ := range_item hS2
          obtain ⟨ys7, n7, rfl, a7, j1, j2, j3, j4⟩ := inv
          have G7 : FExt (Fz (I :: D :: W) s6.heap) (Fz (J :: I :: D :: W) s7.heap) := g7.trans g8
          refine wpAny_execs_cons (x_if (b := ((i : Nat) : Int) != ((kk : Nat) : Int)) F7 (tv_cmp (ev_name (nm_local F7.ns upd_same) hri) (ev_name (nm_cell (c := L + 1 + 1 + 1) rfl (F7.cellAt rfl j4)) ((IsI _).mono (g6.trans G7) hrk)) cmp_ne) fun s8 F8 g9 y9 => ?_)
          have G8 : FExt (Fz (I :: D :: W) s6.heap) (Fz (J :: I :: D :: W) s8.heap) := G7.trans g9
          by_cases hik : i = kk
          · subst hik
            rw [if_neg (by simp)]
            refine wpAny_execs_nil (wpAny_execs_nil ?_)
            refine ⟨_, _, _, F8, g8.trans g9, ys7, n7, rfl, ?_, upd_other j1, j2, j3, j4⟩
            have e := range_keep (f := fun t => IsLI (rowL (R i t))) (g := fun t => IsLI (rowL (R (i + 1) t))) (n := 5) (i := i) (congrArg IsLI (List.map_congr_left fun j hj => B.own i j hi (List.mem_range.mp hj)))
            rw [← e]
            exact a7.mono g9
          · rw [if_pos (by simp; omega)]
            refine wpAny_execs_cons (x_setC (c := L + 1 + 1 + 1 + 1 + 1) F8 rfl (P := IsLI (rowL (R kk i))) (ev_itemW (F8.mu (D, PySem.W.listOf ys7.toArray n7) (List.mem_cons_of_mem _ (List.mem_cons_of_mem _ List.mem_cons_self))).1 (a7.mono g9) (ev_name (nm_local F8.ns (upd_other j1)) rfl) (ev_name (nm_local F8.ns upd_same) ((IsI _).mono g9 hri)) (by omega) (by omega) ?_) fun vo s9 F9 g10 ro => ?_)
            · rw [range_at hi, if_neg (Nat.lt_irrefl i)]
            have G9 : FExt (Fz (I :: D :: W) s6.heap) (Fz (J :: I :: D :: W) s9.heap) := G8.trans g10
            have G79 : FExt (Fz (J :: I :: D :: W) s7.heap) (Fz (J :: I :: D :: W) s9.heap) := g9.trans g10
            have cLead := F9.cellAt (n := Str.ofString "lead") (c := L + 1 + 1 + 1 + 1) rfl (upd_other j2)
            have cLast := F9.cellAt (n := Str.ofString "last") (c := L + 1 + 1) rfl (upd_other j3)
            have cK := F9.cellAt (n := Str.ofString "k") (c := L + 1 + 1 + 1) rfl (upd_other j4)
            have cOwn := F9.cellAt (n := Str.ofString "own") (c := L + 1 + 1 + 1 + 1 + 1) rfl upd_same
            have l7 : ys7.length = 5 := by rw [a7.length, List.length_map, List.length_range]
            refine wpAny_execs_cons (x_setAt (pre := [(J, oJ), (I, oI)]) (post := []) (P := IsLI (rowL (R (kk + 1) i))) (k := ((i : Nat) : Int)) F9 ?_ (fun h' y => ev_name (nm_local (F9.ns.keeps y) (upd_other j1)) rfl) (fun h' y => ev_name (nm_local (F9.ns.keeps y) upd_same) ((IsI _).mono (G79.trans (y.fz _)) hri)) (by omega) (by omega) (by rw [l7]; omega) fun v s10 F10 g11 rv => ?_)
            · refine' ev_comp hA.handled (src_range (n := 10) hA.handled (nm_boot X T.g T.b T.builtins (hT.trans F9.old) (by k_is) boot_range) ev_int (by rw [sizeLine_eq]; omega)) (by rw [List.length_map, List.length_range, sizeLine_eq]; omega) (fun j => IsI (R (kk + 1) i j)) ?_
                (fun j S3 h' C W' m3 v3 hS3 y fx hw hn hv hr3 => ?_) rfl
              · rw [List.length_map, List.length_range, rowL, List.map_map]; rfl
              · obtain ⟨hj, rfl⟩ := range_item hS3
                rw [← B.stp kk i j hk hi hik hj]
                have hRe := (IsLI (rowL (R kk kk))).mono (G9.trans fx) re
                have hRo := (IsLI (rowL (R kk i))).mono fx ro
                have hRk := (IsI (kk : Nat)).mono ((g6.trans G9).trans fx) hrk
                have hRl := (IsI (d kk)).mono ((g6.trans G9).trans fx) i3
                refine' ev_fdiv (ev_sub (ev_mul (ev_item (ev_name ?nE hRe) (ev_name ?nK hRk) (by omega) (by omega) (rowL_item (by omega))) (ev_item (ev_name ?nO hRo) (ev_name ?nJ hr3) (by omega) (by omega) (rowL_item hj)) (.of_le (B.bR kk kk kk (by omega) hk (by omega)) (B.bR kk i j (by omega) hi hj) (by omega)))
                  (ev_mul (ev_item (ev_name ?nO hRo) (ev_name ?nK hRk) (by omega) (by omega) (rowL_item (by omega))) (ev_item (ev_name ?nE hRe) (ev_name ?nJ hr3) (by omega) (by omega) (rowL_item hj)) (.of_le (B.bR kk i kk (by omega) hi (by omega)) (B.bR kk kk j (by omega) hk hj) (by omega))))
                  (ev_name ?nL hRl) (B.dne kk hk) (noPy (B.bd kk (by omega)))
                case nE => exact nm_cell rfl (cLead.keeps y)
                case nK => exact nm_cell rfl (cK.keeps y)
                case nO => exact nm_cell rfl (cOwn.keeps y)
                case nJ => exact nm_local hn hv
                case nL => exact nm_cell rfl (cLast.keeps y)
            refine wpAny_execs_nil (wpAny_execs_nil ?_)
            refine ⟨_, _, _, F10, (g8.trans G79).trans g11, ys7.set i v, n7, rfl, ?_, upd_other j1, upd_other j2, upd_other j3, upd_other j4⟩
            rw [← range_set hi]
            exact (a7.mono (G79.trans g11)).set rv
        · obtain ⟨ys8, n8, rfl, a8, j1, j2, j3, j4⟩ := inv
          refine wpAny_execs_nil ?_
          refine wpAny_execs_cons (x_setC (c := L + 1 + 1) F' rfl (P := IsI (d (kk + 1))) ?_ fun vl s9 F9 g9 rl9 => ?_)
          · rw [B.dk kk hk]
            exact ev_item (ev_name (nm_cell (c := L + 1 + 1 + 1 + 1) rfl (F'.cellAt rfl j2)) ((IsLI _).mono g re)) (ev_name (nm_cell (c := L + 1 + 1 + 1) rfl (F'.cellAt rfl j4)) ((IsI _).mono (g6.trans g) hrk)) (by omega) (by omega) (rowL_item (by omega))
          refine wpAny_execs_nil ?_
          refine ⟨_, _, _, F9, ((g5.trans g6).trans g).trans g9, ys8, n8, vl, rfl, ?_, j1, upd_same, rl9⟩
          refine All2.mono g9 ?_
          have e : ((List.range 5).map fun i => IsLI (rowL (R (kk + 1) i))) = (List.range 5).map fun t => if t < (((List.range 5).map fun i => IsI (i : Nat)).length) then IsLI (rowL (R (kk + 1) t)) else IsLI (rowL (R kk t)) :=
            List.map_congr_left fun t ht => by
              have := List.mem_range.mp ht
              rw [List.length_map, List.length_range, if_pos this]
          rw [e]; exact a8
      · obtain ⟨ys8, n8, vl8, rfl, a8, j1, j2, j3⟩ := inv
        have gD8 := (F'.mu (D, PySem.W.listOf ys8.toArray n8) List.mem_cons_self).1
        have F6 := F'.less hDW
        refine wpAny_execs_nil ?_
        have a9 : All2 (Fz W s'.heap) ys8 ((List.range 5).map fun i => IsLI (rowL (R 5 i))) := a8.mono (fext_sub fun b hb => List.mem_cons_of_mem _ hb)
        refine wpAny_execs_cons (x_retF F6 ?_ fun v h' tk' y p => k v h' tk' y p)
        refine ev_tuple (evl_cons (ev_name (nm_cell (c := L + 1 + 1) rfl (F6.cellAt rfl j2)) ((IsI (d 5)).mono (fext_sub fun b hb => List.mem_cons_of_mem _ hb) j3)) (evl_cons ?_ evl_nil))
        refine ev_comp hA.handled (src_list hA.handled (ev_name (P := IsL ((List.range 5).map fun i => IsLI (rowL (R 5 i)))) (nm_local F6.ns j1) ⟨D, ys8, n8, rfl, Fz.of hDW gD8, a9⟩)) ?_ (fun i => IsLI ((rowL (R 5 i)).drop 5)) ?_ (fun i S h' C W' m2 v hS y fx hw hn hv hr => ?_) rfl
        · rw [List.length_map, List.length_range]; exact range5_z
        · rw [List.length_map, List.length_range, List.map_map]; rfl
        · have hi : i < 5 := by
            rcases Nat.lt_or_ge i 5 with q | q
            · exact q
            · rw [List.getElem?_eq_none (by simpa using q)] at hS; cases hS
          have := range_at (f := fun i => IsLI (rowL (R 5 i))) hi
          rw [Int.toNat_natCast, hS] at this
          cases this
          show Ev prog w W' A _ h' _ (IsL (((rowL (R 5 i)).drop 5).map IsI))
          rw [List.map_drop]
          exact ev_sliceFrom (a := 5) (ev_name (nm_local hn hv) hr) (by simp [rowL]) (by simp [rowL, sizeLine_eq])
end
end Mine
namespace Mine
abbrev IsLN (g : List Nat) : RP := IsL (g.map fun i => IsI (i : Nat))
abbrev bits := Builtin.Int.intBits
def wb : Nat → Nat
  | 0 => 8
  | n + 1 => 5 * (wb n + 1) + 12
theorem wloop_bits {rec : List Nat → Int × Int} {U : Nat → Nat → Int} {m : Int} {c : Nat} (hr : ∀ p, p.length ≤ 5 → bits (rec p).1 ≤ c ∧ bits (rec p).2 ≤ c) : ∀ (n : Nat) (l : List Nat) (up down : Int) (b : Nat), l.length ≤ 5 → bits up ≤ b → bits down ≤ b →
    bits (wloop rec U m n l up down).1 ≤ b + n * (c + 1) ∧ bits (wloop rec U m n l up down).2 ≤ b + n * (c + 1)
  | 0, l, up, down, b, h5, h1, h2 => ⟨by show bits up ≤ _; omega, by show bits down ≤ _; omega⟩
  | n + 1, l, up, down, b, h5, h1, h2 => by
    unfold wloop
    by_cases hl : l = []
    · rw [if_pos hl]; exact ⟨by show bits up ≤ _; omega, by show bits down ≤ _; omega⟩
    · rw [if_neg hl]
      obtain ⟨r1, r2⟩ := hr (wpart U m l) (Nat.le_trans wpart_sub.length_le h5)
      have a1 := intBits_add_le (intBits_mul_le h1 r2) (intBits_mul_le r1 h2)
      have a2 := intBits_mul_le h2 r2
      obtain ⟨q1, q2⟩ := wloop_bits hr n (wrest (wpart U m l) l) _ _ (b + (c + 1)) (Nat.le_trans wrest_sub.length_le h5) (Nat.le_trans a1 (by omega)) (Nat.le_trans a2 (by omega))
      have e : b + (c + 1) + n * (c + 1) = b + (n + 1) * (c + 1) := by rw [Nat.add_mul]; omega
      rw [e] at q1 q2
      exact ⟨q1, q2⟩
theorem bits_small {x : Int} (h : -128 ≤ x) (h' : x < 128) : bits x ≤ 8 := by
  refine intBits_le ?_
  omega
theorem wire_bits {U : Nat → Nat → Int} (hb : ∀ i j, 0 ≤ U i j ∧ U i j ≤ 27) : ∀ (n : Nat) (g : List Nat) (f : Int), 0 ≤ f → f ≤ 27 → (g.length ≤ 5) → bits (wire U n g f).1 ≤ wb n ∧ bits (wire U n g f).2 ≤ wb n
  | 0, g, f, _, _, _ => ⟨by show bits 0 ≤ 8; decide, by show bits 1 ≤ 8; decide⟩
  | n + 1, g, f, h0, h27, h5 => by
    unfold wire
    by_cases h1 : g.length = 1
    · rw [if_pos h1]
      have := hb (g.headD 0) (g.headD 0)
      have w8 : 8 ≤ wb (n + 1) := by unfold wb; omega
      exact ⟨Nat.le_trans (by decide : bits 1 ≤ 8) w8, Nat.le_trans (bits_small (by omega) (by omega)) w8⟩
    · rw [if_neg h1]
      have hm : 0 ≤ wmeet U g ∧ wmeet U g ≤ 27 := by
        by_cases hg : g = []
        · subst hg; exact ⟨Int.le_refl 0, by show (0 : Int) ≤ 27; omega⟩
        · obtain ⟨i, _, j, _, q⟩ := wmeet_at (U := U) hg
          rw [q]; exact hb i j
      obtain ⟨q1, q2⟩ := wloop_bits (rec := fun p => wire U n p (wmeet U g)) (U := U) (m := wmeet U g) (c := wb n) (fun p hp => wire_bits hb n p _ hm.1 hm.2 hp) g.length g 0 1 1 h5 (by decide) (by decide)
      have e : 1 + g.length * (wb n + 1) ≤ 1 + 5 * (wb n + 1) := Nat.add_le_add_left (Nat.mul_le_mul_right _ h5) 1
      have p1 := Nat.le_trans q1 e
      have p2 := Nat.le_trans q2 e
      have a := intBits_add_le p2 (intBits_mul_le (bits_small (x := wmeet U g - f) (by omega) (by omega)) p1)
      unfold wb
      exact ⟨Nat.le_trans p1 (by omega), Nat.le_trans a (by omega)⟩
theorem part_range (p : Nat → Bool) : ∀ l : List Nat, ((List.range l.length).filterMap fun i => if p (l.getD i 0) then some (IsI (l.getD i 0 : Nat)) else none) = (l.filter p).map fun i => IsI (i : Nat)
  | [] => rfl
  | a :: l => by
    rw [List.length_cons, List.range_succ_eq_map, List.filterMap_cons, List.filterMap_map]
    have ih := part_range p l
    have e : ((fun i => if p ((a :: l).getD i 0) then some (IsI ((a :: l).getD i 0 : Nat)) else none) ∘ Nat.succ) = fun i => if p (l.getD i 0) then some (IsI (l.getD i 0 : Nat)) else none := by
      funext i; simp [List.getD_cons_succ]
    rw [e, ih]
    by_cases h : p a = true
    · simp [List.filter_cons_of_pos h, h]
    · simp [List.filter_cons_of_neg h, h]
theorem n_get {ns : List Nat} {i : Nat} {S : RP} (h : (ns.map fun i => IsI (i : Nat))[i]? = some S) : i < ns.length ∧ S = IsI (ns.getD i 0 : Nat) := by
  rw [List.getElem?_map] at h
  by_cases hi : i < ns.length
  · rw [List.getElem?_eq_getElem hi] at h; cases h
    refine ⟨hi, ?_⟩
    rw [List.getD_eq_getElem?_getD, List.getElem?_eq_getElem hi]; rfl
  · rw [List.getElem?_eq_none (by omega)] at h; cases h
theorem n_item {ns : List Nat} {i : Nat} (h : i < ns.length) : (ns.map fun i => IsI (i : Nat))[((i : Nat) : Int).toNat]? = some (IsI (ns.getD i 0 : Nat)) := by
  rw [Int.toNat_natCast, List.getElem?_map, List.getElem?_eq_getElem h, List.getD_eq_getElem?_getD, List.getElem?_eq_getElem h]; rfl
theorem headD_getD (l : List Nat) : l.headD 0 = l.getD 0 0 := by cases l <;> rfl
theorem range_map_getD {β : Type} (F : Nat → β) : ∀ l : List Nat, ((List.range l.length).map fun i => F (l.getD i 0)) = l.map F
  | [] => rfl
  | a :: l => by
    rw [List.length_cons, List.range_succ_eq_map, List.map_cons, List.map_map, List.map_cons]
    congr 1
    rw [← range_map_getD F l]
    refine List.map_congr_left fun i _ => ?_
    simp [List.getD_cons_succ]
theorem range_flatMap_getD {β : Type} (F : Nat → List β) (l : List Nat) : ((List.range l.length).flatMap fun i => F (l.getD i 0)) = l.flatMap F := by
  rw [List.flatMap_def, List.flatMap_def, range_map_getD]
theorem ln_item {l : List Nat} {i : Nat} (h : i < l.length) : l.getD i 0 ∈ l := by
  rw [List.getD_eq_getElem?_getD, List.getElem?_eq_getElem h]; exact List.getElem_mem h
theorem ln_li (g : List Nat) : IsLN g = IsLI (g.map Int.ofNat) := by
  show IsL _ = IsL _
  rw [List.map_map]; rfl
section
variable {prog : Program} {w : World} {W : List Addr} {A : Around} {env : Env} {h : Heap}
theorem cmp_neNilN {l : List Nat} (hu : A.units < cLine) : Cmp prog w W A h .NotEq (IsLN l) (IsL []) (decide (l ≠ [])) := by
  by_cases e : l = []
  · subst e; exact cmp_neNil hu
  · rw [decide_eq_true e]
    exact cmp_neLen hu (by simpa using e)
theorem cmp_notinN {k : Nat} {l : List Nat} : Cmp prog w W A h .NotIn (IsI (k : Nat)) (IsLN l) (!(l.any (· == k))) := by
  rw [ln_li]
  have e : ((l.map Int.ofNat).any (· == ((k : Nat) : Int))) = l.any (· == k) := by
    rw [List.any_map]
    congr 1
    funext i
    by_cases q : i = k
    · subst q; simp
    · have h1 : (Int.ofNat i == ((k : Nat) : Int)) = false := beq_eq_false_iff_ne.mpr fun e => q (Int.ofNat.inj e)
      rw [Function.comp, h1, beq_eq_false_iff_ne.mpr q]
  rw [← e]
  exact cmp_notin
end
section
variable {prog : Program} {w : World} {T0 : Heap} {p : Program} {loose : List Str} {mean : ExcName → Option Value} {mg mb : Str → Option Value}
set_option maxRecDepth 100000 in
set_option maxHeartbeats 4000000 in
theorem wire_fn (X : (hd.heap_39 w.params).In T0) (T : Top p loose mean mg mb T0) {M : List (List Int)} (hM : Sq M) (u : Ult (at2 M)) : ∀ (n : Nat) (g : List Nat) (f : Int), g ≠ [] → g.length ≤ n → n ≤ 5 → g.Nodup → (∀ i ∈ g, i < 5) → 0 ≤ f → f ≤ 27 →
    Fn prog w T0 n 65 [IsLN g, IsM M, IsI f] (IsT [IsI (wire (at2 M) n g f).1, IsI (wire (at2 M) n g f).2])
  | 0, g, f, h0, hl, _, _, _, _, _ => absurd (List.length_eq_zero_iff.mp (Nat.le_zero.mp hl)) h0
  | n + 1, g, f, h0, hl, hn5, hnd, h5, hf0, hf27 => by
    refine' fn_K X T.nolimit ?ho ?hcd (fun vs => [Str.ofString "group", Str.ofString "table", Str.ofString "floor"].zip vs) ?hbind ?hkind ?hnd ?hb ?c1 ?c2 ?c3
    case ho => k_is
    case hcd => k_is
    case hbind => 
      intro vs hvs
      obtain ⟨a, b, c, rfl⟩ := len3 hvs
      rfl
    case hkind =>
      intro vs hvs n
      obtain ⟨a, b, c, rfl⟩ := len3 hvs
      exact kindsX rfl n
    case hnd => decide +kernel
    case c1 => rfl
    case c2 => rfl
    case c3 => rfl
    case hb =>
      intro W A s s₁ L vs Q E hA hT hlen F hargs k
      obtain ⟨v1, v2, v3, rfl⟩ := len3 hlen
      obtain ⟨r1, r2, r3, _⟩ := hargs
      have hT1 : Ext T0 s₁.heap := hT.trans F.old
      have cG : s₁.heap.IsCell (L + 1) (some v1) := F.cell (Str.ofString "group") (L + 1) rfl
      have cT : s₁.heap.IsCell (L + 1 + 1) (some v2) := F.cell (Str.ofString "table") (L + 1 + 1) rfl
      have hub := fun i j => And.intro (u.nn i j) (u.ub i j)
      by_cases h1 : g.length = 1
      · refine wpAny_execs_cons (x_if (b := true) F ?_ fun s2 F2 g2 y2 => ?_)
        · refine' tv_eq (tv_cmp (ev_callB (nm_boot X T.g T.b T.builtins hT1 (by k_is) boot_len) (evl_cons (ev_name ?nG r1) evl_nil) (callB_len (by rw [List.length_map]; omega))) ev_int cmp_eq) ?_
          case nG => exact nm_cell rfl cG
          · rw [List.length_map, h1]; rfl
        · simp only [if_true]
          refine wpAny_execs_cons (x_retF F2 ?_ fun v h' tk' y p => k v h' tk' y p)
          have e : wire (at2 M) (n + 1) g f = (1, at2 M (g.getD 0 0) (g.getD 0 0) - f) := by
            conv => lhs; unfold wire
            rw [if_pos h1, headD_getD]
          rw [e]
          have hx : g.getD 0 0 < 5 := h5 _ (ln_item (by omega))
          refine' ev_tuple (evl_cons ev_int (evl_cons (ev_sub (ev_at2 hM hx hx (ev_name ?nT ((IsM M).mono g2 r2)) (ev_item (ev_name ?nG ((IsLN g).mono g2 r1)) ev_int (by omega) (by omega) (n_item (i := 0) (by omega)))
            (ev_item (ev_name ?nG ((IsLN g).mono g2 r1)) ev_int (by omega) (by omega) (n_item (i := 0) (by omega)))) (ev_name ?nF ((IsI f).mono g2 r3))) evl_nil))
          case nG => exact nm_cell rfl (cG.keeps y2)
          case nT => exact nm_cell rfl (cT.keeps y2)
          case nF => exact nm_local F2.ns rfl
      · refine wpAny_execs_cons (x_if (b := false) F ?_ fun s2 F2 g2 y2 => ?_)
        · refine' tv_eq (tv_cmp (ev_callB (nm_boot X T.g T.b T.builtins hT1 (by k_is) boot_len) (evl_cons (ev_name ?nG r1) evl_nil) (callB_len (by rw [List.length_map]; omega))) ev_int cmp_eq) ?_
          case nG => exact nm_cell rfl cG
          · rw [List.length_map, beq_eq_false_iff_ne]; omega
        · simp only [Bool.false_eq_true, if_false]
          refine wpAny_execs_nil ?_
          have hl2 : 2 ≤ g.length := by
            match g, h0, h1 with
            | a :: b :: r, _, _ => simp
          have hmd : ∀ i ∈ g, wmeet (at2 M) g < at2 M i i := fun i hi => wmeet_diag u hnd hl2 h5 hi
          have hm27 : 0 ≤ wmeet (at2 M) g ∧ wmeet (at2 M) g ≤ 27 := by
            obtain ⟨i, _, j, _, q⟩ := wmeet_at (U := at2 M) h0
            rw [q]; exact hub i j
          -- meet
          refine wpAny_execs_cons (x_setC (c := L + 1 + 1 + 1) F2 rfl (P := IsI (wmeet (at2 M) g)) ?_ fun vm s3 F3 g3 rm => ?_)
          · refine ev_callB (nm_boot X T.g T.b T.builtins (hT.trans F2.old) (by k_is) boot_min) (evl_cons ?_ evl_nil) (callB_min (ns := g.flatMap fun i => g.map fun j => at2 M i j) hA.handled ?_)
            · have e : (g.flatMap fun i => g.map fun j => at2 M i j).map IsI = (List.range (g.map fun i => IsI (i : Nat)).length).flatMap fun i => (List.range g.length).map fun j => IsI (at2 M (g.getD i 0) (g.getD j 0)) := by
                rw [List.length_map, List.map_flatMap]
                have q : ∀ i : Nat, ((List.range g.length).map fun j => IsI (at2 M (g.getD i 0) (g.getD j 0))) = g.map fun j => IsI (at2 M (g.getD i 0) j) := fun i => range_map_getD (fun j => IsI (at2 M (g.getD i 0) j)) g
                simp only [q]
                rw [range_flatMap_getD (fun i => g.map fun j => IsI (at2 M i j)) g]
                simp only [List.map_map]
                rfl
              refine' ev_comp2 hA.handled (src_list hA.handled (ev_name ?nG ((IsLN g).mono g2 r1))) (fun _ => g.length) (fun i hi => ?_) (fun _ => g.map fun i => IsI (i : Nat)) (fun _ => by rw [List.length_map])
                (fun i j => IsI (at2 M (g.getD i 0) (g.getD j 0))) e.symm (fun i S h' C W' m2 v hS y fx hw hn hv hr => ?_) (fun i j S S2 h' C W' m2 v v3 hS hS2 y fx hw hn hv hv2 hr hr2 => ?_) rfl
              case nG => exact nm_cell rfl (cG.keeps y2)
              · rw [List.length_map] at hi
                rw [List.map_const', List.sum_replicate_nat, List.length_range, sizeLine_eq]
                have : i * g.length ≤ 5 * 5 := Nat.mul_le_mul (by omega) (by omega)
                omega
              · exact src_list hA.handled (ev_name (nm_cell rfl ((cG.keeps y2).keeps y)) ((IsLN g).mono (g2.trans fx) r1))
              · obtain ⟨hi, rfl⟩ := n_get hS
                obtain ⟨hj, rfl⟩ := n_get hS2
                exact ev_at2 hM (h5 _ (ln_item hi)) (h5 _ (ln_item hj)) (ev_name (nm_cell rfl ((cT.keeps y2).keeps y)) ((IsM M).mono (g2.trans fx) r2)) (ev_name (nm_local hn hv) hr) (ev_name (nm_local hn hv2) hr2)
            · match g, h0 with
              | a :: r, _ => simp
          -- up, down, left
          refine wpAny_execs_cons (x_set F3 ev_int fun vu s4 F4 g4 ru => ?_)
          refine wpAny_execs_cons (x_set F4 ev_int fun vd s5 F5 g5 rd => ?_)
          have G5 : FExt (Fz W s₁.heap) (Fz W s5.heap) := ((g2.trans g3).trans g4).trans g5
          refine wpAny_execs_cons (x_setC (c := L + 1 + 1 + 1 + 1) F5 rfl (P := IsLN g) ?_ fun vl s6 F6 g6 rl => ?_)
          · refine ev_callT (nm_boot X T.g T.b T.builtins (hT.trans F5.old) (by k_is) (by decide +kernel : bootBuiltins (Str.ofString "list") = some (.type "list"))) (evl_cons (ev_name (nm_cell (c := L + 1) rfl (F5.cell (Str.ofString "group") (L + 1) rfl)) ((IsLN g).mono G5 r1)) evl_nil) (callB_copy ?_)
            rw [List.length_map, sizeLine_eq]; omega
          have G6 : FExt (Fz W s₁.heap) (Fz W s6.heap) := G5.trans g6
          have Gm : FExt (Fz W s3.heap) (Fz W s6.heap) := (g4.trans g5).trans g6
          refine wpAny_execs_cons (x_while F6 (fun k G Mu m cm => Mu = [] ∧ m (Str.ofString "floor") = some v3 ∧ cm (Str.ofString "table") = some v2 ∧ cm (Str.ofString "meet") = some vm ∧
            ∃ l up down vl vu vd, l.Sublist g ∧ l.length ≤ k ∧ k ≤ g.length ∧ cm (Str.ofString "left") = some vl ∧ (IsLN l).rel G vl ∧ m (Str.ofString "up") = some vu ∧ m (Str.ofString "down") = some vd ∧ (IsI up).rel G vu ∧ (IsI down).rel G vd ∧
              wloop (fun p => wire (at2 M) n p (wmeet (at2 M) g)) (at2 M) (wmeet (at2 M) g) k l up down = wloop (fun p => wire (at2 M) n p (wmeet (at2 M) g)) (at2 M) (wmeet (at2 M) g) g.length g 0 1 ∧
              bits up ≤ 1 + (g.length - k) * (wb n + 1) ∧ bits down ≤ 1 + (g.length - k) * (wb n + 1)) g.length
            ⟨rfl, rfl, rfl, rfl, g, 0, 1, vl, vu, vd, List.Sublist.refl g, Nat.le_refl _, Nat.le_refl _, rfl, rl, rfl, rfl, (IsI 0).mono (g5.trans g6) ru, (IsI 1).mono g6 rd, rfl, by rw [Nat.sub_self, Nat.zero_mul]; decide, by rw [Nat.sub_self, Nat.zero_mul]; decide⟩
            (fun kk Mu m cm s7 G1 E' F7 g7 g8 inv => ?_))
          obtain ⟨rfl, iF, iT, iM, l, up, down, vl', vu', vd', hls, hlk, hkg, iL, rL, iU, iD, rU, rD, hw, bU, bD⟩ := inv
          have G7 : FExt (Fz W s₁.heap) (Fz W s7.heap) := (G6.trans g7).trans g8
          refine ⟨decide (l ≠ []), ?_, fun hb s8 F8 y8 g9 => ?_, fun hb s8 F8 y8 g9 => ?_⟩
          · exact tv_cmp (ev_name (nm_cell (c := L + 1 + 1 + 1 + 1) rfl (F7.cellAt rfl iL)) rL) (ev_list evl_nil) (cmp_neNilN hA.u)
          · have hl0 : l ≠ [] := of_decide_eq_true hb
            have rL8 : (IsLN l).rel (Fz W s8.heap) vl' := (IsLN l).mono (y8.fz W) rL
            have G8 : FExt (Fz W s₁.heap) (Fz W s8.heap) := (G6.trans g7).trans g9
            have hT8 : Ext T0 s8.heap := hT.trans F8.old
            have hlen : l.length ≤ 5 := by have := hls.length_le; omega
            have hz : l.length ≤ sizeLine := by rw [sizeLine_eq]; omega
            have l5 : ∀ i, i < l.length → l.getD i 0 < 5 := fun i hi => h5 _ (hls.subset (ln_item hi))
            have lpos : 0 < l.length := List.length_pos_iff.mpr hl0
            have rM8 : (IsI (wmeet (at2 M) g)).rel (Fz W s8.heap) vm := (IsI _).mono (Gm.trans (g7.trans g9)) rm
            -- part
            refine wpAny_execs_cons (x_setC (c := L + 1 + 1 + 1 + 1 + 1) F8 rfl (P := IsLN (wpart (at2 M) (wmeet (at2 M) g) l)) ?_ fun vp s9 F9 g10 rp => ?_)
            · refine' ev_compS hA.handled (src_list hA.handled (ev_name ?nL rL8)) (by rw [List.length_map]; exact hz)
                (fun i => if decide (wmeet (at2 M) g < at2 M (l.headD 0) (l.getD i 0)) = true then some (IsI (l.getD i 0 : Nat)) else none) ?_ (fun i S h' C W' m2 v hS y fx hw hn hv hr => ?_) rfl
              case nL => exact nm_cell (c := L + 1 + 1 + 1 + 1) rfl (F8.cellAt rfl iL)
              · rw [List.length_map]
                exact part_range (fun j => decide (wmeet (at2 M) g < at2 M (l.headD 0) j)) l
              · obtain ⟨hi, rfl⟩ := n_get hS
                refine ⟨decide (wmeet (at2 M) g < at2 M (l.headD 0) (l.getD i 0)), tests_one ?_, ?_⟩
                · rw [headD_getD]
                  exact tv_cmp (ev_at2 hM (l5 0 lpos) (l5 i hi) (ev_name (nm_cell (c := L + 1 + 1) rfl ((F8.cellAt rfl iT).keeps y)) ((IsM M).mono (G8.trans fx) r2))
                    (ev_item (ev_name (nm_cell (c := L + 1 + 1 + 1 + 1) rfl ((F8.cellAt rfl iL).keeps y)) ((IsLN l).mono fx rL8)) ev_int (by omega) (by omega) (n_item (i := 0) lpos)) (ev_name (nm_local hn hv) hr))
                    (ev_name (nm_cell (c := L + 1 + 1 + 1) rfl ((F8.cellAt rfl iM).keeps y)) ((IsI _).mono fx rM8)) cmp_gt
                · by_cases q : wmeet (at2 M) g < at2 M (l.headD 0) (l.getD i 0)
                  · rw [decide_eq_true q, if_pos rfl]
                    exact ⟨rfl, ev_name (nm_local hn hv) hr⟩
                  · rw [decide_eq_false q, if_neg Bool.false_ne_true]
            -- left
            refine wpAny_execs_cons (x_setC (c := L + 1 + 1 + 1 + 1) F9 rfl (P := IsLN (wrest (wpart (at2 M) (wmeet (at2 M) g) l) l)) ?_ fun vl2 s10 F10 g11 rl2 => ?_)
            · refine' ev_compS hA.handled (src_list hA.handled (ev_name ?nL ((IsLN l).mono g10 rL8))) (by rw [List.length_map]; exact hz)
                (fun i => if (!((wpart (at2 M) (wmeet (at2 M) g) l).any (· == l.getD i 0))) = true then some (IsI (l.getD i 0 : Nat)) else none) ?_ (fun i S h' C W' m2 v hS y fx hw hn hv hr => ?_) rfl
              case nL => exact nm_cell (c := L + 1 + 1 + 1 + 1) rfl (F9.cellAt rfl (upd_other iL))
              · rw [List.length_map]
                exact part_range (fun j => !((wpart (at2 M) (wmeet (at2 M) g) l).any (· == j))) l
              · obtain ⟨hi, rfl⟩ := n_get hS
                refine ⟨!((wpart (at2 M) (wmeet (at2 M) g) l).any (· == l.getD i 0)), tests_one ?_, ?_⟩
                · exact tv_cmp (ev_name (nm_local hn hv) hr) (ev_name (nm_cell (c := L + 1 + 1 + 1 + 1 + 1) rfl ((F9.cellAt rfl upd_same).keeps y)) ((IsLN _).mono fx rp)) cmp_notinN
                · cases q : (!((wpart (at2 M) (wmeet (at2 M) g) l).any (· == l.getD i 0))) with
                  | true => rw [if_pos rfl]; exact ⟨rfl, ev_name (nm_local hn hv) hr⟩
                  | false => rw [if_neg Bool.false_ne_true]
            -- the part's own wire
            have hps : (wpart (at2 M) (wmeet (at2 M) g) l).Sublist g := wpart_sub.trans hls
            have hhead := wpart_head hl0 (hmd _ (hls.subset (headD_mem hl0)))
            have hpne : wpart (at2 M) (wmeet (at2 M) g) l ≠ [] := fun e => by rw [e] at hhead; cases hhead
            have hplt := wpart_lt u h0 hls hl0
            have IH := wire_fn X T hM u n (wpart (at2 M) (wmeet (at2 M) g) l) (wmeet (at2 M) g) hpne (by omega) (by omega) (hnd.sublist hps) (fun i hi => h5 i (hps.subset hi)) hm27.1 hm27.2
            have WB := wire_bits hub n (wpart (at2 M) (wmeet (at2 M) g) l) (wmeet (at2 M) g) hm27.1 hm27.2 (by have := hps.length_le; omega)
            refine wpAny_execs_cons (x_setT2 hA.handled F10 (P1 := IsI (wire (at2 M) n (wpart (at2 M) (wmeet (at2 M) g) l) (wmeet (at2 M) g)).1) (P2 := IsI (wire (at2 M) n (wpart (at2 M) (wmeet (at2 M) g) l) (wmeet (at2 M) g)).2) ?_ fun va vb s11 F11 g12 ra rb => ?_)
            · refine ev_callK X (hT.trans F10.old) (by k_is) (nm_glob X T.g (hT.trans F10.old) (by k_is)) (evl_cons (ev_name (nm_cell (c := L + 1 + 1 + 1 + 1 + 1) rfl (F10.cellAt rfl (upd_other upd_same))) ((IsLN _).mono g11 rp))
                (evl_cons (ev_name (nm_cell (c := L + 1 + 1) rfl (F10.cellAt rfl (upd_other (upd_other iT)))) ((IsM M).mono ((G8.trans g10).trans g11) r2)) (evl_cons (ev_name (nm_cell (c := L + 1 + 1 + 1) rfl (F10.cellAt rfl (upd_other (upd_other iM)))) ((IsI _).mono (g10.trans g11) rM8)) evl_nil)))
                (IH.callB hA (hT.trans F10.old))
            have G11 : FExt (Fz W s7.heap) (Fz W s11.heap) := (((y8.fz W).trans g10).trans g11).trans g12
            have mo : ∀ b : Nat, b ≤ 1 + 5 * (wb n + 1) → b + (wb n + 1) ≤ 134217728 := fun b hb => by
              have hw5 : wb n ≤ wb 4 := by
                have hmono : ∀ a b, a ≤ b → wb a ≤ wb b := fun a b h => by
                  induction h with
                  | refl => exact Nat.le_refl _
                  | step _ ih => refine Nat.le_trans ih ?_; show _ ≤ 5 * (wb _ + 1) + 12; omega
                exact hmono _ _ (by omega)
              have : wb 4 ≤ 20000 := by decide
              omega
            have bk : 1 + (g.length - kk) * (wb n + 1) ≤ 1 + 5 * (wb n + 1) := Nat.add_le_add_left (Nat.mul_le_mul_right _ (by omega)) 1
            have mbk := mo _ bk
            refine wpAny_execs_cons (x_set F11 (ev_add (ev_mul (ev_name (nm_local F11.ns (upd_other (upd_other iU))) ((IsI up).mono G11 rU)) (ev_name (nm_local F11.ns upd_same) rb) (.of_le bU WB.2 (by omega)))
              (ev_mul (ev_name (nm_local F11.ns (upd_other upd_same)) ra) (ev_name (nm_local F11.ns (upd_other (upd_other iD))) ((IsI down).mono G11 rD)) (.of_le WB.1 bD (by omega)))) fun vu2 s12 F12 g13 ru2 => ?_)
            refine wpAny_execs_cons (x_set F12 (ev_mul (ev_name (nm_local F12.ns (upd_other (upd_other (upd_other iD)))) ((IsI down).mono (G11.trans g13) rD)) (ev_name (nm_local F12.ns (upd_other upd_same)) ((IsI _).mono g13 rb)) (.of_le bD WB.2 (by omega))) fun vd2 s13 F13 g14 rd2 => ?_)
            refine wpAny_execs_nil ?_
            have hrl := wrest_lt hhead (headD_mem hl0)
            obtain ⟨k', rfl⟩ : ∃ k', kk = k' + 1 := ⟨kk - 1, by omega⟩
            refine ⟨k', _, _, _, Nat.lt_succ_self _, F13, (((((g9.trans g10).trans g11).trans g12).trans g13).trans g14), rfl, upd_other (upd_other (upd_other (upd_other iF))), upd_other (upd_other iT), upd_other (upd_other iM), wrest (wpart (at2 M) (wmeet (at2 M) g) l) l, _, _, vl2, vu2, vd2,
              wrest_sub.trans hls, by omega, by omega, upd_same, (IsLN _).mono ((g12.trans g13).trans g14) rl2, upd_other upd_same, upd_same, (IsI _).mono g14 ru2, rd2, ?_, ?_, ?_⟩
            · rw [← hw]
              conv => rhs; unfold wloop
              rw [if_neg hl0]
            · have a := intBits_add_le (intBits_mul_le bU WB.2) (intBits_mul_le WB.1 bD)
              have e : g.length - k' = (g.length - (k' + 1)) + 1 := by omega
              rw [e, Nat.add_mul]
              exact Nat.le_trans a (by omega)
            · have a := intBits_mul_le bD WB.2
              have e : g.length - k' = (g.length - (k' + 1)) + 1 := by omega
              rw [e, Nat.add_mul]
              exact Nat.le_trans a (by omega)
          · have hl0 : l = [] := by simpa using hb
            subst hl0
            have hw2 : wloop (fun p => wire (at2 M) n p (wmeet (at2 M) g)) (at2 M) (wmeet (at2 M) g) g.length g 0 1 = (up, down) := by
              rw [← hw]
              cases kk with
              | zero => rfl
              | succ k => unfold wloop; rw [if_pos rfl]
            have e : wire (at2 M) (n + 1) g f = (up, down + (wmeet (at2 M) g - f) * up) := by
              conv => lhs; unfold wire
              rw [if_neg h1, hw2]
            have G8 : FExt (Fz W s₁.heap) (Fz W s8.heap) := (G6.trans g7).trans g9
            have h8 : FExt (Fz W s7.heap) (Fz W s8.heap) := y8.fz W
            refine wpAny_execs_cons (x_retF F8 ?_ fun v h' tk' y p => k v h' tk' y p)
            rw [e]
            refine ev_tuple (evl_cons (ev_name (nm_local F8.ns iU) ((IsI up).mono h8 rU)) (evl_cons (ev_add (ev_name (nm_local F8.ns iD) ((IsI down).mono h8 rD)) (ev_mul (ev_sub (ev_name (nm_cell (c := L + 1 + 1 + 1) rfl (F8.cellAt rfl iM)) ((IsI _).mono (Gm.trans (g7.trans g9)) rm))
              (ev_name (nm_local F8.ns iF) ((IsI f).mono G8 r3))) (ev_name (nm_local F8.ns iU) ((IsI up).mono h8 rU)) (.of_left ?_))) evl_nil))
            exact Nat.le_trans (bits_small (by omega) (by omega)) (by decide)
end
end Mine
namespace Mine
def hgt (total : Int) : Nat → Int
  | 0 => 0
  | k + 1 => hgt total k + (total.fdiv ((3 : Int) ^ k)).fmod 3
def heights (total : Int) : List Int := (List.range 13).map fun k => hgt total (k + 1)
section
variable {prog : Program} {w : World} {T0 : Heap} {p : Program} {loose : List Str} {mean : ExcName → Option Value} {mg mb : Str → Option Value}
set_option maxRecDepth 100000 in
set_option maxHeartbeats 4000000 in
theorem heights_fn (X : (hd.heap_39 w.params).In T0) (T : Top p loose mean mg mb T0) {total : Int} :
    Fn prog w T0 1 50 [IsI total] (IsLI (heights total)) := by
  refine' fn_K X T.nolimit ?ho ?hcd (fun vs => [Str.ofString "total"].zip vs) ?hbind ?hkind ?hnd ?hb ?c1 ?c2 ?c3
  case ho => k_is
  case hcd => k_is
  case hbind => 
    intro vs hvs
    obtain ⟨a, rfl⟩ := len1 hvs
    rfl
  case hkind =>
    intro vs hvs n
    obtain ⟨a, rfl⟩ := len1 hvs
    exact kindsX rfl n
  case hnd => decide +kernel
  case c1 => rfl
  case c2 => rfl
  case c3 => rfl
  case hb =>
    intro W A s s₁ L vs Q E hA hT hlen F hargs k
    obtain ⟨v1, rfl⟩ := len1 hlen
    obtain ⟨r1, _⟩ := hargs
    refine wpAny_execs_cons (x_nil F fun D s2 F2 g2 gD hDW hD0 => ?_)
    have hDs : s.heap.get? D = none := by
      cases e : s.heap.get? D with
      | none => rfl
      | some o => have := F.old _ _ e; rw [hD0] at this; cases this
    have F3 := F2.watch gD hDW hDs
    refine wpAny_execs_cons (x_set F3 ev_int fun vh s4 F4 g4 rh => ?_)
    refine wpAny_execs_cons (x_for F4 (src_range (n := 13) hA.handled (nm_boot X T.g T.b T.builtins (hT.trans F4.old) (by k_is) boot_range) ev_int (by rw [sizeLine_eq]; omega)) storeL
        (fun kk G Mu m cm => ∃ (ys : List Value) (vh : Value), Mu = [(D, PySem.W.listOf ys.toArray ys.length)] ∧ All2 G ys ((List.range kk).map fun i => IsI (hgt total (i + 1))) ∧ m (Str.ofString "heights") = some (.ref D) ∧ m (Str.ofString "high") = some vh ∧ (IsI (hgt total kk)).rel G vh ∧ m (Str.ofString "total") = some v1)
        (fun _ G G' _ _ _ g ⟨ys, vl, e, a, q1, q2, q3, q4⟩ => ⟨ys, vl, e, a.mono g, q1, q2, (IsI _).mono g q3, q4⟩) (fun _ _ _ _ => False) (fun _ _ _ _ _ _ h => h)
        ⟨[], vh, rfl, trivial, upd_other upd_same, upd_same, rh, upd_other (upd_other rfl)⟩
        (fun kk S vk I oI Mu m cm s5 G1 E' hS g1 g5 F5 hrk inv => ?_) (fun m' cm' Mu' s' E' F' g inv => ?_) (fun _ _ _ _ _ _ h => h.elim))
    · obtain ⟨hk, rfl⟩ := range_item hS
      obtain ⟨ys5, vh5, rfl, a5, i1, i2, i3, i4⟩ := inv
      have l5 : ys5.length = kk := by rw [a5.length, List.length_map, List.length_range]
      have rt : (IsI total).rel (Fz (I :: D :: W) s5.heap) v1 := r1
      have p3 : ∀ k, k < 13 → Builtin.Int.intBits ((3 : Int) ^ k) ≤ 200 := by decide
      refine wpAny_execs_cons (x_augAdd F5 (upd_other i2) i3 (b := (total.fdiv ((3 : Int) ^ kk)).fmod 3) ?_ fun v6 s6 F6 g6 r6 => ?_)
      · exact ev_mod (ev_fdiv (ev_name (nm_local F5.ns (upd_other i4)) rt) (ev_powN ev_int (ev_name (nm_local F5.ns upd_same) hrk) (by omega) (by decide)) (by have : (0:Int) < 3 ^ kk := Int.pow_pos (by omega); omega) (noPy (p3 kk hk))) ev_int (by omega)
      refine wpAny_execs_cons (x_append (pre := [(I, oI)]) (post := []) F6 (upd_other (upd_other i1)) (ev_name (nm_local F6.ns upd_same) r6) (by rw [l5, sizeLine_eq]; omega) fun v7 s7 F7 g7 r7 => ?_)
      refine wpAny_execs_nil ?_
      refine ⟨_, _, _, F7, (g5.trans g6).trans g7, ys5 ++ [v7], v6, rfl, ?_, upd_other (upd_other i1), upd_same, (IsI _).mono g7 r6, upd_other (upd_other i4)⟩
      rw [List.range_succ, List.map_append]
      exact (a5.mono (g6.trans g7)).snoc r7
    · obtain ⟨ys8, vh8, rfl, a8, j1, j2, j3, j4⟩ := inv
      have gD8 := (F'.mu (D, PySem.W.listOf ys8.toArray ys8.length) List.mem_cons_self).1
      have F6 := F'.less hDW
      refine wpAny_execs_nil ?_
      have a9 : All2 (Fz W s'.heap) ys8 ((List.range 13).map fun i => IsI (hgt total (i + 1))) := a8.mono (fext_sub fun b hb => List.mem_cons_of_mem _ hb)
      refine wpAny_execs_cons (x_retF (P := IsLI (heights total)) F6 (ev_name (nm_local F6.ns j1) ⟨D, ys8, _, rfl, Fz.of hDW gD8, ?_⟩) fun v h' tk' y p => k v h' tk' y p)
      have e : (heights total).map IsI = ((List.range 13).map fun i => IsI (hgt total (i + 1))) := by rw [heights, List.map_map]; rfl
      rw [e]; exact a9
end
end Mine
namespace Mine
def apL (m : Nat) : List UInt8 := (([65, 66, 67, 68, 69, 70, 71, 72, 73, 74, 75, 76, 77, 78, 79, 80] : List UInt8).drop m).take 1
def apN : Nat → Nat → List UInt8
  | 0, _ => []
  | k + 1, n => if n = 0 then [] else apN k (n / 16) ++ apL (n % 16)
theorem apL_len (m : Nat) : (apL m).length ≤ 1 := by unfold apL; rw [List.length_take]; exact Nat.min_le_left _ _
theorem apN_len : ∀ k n, (apN k n).length ≤ k
  | 0, _ => Nat.le_refl _
  | k + 1, n => by
    unfold apN
    split
    · simp
    · rw [List.length_append]
      have := apN_len k (n / 16)
      have := apL_len (n % 16)
      omega
section
variable {prog : Program} {w : World} {T0 : Heap} {p : Program} {loose : List Str} {mean : ExcName → Option Value} {mg mb : Str → Option Value}
set_option maxRecDepth 100000 in
set_option maxHeartbeats 4000000 in
theorem int2ap_fn (X : (hd.heap_39 w.params).In T0) (T : Top p loose mean mg mb T0) {x : Nat} (hx : x < 4096) :
    Fn prog w T0 1 36 [IsI (x : Nat)] (IsY (apN 3 x)) := by
  refine' fn_K X T.nolimit ?ho ?hcd (fun vs => [Str.ofString "num"].zip vs) ?hbind ?hkind ?hnd ?hb ?c1 ?c2 ?c3
  case ho => k_is
  case hcd => k_is
  case hbind => 
    intro vs hvs
    obtain ⟨a, rfl⟩ := len1 hvs
    rfl
  case hkind =>
    intro vs hvs n
    obtain ⟨a, rfl⟩ := len1 hvs
    exact kindsX rfl n
  case hnd => decide +kernel
  case c1 => rfl
  case c2 => rfl
  case c3 => rfl
  case hb =>
    intro W A s s₁ L vs Q E hA hT hlen F hargs k
    obtain ⟨v1, rfl⟩ := len1 hlen
    obtain ⟨r1, _⟩ := hargs
    refine wpAny_execs_cons (x_set F ev_bytes fun v2 s2 F2 g2 r2 => ?_)
    refine wpAny_execs_cons (x_set F2 ev_bytes fun v3 s3 F3 g3 r3 => ?_)
    refine wpAny_execs_cons (x_set F3 (P := IsI (x : Nat)) ?_ fun v4 s4 F4 g4 r4 => ?_)
    · refine ev_callT (nm_boot X T.g T.b T.builtins (hT.trans F3.old) (by k_is) (by decide +kernel : bootBuiltins (Str.ofString "int") = some (.type "int"))) (evl_cons ?_ evl_nil) callB_int
      have := callB_abs (prog := prog) (w := w) (W := W) (A := A) (h := s3.heap) (a := (x : Int))
      rw [if_neg (by omega)] at this
      exact ev_callB (nm_boot X T.g T.b T.builtins (hT.trans F3.old) (by k_is) (by decide +kernel : bootBuiltins (Str.ofString "abs") = some (.builtin "abs"))) (evl_cons (ev_name (nm_local F3.ns (upd_other (upd_other rfl))) r1) evl_nil) this
    have e1 : apN 3 x = apN 3 x ++ [] := (List.append_nil _).symm
    refine wpAny_execs_cons (x_while F4 (fun k G Mu m cm => Mu = [] ∧ m (Str.ofString "AP") = some v3 ∧ ∃ n l vn vl, n < 16 ^ k ∧ k ≤ 3 ∧ l.length + k ≤ 3 ∧ apN 3 x = apN k n ++ l ∧ m (Str.ofString "num") = some vn ∧ (IsI (n : Nat)).rel G vn ∧ m (Str.ofString "val") = some vl ∧ (IsY l).rel G vl) 3
      ⟨rfl, upd_other upd_same, x, [], v4, v2, by omega, by omega, by simp, e1, upd_same, r4, upd_other (upd_other upd_same), r2⟩
      (fun kk Mu m cm s7 G1 E' F7 g7 g8 inv => ?_))
    obtain ⟨rfl, iA, n, l, vn, vl, hn, hk3, hl3, he, iN, rN, iV, rV⟩ := inv
    refine ⟨((n : Nat) : Int) != 0, tv_int (ev_name (nm_local F7.ns iN) rN), fun hb s8 F8 y8 g9 => ?_, fun hb s8 F8 y8 g9 => ?_⟩
    · have hn0 : n ≠ 0 := by simpa using hb
      obtain ⟨k', rfl⟩ : ∃ k', kk = k' + 1 := by
        cases kk with
        | zero => omega
        | succ k' => exact ⟨k', rfl⟩
      refine wpAny_execs_cons (x_setT2 hA.handled F8 (P1 := IsI ((n / 16 : Nat))) (P2 := IsI ((n % 16 : Nat))) ?_ fun va vb s9 F9 g10 ra rb => ?_)
      · have := callB_divmod (prog := prog) (w := w) (W := W) (A := A) (h := s8.heap) (a := ((n : Nat) : Int)) (b := 16) (by omega) (noPy (by decide))
        have q1 : ((n : Nat) : Int).fdiv 16 = ((n / 16 : Nat) : Int) := by rw [Int.fdiv_eq_ediv_of_nonneg _ (by omega)]; omega
        have q2 : ((n : Nat) : Int).fmod 16 = ((n % 16 : Nat) : Int) := by rw [Int.fmod_eq_emod_of_nonneg _ (by omega)]; omega
        rw [q1, q2] at this
        exact ev_callB (nm_boot X T.g T.b T.builtins (hT.trans F8.old) (by k_is) (by decide +kernel : bootBuiltins (Str.ofString "divmod") = some (.builtin "divmod"))) (evl_cons (ev_name (nm_local F8.ns iN) ((IsI (n : Nat)).mono (y8.fz W) rN)) (evl_cons ev_int evl_nil)) this
      refine wpAny_execs_cons (x_set F9 (P := IsY (apL (n % 16) ++ l)) (ev_addY ?_ (ev_name (nm_local F9.ns (upd_other (upd_other iV))) rV) (by have := apL_len (n % 16); omega)) fun vc s10 F10 g11 rc => ?_)
      · have e : apL (n % 16) = (([65, 66, 67, 68, 69, 70, 71, 72, 73, 74, 75, 76, 77, 78, 79, 80] : List UInt8).drop (n % 16)).take (n % 16 + 1 - n % 16) := by rw [Nat.add_sub_cancel_left]; rfl
        rw [e]
        refine ev_sliceY (l := [65, 66, 67, 68, 69, 70, 71, 72, 73, 74, 75, 76, 77, 78, 79, 80]) (i := n % 16) (j := n % 16 + 1) (ev_name (nm_local F9.ns (upd_other (upd_other iA))) r3) (ev_name (nm_local F9.ns upd_same) rb) (ev_addN (b := 1) (ev_name (nm_local F9.ns upd_same) rb) ev_int) (by omega) (by simp; omega) (by simp)
      refine wpAny_execs_nil ?_
      refine ⟨k', _, _, _, Nat.lt_succ_self _, F10, ((g9.trans g10).trans g11), rfl, upd_other (upd_other (upd_other iA)), n / 16, apL (n % 16) ++ l, va, vc, ?_, by omega, ?_, ?_, upd_other (upd_other upd_same), ra, upd_same, rc⟩
      · rw [Nat.pow_succ] at hn; omega
      · have := apL_len (n % 16); rw [List.length_append]; omega
      · rw [he]
        conv => lhs; unfold apN
        rw [if_neg hn0, List.append_assoc]
    · have hn0 : n = 0 := by simpa using hb
      refine wpAny_execs_cons (x_retF F8 (P := IsY (apN 3 x)) ?_ fun v h' tk' y p => k v h' tk' y p)
      have e : apN kk n = [] := by cases kk with
        | zero => rfl
        | succ k => unfold apN; rw [if_pos hn0]
      rw [he, e]
      exact ev_name (nm_local F8.ns iV) rV
end
end Mine
namespace Mine
abbrev flagEs : Array DictEntry := #[{ hash := 1, key := Value.int 1 203, val := Value.str (Str.ofString "OPTIMIZED") 204 },
              { hash := 2, key := Value.int 2 205, val := Value.str (Str.ofString "NEWLOCALS") 206 },
              { hash := 4, key := Value.int 4 207, val := Value.str (Str.ofString "VARARGS") 208 },
              { hash := 8, key := Value.int 8 209, val := Value.str (Str.ofString "VARKEYWORDS") 210 },
              { hash := 16, key := Value.int 16 211, val := Value.str (Str.ofString "NESTED") 212 },
              { hash := 32, key := Value.int 32 213, val := Value.str (Str.ofString "GENERATOR") 214 },
              { hash := 64, key := Value.int 64 215, val := Value.str (Str.ofString "NOFREE") 216 },
              { hash := 128, key := Value.int 128 217, val := Value.str (Str.ofString "COROUTINE") 218 },
              { hash := 256, key := Value.int 256 219, val := Value.str (Str.ofString "ITERABLE_COROUTINE") 220 },
              { hash := 512, key := Value.int 512 221, val := Value.str (Str.ofString "ASYNC_GENERATOR") 222 }]
def flagName (i : Nat) : Str := (["OPTIMIZED", "NEWLOCALS", "VARARGS", "VARKEYWORDS", "NESTED", "GENERATOR", "NOFREE", "COROUTINE", "ITERABLE_COROUTINE", "ASYNC_GENERATOR"] : List Str).getD i (baseText "0x" 16 (1 * 2 ^ i))
def pfN (x j : Nat) : List Str := ((List.range j).filter fun i => x.testBit i).map flagName
def pfL (x : Nat) : List Str := if x = 0 then [baseText "0x" 16 0] else pfN x 32
theorem pfN_succ {x j : Nat} : pfN x (j + 1) = pfN x j ++ (if x.testBit j = true then [flagName j] else []) := by
  unfold pfN
  rw [List.range_succ, List.filter_append, List.map_append]
  congr 1
  cases h : x.testBit j <;> simp [h]
theorem pfN_more {x i : Nat} (h : x / 2 ^ i = 0) : ∀ j, i ≤ j → pfN x j = pfN x i
  | 0, hj => by obtain rfl : i = 0 := by omega
                rfl
  | j + 1, hj => by
    by_cases q : i = j + 1
    · rw [q]
    · rw [pfN_succ, pfN_more h j (by omega)]
      have : x.testBit j = false := by
        have hx : x < 2 ^ i := by
          rcases Nat.div_eq_zero_iff.mp h with h | h
          · have := Nat.two_pow_pos i; omega
          · exact h
        exact Nat.testBit_lt_two_pow (Nat.lt_of_lt_of_le hx (Nat.pow_le_pow_right (by omega) (by omega)))
      rw [this]; simp
theorem bitAnd_nat (a b : Nat) : Builtin.bitAnd (a : Int) (b : Int) = ((a &&& b : Nat) : Int) := by
  simp [Builtin.bitAnd]
theorem clear_and (q i : Nat) : (q * 2 ^ i) &&& (1 * 2 ^ i) = (q % 2) * 2 ^ i := by
  rw [← Nat.shiftLeft_eq, ← Nat.shiftLeft_eq, ← Nat.shiftLeft_and_distrib, Nat.and_one_is_mod, Nat.shiftLeft_eq]
theorem clear_testBit (x i : Nat) : x.testBit i = decide (x / 2 ^ i % 2 = 1) := by
  rw [Nat.testBit_eq_decide_div_mod_eq]
theorem clear_next (x i : Nat) : x / 2 ^ (i + 1) * 2 ^ (i + 1) + (x / 2 ^ i % 2) * 2 ^ i = x / 2 ^ i * 2 ^ i := by
  rw [Nat.pow_succ, ← Nat.div_div_eq_div_mul, Nat.mul_comm (2 ^ i) 2, ← Nat.mul_assoc, ← Nat.add_mul]
  congr 1
  omega
theorem bitAnd_clear (x i : Nat) : Builtin.bitAnd ((x / 2 ^ i * 2 ^ i : Nat) : Int) (1 * 2 ^ i) = ((x / 2 ^ i % 2 * 2 ^ i : Nat) : Int) := by
  have : (1 * 2 ^ i : Int) = ((1 * 2 ^ i : Nat) : Int) := by simp
  rw [this, bitAnd_nat, clear_and]
theorem and_test (x i : Nat) : (Builtin.bitAnd ((x / 2 ^ i * 2 ^ i : Nat) : Int) (1 * 2 ^ i) != 0) = x.testBit i := by
  rw [bitAnd_clear, clear_testBit]
  have hp := Nat.two_pow_pos i
  rcases Nat.mod_two_eq_zero_or_one (x / 2 ^ i) with h | h
  · rw [h]; simp
  · rw [h]; simp only [Nat.one_mul]
    have : ((2 ^ i : Nat) : Int) ≠ 0 := by omega
    simpa using this
theorem bitXor_clear {x i : Nat} (h : x.testBit i = true) : Builtin.bitXor ((x / 2 ^ i * 2 ^ i : Nat) : Int) (1 * 2 ^ i) = ((x / 2 ^ (i + 1) * 2 ^ (i + 1) : Nat) : Int) := by
  rw [PyProof.Rows.bitXor_and, bitAnd_clear]
  have h1 := clear_next x i
  rw [clear_testBit, decide_eq_true_eq] at h
  rw [h] at h1 ⊢
  have : (1 * 2 ^ i : Int) = ((1 * 2 ^ i : Nat) : Int) := by simp
  rw [this]
  omega
theorem flag_get {i : Nat} (hi : i < 12) {G : Fm} {v : Value} (h : (IsS (baseText "0x" 16 (1 * 2 ^ i))).rel G v) : (IsS (flagName i)).rel G ((findBy Value.isInt flagEs (1 * 2 ^ i)).getD v) := by
  obtain ⟨t, rfl⟩ := h
  match i, hi with
  | 0, _ | 1, _ | 2, _ | 3, _ | 4, _ | 5, _ | 6, _ | 7, _ | 8, _ | 9, _ | 10, _ | 11, _ => exact ⟨_, rfl⟩
theorem hex_small {i : Nat} (hi : i < 12) : (baseText "0x" 16 (1 * 2 ^ i)).length ≤ sizeLine := by
  rw [sizeLine_eq]
  match i, hi with
  | 0, _ | 1, _ | 2, _ | 3, _ | 4, _ | 5, _ | 6, _ | 7, _ | 8, _ | 9, _ | 10, _ | 11, _ => exact Nat.le_of_ble_eq_true (by decide +kernel)

theorem bits_z (x : Nat) (hx : x < 4096) (i : Nat) (h : x.testBit i = true) : i < 12 := by
  rcases Nat.lt_or_ge i 12 with q | q
  · exact q
  · rw [Nat.testBit_lt_two_pow (Nat.lt_of_lt_of_le hx (show 4096 ≤ 2 ^ i from Nat.le_trans (by decide : 4096 ≤ 2 ^ 12) (Nat.pow_le_pow_right (by omega) q)))] at h
    cases h
theorem pfN_len (x j : Nat) : (pfN x j).length ≤ j := by
  unfold pfN; rw [List.length_map]
  exact Nat.le_trans (List.length_filter_le _ _) (by rw [List.length_range]; exact Nat.le_refl _)
theorem name_len {i : Nat} (hi : i < 12) : (flagName i).length ≤ 18 := by
  match i, hi with
  | 0, _ | 1, _ | 2, _ | 3, _ | 4, _ | 5, _ | 6, _ | 7, _ | 8, _ | 9, _ | 10, _ | 11, _ => exact Nat.le_of_ble_eq_true (by decide +kernel)
theorem pfL_size {x : Nat} (hx : x < 4096) : ((pfL x).map (·.length)).sum + (pfL x).length * 2 ≤ 640 := by
  have hs : ∀ l : List Str, (∀ y ∈ l, y.length ≤ 18) → (l.map (·.length)).sum ≤ l.length * 18 := fun l => by
    induction l with
    | nil => intro _; exact Nat.le_refl _
    | cons a r ih =>
      intro h
      have := h a List.mem_cons_self
      have := ih fun y hy => h y (List.mem_cons_of_mem _ hy)
      simp only [List.map_cons, List.sum_cons, List.length_cons]
      omega
  have h1 : ∀ y ∈ pfL x, y.length ≤ 18 := fun y hy => by
    unfold pfL at hy
    split at hy
    · rw [List.mem_singleton.mp hy]; exact Nat.le_of_ble_eq_true (by decide +kernel)
    · unfold pfN at hy
      obtain ⟨i, hi, rfl⟩ := List.mem_map.mp hy
      exact name_len (bits_z x hx i (List.mem_filter.mp hi).2)
  have h2 : (pfL x).length ≤ 32 := by
    unfold pfL
    split
    · simp
    · exact pfN_len x 32
  have := hs _ h1
  omega
section
variable {prog : Program} {w : World} {T0 : Heap} {p : Program} {loose : List Str} {mean : ExcName → Option Value} {mg mb : Str → Option Value}
set_option maxRecDepth 100000 in
set_option maxHeartbeats 4000000 in
theorem flags_fn (X : (hd.heap_39 w.params).In T0) (T : Top p loose mean mg mb T0) {x : Nat} (hx : x < 4096) :
    Fn prog w T0 1 29 [IsI (x : Nat)] (IsS (Txt.join ", " (pfL x))) := by
  have hm : T0.MapOf (intKind prog w) 22 (fun k => findBy Value.isInt flagEs k) := by
    refine ⟨{ cls := Value.type "dict", data := Data.dict flagEs 10 }, flagEs, 10, ?_, ⟨rfl, rfl, rfl⟩, rfl, ?_, fun _ => rfl⟩
    · exact X 22 _ (by k_is)
    · intro e he
      have : e ∈ flagEs.toList := by simpa using he
      simp only [flagEs, List.mem_cons, List.not_mem_nil, or_false] at this
      rcases this with rfl | rfl | rfl | rfl | rfl | rfl | rfl | rfl | rfl | rfl <;> exact ⟨_, beq_self_eq_true _, rfl⟩
  refine' fn_K X T.nolimit ?ho ?hcd (fun vs => [Str.ofString "flags"].zip vs) ?hbind ?hkind ?hnd ?hb ?c1 ?c2 ?c3
  case ho => k_is
  case hcd => k_is
  case hbind => 
    intro vs hvs
    obtain ⟨a, rfl⟩ := len1 hvs
    rfl
  case hkind =>
    intro vs hvs n
    obtain ⟨a, rfl⟩ := len1 hvs
    exact kindsX rfl n
  case hnd => decide +kernel
  case c1 => rfl
  case c2 => rfl
  case c3 => rfl
  case hb =>
    intro W A s s₁ L vs Q E hA hT hlen F hargs k
    obtain ⟨v1, rfl⟩ := len1 hlen
    obtain ⟨r1, _⟩ := hargs
    refine wpAny_execs_cons (x_nil F fun D s2 F2 g2 gD hDW hD0 => ?_)
    have hDs : s.heap.get? D = none := by
      cases e : s.heap.get? D with
      | none => rfl
      | some o => have := F.old _ _ e; rw [hD0] at this; cases this
    have F3 := F2.watch gD hDW hDs
    refine wpAny_execs_cons (x_for F3 (src_range (n := 32) hA.handled (nm_boot X T.g T.b T.builtins (hT.trans F3.old) (by k_is) boot_range) ev_int (by rw [sizeLine_eq]; omega)) storeL
        (fun i G Mu m cm => ∃ (ys : List Value) (vf : Value), Mu = [(D, PySem.W.listOf ys.toArray ys.length)] ∧ All2 G ys ((pfN x i).map IsS) ∧ m (Str.ofString "names") = some (.ref D) ∧ m (Str.ofString "flags") = some vf ∧ (IsI ((x / 2 ^ i * 2 ^ i : Nat))).rel G vf ∧ (x ≠ 0 → x / 2 ^ i ≠ 0))
        (fun _ G G' _ _ _ g ⟨ys, vl, e, a, q1, q2, q3, q4⟩ => ⟨ys, vl, e, a.mono g, q1, q2, (IsI _).mono g q3, q4⟩)
        (fun G Mu m cm => ∃ (ys : List Value), Mu = [(D, PySem.W.listOf ys.toArray ys.length)] ∧ All2 G ys ((pfL x).map IsS) ∧ m (Str.ofString "names") = some (.ref D)) (fun G G' _ _ _ g ⟨ys, e, a, q1⟩ => ⟨ys, e, a.mono g, q1⟩)
        ⟨[], v1, rfl, trivial, upd_same, upd_other rfl, ?_, fun h => by simpa using h⟩
        (fun i S vk I oI Mu m cm s5 G1 E' hS g1 g5 F5 hrk inv => ?_) (fun m' cm' Mu' s' E' F' g inv => ?_) (fun m' cm' Mu' s' F' g inv => ?_))
    · rw [Nat.pow_zero, Nat.div_one, Nat.mul_one]; exact r1
    · obtain ⟨hi, rfl⟩ := range_item hS
      obtain ⟨ys5, vf, rfl, a5, i1, i2, i3, i4⟩ := inv
      have l5 : ys5.length ≤ i := by rw [a5.length, List.length_map]; exact pfN_len x i
      have hD5 := (F5.mu (D, PySem.W.listOf ys5.toArray ys5.length) (List.mem_cons_of_mem _ List.mem_cons_self))
      refine wpAny_execs_cons (x_set F5 (ev_shl ev_int (ev_name (nm_local F5.ns upd_same) hrk) (by omega) (by decide)) fun v6 s6 F6 g6 r6 => ?_)
      have rF := (IsI ((x / 2 ^ i * 2 ^ i : Nat))).mono g6 i3
      refine wpAny_execs_cons (x_if (b := x.testBit i) F6 (tv_eq (tv_int (ev_and (ev_name (nm_local F6.ns (upd_other (upd_other i2))) rF) (ev_name (nm_local F6.ns upd_same) r6))) (and_test x i)) fun s7 F7 g7 y7 => ?_)
      cases hb : x.testBit i with
      | false =>
        rw [if_neg Bool.false_ne_true]
        refine wpAny_execs_nil (wpAny_execs_nil ?_)
        refine ⟨_, _, _, F7, (g5.trans g6).trans g7, ys5, vf, rfl, ?_, upd_other (upd_other i1), upd_other (upd_other i2), ?_, ?_⟩
        · rw [pfN_succ, hb]
          simp only [Bool.false_eq_true, if_false, List.append_nil]
          exact a5.mono (g6.trans g7)
        · have h1 := clear_next x i
          rw [clear_testBit, decide_eq_false_iff_not] at hb
          have h2 : x / 2 ^ i % 2 = 0 := by omega
          rw [h2, Nat.zero_mul, Nat.add_zero] at h1
          rw [h1]
          exact (IsI _).mono g7 rF
        · intro hx0
          have h0 := i4 hx0
          rw [clear_testBit, decide_eq_false_iff_not] at hb
          rw [Nat.pow_succ, ← Nat.div_div_eq_div_mul]
          omega
      | true =>
        rw [if_pos rfl]
        have hi12 := bits_z x hx i hb
        refine wpAny_execs_cons (x_append (pre := [(I, oI)]) (post := []) (P := IsS (flagName i)) F7 (upd_other (upd_other i1)) ?_ (by rw [sizeLine_eq]; omega) fun v8 s8 F8 g8 r8 => ?_)
        · have hT7 := hT.trans F7.old
          have hm7 : s7.heap.MapOf (intKind prog w) 22 (fun k => findBy Value.isInt flagEs k) := let ⟨o, es, ep, ho, r⟩ := hm; ⟨o, es, ep, hT7 _ _ ho, r⟩
          exact ev_dictGet (d := 22) (by decide) hm7 (ev_name (nm_glob X T.g hT7 (by k_is)) rfl) (ev_name (nm_local F7.ns upd_same) ((IsI _).mono g7 r6))
            (ev_callB (nm_boot X T.g T.b T.builtins hT7 (by k_is) boot_hex) (evl_cons (ev_name (nm_local F7.ns upd_same) ((IsI _).mono g7 r6)) evl_nil) (callB_hex (hex_small hi12))) (fun G v hv => flag_get hi12 hv)
        refine wpAny_execs_cons (x_augXor F8 (upd_other (upd_other i2)) ((IsI _).mono (g7.trans g8) rF) (ev_name (nm_local F8.ns upd_same) ((IsI _).mono (g7.trans g8) r6)) fun v9 s9 F9 g9 r9 => ?_)
        rw [bitXor_clear hb] at r9
        refine wpAny_execs_cons (x_if (b := !(((x / 2 ^ (i + 1) * 2 ^ (i + 1) : Nat) : Int) != 0)) F9 (tv_not (tv_int (ev_name (nm_local F9.ns upd_same) r9))) fun s10 F10 g10 y10 => ?_)
        have aN : All2 (Fz (I :: D :: W) s10.heap) (ys5 ++ [v8]) ((pfN x (i + 1)).map IsS) := by
          rw [pfN_succ, hb, if_pos rfl, List.map_append]
          exact (a5.mono (((g6.trans g7).trans g8).trans (g9.trans g10))).snoc ((IsS _).mono (g9.trans g10) r8)
        have gN := ((((g5.trans g6).trans g7).trans g8).trans g9).trans g10
        have hp := Nat.two_pow_pos (i + 1)
        by_cases hz : x / 2 ^ (i + 1) = 0
        · rw [hz, if_pos (by simp)]
          refine wpAny_execs_cons (wpAny_Break ?_)
          refine ⟨_, _, _, F10, gN, ys5 ++ [v8], rfl, ?_, upd_other (upd_other (upd_other i1))⟩
          have hx0 : x ≠ 0 := fun e => by rw [e] at hb; simp at hb
          unfold pfL
          rw [if_neg hx0, pfN_more hz 32 (by omega)]
          exact aN
        · rw [if_neg (by
            have : x / 2 ^ (i + 1) * 2 ^ (i + 1) ≠ 0 := Nat.mul_ne_zero hz (by omega)
            have : ((x / 2 ^ (i + 1) * 2 ^ (i + 1) : Nat) : Int) ≠ 0 := by omega
            simp only [Bool.not_eq_true', bne_eq_false_iff_eq]; exact this)]
          refine wpAny_execs_nil (wpAny_execs_nil (wpAny_execs_nil ?_))
          exact ⟨_, _, _, F10, gN, ys5 ++ [v8], v9, rfl, aN, upd_other (upd_other (upd_other i1)), upd_same, (IsI _).mono g10 r9, fun _ => hz⟩
    · obtain ⟨ys8, vf, rfl, a8, j1, j2, j3, j4⟩ := inv
      have e32 : ((List.range 32).map fun i => IsI (i : Nat)).length = 32 := by rw [List.length_map, List.length_range]
      rw [e32] at a8 j3 j4
      have hz : x / 2 ^ 32 = 0 := Nat.div_eq_of_lt (by omega)
      have hx0 : x = 0 := Decidable.byContradiction fun h => j4 h hz
      subst hx0
      have l8 : ys8.length ≤ 32 := by rw [a8.length, List.length_map]; exact pfN_len 0 32
      refine wpAny_execs_cons (x_append (pre := []) (post := []) (P := IsS (baseText "0x" 16 0)) F' j1 ?_ (by rw [sizeLine_eq]; omega) fun v8 s8 F8 g8 r8 => ?_)
      · refine ev_callB (nm_boot X T.g T.b T.builtins (hT.trans F'.old) (by k_is) boot_hex) (evl_cons (ev_name (nm_local F'.ns j2) (P := IsI 0) ?_) evl_nil) (callB_hex (by rw [sizeLine_eq]; exact Nat.le_of_ble_eq_true (by decide +kernel)))
        have : (0 / 2 ^ 32 * 2 ^ 32 : Nat) = 0 := by simp
        rw [this] at j3; exact j3
      refine wpAny_execs_nil ?_
      have e0 : pfN 0 32 = [] := by unfold pfN; simp
      rw [e0] at a8
      have aF : All2 (Fz (D :: W) s8.heap) (ys8 ++ [v8]) ((pfL 0).map IsS) := by
        unfold pfL
        rw [if_pos rfl]
        exact (a8.mono g8).snoc r8
      have gD8 := (F8.mu (D, PySem.W.listOf (ys8 ++ [v8]).toArray (ys8 ++ [v8]).length) List.mem_cons_self).1
      have F6 := F8.less hDW
      have a9 := (aF).mono (fext_sub (Z' := W) fun b hb => List.mem_cons_of_mem _ hb)
      refine wpAny_execs_cons (x_retF F6 (ev_join (x := ", ") (ys := pfL 0) ev_str (ev_name (nm_local F6.ns j1) ⟨D, _, _, rfl, Fz.of hDW gD8, a9⟩) ?_) fun v h' tk' y p => k v h' tk' y p)
      have := pfL_size hx
      have e2 : (", " : Str).length = 2 := by decide +kernel
      rw [e2]; omega
    · obtain ⟨ys8, rfl, a8, j1⟩ := inv
      have gD8 := (F'.mu (D, PySem.W.listOf ys8.toArray ys8.length) List.mem_cons_self).1
      have F6 := F'.less hDW
      have a9 := (a8).mono (fext_sub (Z' := W) fun b hb => List.mem_cons_of_mem _ hb)
      refine wpAny_execs_cons (x_retF F6 (ev_join (x := ", ") (ys := pfL x) ev_str (ev_name (nm_local F6.ns j1) ⟨D, _, _, rfl, Fz.of hDW gD8, a9⟩) ?_) fun v h' tk' y p => k v h' tk' y p)
      have := pfL_size hx
      have e2 : (", " : Str).length = 2 := by decide +kernel
      rw [e2]; omega
end
end Mine
namespace Mine
theorem bitXor_nat (a b : Nat) : Builtin.bitXor (a : Int) (b : Int) = ((a ^^^ b : Nat) : Int) := by
  rw [PyProof.Rows.bitXor_and, bitAnd_nat]
  have := xor_and_add (a + 1) a b (Nat.lt_of_lt_of_le (Nat.lt_two_pow_self) (Nat.pow_le_pow_right (by omega) (by omega)))
  omega
def lw : Nat → Nat → Nat → Nat
  | 0, _, q => q
  | k + 1, l, q => if l % 2 = 0 then lw k (l / 2) (q + 1) else q
def plS (x : Nat) : List UInt8 := rstripY (apN 3 x) [65]
def plQ (x : Nat) : Nat := 4 * ((apN 3 x).length - (plS x).length)
def plL (x : Nat) : Nat := ((plS x).getD ((plS x).length - 1) 0).toNat
def place (x : Nat) : Nat := if x = 0 then 12 else lw 4 (plL x - 65) (plQ x)
def plOk (x : Nat) : Bool := if x = 0 then plS x == [] else (plS x != []) && decide ((plS x).length ≤ (apN 3 x).length) && decide (65 < plL x) && decide (plL x < 81) && decide (place x < 12) && decide (x % 2 ^ place x = 0) && decide (x / 2 ^ place x % 2 = 1)
set_option maxRecDepth 100000 in
theorem pl_0 : (List.range 256).all (fun y => plOk (256 * 0 + y)) = true := by decide +kernel
set_option maxRecDepth 100000 in
theorem pl_1 : (List.range 256).all (fun y => plOk (256 * 1 + y)) = true := by decide +kernel
set_option maxRecDepth 100000 in
theorem pl_2 : (List.range 256).all (fun y => plOk (256 * 2 + y)) = true := by decide +kernel
set_option maxRecDepth 100000 in
theorem pl_3 : (List.range 256).all (fun y => plOk (256 * 3 + y)) = true := by decide +kernel
set_option maxRecDepth 100000 in
theorem pl_4 : (List.range 256).all (fun y => plOk (256 * 4 + y)) = true := by decide +kernel
set_option maxRecDepth 100000 in
theorem pl_5 : (List.range 256).all (fun y => plOk (256 * 5 + y)) = true := by decide +kernel
set_option maxRecDepth 100000 in
theorem pl_6 : (List.range 256).all (fun y => plOk (256 * 6 + y)) = true := by decide +kernel
set_option maxRecDepth 100000 in
theorem pl_7 : (List.range 256).all (fun y => plOk (256 * 7 + y)) = true := by decide +kernel
set_option maxRecDepth 100000 in
theorem pl_8 : (List.range 256).all (fun y => plOk (256 * 8 + y)) = true := by decide +kernel
set_option maxRecDepth 100000 in
theorem pl_9 : (List.range 256).all (fun y => plOk (256 * 9 + y)) = true := by decide +kernel
set_option maxRecDepth 100000 in
theorem pl_10 : (List.range 256).all (fun y => plOk (256 * 10 + y)) = true := by decide +kernel
set_option maxRecDepth 100000 in
theorem pl_11 : (List.range 256).all (fun y => plOk (256 * 11 + y)) = true := by decide +kernel
set_option maxRecDepth 100000 in
theorem pl_12 : (List.range 256).all (fun y => plOk (256 * 12 + y)) = true := by decide +kernel
set_option maxRecDepth 100000 in
theorem pl_13 : (List.range 256).all (fun y => plOk (256 * 13 + y)) = true := by decide +kernel
set_option maxRecDepth 100000 in
theorem pl_14 : (List.range 256).all (fun y => plOk (256 * 14 + y)) = true := by decide +kernel
set_option maxRecDepth 100000 in
theorem pl_15 : (List.range 256).all (fun y => plOk (256 * 15 + y)) = true := by decide +kernel
theorem plAll : ∀ k, k < 16 → (List.range 256).all (fun y => plOk (256 * k + y)) = true
  | 0, _ => pl_0
  | 1, _ => pl_1
  | 2, _ => pl_2
  | 3, _ => pl_3
  | 4, _ => pl_4
  | 5, _ => pl_5
  | 6, _ => pl_6
  | 7, _ => pl_7
  | 8, _ => pl_8
  | 9, _ => pl_9
  | 10, _ => pl_10
  | 11, _ => pl_11
  | 12, _ => pl_12
  | 13, _ => pl_13
  | 14, _ => pl_14
  | 15, _ => pl_15
  | k + 16, h => absurd h (by omega)
structure PlOk (x : Nat) : Prop where
  ne : plS x ≠ []
  le : (plS x).length ≤ (apN 3 x).length
  lo : 65 < plL x
  hi : plL x < 81
  pl : place x < 12
  below : x % 2 ^ place x = 0
  at' : x / 2 ^ place x % 2 = 1
theorem pl_ok {x : Nat} (hx : x < 4096) (h0 : x ≠ 0) : PlOk x := by
  have h := List.all_eq_true.mp (plAll (x / 256) (by omega)) (x % 256) (List.mem_range.mpr (by omega))
  rw [Nat.div_add_mod] at h
  unfold plOk at h
  rw [if_neg h0] at h
  simp only [Bool.and_eq_true, decide_eq_true_eq, bne_iff_ne] at h
  obtain ⟨⟨⟨⟨⟨⟨h1, h2⟩, h3⟩, h4⟩, h5⟩, h6⟩, h7⟩ := h
  exact ⟨h1, h2, h3, h4, h5, h6, h7⟩
theorem pl_zero : plS 0 = [] := by decide
def lwWords : List Str := ["OPTIMIZED", "NEWLOCALS", "VARARGS", "VARKEYWORDS", "NESTED", "GENERATOR", "NOFREE", "COROUTINE", "ITERABLE_COROUTINE", "ASYNC_GENERATOR", "0x400", "0x800", "0x0"]
theorem words_at {i : Nat} (hi : i < 12) : lwWords[i]? = some (flagName i) := by
  match i, hi with
  | 0, _ | 1, _ | 2, _ | 3, _ | 4, _ | 5, _ | 6, _ | 7, _ | 8, _ | 9, _ => rfl
  | 10, _ | 11, _ => decide +kernel
theorem words_12 : lwWords[12]? = some (baseText "0x" 16 0) := by decide +kernel
theorem name_ok {i : Nat} (hi : i < 12) : 44 ∉ (flagName i).cps.toList := by
  match i, hi with
  | 0, _ | 1, _ | 2, _ | 3, _ | 4, _ | 5, _ | 6, _ | 7, _ | 8, _ | 9, _ | 10, _ | 11, _ => decide +kernel
theorem zero_ok : 44 ∉ (baseText "0x" 16 0).cps.toList := by decide +kernel
theorem pfN_first {x P : Nat} (h1 : x % 2 ^ P = 0) (h2 : x / 2 ^ P % 2 = 1) : ∀ j, (j ≤ P → pfN x j = []) ∧ (P < j → ∃ r, pfN x j = flagName P :: r)
  | 0 => ⟨fun _ => rfl, fun h => absurd h (by omega)⟩
  | j + 1 => by
    obtain ⟨ih1, ih2⟩ := pfN_first h1 h2 j
    refine ⟨fun h => ?_, fun h => ?_⟩
    · rw [pfN_succ, ih1 (by omega)]
      have : x.testBit j = false := by
        rw [clear_testBit, decide_eq_false_iff_not]
        have : x / 2 ^ j % 2 = 0 := by
          have e : 2 ^ P = 2 ^ j * 2 * 2 ^ (P - j - 1) := by
            rw [← Nat.pow_succ, ← Nat.pow_add]; congr 1; omega
          have hd : 2 ^ j * 2 ∣ x := Nat.dvd_trans ⟨_, e⟩ (Nat.dvd_of_mod_eq_zero h1)
          obtain ⟨c, rfl⟩ := hd
          rw [Nat.mul_assoc, Nat.mul_div_cancel_left _ (Nat.two_pow_pos j)]
          omega
        omega
      rw [this]; simp
    · rw [pfN_succ]
      by_cases q : P = j
      · subst q
        have : x.testBit P = true := by rw [clear_testBit, decide_eq_true_eq]; exact h2
        rw [ih1 (Nat.le_refl _), this]
        exact ⟨[], by simp⟩
      · obtain ⟨r, e⟩ := ih2 (by omega)
        rw [e]
        exact ⟨_, rfl⟩
/-- the first word told and the word of the place -/
theorem place_word {x : Nat} (hx : x < 4096) : ∃ a, lwWords[place x]? = some a ∧ (Txt.split (Txt.join ", " (pfL x)) ", ")[0]? = some a := by
  have hy : (", " : Str).cps.toList = 44 :: [32] := by decide +kernel
  have hk : Builtin.Str.strKind (", " : Str) = 1 := by decide +kernel
  by_cases h0 : x = 0
  · subst h0
    refine ⟨_, words_12, split_first (c := 44) (t := [32]) (r := Str.empty) (.inl ?_) hy zero_ok hk⟩
    show Builtin.Str.glued _ _ = _
    rw [StrLaws.glued_eq_join]; rfl
  · have ok := pl_ok hx h0
    obtain ⟨r, e⟩ := (pfN_first ok.below ok.at' 32).2 (by have := ok.pl; omega)
    refine ⟨_, words_at ok.pl, split_first (c := 44) (t := [32]) (r := Str.join ", " r) ?_ hy (name_ok ok.pl) hk⟩
    show Builtin.Str.glued _ _ = _ ∨ Builtin.Str.glued _ _ = _
    rw [StrLaws.glued_eq_join]
    unfold pfL
    rw [if_neg h0, e]
    cases r with
    | nil => exact .inl rfl
    | cons b r => exact .inr rfl
theorem place_le (x : Nat) (hx : x < 4096) : place x < 13 := by
  by_cases h0 : x = 0
  · subst h0; decide
  · have := (pl_ok hx h0).pl; omega
end Mine
namespace Mine
section
variable {prog : Program} {w : World} {W : List Addr} {A : Around} {env : Env} {h : Heap}
theorem ev_neg {e : Expr} {pos : Pos} {a : Int} (x : Ev prog w W A env h e (IsI a)) : Ev prog w W A env h (.UnaryOp .USub e pos) (IsI (-a)) := by
  intro s Q E y hw k
  refine wpAny_UnaryOp (x s _ _ y hw fun v h1 tk1 y1 p1 => ?_)
  obtain ⟨t, rfl⟩ := p1
  exact PyProof.Rows.neg_int (k _ _ _ y1 ⟨_, rfl⟩)
end
inductive StrsC : List Expr → List Str → Prop
  | nil : StrsC [] []
  | cons (x : Str) (p : Pos) {es : List Expr} {ys : List Str} : StrsC es ys → StrsC (.Constant (.str x) 0 p :: es) (x :: ys)
theorem evl_strs {prog : Program} {w : World} {W : List Addr} {A : Around} {env : Env} {h : Heap} {pos : Pos} : ∀ {es : List Expr} {ys : List Str}, StrsC es ys → EvL prog w W A env h pos es (ys.map IsS)
  | _, _, .nil => evl_nil
  | _, _, .cons x p r => evl_cons ev_str (evl_strs r) rfl
theorem ev_strs {prog : Program} {w : World} {W : List Addr} {A : Around} {env : Env} {h : Heap} {pos : Pos} {e : Expr} {ys : List Str} (hz : ys.length ≤ sizeLine) (h1 : ∃ es, e = .List es pos ∧ StrsC es ys) : Ev prog w W A env h e (IsL (ys.map IsS)) := by
  obtain ⟨es, rfl, h2⟩ := h1
  exact ev_list (evl_strs h2) (by rw [List.length_map]; exact hz)
section
variable {prog : Program} {w : World} {A : Around} {s₀ s : Shared} {env : Env} {W : List Addr} {Mu : List (Addr × Obj)} {m cm : Str → Option Value} {E : Value → Shared → Prop} {Q : Flow → Shared → Prop}
/-- what holds between two statements -/
theorem x_mid {st : Stmt} {rest : List Stmt} (F : FS s₀ env W Mu m cm s) (P : (Str → Option Value) → (Str → Option Value) → List (Addr × Obj) → Fm → Prop)
    (h1 : wpAny (model prog w) A (exec st env) (fun f s' => f = .next ∧ ∃ m' cm' Mu', FS s₀ env W Mu' m' cm' s' ∧ FExt (Fz W s.heap) (Fz W s'.heap) ∧ P m' cm' Mu' (Fz W s'.heap)) E s)
    (h2 : ∀ m' cm' Mu' s', FS s₀ env W Mu' m' cm' s' → FExt (Fz W s.heap) (Fz W s'.heap) → P m' cm' Mu' (Fz W s'.heap) → wpAny (model prog w) A (execs rest env) Q E s') : wpAny (model prog w) A (execs (st :: rest) env) Q E s := by
  refine wpAny_execs_cons (wpAny_mono h1 (fun f s' h => ?_) fun _ _ e => e)
  obtain ⟨rfl, m', cm', Mu', F', g, p⟩ := h
  exact h2 _ _ _ _ F' g p
end
section
variable {prog : Program} {w : World} {T0 : Heap} {p : Program} {loose : List Str} {mean : ExcName → Option Value} {mg mb : Str → Option Value}
set_option maxRecDepth 100000 in
set_option maxHeartbeats 4000000 in
theorem place_fn (X : (hd.heap_39 w.params).In T0) (T : Top p loose mean mg mb T0) {a b x : Nat} (hx : x < 4096) (hxx : a ^^^ b = x) :
    Fn prog w T0 2 43 [IsI (a : Nat), IsI (b : Nat)] (IsI (place x : Nat)) := by
  refine' fn_K X T.nolimit ?ho ?hcd (fun vs => [Str.ofString "one", Str.ofString "other"].zip vs) ?hbind ?hkind ?hnd ?hb ?c1 ?c2 ?c3
  case ho => k_is
  case hcd => k_is
  case hbind => 
    intro vs hvs
    obtain ⟨a, b, rfl⟩ := len2 hvs
    rfl
  case hkind =>
    intro vs hvs n
    obtain ⟨a, b, rfl⟩ := len2 hvs
    exact kindsX rfl n
  case hnd => decide +kernel
  case c1 => rfl
  case c2 => rfl
  case c3 => rfl
  case hb =>
    intro W A s s₁ L vs Q E hA hT hlen F hargs k
    obtain ⟨v1, v2, rfl⟩ := len2 hlen
    obtain ⟨r1, r2, _⟩ := hargs
    have hI := int2ap_fn (prog := prog) X T hx
    have hF := flags_fn (prog := prog) X T hx
    have hL3 : (apN 3 x).length ≤ 3 := apN_len 3 x
    refine wpAny_execs_cons ?_
    generalize hz : Expr.List _ _ = z1
    refine x_set F (P := IsL (lwWords.map IsS)) ?_ (fun vw s2 F2 g2 rw2 => ?_) ?_ rfl rfl
    · refine ev_strs (by rw [sizeLine_eq]; decide) ⟨_, hz.symm, ?_⟩
      clear hz
      unfold lwWords
      repeat (first | exact StrsC.nil | refine StrsC.cons _ _ ?_)
    · clear hz
      refine wpAny_execs_cons (x_set F2 (P := IsY (apN 3 x)) (ev_callK X (hT.trans F2.old) (by k_is) (nm_glob X T.g (hT.trans F2.old) (by k_is)) (evl_cons (P := IsI (x : Nat)) ?_ evl_nil) (hI.callB (hA.le (by omega)) (hT.trans F2.old))) fun v3 s3 F3 g3 r3 => ?_)
      · rw [← hxx, ← bitXor_nat]
        exact ev_xor (ev_name (nm_local F2.ns (upd_other rfl)) ((IsI _).mono g2 r1)) (ev_name (nm_local F2.ns (upd_other rfl)) ((IsI _).mono g2 r2))
      refine wpAny_execs_cons (x_set F3 (P := IsY (plS x)) (ev_rstrip (ev_name (nm_local F3.ns upd_same) r3) ev_bytes (by rw [sizeLine_eq]; omega)) fun v4 s4 F4 g4 r4 => ?_)
      refine wpAny_execs_cons (x_set F4 (P := IsI (12 : Nat)) ev_int fun v5 s5 F5 g5 r5 => ?_)
      -- what is left
      refine x_mid F5 (fun m cm Mu G => Mu = [] ∧ m (Str.ofString "words") = some vw ∧ m (Str.ofString "one") = some v1 ∧ m (Str.ofString "other") = some v2 ∧ ∃ vp, m (Str.ofString "place") = some vp ∧ (IsI (place x : Nat)).rel G vp) ?_ fun m cm Mu s7 F7 g7 inv => ?_
      · refine x_if (b := plS x != []) F5 (tv_cmp (ev_name (nm_local F5.ns (upd_other upd_same)) ((IsY _).mono g5 r4)) ev_bytes cmp_neY) fun s6 F6 g6 y6 => ?_
        by_cases h0 : x = 0
        · have hS : plS x = [] := by rw [h0]; exact pl_zero
          rw [hS, if_neg (by decide)]
          refine wpAny_execs_nil ?_
          refine ⟨rfl, _, _, _, F6, g6, rfl, upd_other (upd_other (upd_other upd_same)), upd_other (upd_other (upd_other (upd_other rfl))), upd_other (upd_other (upd_other (upd_other rfl))), v5, upd_same, ?_⟩
          have : place x = 12 := by rw [h0]; rfl
          rw [this]; exact (IsI _).mono g6 r5
        · have ok := pl_ok hx h0
          rw [if_pos (by simpa using ok.ne)]
          have hT6 := hT.trans F6.old
          have g46 := g5.trans g6
          have r3' := (IsY (apN 3 x)).mono (g4.trans g46) r3
          have r4' := (IsY (plS x)).mono g46 r4
          refine wpAny_execs_cons (x_set F6 (P := IsI (plQ x : Nat)) ?_ fun v7 s7 F7 g7 r7 => ?_)
          · have e : ((plQ x : Nat) : Int) = 4 * (((apN 3 x).length : Nat) - ((plS x).length : Nat)) := by
              unfold plQ
              have := ok.le
              omega
            rw [e]
            exact ev_mul ev_int (ev_sub (ev_callB (nm_boot X T.g T.b T.builtins hT6 (by k_is) boot_len) (evl_cons (ev_name (nm_local F6.ns (upd_other (upd_other upd_same))) r3') evl_nil) (callB_lenY (by omega)))
              (ev_callB (nm_boot X T.g T.b T.builtins hT6 (by k_is) boot_len) (evl_cons (ev_name (nm_local F6.ns (upd_other upd_same)) r4') evl_nil) (callB_lenY (by have := ok.le; omega)))) (.of_left (intBits_le_64 (by omega) (by omega)))
          refine wpAny_execs_cons (x_set F7 (P := IsI (plL x - 65 : Nat)) ?_ fun v8 s8 F8 g8 r8 => ?_)
          · have e : ((plL x - 65 : Nat) : Int) = ((plL x : Nat) : Int) - 65 := by have := ok.lo; omega
            rw [e]
            exact ev_sub (ev_lastY (ev_name (nm_local F7.ns (upd_other (upd_other upd_same))) ((IsY _).mono g7 r4')) (ev_neg ev_int) rfl ok.ne (by have := ok.le; omega)) ev_int
          have hlast : place x = lw 4 (plL x - 65) (plQ x) := by unfold place; rw [if_neg h0]
          refine wpAny_execs_cons (x_while F8 (fun k G Mu m cm => Mu = [] ∧ m (Str.ofString "words") = some vw ∧ m (Str.ofString "one") = some v1 ∧ m (Str.ofString "other") = some v2 ∧
              ∃ l q vl vq, 0 < l ∧ l < 2 ^ k ∧ place x = lw k l q ∧ m (Str.ofString "letter") = some vl ∧ (IsI (l : Nat)).rel G vl ∧ m (Str.ofString "place") = some vq ∧ (IsI (q : Nat)).rel G vq) 4
            ⟨rfl, upd_other (upd_other (upd_other (upd_other (upd_other upd_same)))), upd_other (upd_other (upd_other (upd_other (upd_other (upd_other rfl))))), upd_other (upd_other (upd_other (upd_other (upd_other (upd_other rfl))))),
              plL x - 65, plQ x, v8, v7, by have := ok.lo; omega, by have := ok.hi; omega, hlast, upd_same, r8, upd_other upd_same, (IsI _).mono g8 r7⟩
            (fun kk Mu m cm s9 G1 E' F9 g9 g10 inv => ?_))
          obtain ⟨rfl, iW, iO, iR, l, q, vl, vq, hl0, hlk, hpl, iL, rL, iP, rP⟩ := inv
          have hm2 : ((l : Nat) : Int).fmod 2 = ((l % 2 : Nat) : Int) := by rw [Int.fmod_eq_emod_of_nonneg _ (by omega)]; omega
          obtain ⟨k', rfl⟩ : ∃ k', kk = k' + 1 := by
            cases kk with
            | zero => omega
            | succ k' => exact ⟨k', rfl⟩
          have G9 := ((g6.trans g7).trans g8).trans (g9.trans g10)
          refine ⟨((l : Nat) : Int).fmod 2 == 0, tv_cmp (ev_mod (ev_name (nm_local F9.ns iL) rL) ev_int (by omega)) ev_int cmp_eq, fun hb s10 F10 y10 g11 => ?_, fun hb s10 F10 y10 g11 => ?_⟩
          · rw [hm2] at hb
            have h2 : l % 2 = 0 := by simp at hb; omega
            have e1 : ((l : Nat) : Int).fdiv 2 = ((l / 2 : Nat) : Int) := by rw [Int.fdiv_eq_ediv_of_nonneg _ (by omega)]; omega
            refine wpAny_execs_cons (x_augFdiv F10 iL ((IsI _).mono (y10.fz W) rL) ev_int (by omega) (noPy (by decide)) fun va s11 F11 g12 ra => ?_)
            rw [e1] at ra
            refine wpAny_execs_cons (x_augAdd F11 (upd_other iP) ((IsI _).mono ((y10.fz W).trans g12) rP) ev_int fun vb s12 F12 g13 rb => ?_)
            refine wpAny_execs_nil ?_
            refine ⟨k', _, _, _, Nat.lt_succ_self _, F12, (g11.trans g12).trans g13, rfl, upd_other (upd_other iW), upd_other (upd_other iO), upd_other (upd_other iR), l / 2, q + 1, va, vb, by omega, ?_, ?_, upd_other upd_same, (IsI _).mono g13 ra, upd_same, ?_⟩
            · rw [Nat.pow_succ] at hlk; omega
            · rw [hpl]
              conv => lhs; unfold lw
              rw [if_pos h2]
            · rw [Int.natCast_add]; exact rb
          · rw [hm2] at hb
            have h2 : ¬ l % 2 = 0 := by simp at hb; omega
            refine wpAny_execs_nil ?_
            refine ⟨rfl, _, _, _, F10, G9.trans (y10.fz W), rfl, iW, iO, iR, vq, iP, ?_⟩
            have : place x = q := by
              rw [hpl]
              conv => lhs; unfold lw
              rw [if_neg h2]
            rw [this]; exact (IsI _).mono (y10.fz W) rP
      · obtain ⟨rfl, iW, iO, iR, vp, iP, rP⟩ := inv
        obtain ⟨wd, hw1, hw2⟩ := place_word hx
        have hT7 := hT.trans F7.old
        have G2 : FExt (Fz W s2.heap) (Fz W s7.heap) := ((g3.trans g4).trans g5).trans g7
        have jl : (Txt.join ", " (pfL x)).length ≤ 640 := by
          show (Builtin.Str.glued _ _).length ≤ _
          rw [StrLaws.glued_eq_join]
          have h1 := StrLaws.join_length_le ", " (pfL x)
          have h2 := pfL_size hx
          have e2 : (", " : Str).length = 2 := by decide +kernel
          rw [e2] at h1; omega
        have hpl13 := place_le x hx
        refine wpAny_execs_cons (x_retF F7 (P := IsI (place x : Nat)) ?_ fun v h' tk' y p => k v h' tk' y p)
        refine ev_ite (c := wd == wd) (tv_cmp (ev_item (k := 0) (ev_split (ev_callK X hT7 (by k_is) (nm_glob X T.g hT7 (by k_is)) (evl_cons (P := IsI (x : Nat)) ?_ evl_nil) (hF.callB (hA.le (by omega)) hT7)) ev_str (by decide +kernel) (by rw [sizeLine_eq]; omega)) ev_int (by omega) (by omega) ?_)
          (ev_item (ev_name (nm_local F7.ns iW) ((IsL _).mono G2 rw2)) (ev_name (nm_local F7.ns iP) rP) (by omega) (by omega) ?_) cmp_eqS) (fun _ => ev_name (nm_local F7.ns iP) rP) (fun hc => by simp at hc)
        · rw [← hxx, ← bitXor_nat]
          exact ev_xor (ev_name (nm_local F7.ns iO) ((IsI _).mono (g2.trans G2) r1)) (ev_name (nm_local F7.ns iR) ((IsI _).mono (g2.trans G2) r2))
        · show ((Txt.split _ _).map IsS)[0]? = some (IsS wd)
          rw [List.getElem?_map, hw2]; rfl
        · rw [Int.toNat_natCast, List.getElem?_map, hw1]; rfl
    · rw [← hz]; rfl
end
end Mine
namespace Mine
def spot (ds : List Int) (p : Nat) : Nat := ((ds.getD p 0).fmod 4096).toNat
def tabV (ds hs : List Int) (p q : Nat) : Int := if p = q then hs.getD 12 0 + 1 + (ds.getD p 0).fmod 3 else hs.getD (place (spot ds p ^^^ spot ds q)) 0
theorem spot_lt (ds : List Int) (p : Nat) : spot ds p < 4096 := by
  unfold spot
  have := Int.fmod_lt_of_pos (ds.getD p 0) (show (0:Int) < 4096 by omega)
  omega
theorem spot_eq (ds : List Int) (p : Nat) : (ds.getD p 0).fmod 4096 = ((spot ds p : Nat) : Int) := by
  unfold spot
  have := Int.fmod_nonneg_of_pos (ds.getD p 0) (show (0:Int) < 4096 by omega)
  omega
theorem tabV_comm (ds hs : List Int) (p q : Nat) : tabV ds hs p q = tabV ds hs q p := by
  unfold tabV
  by_cases h : p = q
  · subst h; rfl
  · rw [if_neg h, if_neg (Ne.symm h), Nat.xor_comm]
abbrev rowR (V : Nat → Int) : List RP := (List.range 5).map fun q => IsI (V q)
def muL (As : Nat → Addr) (n : Nat → Nat) (ys : Nat → List Value) : List (Addr × Obj) :=
  [(As 0, PySem.W.listOf (ys 0).toArray (n 0)), (As 1, PySem.W.listOf (ys 1).toArray (n 1)), (As 2, PySem.W.listOf (ys 2).toArray (n 2)), (As 3, PySem.W.listOf (ys 3).toArray (n 3)), (As 4, PySem.W.listOf (ys 4).toArray (n 4))]
def setRow (ys : Nat → List Value) (p : Nat) (z : List Value) : Nat → List Value := fun t => if t = p then z else ys t
theorem muL_split (As : Nat → Addr) (n : Nat → Nat) (ys : Nat → List Value) {p : Nat} (hp : p < 5) : ∃ pre post, muL As n ys = pre ++ (As p, PySem.W.listOf (ys p).toArray (n p)) :: post ∧ ∀ z, muL As n (setRow ys p z) = pre ++ (As p, PySem.W.listOf z.toArray (n p)) :: post := by
  match p, hp with
  | 0, _ => exact ⟨[], _, rfl, fun _ => rfl⟩
  | 1, _ => exact ⟨[_], _, rfl, fun _ => rfl⟩
  | 2, _ => exact ⟨[_, _], _, rfl, fun _ => rfl⟩
  | 3, _ => exact ⟨[_, _, _], _, rfl, fun _ => rfl⟩
  | 4, _ => exact ⟨[_, _, _, _], _, rfl, fun _ => rfl⟩
theorem rowR_set {V : Nat → Int} {q : Nat} {x : Int} (hq : q < 5) : (rowR V).set q (IsI x) = rowR (fun t => if t = q then x else V t) := by
  match q, hq with
  | 0, _ => rfl
  | 1, _ => rfl
  | 2, _ => rfl
  | 3, _ => rfl
  | 4, _ => rfl
section
variable {prog : Program} {w : World} {A : Around} {s₀ s : Shared} {env : Env} {W : List Addr} {m cm : Str → Option Value} {E : Value → Shared → Prop} {Q : Flow → Shared → Prop}
/-- table[p][q] = e -/
theorem x_setT {pre0 : List (Addr × Obj)} {As : Nat → Addr} {n : Nat → Nat} {ys : Nat → List Value} {V : Nat → Nat → Int} {p q : Nat} {o i value : Expr} {p1 pos : Pos} {x : Int} (hp : p < 5) (hq : q < 5)
    (F : FS s₀ env W (pre0 ++ muL As n ys) m cm s) (ha : ∀ p, p < 5 → All2 (Fz W s.heap) (ys p) (rowR (V p)))
    (he : Ev prog w W A env s.heap value (IsI x)) (ho : ∀ h', Ext s.heap h' → Ev prog w W A env h' o (IsV (.ref (As p)))) (hi : ∀ h', Ext s.heap h' → Ev prog w W A env h' i (IsI (q : Nat)))
    (c : ∀ ys' s', FS s₀ env W (pre0 ++ muL As n ys') m cm s' → FExt (Fz W s.heap) (Fz W s'.heap) → (∀ p', p' < 5 → All2 (Fz W s'.heap) (ys' p') (rowR fun t => if p' = p ∧ t = q then x else V p' t)) → Q .next s')
    (hs : swapsWith value (some (.Subscript o i p1)) pos.line env = pure false := by rfl) : wpAny (model prog w) A (exec (.Assign [.Subscript o i p1] value pos) env) Q E s := by
  obtain ⟨pre, post, e1, e2⟩ := muL_split As n ys hp
  rw [e1, ← List.append_assoc] at F
  have hl : (ys p).length = 5 := by rw [(ha p hp).length, List.length_map, List.length_range]
  refine x_setAt (P := IsI x) F he ho hi (by omega) (by omega) (by rw [hl]; omega) (fun v s' F' g r => ?_) hs
  refine c (setRow ys p ((ys p).set q v)) s' (by rw [e2, ← List.append_assoc]; exact F') g fun p' hp' => ?_
  unfold setRow
  by_cases h : p' = p
  · subst h
    rw [if_pos rfl]
    have := ((ha p' hp').mono g).set (i := q) r
    rw [rowR_set hq] at this
    have e3 : (fun t => if p' = p' ∧ t = q then x else V p' t) = fun t => if t = q then x else V p' t := by funext t; simp
    rw [e3]; exact this
  · rw [if_neg h]
    have e3 : (fun t => if p' = p ∧ t = q then x else V p' t) = fun t => V p' t := by funext t; simp [h]
    rw [e3]; exact (ha p' hp').mono g
end
section
variable {prog : Program} {w : World} {T0 : Heap} {p : Program} {loose : List Str} {mean : ExcName → Option Value} {mg mb : Str → Option Value}
set_option maxRecDepth 100000 in
set_option maxHeartbeats 4000000 in
theorem table_fn (X : (hd.heap_39 w.params).In T0) (T : Top p loose mean mg mb T0) {ds hs : List Int} (hd5 : ds.length = 5) (hh : hs.length = 13) :
    Fn prog w T0 3 55 [IsLI ds, IsLI hs] (IsM ((List.range 5).map fun p => (List.range 5).map fun q => tabV ds hs p q)) := by
  refine' fn_K X T.nolimit ?ho ?hcd (fun vs => [Str.ofString "drawn", Str.ofString "heights"].zip vs) ?hbind ?hkind ?hnd ?hb ?c1 ?c2 ?c3
  case ho => k_is
  case hcd => k_is
  case hbind => 
    intro vs hvs
    obtain ⟨a, b, rfl⟩ := len2 hvs
    rfl
  case hkind =>
    intro vs hvs n
    obtain ⟨a, b, rfl⟩ := len2 hvs
    exact kindsX rfl n
  case hnd => decide +kernel
  case c1 => rfl
  case c2 => rfl
  case c3 => rfl
  case hb =>
    intro W A s s₁ L vs Q E hA hT hlen F hargs k
    obtain ⟨v1, v2, rfl⟩ := len2 hlen
    obtain ⟨r1, r2, _⟩ := hargs
    have hT1 : Ext T0 s₁.heap := hT.trans F.old
    refine wpAny_execs_cons (ax_compF F (src_range (n := 5) hA.handled (nm_boot X T.g T.b T.builtins hT1 (by k_is) boot_range) ev_int range5_z) (by rw [List.length_map, List.length_range]; exact range5_z) (IsL (List.replicate 5 (IsI 0)))
      (fun h' C W' y => evF_mul (n := 5) (ev_list (evl_cons ev_int evl_nil)) ev_int (by omega)) (fun D As s2 F2 g2 gD a2 hDW hD0 nd hl5 fr => ?_) rfl)
    rw [List.length_map, List.length_range] at hl5
    match As, hl5 with
    | [b0, b1, b2, b3, b4], _ =>
    have sNone : ∀ b, s₁.heap.get? b = none → s.heap.get? b = none := fun b hb => by
      cases e : s.heap.get? b with
      | none => rfl
      | some o => have := F.old _ _ e; rw [hb] at this; cases this
    obtain ⟨⟨c0, w0, n0, e0, q0, z0⟩, ⟨c1, w1, n1, e1, q1, z1⟩, ⟨c2, w2, n2, e2, q2, z2⟩, ⟨c3, w3, n3, e3, q3, z3⟩, ⟨c4, w4, n4, e4, q4, z4⟩, _⟩ := a2
    obtain rfl := Value.ref.inj e0
    obtain rfl := Value.ref.inj e1
    obtain rfl := Value.ref.inj e2
    obtain rfl := Value.ref.inj e3
    obtain rfl := Value.ref.inj e4
    have f0 := fr b0 (by simp)
    have f1 := fr b1 (by simp)
    have f2 := fr b2 (by simp)
    have f3 := fr b3 (by simp)
    have f4 := fr b4 (by simp)
    simp only [List.nodup_cons, List.mem_cons, List.not_mem_nil, or_false, not_or, List.nodup_nil, and_true, not_false_eq_true] at nd
    obtain ⟨⟨d01, d02, d03, d04⟩, ⟨d12, d13, d14⟩, ⟨d23, d24⟩, d34⟩ := nd
    have m3 : b3 ∉ b4 :: W := by simp only [List.mem_cons, not_or]; exact ⟨d34, f3.2.2⟩
    have m2 : b2 ∉ b3 :: b4 :: W := by simp only [List.mem_cons, not_or]; exact ⟨d23, d24, f2.2.2⟩
    have m1 : b1 ∉ b2 :: b3 :: b4 :: W := by simp only [List.mem_cons, not_or]; exact ⟨d12, d13, d14, f1.2.2⟩
    have m0 : b0 ∉ b1 :: b2 :: b3 :: b4 :: W := by simp only [List.mem_cons, not_or]; exact ⟨d01, d02, d03, d04, f0.2.2⟩
    have mD : D ∉ b0 :: b1 :: b2 :: b3 :: b4 :: W := by simp only [List.mem_cons, not_or]; exact ⟨Ne.symm f0.2.1, Ne.symm f1.2.1, Ne.symm f2.2.1, Ne.symm f3.2.1, Ne.symm f4.2.1, hDW⟩
    have F7 := ((((F2.watch (Fz.get q4) f4.2.2 (sNone _ f4.1)).watch (Fz.get q3) m3 (sNone _ f3.1)).watch (Fz.get q2) m2 (sNone _ f2.1)).watch (Fz.get q1) m1 (sNone _ f1.1)).watch (Fz.get q0) m0 (sNone _ f0.1)
    have hMu : [(b0, PySem.W.listOf w0.toArray n0), (b1, PySem.W.listOf w1.toArray n1), (b2, PySem.W.listOf w2.toArray n2), (b3, PySem.W.listOf w3.toArray n3), (b4, PySem.W.listOf w4.toArray n4)] = muL (fun p : Nat => [b0, b1, b2, b3, b4].getD p 0) (fun p : Nat => [n0, n1, n2, n3, n4].getD p 0) (fun p => [w0, w1, w2, w3, w4].getD p []) := rfl
    rw [hMu] at F7
    generalize hAs : (fun p : Nat => [b0, b1, b2, b3, b4].getD p 0) = AsF at F7
    generalize hn : (fun p : Nat => [n0, n1, n2, n3, n4].getD p 0) = nF at F7
    have F8 := F7
    have gW : FExt (Fz W s₁.heap) (Fz (b0 :: b1 :: b2 :: b3 :: b4 :: W) s2.heap) := fun b o e => by
      have h1 := g2 b o e
      refine Fz.of (fun hb => ?_) (Fz.get h1)
      have h0 : ∀ c, s₁.heap.get? c = none → b ≠ c := fun c hc q => by have := Fz.get e; rw [q, hc] at this; cases this
      simp only [List.mem_cons] at hb
      rcases hb with hb | hb | hb | hb | hb | hb
      · exact h0 _ f0.1 hb
      · exact h0 _ f1.1 hb
      · exact h0 _ f2.1 hb
      · exact h0 _ f3.1 hb
      · exact h0 _ f4.1 hb
      · exact Fz.notin e hb
    have rT : (IsL ((List.range 5).map fun p => IsV (.ref (AsF p)))).rel (Fz (b0 :: b1 :: b2 :: b3 :: b4 :: W) s2.heap) (.ref D) := by
      rw [← hAs]
      exact ⟨D, _, _, rfl, Fz.of mD gD, rfl, rfl, rfl, rfl, rfl, trivial⟩
    have zz : ∀ (G G' : Fm) (w : List Value), All2 G w (List.replicate 5 (IsI 0)) → All2 G' w (rowR fun _ => 0) := fun G G' w z => All2.ofInts (All2.ints (ns := [0, 0, 0, 0, 0]) z)
    have aF : ∀ p, p < 5 → All2 (Fz (b0 :: b1 :: b2 :: b3 :: b4 :: W) s2.heap) ([w0, w1, w2, w3, w4].getD p []) (rowR fun _ => 0) := fun p hp => by
      match p, hp with
      | 0, _ => exact zz _ _ _ z0
      | 1, _ => exact zz _ _ _ z1
      | 2, _ => exact zz _ _ _ z2
      | 3, _ => exact zz _ _ _ z3
      | 4, _ => exact zz _ _ _ z4
    have rD := (IsLI ds).mono gW r1
    have rH := (IsLI hs).mono gW r2
    refine wpAny_execs_cons (x_for F8 (src_range (n := 5) hA.handled (nm_boot X T.g T.b T.builtins (hT.trans F8.old) (by k_is) boot_range) ev_int range5_z) storeL
      (fun i G Mu m cm => ∃ (ys : Nat → List Value) (V : Nat → Nat → Int), Mu = muL AsF nF ys ∧ (∀ p, p < 5 → All2 G (ys p) (rowR (V p))) ∧ (∀ p q, p < i → q < i → V p q = tabV ds hs p q) ∧ m (Str.ofString "table") = some (.ref D) ∧ m (Str.ofString "drawn") = some v1 ∧ m (Str.ofString "heights") = some v2)
      (fun _ G G' _ _ _ g ⟨ys, V, e, a, q⟩ => ⟨ys, V, e, fun p hp => (a p hp).mono g, q⟩) (fun _ _ _ _ => False) (fun _ _ _ _ _ _ h => h)
      ⟨_, fun _ _ => 0, rfl, aF, fun p q h _ => absurd h (by omega), upd_same, upd_other rfl, upd_other rfl⟩
      (fun i S vi I oI Mu m cm s5 G1 E' hS g1 g5 F5 hri inv => ?_) (fun m' cm' Mu' s' E' F' g inv => ?_) (fun _ _ _ _ _ _ h => h.elim))
    · obtain ⟨hi, rfl⟩ := range_item hS
      obtain ⟨ys, V, rfl, a5, hV, i1, i2, i3⟩ := inv
      have G5 := g1.trans g5
      refine wpAny_execs_cons (x_setT (pre0 := [(I, oI)]) (p := i) (q := i) (x := tabV ds hs i i) hi hi F5 a5 ?_ (fun h' y => ev_item (ev_name (nm_local (F5.ns.keeps y) (upd_other i1)) ((IsL _).mono (G5.trans (y.fz _)) rT)) (ev_name (nm_local (F5.ns.keeps y) upd_same) ((IsI _).mono (y.fz _) hri)) (by omega) (by omega) (range_at hi)) (fun h' y => ev_name (nm_local (F5.ns.keeps y) upd_same) ((IsI _).mono (y.fz _) hri)) fun ys6 s6 F6 g6 a6 => ?_)
      · have e : tabV ds hs i i = hs.getD 12 0 + 1 + (ds.getD i 0).fmod 3 := by unfold tabV; rw [if_pos rfl]
        rw [e]
        exact ev_add (ev_add (ev_item (ev_name (nm_local F5.ns (upd_other i3)) ((IsLI hs).mono G5 rH)) ev_int (by omega) (by omega) (li_item (i := 12) (by omega))) ev_int) (ev_mod (ev_item (ev_name (nm_local F5.ns (upd_other i2)) ((IsLI ds).mono G5 rD)) (ev_name (nm_local F5.ns upd_same) hri) (by omega) (by omega) (li_item (by omega))) ev_int (by omega))
      have G6 := G5.trans g6
      refine wpAny_execs_cons (x_for F6 (src_range (n := i) hA.handled (nm_boot X T.g T.b T.builtins (hT.trans F6.old) (by k_is) boot_range) (ev_name (nm_local F6.ns upd_same) ((IsI _).mono g6 hri)) (by rw [sizeLine_eq]; omega)) storeL
        (fun j G Mu m cm => ∃ (ys : Nat → List Value) (V : Nat → Nat → Int), Mu = (I, oI) :: muL AsF nF ys ∧ (∀ p, p < 5 → All2 G (ys p) (rowR (V p))) ∧ (∀ p q, p < i → q < i → V p q = tabV ds hs p q) ∧ V i i = tabV ds hs i i ∧ (∀ q, q < j → V i q = tabV ds hs i q ∧ V q i = tabV ds hs q i) ∧
          m (Str.ofString "table") = some (.ref D) ∧ m (Str.ofString "drawn") = some v1 ∧ m (Str.ofString "heights") = some v2 ∧ m (Str.ofString "i") = some vi)
        (fun _ G G' _ _ _ g ⟨ys, V, e, a, q⟩ => ⟨ys, V, e, fun p hp => (a p hp).mono g, q⟩) (fun _ _ _ _ => False) (fun _ _ _ _ _ _ h => h)
        ⟨ys6, _, rfl, a6, fun p q hp hq => by rw [if_neg (by omega)]; exact hV p q hp hq, by rw [if_pos ⟨rfl, rfl⟩], fun q h => absurd h (by omega), upd_other i1, upd_other i2, upd_other i3, upd_same⟩
        (fun j S2 vj J oJ Mu m cm s7 G2 E'' hS2 g7 g8 F7 hrj inv => ?_) (fun m' cm' Mu' s' E'' F' g inv => ?_) (fun _ _ _ _ _ _ h => h.elim))
      · obtain ⟨hj, rfl⟩ := range_item hS2
        obtain ⟨ys7, V7, rfl, a7, hV7, hii, hq7, j1, j2, j3, j4⟩ := inv
        have G7 := G6.trans (g7.trans g8)
        have ri7 := (IsI (i : Nat)).mono (g6.trans (g7.trans g8)) hri
        have hx : spot ds i ^^^ spot ds j < 4096 := Nat.xor_lt_two_pow (n := 12) (spot_lt ds i) (spot_lt ds j)
        have hij : i ≠ j := by omega
        have tv : tabV ds hs i j = hs.getD (place (spot ds i ^^^ spot ds j)) 0 := by unfold tabV; rw [if_neg hij]
        have hp13 := place_le _ hx
        refine wpAny_execs_cons (x_set F7 (P := IsI (place (spot ds i ^^^ spot ds j) : Nat)) (ev_callK X (hT.trans F7.old) (by k_is) (nm_glob X T.g (hT.trans F7.old) (by k_is)) (evl_cons (P := IsI (spot ds i : Nat)) ?_ (evl_cons (P := IsI (spot ds j : Nat)) ?_ evl_nil)) ((place_fn X T hx rfl).callB hA (hT.trans F7.old))) fun vp s8 F8 g9 rp => ?_)
        · rw [← spot_eq]
          exact ev_mod (ev_item (ev_name (nm_local F7.ns (upd_other j2)) ((IsLI ds).mono G7 rD)) (ev_name (nm_local F7.ns (upd_other j4)) ri7) (by omega) (by omega) (li_item (by omega))) ev_int (by omega)
        · rw [← spot_eq]
          exact ev_mod (ev_item (ev_name (nm_local F7.ns (upd_other j2)) ((IsLI ds).mono G7 rD)) (ev_name (nm_local F7.ns upd_same) hrj) (by omega) (by omega) (li_item (by omega))) ev_int (by omega)
        refine wpAny_execs_cons (x_if (b := false) F8 (tv_eq (tv_cmp (ev_name (nm_local F8.ns upd_same) rp) ev_int cmp_lt) (decide_eq_false (by omega))) fun s9 F9 g10 y10 => ?_)
        rw [if_neg Bool.false_ne_true]
        refine wpAny_execs_nil ?_
        have G9 := G7.trans (g9.trans g10)
        have ri9 := (IsI (i : Nat)).mono (g9.trans g10) ri7
        have rj9 := (IsI (j : Nat)).mono (g9.trans g10) hrj
        have rp9 := (IsI _).mono g10 rp
        refine wpAny_execs_cons (x_setT (pre0 := [(J, oJ), (I, oI)]) (p := i) (q := j) (x := tabV ds hs i j) hi (by omega) F9 (fun p hp => (a7 p hp).mono (g9.trans g10)) ?_
          (fun h' y => ev_item (ev_name (nm_local (F9.ns.keeps y) (upd_other (upd_other j1))) ((IsL _).mono (G9.trans (y.fz _)) rT)) (ev_name (nm_local (F9.ns.keeps y) (upd_other (upd_other j4))) ((IsI _).mono (y.fz _) ri9)) (by omega) (by omega) (range_at hi))
          (fun h' y => ev_name (nm_local (F9.ns.keeps y) (upd_other upd_same)) ((IsI _).mono (y.fz _) rj9)) fun ys10 s10 F10 g11 a10 => ?_)
        · rw [tv]
          exact ev_item (ev_name (nm_local F9.ns (upd_other (upd_other j3))) ((IsLI hs).mono G9 rH)) (ev_name (nm_local F9.ns upd_same) rp9) (by omega) (by omega) (li_item (by omega))
        have G10 := G9.trans g11
        refine wpAny_execs_cons (x_setT (pre0 := [(J, oJ), (I, oI)]) (p := j) (q := i) (x := tabV ds hs i j) (by omega) hi F10 a10 ?_
          (fun h' y => ev_item (ev_name (nm_local (F10.ns.keeps y) (upd_other (upd_other j1))) ((IsL _).mono (G10.trans (y.fz _)) rT)) (ev_name (nm_local (F10.ns.keeps y) (upd_other upd_same)) ((IsI _).mono (g11.trans (y.fz _)) rj9)) (by omega) (by omega) (range_at (by omega)))
          (fun h' y => ev_name (nm_local (F10.ns.keeps y) (upd_other (upd_other j4))) ((IsI _).mono (g11.trans (y.fz _)) ri9)) fun ys11 s11 F11 g12 a11 => ?_)
        · rw [tv]
          exact ev_item (ev_name (nm_local F10.ns (upd_other (upd_other j3))) ((IsLI hs).mono G10 rH)) (ev_name (nm_local F10.ns upd_same) ((IsI _).mono g11 rp9)) (by omega) (by omega) (li_item (by omega))
        refine wpAny_execs_nil ?_
        refine ⟨_, _, _, F11, ((((g8.trans g9).trans g10).trans g11).trans g12), ys11, _, rfl, a11, fun p q hp hq => ?_, ?_, fun q hq => ?_, upd_other (upd_other j1), upd_other (upd_other j2), upd_other (upd_other j3), upd_other (upd_other j4)⟩
        · rw [if_neg (by omega), if_neg (by omega)]; exact hV7 p q hp hq
        · rw [if_neg (by omega), if_neg (by omega)]; exact hii
        · by_cases hqj : q = j
          · subst hqj
            refine ⟨?_, ?_⟩
            · rw [if_neg (by omega), if_pos ⟨rfl, rfl⟩]
            · rw [if_pos ⟨rfl, rfl⟩]; exact tabV_comm _ _ _ _
          · obtain ⟨u1, u2⟩ := hq7 q (by omega)
            refine ⟨?_, ?_⟩
            · rw [if_neg (by omega), if_neg (by omega)]; exact u1
            · rw [if_neg (by omega), if_neg (by omega)]; exact u2
      · obtain ⟨ys7, V7, rfl, a7, hV7, hii, hq7, j1, j2, j3, j4⟩ := inv
        rw [List.length_map, List.length_range] at hq7
        refine wpAny_execs_nil ?_
        refine wpAny_execs_nil ?_
        refine ⟨_, _, _, F', (g5.trans g6).trans g, ys7, V7, rfl, a7, fun p q hp hq => ?_, j1, j2, j3⟩
        by_cases hp' : p = i
        · by_cases hq' : q = i
          · subst hp' hq'; exact hii
          · subst hp'; exact (hq7 q (by omega)).1
        · by_cases hq' : q = i
          · subst hq'; exact (hq7 p (by omega)).2
          · exact hV7 p q (by omega) (by omega)
    · obtain ⟨ys8, V8, rfl, a8, hV8, j1, j2, j3⟩ := inv
      rw [List.length_map, List.length_range] at hV8
      refine wpAny_execs_nil ?_
      subst hAs hn
      have hMu8 : muL (fun p : Nat => [b0, b1, b2, b3, b4].getD p 0) (fun p : Nat => [n0, n1, n2, n3, n4].getD p 0) ys8 = [(b0, PySem.W.listOf (ys8 0).toArray n0), (b1, PySem.W.listOf (ys8 1).toArray n1), (b2, PySem.W.listOf (ys8 2).toArray n2), (b3, PySem.W.listOf (ys8 3).toArray n3), (b4, PySem.W.listOf (ys8 4).toArray n4)] := rfl
      rw [hMu8] at F'
      have k0 := (F'.mu (b0, PySem.W.listOf (ys8 0).toArray n0) (by simp)).1
      have k1 := (F'.mu (b1, PySem.W.listOf (ys8 1).toArray n1) (by simp)).1
      have k2 := (F'.mu (b2, PySem.W.listOf (ys8 2).toArray n2) (by simp)).1
      have k3 := (F'.mu (b3, PySem.W.listOf (ys8 3).toArray n3) (by simp)).1
      have k4 := (F'.mu (b4, PySem.W.listOf (ys8 4).toArray n4) (by simp)).1
      have F9 := ((((F'.less m0).less m1).less m2).less m3).less f4.2.2
      have kD := Fz.get (g D _ (Fz.of mD gD))
      have row : ∀ p, p < 5 → All2 (Fz W s'.heap) (ys8 p) (((List.range 5).map fun q => tabV ds hs p q).map IsI) := fun p hp => by
        have e : ((List.range 5).map fun q => tabV ds hs p q).map IsI = rowR (V8 p) := by
          rw [List.map_map]
          refine List.map_congr_left fun q hq => ?_
          show IsI (tabV ds hs p q) = IsI (V8 p q)
          rw [hV8 p q hp (List.mem_range.mp hq)]
        rw [e]
        exact (a8 p hp).mono (fext_sub fun b hb => by simp [hb])
      refine wpAny_execs_cons (x_retF (P := IsM ((List.range 5).map fun p => (List.range 5).map fun q => tabV ds hs p q)) F9 (ev_name (nm_local F9.ns j1) ⟨D, _, _, rfl, Fz.of hDW kD, ?_⟩) fun v h' tk' y p => k v h' tk' y p)
      exact ⟨⟨b0, _, _, rfl, Fz.of f0.2.2 k0, row 0 (by omega)⟩, ⟨b1, _, _, rfl, Fz.of f1.2.2 k1, row 1 (by omega)⟩, ⟨b2, _, _, rfl, Fz.of f2.2.2 k2, row 2 (by omega)⟩, ⟨b3, _, _, rfl, Fz.of f3.2.2 k3, row 3 (by omega)⟩, ⟨b4, _, _, rfl, Fz.of f4.2.2 k4, row 4 (by omega)⟩, trivial⟩
end
end Mine
namespace Mine
theorem place_dvd {t : Nat} (ht : t < 4096) : t % 2 ^ place t = 0 := by
  by_cases h : t = 0
  · subst h; simp
  · exact (pl_ok ht h).below
theorem place_ge {t m : Nat} (ht : t < 4096) (hm : m ≤ 12) (h : t % 2 ^ m = 0) : m ≤ place t := by
  by_cases h0 : t = 0
  · subst h0; exact hm
  · have ok := pl_ok ht h0
    rcases Nat.lt_or_ge (place t) m with q | q
    · have a := ok.at'
      have e : 2 ^ m = 2 ^ place t * 2 * 2 ^ (m - place t - 1) := by
        rw [← Nat.pow_succ, ← Nat.pow_add]; congr 1; omega
      have hd : 2 ^ place t * 2 ∣ t := Nat.dvd_trans ⟨_, e⟩ (Nat.dvd_of_mod_eq_zero h)
      obtain ⟨c, hc⟩ := hd
      have : t / 2 ^ place t % 2 = 0 := by
        have h1 : t / 2 ^ place t = 2 * c := by
          have h2 : t = 2 ^ place t * (2 * c) := by rw [← Nat.mul_assoc]; exact hc
          exact Nat.div_eq_of_eq_mul_right (Nat.two_pow_pos _) h2
        rw [h1]; omega
      omega
    · exact q
theorem place_ult {x y z : Nat} (hx : x < 4096) (hy : y < 4096) (hz : z < 4096) : min (place (x ^^^ y)) (place (y ^^^ z)) ≤ place (x ^^^ z) := by
  have hxy : x ^^^ y < 4096 := Nat.xor_lt_two_pow (n := 12) hx hy
  have hyz : y ^^^ z < 4096 := Nat.xor_lt_two_pow (n := 12) hy hz
  have hxz : x ^^^ z < 4096 := Nat.xor_lt_two_pow (n := 12) hx hz
  have le1 : min (place (x ^^^ y)) (place (y ^^^ z)) ≤ 12 := by have := place_le _ hxy; omega
  refine place_ge hxz le1 ?_
  have down : ∀ {t m : Nat}, t % 2 ^ m = 0 → ∀ m', m' ≤ m → t % 2 ^ m' = 0 := fun {t m} h m' hm => Nat.mod_eq_zero_of_dvd (Nat.dvd_trans (Nat.pow_dvd_pow 2 hm) (Nat.dvd_of_mod_eq_zero h))
  have d1 := down (place_dvd hxy) _ (Nat.min_le_left (place (x ^^^ y)) (place (y ^^^ z)))
  have d2 := down (place_dvd hyz) _ (Nat.min_le_right (place (x ^^^ y)) (place (y ^^^ z)))
  have e : x ^^^ z = (x ^^^ y) ^^^ (y ^^^ z) := by
    rw [Nat.xor_assoc, ← Nat.xor_assoc y y z, Nat.xor_self, Nat.zero_xor]
  rw [e, Nat.xor_mod_two_pow, d1, d2, Nat.xor_self]
theorem hgt_step (total : Int) (k : Nat) : hgt total k ≤ hgt total (k + 1) ∧ hgt total (k + 1) ≤ hgt total k + 2 := by
  have h1 := Int.fmod_nonneg_of_pos (total.fdiv ((3 : Int) ^ k)) (show (0:Int) < 3 by omega)
  have h2 := Int.fmod_lt_of_pos (total.fdiv ((3 : Int) ^ k)) (show (0:Int) < 3 by omega)
  show hgt total k ≤ hgt total k + _ ∧ hgt total k + _ ≤ _
  omega
theorem hgt_mono (total : Int) {a b : Nat} (h : a ≤ b) : hgt total a ≤ hgt total b := by
  induction h with
  | refl => exact Int.le_refl _
  | step _ ih => exact Int.le_trans ih (hgt_step total _).1
theorem hgt_le (total : Int) : ∀ k : Nat, 0 ≤ hgt total k ∧ hgt total k ≤ 2 * k
  | 0 => ⟨Int.le_refl _, Int.le_refl _⟩
  | k + 1 => by
    have := hgt_le total k
    have := hgt_step total k
    omega
theorem hgt_13 {total : Int} (h0 : 0 ≤ total) (h1 : total < 531441) : hgt total 13 ≤ 24 := by
  have e : total.fdiv ((3 : Int) ^ 12) = 0 := by
    rw [Int.fdiv_eq_ediv_of_nonneg _ (by decide)]
    exact Int.ediv_eq_zero_of_lt h0 (by have : (3:Int) ^ 12 = 531441 := by decide
                                        omega)
  have : hgt total 13 = hgt total 12 + (total.fdiv ((3 : Int) ^ 12)).fmod 3 := rfl
  rw [e] at this
  have h2 := (hgt_le total 12).2
  rw [this]; simp; omega
theorem heights_at (total : Int) {i : Nat} (hi : i < 13) : (heights total).getD i 0 = hgt total (i + 1) := by
  unfold heights
  rw [List.getD_eq_getElem?_getD, List.getElem?_map, List.getElem?_range hi]; rfl
def tabM (ds : List Int) : List (List Int) := (List.range 5).map fun p => (List.range 5).map fun q => tabV ds (heights ds.sum) p q
theorem tabM_at (ds : List Int) {i j : Nat} (hi : i < 5) (hj : j < 5) : at2 (tabM ds) i j = tabV ds (heights ds.sum) i j := by
  unfold at2 tabM
  rw [List.getD_eq_getElem?_getD (i := i), List.getElem?_map, List.getElem?_range hi]
  show ((List.range 5).map fun q => tabV ds (heights ds.sum) i q).getD j 0 = _
  rw [List.getD_eq_getElem?_getD, List.getElem?_map, List.getElem?_range hj]; rfl
theorem tabM_out (ds : List Int) {i j : Nat} (h : ¬ (i < 5 ∧ j < 5)) : at2 (tabM ds) i j = 0 := by
  unfold at2 tabM
  by_cases hi : i < 5
  · rw [List.getD_eq_getElem?_getD (i := i), List.getElem?_map, List.getElem?_range hi]
    show ((List.range 5).map fun q => tabV ds (heights ds.sum) i q).getD j 0 = _
    rw [List.getD_eq_getElem?_getD, List.getElem?_eq_none (by simp; omega)]; rfl
  · rw [List.getD_eq_getElem?_getD (i := i), List.getElem?_eq_none (by simp; omega)]; rfl
theorem tabM_sq (ds : List Int) : Sq (tabM ds) := ⟨by simp [tabM], fun i hi => by
  unfold tabM
  rw [List.getD_eq_getElem?_getD, List.getElem?_map, List.getElem?_range hi]; simp⟩
theorem tab_off (ds : List Int) {i j : Nat} (h : i ≠ j) : tabV ds (heights ds.sum) i j = hgt ds.sum (place (spot ds i ^^^ spot ds j) + 1) := by
  unfold tabV
  rw [if_neg h, heights_at]
  exact place_le _ (Nat.xor_lt_two_pow (n := 12) (spot_lt ds i) (spot_lt ds j))
theorem tab_diag (ds : List Int) (i : Nat) : tabV ds (heights ds.sum) i i = hgt ds.sum 13 + 1 + (ds.getD i 0).fmod 3 := by
  unfold tabV
  rw [if_pos rfl, heights_at _ (by omega)]
theorem tabM_ult {ds : List Int} (h0 : 0 ≤ ds.sum) (h1 : ds.sum < 531441) : Ult (at2 (tabM ds)) := by
  have off_lt : ∀ i j, i ≠ j → 0 ≤ tabV ds (heights ds.sum) i j ∧ tabV ds (heights ds.sum) i j ≤ hgt ds.sum 13 := fun i j h => by
    rw [tab_off ds h]
    have := place_le _ (Nat.xor_lt_two_pow (n := 12) (spot_lt ds i) (spot_lt ds j))
    exact ⟨(hgt_le _ _).1, hgt_mono _ (by omega)⟩
  have dg : ∀ i, hgt ds.sum 13 + 1 ≤ tabV ds (heights ds.sum) i i ∧ tabV ds (heights ds.sum) i i ≤ hgt ds.sum 13 + 3 := fun i => by
    rw [tab_diag]
    have a := Int.fmod_nonneg_of_pos (ds.getD i 0) (show (0:Int) < 3 by omega)
    have b := Int.fmod_lt_of_pos (ds.getD i 0) (show (0:Int) < 3 by omega)
    omega
  have h13 := hgt_13 h0 h1
  have h13' := (hgt_le ds.sum 13).1
  have nn : ∀ i j, 0 ≤ at2 (tabM ds) i j := fun i j => by
    by_cases h : i < 5 ∧ j < 5
    · rw [tabM_at ds h.1 h.2]
      by_cases e : i = j
      · subst e; have := dg i; omega
      · exact (off_lt i j e).1
    · rw [tabM_out ds h]; exact Int.le_refl _
  refine ⟨fun i j => ?_, fun i j k => ?_, fun i j hi hij => ?_, nn, fun i j => ?_⟩
  · by_cases h : i < 5 ∧ j < 5
    · rw [tabM_at ds h.1 h.2, tabM_at ds h.2 h.1, tabV_comm]
    · rw [tabM_out ds h, tabM_out ds (fun q => h ⟨q.2, q.1⟩)]
  · by_cases h : i < 5 ∧ j < 5
    · by_cases hk : k < 5
      · rw [tabM_at ds h.1 h.2, tabM_at ds h.1 hk, tabM_at ds hk h.2]
        by_cases e1 : i = k
        · subst e1; exact Int.min_le_right _ _
        · by_cases e2 : k = j
          · subst e2; exact Int.min_le_left _ _
          · by_cases e3 : i = j
            · subst e3
              have := (off_lt i k e1).2
              have := (dg i).1
              have := Int.min_le_left (tabV ds (heights ds.sum) i k) (tabV ds (heights ds.sum) k i)
              omega
            · rw [tab_off ds e1, tab_off ds e2, tab_off ds e3]
              have u := place_ult (spot_lt ds i) (spot_lt ds k) (spot_lt ds j)
              rcases Nat.le_total (place (spot ds i ^^^ spot ds k)) (place (spot ds k ^^^ spot ds j)) with q | q
              · rw [Nat.min_eq_left q] at u
                exact Int.le_trans (Int.min_le_left _ _) (hgt_mono _ (by omega))
              · rw [Nat.min_eq_right q] at u
                exact Int.le_trans (Int.min_le_right _ _) (hgt_mono _ (by omega))
      · rw [tabM_out ds (i := i) (j := k) (fun q => hk q.2)]
        exact Int.le_trans (Int.min_le_left _ _) (nn i j)
    · rw [tabM_out ds h]
      by_cases hi : i < 5
      · rw [tabM_out ds (i := k) (j := j) (fun q => h ⟨hi, q.2⟩)]; exact Int.min_le_right _ _
      · rw [tabM_out ds (i := i) (j := k) (fun q => hi q.1)]; exact Int.min_le_left _ _
  · rw [tabM_at ds hi hi]
    by_cases hj : j < 5
    · rw [tabM_at ds hi hj]
      have := (off_lt i j hij).2
      have := (dg i).1
      omega
    · rw [tabM_out ds (fun q => hj q.2)]
      have := (dg i).1
      omega
  · by_cases h : i < 5 ∧ j < 5
    · rw [tabM_at ds h.1 h.2]
      by_cases e : i = j
      · subst e; have := dg i; omega
      · have := (off_lt i j e).2; omega
    · rw [tabM_out ds h]; omega
end Mine
namespace Mine
def bK : Nat → Nat
  | 0 => 5
  | k + 1 => 2 * bK k + 1
theorem bits_fdiv {x d : Int} {m : Nat} (hd : 0 < d) (h : Builtin.Int.intBits x ≤ m) : Builtin.Int.intBits (x.fdiv d) ≤ m := by
  rw [Int.fdiv_eq_ediv_of_nonneg _ (by omega)]
  exact intBits_le_of_natAbs (Int.natAbs_ediv_le_natAbs x d) h
theorem bR_bits {U : Nat → Nat → Int} (u : Ult U) : ∀ k, k ≤ 5 → ∀ i j, i < 5 → j < 10 → Builtin.Int.intBits (bR U k i j) ≤ bK k
  | 0, _, i, j, hi, hj => by
    show Builtin.Int.intBits (R0 U i j) ≤ 5
    unfold R0
    by_cases h : j < 5
    · rw [if_pos h]
      have := u.nn i j
      have := u.ub i j
      exact intBits_le (by omega)
    · rw [if_neg h]
      by_cases q : i = j - 5
      · rw [if_pos q]; decide
      · rw [if_neg q]; decide
  | k + 1, hk, i, j, hi, hj => by
    have ih := bR_bits u k (by omega)
    show Builtin.Int.intBits (if i = k then _ else _) ≤ 2 * bK k + 1
    by_cases h : i = k
    · rw [if_pos h]; have := ih i j hi hj; exact Nat.le_trans this (by omega)
    · rw [if_neg h]
      refine bits_fdiv (bd_pos u k (by omega)) ?_
      have a := intBits_sub_le (intBits_mul_le (ih k k (by omega) (by omega)) (ih i j hi hj)) (intBits_mul_le (ih i k hi (by omega)) (ih k j (by omega) hj))
      exact Nat.le_trans a (by omega)
theorem bK_le : ∀ k, k ≤ 5 → bK k ≤ 200 := by decide
theorem bar_ok {M : List (List Int)} (u : Ult (at2 M)) : Bar M (bR (at2 M)) (bd (at2 M)) where
  r0 := fun i j hi hj => rfl
  d0 := rfl
  dk := fun k hk => rfl
  dne := fun k hk => by have := bd_pos u k (by omega); omega
  own := fun k j hk hj => by show (if k = k then _ else _) = _; rw [if_pos rfl]
  stp := fun k i j hk hi hik hj => by
    symm
    show (if i = k then _ else _) = _
    rw [if_neg hik]
  bR := fun k i j hk hi hj => Nat.le_trans (bR_bits u k hk i j hi hj) (bK_le k hk)
  bd := fun k hk => by
    cases k with
    | zero => show Builtin.Int.intBits 1 ≤ 200; decide
    | succ k => exact Nat.le_trans (bR_bits u k (by omega) k k (by omega) (by omega)) (bK_le k (by omega))
def overL (U : Nat → Nat → Int) : List (List Int) := (List.range 5).map fun i => (rowL (bR U 5 i)).drop 5
theorem over_row (U : Nat → Nat → Int) {i : Nat} (hi : i < 5) : (overL U).getD i [] = (List.range 5).map (ov U i) := by
  unfold overL
  rw [List.getD_eq_getElem?_getD, List.getElem?_map, List.getElem?_range hi]
  show (rowL (bR U 5 i)).drop 5 = _
  unfold rowL
  rw [show (10 : Nat) = 5 + 5 from rfl, List.range_add, List.map_append, List.drop_left' (by simp), List.map_map]
  rfl
theorem over_at (U : Nat → Nat → Int) {i j : Nat} (hi : i < 5) (hj : j < 5) : at2 (overL U) i j = ov U i j := by
  unfold at2
  rw [over_row U hi, List.getD_eq_getElem?_getD, List.getElem?_map, List.getElem?_range hj]; rfl
theorem over_sq (U : Nat → Nat → Int) : Sq (overL U) := ⟨by simp [overL], fun i hi => by rw [over_row U hi]; simp⟩
theorem over_signs {M : List (List Int)} (u : Ult (at2 M)) : Signs M (overL (at2 M)) := ⟨fun i j hi hj hij => by rw [over_at _ hi hj]; exact ov_off u hi hj hij, fun i hi => by
  rw [over_row _ hi]
  have := ov_row u hi
  have e : ((List.range 5).map (ov (at2 M) i)).sum = ov (at2 M) i 0 + ov (at2 M) i 1 + ov (at2 M) i 2 + ov (at2 M) i 3 + ov (at2 M) i 4 := by simp [List.range_succ, Int.add_assoc]
  rw [e]; exact this⟩
theorem over_energy (U : Nat → Nat → Int) (gs : List Int) : energy (overL U) gs = EN (ov U) (fun i => gs.getD i 0) := by
  unfold energy EN
  rw [List.flatMap_def, List.flatMap_def]
  refine congrArg List.sum (congrArg List.flatten (List.map_congr_left fun i hi => List.map_congr_left fun j hj => ?_))
  rw [over_at U (List.mem_range.mp hi) (List.mem_range.mp hj)]
end Mine
namespace Mine
def lo0 (x : UInt64) : UInt64 := if (Float64.cmp x 0 == some Ordering.lt) = true then 0 else x
def hi1 (x : UInt64) : UInt64 := if (Float64.cmp x 0x3ff0000000000000 == some Ordering.gt) = true then 0x3ff0000000000000 else x
def fz0 : UInt64 := Float64.ofInt 0
def yR (y : UInt64) : UInt64 := Float64.add (Float64.add y (Float64.mul 0x3fee4cdbef721b32 fz0)) (Float64.mul 0x3fe3f42ceedac0be fz0)
def yG (y : UInt64) : UInt64 := Float64.sub (Float64.sub y (Float64.mul 0x3fd1961eec8cbb3a fz0)) (Float64.mul 0x3fe45794d16efff3 fz0)
def yB (y : UInt64) : UInt64 := Float64.add (Float64.sub y (Float64.mul 0x3ff1bc99b7dee436 fz0)) (Float64.mul 0x3ffb5817a6224a7f fz0)
section
variable {prog : Program} {w : World} {T0 : Heap} {p : Program} {loose : List Str} {mean : ExcName → Option Value} {mg mb : Str → Option Value}
set_option maxRecDepth 100000 in
set_option maxHeartbeats 4000000 in
theorem yiq_fn (X : (hd.heap_39 w.params).In T0) (T : Top p loose mean mg mb T0) {y : UInt64} :
    Fn prog w T0 1 21 [IsF y, IsI 0, IsI 0] (IsT [IsFP (hi1 (lo0 (yR y))), IsFP (hi1 (lo0 (yG y))), IsFP (hi1 (lo0 (yB y)))]) := by
  refine' fn_K X T.nolimit ?ho ?hcd (fun vs => [Str.ofString "y", Str.ofString "i", Str.ofString "q"].zip vs) ?hbind ?hkind ?hnd ?hb ?c1 ?c2 ?c3
  case ho => k_is
  case hcd => k_is
  case hbind => 
    intro vs hvs
    obtain ⟨a, b, c, rfl⟩ := len3 hvs
    rfl
  case hkind =>
    intro vs hvs n
    obtain ⟨a, b, c, rfl⟩ := len3 hvs
    exact kindsX rfl n
  case hnd => decide +kernel
  case c1 => rfl
  case c2 => rfl
  case c3 => rfl
  case hb =>
    intro W A s s₁ L vs Q E hA hT hlen F hargs k
    obtain ⟨v1, v2, v3, rfl⟩ := len3 hlen
    obtain ⟨r1, r2, r3, _⟩ := hargs
    have fit : (0 : Int).natAbs < 2 ^ 1023 := by rw [Int.natAbs_zero]; exact Nat.two_pow_pos _
    refine wpAny_execs_cons (x_set F (P := IsFP (yR y)) (evp_fadd (ev_fadd (ev_name (nm_local F.ns rfl) r1) (ev_fmulI ev_float (ev_name (nm_local F.ns rfl) r2) fit)) (evp_fmulI ev_float (ev_name (nm_local F.ns rfl) r3) fit)).ev fun vr s2 F2 g2 rr => ?_)
    refine wpAny_execs_cons (x_set F2 (P := IsFP (yG y)) (evp_fsub (ev_fsub (ev_name (nm_local F2.ns (upd_other rfl)) ((IsF y).mono g2 r1)) (ev_fmulI ev_float (ev_name (nm_local F2.ns (upd_other rfl)) ((IsI 0).mono g2 r2)) fit)) (evp_fmulI ev_float (ev_name (nm_local F2.ns (upd_other rfl)) ((IsI 0).mono g2 r3)) fit)).ev fun vg s3 F3 g3 rg => ?_)
    refine wpAny_execs_cons (x_set F3 (P := IsFP (yB y)) (evp_fadd (ev_fsub (ev_name (nm_local F3.ns (upd_other (upd_other rfl))) ((IsF y).mono (g2.trans g3) r1)) (ev_fmulI ev_float (ev_name (nm_local F3.ns (upd_other (upd_other rfl))) ((IsI 0).mono (g2.trans g3) r2)) fit)) (evp_fmulI ev_float (ev_name (nm_local F3.ns (upd_other (upd_other rfl))) ((IsI 0).mono (g2.trans g3) r3)) fit)).ev fun vb s4 F4 g4 rb => ?_)
    refine wpAny_execs_cons (x_clamp F4 (upd_other (upd_other upd_same)) ((IsFP _).mono (g3.trans g4) rr) (fun m5 vr5 s5 F5 g5 i5 rr5 k5 => ?_) (fun e he hx => by subst he; exact tvp_ltF hx))
    refine wpAny_execs_cons (x_clamp F5 ((k5 (Str.ofString "g") (by decide)).trans (upd_other upd_same)) ((IsFP _).mono (g4.trans g5) rg) (fun m6 vg6 s6 F6 g6 i6 rg6 k6 => ?_) (fun e he hx => by subst he; exact tvp_ltF hx))
    refine wpAny_execs_cons (x_clamp F6 ((k6 (Str.ofString "b") (by decide)).trans ((k5 (Str.ofString "b") (by decide)).trans upd_same)) ((IsFP _).mono (g5.trans g6) rb) (fun m7 vb7 s7 F7 g7 i7 rb7 k7 => ?_) (fun e he hx => by subst he; exact tvp_ltF hx))
    refine wpAny_execs_cons (x_clamp F7 ((k7 (Str.ofString "r") (by decide)).trans ((k6 (Str.ofString "r") (by decide)).trans i5)) ((IsFP _).mono (g6.trans g7) rr5) (fun m8 vr8 s8 F8 g8 i8 rr8 k8 => ?_) (fun e he hx => by subst he; exact tvp_gtF hx))
    refine wpAny_execs_cons (x_clamp F8 ((k8 (Str.ofString "g") (by decide)).trans ((k7 (Str.ofString "g") (by decide)).trans i6)) ((IsFP _).mono (g7.trans g8) rg6) (fun m9 vg9 s9 F9 g9 i9 rg9 k9 => ?_) (fun e he hx => by subst he; exact tvp_gtF hx))
    refine wpAny_execs_cons (x_clamp F9 ((k9 (Str.ofString "b") (by decide)).trans ((k8 (Str.ofString "b") (by decide)).trans i7)) ((IsFP _).mono (g8.trans g9) rb7) (fun m10 vb10 s10 F10 g10 i10 rb10 k10 => ?_) (fun e he hx => by subst he; exact tvp_gtF hx))
    refine wpAny_execs_cons (x_retF F10 ?_ fun v h' tk' y p => k v h' tk' y p)
    exact ev_tuple (evl_cons (ev_name (nm_local F10.ns ((k10 (Str.ofString "r") (by decide)).trans ((k9 (Str.ofString "r") (by decide)).trans i8))) ((IsFP _).mono (g9.trans g10) rr8)) (evl_cons (ev_name (nm_local F10.ns ((k10 (Str.ofString "g") (by decide)).trans i9)) ((IsFP _).mono g10 rg9)) (evl_cons (ev_name (nm_local F10.ns i10) rb10) evl_nil)))
end
end Mine
namespace Mine
def eighth (g : Int) : UInt64 := Float64.ofFrac (decide (g < 0) != decide ((8 : Int) < 0)) g.natAbs 8
set_option maxRecDepth 100000 in
theorem shown_all : ∀ n : Fin 24, hi1 (lo0 (yR (eighth ((n.val : Int) - 8)))) = eighth (clip ((n.val : Int) - 8)) ∧ hi1 (lo0 (yG (eighth ((n.val : Int) - 8)))) = eighth (clip ((n.val : Int) - 8)) ∧ hi1 (lo0 (yB (eighth ((n.val : Int) - 8)))) = eighth (clip ((n.val : Int) - 8)) := by decide +kernel
end Mine
namespace Mine
section
variable {prog : Program} {w : World} {W : List Addr} {A : Around} {env : Env} {h : Heap}
theorem evp_div8 {l r : Expr} {pos : Pos} {g : Int} (hl : Ev prog w W A env h l (IsI g)) (hr : EvP prog w W A env h r (IsI 8)) (hi : ¬ Float64.isInf (eighth g) = true) : EvP prog w W A env h (.BinOp l .Div r pos) (IsFP (eighth g)) :=
  evp_bin hl hr fun s Q E v1 v2 n ⟨t1, e1⟩ ⟨t2, e2⟩ k => by subst e1 e2; exact AutoIntOps.truediv_2 (by decide) hi (k _ _ ⟨_, rfl, n⟩ (pos1 _))
theorem callB_intF {x : UInt64} {c : Int} (hx : ∃ sg m e, Float64.decode x = .fin sg m e ∧ Float64.truncOf sg m e = c) : CallB prog w W A h (.type "int") [IsF x] (IsI c) := by
  intro s Q E vs y hw p k
  obtain ⟨sg, m, e, hd, ht⟩ := hx
  obtain ⟨_, rfl, ⟨⟨t, rfl⟩, _⟩⟩ := all1 p
  exact call_int_float hd (k _ _ _ (Ext.refl _) ⟨_, by rw [ht]⟩)
end
def truncIs (x : UInt64) (c : Int) : Bool := match Float64.decode x with
  | .fin sg m e => Float64.truncOf sg m e == c
  | _ => false
theorem trunc_of {x : UInt64} {c : Int} (h : truncIs x c = true) : ∃ sg m e, Float64.decode x = .fin sg m e ∧ Float64.truncOf sg m e = c := by
  unfold truncIs at h
  cases q : Float64.decode x with
  | fin sg m e => rw [q] at h; exact ⟨sg, m, e, rfl, by simpa using h⟩
  | _ => rw [q] at h; cases h
set_option maxRecDepth 100000 in
theorem light_all : ∀ n : Fin 24, truncIs (Float64.mul (eighth (clip ((n.val : Int) - 8))) (Float64.ofInt 8)) (clip ((n.val : Int) - 8)) = true ∧ Float64.isInf (eighth ((n.val : Int) - 8)) = false := by decide +kernel
end Mine
namespace Mine
set_option maxRecDepth 100000 in
theorem lm_tuple_mul3 (l : Addr) (v : Value) (n : Nat) (u : Tok) :
    Meets (Builtin.«tuple.__mul__» ⟨[.ref l, .int 3 u], []⟩) (fun _ R s => s.heap.get? l = some (tupOf #[v] n) ∧ R (.ok (.ret (Value.ref s.heap.objs.size))) { s with heap := s.heap.push (tupOf #[v, v, v] 0), toks := s.toks }) :=
  .of_wp fun prog w A R s h => by
    obtain ⟨hp, g, d, tk, os⟩ := s; obtain ⟨hl, h⟩ := h
    wp_walk; exact ⟨_, rfl, h⟩
set_option maxRecDepth 100000 in
theorem lm_int_rmul_tuple (a : Int) (t : Tok) (l : Addr) (items : Array Value) (n : Nat) :
    Meets (Builtin.«int.__rmul__» ⟨[.int a t, .ref l], []⟩) (fun _ R s => s.heap.get? l = some (tupOf items n) ∧ R (.ok (.ret Value.notImplemented)) s) :=
  .of_wp fun prog w A R s h => by obtain ⟨hp, g, d, tk, os⟩ := s; obtain ⟨hl, h⟩ := h; wp_walk; exact ⟨_, rfl, h⟩
theorem noFill_tuple_mul : fillsNumberSlot (.type "tuple") "mul" = pure false :=
  PySem.fillsNumberSlot_seq (id := "tuple.__mul__") (r := some (.builtin "tuple.__rmul__")) F.slot_tuple_mul.lookup (by decide +kernel) F.slot_tuple_rmul.lookup (by decide +kernel)
theorem repeat_tuple : seqRepeat? (.type "tuple") = pure (some (.builtin "tuple.__mul__")) := by
  unfold seqRepeat?
  rw [PySem.seqSlot_of (T := "tuple") (name := "__mul__") (id := "tuple.__mul__") F.slot_tuple_mul.lookup (by decide +kernel), PySem.seqSlot_of (T := "tuple") (name := "__rmul__") (id := "tuple.__rmul__") F.slot_tuple_rmul.lookup (by decide +kernel)]
  rfl
section
variable {prog : Program} {w : World} {W : List Addr} {A : Around} {env : Env} {h : Heap}
theorem mul3_raw {s : Shared} {E : Value → Shared → Prop} {l : Addr} {v : Value} {k : Nat} {u : Tok} {Q : Value → Shared → Prop} (ho : s.heap.get? l = some (tupOf #[v] k))
    (h : Q (.ref s.heap.objs.size) { s with heap := s.heap.push (tupOf #[v, v, v] 0) }) : wpAny (model prog w) A (binaryOp .Mult (.ref l) (.int 3 u)) Q E s :=
  wpAny_binaryOp_repeat_ref (T := "tuple") (U := "int") (by decide) ⟨_, ho, rfl⟩ (fun s' => typeIs_int s' 3 u) noFill_tuple_mul F.fills_int_mul F.slot_int_rmul repeat_tuple F.slot_int_index.lookup
    (call_meets F.slot_int_rmul (typeIs_int s 3 u) F.entry_int_rmul (F.args_int_rmul_2 _ _) (lm_int_rmul_tuple 3 u l #[v] k)
      ⟨ho, rfl, ⟨_, ho, rfl⟩, call_meets F.slot_tuple_mul ⟨_, ho, rfl⟩ F.entry_tuple_mul (F.args_tuple_mul_2 _ _)
        (lm_tuple_mul3 l v k u) ⟨ho, h⟩⟩)
theorem ev_rep3 {l r : Expr} {pos : Pos} {P : RP} (hl : Ev prog w W A env h l (IsT [P])) (hr : Ev prog w W A env h r (IsI 3)) : Ev prog w W A env h (.BinOp l .Mult r pos) (IsT [P, P, P]) := by
  intro s Q E y hw k
  refine wpAny_BinOp (hl s _ _ y hw fun v h1 tk1 y1 p1 => ?_)
  refine hr _ _ _ (y.trans y1) hw fun v2 h2 tk2 y2 p2 => ?_
  obtain ⟨a, vs, nn, rfl, g, hall⟩ := p1
  obtain ⟨u, rfl⟩ := p2
  obtain ⟨v, rfl, hall⟩ := all1 hall
  have ho : h2.get? a = some (tupOf #[v] nn) := y2 _ _ (Fz.get g)
  refine mul3_raw ho ?_
  have hw2 : WIn W h2 := hw.ext ((y.trans y1).trans y2)
  have pv := P.mono ((y2.fz W).trans (((Ext.refl h2).push (tupOf #[v, v, v] 0)).fz W)) hall.1
  exact k _ _ _ ((y1.trans y2).push _) ⟨_, [v, v, v], _, rfl, Fz.new hw2 _, pv, pv, pv, trivial⟩
theorem isSame_float {M : Model} {s : Shared} {E : Value → Shared → Prop} {y z : UInt64} {u v : Tok} {Q : Bool → Shared → Prop}
    (h0 : (u == 0 || v == 0) = false) (hb : NoneBooked s.heap) (hq : ∀ b, Q b s) : wpAny M A (isSame (.float y u) (.float z v)) Q E s := by
  show wpAny M A (isSame.created (y == z && !Float64.isNaN y) u v) Q E s
  unfold isSame.created
  refine wpAny_ite ?_
  split
  · rename_i h; rw [h0] at h; exact absurd h Bool.false_ne_true
  refine wpAny_ite ?_
  split
  · exact wpAny_pure (hq _)
  refine wpAny_ite ?_
  split
  · exact wpAny_pure (hq _)
  refine wpAny_bind (wpAny_sharingNotTold_none hb ?_)
  first | rw [if_neg Bool.false_ne_true] | simp only [Bool.false_eq_true, if_false]
  refine wpAny_bind (wpAny_sharingNotTold_none hb ?_)
  first | rw [if_neg Bool.false_ne_true] | simp only [Bool.false_eq_true, if_false]
  exact wpAny_bind (wpAny_rule (wpAny_bind (wpAny_askSetting (wpAny_pure (hq _)))))
theorem eqAt_float {s : Shared} {x : UInt64} {t u : Tok} (ht : (t == 0) = false) (hu : (u == 0) = false) (hb : NoneBooked s.heap) (hx : (Float64.cmp x x == some Ordering.eq) = true) : PySem.SeqAt.EqAt A s (.float x t) (.float x u) true := fun prog w E Q h => by
  unfold eqBool
  refine wpAny_holding ?_
  refine wpAny_ite_split (fun _ => wpAny_bind (wpAny_rule (wpAny_pure h))) (fun _ => ?_)
  refine wpAny_bind (isSame_float (by rw [ht, hu]; rfl) hb fun b => ?_)
  cases b with
  | true => exact wpAny_pure h
  | false =>
    refine wpAny_bind ?_
    have key : ∀ R : Value → Shared → Prop, R (.bool true) s → wpAny (model prog w) A (richCompare .Eq (.float x t) (.float x u)) R E s := fun R hR => AutoFloatOps.eq_0 (by rw [hx]; exact hR)
    refine key _ ?_
    exact wpAny_truthy_bool h
theorem isT3 {G : Fm} {P : RP} {v : Value} (h : (IsT [P, P, P]).rel G v) : ∃ a v1 v2 v3 n, v = .ref a ∧ G a = some (tupOf #[v1, v2, v3] n) ∧ P.rel G v1 ∧ P.rel G v2 ∧ P.rel G v3 := by
  obtain ⟨a, vs, n, e, g, hall⟩ := h
  obtain ⟨v1, v2, v3, rfl, ⟨p1, p2, p3, _⟩⟩ := all3 hall
  exact ⟨a, v1, v2, v3, n, e, g, p1, p2, p3⟩
theorem isTuple_of {h : Heap} {a : Addr} {items : Array Value} {n : Nat} (e : h.get? a = some (tupOf items n)) : h.IsTuple a items := ⟨_, e, rfl, _, rfl⟩
theorem eqAt_tup3 {s : Shared} {G : Fm} {x : UInt64} {v1 v2 : Value} (hu : A.units < cLine) (hb : NoneBooked s.heap) (hG : ∀ b o, G b = some o → s.heap.get? b = some o) (hx : (Float64.cmp x x == some Ordering.eq) = true) (h1 : (IsT [IsFP x, IsFP x, IsFP x]).rel G v1) (h2 : (IsT [IsFP x, IsFP x, IsFP x]).rel G v2) : PySem.SeqAt.EqAt A s v1 v2 true := by
  obtain ⟨a, x1, x2, x3, nn, rfl, g, ⟨t1, rfl, n1⟩, ⟨t2, rfl, n2⟩, ⟨t3, rfl, n3⟩⟩ := isT3 h1
  obtain ⟨b, y1, y2, y3, nn2, rfl, g2, ⟨u1, rfl, m1⟩, ⟨u2, rfl, m2⟩, ⟨u3, rfl, m3⟩⟩ := isT3 h2
  by_cases e : a = b
  · subst e; exact PySem.SeqAt.EqAt.same _
  · refine PySem.SeqAt.EqAt.of_refs e ?_
    have := PySem.SeqAt.RcAt.tuples (A := A) (s := s) (e := fun _ => true) (isTuple_of (hG _ _ g)) (isTuple_of (hG _ _ g2)) hu (fun j hj hj2 => by
      match j, hj, hj2 with
      | 0, _, _ => exact eqAt_float n1 m1 hb hx
      | 1, _, _ => exact eqAt_float n2 m2 hb hx
      | 2, _, _ => exact eqAt_float n3 m3 hb hx)
    exact this
theorem booked_ext {h h' : Heap} (hb : NoneBooked h) (y : Ext h h') : NoneBooked h' := by
  obtain ⟨mc, hn, hk⟩ := hb
  exact ⟨mc, hn.keeps y, hk⟩
/-- two lists of equal tuples of three floats: '!=' is False -/
theorem cmp_neTup3 {xs : List UInt64} (hb : NoneBooked h) (hu : A.units < cLine) (hu1 : A.in1.units < cLine) (hx : ∀ x ∈ xs, (Float64.cmp x x == some Ordering.eq) = true) : Cmp prog w W A h .NotEq (IsL (xs.map fun x => IsT [IsFP x, IsFP x, IsFP x])) (IsL (xs.map fun x => IsT [IsFP x, IsFP x, IsFP x])) false := by
  intro s Q E v1 v2 y hw p1 p2 c
  obtain ⟨a, us, n, rfl, g, hall⟩ := p1
  obtain ⟨b, us2, n2, rfl, g2, hall2⟩ := p2
  have this := PySem.SeqAt.RcNeAt.lists (A := A) (s := s) (items := us.toArray) (items2 := us2.toArray) (l := a) (b := b) (e := fun _ => true) ⟨_, Fz.get g, rfl, _, rfl⟩ ⟨_, Fz.get g2, rfl, _, rfl⟩ (by simp [hall.length, hall2.length]) hu (fun j h1 h2 => by
    have hj : j < xs.length := by have := hall.length; simp at this h1; omega
    have i1 := hall.get (i := j) (P := IsT [IsFP xs[j], IsFP xs[j], IsFP xs[j]]) (by simp [hj])
    have i2 := hall2.get (i := j) (P := IsT [IsFP xs[j], IsFP xs[j], IsFP xs[j]]) (by simp [hj])
    obtain ⟨w1, e1, r1⟩ := i1
    obtain ⟨w2, e2, r2⟩ := i2
    have q1 : us.toArray[j] = w1 := by
      have := List.getElem?_eq_some_iff.mp e1
      obtain ⟨hh, e⟩ := this
      simpa using e
    have q2 : us2.toArray[j] = w2 := by
      have := List.getElem?_eq_some_iff.mp e2
      obtain ⟨hh, e⟩ := this
      simpa using e
    rw [q1, q2]
    exact eqAt_tup3 hu1 (booked_ext hb y) (fun b o q => Fz.get q) (hx _ (List.getElem_mem hj)) r1 r2)
  have e : (!(List.range us.toArray.size).all fun _ => true) = false := by simp
  rw [e] at this
  exact this prog w E Q (c _ s.toks (Ext.refl _))
end
end Mine
namespace Mine
/-- a list of ints, as a script is laid -/
def IsW (ns : List Int) : RP := ⟨fun G v => ∃ (a : Addr) (vs : List Value) (o : Obj) (n : Nat), v = .ref a ∧ G a = some o ∧ o.cls = .type "list" ∧ o.data = .seq vs.toArray n ∧ IntsAre vs ns,
  fun x ⟨a, vs, o, n, e, g, r⟩ => ⟨a, vs, o, n, e, x _ _ g, r⟩⟩
section
variable {prog : Program} {w : World} {W : List Addr} {A : Around} {env : Env} {h : Heap}
/-- l[e:b:c], a list of ints -/
theorem ev_slice3 {value e1 : Expr} {pos p2 p3 p4 : Pos} {k2 k3 : Nat} {ns : List Int} {i b c : Int} (hv : Ev prog w W A env h value (IsW ns)) (hi : Ev prog w W A env h e1 (IsI i)) (hz : ns.length ≤ sizeLine) (hc : (some c : Option Int) ≠ some 0 := by decide)
    (hs : ∀ l b', subscripted (.Slice (some e1) (some (.Constant (.int b) k2 p2)) (some (.Constant (.int c) k3 p3)) p4) false (.ref l) (.ref b') = operate [.ref l, .ref b'] (getItem (.ref l) (.ref b')) := by intro _ _; with_unfolding_all rfl) :
    Ev prog w W A env h (.Subscript value (.Slice (some e1) (some (.Constant (.int b) k2 p2)) (some (.Constant (.int c) k3 p3)) p4) pos) (IsLI (pickNums ns (some i) (some b) (some c))) := by
  intro s Q E y hw k
  refine Subscript_ (hv s _ _ y hw fun v h1 tk1 y1 p1' => ?_)
  obtain ⟨l, vs, o, n, rfl, g, hc1, hd1, hint⟩ := p1'
  refine wpAny_Slice ?_
  rw [evalPart_some, evalPart_some, evalPart_some]
  refine hi _ _ _ (y.trans y1) hw fun v2 h2 tk2 y2 p2 => ?_
  obtain ⟨u, rfl⟩ := p2
  refine wpAny_Constant_int (wpAny_Constant_int ?_)
  have hl : h2.IsList l vs.toArray := ⟨o, y2 _ _ (Fz.get g), hc1, n, hd1⟩
  have e : slicePick vs.toArray (some i) (some b) (some c) = (slicePick vs.toArray (some i) (some b) (some c)).toList.toArray := by simp
  refine tail_any (Heap.IsList.typeIs (s := { s with heap := h2.push _, toks := tk2 + 1 + 1 }) (hl.push _)) slot_list_getitem.lookup
    (wpAny_getItem_list_slice (hl.push _) (Heap.IsSliceOf.new ..) (.int _ _) (.int _ _) (.int _ _) hc ?_ (by rw [List.size_toArray, hint.length]; exact hz)) (hs _ _)
  have hw2 : WIn W h2 := hw.ext ((y.trans y1).trans y2)
  rw [e]
  refine k _ _ _ (((y1.trans y2).push _).push _) ⟨_, (slicePick vs.toArray (some i) (some b) (some c)).toList, _, rfl, Fz.new (hw2.ext ((Ext.refl _).push _)) _, ?_⟩
  exact All2.ofInts (hint.pick _ _ _)
theorem pick_len (ns : List Int) (lo hi st : Option Int) : (pickNums ns lo hi st).length ≤ ns.length := by
  have h : IntsAre (ns.map fun n => Value.int n 0) ns := All2.ints (G := fun _ => none) (by
    induction ns with
    | nil => trivial
    | cons n ns ih => exact ⟨⟨_, rfl⟩, ih⟩)
  exact length_pickNums_le h lo hi st
set_option maxRecDepth 100000 in
theorem self_all : ∀ n : Fin 24, (Float64.cmp (eighth (clip ((n.val : Int) - 8))) (eighth (clip ((n.val : Int) - 8))) == some Ordering.eq) = true := by decide +kernel
end
end Mine
namespace Mine
theorem ints_item {ns : List Int} {i : Nat} {S : RP} (h : (ns.map IsI)[i]? = some S) : i < ns.length ∧ S = IsI (ns.getD i 0) := by
  rw [List.getElem?_map] at h
  by_cases hi : i < ns.length
  · rw [List.getElem?_eq_getElem hi] at h
    refine ⟨hi, ?_⟩
    rw [List.getD_eq_getElem?_getD, List.getElem?_eq_getElem hi]
    exact (Option.some.inj h).symm
  · rw [List.getElem?_eq_none (Nat.not_lt.mp hi)] at h; cases h
def begunL : List Int := [12289, 81953, 46085, 69634, 49666]
def pk (ns : List Int) (i : Nat) : List Int := pickNums ns (some ((i : Nat) : Int)) (some 20) (some 5)
def sc (ns : List Int) (i : Nat) : List Int := (List.range (pk ns i).length).map fun j => ((pk ns i).getD j 0).fmod 98304
def dr (ns : List Int) (i : Nat) : Int := (begunL.getD i 0 + (sc ns i).sum).fmod 98304
def drs (ns : List Int) : List Int := (List.range 5).map (dr ns)
def grs (ns : List Int) : List Int := (List.range 5).map fun i => ((drs ns).getD i 0).fdiv 4096 - 8
theorem dr_b (ns : List Int) (i : Nat) : 0 ≤ dr ns i ∧ dr ns i < 98304 := ⟨Int.fmod_nonneg_of_pos _ (by omega), Int.fmod_lt_of_pos _ (by omega)⟩
theorem drs_at (ns : List Int) {i : Nat} (h : i < 5) : (drs ns).getD i 0 = dr ns i := by
  unfold drs
  rw [List.getD_eq_getElem?_getD, List.getElem?_map, List.getElem?_range h]; rfl
theorem drs_sum (ns : List Int) : (drs ns).sum = dr ns 0 + dr ns 1 + dr ns 2 + dr ns 3 + dr ns 4 := by
  show dr ns 0 + (dr ns 1 + (dr ns 2 + (dr ns 3 + (dr ns 4 + 0)))) = _
  omega
theorem drs_ok (ns : List Int) : 0 ≤ (drs ns).sum ∧ (drs ns).sum < 531441 := by
  rw [drs_sum]
  have h0 := dr_b ns 0
  have h1 := dr_b ns 1
  have h2 := dr_b ns 2
  have h3 := dr_b ns 3
  have h4 := dr_b ns 4
  omega
theorem grs_at (ns : List Int) {i : Nat} (h : i < 5) : (grs ns).getD i 0 = (dr ns i).fdiv 4096 - 8 := by
  unfold grs
  rw [List.getD_eq_getElem?_getD, List.getElem?_map, List.getElem?_range h]
  show ((drs ns).getD i 0).fdiv 4096 - 8 = _
  rw [drs_at ns h]
theorem grs_b (ns : List Int) {i : Nat} (h : i < 5) : ∃ n : Fin 24, (grs ns).getD i 0 = (n.val : Int) - 8 := by
  rw [grs_at ns h]
  have hb := dr_b ns i
  rw [Int.fdiv_eq_ediv_of_nonneg _ (by omega)]
  have h1 : 0 ≤ dr ns i / 4096 := by omega
  have h2 : dr ns i / 4096 < 24 := by omega
  exact ⟨⟨(dr ns i / 4096).toNat, by omega⟩, by show _ = (((dr ns i / 4096).toNat : Nat) : Int) - 8; omega⟩
theorem clip_fin {g : Int} : ∃ n : Fin 24, clip g = (n.val : Int) - 8 := by
  have h : 0 ≤ clip g ∧ clip g ≤ 8 := by unfold clip; omega
  exact ⟨⟨(clip g + 8).toNat, by omega⟩, by show _ = (((clip g + 8).toNat : Nat) : Int) - 8; omega⟩
theorem clip_if (g : Int) : (if (if 0 < g then g else 0) < 8 then (if 0 < g then g else 0) else 8) = clip g := by
  unfold clip; split <;> split <;> omega
abbrev T3 (x : UInt64) : RP := IsT [IsFP x, IsFP x, IsFP x]
def lt (ns : List Int) (i : Nat) : UInt64 := eighth (clip ((grs ns).getD i 0))
def lts (ns : List Int) : List UInt64 := (List.range 5).map (lt ns)
theorem lt_yiq (ns : List Int) {i : Nat} (h : i < 5) : T3 (lt ns i) = IsT [IsFP (hi1 (lo0 (yR (eighth ((grs ns).getD i 0))))), IsFP (hi1 (lo0 (yG (eighth ((grs ns).getD i 0))))), IsFP (hi1 (lo0 (yB (eighth ((grs ns).getD i 0)))))] := by
  obtain ⟨n, e⟩ := grs_b ns h
  obtain ⟨a, b, c⟩ := shown_all n
  rw [← e] at a b c
  rw [a, b, c]; rfl
theorem grs_inf (ns : List Int) {i : Nat} (h : i < 5) : ¬ Float64.isInf (eighth ((grs ns).getD i 0)) = true := by
  obtain ⟨n, e⟩ := grs_b ns h
  rw [e, (light_all n).2]; exact Bool.false_ne_true
theorem clip_inf (g : Int) : ¬ Float64.isInf (eighth (clip g)) = true := by
  obtain ⟨n, e⟩ := clip_fin (g := g)
  rw [e, (light_all n).2]; exact Bool.false_ne_true
theorem lts_self (ns : List Int) : ∀ x ∈ lts ns, (Float64.cmp x x == some Ordering.eq) = true := by
  intro x hx
  obtain ⟨i, hi, rfl⟩ := List.mem_map.mp hx
  obtain ⟨n, e⟩ := grs_b ns (List.mem_range.mp hi)
  unfold lt
  rw [e]
  exact self_all n
theorem lt_trunc (ns : List Int) {i : Nat} (h : i < 5) : truncIs (Float64.mul (lt ns i) (Float64.ofInt 8)) (clip ((grs ns).getD i 0)) = true := by
  obtain ⟨n, e⟩ := grs_b ns h
  unfold lt
  rw [e]
  exact (light_all n).1
theorem rows_item {M : List (List Int)} {i : Nat} {S : RP} (h : (M.map IsLI)[i]? = some S) : i < M.length ∧ S = IsLI (M.getD i []) := by
  rw [List.getElem?_map] at h
  by_cases hi : i < M.length
  · rw [List.getElem?_eq_getElem hi] at h
    refine ⟨hi, ?_⟩
    rw [List.getD_eq_getElem?_getD, List.getElem?_eq_getElem hi]
    exact (Option.some.inj h).symm
  · rw [List.getElem?_eq_none (Nat.not_lt.mp hi)] at h; cases h
theorem map_item {β : Type} {l : List β} {F : β → RP} {i : Nat} {S : RP} (h : (l.map F)[i]? = some S) : ∃ x, l[i]? = some x ∧ S = F x := by
  rw [List.getElem?_map] at h
  cases q : l[i]? with
  | none => rw [q] at h; cases h
  | some x => rw [q] at h; exact ⟨x, rfl, (Option.some.inj h).symm⟩
def ovs (U : Nat → Nat → Int) : List Int := (List.range 5).map fun i => ((overL U).getD i []).sum
theorem ovs_sum (U : Nat → Nat → Int) : (ovs U).sum = ovRow U 0 + ovRow U 1 + ovRow U 2 + ovRow U 3 + ovRow U 4 := by
  have e : ∀ i, i < 5 → ((overL U).getD i []).sum = ovRow U i := fun i hi => by
    rw [over_row U hi]
    show ov U i 0 + (ov U i 1 + (ov U i 2 + (ov U i 3 + (ov U i 4 + 0)))) = _
    unfold ovRow; omega
  show ((overL U).getD 0 []).sum + (((overL U).getD 1 []).sum + (((overL U).getD 2 []).sum + (((overL U).getD 3 []).sum + (((overL U).getD 4 []).sum + 0)))) = _
  rw [e 0 (by omega), e 1 (by omega), e 2 (by omega), e 3 (by omega), e 4 (by omega)]
  omega
theorem ov_bits {U : Nat → Nat → Int} (u : Ult U) {i j : Nat} (hi : i < 5) (hj : j < 5) : Builtin.Int.intBits (ov U i j) ≤ 200 := by
  have e : ov U i j = bR U 5 i (j + 5) := by
    have h1 := over_row U hi
    have h2 : (overL U).getD i [] = (rowL (bR U 5 i)).drop 5 := by
      unfold overL
      rw [List.getD_eq_getElem?_getD, List.getElem?_map, List.getElem?_range hi]; rfl
    have h3 := congrArg (fun l => l.getD j 0) (h1.symm.trans h2)
    have h4 : ((List.range 5).map (ov U i)).getD j 0 = ov U i j := by
      rw [List.getD_eq_getElem?_getD, List.getElem?_map, List.getElem?_range hj]; rfl
    have h5 : ((rowL (bR U 5 i)).drop 5).getD j 0 = bR U 5 i (j + 5) := by
      match j, hj with
      | 0, _ => rfl
      | 1, _ => rfl
      | 2, _ => rfl
      | 3, _ => rfl
      | 4, _ => rfl
    exact h4.symm.trans (h3.trans h5)
  rw [e]
  exact Nat.le_trans (bR_bits u 5 (by omega) i (j + 5) hi (by omega)) (bK_le 5 (by omega))
theorem ovs_bits {U : Nat → Nat → Int} (u : Ult U) : Builtin.Int.intBits (ovs U).sum ≤ 2 ^ 20 := by
  have add : ∀ {x y : Int} {m n k : Nat}, Builtin.Int.intBits x ≤ m → Builtin.Int.intBits y ≤ n → m ≤ k → n ≤ k → Builtin.Int.intBits (x + y) ≤ k + 1 := fun hx hy h1 h2 => Nat.le_trans (intBits_add_le (Nat.le_trans hx h1) (Nat.le_trans hy h2)) (by omega)
  have row : ∀ i, i < 5 → Builtin.Int.intBits (ovRow U i) ≤ 204 := fun i hi => by
    have b := fun j hj => ov_bits u (i := i) (j := j) hi hj
    unfold ovRow
    exact add (add (add (add (b 0 (by omega)) (b 1 (by omega)) (Nat.le_refl 200) (Nat.le_refl _)) (b 2 (by omega)) (Nat.le_refl _) (by omega)) (b 3 (by omega)) (Nat.le_refl _) (by omega)) (b 4 (by omega)) (Nat.le_refl _) (by omega)
  rw [ovs_sum]
  have all := add (add (add (add (row 0 (by omega)) (row 1 (by omega)) (Nat.le_refl 204) (Nat.le_refl _)) (row 2 (by omega)) (Nat.le_refl _) (by omega)) (row 3 (by omega)) (Nat.le_refl _) (by omega)) (row 4 (by omega)) (Nat.le_refl _) (by omega)
  exact Nat.le_trans all (by decide)
def cls (ns : List Int) : List Int := (List.range 5).map fun i => clip ((grs ns).getD i 0)
theorem cls_at (ns : List Int) {i : Nat} (h : i < 5) : (cls ns).getD i 0 = clip ((grs ns).getD i 0) := by
  unfold cls
  rw [List.getD_eq_getElem?_getD, List.getElem?_map, List.getElem?_range h]; rfl
theorem en_cls {U : Nat → Nat → Int} (u : Ult U) (ns : List Int) : energy (overL U) (cls ns) ≤ energy (overL U) (grs ns) := by
  rw [over_energy, over_energy]
  have e : EN (ov U) (fun i => (cls ns).getD i 0) = EN (ov U) (fun i => clip ((grs ns).getD i 0)) := rfl
  rw [e]
  exact ov_energy u _
theorem grs_lt (ns : List Int) : ∀ g ∈ grs ns, -100 < g ∧ g < 100 := by
  intro g hg
  unfold grs at hg
  obtain ⟨i, hi, rfl⟩ := List.mem_map.mp hg
  obtain ⟨n, e⟩ := grs_b ns (List.mem_range.mp hi)
  rw [grs_at ns (List.mem_range.mp hi)] at e
  rw [drs_at ns (List.mem_range.mp hi), e]
  have := n.isLt
  omega
theorem cls_lt (ns : List Int) : ∀ g ∈ cls ns, -100 < g ∧ g < 100 := by
  intro g hg
  obtain ⟨i, hi, rfl⟩ := List.mem_map.mp hg
  unfold clip; omega
section
variable {prog : Program} {w : World} {T0 : Heap} {p : Program} {loose : List Str} {mean : ExcName → Option Value} {mg mb : Str → Option Value}
set_option maxRecDepth 100000 in
theorem booked_of (X : (hd.heap_39 w.params).In T0) : NoneBooked T0 := ⟨fun _ => none, ⟨_, _, _, X 2 _ (by k_is), rfl, by simp [StrKeys], fun _ => rfl⟩, rfl⟩
set_option maxRecDepth 100000 in
set_option maxHeartbeats 4000000 in
theorem law_fn (X : (hd.heap_39 w.params).In T0) (T : Top p loose mean mg mb T0) {ns : List Int} (hz : ns.length ≤ 63) : Fn prog w T0 6 80 [IsW ns] (IsB true) := by
  refine' fn_K X T.nolimit ?ho ?hcd (fun vs => [Str.ofString "script"].zip vs) ?hbind ?hkind ?hnd ?hb ?c1 ?c2 ?c3
  case ho => k_is
  case hcd => k_is
  case hbind => 
    intro vs hvs
    obtain ⟨a, rfl⟩ := len1 hvs
    rfl
  case hkind =>
    intro vs hvs n
    obtain ⟨a, rfl⟩ := len1 hvs
    exact kindsX rfl n
  case hnd => decide +kernel
  case c1 => rfl
  case c2 => rfl
  case c3 => rfl
  case hb =>
    intro W A s s₁ L vs Q E hA hT hlen F hargs k
    obtain ⟨v1, rfl⟩ := len1 hlen
    obtain ⟨r1, _⟩ := hargs
    have zz : ∀ i, (pk ns i).length ≤ sizeLine := fun i => by
      have := pick_len ns (some ((i : Nat) : Int)) (some 20) (some 5)
      unfold pk; rw [sizeLine_eq]; omega
    refine wpAny_execs_cons (x_setC F (c := L + 1 + 1) rfl (P := IsLI begunL) (ev_list (evl_cons ev_int (evl_cons ev_int (evl_cons ev_int (evl_cons ev_int (evl_cons ev_int evl_nil)))))) fun vb s2 F2 g2 rb => ?_)
    have hT2 : Ext T0 s2.heap := hT.trans F2.old
    have r1' := (IsW ns).mono g2 r1
    have cS : s2.heap.IsCell (L + 1) (some v1) := F2.cellAt (n := Str.ofString "script") rfl (upd_other rfl)
    have cB : s2.heap.IsCell (L + 1 + 1) (some vb) := F2.cellAt (n := Str.ofString "begun") rfl upd_same
    refine wpAny_execs_cons (ax_comp F2 hA.handled (src_range (n := 5) hA.handled (nm_boot X T.g T.b T.builtins hT2 (by k_is) boot_range) ev_int range5_z) (by rw [List.length_map, List.length_range]; exact range5_z) (fun i => IsI (dr ns i)) (Rs := (drs ns).map IsI)
      (by unfold drs; rw [List.map_map, List.length_map, List.length_range]; rfl) (fun i S h' C W' m2 v hS y fx hw hn hv hr => ?_) (fun vd s3 F3 g3 rd => ?_) rfl)
    · obtain ⟨hi, rfl⟩ := range_item hS
      refine ev_mod (ev_add (ev_item (ev_name (nm_cell rfl (cB.keeps y)) ((IsLI begunL).mono fx rb)) (ev_name (nm_local hn hv) hr) (by omega) (by omega) (li_item (by show i < 5; omega)))
        (ev_callB (nm_boot X T.g T.b T.builtins (hT2.trans y) (by k_is) boot_sum) (evl_cons ?_ evl_nil) (callB_sum (ns := sc ns i) hA.handled))) ev_int (by omega)
      refine ev_comp hA.handled (src_list (Ps := (pk ns i).map IsI) hA.handled (ev_slice3 (ev_name (nm_cell rfl (cS.keeps y)) ((IsW ns).mono fx r1')) (ev_name (nm_local hn hv) hr) (by rw [sizeLine_eq]; omega))) (by rw [List.length_map]; exact zz i)
        (fun j => IsI (((pk ns i).getD j 0).fmod 98304)) (by unfold sc; rw [List.map_map, List.length_map]; rfl) (fun j S h'' C' W'' m3 v3 hS y3 fx3 hw3 hn3 hv3 hr3 => ?_) rfl
      obtain ⟨hj, rfl⟩ := ints_item hS
      exact ev_mod (ev_name (nm_local hn3 hv3) hr3) ev_int (by omega)
    have hT3 : Ext T0 s3.heap := hT.trans F3.old
    have hA3 : AOk A 3 := hA.le (by omega)
    have hA1 : AOk A 1 := hA.le (by omega)
    have dlen : (drs ns).length = 5 := by simp [drs]
    have glen : (grs ns).length = 5 := by simp [grs]
    have h13 : (heights (drs ns).sum).length = 13 := by simp [heights]
    refine wpAny_execs_cons (x_set F3 (P := IsM (tabM (drs ns))) (ev_callK X hT3 (by k_is) (nm_glob X T.g hT3 (by k_is)) (evl_cons (ev_name (nm_local F3.ns upd_same) rd) (evl_cons (ev_callK X hT3 (by k_is) (nm_glob X T.g hT3 (by k_is))
      (evl_cons (ev_callB (nm_boot X T.g T.b T.builtins hT3 (by k_is) boot_sum) (evl_cons (ev_name (nm_local F3.ns upd_same) rd) evl_nil) (callB_sum (ns := drs ns) hA.handled)) evl_nil) ((heights_fn X T).callB hA1 hT3)) evl_nil)) ((table_fn X T dlen h13).callB hA3 hT3)) fun vt s4 F4 g4 rt => ?_)
    refine wpAny_execs_cons (x_if (b := false) F4 (tv_cmp (ev_name (nm_local F4.ns upd_same) rt) (ev_list evl_nil) (cmp_eqLen hA.u (by simp [tabM]))) fun s5 F5 g5 y5 => ?_)
    rw [if_neg Bool.false_ne_true]
    refine wpAny_execs_nil ?_
    have rd5 := (IsLI (drs ns)).mono (g4.trans g5) rd
    refine wpAny_execs_cons (ax_comp F5 hA.handled (src_list (Ps := (drs ns).map IsI) hA.handled (ev_name (nm_local F5.ns (upd_other upd_same)) rd5)) (by rw [List.length_map, dlen]; exact range5_z) (fun i => IsI (((drs ns).getD i 0).fdiv 4096 - 8)) (Rs := (grs ns).map IsI)
      (by unfold grs; rw [List.map_map, List.length_map, dlen]; rfl) (fun i S h' C W' m2 v hS y fx hw hn hv hr => ?_) (fun vg s6 F6 g6 rg => ?_) rfl)
    · obtain ⟨hi, rfl⟩ := ints_item hS
      exact ev_sub (ev_fdiv (ev_name (nm_local hn hv) hr) ev_int (by omega) (noPy (by decide))) ev_int
    have hT6 : Ext T0 s6.heap := hT.trans F6.old
    refine wpAny_execs_cons (ax_comp F6 hA.handled (src_list (Ps := (grs ns).map IsI) hA.handled (ev_name (nm_local F6.ns upd_same) rg)) (by rw [List.length_map, glen]; exact range5_z) (fun i => T3 (lt ns i)) (Rs := (lts ns).map T3)
      (by unfold lts; rw [List.map_map, List.length_map, glen]; rfl) (fun i S h' C W' m2 v hS y fx hw hn hv hr => ?_) (fun vw s7 F7 g7 rw7 => ?_) rfl)
    · obtain ⟨hi, rfl⟩ := ints_item hS
      rw [glen] at hi
      show Ev prog w W' A _ h' _ (T3 (lt ns i))
      rw [lt_yiq ns hi]
      exact ev_callK X (hT6.trans y) (by k_is) (nm_glob X T.g (hT6.trans y) (by k_is)) (evl_cons (ev_weak (evp_div8 (ev_name (nm_local hn hv) hr) evp_int (grs_inf ns hi)).ev fun _ _ => IsFP.f) (evl_cons ev_int (evl_cons ev_int evl_nil))) ((yiq_fn X T).callB hA1 (hT6.trans y))
    have rg7 := (IsLI (grs ns)).mono g7 rg
    have hT7 : Ext T0 s7.heap := hT.trans F7.old
    have hu1 : A.in1.units < cLine := by have := hA.units; show A.units + 1 < cLine; omega
    refine wpAny_execs_cons (x_if (b := false) F7 (tv_cmp (ev_name (nm_local F7.ns upd_same) rw7) ?_ (cmp_neTup3 (xs := lts ns) (booked_ext (booked_of X) hT7) hA.u hu1 (lts_self ns))) fun s8 F8 g8 y8 => ?_)
    · refine ev_comp hA.handled (src_list (Ps := (grs ns).map IsI) hA.handled (ev_name (nm_local F7.ns (upd_other upd_same)) rg7)) (by rw [List.length_map, glen]; exact range5_z) (fun i => T3 (lt ns i))
        (by unfold lts; rw [List.map_map, List.length_map, glen]; rfl) (fun i S h' C W' m2 v hS y fx hw hn hv hr => ?_) rfl
      obtain ⟨hi, rfl⟩ := ints_item hS
      refine ev_rep3 (ev_tuple (evl_cons (evp_div8 ?_ evp_int (clip_inf _)).ev evl_nil)) ev_int
      rw [← clip_if]
      exact ev_callB (nm_boot X T.g T.b T.builtins (hT7.trans y) (by k_is) (by decide +kernel : bootBuiltins (Str.ofString "min") = some (.builtin "min"))) (evl_cons ev_int (evl_cons (ev_callB (nm_boot X T.g T.b T.builtins (hT7.trans y) (by k_is) (by decide +kernel : bootBuiltins (Str.ofString "max") = some (.builtin "max")))
        (evl_cons ev_int (evl_cons (ev_name (nm_local hn hv) hr) evl_nil)) (callB_max2 hA.handled)) evl_nil)) (callB_min2 hA.handled)
    rw [if_neg Bool.false_ne_true]
    refine wpAny_execs_nil ?_
    have hT8 : Ext T0 s8.heap := hT.trans F8.old
    obtain ⟨q0, q1⟩ := drs_ok ns
    have u := tabM_ult q0 q1
    have sq := tabM_sq (drs ns)
    have rt8 := (IsM (tabM (drs ns))).mono (g5.trans (g6.trans (g7.trans g8))) rt
    have rg8 := (IsLI (grs ns)).mono g8 rg7
    have rw8 := (IsL ((lts ns).map T3)).mono g8 rw7
    generalize hM : tabM (drs ns) = M at u sq rt8
    refine wpAny_execs_cons (x_setT2 hA.handled F8 (P1 := IsI (bd (at2 M) 5)) (P2 := IsM (overL (at2 M))) (ev_callK X hT8 (by k_is) (nm_glob X T.g hT8 (by k_is)) (evl_cons (ev_name (nm_local F8.ns (upd_other (upd_other upd_same))) rt8) evl_nil) ((turned_fn X T sq (bar_ok u)).callB hA1 hT8)) fun vh vo s9 F9 g9 rh ro => ?_)
    have hT9 : Ext T0 s9.heap := hT.trans F9.old
    have hA5 : AOk A 5 := hA
    refine wpAny_execs_cons (x_setT2 hA.handled F9 (P1 := IsI (wire (at2 M) 5 (List.range 5) 0).1) (P2 := IsI (wire (at2 M) 5 (List.range 5) 0).2) (ev_callK X hT9 (by k_is) (nm_glob X T.g hT9 (by k_is))
      (evl_cons (P := IsLN (List.range 5)) (ev_list (Ps := [IsI 0, IsI 1, IsI 2, IsI 3, IsI 4]) (evl_cons ev_int (evl_cons ev_int (evl_cons ev_int (evl_cons ev_int (evl_cons ev_int evl_nil)))))) (evl_cons (ev_name (nm_local F9.ns (upd_other (upd_other (upd_other (upd_other upd_same))))) ((IsM M).mono g9 rt8)) (evl_cons ev_int evl_nil)))
      ((wire_fn X T sq u 5 (List.range 5) 0 (by decide) (by decide) (by decide) (by decide) (by decide) (by decide) (by decide)).callB hA5 hT9)) fun vu vn s10 F10 g10 ru rn => ?_)
    have hT10 : Ext T0 s10.heap := hT.trans F10.old
    have rh10 := (IsI (bd (at2 M) 5)).mono g10 rh
    have ro10 := (IsM (overL (at2 M))).mono g10 ro
    have rt10 := (IsM M).mono (g9.trans g10) rt8
    refine wpAny_execs_cons (x_if (b := false) F10 (tv_eq (tv_or2 (tv_cmp (ev_name (nm_local F10.ns (upd_other (upd_other (upd_other upd_same)))) rh10) ev_int cmp_le) (fun _ => tv_not (tv_plain (ev_callK X hT10 (by k_is) (nm_glob X T.g hT10 (by k_is))
      (evl_cons (ev_name (nm_local F10.ns (upd_other (upd_other (upd_other (upd_other (upd_other (upd_other upd_same))))))) rt10) (evl_cons (ev_name (nm_local F10.ns (upd_other (upd_other upd_same))) ro10) evl_nil)) ((signs_fn X T sq (over_sq _) (over_signs u)).callB hA1 hT10))))) ?_) fun s11 F11 g11 y11 => ?_)
    · rw [decide_eq_false (by have := bd_pos u 5 (by omega); omega)]; rfl
    rw [if_neg Bool.false_ne_true]
    refine wpAny_execs_nil ?_
    have hT11 : Ext T0 s11.heap := hT.trans F11.old
    have ro11 := (IsM (overL (at2 M))).mono g11 ro10
    have rh11 := (IsI (bd (at2 M) 5)).mono g11 rh10
    have ru11 := (IsI _).mono g11 ru
    have rn11 := (IsI _).mono g11 rn
    have WB := wire_bits (fun i j => And.intro (u.nn i j) (u.ub i j)) 5 (List.range 5) 0 (by decide) (by decide) (by decide)
    have wb5 : wb 5 ≤ 2 ^ 20 := by decide
    have ok1 : IntMulOk (ovs (at2 M)).sum (wire (at2 M) 5 (List.range 5) 0).2 := .of_bits (ovs_bits u) (Nat.le_trans WB.2 wb5)
    have dbits : Builtin.Int.intBits (bd (at2 M) 5) ≤ 2 ^ 20 := Nat.le_trans ((bar_ok u).bd 5 (by omega)) (by decide)
    have ok2 : IntMulOk (wire (at2 M) 5 (List.range 5) 0).1 (bd (at2 M) 5) := .of_bits (Nat.le_trans WB.1 wb5) dbits
    have olen : (overL (at2 M)).length = 5 := (over_sq _).len
    refine wpAny_execs_cons (x_if (b := false) F11 (tv_eq (tv_cmp (ev_mul (ev_callB (nm_boot X T.g T.b T.builtins hT11 (by k_is) boot_sum) (evl_cons (P := IsLI (ovs (at2 M))) ?_ evl_nil) (callB_sum (ns := ovs (at2 M)) hA.handled))
      (ev_name (nm_local F11.ns upd_same) rn11) ok1) (ev_mul (ev_name (nm_local F11.ns (upd_other upd_same)) ru11) (ev_name (nm_local F11.ns (upd_other (upd_other (upd_other upd_same)))) rh11) ok2) cmp_ne) ?_) fun s12 F12 g12 y12 => ?_)
    · refine ev_comp hA.handled (src_list (Ps := (overL (at2 M)).map IsLI) hA.handled (ev_name (nm_local F11.ns (upd_other (upd_other upd_same))) ro11)) (by rw [List.length_map, olen]; exact range5_z) (fun i => IsI (((overL (at2 M)).getD i []).sum))
        (by unfold ovs; rw [List.map_map, List.length_map, olen]; rfl) (fun i S h' C W' m2 v hS y fx hw hn hv hr => ?_) rfl
      obtain ⟨hi, rfl⟩ := rows_item hS
      exact ev_callB (nm_boot X T.g T.b T.builtins (hT11.trans y) (by k_is) boot_sum) (evl_cons (ev_name (nm_local hn hv) hr) evl_nil) (callB_sum (ns := (overL (at2 M)).getD i []) hA.handled)
    · rw [ovs_sum, ov_total u]; simp
    rw [if_neg Bool.false_ne_true]
    refine wpAny_execs_nil ?_
    have hT12 : Ext T0 s12.heap := hT.trans F12.old
    have ro12 := (IsM (overL (at2 M))).mono g12 ro11
    have rg12 := (IsLI (grs ns)).mono (g9.trans (g10.trans (g11.trans g12))) rg8
    have rw12 := (IsL ((lts ns).map T3)).mono (g9.trans (g10.trans (g11.trans g12))) rw8
    have clen : (cls ns).length = 5 := by simp [cls]
    have llen : (lts ns).length = 5 := by simp [lts]
    refine wpAny_execs_cons (x_retF F12 (P := IsB true) ?_ fun v h' tk' y p => k v h' tk' y p)
    have fin : decide (energy (overL (at2 M)) (cls ns) ≤ energy (overL (at2 M)) (grs ns)) = true := decide_eq_true (en_cls u ns)
    refine fin ▸ ev_cmp (ev_callK X hT12 (by k_is) (nm_glob X T.g hT12 (by k_is)) (evl_cons (ev_name (nm_local F12.ns (upd_other (upd_other upd_same))) ro12) (evl_cons (P := IsLI (cls ns)) ?_ evl_nil)) ((energy_fn X T (over_sq _) clen (cls_lt ns)).callB hA1 hT12))
      (ev_callK X hT12 (by k_is) (nm_glob X T.g hT12 (by k_is)) (evl_cons (ev_name (nm_local F12.ns (upd_other (upd_other upd_same))) ro12) (evl_cons (ev_name (nm_local F12.ns (upd_other (upd_other (upd_other (upd_other (upd_other upd_same)))))) rg12) evl_nil)) ((energy_fn X T (over_sq _) glen (grs_lt ns)).callB hA1 hT12)) cmp_le
    refine ev_comp hA.handled (src_list (Ps := (lts ns).map T3) hA.handled (ev_name (nm_local F12.ns (upd_other (upd_other (upd_other (upd_other upd_same))))) rw12)) (by rw [List.length_map, llen]; exact range5_z) (fun i => IsI (clip ((grs ns).getD i 0)))
      (by unfold cls; rw [List.map_map, List.length_map, llen]; rfl) (fun i S h' C W' m2 v hS y fx hw hn hv hr => ?_) rfl
    obtain ⟨x, hx, rfl⟩ := map_item hS
    have hi : i < 5 := by have := (List.getElem?_eq_some_iff.mp hx).1; rwa [llen] at this
    have ex : x = lt ns i := by
      unfold lts at hx
      rw [List.getElem?_map, List.getElem?_range hi] at hx
      exact (Option.some.inj hx).symm
    subst ex
    exact ev_callT (nm_boot X T.g T.b T.builtins (hT12.trans y) (by k_is) (by decide +kernel : bootBuiltins (Str.ofString "int") = some (.type "int"))) (evl_cons (ev_fmulI (n := 8) (ev_weak (ev_itemT (ev_name (nm_local hn hv) hr) ev_int (by omega) (by omega) rfl) fun _ _ => IsFP.f) ev_int (by exact Nat.lt_of_lt_of_le (by decide : (8 : Int).natAbs < 2 ^ 4) (Nat.pow_le_pow_right (by omega) (by omega)))) evl_nil)
      (callB_intF (trunc_of (lt_trunc ns hi)))
end
end Mine
namespace Mine
theorem callerA_ok : AOk callerA 6 := ⟨rfl, by decide, by decide⟩
set_option maxRecDepth 100000 in
set_option maxHeartbeats 8000000 in
theorem whole : PySem.Challenge.rw_tr0006_01.Holds := by
  refine hd ?_
  k_fill
  intro w s₀ s₁ mg mb G Y fa o pm cd doc dV kV ho hd hcd hD hmg hg args vals as hpre hlay hrd hwl hlo
  have KX := kIn_of Y
  refine Ground.open G ?_
  intro T B D TE TW
  have hfa : fa = 80 := by
    have e : mg (Str.ofString "law") = some (.ref 80) := mg_of KX T.g (by k_is)
    exact Value.ref.inj (Option.some.inj (hmg.symm.trans e))
  subst hfa
  clear ho hd hcd hD hmg G Y
  wrow_args hpre hlay hrd hwl hlo
  rename IntsAre _ _ => hI
  rename s₁.heap.IsList _ _ => hL
  rename ¬ _ < _ => hc
  obtain ⟨o, hget, hcls, n, hdat⟩ := hL
  refine law_fn KX T (by omega) [] callerA s₁ _ _ _ callerA_ok (Ext.refl _) (fun _ h => absurd h (by simp)) ⟨⟨_, _, o, n, rfl, Fz.of (by simp) hget, hcls, hdat, hI⟩, trivial⟩ fun v h' tk' y p => ?_
  obtain rfl : v = .bool true := p
  refine GoodW.toG ⟨.inl ⟨.bool true, .bool true, [], rfl, fun _ => rfl, ?_, ?_, fun _ => ⟨List.nodup_nil, by simp⟩⟩, y, rfl, hg⟩
  · exact .bool _
  · wrow_post
end Mine
theorem PySem.Challenge.cw_tr0006_01_holds : PySem.Challenge.rw_tr0006_01.Holds := by
  exact Mine.whole
