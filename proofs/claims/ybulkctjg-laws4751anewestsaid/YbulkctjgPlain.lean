namespace Go.Proofs.Ybulkctjg.Plain

def Cons (k : Nat) (R : Nat → List (Nat × Nat)) (t : Nat → Nat) : Prop :=
  ∀ a b, a < k → b < k → ∀ n x y, (n, x) ∈ R (t a) → (n, y) ∈ R (t b) → x = y
def val (C : Nat → List Nat) (ix : Nat → Nat) (j : Nat) : Nat := (C j).getD (ix j) 0
def Valid (k : Nat) (C : Nat → List Nat) (ix : Nat → Nat) : Prop := ∀ j, j < k → ix j < (C j).length
def Lt (k : Nat) (ix iy : Nat → Nat) : Prop := ∃ p, p < k ∧ (∀ j, j < p → ix j = iy j) ∧ ix p < iy p
def FirstFrom (k : Nat) (C : Nat → List Nat) (R : Nat → List (Nat × Nat)) (i : Nat) (ix : Nat → Nat) : Prop :=
  Valid k C ix ∧ Cons k R (val C ix) ∧ ∀ iy, Valid k C iy → (∀ j, j < i → iy j = ix j) → Lt k iy ix → ¬ Cons k R (val C iy)
def First (k : Nat) (C : Nat → List Nat) (R : Nat → List (Nat × Nat)) (ix : Nat → Nat) : Prop := FirstFrom k C R 0 ix

/-- the least place of difference -/
theorem least_diff (k : Nat) (ix iy : Nat → Nat) (h : ∃ j, j < k ∧ ix j ≠ iy j) : ∃ p, p < k ∧ ix p ≠ iy p ∧ ∀ j, j < p → ix j = iy j := by
  obtain ⟨j, hj, hne⟩ := h
  induction j using Nat.strongRecOn with
  | ind j ih =>
    by_cases hc : ∃ i, i < j ∧ ix i ≠ iy i
    · obtain ⟨i, hi, hne'⟩ := hc
      exact ih i hi (by omega) hne'
    · exact ⟨j, hj, hne, fun i hi => by
        by_cases e : ix i = iy i
        · exact e
        · exact absurd ⟨i, hi, e⟩ hc⟩

theorem First.unique {k : Nat} {C : Nat → List Nat} {R : Nat → List (Nat × Nat)} {ix iy : Nat → Nat} (h : First k C R ix) (h' : First k C R iy) : ∀ j, j < k → ix j = iy j := by
  intro j hj
  by_cases e : ix j = iy j
  · exact e
  · obtain ⟨p, hp, hne, hlt⟩ := least_diff k ix iy ⟨j, hj, e⟩
    exfalso
    rcases Nat.lt_or_ge (ix p) (iy p) with hl | hg
    · exact h'.2.2 ix h.1 (fun j hj => by omega) ⟨p, hp, hlt, hl⟩ h.2.1
    · exact h.2.2 iy h'.1 (fun j hj => by omega) ⟨p, hp, fun j hj => (hlt j hj).symm, by omega⟩ h'.2.1

theorem Cons.congr {k : Nat} {R : Nat → List (Nat × Nat)} {t t' : Nat → Nat} (h : Cons k R t) (e : ∀ j, j < k → t' j = t j) : Cons k R t' := by
  intro a b ha hb n x y hx hy
  rw [e a ha] at hx
  rw [e b hb] at hy
  exact h a b ha hb n x y hx hy

def Fail (k : Nat) (C : Nat → List Nat) (R : Nat → List (Nat × Nat)) (i : Nat) (pre : Nat → Nat) (B : Nat → Bool) : Prop :=
  ∀ t : Nat → Nat, (∀ j, j < i → B j = true → t j = pre j) → (∀ j, i ≤ j → j < k → t j ∈ C j) → ¬ Cons k R t
def Dead (k : Nat) (C : Nat → List Nat) (R : Nat → List (Nat × Nat)) (i : Nat) (pre : Nat → Nat) (B : Nat → Bool) (v : Nat) : Prop :=
  ∀ t : Nat → Nat, (∀ j, j < i → B j = true → t j = pre j) → t i = v → (∀ j, i < j → j < k → t j ∈ C j) → ¬ Cons k R t

section
variable {k : Nat} {C : Nat → List Nat} {R : Nat → List (Nat × Nat)} {i : Nat} {pre pre' : Nat → Nat} {B B' : Nat → Bool} {v : Nat}

theorem Dead.mono (h : Dead k C R i pre B v) (hB : ∀ j, j < i → B j = true → B' j = true) : Dead k C R i pre B' v :=
  fun t h1 h2 h3 => h t (fun j hj hb => h1 j hj (hB j hj hb)) h2 h3

theorem fail_of_dead (hi : i < k) (h : ∀ v, v ∈ C i → Dead k C R i pre B v) : Fail k C R i pre B :=
  fun t h1 h2 => h (t i) (h2 i (Nat.le_refl _) hi) t h1 rfl (fun j hj hk => h2 j (by omega) hk)

theorem dead_of_ruled (hi : i < k) {j n x y : Nat} (hj : j < i) (hB : B j = true) (hx : (n, x) ∈ R (pre j)) (hy : (n, y) ∈ R v) (hne : x ≠ y) : Dead k C R i pre B v := by
  intro t h1 h2 _ hc
  rw [← h1 j hj hB] at hx
  rw [← h2] at hy
  exact hne (hc j i (by omega) hi n x y hx hy)

theorem dead_of_fail (h : Fail k C R (i + 1) pre' B') (hp : ∀ j, j < i → pre' j = pre j) (hv : pre' i = v) (hB : ∀ j, j < i → B' j = true → B j = true) : Dead k C R i pre B v := by
  intro t h1 h2 h3
  refine h t (fun j hj hb => ?_) (fun j hj hk => h3 j (by omega) hk)
  by_cases e : j = i
  · rw [e, h2, hv]
  · rw [h1 j (by omega) (hB j (by omega) hb), hp j (by omega)]

theorem fail_skip (h : Fail k C R (i + 1) pre' B') (hp : ∀ j, j < i → pre' j = pre j) (hB : B' i = false) : Fail k C R i pre B' := by
  intro t h1 h2
  refine h t (fun j hj hb => ?_) (fun j hj hk => h2 j (by omega) hk)
  by_cases e : j = i
  · rw [e, hB] at hb; cases hb
  · rw [h1 j (by omega) hb, hp j (by omega)]

theorem Fail.congr (h : Fail k C R i pre B) (hB : ∀ j, j < i → B' j = B j) (hp : ∀ j, j < i → pre' j = pre j) : Fail k C R i pre' B' :=
  fun t h1 h2 => h t (fun j hj hb => by rw [h1 j hj (by rw [hB j hj]; exact hb), hp j hj]) h2

theorem firstFrom_top {ix : Nat → Nat} (h1 : Valid k C ix) (h2 : Cons k R (val C ix)) : FirstFrom k C R k ix := by
  refine ⟨h1, h2, ?_⟩
  rintro iy _ he ⟨p, hp, _, hlt⟩
  have := he p hp
  omega

theorem firstFrom_step {ix : Nat → Nat} (hi : i < k) (h : FirstFrom k C R (i + 1) ix) (hd : ∀ q, q < ix i → Dead k C R i (val C ix) B ((C i).getD q 0)) : FirstFrom k C R i ix := by
  refine ⟨h.1, h.2.1, ?_⟩
  rintro iy hv he ⟨p, hp, heq, hlt⟩
  by_cases h1 : p < i
  · have := he p h1; omega
  by_cases h2 : p = i
  · subst h2
    refine hd (iy p) hlt (val C iy) ?_ rfl ?_
    · intro j hj _; unfold val; rw [he j hj]
    · intro j hj hk
      unfold val
      rw [List.getD_eq_getElem?_getD, List.getElem?_eq_getElem (hv j hk)]
      exact List.getElem_mem _
  · exact h.2.2 iy hv (fun j hj => heq j (by omega)) ⟨p, hp, heq, hlt⟩

end

/-! ### the state of the search -/
def upd (s : Nat → Int) (n : Nat) (x : Int) : Nat → Int := fun m => if m = n then x else s m

/-- one rest is laid -/
def lay (i : Nat) (a : (Nat → Int) × (Nat → Int) × List Nat) (r : Nat × Nat) : (Nat → Int) × (Nat → Int) × List Nat :=
  if a.1 r.1 = -1 then (upd a.1 r.1 r.2, upd a.2.1 r.1 i, a.2.2 ++ [r.1]) else a

/-- the state of the picks below i -/
structure StOk (R : Nat → List (Nat × Nat)) (i : Nat) (pre : Nat → Nat) (st by_ : Nat → Int) : Prop where
  has : ∀ j, j < i → ∀ n x, (n, x) ∈ R (pre j) → st n = (x : Int)
  from_ : ∀ n, st n ≠ -1 → ∃ j x : Nat, j < i ∧ by_ n = (j : Int) ∧ st n = (x : Int) ∧ (n, x) ∈ R (pre j)

theorem StOk.cons {k : Nat} {R : Nat → List (Nat × Nat)} {pre : Nat → Nat} {st by_ : Nat → Int} (h : StOk R k pre st by_) : Cons k R pre := by
  intro a b ha hb n x y hx hy
  have h1 := h.has a ha n x hx
  have h2 := h.has b hb n y hy
  omega

/-- what laying leaves -/
theorem lay_all (i : Nat) (rs : List (Nat × Nat)) : ∀ (st by_ : Nat → Int) (l : List Nat), (∀ n x, (n, x) ∈ rs → st n = -1 ∨ st n = (x : Int)) → (rs.map (·.1)).Nodup →
    let F := rs.foldl (lay i) (st, by_, l)
    (∀ n x, (n, x) ∈ rs → F.1 n = (x : Int)) ∧ (∀ n, st n ≠ -1 → F.1 n = st n ∧ F.2.1 n = by_ n) ∧
    (∀ n, st n = -1 → F.1 n ≠ -1 → ∃ x : Nat, (n, x) ∈ rs ∧ F.1 n = (x : Int) ∧ F.2.1 n = (i : Int)) ∧
    (∃ m, F.2.2 = l ++ m ∧ m.length ≤ rs.length ∧ (∀ n, n ∈ m → st n = -1 ∧ ∃ x, (n, x) ∈ rs) ∧ (∀ n, F.1 n ≠ st n → n ∈ m)) := by
  induction rs with
  | nil =>
    intro st by_ l _ _
    refine ⟨by simp, by simp, fun n h h' => absurd h h', [], by simp, by simp, by simp, fun n h => absurd rfl h⟩
  | cons r rs ih =>
    intro st by_ l hc hnd
    obtain ⟨rn, rx⟩ := r
    rw [List.map_cons, List.nodup_cons] at hnd
    have hrn : ∀ x, (rn, x) ∈ rs → False := fun x hx => hnd.1 (List.mem_map.2 ⟨(rn, x), hx, rfl⟩)
    rw [List.foldl_cons]
    by_cases h0 : st rn = -1
    · have hl : lay i (st, by_, l) (rn, rx) = (upd st rn rx, upd by_ rn i, l ++ [rn]) := by unfold lay; rw [if_pos h0]
      rw [hl]
      have hc' : ∀ n x, (n, x) ∈ rs → upd st rn rx n = -1 ∨ upd st rn rx n = (x : Int) := by
        intro n x hx
        unfold upd
        by_cases e : n = rn
        · subst e; exact (hrn x hx).elim
        · rw [if_neg e]; exact hc n x (List.mem_cons_of_mem _ hx)
      obtain ⟨a1, a2, a3, m, a4, a5, a6, a7⟩ := ih (upd st rn rx) (upd by_ rn i) (l ++ [rn]) hc' hnd.2
      have hself : upd st rn rx rn = (rx : Int) := by unfold upd; rw [if_pos rfl]
      have hself2 : upd by_ rn i rn = (i : Int) := by unfold upd; rw [if_pos rfl]
      have hoth : ∀ n, n ≠ rn → upd st rn rx n = st n := fun n e => by unfold upd; rw [if_neg e]
      have hoth2 : ∀ n, n ≠ rn → upd by_ rn i n = by_ n := fun n e => by unfold upd; rw [if_neg e]
      have hrx := a2 rn (by rw [hself]; omega)
      rw [hself, hself2] at hrx
      refine ⟨?_, ?_, ?_, rn :: m, ?_, ?_, ?_, ?_⟩
      · intro n x hx
        rcases List.mem_cons.1 hx with e | e
        · have e1 : n = rn := congrArg Prod.fst e
          have e2 : x = rx := congrArg Prod.snd e
          rw [e1, e2]; exact hrx.1
        · exact a1 n x e
      · intro n hn
        have e : n ≠ rn := fun e => hn (by rw [e]; exact h0)
        have := a2 n (by rw [hoth n e]; exact hn)
        rw [hoth n e, hoth2 n e] at this
        exact this
      · intro n hn hF
        by_cases e : n = rn
        · subst e
          exact ⟨rx, List.mem_cons_self, hrx.1, hrx.2⟩
        · obtain ⟨x, h1, h2, h3⟩ := a3 n (by rw [hoth n e]; exact hn) hF
          exact ⟨x, List.mem_cons_of_mem _ h1, h2, h3⟩
      · rw [a4]; simp
      · simp; omega
      · intro n hn
        rcases List.mem_cons.1 hn with e | e
        · subst e; exact ⟨h0, rx, List.mem_cons_self⟩
        · obtain ⟨h1, x, h2⟩ := a6 n e
          have e' : n ≠ rn := fun e' => hrn x (by rw [← e']; exact h2)
          rw [hoth n e'] at h1
          exact ⟨h1, x, List.mem_cons_of_mem _ h2⟩
      · intro n hn
        by_cases e : n = rn
        · rw [e]; exact List.mem_cons_self
        · refine List.mem_cons_of_mem _ (a7 n ?_)
          rw [hoth n e]; exact hn
    · have hl : lay i (st, by_, l) (rn, rx) = (st, by_, l) := by unfold lay; rw [if_neg h0]
      rw [hl]
      have hx : st rn = (rx : Int) := by
        rcases hc rn rx List.mem_cons_self with h | h
        · exact absurd h h0
        · exact h
      obtain ⟨a1, a2, a3, m, a4, a5, a6, a7⟩ := ih st by_ l (fun n x h => hc n x (List.mem_cons_of_mem _ h)) hnd.2
      refine ⟨?_, a2, ?_, m, a4, by simp; omega, ?_, a7⟩
      · intro n x hx'
        rcases List.mem_cons.1 hx' with e | e
        · have e1 : n = rn := congrArg Prod.fst e
          have e2 : x = rx := congrArg Prod.snd e
          rw [e1, e2, (a2 rn h0).1]; exact hx
        · exact a1 n x e
      · intro n h1 h2
        obtain ⟨x, h3, h4⟩ := a3 n h1 h2
        exact ⟨x, List.mem_cons_of_mem _ h3, h4⟩
      · intro n hn
        obtain ⟨h1, x, h2⟩ := a6 n hn
        exact ⟨h1, x, List.mem_cons_of_mem _ h2⟩

/-! ### the model's test -/
def tryPut (s : Nat → Int) : List (Nat × Nat) → Option (Nat → Int)
  | [] => some s
  | (n, x) :: r => if s n = -1 then tryPut (upd s n x) r else if s n = (x : Int) then tryPut s r else none

theorem tryPut_some (ps : List (Nat × Nat)) : ∀ (s s' : Nat → Int), tryPut s ps = some s' →
    (∀ n, s n ≠ -1 → s' n = s n) ∧ (∀ n x, (n, x) ∈ ps → s' n = (x : Int)) ∧ (∀ n, s' n ≠ -1 → s n = -1 → ∃ x : Nat, (n, x) ∈ ps ∧ s' n = (x : Int)) := by
  induction ps with
  | nil => intro s s' h; cases h; exact ⟨fun _ _ => rfl, by simp, fun n h h' => absurd h' h⟩
  | cons p ps ih =>
    intro s s' h
    obtain ⟨n0, x0⟩ := p
    unfold tryPut at h
    by_cases h0 : s n0 = -1
    · rw [if_pos h0] at h
      obtain ⟨a1, a2, a3⟩ := ih _ _ h
      have hself : upd s n0 x0 n0 = (x0 : Int) := by unfold upd; rw [if_pos rfl]
      have hoth : ∀ n, n ≠ n0 → upd s n0 x0 n = s n := fun n e => by unfold upd; rw [if_neg e]
      have hx0 := a1 n0 (by rw [hself]; omega)
      rw [hself] at hx0
      refine ⟨?_, ?_, ?_⟩
      · intro n hn
        have e : n ≠ n0 := fun e => hn (by rw [e]; exact h0)
        rw [a1 n (by rw [hoth n e]; exact hn), hoth n e]
      · intro n x hx
        rcases List.mem_cons.1 hx with e | e
        · have e1 : n = n0 := congrArg Prod.fst e
          have e2 : x = x0 := congrArg Prod.snd e
          rw [e1, e2]; exact hx0
        · exact a2 n x e
      · intro n h1 h2
        by_cases e : n = n0
        · subst e; exact ⟨x0, List.mem_cons_self, hx0⟩
        · obtain ⟨x, h3, h4⟩ := a3 n h1 (by rw [hoth n e]; exact h2)
          exact ⟨x, List.mem_cons_of_mem _ h3, h4⟩
    · rw [if_neg h0] at h
      by_cases h1 : s n0 = (x0 : Int)
      · rw [if_pos h1] at h
        obtain ⟨a1, a2, a3⟩ := ih _ _ h
        refine ⟨a1, ?_, ?_⟩
        · intro n x hx
          rcases List.mem_cons.1 hx with e | e
          · have e1 : n = n0 := congrArg Prod.fst e
            have e2 : x = x0 := congrArg Prod.snd e
            rw [e1, e2, a1 n0 h0]; exact h1
          · exact a2 n x e
        · intro n h1 h2
          obtain ⟨x, h3, h4⟩ := a3 n h1 h2
          exact ⟨x, List.mem_cons_of_mem _ h3, h4⟩
      · rw [if_neg h1] at h; cases h

theorem tryPut_none (ps : List (Nat × Nat)) : ∀ (s : Nat → Int), tryPut s ps = none →
    ∃ n x, (n, x) ∈ ps ∧ ((s n ≠ -1 ∧ s n ≠ (x : Int)) ∨ ∃ y, (n, y) ∈ ps ∧ x ≠ y) := by
  induction ps with
  | nil => intro s h; cases h
  | cons p ps ih =>
    intro s h
    obtain ⟨n0, x0⟩ := p
    unfold tryPut at h
    by_cases h0 : s n0 = -1
    · rw [if_pos h0] at h
      obtain ⟨n, x, hm, hc⟩ := ih _ h
      refine ⟨n, x, List.mem_cons_of_mem _ hm, ?_⟩
      rcases hc with ⟨h1, h2⟩ | ⟨y, h1, h2⟩
      · by_cases e : n = n0
        · subst e
          right
          refine ⟨x0, List.mem_cons_self, ?_⟩
          intro e
          apply h2
          unfold upd
          rw [if_pos rfl, e]
        · left
          unfold upd at h1 h2
          rw [if_neg e] at h1 h2
          exact ⟨h1, h2⟩
      · exact .inr ⟨y, List.mem_cons_of_mem _ h1, h2⟩
    · rw [if_neg h0] at h
      by_cases h1 : s n0 = (x0 : Int)
      · rw [if_pos h1] at h
        obtain ⟨n, x, hm, hc⟩ := ih _ h
        refine ⟨n, x, List.mem_cons_of_mem _ hm, ?_⟩
        rcases hc with hc | ⟨y, h1, h2⟩
        · exact .inl hc
        · exact .inr ⟨y, List.mem_cons_of_mem _ h1, h2⟩
      · exact ⟨n0, x0, List.mem_cons_self, .inl ⟨h0, h1⟩⟩

/-- the model's state over the picks below i -/
structure PutOk (R : Nat → List (Nat × Nat)) (i : Nat) (t : Nat → Nat) (s : Nat → Int) : Prop where
  has : ∀ j, j < i → ∀ n x, (n, x) ∈ R (t j) → s n = (x : Int)
  from_ : ∀ n, s n ≠ -1 → ∃ j x : Nat, j < i ∧ s n = (x : Int) ∧ (n, x) ∈ R (t j)

theorem PutOk.zero (R : Nat → List (Nat × Nat)) (t : Nat → Nat) : PutOk R 0 t (fun _ => -1) := ⟨fun j h => by omega, fun n h => absurd rfl h⟩

theorem PutOk.step {R : Nat → List (Nat × Nat)} {i : Nat} {t : Nat → Nat} {s s' : Nat → Int} (h : PutOk R i t s) (e : tryPut s (R (t i)) = some s') : PutOk R (i + 1) t s' := by
  obtain ⟨a1, a2, a3⟩ := tryPut_some _ _ _ e
  refine ⟨?_, ?_⟩
  · intro j hj n x hx
    by_cases e : j = i
    · subst e; exact a2 n x hx
    · have h1 := h.has j (by omega) n x hx
      rw [a1 n (by omega), h1]
  · intro n hn
    by_cases h0 : s n = -1
    · obtain ⟨x, h1, h2⟩ := a3 n hn h0
      exact ⟨i, x, by omega, h2, h1⟩
    · obtain ⟨j, x, h1, h2, h3⟩ := h.from_ n h0
      exact ⟨j, x, by omega, by rw [a1 n h0, h2], h3⟩

theorem PutOk.cons {k : Nat} {R : Nat → List (Nat × Nat)} {t : Nat → Nat} {s : Nat → Int} (h : PutOk R k t s) : Cons k R t := by
  intro a b ha hb n x y hx hy
  have h1 := h.has a ha n x hx
  have h2 := h.has b hb n y hy
  omega

theorem PutOk.not_cons {k i : Nat} {R : Nat → List (Nat × Nat)} {t : Nat → Nat} {s : Nat → Int} (h : PutOk R i t s) (hi : i < k) (e : tryPut s (R (t i)) = none) : ¬ Cons k R t := by
  intro hc
  obtain ⟨n, x, hm, hor⟩ := tryPut_none _ _ e
  rcases hor with ⟨h1, h2⟩ | ⟨y, h1, h2⟩
  · obtain ⟨j, x', hj, h3, h4⟩ := h.from_ n h1
    have := hc j i (by omega) hi n x' x h4 hm
    omega
  · exact h2 (hc i i hi hi n x y hm h1)

/-! ### the odometer -/
/-- all vectors ahead of ix are inconsistent -/
def Ahead (k : Nat) (C : Nat → List Nat) (R : Nat → List (Nat × Nat)) (ix : Nat → Nat) : Prop := ∀ iy, Valid k C iy → Lt k iy ix → ¬ Cons k R (val C iy)

/-- the odometer's turn: behind p all stood at their last; p goes one on, what is behind it is nought -/
theorem ahead_turn {k p : Nat} {C : Nat → List Nat} {R : Nat → List (Nat × Nat)} {ix iy : Nat → Nat} (hp : p < k) (h : Ahead k C R ix) (hn : ¬ Cons k R (val C ix))
    (h1 : ∀ j, j < p → iy j = ix j) (h2 : iy p = ix p + 1) (h3 : ∀ j, p < j → j < k → iy j = 0) (h4 : ∀ j, p < j → j < k → ix j + 1 = (C j).length) : Ahead k C R iy := by
  rintro iz hv ⟨q, hq, heq, hlt⟩
  by_cases hqp : q < p
  · exact h iz hv ⟨q, hq, fun j hj => by rw [heq j hj, h1 j (by omega)], by rw [← h1 q hqp]; exact hlt⟩
  by_cases hqe : q = p
  · subst hqe
    by_cases hsame : ∀ j, j < k → iz j = ix j
    · intro hc
      exact hn (hc.congr (fun j hj => by unfold val; rw [hsame j hj]))
    · have : ∃ j, j < k ∧ iz j ≠ ix j := by
        by_cases hex : ∃ j, j < k ∧ iz j ≠ ix j
        · exact hex
        · exact absurd (fun j hj => by
            by_cases e : iz j = ix j
            · exact e
            · exact absurd ⟨j, hj, e⟩ hex) hsame
      obtain ⟨d, hd, hne, hbe⟩ := least_diff k iz ix this
      refine h iz hv ⟨d, hd, hbe, ?_⟩
      by_cases hdq : d < q
      · have := heq d hdq; rw [h1 d hdq] at this; exact absurd this hne
      by_cases hdq2 : d = q
      · subst hdq2; omega
      · have := hv d hd
        have := h4 d (by omega) hd
        omega
  · rw [h3 q (by omega) hq] at hlt; omega

/-- the last turn: all stood at their last -/
theorem ahead_end {k : Nat} {C : Nat → List Nat} {R : Nat → List (Nat × Nat)} {ix : Nat → Nat} (h : Ahead k C R ix) (hn : ¬ Cons k R (val C ix)) (h4 : ∀ j, j < k → ix j + 1 = (C j).length) :
    ∀ iy, Valid k C iy → ¬ Cons k R (val C iy) := by
  intro iz hv
  by_cases hex : ∃ j, j < k ∧ iz j ≠ ix j
  · obtain ⟨d, hd, hne, hbe⟩ := least_diff k iz ix hex
    refine h iz hv ⟨d, hd, hbe, ?_⟩
    have := hv d hd
    have := h4 d hd
    omega
  · intro hc
    refine hn (hc.congr (fun j hj => ?_))
    unfold val
    have : iz j = ix j := by
      by_cases e : iz j = ix j
      · exact e
      · exact absurd ⟨j, hj, e⟩ hex
    rw [this]

/-- how many vectors there are, places p and on -/
def room (C : Nat → List Nat) : Nat → Nat → Nat
  | 0, _ => 1
  | f + 1, p => (C p).length * room C f (p + 1)
/-- how many are still to come -/
def togo (C : Nat → List Nat) (ix : Nat → Nat) : Nat → Nat → Nat
  | 0, _ => 0
  | f + 1, p => ((C p).length - 1 - ix p) * room C f (p + 1) + togo C ix f (p + 1)

theorem togo_last (C : Nat → List Nat) (ix : Nat → Nat) : ∀ (f p : Nat), (∀ j, p ≤ j → j < p + f → ix j + 1 = (C j).length) → togo C ix f p = 0 := by
  intro f
  induction f with
  | zero => intro p _; rfl
  | succ f ih =>
    intro p h
    have h0 := h p (Nat.le_refl _) (by omega)
    unfold togo
    rw [ih (p + 1) (fun j h1 h2 => h j (by omega) (by omega)), show (C p).length - 1 - ix p = 0 by omega, Nat.zero_mul]

theorem togo_zero (C : Nat → List Nat) (ix : Nat → Nat) : ∀ (f p : Nat), (∀ j, p ≤ j → j < p + f → ix j = 0 ∧ 0 < (C j).length) → togo C ix f p + 1 = room C f p := by
  intro f
  induction f with
  | zero => intro p _; rfl
  | succ f ih =>
    intro p h
    obtain ⟨h0, h1⟩ := h p (Nat.le_refl _) (by omega)
    have e := ih (p + 1) (fun j h1 h2 => h j (by omega) (by omega))
    show ((C p).length - 1 - ix p) * room C f (p + 1) + togo C ix f (p + 1) + 1 = (C p).length * room C f (p + 1)
    obtain ⟨m, hm⟩ : ∃ m, (C p).length = m + 1 := ⟨(C p).length - 1, by omega⟩
    rw [h0, hm, ← e, Nat.add_mul]
    simp only [Nat.add_sub_cancel, Nat.sub_zero, Nat.one_mul]
    omega

theorem togo_turn (C : Nat → List Nat) (ix iy : Nat → Nat) (p : Nat) : ∀ (f q : Nat), q ≤ p → p < q + f → (∀ j, j < p → iy j = ix j) → iy p = ix p + 1 → iy p < (C p).length →
    (∀ j, p < j → j < q + f → iy j = 0 ∧ 0 < (C j).length) → (∀ j, p < j → j < q + f → ix j + 1 = (C j).length) → togo C iy f q < togo C ix f q := by
  intro f
  induction f with
  | zero => intro q h1 h2; omega
  | succ f ih =>
    intro q h1 h2 h3 h4 h5 h6 h7
    by_cases e : q = p
    · subst e
      unfold togo
      have a1 := togo_zero C iy f (q + 1) (fun j hj1 hj2 => h6 j (by omega) (by omega))
      have a2 := togo_last C ix f (q + 1) (fun j hj1 hj2 => h7 j (by omega) (by omega))
      obtain ⟨m, hm⟩ : ∃ m, (C q).length - 1 - ix q = m + 1 := ⟨(C q).length - 1 - ix q - 1, by omega⟩
      rw [a2, hm, show (C q).length - 1 - iy q = m by omega, ← a1, Nat.add_mul, Nat.one_mul]
      omega
    · unfold togo
      have := ih (q + 1) (by omega) (by omega) h3 h4 h5 (fun j hj1 hj2 => h6 j hj1 (by omega)) (fun j hj1 hj2 => h7 j hj1 (by omega))
      rw [h3 q (by omega)]
      omega

end Go.Proofs.Ybulkctjg.Plain
