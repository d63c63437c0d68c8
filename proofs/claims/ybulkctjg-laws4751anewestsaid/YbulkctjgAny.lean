import Derived.Test.YbulkctjgBuildB
namespace Go.Proofs.Ybulkctjg
section
variable {P : Program} {ops : Array Oper} {Q : Exit → Act → World → Prop} {md : Region.Mode}

/-- how many have not come up -/
def unlisted (n : Nat) (l : Array Bool) : Nat := ((List.range n).filter (fun i => !l.getD i true)).length

theorem getD_setIf (l : Array Bool) (i j : Nat) (b : Bool) (hi : i < l.size) : (l.setIfInBounds i true).getD j b = if j = i then true else l.getD j b := by
  by_cases e : j = i
  · subst e
    rw [if_pos rfl]
    simp [Array.getD, hi]
  · rw [if_neg e]
    exact getD_set_ne b (fun h => e h.symm)

theorem unlisted_set (n : Nat) (l : Array Bool) (i : Nat) (hi : i < l.size) (hn : i < n) (h : l.getD i true = false) : unlisted n (l.setIfInBounds i true) + 1 ≤ unlisted n l := by
  unfold unlisted
  have e : (List.range n).filter (fun j => !(l.setIfInBounds i true).getD j true) = ((List.range n).filter (fun j => !l.getD j true)).filter (fun j => decide (j ≠ i)) := by
    rw [List.filter_filter]
    congr 1
    funext j
    rw [getD_setIf l i j true hi]
    by_cases e : j = i
    · simp [e]
    · simp [e]
  rw [e]
  have hm : i ∈ (List.range n).filter (fun j => !l.getD j true) := by
    rw [List.mem_filter]
    exact ⟨List.mem_range.2 hn, by rw [h]; rfl⟩
  have := List.length_filter_lt_length_iff_exists (l := (List.range n).filter (fun j => !l.getD j true)) (p := fun j => decide (j ≠ i))
  have h2 := this.2 ⟨i, hm, by simp⟩
  omega

/-- a region that draws its order, by an invariant over what has come up -/
theorem wpAny_inv (I : (Nat → Bool) → Act → World → Prop)
    (hfirst : ∀ i o, ops[i]? = some o → ∀ e ∈ o.after, Region.binds md e = true → e.on < i)
    (hdone : ∀ l a w, I l a w → (∀ i, i < ops.size → l i = true) → Q .normal a w)
    (hstep : ∀ l a w i o, I l a w → ops[i]? = some o → l i = false → (∀ e ∈ o.after, Region.binds md e = true → l e.on = true) → wpOp P ops Q i (fun a' w' => ∀ l', (∀ j, l' j = if j = i then true else l j) → I l' a' w') a w) :
    ∀ (fuel : Nat) (l : Array Bool) (a : Act) (w : World), l.size = ops.size → unlisted ops.size l ≤ fuel → I (fun i => l.getD i true) a w → wpAny P md ops Q fuel l a w := by
  have hdone' : ∀ (l : Array Bool) a w, l.size = ops.size → I (fun i => l.getD i true) a w → Region.ready md ops l = [] → Q .normal a w := by
    intro l a w hs hI hr
    refine hdone _ a w hI ?_
    intro i hi
    induction i using Nat.strongRecOn with
    | ind i ih =>
      by_cases h : l.getD i true = true
      · exact h
      · exfalso
        have hm : i ∈ Region.ready md ops l := by
          refine mem_ready.2 ⟨by simpa using h, ops[i], by simp [hi], ?_⟩
          intro e he hb
          have hlt := hfirst i ops[i] (by simp [hi]) e he hb
          have := ih e.on hlt (by omega)
          have hsz : e.on < l.size := by omega
          simp [Array.getD, hsz] at this ⊢
          exact this
        rw [hr] at hm
        cases hm
  intro fuel
  induction fuel with
  | zero =>
    intro l a w hs hu hI
    have hr : Region.ready md ops l = [] := by
      cases hr : Region.ready md ops l with
      | nil => rfl
      | cons i rs =>
        exfalso
        have hm : i ∈ Region.ready md ops l := by rw [hr]; exact List.mem_cons_self
        obtain ⟨h1, o, h2, _⟩ := mem_ready.1 hm
        have hlt : i < ops.size := by
          rcases Nat.lt_or_ge i ops.size with h | h
          · exact h
          · rw [Array.getElem?_eq_none h] at h2; cases h2
        have := unlisted_set ops.size l i (by omega) hlt (by simpa using h1)
        omega
    exact ⟨hr, hdone' l a w hs hI hr⟩
  | succ fuel ih =>
    intro l a w hs hu hI
    refine ⟨hdone' l a w hs hI, ?_⟩
    intro i hi
    obtain ⟨h1, o, h2, h3⟩ := mem_ready.1 hi
    have hlt : i < ops.size := by
      rcases Nat.lt_or_ge i ops.size with h | h
      · exact h
      · rw [Array.getElem?_eq_none h] at h2; cases h2
    have h1' : l.getD i true = false := by simpa using h1
    have hun := unlisted_set ops.size l i (by omega) hlt h1'
    refine wpOp_mono (fun a' w' h => ?_) (hstep (fun i => l.getD i true) a w i o hI h2 h1' (fun e he hb => ?_))
    · refine ih _ a' w' (by simp [hs]) (by omega) (h _ ?_)
      intro j
      exact getD_setIf l i j true (by omega)
    · have := h3 e he hb
      have hlt2 := hfirst i o h2 e he hb
      have hsz : e.on < l.size := by omega
      simp [Array.getD, hsz] at this ⊢
      exact this
end
end Go.Proofs.Ybulkctjg
