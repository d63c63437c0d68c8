import Derived.Test.YbulkctjgCompare
import Derived.Test.YbulkctjgShelf
namespace Go.Proofs.Ybulkctjg
open Go.RowKit
set_option linter.unusedVariables false

/-! ### the plain insertion -/
def swp (ys : List Nat) (j : Nat) : List Nat := (ys.set (j + 1) (ys.getD j 0)).set j (ys.getD (j + 1) 0)
def bub (lt : Nat → Nat → Bool) : List Nat → Nat → List Nat
  | ys, 0 => ys
  | ys, j + 1 => if lt (ys.getD (j + 1) 0) (ys.getD j 0) then bub lt (swp ys j) j else ys
def isort (lt : Nat → Nat → Bool) (xs : List Nat) : List Nat := xs.foldl (fun out v => bub lt (out ++ [v]) out.length) []

theorem swp_length (ys : List Nat) (j : Nat) : (swp ys j).length = ys.length := by simp [swp]
theorem bub_length (lt : Nat → Nat → Bool) : ∀ (j : Nat) (ys : List Nat), (bub lt ys j).length = ys.length := by
  intro j
  induction j with
  | zero => intro ys; rfl
  | succ j ih =>
    intro ys
    unfold bub
    split
    · rw [ih, swp_length]
    · rfl
theorem getD_app (p r : List Nat) (i : Nat) (h : i < p.length) : (p ++ r).getD i 0 = p.getD i 0 := by
  simp only [List.getD_eq_getElem?_getD]
  rw [List.getElem?_append_left h]
theorem swp_app (p r : List Nat) (j : Nat) (h : j + 1 < p.length) : swp (p ++ r) j = swp p j ++ r := by
  unfold swp
  rw [getD_app p r j (by omega), getD_app p r (j + 1) h, List.set_append_left _ _ h, List.set_append_left _ _ (by rw [List.length_set]; omega)]
theorem bub_app (lt : Nat → Nat → Bool) (r : List Nat) : ∀ (j : Nat) (p : List Nat), j < p.length → bub lt (p ++ r) j = bub lt p j ++ r := by
  intro j
  induction j with
  | zero => intro p _; rfl
  | succ j ih =>
    intro p h
    unfold bub
    rw [getD_app p r (j + 1) h, getD_app p r j (by omega), swp_app p r j h]
    split
    · exact ih (swp p j) (by rw [swp_length]; omega)
    · rfl
theorem isort_snoc (lt : Nat → Nat → Bool) (xs : List Nat) (v : Nat) : isort lt (xs ++ [v]) = bub lt (isort lt xs ++ [v]) (isort lt xs).length := by
  unfold isort
  rw [List.foldl_append]
  rfl
theorem isort_length (lt : Nat → Nat → Bool) (xs : List Nat) : (isort lt xs).length = xs.length := by
  have : ∀ (ys : List Nat), (isort lt ys.reverse).length = ys.length := by
    intro ys
    induction ys with
    | nil => rfl
    | cons y ys ih => rw [List.reverse_cons, isort_snoc, bub_length, List.length_append, ih]; rfl
  have h := this xs.reverse
  rw [List.reverse_reverse, List.length_reverse] at h
  exact h
theorem bub_succ (lt : Nat → Nat → Bool) (ys : List Nat) (j : Nat) : bub lt ys (j + 1) = if lt (ys.getD (j + 1) 0) (ys.getD j 0) then bub lt (swp ys j) j else ys := rfl
theorem isort_step (lt : Nat → Nat → Bool) (xs : List Nat) (i : Nat) (h : i < xs.length) : bub lt (isort lt (xs.take i) ++ xs.drop i) i = isort lt (xs.take (i + 1)) ++ xs.drop (i + 1) := by
  have e1 : xs.take (i + 1) = xs.take i ++ [xs[i]] := by rw [List.take_add_one, List.getElem?_eq_getElem h]; rfl
  have e2 : xs.drop i = xs[i] :: xs.drop (i + 1) := List.drop_eq_getElem_cons h
  have e3 : (isort lt (xs.take i)).length = i := by rw [isort_length, List.length_take]; omega
  rw [e2, e1, isort_snoc, e3, List.append_cons, bub_app lt _ i _ (by rw [List.length_append, e3]; simp)]
theorem mem_swp (ys : List Nat) (j : Nat) (h : j + 1 < ys.length) (v : Nat) (hv : v ∈ swp ys j) : v ∈ ys := by
  unfold swp at hv
  have g1 : ys.getD j 0 ∈ ys := by rw [List.getD_eq_getElem?_getD, List.getElem?_eq_getElem (by omega)]; exact List.getElem_mem _
  have g2 : ys.getD (j + 1) 0 ∈ ys := by rw [List.getD_eq_getElem?_getD, List.getElem?_eq_getElem h]; exact List.getElem_mem _
  rcases List.mem_or_eq_of_mem_set hv with h1 | h1
  · rcases List.mem_or_eq_of_mem_set h1 with h2 | h2
    · exact h2
    · rw [h2]; exact g1
  · rw [h1]; exact g2
theorem mem_bub (lt : Nat → Nat → Bool) (v : Nat) : ∀ (j : Nat) (ys : List Nat), j < ys.length → v ∈ bub lt ys j → v ∈ ys := by
  intro j
  induction j with
  | zero => intro ys _ h; exact h
  | succ j ih =>
    intro ys h hv
    unfold bub at hv
    split at hv
    · exact mem_swp ys j h v (ih _ (by rw [swp_length]; omega) hv)
    · exact hv
theorem mem_isort (lt : Nat → Nat → Bool) (xs : List Nat) (v : Nat) (h : v ∈ isort lt xs) : v ∈ xs := by
  have : ∀ (ys : List Nat), v ∈ isort lt ys.reverse → v ∈ ys.reverse := by
    intro ys
    induction ys with
    | nil => intro h; exact h
    | cons y ys ih =>
      intro h
      rw [List.reverse_cons, isort_snoc] at h
      have := mem_bub lt v _ _ (by simp) h
      rw [List.reverse_cons]
      rcases List.mem_append.1 this with h1 | h1
      · exact List.mem_append.2 (.inl (ih h1))
      · exact List.mem_append.2 (.inr h1)
  have h2 := this xs.reverse
  rw [List.reverse_reverse] at h2
  exact h2 h

/-! ### rows of values that an append has made -/
def i32s (xs : List Nat) : List Value := xs.map fun (v : Nat) => Value.int .i32 (v : Int)
theorem i32s_length (xs : List Nat) : (i32s xs).length = xs.length := by simp [i32s]
theorem i32s_get (xs : List Nat) (j : Nat) (h : j < xs.length) : (i32s xs)[j]? = some (.int .i32 ((xs.getD j 0 : Nat) : Int)) := by
  unfold i32s
  rw [List.getElem?_map, List.getD_eq_getElem?_getD, List.getElem?_eq_getElem h]
  rfl
theorem i32s_set (xs : List Nat) (j v : Nat) : (i32s xs).set j (.int .i32 (v : Int)) = i32s (xs.set j v) := by
  unfold i32s
  rw [List.map_set]
abbrev Own (w : World) (t g n cap : Nat) (xs : List Nat) : Prop := w.ownsRow 0 t 1 (.slice (some ⟨g, 0, none⟩) n cap) n (i32s xs)
theorem Own.len {w : World} {t g n cap : Nat} {xs : List Nat} (h : Own w t g n cap xs) : xs.length = n := by
  have := h.1
  rw [i32s_length] at this
  omega
theorem Own.cell {w : World} {t g n cap : Nat} {xs : List Nat} (h : Own w t g n cap xs) (j : Nat) (hj : j < n) : w.cell? ⟨g, j, none⟩ = some (.int .i32 ((xs.getD j 0 : Nat) : Int)) := by
  rw [h.cellAt j (by omega), i32s_get xs j (by rw [h.len]; exact hj)]
theorem Own.set {w : World} {t g n cap : Nat} {xs : List Nat} (h : Own w t g n cap xs) (j v : Nat) : Own (w.setCell ⟨g, j, none⟩ (.int .i32 (v : Int))) t g n cap (xs.set j v) := by
  have := (h.stored j (.int .i32 (v : Int))).1
  rw [i32s_set] at this
  exact this
theorem Own.lt {w : World} {t g n cap : Nat} {xs : List Nat} (h : Own w t g n cap xs) : g < w.heap.size := (World.ownsRow.lt h g rfl).2
theorem Own.of_block {w w' : World} {t g n cap : Nat} {xs : List Nat} (h : Own w t g n cap xs) (e : w'.heap[g]? = w.heap[g]?) : Own w' t g n cap xs := by
  refine ⟨h.1, ?_⟩
  rcases h.2 with ⟨hv, hn⟩ | ⟨g', cap', cur, hv, hb, hg, rest⟩
  · exact .inl ⟨hv, hn⟩
  · injection hv with h1 h2 h3
    injection h1 with h1
    injection h1 with h1 _ _
    subst h1
    refine .inr ⟨g, cap', cur, ?_, hb, e.trans hg, rest⟩
    rw [h3]
theorem Kp.own {M : Nat → Prop} {u v : World} (h : Kp M u v) {t g n cap : Nat} {xs : List Nat} (ho : Own u t g n cap xs) (hg : ¬ M g) : Own v t g n cap xs := ho.of_block (h.block g ho.lt hg)

/-- what the insertion's test holds to -/
theorem ins_step {w u v : World} {g n cap i j : Nat} {x y : Int} {ys : List Nat} (h : u.cell? ⟨g, i, none⟩ = some (.int .i32 x) ∧ u.cell? ⟨g, j, none⟩ = some (.int .i32 y) ∧ Hid (Kp (fun k => k = g) w u ∧ Own u 48 g n cap ys)) (k : Kp (fun _ => False) u v) :
    v.cell? ⟨g, i, none⟩ = some (.int .i32 x) ∧ v.cell? ⟨g, j, none⟩ = some (.int .i32 y) ∧ Hid (Kp (fun k => k = g) w v ∧ Own v 48 g n cap ys) :=
  ⟨k.cell h.1 id, k.cell h.2.1 id, hide ⟨h.2.2.out.1.trans' k (fun _ _ h => h.elim), k.own h.2.2.out.2 id⟩⟩
theorem ins_kp {w u : World} {g n cap i j : Nat} {x y : Int} {ys : List Nat} (h : u.cell? ⟨g, i, none⟩ = some (.int .i32 x) ∧ u.cell? ⟨g, j, none⟩ = some (.int .i32 y) ∧ Hid (Kp (fun k => k = g) w u ∧ Own u 48 g n cap ys)) : Kp (fun k => k = g) w u := h.2.2.out.1
theorem ins_drew {w u : World} {g n cap i j : Nat} {x y : Int} {ys : List Nat} (h1 : u.cell? ⟨g, i, none⟩ = some (.int .i32 x)) (h2 : u.cell? ⟨g, j, none⟩ = some (.int .i32 y)) (h3 : Kp (fun k => k = g) w u) (h4 : Own u 48 g n cap ys) :
    u.drew.cell? ⟨g, i, none⟩ = some (.int .i32 x) ∧ u.drew.cell? ⟨g, j, none⟩ = some (.int .i32 y) ∧ Hid (Kp (fun k => k = g) w u.drew ∧ Own u.drew 48 g n cap ys) :=
  ⟨h1, h2, hide ⟨h3.drew, h4⟩⟩

set_option maxHeartbeats 2000000 in
theorem insertion_walk (d : D) (b : Bk) (S G g n cap : Nat) (xs : List Nat) (w : World) (hok : d.Ok) (hs : Stat d b (view S w)) (hG0 : w.cell? ⟨G, 0, none⟩ = some (.pointer (some ⟨b.L, 0, none⟩))) (hG1 : w.cell? ⟨G, 1, none⟩ = some (.slice (some ⟨b.pB, 0, none⟩) d.nV b.cP))
    (hSw : S ≤ w.heap.size) (hgS : S ≤ g) (hgG : g ≠ G) (hn : n ≤ 12) (hxs : ∀ v, v ∈ xs → v < d.nV ∧ d.nM ≤ d.node v) (ho : Own w 48 g n cap xs) :
    Calls Yba.prog 64 #[.slice (some ⟨g, 0, none⟩) n cap, .int .i64 0, .int .i64 n, .func (.func 36) #[.pointer (some ⟨G, 0, none⟩)] #[]] w fun e w' =>
      e = .returned (.tuple #[]) ∧ Own w' 48 g n cap (isort (newer d) xs) ∧ Kp (fun k => k = g) w w' := by
  have hlen := ho.len
  have HS := hide hs
  have HO := hide ho
  have HX := hide hxs
  have HG0 := hide hG0
  have HG1 := hide hG1
  clear hs ho hxs hG0 hG1
  go_enter Yba.func64, Yba.ntmps64
  go_wp2
  go_loopg [8] n (fun k v wr => ∃ i : Nat, 1 ≤ i ∧ i + k = n + 1 ∧ v = .int .i64 i ∧ Hid (Own wr 48 g n cap (isort (newer d) (xs.take i) ++ xs.drop i) ∧ Kp (fun k => k = g) w wr))
  case atStart =>
    refine ⟨1, by omega, by omega, rfl, hide ⟨?_, Kp.refl _ _⟩⟩
    have e : isort (newer d) (xs.take 1) ++ xs.drop 1 = xs := by
      cases xs with
      | nil => rfl
      | cons x xs => rfl
    rw [e]; exact HO.out
  case round =>
    obtain ⟨i, hi1, hi2, rfl, HR⟩ := hrel
    by_cases hlt : i < n
    · have hlt' : (i : Int) < (n : Int) := by omega
      obtain ⟨st, hst⟩ : ∃ st, isort (newer d) (xs.take i) ++ xs.drop i = st := ⟨_, rfl⟩
      have HST := hide hst
      have hstm : ∀ v, v ∈ st → v < d.nV ∧ d.nM ≤ d.node v := by
        intro v hv
        rw [← hst] at hv
        rcases List.mem_append.1 hv with h | h
        · exact HX.out v (List.mem_of_mem_take (mem_isort _ _ _ h))
        · exact HX.out v (List.mem_of_mem_drop h)
      have HSM := hide hstm
      rw [hst] at HR
      clear hst hstm
      go_wp2
      go_loopg [9] i (fun k v wq => k ≤ i ∧ v = .int .i64 k ∧ Hid (∃ ys : List Nat, Own wq 48 g n cap ys ∧ bub (newer d) ys k = bub (newer d) st i ∧ (∀ v, v ∈ ys → v < d.nV ∧ d.nM ≤ d.node v) ∧ Kp (fun k => k = g) w wq))
      case atStart => exact ⟨Nat.le_refl _, rfl, hide ⟨st, HR.out.1, rfl, HSM.out, HR.out.2⟩⟩
      case round =>
        rename_i gk0 _ _ _ _
        obtain ⟨hgk, rfl, HQ⟩ := hrel
        obtain ⟨ys, ho, hb, hm, hkp⟩ := HQ.out
        by_cases h0 : gk = 0
        · subst h0
          have HH := hide (And.intro ho (And.intro hb hkp))
          clear ho hb hm hkp HQ
          have hd : decide ((0 : Int) < 0) = false := rfl
          go_wp2_with fail
          go_quiet (fail)
          go_wp2
          go_roundg (n - i)
          case measure => omega
          case rel =>
            refine ⟨i + 1, by omega, by omega, by go_num, hide ⟨?_, HH.out.2.2.drewN _⟩⟩
            have h1 := HH.out.2.1
            have h2 := HH.out.1
            rw [show bub (newer d) ys 0 = ys from rfl] at h1
            rw [h1, ← HST.out, isort_step _ _ _ (by omega)] at h2
            exact h2
        · obtain ⟨j, hj⟩ : ∃ j, gk = j + 1 := ⟨gk - 1, by omega⟩
          have hc1 := ho.cell gk (by omega)
          have hc0 := ho.cell j (by omega)
          have hlen2 := ho.len
          have hmx := hm (ys.getD gk 0) (by rw [List.getD_eq_getElem?_getD, List.getElem?_eq_getElem (by omega)]; exact List.getElem_mem _)
          have hmy := hm (ys.getD j 0) (by rw [List.getD_eq_getElem?_getD, List.getElem?_eq_getElem (by omega)]; exact List.getElem_mem _)
          obtain ⟨x, hx⟩ : ∃ x, ys.getD gk 0 = x := ⟨_, rfl⟩
          obtain ⟨y, hy⟩ : ∃ y, ys.getD j 0 = y := ⟨_, rfl⟩
          rw [hx] at hc1 hmx
          rw [hy] at hc0 hmy
          have CW := hide (fun w' (hk : Kp (fun k => k = g) w w') => compareRuns_walk d b S G x y w' hok (by rw [hk.view hSw (fun k e => by omega)]; exact HS.out) (hk.cell HG0.out (fun e => hgG e.symm)) (hk.cell HG1.out (fun e => hgG e.symm)) hmx.1 hmy.1 hmx.2 hmy.2)
          have HH := hide (And.intro ho (And.intro hb hkp))
          have HX1 := hide hx
          have HY1 := hide hy
          have HM := hide hm
          have HJ := hide hj
          have hd2 : (0 : Int) < (gk : Int) := by omega
          have hd2n : 0 < gk := by omega
          have hd5 : (gk : Int) < (n : Int) := by omega
          have hd6 : IntKind.i64.wrap ((gk : Int) - 1) = (j : Int) := by rw [IntWalk.i64_in _ (by omega)]; omega
          have hd8 : (j : Int) < (n : Int) := by omega
          clear ho hb hm hkp HQ hx hy hmx hmy hj h0
          go_wp2_with fail
          go_region_held3 (fun w' => w'.cell? ⟨g, gk, none⟩ = some (.int .i32 (x : Int)) ∧ w'.cell? ⟨g, j, none⟩ = some (.int .i32 (y : Int)) ∧ Hid (Kp (fun k => k = g) w w' ∧ Own w' 48 g n cap ys)) (first | exact ins_drew hc1 hc0 HH.out.2.2 HH.out.1 | exact ins_step (by assumption) (by assumption))
            (first
              | (go_at_call 36; refine (CW.out _ (ins_kp (i := gk) (j := j) (x := x) (y := y) (ys := ys) (n := n) (cap := cap) (by assumption))).mono ?_; rintro e w' ⟨rfl, hk⟩))
          all_goals go_wp2
          · have hneg : cmpR d x y < 0 := by assumption
            obtain ⟨hh1, hh2, hh3⟩ := ins_step (ins_drew hc1 hc0 HH.out.2.2 HH.out.1) hk
            have hz1 := hh3.out.2.frozenAt gk
            have hz0 := hh3.out.2.frozenAt j
            have hne : gk ≠ j := by have := HJ.out; omega
            have hne2 : j ≠ gk := fun e => hne e.symm
            have hbt : newer d x y = true := by rw [← cmpR_neg]; exact decide_eq_true hneg
            have HB := hide hbt
            clear hbt
            go_region
            all_goals (go_wp2; go_roundg j)
            all_goals first
              | (have := HJ.out; omega)
              | (have hj := HJ.out
                 refine ⟨by omega, by go_num, hide ⟨swp ys j, ?_, ?_, ?_, ?_⟩⟩
                 · have h1 := (hh3.out.2.set gk y).set j x
                   unfold swp
                   rw [← hj, HX1.out, HY1.out]
                   exact h1
                 · have h1 := HH.out.2.1
                   rw [hj] at h1
                   rw [bub_succ] at h1
                   rw [← hj, HX1.out, HY1.out, HB.out, if_pos rfl] at h1
                   exact h1
                 · intro v hv
                   have := HH.out.1.len
                   exact HM.out v (mem_swp ys j (by omega) v hv)
                 · exact (hh3.out.1.drew.setCell (fun _ => rfl) _).setCell (fun _ => rfl) _)
          · have hneg : 0 ≤ cmpR d x y := by assumption
            obtain ⟨hh1, hh2, hh3⟩ := ins_step (ins_drew hc1 hc0 HH.out.2.2 HH.out.1) hk
            have hbt : newer d x y = false := by rw [← cmpR_neg]; exact decide_eq_false (by omega)
            go_roundg (n - i)
            case measure => omega
            case rel =>
              refine ⟨i + 1, by omega, by omega, by go_num, hide ⟨?_, hh3.out.1⟩⟩
              have h1 := HH.out.2.1
              have hj := HJ.out
              rw [hj] at h1
              rw [bub_succ] at h1
              rw [← hj, HX1.out, HY1.out, hbt, if_neg Bool.false_ne_true] at h1
              have h2 := hh3.out.2
              rw [h1] at h2
              rw [← HST.out, isort_step _ _ _ (by omega)] at h2
              exact h2
    · have hn' : n ≤ i := by omega
      have hnlt : ¬ (i : Int) < (n : Int) := by omega
      go_wp2
      go_end0
      have h := HR.out
      rw [List.take_of_length_le (by omega), List.drop_of_length_le (by omega), List.append_nil] at h
      exact ⟨rfl, h.1, h.2⟩
end Go.Proofs.Ybulkctjg
