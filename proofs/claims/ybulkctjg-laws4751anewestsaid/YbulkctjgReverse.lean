import Derived.Test.YbulkctjgSortO
namespace Go.Proofs.Ybulkctjg
open Go.RowKit
set_option linter.unusedVariables false

theorem rev_small (xs : List Nat) (n : Nat) (h : xs.length = n) (h2 : n = 2 ∨ n = 3) : (xs.set 0 (xs.getD (n - 1) 0)).set (n - 1) (xs.getD 0 0) = xs.reverse := by
  match xs, h with
  | [a, b], h => obtain rfl : n = 2 := by simpa using h.symm
                 rfl
  | [a, b, c], h => obtain rfl : n = 3 := by simpa using h.symm
                    rfl
  | [], h => simp at h; omega
  | [a], h => simp at h; omega
  | a :: b :: c :: e :: r, h => simp at h; omega

set_option maxRecDepth 100000 in
set_option maxHeartbeats 2000000 in
theorem reverse_walk (g n cap : Nat) (xs : List Nat) (w : World) (hn : n ≤ 3) (ho : Own w 48 g n cap xs) :
    Calls Yba.prog 34 #[.slice (some ⟨g, 0, none⟩) n cap] w fun e w' => e = .returned (.tuple #[]) ∧ Own w' 48 g n cap xs.reverse ∧ Kp (fun k => k = g) w w' := by
  have hlen := ho.len
  have HO := hide ho
  clear ho
  have h4 : n = 0 ∨ n = 1 ∨ n = 2 ∨ n = 3 := by omega
  rcases h4 with rfl | rfl | rfl | rfl
  · go_enter Yba.func34, Yba.ntmps34
    go_wp2
    go_loopg [2, 3] 0 (fun k i j wr => i = .int .i64 0 ∧ j = .int .i64 (-1) ∧ wr = w)
    case atStart => exact ⟨rfl, rfl, rfl⟩
    case round =>
      obtain ⟨rfl, rfl, rfl⟩ := hrel
      go_wp2
      go_end0
      refine ⟨rfl, ?_, Kp.refl _ _⟩
      have : xs.reverse = xs := by
        match xs, hlen with
        | [], _ => rfl
        | [a], _ => rfl
        | a :: b :: r, hl => simp at hl
      rw [this]; exact HO.out
  · go_enter Yba.func34, Yba.ntmps34
    go_wp2
    go_loopg [2, 3] 0 (fun k i j wr => i = .int .i64 0 ∧ j = .int .i64 (0) ∧ wr = w)
    case atStart => exact ⟨rfl, rfl, rfl⟩
    case round =>
      obtain ⟨rfl, rfl, rfl⟩ := hrel
      go_wp2
      go_end0
      refine ⟨rfl, ?_, Kp.refl _ _⟩
      have : xs.reverse = xs := by
        match xs, hlen with
        | [], _ => rfl
        | [a], _ => rfl
        | a :: b :: r, hl => simp at hl
      rw [this]; exact HO.out
  · have hc0 := HO.out.cell 0 (by omega)
    have hc1 := HO.out.cell 1 (by omega)
    have hz0 := HO.out.frozenAt 0
    have hz1 := HO.out.frozenAt 1
    obtain ⟨x, hx⟩ : ∃ x, xs.getD 0 0 = x := ⟨_, rfl⟩
    obtain ⟨y, hy⟩ : ∃ y, xs.getD 1 0 = y := ⟨_, rfl⟩
    rw [hx] at hc0
    rw [hy] at hc1
    have HX := hide hx
    have HY := hide hy
    clear hx hy
    go_enter Yba.func34, Yba.ntmps34
    go_wp2
    go_loopg [2, 3] 1 (fun k i j wr => (k = 1 ∧ i = .int .i64 0 ∧ j = .int .i64 1 ∧ wr = w) ∨ (k = 0 ∧ i = .int .i64 1 ∧ j = .int .i64 0 ∧ Hid (Own wr 48 g 2 cap xs.reverse ∧ Kp (fun k => k = g) w wr)))
    case atStart => exact .inl ⟨rfl, rfl, rfl, rfl⟩
    case round =>
      rcases hrel with ⟨rfl, rfl, rfl, rfl⟩ | ⟨rfl, rfl, rfl, HH⟩
      · go_wp2
        go_region
        all_goals (go_wp2; go_roundg 0)
        all_goals first
          | omega
          | (refine .inr ⟨rfl, rfl, rfl, hide ⟨?_, ?_⟩⟩
             · have h1 := (HO.out.set 0 y).set 1 x
               have e := rev_small xs 2 hlen (by omega)
               rw [show 2 - 1 = 1 from rfl, HX.out, HY.out] at e
               rw [e] at h1
               exact h1
             · exact (((Kp.refl (fun k => k = g) _).setCell (fun _ => rfl) _).setCell (fun _ => rfl) _).drew)
      · go_wp2
        go_end0
        exact ⟨rfl, HH.out⟩
  · have hc0 := HO.out.cell 0 (by omega)
    have hc1 := HO.out.cell 2 (by omega)
    have hz0 := HO.out.frozenAt 0
    have hz1 := HO.out.frozenAt 2
    obtain ⟨x, hx⟩ : ∃ x, xs.getD 0 0 = x := ⟨_, rfl⟩
    obtain ⟨y, hy⟩ : ∃ y, xs.getD 2 0 = y := ⟨_, rfl⟩
    rw [hx] at hc0
    rw [hy] at hc1
    have HX := hide hx
    have HY := hide hy
    clear hx hy
    go_enter Yba.func34, Yba.ntmps34
    go_wp2
    go_loopg [2, 3] 1 (fun k i j wr => (k = 1 ∧ i = .int .i64 0 ∧ j = .int .i64 2 ∧ wr = w) ∨ (k = 0 ∧ i = .int .i64 1 ∧ j = .int .i64 1 ∧ Hid (Own wr 48 g 3 cap xs.reverse ∧ Kp (fun k => k = g) w wr)))
    case atStart => exact .inl ⟨rfl, rfl, rfl, rfl⟩
    case round =>
      rcases hrel with ⟨rfl, rfl, rfl, rfl⟩ | ⟨rfl, rfl, rfl, HH⟩
      · go_wp2
        go_region
        all_goals (go_wp2; go_roundg 0)
        all_goals first
          | omega
          | (refine .inr ⟨rfl, rfl, rfl, hide ⟨?_, ?_⟩⟩
             · have h1 := (HO.out.set 0 y).set 2 x
               have e := rev_small xs 3 hlen (by omega)
               rw [show 3 - 1 = 2 from rfl, HX.out, HY.out] at e
               rw [e] at h1
               exact h1
             · exact (((Kp.refl (fun k => k = g) _).setCell (fun _ => rfl) _).setCell (fun _ => rfl) _).drew)
      · go_wp2
        go_end0
        exact ⟨rfl, HH.out⟩
end Go.Proofs.Ybulkctjg
