import Derived.Test.YbulkctjgSortF
namespace Go.Proofs.Ybulkctjg
open Go.RowKit
set_option linter.unusedVariables false

theorem swp_perm (ys : List Nat) (j : Nat) (h : j + 1 < ys.length) : (swp ys j).Perm ys := by
  have e1 : ys.getD j 0 = ys[j] := by rw [List.getD_eq_getElem?_getD, List.getElem?_eq_getElem (by omega)]; rfl
  have e2 : ys.getD (j + 1) 0 = ys[j + 1] := by rw [List.getD_eq_getElem?_getD, List.getElem?_eq_getElem h]; rfl
  unfold swp
  rw [e1, e2]
  exact List.set_set_perm h (by omega)

theorem less_walk (x y : Int) (w : World) : Calls Yba.prog 92 #[.int .i32 x, .int .i32 y] w fun e w' => e = .returned (.bool (decide (x < y))) ∧ w' = w := by
  go_enter Yba.func92, Yba.ntmps92
  go_wp2
  all_goals (go_ret; simp [*])

set_option maxRecDepth 100000 in
set_option maxHeartbeats 2000000 in
theorem insertionO_walk (g n cap : Nat) (xs : List Nat) (w : World) (hn : n ≤ 12) (ho : Own w 96 g n cap xs) :
    Calls Yba.prog 86 #[.slice (some ⟨g, 0, none⟩) n cap, .int .i64 0, .int .i64 n] w fun e w' =>
      e = .returned (.tuple #[]) ∧ (∃ ys : List Nat, ys.Perm xs ∧ Own w' 96 g n cap ys) ∧ Kp (fun k => k = g) w w' := by
  have hlen := ho.len
  have HO := hide ho
  clear ho
  go_enter Yba.func86, Yba.ntmps86
  go_wp2
  go_loopg [6] n (fun k v wr => ∃ i : Nat, 1 ≤ i ∧ i + k = n + 1 ∧ v = .int .i64 i ∧ Hid ((∃ ys : List Nat, ys.Perm xs ∧ Own wr 96 g n cap ys) ∧ Kp (fun k => k = g) w wr))
  case atStart => exact ⟨1, by omega, by omega, rfl, hide ⟨⟨xs, List.Perm.refl _, HO.out⟩, Kp.refl _ _⟩⟩
  case round =>
    obtain ⟨i, hi1, hi2, rfl, HR⟩ := hrel
    by_cases hlt : i < n
    · have hlt' : (i : Int) < (n : Int) := by omega
      go_wp2
      go_loopg [7] i (fun k v wq => k ≤ i ∧ v = .int .i64 k ∧ Hid ((∃ ys : List Nat, ys.Perm xs ∧ Own wq 96 g n cap ys) ∧ Kp (fun k => k = g) w wq))
      case atStart => exact ⟨Nat.le_refl _, rfl, HR⟩
      case round =>
        obtain ⟨hgk, rfl, HQ⟩ := hrel
        by_cases h0 : gk = 0
        · subst h0
          have hd : decide ((0 : Int) < 0) = false := rfl
          go_wp2_with fail
          go_quiet (fail)
          go_wp2
          go_roundg (n - i)
          case measure => omega
          case rel => exact ⟨i + 1, by omega, by omega, by go_num, hide ⟨HQ.out.1, HQ.out.2.drewN _⟩⟩
        · obtain ⟨⟨ys, hp, ho⟩, hkp⟩ := HQ.out
          obtain ⟨j, hj⟩ : ∃ j, gk = j + 1 := ⟨gk - 1, by omega⟩
          have hc1 := ho.cell gk (by omega)
          have hc0 := ho.cell j (by omega)
          have hlen2 := ho.len
          obtain ⟨x, hx⟩ : ∃ x, ys.getD gk 0 = x := ⟨_, rfl⟩
          obtain ⟨y, hy⟩ : ∃ y, ys.getD j 0 = y := ⟨_, rfl⟩
          rw [hx] at hc1
          rw [hy] at hc0
          have HH := hide (And.intro ho (And.intro hp hkp))
          have HX1 := hide hx
          have HY1 := hide hy
          have HJ := hide hj
          have hd2 : (0 : Int) < (gk : Int) := by omega
          have hd2n : 0 < gk := by omega
          have hd5 : (gk : Int) < (n : Int) := by omega
          have hd6 : IntKind.i64.wrap ((gk : Int) - 1) = (j : Int) := by rw [IntWalk.i64_in _ (by omega)]; omega
          have hd8 : (j : Int) < (n : Int) := by omega
          have hz1 := ho.frozenAt gk
          have hz0 := ho.frozenAt j
          have hne : gk ≠ j := by omega
          have hne2 : j ≠ gk := fun e => hne e.symm
          clear ho hp hkp HQ hx hy hj h0
          go_wp2_with fail
          go_quiet (first | (go_at_call 92; refine Calls.quiet_of_same (less_walk _ _ _)))
          go_wp2
          · go_region
            all_goals (go_wp2; go_roundg j)
            all_goals first
              | (have := HJ.out; omega)
              | (have hj := HJ.out
                 refine ⟨by omega, by go_num, hide ⟨⟨swp ys j, ?_, ?_⟩, ?_⟩⟩
                 · have := HH.out.1.len
                   exact (swp_perm ys j (by omega)).trans HH.out.2.1
                 · have h1 := (HH.out.1.set gk y).set j x
                   unfold swp
                   rw [← hj, HX1.out, HY1.out]
                   exact h1
                 · exact ((HH.out.2.2.drewN _).drew.setCell (fun _ => rfl) _).setCell (fun _ => rfl) _)
          · go_roundg (n - i)
            case measure => omega
            case rel => exact ⟨i + 1, by omega, by omega, by go_num, hide ⟨⟨ys, HH.out.2.1, HH.out.1⟩, HH.out.2.2.drewN _⟩⟩
    · have hnlt : ¬ (i : Int) < (n : Int) := by omega
      go_wp2
      go_end0
      exact ⟨rfl, HR.out⟩

set_option maxRecDepth 100000 in
set_option maxHeartbeats 2000000 in
theorem pdqO_walk (g n cap : Nat) (lim : Int) (xs : List Nat) (w : World) (hn : n ≤ 12) (ho : Own w 96 g n cap xs) :
    Calls Yba.prog 75 #[.slice (some ⟨g, 0, none⟩) n cap, .int .i64 0, .int .i64 n, .int .i64 lim] w fun e w' =>
      e = .returned (.tuple #[]) ∧ (∃ ys : List Nat, ys.Perm xs ∧ Own w' 96 g n cap ys) ∧ Kp (fun k => k = g) w w' := by
  have CW := hide (insertionO_walk g n cap xs w hn ho)
  clear ho
  have hn' : (n : Int) ≤ 12 := by omega
  go_enter Yba.func75, Yba.ntmps75
  go_wp2
  go_loopg [1, 2] 0 (fun k a c wr => a = .int .i64 0 ∧ c = .int .i64 n ∧ wr = w)
  case atStart => exact ⟨rfl, rfl, rfl⟩
  case round =>
    obtain ⟨rfl, rfl, rfl⟩ := hrel
    go_wp2_with fail
    refine CW.out.mono ?_
    rintro e w1 ⟨rfl, h⟩
    have HH := hide h
    clear h
    go_wp2
    refine bodyPost_ret (v := .tuple #[]) ?_ rfl ⟨rfl, HH.out⟩
    simp [results, Yba.results75]

set_option maxRecDepth 100000 in
set_option maxHeartbeats 2000000 in
theorem sort_walk (g n cap : Nat) (xs : List Nat) (w : World) (hn : n ≤ 12) (ho : Own w 96 g n cap xs) :
    Calls Yba.prog 58 #[.slice (some ⟨g, 0, none⟩) n cap] w fun e w' =>
      e = .returned (.tuple #[]) ∧ (∃ ys : List Nat, ys.Perm xs ∧ Own w' 96 g n cap ys) ∧ Kp (fun k => k = g) w w' := by
  have CW := hide (fun lim => pdqO_walk g n cap lim xs w hn ho)
  clear ho
  have hn' : (n : Int) ≤ 12 := by omega
  go_enter Yba.func58, Yba.ntmps58
  go_wp2_with fail
  refine (Yba.bits_Len (n : Int) w (by omega) (by omega)).mono ?_
  rintro e w1 ⟨rfl, rfl⟩
  go_wp2_with fail
  refine (CW.out _).mono ?_
  rintro e w1 ⟨rfl, h⟩
  have HH := hide h
  clear h
  go_wp2
  go_end0
  exact ⟨rfl, HH.out⟩
end Go.Proofs.Ybulkctjg
