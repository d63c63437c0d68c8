import Derived.Test.YbulkctjgRestsOn
namespace Go.Proofs.Ybulkctjg
open Go.RowKit
set_option linter.unusedVariables false

/-! ### the search's own block -/
structure Sq where
  Q : Nat
  cB : Nat
  pB : Nat
  k : Nat
def qC (d : D) (y : Dy) (q : Sq) (sv : Value) : Array Value :=
  #[.pointer (some ⟨y.G, 0, none⟩), .slice (some ⟨q.cB, 0, none⟩) q.k q.k, .slice (some ⟨q.pB, 0, none⟩) q.k q.k, .slice (some ⟨y.tB, 0, none⟩) (d.nM + 2) (d.nM + 2), .slice (some ⟨y.yB, 0, none⟩) (d.nM + 2) (d.nM + 2), sv]
def Qis (d : D) (y : Dy) (q : Sq) (sv : Value) (w : World) : Prop := w.heap[q.Q]? = some (.cells (qC d y q sv) 110 (0, 0))
namespace Qis
variable {d : D} {y : Dy} {q : Sq} {sv : Value} {w : World}
theorem c0 (h : Qis d y q sv w) : w.cell? ⟨q.Q, 0, none⟩ = some (.pointer (some ⟨y.G, 0, none⟩)) := by rw [cell_of_row w q.Q 0 _ _ _ h]; rfl
theorem c1 (h : Qis d y q sv w) : w.cell? ⟨q.Q, 1, none⟩ = some (.slice (some ⟨q.cB, 0, none⟩) q.k q.k) := by rw [cell_of_row w q.Q 1 _ _ _ h]; rfl
theorem c2 (h : Qis d y q sv w) : w.cell? ⟨q.Q, 2, none⟩ = some (.slice (some ⟨q.pB, 0, none⟩) q.k q.k) := by rw [cell_of_row w q.Q 2 _ _ _ h]; rfl
theorem c3 (h : Qis d y q sv w) : w.cell? ⟨q.Q, 3, none⟩ = some (.slice (some ⟨y.tB, 0, none⟩) (d.nM + 2) (d.nM + 2)) := by rw [cell_of_row w q.Q 3 _ _ _ h]; rfl
theorem c4 (h : Qis d y q sv w) : w.cell? ⟨q.Q, 4, none⟩ = some (.slice (some ⟨y.yB, 0, none⟩) (d.nM + 2) (d.nM + 2)) := by rw [cell_of_row w q.Q 4 _ _ _ h]; rfl
theorem c5 (h : Qis d y q sv w) : w.cell? ⟨q.Q, 5, none⟩ = some sv := by rw [cell_of_row w q.Q 5 _ _ _ h]; rfl
theorem fz (h : Qis d y q sv w) (i : Nat) : w.frozen? ⟨q.Q, i, none⟩ = false := frozen_of_row w q.Q i _ _ h
theorem lt (h : Qis d y q sv w) : q.Q < w.heap.size := by
  obtain ⟨hlt, _⟩ := Array.getElem?_eq_some_iff.1 h
  exact hlt
theorem set5 (h : Qis d y q sv w) (v : Value) : Qis d y q v (w.setCell ⟨q.Q, 5, none⟩ v) := heap_setCell_same w q.Q 5 _ 110 v h
end Qis
theorem Kp.qis {M : Nat → Prop} {u v : World} {d : D} {y : Dy} {q : Sq} {sv : Value} (k : Kp M u v) (h : Qis d y q sv u) (hQ : ¬ M q.Q) : Qis d y q sv v := (k.block q.Q h.lt hQ).trans h

/-- what ruledOutBy answers -/
def Ruled (rl : List (Nat × Nat)) (st by_ : Nat → Int) (f : Int) : Prop :=
  (f = -1 ∧ ∀ n x, (n, x) ∈ rl → st n = -1 ∨ st n = (x : Int)) ∨ (0 ≤ f ∧ ∃ n x, (n, x) ∈ rl ∧ st n ≠ -1 ∧ st n ≠ (x : Int) ∧ f = by_ n)

set_option maxRecDepth 100000 in
set_option maxHeartbeats 4000000 in
theorem ruledOutBy_walk (d : D) (y : Dy) (q : Sq) (sv : Value) (cb : Nat) (rl : List (Nat × Nat)) (st by_ : Nat → Int) (w : World) (hq : Qis d y q sv w) (hr : RdP w cb rl) (hl : rl.length ≤ 4) (hn : ∀ n x, (n, x) ∈ rl → n < d.nM + 2)
    (ht : w.rowIs y.tB 48 (d.nM + 2) (fun n => .int .i32 (st n))) (hb : w.rowIs y.yB 3 (d.nM + 2) (fun n => .int .i64 (by_ n))) (hst : ∀ n, -1 ≤ st n) (hby : ∀ n, n < d.nM + 2 → st n ≠ -1 → 0 ≤ by_ n) :
    Calls Yba.prog 38 #[.pointer (some ⟨q.Q, 0, none⟩), .slice (some ⟨cb, 0, none⟩) rl.length rl.length] w fun e w' => ∃ f, e = .returned (.int .i64 f) ∧ Ruled rl st by_ f ∧ Kp (fun _ => False) w w' := by
  obtain ⟨T, hT⟩ : ∃ T, rl.length = T := ⟨_, rfl⟩
  rw [hT]
  have HQ := hide hq
  have HR := hide hr
  have HN := hide hn
  have HT := hide ht
  have HB := hide hb
  have HST := hide hst
  have HBY := hide hby
  have HL := hide hT
  have hT4 : T ≤ 4 := by omega
  clear hq hr hn ht hb hst hby hT hl
  go_enter Yba.func38, Yba.ntmps38
  go_wp2
  go_loopg [5, 11] T (fun k fv i wr => ∃ (p : Nat) (f : Int), p + k = T ∧ i = .int .i64 p ∧ fv = .int .i64 f ∧ Hid (Ruled (rl.take p) st by_ f ∧ Kp (fun _ => False) w wr))
  case atStart => exact ⟨0, -1, by omega, rfl, rfl, hide ⟨.inl ⟨rfl, by simp⟩, Kp.refl _ _⟩⟩
  case round =>
    obtain ⟨p, f, hp, rfl, rfl, HH⟩ := hrel
    by_cases hlt : p < T
    · have hlt' : (p : Int) < (T : Int) := by omega
      obtain ⟨hrule, kp⟩ := HH.out
      have hlen := HL.out
      obtain ⟨n, x, hnx⟩ : ∃ n x, rl[p]'(by omega) = (n, x) := ⟨_, _, rfl⟩
      have hgd : rl.getD p (0, 0) = (n, x) := by rw [List.getD_eq_getElem?_getD, List.getElem?_eq_getElem (by omega), hnx]; rfl
      have hmem : (n, x) ∈ rl := by rw [← hnx]; exact List.getElem_mem _
      have hnN := HN.out n x hmem
      have htake : rl.take (p + 1) = rl.take p ++ [(n, x)] := by rw [List.take_add_one, List.getElem?_eq_getElem (by omega), hnx]; rfl
      obtain ⟨hc0, hc1⟩ := HR.out.kp kp id p (by omega)
      rw [hgd] at hc0 hc1
      have hc0 : wr.cell? ⟨cb, p * 2, none⟩ = some (.int .i32 (n : Int)) := hc0
      have hc1 : wr.cell? ⟨cb, p * 2 + 1, none⟩ = some (.int .i32 (x : Int)) := hc1
      have ka : Kp (fun _ => False) w (wr.alloc (.cells #[.int .i32 (n : Int), .int .i32 (x : Int)] 137)) := kp.alloc _
      have q3 := (ka.qis HQ.out id).c3
      have q4 := (ka.qis HQ.out id).c4
      have ct := (ka.rowIs HT.out id).cell hnN
      have cy := (ka.rowIs HB.out id).cell hnN
      have hnN' : (n : Int) < (d.nM : Int) + 2 := by omega
      have KA := hide ka
      have HM := hide (And.intro hmem (And.intro htake hrule))
      have hstn := HST.out n
      have hbyn := HBY.out n hnN
      clear kp ka hmem htake hrule hnx hgd HH
      by_cases h1 : st n = -1
      · rw [h1] at ct
        have h1' := hide h1
        clear h1 hbyn hstn
        go_wp2_with fail
        go_quiet (fail)
        go_wp2
        go_roundg (T - (p + 1))
        case measure => omega
        case rel =>
          refine ⟨p + 1, f, by omega, by go_num, rfl, hide ⟨?_, KA.out.drewN _⟩⟩
          rw [HM.out.2.1]
          rcases HM.out.2.2 with ⟨e, h⟩ | ⟨h0, n2, x2, h, h3⟩
          · refine .inl ⟨e, ?_⟩
            intro n2 x2 h2
            rcases List.mem_append.1 h2 with h2 | h2
            · exact h n2 x2 h2
            · have e2 : (n2, x2) = (n, x) := by simpa using h2
              injection e2 with e3 e4
              rw [e3]; exact .inl h1'.out
          · exact .inr ⟨h0, n2, x2, List.mem_append.2 (.inl h), h3⟩
      · obtain ⟨s0, hs0⟩ : ∃ s0, st n = s0 := ⟨_, rfl⟩
        rw [hs0] at ct h1 hstn
        have hby0 := hbyn (by rw [hs0]; exact h1)
        obtain ⟨y0, hy0⟩ : ∃ y0, by_ n = y0 := ⟨_, rfl⟩
        rw [hy0] at cy hby0
        have h1' : (s0 == -1) = false := by simp [h1]
        have HS := hide (And.intro hs0 (And.intro hy0 h1))
        clear hbyn hs0 hy0
        by_cases h2 : s0 = (x : Int)
        · have hag : (decide (s0 = (x : Int)) && decide (s0 ≠ -2)) = true := by simp [h2]
          have HA := hide (show ∀ w, Calls Yba.prog 59 #[.int .i32 s0, .int .i32 x] w fun e w' => e = .returned (.bool true) ∧ w' = w from fun w => by have := agree_walk s0 x w; rw [hag] at this; exact this)
          have H2 := hide h2
          clear hag h2 hstn
          go_wp2_with fail
          go_quiet (fail)
          go_wp2_with fail
          refine (HA.out _).mono ?_
          rintro e w2 ⟨rfl, rfl⟩
          go_wp2
          go_roundg (T - (p + 1))
          case measure => omega
          case rel =>
            refine ⟨p + 1, f, by omega, by go_num, rfl, hide ⟨?_, KA.out.drewN _⟩⟩
            rw [HM.out.2.1]
            rcases HM.out.2.2 with ⟨e, h⟩ | ⟨h0, n2, x2, h, h3⟩
            · refine .inl ⟨e, ?_⟩
              intro n2 x2 h2
              rcases List.mem_append.1 h2 with h2 | h2
              · exact h n2 x2 h2
              · have e2 : (n2, x2) = (n, x) := by simpa using h2
                injection e2 with e3 e4
                rw [e3, e4, HS.out.1]; exact .inr H2.out
            · exact .inr ⟨h0, n2, x2, List.mem_append.2 (.inl h), h3⟩
        · have hag : (decide (s0 = (x : Int)) && decide (s0 ≠ -2)) = false := by simp [h2]
          have HA := hide (show ∀ w, Calls Yba.prog 59 #[.int .i32 s0, .int .i32 x] w fun e w' => e = .returned (.bool false) ∧ w' = w from fun w => by have := agree_walk s0 x w; rw [hag] at this; exact this)
          have hbad : ∀ (rs : List (Nat × Nat)), (∃ n2 x2, (n2, x2) ∈ rs ++ [(n, x)] ∧ st n2 ≠ -1 ∧ st n2 ≠ (x2 : Int) ∧ y0 = by_ n2) := by
            intro rs
            refine ⟨n, x, by simp, ?_, ?_, ?_⟩
            · rw [HS.out.1]; exact HS.out.2.2
            · rw [HS.out.1]; exact h2
            · rw [HS.out.2.1]
          have HBAD := hide hbad
          clear hag h2 hstn hbad
          by_cases hf : f < 0
          · have hd : decide (f < 0) = true := decide_eq_true hf
            go_wp2_with fail
            go_quiet (fail)
            go_wp2_with fail
            refine (HA.out _).mono ?_
            rintro e w2 ⟨rfl, rfl⟩
            go_wp2_with fail
            go_quiet (fail)
            go_wp2_with fail
            go_quiet (fail)
            go_wp2
            go_roundg (T - (p + 1))
            case measure => omega
            case rel =>
              refine ⟨p + 1, y0, by omega, by go_num, rfl, hide ⟨?_, KA.out.drewN _⟩⟩
              rw [HM.out.2.1]
              exact .inr ⟨hby0, HBAD.out _⟩
          · have hd : decide (f < 0) = false := decide_eq_false hf
            have hf0 : 0 ≤ f := by omega
            by_cases hyf : y0 < f
            · go_wp2_with fail
              go_quiet (fail)
              go_wp2_with fail
              refine (HA.out _).mono ?_
              rintro e w2 ⟨rfl, rfl⟩
              go_wp2_with fail
              go_quiet (fail)
              go_wp2_with fail
              go_quiet (fail)
              go_wp2
              go_roundg (T - (p + 1))
              case measure => omega
              case rel =>
                refine ⟨p + 1, y0, by omega, by go_num, rfl, hide ⟨?_, KA.out.drewN _⟩⟩
                rw [HM.out.2.1]
                exact .inr ⟨hby0, HBAD.out _⟩
            · go_wp2_with fail
              go_quiet (fail)
              go_wp2_with fail
              refine (HA.out _).mono ?_
              rintro e w2 ⟨rfl, rfl⟩
              go_wp2_with fail
              go_quiet (fail)
              go_wp2
              go_roundg (T - (p + 1))
              case measure => omega
              case rel =>
                refine ⟨p + 1, f, by omega, by go_num, rfl, hide ⟨?_, KA.out.drewN _⟩⟩
                rw [HM.out.2.1]
                rcases HM.out.2.2 with ⟨e, h⟩ | ⟨h0, n2, x2, h, h3⟩
                · omega
                · exact .inr ⟨h0, n2, x2, List.mem_append.2 (.inl h), h3⟩
    · have hnl : ¬ ((p : Int) < (T : Int)) := by omega
      go_wp2
      go_ret
      have h := HH.out
      have hlen := HL.out
      rw [List.take_of_length_le (by omega)] at h
      exact ⟨f, rfl, h.1, h.2⟩
end Go.Proofs.Ybulkctjg
