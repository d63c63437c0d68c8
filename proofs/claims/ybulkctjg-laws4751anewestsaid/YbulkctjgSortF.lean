import Derived.Test.YbulkctjgInsert
namespace Go.Proofs.Ybulkctjg
open Go.RowKit
set_option linter.unusedVariables false

set_option maxRecDepth 100000 in
set_option maxHeartbeats 2000000 in
theorem pdq_walk (d : D) (b : Bk) (S G g n cap : Nat) (lim : Int) (xs : List Nat) (w : World) (hok : d.Ok) (hs : Stat d b (view S w)) (hG0 : w.cell? ⟨G, 0, none⟩ = some (.pointer (some ⟨b.L, 0, none⟩))) (hG1 : w.cell? ⟨G, 1, none⟩ = some (.slice (some ⟨b.pB, 0, none⟩) d.nV b.cP))
    (hSw : S ≤ w.heap.size) (hgS : S ≤ g) (hgG : g ≠ G) (hn : n ≤ 12) (hxs : ∀ v, v ∈ xs → v < d.nV ∧ d.nM ≤ d.node v) (ho : Own w 48 g n cap xs) :
    Calls Yba.prog 53 #[.slice (some ⟨g, 0, none⟩) n cap, .int .i64 0, .int .i64 n, .int .i64 lim, .func (.func 36) #[.pointer (some ⟨G, 0, none⟩)] #[]] w fun e w' =>
      e = .returned (.tuple #[]) ∧ Own w' 48 g n cap (isort (newer d) xs) ∧ Kp (fun k => k = g) w w' := by
  have CW := hide (insertion_walk d b S G g n cap xs w hok hs hG0 hG1 hSw hgS hgG hn hxs ho)
  clear hs hG0 hG1 hxs ho
  have hn' : (n : Int) ≤ 12 := by omega
  go_enter Yba.func53, Yba.ntmps53
  go_wp2
  go_loopg [1, 2] 0 (fun k a c wr => a = .int .i64 0 ∧ c = .int .i64 n ∧ wr = w)
  case atStart => exact ⟨rfl, rfl, rfl⟩
  case round =>
    obtain ⟨rfl, rfl, rfl⟩ := hrel
    go_wp2_with fail
    refine CW.out.mono ?_
    rintro e w1 ⟨rfl, h⟩
    have HH := hide h
    clear h
    go_wp2
    refine bodyPost_ret (v := .tuple #[]) ?_ rfl ⟨rfl, HH.out⟩
    simp [results, Yba.results53]

set_option maxRecDepth 100000 in
set_option maxHeartbeats 2000000 in
theorem sortFunc_walk (d : D) (b : Bk) (S G g n cap : Nat) (xs : List Nat) (w : World) (hok : d.Ok) (hs : Stat d b (view S w)) (hG0 : w.cell? ⟨G, 0, none⟩ = some (.pointer (some ⟨b.L, 0, none⟩))) (hG1 : w.cell? ⟨G, 1, none⟩ = some (.slice (some ⟨b.pB, 0, none⟩) d.nV b.cP))
    (hSw : S ≤ w.heap.size) (hgS : S ≤ g) (hgG : g ≠ G) (hn : n ≤ 12) (hxs : ∀ v, v ∈ xs → v < d.nV ∧ d.nM ≤ d.node v) (ho : Own w 48 g n cap xs) :
    Calls Yba.prog 35 #[.slice (some ⟨g, 0, none⟩) n cap, .func (.func 36) #[.pointer (some ⟨G, 0, none⟩)] #[]] w fun e w' =>
      e = .returned (.tuple #[]) ∧ Own w' 48 g n cap (isort (newer d) xs) ∧ Kp (fun k => k = g) w w' := by
  have CW := hide (fun lim => pdq_walk d b S G g n cap lim xs w hok hs hG0 hG1 hSw hgS hgG hn hxs ho)
  clear hs hG0 hG1 hxs ho
  have hn' : (n : Int) ≤ 12 := by omega
  go_enter Yba.func35, Yba.ntmps35
  go_wp2_with fail
  refine (Yba.bits_Len (n : Int) w (by omega) (by omega)).mono ?_
  rintro e w1 ⟨rfl, rfl⟩
  go_wp2_with fail
  refine (CW.out _).mono ?_
  rintro e w1 ⟨rfl, h⟩
  have HH := hide h
  clear h
  go_wp2
  go_end0
  exact ⟨rfl, HH.out⟩
end Go.Proofs.Ybulkctjg
