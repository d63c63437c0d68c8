import Derived.Test.YbulkcthqFmtIs
import Derived.Test.YbulkcthqFmtBounds
namespace Go.Proofs.YbulkcthqFmt
set_option linter.unusedVariables false
open Go.RowKit Go.Extern.Stop Go.Stop Go.Extern

set_option maxHeartbeats 400000 in
theorem model_short (a : Option Addr) (len cap : Nat) (he : Int) (w : World) (hl : len < 5) :
    Calls Ybaf.prog 8 #[.slice a len cap, .int .i64 he] w fun e w' => e = .returned (.tuple #[.int .i64 0, .int .i64 0, .int .i64 1]) ∧ Below w.heap.size w w' := by
  have hl' : (len : Int) < 5 := by omega
  go_enter Ybaf.func8, Ybaf.ntmps8
  go_wp2
  go_ret3
  exact ⟨rfl, Below.refl _ _⟩

set_option maxHeartbeats 400000 in
theorem model_zero (b off len cap : Nat) (he : Int) (w : World) (hl : 4 < len)
    (hA : w.cell? ⟨b, off + 8, none⟩ = some (.int .u32 0)) (hS : w.cell? ⟨b, off + 9, none⟩ = some (.int .u32 0)) :
    Calls Ybaf.prog 8 #[.slice (some ⟨b, off, none⟩) len cap, .int .i64 he] w fun e w' => e = .returned (.tuple #[.int .i64 0, .int .i64 0, .int .i64 1]) ∧ Below w.heap.size w w' := by
  have hl' : (4 : Int) < (len : Int) := by omega
  have hb' : b < w.heap.size := World.block_lt_of_cell? _ _ hA
  go_enter Ybaf.func8, Ybaf.ntmps8
  go_wp2
  go_ret3
  exact ⟨rfl, (Below.refl _ _).alloc (Nat.le_refl _) _⟩

set_option maxHeartbeats 400000 in
theorem model_bad (b off len cap : Nat) (A S he : Int) (w : World) (hl : 4 < len)
    (hA : w.cell? ⟨b, off + 8, none⟩ = some (.int .u32 A)) (hS : w.cell? ⟨b, off + 9, none⟩ = some (.int .u32 S)) (hz : ¬ (A = 0 ∧ S = 0)) (a0 : 0 ≤ A) (a1 : A ≤ 4294967295) (s0 : 0 ≤ S) (s1 : S ≤ 4294967295) (hlt : A < he) :
    Calls Ybaf.prog 8 #[.slice (some ⟨b, off, none⟩) len cap, .int .i64 he] w fun e w' => e = .returned (.tuple #[.int .i64 0, .int .i64 0, .int .i64 2]) ∧ Below w.heap.size w w' := by
  have hl' : (4 : Int) < (len : Int) := by omega
  have hb' : b < w.heap.size := World.block_lt_of_cell? _ _ hA
  by_cases hA0 : A = 0
  · have hS0 : (S == 0) = false := by simp; omega
    subst hA0
    clear hz
    go_enter Ybaf.func8, Ybaf.ntmps8
    go_wp2
    go_ret3
    exact ⟨rfl, (Below.refl _ _).alloc (Nat.le_refl _) _⟩
  · have hA0 : (A == 0) = false := by simpa using hA0
    clear hz
    go_enter Ybaf.func8, Ybaf.ntmps8
    go_wp2
    go_ret3
    exact ⟨rfl, (Below.refl _ _).alloc (Nat.le_refl _) _⟩

set_option maxHeartbeats 400000 in
theorem model_ok (b off len cap : Nat) (A S he : Int) (w : World) (hl : 4 < len)
    (hA : w.cell? ⟨b, off + 8, none⟩ = some (.int .u32 A)) (hS : w.cell? ⟨b, off + 9, none⟩ = some (.int .u32 S)) (hz : ¬ (A = 0 ∧ S = 0)) (a0 : 0 ≤ A) (a1 : A ≤ 4294967295) (s0 : 0 ≤ S) (s1 : S ≤ 4294967295) (hlt : ¬ A < he) :
    Calls Ybaf.prog 8 #[.slice (some ⟨b, off, none⟩) len cap, .int .i64 he] w fun e w' => e = .returned (.tuple #[.int .i64 A, .int .i64 (A + S), .int .i64 0]) ∧ Below w.heap.size w w' := by
  have hl' : (4 : Int) < (len : Int) := by omega
  have hb' : b < w.heap.size := World.block_lt_of_cell? _ _ hA
  by_cases hA0 : A = 0
  · have hS0 : (S == 0) = false := by simp; omega
    subst hA0
    clear hz
    go_enter Ybaf.func8, Ybaf.ntmps8
    go_wp2
    go_quiet (fail)
    go_wp2
    go_ret3
    exact ⟨by simp, below_drewN ((Below.refl _ _).alloc (Nat.le_refl _) _) _⟩
  · have hA0 : (A == 0) = false := by simpa using hA0
    clear hz
    go_enter Ybaf.func8, Ybaf.ntmps8
    go_wp2
    go_quiet (fail)
    go_wp2
    go_ret3
    exact ⟨rfl, below_drewN ((Below.refl _ _).alloc (Nat.le_refl _) _) _⟩

theorem kindok_nil (w : World) : Calls Ybaf.prog 9 #[.nilIface, .int .i64 0] w fun e w' => e = .returned (.bool true) ∧ w' = w := by
  go_enter Ybaf.func9, Ybaf.ntmps9
  go_wp2
  go_ret
  exact ⟨rfl, rfl⟩

set_option maxHeartbeats 400000 in
theorem kindok_U (aU aM : Addr) (cU cM : Array Value) (tU tM : TypeId) (w : World) (hU : w.cell? ⟨3, 0, none⟩ = some (.iface 102 (.pointer (some aU)))) (hM : w.cell? ⟨4, 0, none⟩ = some (.iface 102 (.pointer (some aM))))
    (hne : aU ≠ aM) (hbU : w.heap[aU.block]? = some (.cells cU tU (0, 0))) (hbM : w.heap[aM.block]? = some (.cells cM tM (0, 0))) :
    Calls Ybaf.prog 9 #[.iface 102 (.pointer (some aU)), .int .i64 1] w fun e w' => e = .returned (.bool true) ∧ w' = w := by
  go_enter Ybaf.func9, Ybaf.ntmps9
  go_wp2_with fail
  refine (is_same aU _).mono ?_
  rintro e w' ⟨rfl, rfl⟩
  go_wp2_with fail
  refine (is_other aU aM cU cM tU tM _ hne hbU hbM).mono ?_
  rintro e w' ⟨rfl, rfl⟩
  go_wp2_with fail
  go_ret
  exact ⟨rfl, rfl⟩

set_option maxHeartbeats 400000 in
theorem kindok_M (pb : Nat) (aU aM : Addr) (cU cM : Array Value) (tU tM : TypeId) (w : World) (hU : w.cell? ⟨3, 0, none⟩ = some (.iface 102 (.pointer (some aU)))) (hM : w.cell? ⟨4, 0, none⟩ = some (.iface 102 (.pointer (some aM))))
    (hp : w.cell? ⟨pb, 0 + 1, none⟩ = some (.iface 102 (.pointer (some aM))))
    (hne : aU ≠ aM) (hbU : w.heap[aU.block]? = some (.cells cU tU (0, 0))) (hbM : w.heap[aM.block]? = some (.cells cM tM (0, 0))) :
    Calls Ybaf.prog 9 #[.iface 86 (.pointer (some ⟨pb, 0, none⟩)), .int .i64 2] w fun e w' => e = .returned (.bool true) ∧ w' = w := by
  go_enter Ybaf.func9, Ybaf.ntmps9
  go_wp2_with fail
  refine (is_wrap_same pb 0 aM _ hp).mono ?_
  rintro e w' ⟨rfl, rfl⟩
  go_wp2_with fail
  refine (is_wrap_other pb 0 aU aM cM cU tM tU _ hp (Ne.symm hne) hbM hbU).mono ?_
  rintro e w' ⟨rfl, rfl⟩
  go_wp2_with fail
  go_ret
  exact ⟨rfl, rfl⟩
end Go.Proofs.YbulkcthqFmt
