import Derived.Test.YbulkcthqFmtFacts
import Derived.Deep.RegionWith
import Derived.WalkSpells
import Derived.Deep.QuietTactic
import Derived.BigQuiet
import Derived.Below
import Derived.WalkSmall
import Derived.WalkLawsBesides
import Derived.Laws.StructEq
namespace Go.Proofs.YbulkcthqFmt
open Go.RowKit Go.Extern.Stop Go.Stop Go.Extern

attribute [local go_sem] Ybaf.call24 Ybaf.guard Ybaf.fmtA Ybaf.fmtA0 Ybaf.fmtA' Ybaf.op2_100w Ybaf.ptr102 Ybaf.elem102 Ybaf.isError102' Ybaf.ptr86 Ybaf.elem86 Ybaf.isError86'

set_option maxHeartbeats 400000 in
theorem errorfA (F : Interp) (a : Addr) (s : ByteArray) (x y : Int) (b : Nat) (w : World) (hF : F.answers w.tape)
    (hc0 : w.cell? ⟨b, 0, none⟩ = some (.iface 102 (.pointer (some a)))) (hc1 : w.cell? ⟨b, 1, none⟩ = some (.iface 2 (.int .i64 x))) (hc2 : w.cell? ⟨b, 2, none⟩ = some (.iface 2 (.int .i64 y)))
    (hs : w.cell? a = some (.string s)) :
    Calls Ybaf.prog 17 #[.string ⟨#[37, 119, 58, 32, 116, 104, 101, 32, 99, 101, 114, 116, 105, 102, 105, 99, 97, 116, 101, 32, 116, 97, 98, 108, 101, 32, 115, 116, 97, 114, 116, 115, 32, 97, 116, 32, 98, 121, 116, 101, 32, 37, 100, 44, 32, 105, 110, 115, 105, 100, 101, 32, 116, 104, 101, 32, 104, 101, 97, 100, 101, 114, 115, 44, 32, 119, 104, 105, 99, 104, 32, 101, 110, 100, 32, 97, 116, 32, 98, 121, 116, 101, 32, 37, 100]⟩, .slice (some ⟨b, 0, none⟩) 3 3] w
      fun e w' => ∃ txt : ByteArray, e = .returned (.iface 86 (.pointer (some ⟨w.heap.size, 0, none⟩))) ∧ w' = (w.alloc (.cells #[.string txt, .iface 102 (.pointer (some a))] 148)).drew := by
  have hF' := hF
  unfold Interp.answers at hF'
  have hop := Ybaf.opPlain102_119w "fmt.errorf" a s w hs
  go_enter Ybaf.func17, Ybaf.ntmps17
  go_wp2
  go_ret
  exact ⟨_, rfl, rfl⟩

theorem Ybaf.eq27 (A S B T : Int) (w : World) : (Op.equalIn 10000 27 (.agg #[.int .u32 A, .int .u32 S]) (.agg #[.int .u32 B, .int .u32 T])).run Ybaf.prog w = .ok ((A == B) && (S == T)) w := by
  rw [run_equalIn_struct w 9999 27 _ _ (by kernel_rfl) (by kernel_rfl)]
  go_simp
  by_cases h1 : A = B <;> by_cases h2 : S = T <;> simp [h1, h2]
theorem neq27_true (A S B T : Int) (w : World) (h : ¬ (A = B ∧ S = T)) : (binOp .neq 27 (.agg #[.int .u32 A, .int .u32 S]) (.agg #[.int .u32 B, .int .u32 T])).run Ybaf.prog w = .ok (.bool true) w := by
  rw [run_neq_struct, Ybaf.eq27]
  simp only [Result.andThen]
  congr 2
  by_cases h1 : A = B <;> by_cases h2 : S = T <;> simp_all
theorem neq27_false (A S : Int) (w : World) : (binOp .neq 27 (.agg #[.int .u32 A, .int .u32 S]) (.agg #[.int .u32 A, .int .u32 S])).run Ybaf.prog w = .ok (.bool false) w := by
  rw [run_neq_struct, Ybaf.eq27]
  simp [Result.andThen]

set_option maxHeartbeats 400000 in
theorem cert_short (bi : Nat) (a : Option Addr) (len cap : Nat) (w : World) (hd : w.cell? ⟨bi, 6, none⟩ = some (.slice a len cap)) (hl : len ≤ 4) :
    Calls Ybaf.prog 16 #[.pointer (some ⟨bi, 0, none⟩)] w fun e w' => e = .returned (.tuple #[.agg #[.int .u32 0, .int .u32 0], .bool false]) ∧ Below w.heap.size w w' := by
  have hbi := World.block_lt_of_cell? _ _ hd
  have hbi' : bi < w.heap.size := hbi
  go_enter Ybaf.func16, Ybaf.ntmps16
  go_wp2
  exact bodyPost_ret (v := .tuple #[.agg #[.int .u32 0, .int .u32 0], .bool false]) (by simp [results, Ybaf.results16, go_sem]) rfl ⟨rfl, (Below.refl _ _).alloc (Nat.le_refl _) _⟩
set_option maxHeartbeats 400000 in
theorem cert_some (bi b off : Nat) (len cap : Nat) (A S : Int) (w : World) (hd : w.cell? ⟨bi, 6, none⟩ = some (.slice (some ⟨b, off, none⟩) len cap)) (hl : 4 < len)
    (hA : w.cell? ⟨b, off + 8, none⟩ = some (.int .u32 A)) (hS : w.cell? ⟨b, off + 9, none⟩ = some (.int .u32 S)) (hz : ¬ (A = 0 ∧ S = 0)) :
    Calls Ybaf.prog 16 #[.pointer (some ⟨bi, 0, none⟩)] w fun e w' => e = .returned (.tuple #[.agg #[.int .u32 A, .int .u32 S], .bool true]) ∧ Below w.heap.size w w' := by
  have hbi' : bi < w.heap.size := World.block_lt_of_cell? _ _ hd
  have hb' : b < w.heap.size := World.block_lt_of_cell? _ _ hA
  have hne := fun wx => neq27_true A S 0 0 wx hz
  have hl' : (4 : Int) < (len : Int) := by omega
  go_enter Ybaf.func16, Ybaf.ntmps16
  go_wp2
  go_region
  all_goals (try go_wp2)
  all_goals exact bodyPost_ret (v := .tuple #[.agg #[.int .u32 A, .int .u32 S], .bool true]) (by simp [results, Ybaf.results16, go_sem]) rfl ⟨rfl, by repeat (first | exact Below.refl _ _ | apply Below.drew | (refine Below.setCell ?_ (by simp) _) | (refine Below.alloc ?_ (by simp) _))⟩
set_option maxHeartbeats 400000 in
theorem cert_zero (bi b off : Nat) (len cap : Nat) (w : World) (hd : w.cell? ⟨bi, 6, none⟩ = some (.slice (some ⟨b, off, none⟩) len cap)) (hl : 4 < len)
    (hA : w.cell? ⟨b, off + 8, none⟩ = some (.int .u32 0)) (hS : w.cell? ⟨b, off + 9, none⟩ = some (.int .u32 0)) :
    Calls Ybaf.prog 16 #[.pointer (some ⟨bi, 0, none⟩)] w fun e w' => e = .returned (.tuple #[.agg #[.int .u32 0, .int .u32 0], .bool false]) ∧ Below w.heap.size w w' := by
  have hbi' : bi < w.heap.size := World.block_lt_of_cell? _ _ hd
  have hb' : b < w.heap.size := World.block_lt_of_cell? _ _ hA
  have hne := fun wx => neq27_false 0 0 wx
  have hl' : (4 : Int) < (len : Int) := by omega
  go_enter Ybaf.func16, Ybaf.ntmps16
  go_wp2
  go_region
  all_goals (try go_wp2)
  all_goals exact bodyPost_ret (v := .tuple #[.agg #[.int .u32 0, .int .u32 0], .bool false]) (by simp [results, Ybaf.results16, go_sem]) rfl ⟨rfl, by repeat (first | exact Below.refl _ _ | apply Below.drew | (refine Below.setCell ?_ (by simp) _) | (refine Below.alloc ?_ (by simp) _))⟩

theorem bcell {W w1 : World} (hb : Below W.heap.size W w1) : (∀ b o, b < W.heap.size → w1.cell? ⟨b, o, none⟩ = W.cell? ⟨b, o, none⟩) ∧ (∀ b o, b < W.heap.size → w1.frozen? ⟨b, o, none⟩ = W.frozen? ⟨b, o, none⟩) :=
  ⟨fun b o h => hb.cell (p := ⟨b, o, none⟩) h, fun b o h => hb.frozen (p := ⟨b, o, none⟩) h⟩

theorem hide {p : Prop} (h : p) : Hid p := h

set_option maxHeartbeats 800000 in
theorem bounds_none (bi : Nat) (aU : Addr) (w : World) (hU : w.cell? ⟨3, 0, none⟩ = some (.iface 102 (.pointer (some aU))))
    (hcert : Calls Ybaf.prog 16 #[.pointer (some ⟨bi, 0, none⟩)] w fun e w' => e = .returned (.tuple #[.agg #[.int .u32 0, .int .u32 0], .bool false]) ∧ Below w.heap.size w w') :
    Calls Ybaf.prog 7 #[.pointer (some ⟨bi, 0, none⟩)] w fun e w' => e = .returned (.tuple #[.int .i64 0, .int .i64 0, .iface 102 (.pointer (some aU))]) ∧ Below w.heap.size w w' := by
  have h3 : 3 < w.heap.size := World.block_lt_of_cell? _ _ hU
  have HC := hide hcert
  clear hcert
  go_enter Ybaf.func7, Ybaf.ntmps7
  go_wp2_with fail
  refine HC.out.mono ?_
  rintro e w1 ⟨rfl, hb⟩
  have k3 := cell_later hb hU
  have hz := hb.size
  have h3' : 3 < w1.heap.size := by omega
  go_wp2
  go_quiet (fail)
  go_wp2
  go_ret3
  exact ⟨rfl, below_drewN (hb.alloc hz _) _⟩

set_option maxHeartbeats 800000 in
theorem bounds_ok (bi : Nat) (A S he : Int) (w : World) (hH : w.cell? ⟨bi, 10, none⟩ = some (.int .i64 he)) (a0 : 0 ≤ A) (a1 : A ≤ 4294967295) (s0 : 0 ≤ S) (s1 : S ≤ 4294967295) (hlt : ¬ A < he)
    (hcert : Calls Ybaf.prog 16 #[.pointer (some ⟨bi, 0, none⟩)] w fun e w' => e = .returned (.tuple #[.agg #[.int .u32 A, .int .u32 S], .bool true]) ∧ Below w.heap.size w w') :
    Calls Ybaf.prog 7 #[.pointer (some ⟨bi, 0, none⟩)] w fun e w' => e = .returned (.tuple #[.int .i64 A, .int .i64 (A + S), .nilIface]) ∧ Below w.heap.size w w' := by
  have hbi : bi < w.heap.size := World.block_lt_of_cell? _ _ hH
  have HC := hide hcert
  clear hcert
  go_enter Ybaf.func7, Ybaf.ntmps7
  go_wp2_with fail
  refine HC.out.mono ?_
  rintro e w1 ⟨rfl, hb⟩
  have k3 := cell_later hb hH
  have hz := hb.size
  have hbi' : bi < w1.heap.size := by omega
  go_wp2
  go_quiet (fail)
  go_wp2
  go_ret3
  exact ⟨rfl, below_drewN (hb.alloc hz _) _⟩

set_option maxHeartbeats 800000 in
theorem bounds_bad (F : Interp) (bi : Nat) (A S he : Int) (aM : Addr) (sM : ByteArray) (w : World) (hF : F.answers w.tape) (hM : w.cell? ⟨4, 0, none⟩ = some (.iface 102 (.pointer (some aM)))) (hsM : w.cell? aM = some (.string sM))
    (hH : w.cell? ⟨bi, 10, none⟩ = some (.int .i64 he)) (a0 : 0 ≤ A) (a1 : A ≤ 4294967295) (s0 : 0 ≤ S) (s1 : S ≤ 4294967295) (hlt : A < he)
    (hcert : Calls Ybaf.prog 16 #[.pointer (some ⟨bi, 0, none⟩)] w fun e w' => e = .returned (.tuple #[.agg #[.int .u32 A, .int .u32 S], .bool true]) ∧ Below w.heap.size w w') :
    Calls Ybaf.prog 7 #[.pointer (some ⟨bi, 0, none⟩)] w fun e w' => ∃ pb, e = .returned (.tuple #[.int .i64 0, .int .i64 0, .iface 86 (.pointer (some ⟨pb, 0, none⟩))]) ∧ w'.cell? ⟨pb, 1, none⟩ = some (.iface 102 (.pointer (some aM))) ∧ Below w.heap.size w w' := by
  have hbi : bi < w.heap.size := World.block_lt_of_cell? _ _ hH
  have h4 : 4 < w.heap.size := World.block_lt_of_cell? _ _ hM
  have HC := hide hcert
  clear hcert
  go_enter Ybaf.func7, Ybaf.ntmps7
  go_wp2_with fail
  refine HC.out.mono ?_
  rintro e w1 ⟨rfl, hb⟩
  have k3 := cell_later hb hH
  have k4 := cell_later hb hM
  have ks := cell_later hb hsM
  have hz := hb.size
  have hbi' : bi < w1.heap.size := by omega
  have h4' : 4 < w1.heap.size := by omega
  go_wp2
  go_quiet (fail)
  go_wp2
  have hF1 : F.answers w1.tape := by rw [hb.tape]; exact hF
  go_region_with (go_at_call 17; refine (errorfA F aM sM A he _ _ ?_ ?_ ?_ ?_ ?_).mono ?_; exact hF1; go_simp; go_simp; go_simp; (refine cell_later ?_ ks; repeat (first | exact Below.refl _ _ | apply below_drewN | apply Below.drew | (refine Below.alloc ?_ (by simp) _))); rintro e w' ⟨txt, rfl, rfl⟩)
  all_goals (try go_wp2)
  all_goals go_ret3
  all_goals refine ⟨_, rfl, by go_simp, ?_⟩
  all_goals repeat (first | exact hb | apply below_drewN | apply Below.drew | (refine Below.alloc ?_ (by first | omega | (simp; omega)) _))
end Go.Proofs.YbulkcthqFmt
