import Derived.Test.YbulkcthqFmtExact
namespace Go.Proofs.YbulkcthqFmt
open Go.RowKit Go.Extern.Stop Go.Stop Go.Extern
set_option linter.unusedVariables false
attribute [local go_sem] Ybaf.call24 Ybaf.guard Ybaf.fmtB Ybaf.fmtB' Ybaf.op2_100w Ybaf.op9_115w Ybaf.ptr102 Ybaf.elem102 Ybaf.isError102' Ybaf.ptr86 Ybaf.elem86 Ybaf.isError86'

set_option maxHeartbeats 400000 in
theorem errorfB (F : Interp) (a : Addr) (s t : ByteArray) (x y z : Int) (b : Nat) (w : World) (hF : F.answers w.tape)
    (hc0 : w.cell? ⟨b, 0, none⟩ = some (.iface 102 (.pointer (some a)))) (hc1 : w.cell? ⟨b, 1, none⟩ = some (.iface 2 (.int .i64 x))) (hc2 : w.cell? ⟨b, 2, none⟩ = some (.iface 9 (.string t)))
    (hc3 : w.cell? ⟨b, 3, none⟩ = some (.iface 2 (.int .i64 y))) (hc4 : w.cell? ⟨b, 4, none⟩ = some (.iface 2 (.int .i64 z))) (hs : w.cell? a = some (.string s)) :
    Calls Ybaf.prog 17 #[.string ⟨#[37, 119, 58, 32, 116, 104, 101, 32, 102, 105, 108, 101, 32, 101, 110, 100, 115, 32, 97, 116, 32, 98, 121, 116, 101, 32, 37, 100, 44, 32, 98, 101, 102, 111, 114, 101, 32, 116, 104, 101, 32, 101, 110, 100, 32, 111, 102, 32, 116, 104, 101, 32, 37, 115, 32, 40, 98, 121, 116, 101, 115, 32, 37, 100, 32, 116, 111, 32, 37, 100, 41]⟩, .slice (some ⟨b, 0, none⟩) 5 5] w
      fun e w' => ∃ txt : ByteArray, e = .returned (.iface 86 (.pointer (some ⟨w.heap.size, 0, none⟩))) ∧ w' = (w.alloc (.cells #[.string txt, .iface 102 (.pointer (some a))] 148)).drew := by
  have hF' := hF
  unfold Interp.answers at hF'
  have hop := Ybaf.opPlain102_119w "fmt.errorf" a s w hs
  go_enter Ybaf.func17, Ybaf.ntmps17
  go_wp2
  go_ret
  exact ⟨_, rfl, rfl⟩

set_option maxHeartbeats 400000 in
theorem truncated_any (F : Interp) (aT : Addr) (sT t : ByteArray) (o n size : Int) (w : World) (hF : F.answers w.tape) (hT : w.cell? ⟨0, 0, none⟩ = some (.iface 102 (.pointer (some aT)))) (hsT : w.cell? aT = some (.string sT))
    (o0 : 0 ≤ o) (o1 : o ≤ 4294967295) (n0 : 0 ≤ n) (n1 : n ≤ 4294967295) :
    Calls Ybaf.prog 26 #[.string t, .int .i64 o, .int .i64 n, .int .i64 size] w fun e w' => ∃ pb, e = .returned (.iface 86 (.pointer (some ⟨pb, 0, none⟩))) ∧ w'.cell? ⟨pb, 1, none⟩ = some (.iface 102 (.pointer (some aT))) ∧ Below w.heap.size w w' := by
  have h0 : 0 < w.heap.size := World.block_lt_of_cell? _ _ hT
  go_enter Ybaf.func26, Ybaf.ntmps26
  go_wp2_with fail
  refine (errorfB F aT sT t size o (o + n) _ _ ?_ ?_ ?_ ?_ ?_ ?_ ?_).mono ?_
  · exact hF
  · go_simp
  · go_simp
  · go_simp
  · go_simp
  · go_simp
  · exact cell_later ((Below.refl _ _).alloc (Nat.le_refl _) _) hsT
  rintro e w' ⟨txt, rfl, rfl⟩
  go_wp2_with fail
  go_ret
  exact ⟨_, rfl, by go_simp, (((Below.refl _ _).alloc (Nat.le_refl _) _).alloc (by simp) _).drew⟩

set_option maxHeartbeats 400000 in
theorem check_ok (o n size : Int) (t : ByteArray) (w : World) (o0 : 0 ≤ o) (o1 : o ≤ 4294967295) (n0 : 0 ≤ n) (n1 : n ≤ 4294967295) (h : ¬ size < o + n) :
    Calls Ybaf.prog 18 #[.agg #[.nilIface, .int .i64 size], .int .i64 o, .int .i64 n, .string t] w fun e w' => e = .returned .nilIface ∧ Below w.heap.size w w' := by
  go_enter Ybaf.func18, Ybaf.ntmps18
  go_wp2_with fail
  go_ret
  exact ⟨rfl, (Below.refl _ _).alloc (Nat.le_refl _) _⟩

set_option maxHeartbeats 400000 in
theorem check_bad (F : Interp) (aT : Addr) (sT : ByteArray) (o n size : Int) (t : ByteArray) (w : World) (hF : F.answers w.tape) (hT : w.cell? ⟨0, 0, none⟩ = some (.iface 102 (.pointer (some aT)))) (hsT : w.cell? aT = some (.string sT))
    (o0 : 0 ≤ o) (o1 : o ≤ 4294967295) (n0 : 0 ≤ n) (n1 : n ≤ 4294967295) (h : size < o + n) :
    Calls Ybaf.prog 18 #[.agg #[.nilIface, .int .i64 size], .int .i64 o, .int .i64 n, .string t] w fun e w' => ∃ pb, e = .returned (.iface 86 (.pointer (some ⟨pb, 0, none⟩))) ∧ w'.cell? ⟨pb, 1, none⟩ = some (.iface 102 (.pointer (some aT))) ∧ Below w.heap.size w w' := by
  have b1 : Below w.heap.size w (w.alloc (.cells #[.nilIface, .int .i64 size] 73)) := (Below.refl _ _).alloc (Nat.le_refl _) _
  have k0 := cell_later b1 hT
  have ks := cell_later b1 hsT
  have HB := hide b1
  clear b1
  go_enter Ybaf.func18, Ybaf.ntmps18
  go_wp2_with fail
  refine (truncated_any F aT sT t o n size _ (by exact hF) k0 ks o0 o1 n0 n1).mono ?_
  rintro e w' ⟨pb, rfl, hp, hb⟩
  go_wp2_with fail
  go_ret
  exact ⟨pb, rfl, hp, HB.out.trans (hb.mono (by simp))⟩

set_option maxHeartbeats 800000 in
theorem in_err (bi : Nat) (er : Value) (te : TypeId) (ve : Value) (size : Int) (w : World) (Q : World → Prop) (he : er = .iface te ve)
    (h7 : Calls Ybaf.prog 7 #[.pointer (some ⟨bi, 0, none⟩)] w fun e w' => e = .returned (.tuple #[.int .i64 0, .int .i64 0, er]) ∧ Q w') :
    Calls Ybaf.prog 11 #[.pointer (some ⟨bi, 0, none⟩), .int .i64 size] w fun e w' => e = .returned (.tuple #[.int .i64 0, .int .i64 0, er]) ∧ Q w' := by
  subst he
  have HC := hide h7
  clear h7
  go_enter Ybaf.func11, Ybaf.ntmps11
  go_wp2_with fail
  refine HC.out.mono ?_
  rintro e w1 ⟨rfl, hq⟩
  have HQ := hide hq
  clear hq
  go_wp2_with fail
  go_ret3
  exact ⟨rfl, HQ.out⟩

set_option maxHeartbeats 800000 in
theorem in_err2 (bi : Nat) (size : Int) (w : World) (Q : Nat → World → Prop)
    (h7 : Calls Ybaf.prog 7 #[.pointer (some ⟨bi, 0, none⟩)] w fun e w' => ∃ pb, e = .returned (.tuple #[.int .i64 0, .int .i64 0, .iface 86 (.pointer (some ⟨pb, 0, none⟩))]) ∧ Q pb w') :
    Calls Ybaf.prog 11 #[.pointer (some ⟨bi, 0, none⟩), .int .i64 size] w fun e w' => ∃ pb, e = .returned (.tuple #[.int .i64 0, .int .i64 0, .iface 86 (.pointer (some ⟨pb, 0, none⟩))]) ∧ Q pb w' := by
  have HC := hide h7
  clear h7
  go_enter Ybaf.func11, Ybaf.ntmps11
  go_wp2_with fail
  refine HC.out.mono ?_
  rintro e w1 ⟨pb, rfl, hq⟩
  have HQ := hide hq
  clear hq
  go_wp2_with fail
  go_ret3
  exact ⟨pb, rfl, HQ.out⟩

set_option maxHeartbeats 800000 in
theorem in_ok (bi : Nat) (A S size : Int) (w : World) (a0 : 0 ≤ A) (a1 : A ≤ 4294967295) (s0 : 0 ≤ S) (s1 : S ≤ 4294967295) (hs : ¬ size < A + S)
    (h7 : Calls Ybaf.prog 7 #[.pointer (some ⟨bi, 0, none⟩)] w fun e w' => e = .returned (.tuple #[.int .i64 A, .int .i64 (A + S), .nilIface]) ∧ Below w.heap.size w w') :
    Calls Ybaf.prog 11 #[.pointer (some ⟨bi, 0, none⟩), .int .i64 size] w fun e w' => e = .returned (.tuple #[.int .i64 A, .int .i64 (A + S), .nilIface]) ∧ Below w.heap.size w w' := by
  have HC := hide h7
  clear h7
  go_enter Ybaf.func11, Ybaf.ntmps11
  go_wp2_with fail
  refine HC.out.mono ?_
  rintro e w1 ⟨rfl, hb⟩
  have HB := hide hb
  clear hb
  go_wp2_with fail
  rw [show A + S - A = S by omega]
  refine (check_ok A S size _ _ a0 a1 s0 s1 (by omega)).mono ?_
  rintro e w2 ⟨rfl, hb2⟩
  have HB2 := hide hb2
  clear hb2
  go_wp2_with fail
  go_ret3
  exact ⟨rfl, HB.out.trans (HB2.out.mono HB.out.size)⟩

set_option maxHeartbeats 800000 in
theorem in_trunc (F : Interp) (aT : Addr) (sT : ByteArray) (bi : Nat) (A S size : Int) (w : World) (hF : F.answers w.tape) (hT : w.cell? ⟨0, 0, none⟩ = some (.iface 102 (.pointer (some aT)))) (hsT : w.cell? aT = some (.string sT))
    (a0 : 0 ≤ A) (a1 : A ≤ 4294967295) (s0 : 0 ≤ S) (s1 : S ≤ 4294967295) (hs : size < A + S)
    (h7 : Calls Ybaf.prog 7 #[.pointer (some ⟨bi, 0, none⟩)] w fun e w' => e = .returned (.tuple #[.int .i64 A, .int .i64 (A + S), .nilIface]) ∧ Below w.heap.size w w') :
    Calls Ybaf.prog 11 #[.pointer (some ⟨bi, 0, none⟩), .int .i64 size] w fun e w' => ∃ pb, e = .returned (.tuple #[.int .i64 0, .int .i64 0, .iface 86 (.pointer (some ⟨pb, 0, none⟩))]) ∧ w'.cell? ⟨pb, 1, none⟩ = some (.iface 102 (.pointer (some aT))) ∧ Below w.heap.size w w' := by
  have HC := hide h7
  clear h7
  go_enter Ybaf.func11, Ybaf.ntmps11
  go_wp2_with fail
  refine HC.out.mono ?_
  rintro e w1 ⟨rfl, hb⟩
  have hF1 : F.answers w1.tape := by rw [hb.tape]; exact hF
  have k0 := cell_later hb hT
  have ks := cell_later hb hsT
  have HB := hide hb
  clear hb
  go_wp2_with fail
  rw [show A + S - A = S by omega]
  refine (check_bad F aT sT A S size _ _ hF1 k0 ks a0 a1 s0 s1 hs).mono ?_
  rintro e w2 ⟨pb, rfl, hp, hb2⟩
  have HB2 := hide hb2
  clear hb2
  go_wp2_with fail
  go_ret3
  exact ⟨pb, rfl, hp, HB.out.trans (HB2.out.mono HB.out.size)⟩

/-! ### bounds and model at a slice of five or more -/
theorem bounds_at1 (F : Interp) (aU aM : Addr) (sM : ByteArray) (bi b off len cap : Nat) (he : Int) (w : World) (hg : Globs F w aU aM sM)
    (hd : w.cell? ⟨bi, 6, none⟩ = some (.slice (some ⟨b, off, none⟩) len cap)) (hl : 4 < len)
    (cA : w.cell? ⟨b, off + 8, none⟩ = some (.int .u32 0)) (cS : w.cell? ⟨b, off + 9, none⟩ = some (.int .u32 0)) :
    Calls Ybaf.prog 7 #[.pointer (some ⟨bi, 0, none⟩)] w fun e w' => e = .returned (.tuple #[.int .i64 0, .int .i64 0, .iface 102 (.pointer (some aU))]) ∧ Below w.heap.size w w' :=
  bounds_none bi aU w hg.hU (cert_zero bi b off len cap w hd hl cA cS)

theorem bounds_at0 (bi b off len cap : Nat) (A S he : Int) (w : World)
    (hd : w.cell? ⟨bi, 6, none⟩ = some (.slice (some ⟨b, off, none⟩) len cap)) (hH : w.cell? ⟨bi, 10, none⟩ = some (.int .i64 he)) (hl : 4 < len)
    (cA : w.cell? ⟨b, off + 8, none⟩ = some (.int .u32 A)) (cS : w.cell? ⟨b, off + 9, none⟩ = some (.int .u32 S)) (hz : ¬ (A = 0 ∧ S = 0)) (f1 : 0 ≤ A) (f2 : A ≤ 4294967295) (f3 : 0 ≤ S) (f4 : S ≤ 4294967295) (hlt : ¬ A < he) :
    Calls Ybaf.prog 7 #[.pointer (some ⟨bi, 0, none⟩)] w fun e w' => e = .returned (.tuple #[.int .i64 A, .int .i64 (A + S), .nilIface]) ∧ Below w.heap.size w w' :=
  bounds_ok bi A S he w hH f1 f2 f3 f4 hlt (cert_some bi b off len cap A S w hd hl cA cS hz)

theorem bounds_at2 (F : Interp) (aU aM : Addr) (sM : ByteArray) (bi b off len cap : Nat) (A S he : Int) (w : World) (hg : Globs F w aU aM sM)
    (hd : w.cell? ⟨bi, 6, none⟩ = some (.slice (some ⟨b, off, none⟩) len cap)) (hH : w.cell? ⟨bi, 10, none⟩ = some (.int .i64 he)) (hl : 4 < len)
    (cA : w.cell? ⟨b, off + 8, none⟩ = some (.int .u32 A)) (cS : w.cell? ⟨b, off + 9, none⟩ = some (.int .u32 S)) (hz : ¬ (A = 0 ∧ S = 0)) (f1 : 0 ≤ A) (f2 : A ≤ 4294967295) (f3 : 0 ≤ S) (f4 : S ≤ 4294967295) (hlt : A < he) :
    Calls Ybaf.prog 7 #[.pointer (some ⟨bi, 0, none⟩)] w fun e w' => ∃ pb, e = .returned (.tuple #[.int .i64 0, .int .i64 0, .iface 86 (.pointer (some ⟨pb, 0, none⟩))]) ∧ w'.cell? ⟨pb, 1, none⟩ = some (.iface 102 (.pointer (some aM))) ∧ Below w.heap.size w w' :=
  bounds_bad F bi A S he aM sM w hg.ans hg.hM hg.sM hH f1 f2 f3 f4 hlt (cert_some bi b off len cap A S w hd hl cA cS hz)
end Go.Proofs.YbulkcthqFmt
