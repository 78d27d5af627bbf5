import Derived.Test.Qxb6603610aModsWa
namespace Go.Proofs.Qxb6603610aMods
open Go.RowKit
set_option linter.unusedVariables false
set_option linter.unusedSimpArgs false

set_option maxRecDepth 100000 in
set_option maxHeartbeats 4000000 in
theorem walk3 (a : Option Addr) (n c : Nat) (i : Int) (f h : Nat → Int) (w : World) (hp : PArg w a n c f h) :
    Calls Trym.prog 3 #[.slice a n c, .int .i64 i] w fun e w' => e = .returned (.bool true) ∧ Below w.heap.size w w' := by
  go_enter Trym.func3, Trym.ntmps3
  go_wp2_with fail
  refine (bytes7 a n c i _).mono ?_
  rintro e w' ⟨⟨bb, rfl⟩, hw⟩
  obtain rfl := hw.symm
  cases bb
  · go_wp2
    go_ret
    exact ⟨rfl, Below.refl _ _⟩
  by_cases hn : 65536 < n
  · go_wp2
    go_ret
    exact ⟨rfl, Below.refl _ _⟩
  by_cases h0 : i < 0
  · go_wp2
    go_ret
    exact ⟨rfl, Below.refl _ _⟩
  by_cases h1 : (n : Int) < i
  · go_wp2
    go_ret
    exact ⟨rfl, Below.refl _ _⟩
  obtain ⟨m, rfl⟩ : ∃ m : Nat, i = m := ⟨i.toNat, by omega⟩
  have hn' : n ≤ 65536 := by omega
  have hm : m ≤ n := by omega
  clear hn h0 h1
  go_wp2_with fail
  refine (toCh9 a n c f h _ hn' hp).mono ?_
  rintro e w1 ⟨rfl, hl1, hps, hb1⟩
  go_wp2_with fail
  refine (new8 _ n n m _).mono ?_
  rintro e w2 ⟨rfl, hw⟩
  obtain ⟨S, hb2⟩ := Str.fresh hps hl1 hw
  have B2 : Below w.heap.size w w2 := hb1.trans (hb2.mono (by omega))
  have hBB : w.heap.size ≤ w1.heap.size := by omega
  clear hw hps hb1 hb2 hl1
  obtain ⟨B, hB⟩ : ∃ B, B = w1.heap.size := ⟨_, rfl⟩
  rw [← hB] at hBB S ⊢
  clear hB
  go_wp2_with fail
  go_loopg [6] (n - m) (fun gk v wr => ∃ j, j + gk = n ∧ v = .int .i64 (j : Nat) ∧ Str wr B w.heap.size n j f h ∧ Below w.heap.size w wr)
  case atStart => exact ⟨m, by omega, rfl, S, B2⟩
  case round =>
    obtain ⟨j, hj, rfl, S, hb⟩ := hrel
    have hbs := hb.size
    by_cases hlt : j < n
    · obtain ⟨ga, oa, rfl, hga, g0, g1⟩ := hp.cell hlt
      go_wp2_with fail
      refine (at10 B j _ S.c1).mono ?_
      rintro e w' ⟨rfl, hw⟩
      obtain rfl := hw.symm
      go_wp2_with fail
      refine (next11_mid B w.heap.size n j f h _ hn' hlt S).mono ?_
      rintro e w3 ⟨rfl, hb3⟩
      have S3 := S.next hb3
      have B3 : Below w.heap.size w w3 := below_next hb hBB hbs hb3
      have g0 := (B3.cell (p := ⟨ga, oa + j * 2, none⟩) hga).trans g0
      have g1 := (B3.cell (p := ⟨ga, oa + j * 2 + 1, none⟩) hga).trans g1
      have hs3 := B3.size
      have hga3 : ga < w3.heap.size := by omega
      have hga4 : ga < w3.heap.size + 1 := by omega
      have hga5 : ga < w3.heap.size + 1 + 1 := by omega
      have hga6 : ga < w3.heap.size + 1 + 1 + 1 := by omega
      clear hb3 hb S B2
      go_upto_region 16 with fail
      go_cut [73] (fun v wx => v = .bool false ∧ Below w3.heap.size w3 wx)
      case first =>
        go_region_with (first | (go_at_call 12; refine (id12 (f j) (h j) _).mono ?_; rintro e w' ⟨rfl, rfl⟩) | (go_at_call 13; refine (hu13 (f j) (h j) _).mono ?_; rintro e w' ⟨rfl, rfl⟩))
        all_goals
          go_wp2_with fail
          go_meet
          case rel => exact ⟨rfl, Below.drew (b_alloc (b_alloc (b_alloc (Below.refl _ _) _) _) _)⟩
      case rest =>
        obtain ⟨rfl, b4⟩ := hcut
        go_wp2
        go_roundg (gk - 1)
        case measure => omega
        case rel => exact ⟨j + 1, by omega, by go_num, S3.below b4, B3.trans (b4.mono (by omega))⟩
    · obtain rfl : j = n := by omega
      clear hlt
      go_wp2_with fail
      go_loopg [10] 2 (fun gk v wr => ∃ t, t + gk = 2 ∧ v = .int .i64 (t : Nat) ∧ Str wr B w.heap.size j j f h ∧ Below w.heap.size w wr)
      case atStart => exact ⟨0, by omega, rfl, S, hb⟩
      case round =>
        clear S hb hbs
        obtain ⟨t, ht, rfl, S, hb⟩ := hrel
        have hbs := hb.size
        by_cases hlt : t < 2
        · go_wp2_with fail
          refine (next11_end B w.heap.size j f h _ S).mono ?_
          rintro e w3 ⟨rfl, hb3⟩
          have S3 := S.below hb3
          have B3 : Below w.heap.size w w3 := hb.trans (hb3.mono hbs)
          clear hb3 hb S
          go_wp2_with fail
          refine (id12 0 0 _).mono ?_
          rintro e w' ⟨rfl, rfl⟩
          go_wp2_with fail
          refine (hu13 0 0 _).mono ?_
          rintro e w' ⟨rfl, rfl⟩
          go_wp2_with fail
          have B4 := b_alloc (b_alloc (b_alloc (Below.refl w3.heap.size w3) (.cells #[.int .i64 0, .int .i64 0] 30)) (.cells #[.int .i64 0, .int .i64 0] 30)) (.cells #[.int .i64 0, .int .i64 0] 30)
          refine (at10 B j _ (S3.below B4).c1).mono ?_
          rintro e w' ⟨rfl, rfl⟩
          go_wp2
          go_roundg (gk - 1)
          case measure => omega
          case rel => exact ⟨t + 1, by omega, by go_num, S3.below B4, B3.trans (B4.mono (by have := B3.size; omega))⟩
        · go_wp2
          go_ret
          exact ⟨rfl, hb⟩

end Go.Proofs.Qxb6603610aMods
