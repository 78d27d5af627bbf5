import Derived.Test.Qxb6603610aModsWa
namespace Go.Proofs.Qxb6603610aMods
open Go.RowKit
set_option linter.unusedVariables false
set_option linter.unusedSimpArgs false

/-- what the two streams hand out at the place k -/
def vA (n : Nat) (f : Nat → Int) (k : Nat) : Int := if k < n then f k else 0

/-- the next change, whichever the place -/
theorem next11 (B g n i : Nat) (f h : Nat → Int) (w : World) (hn : n ≤ 65536) (hi : i ≤ n) (s : Str w B g n i f h) :
    Calls Trym.prog 11 #[.pointer (some ⟨B, 0, none⟩)] w fun e w' => e = .returned (.tuple #[.agg #[.int .i64 (vA n f i), .int .i64 (vA n h i)], .bool (decide (i < n)), .nilIface]) ∧
      ((i < n ∧ Below w.heap.size (w.setCell ⟨B, 1, none⟩ (.int .i64 ((i + 1 : Nat) : Int))) w') ∨ (i = n ∧ Below w.heap.size w w')) := by
  by_cases hlt : i < n
  · refine (next11_mid B g n i f h w hn hlt s).mono ?_
    rintro e w' ⟨rfl, hb⟩
    exact ⟨by simp [vA, hlt], .inl ⟨hlt, hb⟩⟩
  · obtain rfl : i = n := by omega
    refine (next11_end B g i f h w s).mono ?_
    rintro e w' ⟨rfl, hb⟩
    exact ⟨by simp [vA], .inr ⟨rfl, hb⟩⟩

/-- where a stream stands behind the call -/
def nx (n i : Nat) : Nat := if i < n then i + 1 else n

/-- the call's trace in the memory -/
def Went (w : World) (B n i : Nat) (w' : World) : Prop := (i < n ∧ Below w.heap.size (w.setCell ⟨B, 1, none⟩ (.int .i64 ((i + 1 : Nat) : Int))) w') ∨ (i = n ∧ Below w.heap.size w w')

theorem Went.self {w w' : World} {B g n i : Nat} {f h : Nat → Int} (s : Str w B g n i f h) (hw : Went w B n i w') : Str w' B g n (nx n i) f h := by
  rcases hw with ⟨hlt, hb⟩ | ⟨rfl, hb⟩
  · rw [nx, if_pos hlt]; exact s.next hb
  · rw [nx, if_neg (Nat.lt_irrefl _)]; exact s.below hb
theorem Went.other {w w' : World} {B B' g n i k : Nat} {f h : Nat → Int} (s : Str w B' g n k f h) (hw : Went w B n i w') (hB : B' ≠ B) (hg : g ≠ B) : Str w' B' g n k f h := by
  rcases hw with ⟨hlt, hb⟩ | ⟨rfl, hb⟩
  · exact (s.other hB hg).below (by rw [size_set]; exact hb)
  · exact s.below hb
theorem Went.below {w0 w w' : World} {B n i b : Nat} (hw : Went w B n i w') (h0 : Below b w0 w) (hB : b ≤ B) (hs : b ≤ w.heap.size) : Below b w0 w' := by
  rcases hw with ⟨hlt, hb⟩ | ⟨rfl, hb⟩
  · exact below_next h0 hB hs hb
  · exact h0.trans (hb.mono hs)
theorem Went.size {w w' : World} {B n i : Nat} (hw : Went w B n i w') : w.heap.size ≤ w'.heap.size := by
  rcases hw with ⟨hlt, hb⟩ | ⟨rfl, hb⟩
  · have := hb.size; rw [size_set] at this; exact this
  · exact hb.size
/-- what lies elsewhere reads as before -/
theorem Went.cell {w w' : World} {B n i : Nat} (hw : Went w B n i w') {p : Addr} (hp : p.block < w.heap.size) (hB : p.block ≠ B) : w'.cell? p = w.cell? p := by
  rcases hw with ⟨hlt, hb⟩ | ⟨rfl, hb⟩
  · rw [hb.cell hp, World.cell?_setCell_far _ _ _ _ (by simpa using Ne.symm hB)]
  · exact hb.cell hp

theorem nextW (B g n i : Nat) (f h : Nat → Int) (w : World) (hn : n ≤ 65536) (hi : i ≤ n) (s : Str w B g n i f h) :
    Calls Trym.prog 11 #[.pointer (some ⟨B, 0, none⟩)] w fun e w' => e = .returned (.tuple #[.agg #[.int .i64 (vA n f i), .int .i64 (vA n h i)], .bool (decide (i < n)), .nilIface]) ∧ Went w B n i w' := next11 B g n i f h w hn hi s

set_option maxRecDepth 100000 in
set_option maxHeartbeats 4000000 in
theorem walk4 (a : Option Addr) (n c : Nat) (i : Int) (f h : Nat → Int) (w : World) (hp : PArg w a n c f h) :
    Calls Trym.prog 4 #[.slice a n c, .int .i64 i] w fun e w' => e = .returned (.bool true) ∧ Below w.heap.size w w' := by
  go_enter Trym.func4, Trym.ntmps4
  go_wp2_with fail
  refine (bytes14 a n c i _).mono ?_
  rintro e w' ⟨⟨bb, rfl⟩, hw⟩
  obtain rfl := hw.symm
  cases bb
  · go_wp2
    go_ret
    exact ⟨rfl, Below.refl _ _⟩
  by_cases hn : 65536 < n
  · go_wp2
    go_ret
    exact ⟨rfl, Below.refl _ _⟩
  by_cases h0 : i < 0
  · go_wp2
    go_ret
    exact ⟨rfl, Below.refl _ _⟩
  by_cases h1 : (n : Int) < i
  · go_wp2
    go_ret
    exact ⟨rfl, Below.refl _ _⟩
  obtain ⟨m, rfl⟩ : ∃ m : Nat, i = m := ⟨i.toNat, by omega⟩
  have hn' : n ≤ 65536 := by omega
  have hm : m ≤ n := by omega
  clear hn h0 h1
  go_wp2_with fail
  refine (toCh9 a n c f h _ hn' hp).mono ?_
  rintro e w1 ⟨rfl, hl1, hps, hb1⟩
  go_wp2_with fail
  refine (new8 _ n n 0 _).mono ?_
  rintro e w2 ⟨rfl, hw⟩
  obtain ⟨S, hb2⟩ := Str.fresh (i := 0) hps hl1 hw
  have B2 : Below w.heap.size w w2 := hb1.trans (hb2.mono (by omega))
  have hBB : w.heap.size ≤ w1.heap.size := by omega
  clear hw hps hb1 hb2 hl1
  obtain ⟨B, hB⟩ : ∃ B, B = w1.heap.size := ⟨_, rfl⟩
  rw [← hB] at hBB S ⊢
  clear hB
  go_upto_block 0 with fail
  go_cut [6] (fun v wx => Str wx B w.heap.size n m f h ∧ Below w.heap.size w wx)
  case first =>
    go_wp2_with fail
    go_loopg [6] m (fun gk v wr => ∃ j, j + gk = m ∧ v = .int .i64 (j : Nat) ∧ Str wr B w.heap.size n j f h ∧ Below w.heap.size w wr)
    case atStart => exact ⟨0, by omega, rfl, S, B2⟩
    case round =>
      obtain ⟨j, hj, rfl, S, hb⟩ := hrel
      have hbs := hb.size
      by_cases hlt : j < m
      · have hltn : j < n := by omega
        obtain ⟨ga, oa, rfl, hga, g0, g1⟩ := hp.cell hltn
        go_wp2_with fail
        refine (next11_mid B w.heap.size n j f h _ hn' hltn S).mono ?_
        rintro e w3 ⟨rfl, hb3⟩
        have S3 := S.next hb3
        have B3 : Below w.heap.size w w3 := below_next hb hBB hbs hb3
        have g0 := (B3.cell (p := ⟨ga, oa + j * 2, none⟩) hga).trans g0
        have g1 := (B3.cell (p := ⟨ga, oa + j * 2 + 1, none⟩) hga).trans g1
        have hs3 := B3.size
        have hga3 : ga < w3.heap.size := by omega
        have hga4 : ga < w3.heap.size + 1 := by omega
        have hga5 : ga < w3.heap.size + 1 + 1 := by omega
        have hga6 : ga < w3.heap.size + 1 + 1 + 1 := by omega
        clear hb3 hb S B2
        go_upto_region 14 with fail
        go_cut [71] (fun v wx => v = .bool false ∧ Below w3.heap.size w3 wx)
        case first =>
          go_region_with (first | (go_at_call 12; refine (id12 (f j) (h j) _).mono ?_; rintro e w' ⟨rfl, rfl⟩) | (go_at_call 13; refine (hu13 (f j) (h j) _).mono ?_; rintro e w' ⟨rfl, rfl⟩))
          all_goals
            go_wp2_with fail
            go_meet
            case rel => exact ⟨rfl, Below.drew (b_alloc (b_alloc (b_alloc (Below.refl _ _) _) _) _)⟩
        case rest =>
          obtain ⟨rfl, b4⟩ := hcut
          go_wp2
          go_roundg (gk - 1)
          case measure => omega
          case rel => exact ⟨j + 1, by omega, by go_num, S3.below b4, B3.trans (b4.mono (by omega))⟩
      · obtain rfl : j = m := by omega
        go_wp2
        go_meet
        case rel => exact ⟨S, hb⟩
  case rest =>
  obtain ⟨S0, B0⟩ := hcut
  clear S B2
  have hB0 := S0.bl
  have hs0 := B0.size
  go_wp2_with fail
  refine (toCh9 a n c f h _ hn' (hp.below B0)).mono ?_
  rintro e w4 ⟨rfl, hl4, hps4, hb4⟩
  go_wp2_with fail
  refine (new8 _ n n m _).mono ?_
  rintro e w5 ⟨rfl, hw⟩
  obtain ⟨S1, hb5⟩ := Str.fresh hps4 hl4 hw
  have S0' := (S0.below hb4).below hb5
  have B5 : Below w.heap.size w w5 := (B0.trans (hb4.mono hs0)).trans (hb5.mono (by omega))
  have hs5 := S1.bl
  clear hw hps4 hb4 hb5 S0 B0
  obtain ⟨g', hg'⟩ : ∃ g', g' = wc.heap.size := ⟨_, rfl⟩
  rw [← hg'] at S1 hB0 hs0 hl4 ⊢
  obtain ⟨B', hB'⟩ : ∃ B', B' = w4.heap.size := ⟨_, rfl⟩
  rw [← hB'] at S1 hs5 hl4 ⊢
  clear hg' hB'
  have n1 : B ≠ B' := by omega
  have n2 : w.heap.size ≠ B' := by omega
  have n3 : B' ≠ B := by omega
  have n4 : g' ≠ B := by omega
  have n5 : w.heap.size ≤ B' := by omega
  clear hl4 hs5 hs0 hB0
  go_upto_block 2 with fail
  obtain ⟨d, hd⟩ : ∃ d : Nat, ((n : Int) - (m : Int)) = (d : Int) := ⟨n - m, by omega⟩
  rw [hd]
  have hdn : d ≤ 65536 := by omega
  have hmd : m + d = n := by omega
  clear hd
  go_wp2_with fail
  go_loopg [12] (d + 2) (fun gk v wr => ∃ t k, t + gk = d + 2 ∧ v = .int .i64 (t : Nat) ∧ k ≤ n ∧ Hid (k = min (m + t) n) ∧ Str wr B w.heap.size n k f h ∧ Str wr B' g' n k f h ∧ Below w.heap.size w wr)
  case atStart => exact ⟨0, m, by omega, rfl, hm, by unfold Hid; omega, S0', S1, B5⟩
  case round =>
    clear S0' S1 B5
    obtain ⟨t, k, ht, rfl, hkn, hk, S0, S1, hb⟩ := hrel
    have hbs := hb.size
    by_cases hlt : t < d + 2
    · go_wp2_with fail
      refine (at10 B k _ S0.c1).mono ?_
      rintro e w' ⟨rfl, hw⟩
      obtain rfl := hw.symm
      go_wp2_with fail
      refine (at10 B' k _ S1.c1).mono ?_
      rintro e w' ⟨rfl, hw⟩
      obtain rfl := hw.symm
      go_wp2_with fail
      refine (nextW B w.heap.size n k f h _ hn' hkn S0).mono ?_
      rintro e w6 ⟨rfl, W6⟩
      have T0 := W6.self S0
      have T1 := W6.other S1 n3 n4
      have hb6 := W6.below hb hBB hbs
      clear W6 S0 S1 hb hbs
      obtain ⟨p, hp'⟩ : ∃ p, p = vA n f k := ⟨_, rfl⟩
      obtain ⟨q, hq'⟩ : ∃ q, q = vA n h k := ⟨_, rfl⟩
      obtain ⟨bo, hbo⟩ : ∃ b : Bool, b = decide (k < n) := ⟨_, rfl⟩
      rw [← hp', ← hq', ← hbo]
      have HP : Hid (p = vA n f k) := hp'
      have HQ : Hid (q = vA n h k) := hq'
      have HBO : Hid (bo = decide (k < n)) := hbo
      clear hp' hq' hbo
      go_wp2_with fail
      have L6 := (b_alloc (Below.refl w6.heap.size w6) (.cells #[.int .i64 p, .int .i64 q] 30))
      have T0a := T0.below L6
      have T1a := T1.below L6
      have hB6 := T1.bl
      have hs6 := hb6.size
      refine (nextW B' g' n k f h _ hn' hkn T1a).mono ?_
      rintro e w7 ⟨rfl, W7⟩
      rw [← HP.out, ← HQ.out, ← HBO.out]
      have U1 := W7.self T1a
      have U0 := W7.other T0a n1 n2
      have hb7 := W7.below (hb6.trans (L6.mono hs6)) n5 (by simp; omega)
      have hs7 : w6.heap.size + 1 ≤ w7.heap.size := by have := W7.size; simpa using this
      have x0 : w7.cell? ⟨w6.heap.size, 0, none⟩ = some (.int .i64 p) := (W7.cell (by simp) (by show w6.heap.size ≠ B'; omega)).trans (by simp)
      have x1 : w7.cell? ⟨w6.heap.size, 1, none⟩ = some (.int .i64 q) := (W7.cell (by simp) (by show w6.heap.size ≠ B'; omega)).trans (by simp)
      obtain ⟨b0, hb0⟩ : ∃ b, b = w6.heap.size := ⟨_, rfl⟩
      rw [← hb0] at hs7 x0 x1 ⊢
      clear W7 L6 T0a T1a T0 T1 hB6 hs6 hb6 hb0
      go_upto_region 25 with fail
      go_cut [112] (fun v wx => v = .bool false ∧ Below (w7.heap.size + 1) (w7.alloc (.cells #[.int .i64 p, .int .i64 q] 30)) wx)
      case first =>
        go_quiet (fail)
        go_wp2_with fail
        go_meet
        case rel => exact ⟨rfl, below_drewN (Below.refl _ _) _⟩
      case rest =>
      obtain ⟨rfl, b8⟩ := hcut
      have L7 := (b_alloc (Below.refl w7.heap.size w7) (.cells #[.int .i64 p, .int .i64 q] 30)).trans (b8.mono (Nat.le_succ _))
      have V0 := U0.below L7
      have V1 := U1.below L7
      have hb8 := hb7.trans (L7.mono hb7.size)
      have y0 : wc.cell? ⟨b0, 0, none⟩ = some (.int .i64 p) := (L7.cell (by show b0 < w7.heap.size; omega)).trans x0
      have y1 : wc.cell? ⟨b0, 1, none⟩ = some (.int .i64 q) := (L7.cell (by show b0 < w7.heap.size; omega)).trans x1
      have z0 : wc.cell? ⟨w7.heap.size, 0, none⟩ = some (.int .i64 p) := (b8.cell (by simp)).trans (by simp)
      have z1 : wc.cell? ⟨w7.heap.size, 1, none⟩ = some (.int .i64 q) := (b8.cell (by simp)).trans (by simp)
      have hsc : w7.heap.size + 1 ≤ wc.heap.size := by have := b8.size; simpa using this
      have hs8 := hb8.size
      obtain ⟨b1, hb1⟩ : ∃ b, b = w7.heap.size := ⟨_, rfl⟩
      rw [← hb1] at hs7 hsc z0 z1 ⊢
      clear b8 L7 hb7 U0 U1 x0 x1 hb1
      have i0 : b0 < wc.heap.size := by omega
      have i1 : b0 < wc.heap.size + 1 := by omega
      have i2 : b0 < wc.heap.size + 1 + 1 := by omega
      have i3 : b0 < wc.heap.size + 1 + 1 + 1 := by omega
      have j0 : b1 < wc.heap.size := by omega
      have j1 : b1 < wc.heap.size + 1 := by omega
      have j2 : b1 < wc.heap.size + 1 + 1 := by omega
      have j3 : b1 < wc.heap.size + 1 + 1 + 1 := by omega
      go_upto_region 27 with fail
      go_cut [124] (fun v wx => v = .bool false ∧ Below wc.heap.size wc wx)
      case first =>
        go_region_with (first | (go_at_call 12; refine (id12 p q _).mono ?_; rintro e w' ⟨rfl, rfl⟩) | (go_at_call 13; refine (hu13 p q _).mono ?_; rintro e w' ⟨rfl, rfl⟩))
        all_goals
          go_wp2_with fail
          go_meet
          case rel => exact ⟨rfl, Below.drew (b_alloc (b_alloc (b_alloc (b_alloc (Below.refl _ _) _) _) _) _)⟩
      case rest =>
      obtain ⟨rfl, b9⟩ := hcut
      have X0 := V0.below b9
      have X1 := V1.below b9
      have hb9 := hb8.trans (b9.mono hs8)
      have hnx : nx n k ≤ n := by unfold nx; split <;> omega
      have hnk : Hid (nx n k = min (m + (t + 1)) n) := by
        have := hk.out
        unfold Hid nx
        split <;> omega
      clear b9 V0 V1
      go_wp2
      go_roundg (gk - 1)
      case measure => omega
      case rel => exact ⟨t + 1, nx n k, by omega, by go_num, hnx, hnk, X0, X1, hb9⟩
    · obtain rfl : k = n := by have := hk.out; omega
      go_wp2_with fail
      refine (at10 B k _ S0.c1).mono ?_
      rintro e w' ⟨rfl, hw⟩
      obtain rfl := hw.symm
      go_wp2_with fail
      refine (at10 B' k _ S1.c1).mono ?_
      rintro e w' ⟨rfl, hw⟩
      obtain rfl := hw.symm
      go_wp2
      go_ret
      exact ⟨rfl, hb⟩

end Go.Proofs.Qxb6603610aMods
