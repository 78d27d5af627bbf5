import Derived.Test.Qxb6603316aModsWj
import Derived.Laws.AppendOwnNone
import Derived.ArgAppend
namespace Go.Proofs.Qxb6603316aMods
open Go.RowKit
set_option linter.unusedVariables false

section
variable {w0 : World} {v0 : Value} {B g n nd : Nat} {ao : Option Addr} {t : Nat → Int} {D : List Int} {p : Nat} {w : World}

set_option maxRecDepth 100000 in
set_option maxHeartbeats 4000000 in
theorem block33 (col : Int) (hO : Old w0 v0 nd D ao) (h : Mem w0 v0 B g n nd t D p w v0 []) (hn : n ≤ 1048576) (hp : p < n) (hl : t (n - 1) = 10) (hs : startB (t p) (t (p + 1)) = true) (hcol : colonB t n p = false) (hD : D.length = nd) (hnd : nd ≤ 1048576) :
    Calls Trym.prog 33 #[.pointer (some ⟨B, 0, none⟩), .int .i64 col] w fun e w' => ∃ vd' ok pos acc m, loopR t n col p n p [] false = (ok, pos, acc, m) ∧
      ((ok = false ∧ e = .returned (.tuple #[.slice none 0 0, .bool false]) ∧ Mem w0 v0 B g n nd t D p w' vd' acc) ∨
       (ok = true ∧ ∃ v, e = .returned (.tuple #[v, .bool true]) ∧ Rd w' v (if m then acc else sub t p pos) ∧ Mem w0 v0 B g n nd t D pos w' vd' acc)) := by
  have HL : Hid (t (n - 1) = 10) := hl
  have HS := start_ne hs
  have HS' : Hid (t p ≠ 32 ∧ t p ≠ 10) := ⟨HS.2.2.2.2.2.2.2.2.1, HS.2.2.2.2.2.2.2.2.2⟩
  have HC : Hid (colonB t n p = false) := hcol
  have HD : Hid (D.length = nd) := hD
  clear hl HS hcol hD
  obtain ⟨R, hR⟩ : ∃ R, R = loopR t n col p n p [] false := ⟨_, rfl⟩
  have HR : Hid (R = loopR t n col p n p [] false) := hR
  rw [← hR]
  clear hR
  have h0 := h.c0
  have h1 := h.c1
  go_enter Trym.func33, Trym.ntmps33
  go_wp2_with fail
  go_quiet ((go_at_call 35; exact Calls.quiet_of_same (start35 g 0 n n p t _ hn hp HL.out h.tx)))
  clear hs h0 h1
  have hM := h.drewN nq
  clear h
  generalize w.drewN nq = w1 at *
  have h0 := hM.c0
  have h1 := hM.c1
  go_wp2_with fail
  refine (line36 B g n p t _ hn hp HL.out HS'.out.1 HS'.out.2 hM.tx hM.c0).mono ?_
  rintro e w' ⟨⟨h2, rfl⟩ | ⟨h2, rfl⟩, hw⟩
  · rw [HC.out] at h2; cases h2
  obtain rfl := hw.symm
  clear h2 h0 h1
  go_upto_block 0 with fail
  obtain ⟨i0, hi, hz0, hz1, hz2⟩ := info_parts Trym.info5
  go_cut [6, 7, 8] (fun v e o wx => ∃ vd' ok pos acc m, Hid (R = (ok, pos, acc, m)) ∧
      ((ok = false ∧ o = .bool false ∧ Mem w0 v0 B g n nd t D p wx vd' acc) ∨
       (ok = true ∧ o = .bool true ∧ ∃ a, a < n ∧ Hid (t a ≠ 32 ∧ t a ≠ 10) ∧ e = .int .i64 (stopOf t n a) ∧ Hid (pos = cutOf t n a) ∧ VForm g n nd p m pos acc vd' v ∧ Mem w0 v0 B g n nd t D p wx vd' acc)))
  case first =>
    go_wp2_with fail
    go_loopg [6, 7, 8, 9] (n - p) (fun gk v e o fr wr => ∃ vd' acc, Mem w0 v0 B g n nd t D p wr vd' acc ∧
      ((o = .bool false ∧ ∃ m, Hid (R = (false, p, acc, m))) ∨
       (o = .bool true ∧ ∃ a f m, gk = n - a ∧ a < n ∧ Hid (t a ≠ 32 ∧ t a ≠ 10) ∧ n - a ≤ f ∧ e = .int .i64 (stopOf t n a) ∧ Hid (R = loopR t n col p f a acc m) ∧ acc.length ≤ cutOf t n a ∧
         VForm g n nd p m (cutOf t n a) acc vd' v ∧ ((m = false ∧ fr = .int .i64 (-1) ∧ Hid (a = p ∧ acc = [] ∧ vd' = v0)) ∨ (m = true ∧ fr = .int .i64 nd ∧ Hid (MemO w0 v0 B g n nd t D p wr vd' acc))))))
    case atStart => exact ⟨v0, [], hM, .inr ⟨rfl, p, n, false, rfl, hp, HS', by omega, rfl, HR, Nat.zero_le _, .inl ⟨rfl, rfl⟩, .inl ⟨rfl, rfl, ⟨rfl, rfl, rfl⟩⟩⟩⟩
    case round =>
      obtain ⟨vd', acc, hMr, ⟨rfl, m, HRm⟩ | ⟨rfl, a, f, m, hgk, han, Hta, hf, rfl, HRm, hlen, hV, hm⟩⟩ := hrel
      · go_wp2
        go_meet
        case rel => exact ⟨vd', false, p, acc, m, HRm, .inl ⟨rfl, rfl, hMr⟩⟩
      have hc0 := hMr.c0
      have hsl := stopOf_lt t han
      have hsg := stopOf_ge t n a
      have hcl := cutOf_le t n a
      have hcg := cutOf_gt t han HL.out Hta.out.1 Hta.out.2
      have g1 := hMr.tx (stopOf t n a) hsl
      rw [Nat.zero_add] at g1
      obtain ⟨f', rfl⟩ : ∃ f', f = f' + 1 := ⟨f - 1, by omega⟩
      by_cases hx10 : t (stopOf t n a) = 10
      · rw [hx10] at g1
        have H10 : Hid (t (stopOf t n a) = 10) := hx10
        clear hx10
        obtain ⟨s, hs⟩ : ∃ s, s = stopOf t n a := ⟨_, rfl⟩
        have HS : Hid (s = stopOf t n a) := hs
        rw [← hs] at hsl hsg hcl g1 H10
        rw [← hs]
        clear hs
        obtain ⟨l, nx, br, hr⟩ : ∃ l nx br, skipF t (n - (s + 1)) (s + 1) (s + 1) 0 = (l, nx, br) := ⟨_, _, _, rfl⟩
        have hsp := skipF_spec t (n - (s + 1)) (s + 1) (s + 1) 0 (Nat.le_refl _)
        rw [hr] at hsp
        simp only [] at hsp
        obtain ⟨hl1, hl2, hx1, hx2, _, hbr, hl3⟩ := hsp
        have Hl3 : Hid (l < s + 1 + (n - (s + 1)) → t l ≠ 10 ∧ t l ≠ 32) := hl3
        have Hr : Hid (skipF t (n - (s + 1)) (s + 1) (s + 1) 0 = (l, nx, br)) := hr
        clear hr hl3
        go_upto_block 2 with fail
        go_cut [10, 11, 12] (fun vnx vbr vl wx => vnx = .int .i64 nx ∧ vbr = .int .i64 br ∧ vl = .int .i64 l ∧ wr = wx)
        case first =>
          go_wp2_with fail
          go_loop [10, 11, 12] (fun vnx vbr vl => ∃ l' nx' br' : Nat, l' ≤ n ∧ nx' ≤ l' ∧ br' ≤ l' ∧ s < l' ∧ vnx = .int .i64 nx' ∧ vbr = .int .i64 br' ∧ vl = .int .i64 l' ∧ Hid (skipF t (n - l') l' nx' br' = (l, nx, br))) (fun _ _ vl => n - (intOf vl).toNat)
          case atStart => exact ⟨s + 1, s + 1, 0, by omega, Nat.le_refl _, Nat.zero_le _, by omega, by go_num, rfl, by go_num, Hr⟩
          case round =>
            obtain ⟨l', nx', br', q1, q2, q3, q4, rfl, rfl, rfl, HQ⟩ := hrel
            by_cases hln : l' < n
            · have g2 := hMr.tx l' hln
              rw [Nat.zero_add] at g2
              obtain ⟨x, hx⟩ : ∃ x, t l' = x := ⟨_, rfl⟩
              rw [hx] at g2
              have HE : Hid (skipF t (n - l') l' nx' br' = if x = 10 then skipF t (n - (l' + 1)) (l' + 1) (l' + 1) (br' + 1) else if x = 32 then skipF t (n - (l' + 1)) (l' + 1) nx' br' else (l', nx', br')) := by
                unfold Hid
                rw [show n - l' = (n - (l' + 1)) + 1 by omega]
                simp only [skipF]
                rw [hx]
              clear hx
              by_cases h10 : x = 10
              · have HE' : Hid (skipF t (n - (l' + 1)) (l' + 1) (l' + 1) (br' + 1) = (l, nx, br)) := by rw [Hid, ← HQ.out, HE.out, if_pos h10]
                clear HE
                subst h10
                go_wp2
                go_round
                case rel => exact ⟨l' + 1, l' + 1, br' + 1, by omega, Nat.le_refl _, by omega, by omega, by go_num, by go_num, by go_num, HE'⟩
                case measure => simp [intOf]; omega
              · have e10 : (x == 10) = false := by simp [h10]
                by_cases h32 : x = 32
                · have HE' : Hid (skipF t (n - (l' + 1)) (l' + 1) nx' br' = (l, nx, br)) := by rw [Hid, ← HQ.out, HE.out, if_neg h10, if_pos h32]
                  clear HE e10 h10
                  subst h32
                  go_wp2
                  go_round
                  case rel => exact ⟨l' + 1, nx', br', by omega, by omega, by omega, by omega, rfl, rfl, by go_num, HE'⟩
                  case measure => simp [intOf]; omega
                · have HE' : Hid ((l', nx', br') = (l, nx, br)) := by rw [Hid, ← HQ.out, HE.out, if_neg h10, if_neg h32]
                  have e32 : (x != 32) = true := by simp [h32]
                  clear HE
                  go_wp2
                  go_meet
                  case rel =>
                    have := HE'.out
                    simp only [Prod.mk.injEq] at this
                    obtain ⟨rfl, rfl, rfl⟩ := this
                    exact ⟨rfl, rfl, rfl, rfl⟩
            · have HE' : Hid ((l', nx', br') = (l, nx, br)) := by
                rw [Hid, ← HQ.out, show n - l' = 0 by omega]; rfl
              go_wp2
              go_meet
              case rel =>
                have := HE'.out
                simp only [Prod.mk.injEq] at this
                obtain ⟨rfl, rfl, rfl⟩ := this
                exact ⟨rfl, rfl, rfl, rfl⟩
        case rest =>
          obtain ⟨rfl, rfl, rfl, rfl⟩ := hcut
          by_cases hstop : l = n ∨ (l : Int) - (nx : Int) ≤ col ∨ t l = 35
          · have HU' : Hid (R = (true, cutOf t n a, acc, m)) := by
              rw [Hid, HRm.out]
              refine loopR_none (HS.out ▸ H10.out) ?_
              rw [← HS.out]; exact nextOf_none Hr.out hstop
            by_cases hln : l = n
            · have e1 : ((l : Int) == (n : Int)) = true := by simp [hln]
              clear hstop hln
              go_wp2
              go_meet
              case rel => exact ⟨vd', true, _, acc, m, HU', .inr ⟨rfl, rfl, a, han, Hta, by rw [HS.out], rfl, hV, hMr⟩⟩
            · have e1 : ((l : Int) == (n : Int)) = false := by simp; omega
              have hlt : l < n := by omega
              have g2 := hMr.tx l (by omega)
              rw [Nat.zero_add] at g2
              by_cases hcol : (l : Int) - (nx : Int) ≤ col
              · clear hstop hln
                go_wp2
                go_meet
                case rel => exact ⟨vd', true, _, acc, m, HU', .inr ⟨rfl, rfl, a, han, Hta, by rw [HS.out], rfl, hV, hMr⟩⟩
              · have h35 : t l = 35 := by omega
                rw [h35] at g2
                clear hstop hln h35
                go_wp2
                go_meet
                case rel => exact ⟨vd', true, _, acc, m, HU', .inr ⟨rfl, rfl, a, han, Hta, by rw [HS.out], rfl, hV, hMr⟩⟩
          have hln : l < n := by omega
          have hcol : ¬ (l : Int) - (nx : Int) ≤ col := by omega
          have HN : Hid (nextOf t n col (stopOf t n a) = some (l, br)) := by rw [Hid, ← HS.out]; exact nextOf_next Hr.out hstop
          have e1 : ((l : Int) == (n : Int)) = false := by simp; omega
          have g2 := hMr.tx l (by omega)
          rw [Nat.zero_add] at g2
          obtain ⟨y, hy⟩ : ∃ y, t l = y := ⟨_, rfl⟩
          have e2 : (y == 35) = false := by rw [← hy]; simp; omega
          rw [hy] at g2
          clear hy hstop
          go_upto_region 15 with fail
          go_cut [9, 98] (fun fr s98 wx => wr = wx ∧ s98 = .bool (!m) ∧ ((m = false ∧ fr = .int .i64 (-1) ∧ Hid (a = p ∧ acc = [] ∧ vd' = v0)) ∨ (m = true ∧ fr = .int .i64 nd ∧ Hid (MemO w0 v0 B g n nd t D p wr vd' acc))))
          case first =>
            rcases hm with ⟨rfl, rfl, H⟩ | ⟨rfl, rfl, H⟩
            · go_wp2
              go_meet
              case rel => exact ⟨rfl, rfl, .inl ⟨by trivial, rfl, H⟩⟩
            · go_wp2
              go_meet
              case rel => exact ⟨rfl, rfl, .inr ⟨by trivial, rfl, H⟩⟩
          case rest =>
          clear hm g1 g2 e1 e2
          obtain ⟨rfl, rfl, hm⟩ := hcut
          go_upto_if 98 with fail
          go_cut [9] (fun fr wx => fr = .int .i64 nd ∧ ∃ vd1, MemO w0 v0 B g n nd t D p wx vd1 (if m then acc else sub t p (cutOf t n a)))
          case first =>
            rcases hm with ⟨rfl, rfl, H⟩ | ⟨rfl, rfl, H⟩
            · rcases hV with ⟨_, rfl⟩ | ⟨h1, _⟩
              · have hMe : Mem w0 v0 B g n nd t D p wr v0 [] := by
                  have h1 := hMr
                  rw [H.out.2.1, H.out.2.2] at h1
                  exact h1
                have hc7 := hMe.c7
                rw [hO.form] at hc7
                have hDl := hO.len
                have HD' : Hid (D.length = nd) := hDl
                clear hDl
                go_wp2_with (at_builtin; refine wpList_append_grows _ rfl (.tmp 108) (.tmp 109) 22 rfl 5 i0 (.int .u8 0) 1 1 Trym.underlying22 hi hz0 hz1 hz2 rfl (by decide) ao nd nd (u8s D) rfl ?b1 ?b2 ?b3 ⟨g, p, none⟩ (cutOf t n a - p) (n - p) (u8s (sub t p (cutOf t n a))) rfl ?c0 ?c1 ?c2 ?c3 ?c4 ?c5 ?_)
                case b1 => first | exact hO.nil | (intro h; exact ⟨hO.nil h, hO.nil h⟩)
                case b2 => rw [u8s_length, HD'.out]; try omega
                case b3 => exact hO.at hMe.bel
                case c0 => rw [u8s_length, sub_length]; try omega
                case c1 => first | exact hMr.tx.news' (by omega) | exact hMr.tx.news (by omega)
                case c2 => exact u8s_one _
                case c3 => have := H.out.1; omega
                case c4 => unfold maxLen; omega
                case c5 => omega
                intro v' w2 hown hgrow
                obtain ⟨g', cap', hv', _, _⟩ := hown.form (by have := H.out.1; omega)
                subst hv'
                have k7 := hMe.mid (World.grownBy.refl _ _) (row := none) (by simp) hgrow
                have hMn := hMe.moved (sub_length t p (cutOf t n a)) (by have := H.out.1; omega) hown hgrow
                obtain ⟨k7, k7f⟩ := k7
                rw [hO.form] at k7
                clear hown hgrow hc7
                go_wp2
                go_meet
                case rel => exact ⟨rfl, _, hMn⟩
              · cases h1
            · go_wp2
              go_meet
              case rel => exact ⟨rfl, vd', H.out⟩
          case rest =>
          obtain ⟨rfl, vd1, hM1⟩ := hcut
          obtain ⟨acc1, hacc1⟩ : ∃ acc1, acc1 = (if m then acc else sub t p (cutOf t n a)) := ⟨_, rfl⟩
          have hla1 : acc1.length ≤ cutOf t n a := by
            rw [hacc1]
            split
            · exact hlen
            · rw [sub_length]; omega
          rw [← hacc1] at hM1
          have HA : Hid (acc1 = (if m then acc else sub t p (cutOf t n a))) := hacc1
          clear hacc1 hMr hc0 hV hm hlen
          go_upto_if 114 with fail
          go_cut [11] (fun vb wx => vb = .int .i64 br ∧ ∃ vd2, MemO w0 v0 B g n nd t D p wx vd2 (if br = 0 then acc1 ++ [32] else acc1))
          case first =>
            by_cases hb0 : br = 0
            · have HB : Hid (br = 0) := hb0
              have e0 : ((br : Int) == 0) = true := by simp [hb0]
              clear hb0
              obtain ⟨av, cv, rfl⟩ := hM1.shape
              have hc7 := hM1.c7
              go_wp2_with (at_builtin; refine wpList_append_lies _ rfl (.tmp 119) (.tmp 120) 22 rfl w0.heap.size 5 i0 (.int .u8 0) 1 1 Trym.underlying22 hi hz0 hz1 hz2 rfl (by decide) _ _ _ rfl (hM1.row.alloc _) ⟨wc.heap.size, 0, none⟩ 1 1 (u8s [32]) rfl rfl ?c1 ?c2 (by decide) ?c4 ?c5 ?c6 _ rfl ?_)
              case c1 =>
                intro j u hj
                match j, hj with
                | 0, hj => simp [u8s] at hj; subst hj; simp
              case c2 => exact u8s_one _
              case c4 => unfold maxLen; omega
              case c5 => omega
              case c6 => have := hM1.bs; simp; omega
              intro g' cap w2 hown hgrow hat hlt
              obtain ⟨k7, k7f⟩ := hM1.mid (World.grownBy_alloc _ _ _) hM1.nB hgrow
              have hMn := hM1.stored (World.grownBy_alloc _ _ _) (news := [32]) rfl hown hgrow (by simpa using hat) hlt
              clear hown hgrow hat hlt hc7
              go_wp2
              go_meet
              case rel => exact ⟨rfl, _, by rw [if_pos HB.out]; exact hMn⟩
            · have e0 : ((br : Int) == 0) = false := by simp; omega
              go_wp2
              go_meet
              case rel => exact ⟨rfl, vd1, by rw [if_neg hb0]; exact hM1⟩
          case rest =>
          clear hM1
          obtain ⟨rfl, vd2, hM2⟩ := hcut
          go_upto_block 4 with fail
          go_cut [11] (fun vb wx => ∃ vd3, MemO w0 v0 B g n nd t D p wx vd3 (acc1 ++ sep br))
          case first =>
            go_wp2_with fail
            go_loopg [11] br (fun gk vb w3 => ∃ k vd3, k = gk ∧ k ≤ br ∧ vb = .int .i64 k ∧ MemO w0 v0 B g n nd t D p w3 vd3 ((if br = 0 then acc1 ++ [32] else acc1) ++ List.replicate (br - k) 10))
            case atStart => exact ⟨br, vd2, rfl, Nat.le_refl _, rfl, by simpa using hM2⟩
            case round =>
              obtain ⟨k, vd3, rfl, hkb, rfl, hM3⟩ := hrel
              by_cases hk0 : 0 < k
              · obtain ⟨ac3, hac3⟩ : ∃ ac3, ac3 = (if br = 0 then acc1 ++ [32] else acc1) ++ List.replicate (br - k) 10 := ⟨_, rfl⟩
                have hl3 : ac3.length ≤ 2 * n := by
                  rw [hac3, if_neg (by omega)]; simp; omega
                have HA3 : Hid (ac3 ++ [10] = (if br = 0 then acc1 ++ [32] else acc1) ++ List.replicate (br - (k - 1)) 10) := by
                  rw [Hid, hac3, show br - (k - 1) = (br - k) + 1 by omega, List.replicate_succ', List.append_assoc]
                rw [← hac3] at hM3
                clear hac3
                obtain ⟨av, cv, rfl⟩ := hM3.shape
                have hc7 := hM3.c7
                go_wp2_with (at_builtin; refine wpList_append_lies _ rfl (.tmp 132) (.tmp 133) 22 rfl w0.heap.size 5 i0 (.int .u8 0) 1 1 Trym.underlying22 hi hz0 hz1 hz2 rfl (by decide) _ _ _ rfl (hM3.row.alloc _) ⟨wr.heap.size, 0, none⟩ 1 1 (u8s [10]) rfl rfl ?c1 ?c2 (by decide) ?c4 ?c5 ?c6 _ rfl ?_)
                case c1 =>
                  intro j u hj
                  match j, hj with
                  | 0, hj => simp [u8s] at hj; subst hj; simp [Addr.add]
                case c2 => exact u8s_one _
                case c4 => unfold maxLen; omega
                case c5 => omega
                case c6 => have := hM3.bs; simp; omega
                intro g' cap w2 hown hgrow hat hlt
                obtain ⟨k7, k7f⟩ := hM3.mid (World.grownBy_alloc _ _ _) hM3.nB hgrow
                have hMn := hM3.stored (World.grownBy_alloc _ _ _) (news := [10]) rfl hown hgrow (by simpa using hat) hlt
                clear hown hgrow hat hlt hc7
                go_wp2
                go_roundg (k - 1)
                case measure => omega
                case rel => exact ⟨k - 1, _, rfl, by omega, by go_num, by rw [← HA3.out]; exact hMn⟩
              · have hk : k = 0 := by omega
                have HM : Hid (MemO w0 v0 B g n nd t D p wr vd3 (acc1 ++ sep br)) := by
                  have he : (if br = 0 then acc1 ++ [32] else acc1) ++ List.replicate (br - k) 10 = acc1 ++ sep br := by
                    unfold sep
                    by_cases hb0 : br = 0
                    · simp [hb0]
                    · simp [hb0, hk]
                  rw [he] at hM3
                  exact hM3
                clear hM3
                go_wp2
                go_meet
                case rel => exact ⟨vd3, HM.out⟩
          case rest =>
          clear hM2
          obtain ⟨vd3, hM3⟩ := hcut
          obtain ⟨acc2, hacc2⟩ : ∃ acc2, acc2 = acc1 ++ sep br := ⟨_, rfl⟩
          have hla2 : acc2.length ≤ l := by
            rw [hacc2, List.length_append]
            have := sep_length br
            omega
          have hpos2 : 0 < acc2.length := by
            rw [hacc2, List.length_append]
            have : 0 < (sep br).length := by
              unfold sep; split <;> simp; omega
            omega
          rw [← hacc2] at hM3
          have HA2 : Hid (acc2 = acc1 ++ sep br) := hacc2
          clear hacc2
          have hl3 := Hl3.out (by omega)
          have Hl3' : Hid (t l ≠ 32 ∧ t l ≠ 10) := ⟨hl3.2, hl3.1⟩
          clear hl3
          go_wp2_with fail
          refine (line36 B g n l t _ hn hln HL.out Hl3'.out.1 Hl3'.out.2 hM3.tx hM3.c0).mono ?_
          rintro e w' ⟨⟨hcy, rfl⟩ | ⟨hcy, rfl⟩, hw⟩
          · obtain rfl := hw.symm
            have HU' : Hid (R = (false, p, acc2, true)) := by
              rw [Hid, HRm.out, loopR_colon (HS.out ▸ H10.out) HN.out hcy, HA2.out, HA.out]
            clear hcy HRm
            obtain ⟨g3, c3, hv3, _, _⟩ := hM3.row.form (by omega)
            rw [hv3] at hM3
            clear hv3
            have hc7 := hM3.c7
            have hf7 := hM3.f7
            have hcap := own_cap hM3.row
            go_wp2_with (at_builtin; refine wpList_append_own_none rfl (.tmp 148) (.tmp 149) 22 rfl w0.heap.size 5 i0 1 Trym.underlying22 hi _ _ _ rfl hM3.row rfl ?_)
            go_roundg 0
            case measure => omega
            case rel => exact ⟨_, acc2, hM3.same.toMem, .inl ⟨rfl, true, HU'⟩⟩
          · obtain rfl := hw.symm
            have HU' : Hid (R = loopR t n col p f' l (acc2 ++ sub t l (cutOf t n l)) true) := by
              rw [Hid, HRm.out, loopR_next (HS.out ▸ H10.out) HN.out hcy, HA2.out, HA.out]
            clear hcy HRm
            have hcg' := cutOf_gt t hln HL.out Hl3'.out.1 Hl3'.out.2
            have hcl' := cutOf_le t n l
            have hsl' := stopOf_lt t hln
            obtain ⟨g3, c3, hv3, _, _⟩ := hM3.row.form (by omega)
            rw [hv3] at hM3
            clear hv3
            have hc7 := hM3.c7
            go_wp2_with (at_builtin; refine wpList_append_lies _ rfl (.tmp 148) (.tmp 149) 22 rfl w0.heap.size 5 i0 (.int .u8 0) 1 1 Trym.underlying22 hi hz0 hz1 hz2 rfl (by decide) _ _ _ rfl hM3.row ⟨g, l, none⟩ (cutOf t n l - l) (n - l) (u8s (sub t l (cutOf t n l))) rfl ?c0 ?c1 ?c2 ?c3 ?c4 ?c5 ?c6 _ rfl ?_)
            case c0 => rw [u8s_length, sub_length]; omega
            case c1 => first | exact hM3.tx.news' (by omega) | exact hM3.tx.news (by omega)
            case c2 => exact u8s_one _
            case c3 => omega
            case c4 => unfold maxLen; omega
            case c5 => omega
            case c6 => exact hM3.bs
            intro g' cap w2 hown hgrow hat hlt
            obtain ⟨k7, k7f⟩ := hM3.mid (World.grownBy.refl _ _) hM3.nB hgrow
            have hMn := hM3.stored (World.grownBy.refl _ _) (sub_length t l (cutOf t n l)) hown hgrow hat hlt
            have hcap := own_cap hown
            clear hown hgrow hat hlt hc7
            go_wp2
            go_roundg (n - l)
            case measure => omega
            case rel =>
              refine ⟨_, _, hMn.toMem, .inr ⟨rfl, l, f', true, rfl, hln, Hl3', by omega, rfl, HU', ?_, .inr ⟨rfl, g', cap, _, _, _, ?_, ?_, rfl, rfl⟩, .inr ⟨rfl, rfl, hMn⟩⟩⟩
              · rw [List.length_append, sub_length]; omega
              · rw [List.length_append, sub_length]; omega
              · rw [List.length_append, sub_length]; omega
      · have HU' : Hid (R = (true, cutOf t n a, acc, m)) := by rw [Hid, HRm.out, loopR_end hx10]
        obtain ⟨x, hx⟩ : ∃ x, t (stopOf t n a) = x := ⟨_, rfl⟩
        rw [hx] at g1 hx10
        have e10 : (x == 10) = false := by simp [hx10]
        clear hx
        go_wp2
        go_meet
        case rel => exact ⟨vd', true, _, acc, m, HU', .inr ⟨rfl, rfl, a, han, Hta, rfl, rfl, hV, hMr⟩⟩
  case rest =>
  obtain ⟨vd', ok, pos, acc, m, HRR, ⟨rfl, rfl, hMx⟩ | ⟨rfl, rfl, a, han, Hta, rfl, Hpos, hV, hMx⟩⟩ := hcut
  · go_wp2
    go_ret2
    exact ⟨vd', false, pos, acc, m, HRR.out, .inl ⟨rfl, rfl, hMx⟩⟩
  have hcg := cutOf_gt t han HL.out Hta.out.1 Hta.out.2
  have hcl := cutOf_le t n a
  have hsl := stopOf_lt t han
  have hc0 := hMx.c0
  have hc1 := hMx.c1
  have hf1 := hMx.f1
  have Hst : Hid (trimE t a (stopOf t n a) = pos) := Hpos.out.symm
  go_wp2_with fail
  have hM2 := hMx.posed (stopOf t n a)
  clear hc0 hc1 hf1 hMx
  generalize wc.setCell ⟨B, 1, none⟩ (.int .i64 (stopOf t n a)) = wy at *
  go_loopg [] (stopOf t n a) (fun gk wr => ∃ k, k = gk ∧ a < k ∧ k < n ∧ Hid (trimE t a k = pos) ∧ Mem w0 v0 B g n nd t D k wr vd' acc)
  case atStart => exact ⟨_, rfl, by omega, hsl, Hst, hM2⟩
  case round =>
    obtain ⟨k, rfl, hak, hkn, HK, hMk⟩ := hrel
    have hc0 := hMk.c0
    have hc1 := hMk.c1
    have hf1 := hMk.f1
    have g1 := hMk.tx (k - 1) (by omega)
    rw [Nat.zero_add] at g1
    obtain ⟨x, hx⟩ : ∃ x, t (k - 1) = x := ⟨_, rfl⟩
    rw [hx] at g1
    have HX : Hid (t (k - 1) = x) := hx
    clear hx
    by_cases h32 : x = 32
    · have hka : a < k - 1 := by
        have : a ≠ k - 1 := by
          intro e
          exact Hta.out.1 (by rw [e, HX.out]; exact h32)
        omega
      have HK' : Hid (trimE t a (k - 1) = pos) := by
        rw [Hid, ← HK.out, show k = (k - 1) + 1 by omega, trimE_sp t a (k - 1) (by omega) (by rw [HX.out]; exact h32)]
        rfl
      subst h32
      go_wp2
      go_quiet (fail)
      go_wp2
      go_roundg (k - 1)
      case measure => omega
      case rel => exact ⟨k - 1, rfl, hka, by omega, HK', by have := (hMk.drewN nq).posed (k - 1); rw [show ((k - 1 : Nat) : Int) = (k : Int) - 1 by omega] at this; exact this⟩
    · have HK' : Hid (k = pos) := by
        have := trimE_no t a (k - 1) (by rw [HX.out]; exact h32)
        rw [show k - 1 + 1 = k by omega] at this
        rw [Hid, ← HK.out, this]
      have e32 : (x == 32) = false := by simp [h32]
      go_wp2
      go_quiet (fail)
      go_wp2
      go_ret2
      exact ⟨vd', true, pos, acc, m, HRR.out, .inr ⟨rfl, _, rfl, hV.rd (hMk.drewN nq) HD.out (by have := HK'.out; omega), HK'.out ▸ hMk.drewN nq⟩⟩
end
end Go.Proofs.Qxb6603316aMods
