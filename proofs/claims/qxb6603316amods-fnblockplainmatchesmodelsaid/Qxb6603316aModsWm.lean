import Derived.Test.Qxb6603316aModsWl
namespace Go.Proofs.Qxb6603316aMods
open Go.RowKit
set_option linter.unusedVariables false
set_option linter.unusedSimpArgs false

set_option maxRecDepth 100000 in
set_option maxHeartbeats 4000000 in
theorem model19 (g n p : Nat) (col : Int) (t : Nat → Int) (w : World) (hn : n ≤ 1048576) (hp : p < n) (hl : t (n - 1) = 10) (hc : Txt w g 0 n t) (hg : g < w.heap.size) (hs : startB (t p) (t (p + 1)) = true) (R : Bool × Nat × List Int × Bool)
    (hR : R = if colonB t n p then (false, p, [], false) else foldC t n p (chainR t n col n p) (cutOf t n p) [] false) :
    Calls Trym.prog 19 #[.slice (some ⟨g, 0, none⟩) n n, .int .i64 p, .int .i64 col] w fun e w' => ∃ v, ∃ (ok : Bool) (pos : Nat) (acc : List Int) (m : Bool), e = .returned (.tuple #[.bool ok, .int .i64 pos, v, .bool m]) ∧ R = (ok, pos, acc, m) ∧ (∃ b, w.heap.size ≤ b ∧ w'.ownsRow b 5 1 v acc.length (u8s acc)) ∧ Below w.heap.size w w' := by
  have HL : Hid (t (n - 1) = 10) := hl
  have HS := start_ne hs
  have HS' : Hid (t p ≠ 32 ∧ t p ≠ 10) := ⟨HS.2.2.2.2.2.2.2.2.1, HS.2.2.2.2.2.2.2.2.2⟩
  have HR : Hid (R = if colonB t n p then (false, p, [], false) else foldC t n p (chainR t n col n p) (cutOf t n p) [] false) := hR
  clear hl HS hR
  go_enter Trym.func19, Trym.ntmps19
  go_wp2_with (go_at_call 27; refine (start27 g 0 n n p t _ hn hp HL.out hc).mono ?_; rintro e w' ⟨rfl, hw⟩; obtain rfl := hw.symm)
  clear hs
  refine (lines30 g 0 n n p t _ hn hp hc hg).mono ?_
  rintro e w1 ⟨vs, ve, rfl, hs1, he1, hb1⟩
  have hIL : IsLines t n p (linesF t (n - p) p p) := linesF_is HL.out (n - p) p p (by omega) (Nat.le_refl _) (Non.start _ _) (.inl rfl)
  have hLn : (linesF t (n - p) p p).length ≤ n := by have := linesF_len t (n - p) p p; omega
  generalize linesF t (n - p) p p = L at *
  have hLp : 0 < L.length := by
    cases L with
    | nil => simp only [IsLines] at hIL; omega
    | cons q L => simp
  obtain ⟨gs, cs, rfl, _, hgs⟩ := hs1.form hLp
  obtain ⟨ge, ce, rfl, _, hge⟩ := he1.form hLp
  have hst : Stc g n t L gs ge w1 := Stc.of (w0 := w) (fun i hi => (hb1.cell hg).trans (hc i hi)) hs1 he1
  have hg1 : g < w1.heap.size := by have := hb1.size; omega
  clear hs1 he1 hc
  obtain ⟨N, hN⟩ : ∃ N, N = L.length := ⟨_, rfl⟩
  have HN : Hid (N = L.length) := hN
  rw [← hN] at hLn hLp
  rw [← hN]
  clear hN
  obtain ⟨i0, hi, hz0, hz1, hz2⟩ := info_parts Trym.info3
  obtain ⟨j0, hj, hy0, hy1, hy2⟩ := info_parts Trym.info5
  go_upto_block 0 with fail
  go_cut [12, 13] (fun vt vf wx => ∃ (T F : List Nat) (M : Nat), Hid (M = T.length) ∧ wx.ownsRow w1.heap.size 3 1 vt M (T.map vN) ∧ wx.ownsRow w1.heap.size 3 1 vf M (F.map vN) ∧ Below w1.heap.size w1 wx ∧
      SelI t n col p L T F ∧ Hid (chainR t n col n p = prs T F) ∧ M ≤ n)
  case first =>
    go_wp2_with fail
    go_loopg [12, 13] (n - p) (fun gk vt vf wr => ∃ (T F : List Nat) (M f a j : Nat), Hid (M = T.length ∧ a = F.getD (M - 1) 0 ∧ j = T.getD (M - 1) 0) ∧
      SelM w1 g n t L gs ge M T F vt vf wr ∧ SelI t n col p L T F ∧ Hid (SelC t n col p T F f) ∧ M ≤ a + 1 ∧ gk = n - a)
    case atStart =>
      refine ⟨[0], [p], 1, n, p, 0, ⟨rfl, rfl, rfl⟩, ⟨(World.ownsRow_lit w1 #[.int .i64 0] 1 (Nat.le_refl _) (by unfold maxLen; omega) rfl).alloc _, ?_, ?_, ((Below.refl _ _).alloc (Nat.le_refl _) _).alloc (by simp) _, hst.below (((Below.refl _ _).alloc (Nat.le_refl _) _).alloc (by simp) _) hg1 hgs hge⟩, SelI.start hIL hp HS'.out.1 HS'.out.2, SelC.start, by omega, rfl⟩
      · have := World.ownsRow_lit (base := w1.heap.size) (e := 3) (size := 1) (w1.alloc (.cells #[.int .i64 0] 3)) #[.int .i64 p] 1 (by simp) (by unfold maxLen; omega) rfl
        simpa [vN] using this
      · intro g' h1 h2
        simp only [Value.ownBlock, Option.some.injEq] at h1 h2
        omega
    case round =>
      obtain ⟨T, F, M, f, a, j, HM, hSM, hSI, HC, hMa, rfl⟩ := hrel
      have hM0 : 0 < M := by rw [HM.out.1]; exact hSI.pos
      have hLA : LineAt t n L j a := by
        have := hSI.ok (M - 1) (by have := HM.out.1; omega)
        rw [← HM.out.2.1, ← HM.out.2.2] at this
        exact this
      have han : a < n := by have := hLA.le; have := hLA.en; omega
      have hjN : j < N := by rw [HN.out]; exact hLA.lt
      obtain ⟨gt, ct, hvt, _, _⟩ := hSM.hT.form hM0
      obtain ⟨gf, cf, hvf, _, _⟩ := hSM.hF.form hM0
      rw [hvt, hvf] at hSM
      rw [hvt, hvf]
      clear hvt hvf
      have c1 : wr.cell? ⟨gt, M - 1, none⟩ = some (.int .i64 j) := by rw [rowCell hSM.hT (by omega), ← HM.out.2.2]
      have c2 : wr.cell? ⟨gf, M - 1, none⟩ = some (.int .i64 a) := by rw [rowCell hSM.hF (by omega), ← HM.out.2.1]
      have c3 := hSM.st.en j hLA.lt
      have hLe := hLA.le
      have hLn' := hLA.en
      have hstp := hLA.stop HL.out
      obtain ⟨e, he⟩ : ∃ e, e = lnd L j := ⟨_, rfl⟩
      have HE : Hid (e = lnd L j) := he
      rw [← he] at c3 hLe hLn' hstp
      clear he
      have HLA : Hid (LineAt t n L j a) := hLA
      clear hLA
      obtain ⟨f', rfl⟩ : ∃ f', f = f' + 1 := ⟨f - 1, by
        have := HC.out.1
        have h2 := HM.out
        rw [← h2.1, ← h2.2.1] at this
        omega⟩
      go_upto_region 8 with fail
      go_cut [18] (fun v wx => v = .int .i64 (stopOf t n a) ∧ SelM w1 g n t L gs ge M T F (.slice (some ⟨gt, 0, none⟩) M ct) (.slice (some ⟨gf, 0, none⟩) M cf) wx)
      case first =>
        go_quiet ((go_at_call 31; exact Calls.quiet_of_same (piece31' g 0 n n a e t _ hn hLe hLn' hSM.st.tx HL.out (by rw [HE.out]; exact HLA.out.brk) (by rw [HE.out]; exact HLA.out.non))))
        go_wp2
        go_meet
        case rel => exact ⟨rfl, hSM.drewN nq⟩
      case rest =>
      clear c1 c2 c3 hSM
      obtain ⟨rfl, hSM⟩ := hcut
      have c3 := hSM.st.en j HLA.out.lt
      rw [← HE.out] at c3
      by_cases hse : stopOf t n a = e
      · have hne : ((stopOf t n a : Int) != (e : Int)) = false := by simp [hse]
        have H10 : Hid (t (stopOf t n a) = 10) := by rw [Hid, hse, HE.out]; exact HLA.out.brk
        have HSE : Hid (stopOf t n a = e) := hse
        clear hse hstp
        obtain ⟨l, nx, br, hr⟩ : ∃ l nx br, skipF t (n - (e + 1)) (e + 1) (e + 1) 0 = (l, nx, br) := ⟨_, _, _, rfl⟩
        have Hr : Hid (skipF t (n - (e + 1)) (e + 1) (e + 1) 0 = (l, nx, br)) := hr
        clear hr
        go_upto_block 2 with fail
        go_cut [19] (fun v wx => SelM w1 g n t L gs ge M T F (.slice (some ⟨gt, 0, none⟩) M ct) (.slice (some ⟨gf, 0, none⟩) M cf) wx ∧ ∃ (jj : Nat), v = .int .i64 jj ∧ j < jj ∧ jj ≤ N ∧ ((jj = N ∧ Hid (l = n)) ∨
          (jj < N ∧ ∃ (x y ld : Nat), x + ld < y ∧ y < n ∧ Hid (lst L jj = x ∧ lnd L jj = y ∧ ledE t x y = x + ld ∧ IsLines t n x (L.drop jj) ∧ l = x + ld ∧ nx = x ∧ br = jj - j - 1))))
        case first =>
          go_wp2_with fail
          go_loopg [19] (N - (j + 1)) (fun gk v wx => SelM w1 g n t L gs ge M T F (.slice (some ⟨gt, 0, none⟩) M ct) (.slice (some ⟨gf, 0, none⟩) M cf) wx ∧ ∃ (jj x : Nat), jj + gk = N ∧ j < jj ∧ v = .int .i64 jj ∧ Hid (IsLines t n x (L.drop jj) ∧ skipF t (n - x) x x (jj - j - 1) = (l, nx, br)))
          case atStart => exact ⟨hSM, j + 1, e + 1, by omega, by omega, by go_num, ⟨by rw [HE.out]; exact HLA.out.more, by rw [show j + 1 - j - 1 = 0 by omega]; exact Hr.out⟩⟩
          case round =>
            obtain ⟨hSx, jj, x, hjg, hjj, rfl, HX⟩ := hrel
            by_cases hlt : jj < N
            · have hlt' : (jj : Int) < (N : Int) := by omega
              have hI := isLines_at HX.out.1 (by rw [← HN.out]; exact hlt)
              have d1 := hSx.st.st jj (by rw [← HN.out]; exact hlt)
              have d2 := hSx.st.en jj (by rw [← HN.out]; exact hlt)
              have HX1 : Hid (lst L jj = x) := hI.1
              rw [hI.1] at d1
              obtain ⟨y, hy⟩ : ∃ y, y = lnd L jj := ⟨_, rfl⟩
              rw [← hy] at hI d2
              have HY : Hid (y = lnd L jj) := hy
              have HI : Hid _ := hI
              have hxy := hI.2.1
              have hyn := hI.2.2.1
              clear hI hy
              have hle := ledE_spec t hxy
              obtain ⟨ld, hld⟩ : ∃ ld, ledE t x y = x + ld := ⟨ledE t x y - x, by omega⟩
              rw [hld] at hle
              have hle2 := hle.2.1
              have HLD : Hid (ledE t x y = x + ld) := hld
              clear hle hld
              by_cases hbl : x + ld = y
              · have ebl : ((ld : Int) == (y : Int) - (x : Int)) = true := by simp; omega
                have HX' : Hid (IsLines t n (y + 1) (L.drop (jj + 1)) ∧ skipF t (n - (y + 1)) (y + 1) (y + 1) (jj + 1 - j - 1) = (l, nx, br)) := by
                  refine ⟨HI.out.2.2.2.2.2, ?_⟩
                  rw [← HX.out.2, skip_blank hxy hyn HI.out.2.2.2.1 (HLD.out.trans hbl), show jj + 1 - j - 1 = jj - j - 1 + 1 by omega]
                clear HI
                have Hbl : Hid (x + ld = y) := hbl
                clear hbl
                go_wp2
                go_quiet ((go_at_call 32; exact Calls.quiet_of_same (lead32' g 0 n n x y ld t _ hn hxy (Nat.le_of_lt hyn) hSx.st.tx HLD.out)))
                go_wp2
                go_roundg (gk - 1)
                case measure => omega
                case rel => exact ⟨hSx.drewN nq, jj + 1, y + 1, by omega, by omega, by go_num, HX'⟩
              · have ebl : ((ld : Int) == (y : Int) - (x : Int)) = false := by simp; omega
                have HX' : Hid (lst L jj = x ∧ lnd L jj = y ∧ ledE t x y = x + ld ∧ IsLines t n x (L.drop jj) ∧ l = x + ld ∧ nx = x ∧ br = jj - j - 1) := by
                  have h1 := HX.out.2
                  rw [skip_line hxy hyn HI.out.2.2.2.2.1 (by rw [HLD.out]; exact hbl), HLD.out] at h1
                  simp only [Prod.mk.injEq] at h1
                  exact ⟨HX1.out, HY.out.symm, HLD.out, HX.out.1, h1.1.symm, h1.2.1.symm, h1.2.2.symm⟩
                clear HI
                go_wp2
                go_quiet ((go_at_call 32; exact Calls.quiet_of_same (lead32' g 0 n n x y ld t _ hn hxy (Nat.le_of_lt hyn) hSx.st.tx HLD.out)))
                go_wp2
                go_meet
                case rel => exact ⟨hSx.drewN nq, jj, rfl, hjj, by omega, .inr ⟨hlt, x, y, ld, by omega, hyn, HX'⟩⟩
            · have hjN' : jj = N := by omega
              have hd : decide ((jj : Int) < (N : Int)) = false := by simp; omega
              have HX' : Hid (l = n) := by
                have h1 := isLines_end HX.out.1 (by rw [← HN.out]; omega)
                have h2 := HX.out.2
                rw [h1, Nat.sub_self] at h2
                simp only [skipF, Prod.mk.injEq] at h2
                exact h2.1.symm
              have HjN : Hid (jj = N) := hjN'
              clear hjN'
              go_wp2
              go_quiet (fail)
              go_wp2
              go_meet
              case rel => exact ⟨hSx.drewN nq, jj, rfl, hjj, by omega, .inl ⟨HjN.out, HX'⟩⟩
        case rest =>
        clear c3 hSM
        obtain ⟨hSM, jj, rfl, hjj, hjN2, hcase⟩ := hcut
        rcases hcase with ⟨hjeq, Hln⟩ | ⟨hjlt, x, y, ld, hxy, hyn, HX⟩
        · have e1 : ((jj : Int) == (N : Int)) = true := by simp [hjeq]
          have HEND : Hid (chainR t n col n p = prs T F) := by
            refine HC.out.end2 ?_
            rw [← HM.out.1, ← HM.out.2.1, HSE.out]
            exact nextOf_none Hr.out (.inl Hln.out)
          clear hjeq
          go_wp2
          go_meet
          case rel => exact ⟨T, F, M, HM.out.1, hSM.hT, hSM.hF, hSM.bel, hSI, HEND, by omega⟩
        · have e1 : ((jj : Int) == (N : Int)) = false := by simp; omega
          have hjL : jj < L.length := by rw [← HN.out]; exact hjlt
          have d1 := hSM.st.st jj hjL
          have d2 := hSM.st.en jj hjL
          rw [HX.out.1] at d1
          rw [HX.out.2.1] at d2
          go_upto_region 14 with fail
          go_quiet ((go_at_call 32; exact Calls.quiet_of_same (lead32' g 0 n n x y ld t _ hn (by omega) (by omega) hSM.st.tx HX.out.2.2.1)))
          have hSM2 := hSM.drewN nq
          clear hSM d1 d2
          generalize wc.drewN nq = wz at *
          have d1 := hSM2.st.st jj hjL
          rw [HX.out.1] at d1
          have d3 := hSM2.st.tx (x + ld) (by omega)
          rw [Nat.zero_add] at d3
          obtain ⟨z, hz⟩ : ∃ z, t (x + ld) = z := ⟨_, rfl⟩
          rw [hz] at d3
          have HZ : Hid (t (x + ld) = z) := hz
          clear hz
          have HLN : Hid ((l : Int) - (nx : Int) = (ld : Int)) := by
            rw [Hid, HX.out.2.2.2.2.1, HX.out.2.2.2.2.2.1]; omega
          have HLZ : Hid (t l = z) := by rw [Hid, HX.out.2.2.2.2.1]; exact HZ.out
          by_cases hcl : (ld : Int) ≤ col
          · have HEND : Hid (chainR t n col n p = prs T F) := by
              refine HC.out.end2 ?_
              rw [← HM.out.1, ← HM.out.2.1, HSE.out]
              exact nextOf_none Hr.out (.inr (.inl (by rw [HLN.out]; exact hcl)))
            go_wp2
            go_meet
            case rel => exact ⟨T, F, M, HM.out.1, hSM2.hT, hSM2.hF, hSM2.bel, hSI, HEND, by omega⟩
          by_cases h35 : z = 35
          · have HEND : Hid (chainR t n col n p = prs T F) := by
              refine HC.out.end2 ?_
              rw [← HM.out.1, ← HM.out.2.1, HSE.out]
              exact nextOf_none Hr.out (.inr (.inr (HLZ.out.trans h35)))
            subst h35
            go_wp2
            go_meet
            case rel => exact ⟨T, F, M, HM.out.1, hSM2.hT, hSM2.hF, hSM2.bel, hSI, HEND, by omega⟩
          have e35 : (z == 35) = false := by simp [h35]
          have HNX : Hid (nextOf t n col (stopOf t n a) = some (x + ld, jj - j - 1)) := by
            rw [Hid, HSE.out, nextOf_next Hr.out (by rw [HLN.out, HLZ.out]; have := HX.out.2.2.2.2.1; omega), HX.out.2.2.2.2.1, HX.out.2.2.2.2.2.2]
          have hs := ledE_spec t (show x ≤ y by omega)
          rw [HX.out.2.2.1] at hs
          have HLA2 : Hid (LineAt t n L jj (x + ld)) := by
            have hI := isLines_at HX.out.2.2.2.1 hjL
            refine LineAt.of HX.out.2.2.2.1 hjL (by omega) (by rw [HX.out.2.1]; omega) (hs.2.2.2 hxy) ?_
            have hno := hI.2.2.2.2.1
            rw [HX.out.2.1] at hno
            exact hno _ (by omega) hxy
          have hal : a < x + ld := by
            have := nextOf_some (stopOf_lt t han) HNX.out
            have := stopOf_ge t n a
            omega
          clear hs
          have hbs := hSM2.bel.size
          go_wp2_with (at_builtin; refine wpList_append_lies _ rfl (.tmp 128) (.tmp 130) 47 rfl w1.heap.size 3 i0 (.int .i64 0) 1 8 Trym.underlying47 hi hz0 hz1 hz2 rfl (by decide) _ _ _ rfl (hSM2.hT.alloc _) ⟨wz.heap.size, 0, none⟩ 1 1 [vN jj] rfl rfl ?c1 ?c2 (by decide) ?c3 ?c4 ?c5 _ rfl ?_)
          case c1 =>
            intro j u hj
            match j, hj with
            | 0, hj => simp at hj; subst hj; simp [Addr.add, vN]
          case c2 => first | rfl | (intro u hu; simp at hu; subst hu; rfl)
          case c3 => unfold maxLen; omega
          case c4 => omega
          case c5 => first | omega | (simp; omega)
          intro g1' cap1 w3 hown1 hgrow1 hat1 hlt1
          obtain ⟨hF1, hsep1, hbel1, hsz1⟩ := push_sep (ln := M + 1) (cap := cap1) hSM2.hT hSM2.hF hSM2.sep hSM2.bel hbs hgrow1 (by simpa using hat1)
          have hst3 : Stc g n t L gs ge w3 := hst.below hbel1 hg1 hgs hge
          clear hSM2 hgrow1 hat1 d1 d3
          have d1 := hst3.st jj hjL
          rw [HX.out.1] at d1
          go_wp2_with (at_builtin; refine wpList_append_lies _ rfl (.tmp 132) (.tmp 139) 47 rfl w1.heap.size 3 i0 (.int .i64 0) 1 8 Trym.underlying47 hi hz0 hz1 hz2 rfl (by decide) _ _ _ rfl (hF1.alloc _) ⟨w3.heap.size, 0, none⟩ 1 1 [vN (x + ld)] rfl rfl ?e1 ?e2 (by decide) ?e3 ?e4 ?e5 _ rfl ?_)
          case e1 =>
            intro j u hj
            match j, hj with
            | 0, hj => simp at hj; subst hj; simp [Addr.add, vN]
          case e2 => first | rfl | (intro u hu; simp at hu; subst hu; rfl)
          case e3 => unfold maxLen; omega
          case e4 => omega
          case e5 => first | omega | (simp; omega)
          intro g2' cap2 w4 hown2 hgrow2 hat2 hlt2
          obtain ⟨hT2, hsep2, hbel2, hsz2⟩ := push_sep (ln := M + 1) (cap := cap2) hF1 hown1 hsep1.symm hbel1 (by omega) hgrow2 (by simpa using hat2)
          have hst4 : Stc g n t L gs ge w4 := hst.below hbel2 hg1 hgs hge
          clear hF1 hown1 hsep1 hgrow2 hat2 hst3 d1
          go_wp2
          go_roundg (n - (x + ld))
          case measure => omega
          case rel =>
            have hlen := hSI.len
            have hM1 := HM.out.1
            refine ⟨T ++ [jj], F ++ [x + ld], M + 1, f', x + ld, jj, ⟨by simp [hM1], ?_, ?_⟩, ⟨by simpa using hT2, by simpa using hown2, hsep2.symm, hbel2, hst4⟩, hSI.next HLA2.out ?_, ?_, by omega, rfl⟩
            · have := getD_append_last F (x + ld)
              rw [hlen, ← hM1] at this
              exact this.symm
            · have := getD_append_last T jj
              rw [← hM1] at this
              exact this.symm
            · rw [← hM1, ← HM.out.2.2]; exact hjj
            · refine HC.out.next hlen hSI.pos ?_ ?_ ?_
              · rw [← hM1, ← HM.out.2.1]; exact H10.out
              · rw [← hM1, ← HM.out.2.1]; exact han
              · rw [← hM1, ← HM.out.2.1, ← HM.out.2.2]; exact HNX.out
      · have hne : ((stopOf t n a : Int) != (e : Int)) = true := by simp; omega
        have H10 : Hid (t (stopOf t n a) ≠ 10) := hstp.2 hse
        clear hstp
        go_wp2
        go_meet
        case rel =>
          refine ⟨T, F, M, HM.out.1, hSM.hT, hSM.hF, hSM.bel, hSI, ?_, by omega⟩
          refine HC.out.end1 ?_
          rw [← HM.out.1, ← HM.out.2.1]
          exact H10.out
  case rest =>
  obtain ⟨T, F, M, HM, hT, hF, hb2, hSI, HCH, hMn⟩ := hcut
  have hM0 : 0 < M := by rw [HM.out]; exact hSI.pos
  obtain ⟨gt, ct, rfl, _, hgt⟩ := hT.form hM0
  obtain ⟨gf, cf, rfl, _, hgf⟩ := hF.form hM0
  have hsz2 := hb2.size
  have hbel0 : Below w.heap.size w wc := hb1.trans (hb2.mono (by have := hb1.size; omega))
  have hfix : Fix g n t L gs ge gt gf M T F wc := ⟨hst.below hb2 hg1 hgs hge, fun i hi => rowCell hT hi, fun i hi => rowCell hF hi⟩
  have hg2 : g < wc.heap.size := by omega
  have hgs2 : gs < wc.heap.size := by omega
  have hge2 : ge < wc.heap.size := by omega
  clear hT hF hst
  generalize wc = w2 at *
  go_wp2_with fail
  go_loopg [21, 22, 23] M (fun gk vfo vc vi wr => ∃ (i cut : Nat) (acc : List Int), i + gk = M ∧ vi = .int .i64 i ∧ vc = .int .i64 cut ∧ cut ≤ n ∧ FoldM w2 vfo acc wr ∧ Hid (acc.length ≤ i * 4194304) ∧
    ((i = 0 ∧ Hid (acc = [] ∧ cut = p)) ∨ (0 < i ∧ Hid (i = 1 → p < cut) ∧ Hid (R = foldC t n p ((prs T F).drop (i - 1)) cut acc (decide (1 < i)) ∧ (i = 1 → acc = [])))))
  case atStart => exact ⟨0, p, [], by omega, rfl, rfl, by omega, ⟨World.ownsRow_nil _ _ _ _, Below.refl _ _⟩, Nat.zero_le _, .inl ⟨rfl, ⟨rfl, rfl⟩⟩⟩
  case round =>
    obtain ⟨i, cut, acc, hig, rfl, rfl, hcn, hFM, hal, hcase⟩ := hrel
    have hfx : Fix g n t L gs ge gt gf M T F wr := hfix.below hFM.bel hg2 hgs2 hge2 hgt hgf
    have hbl : Below w.heap.size w wr := hbel0.trans (hFM.bel.mono (by have := hbel0.size; omega))
    by_cases hiM : i < M
    · rcases hcase with ⟨rfl, HA⟩ | ⟨hi0, hpc, HRi⟩
      · have hLA := hSI.ok 0 hSI.pos
        rw [hSI.f0] at hLA
        have c1 := hfx.cT 0 hM0
        have c2 := hfx.cF 0 hM0
        rw [hSI.f0] at c2
        obtain ⟨jt, hjt⟩ : ∃ jt, jt = T.getD 0 0 := ⟨_, rfl⟩
        rw [← hjt] at hLA c1
        clear hjt
        have c3 := hfx.st.en jt hLA.lt
        have hjN : jt < N := by rw [HN.out]; exact hLA.lt
        have hLe := hLA.le
        have hLn' := hLA.en
        obtain ⟨e, he⟩ : ∃ e, e = lnd L jt := ⟨_, rfl⟩
        have HE : Hid (e = lnd L jt) := he
        rw [← he] at c3 hLe hLn'
        have HLA : Hid (LineAt t n L jt p) := hLA
        clear hLA he
        by_cases hcol : colonB t n p = true
        · go_upto_region 32 with fail
          go_quiet ((go_at_call 31; exact Calls.quiet_of_same (piece31' g 0 n n p e t _ hn hLe hLn' hfx.st.tx HL.out (by rw [HE.out]; exact HLA.out.brk) (by rw [HE.out]; exact HLA.out.non))))
          go_wp2
          (try simp only [Exit.inBlock, Exit.then])
          refine bodyPost_ret (results_tmp4 rfl _ _ _) rfl ?_
          exact ⟨_, false, p, [], false, rfl, by rw [HR.out, if_pos hcol], ⟨w2.heap.size, hbel0.size, by have := (hFM.drewN nq).own; rw [HA.out.1] at this; exact this⟩, below_drewN hbl nq⟩
        · have hcol' : colonB t n p = false := by simpa using hcol
          have Hpc : Hid (pcut t n p = cutOf t n p) := by unfold Hid pcut; rw [hcol']; rfl
          have HR' : Hid (R = foldC t n p (prs T F) (cutOf t n p) [] false) := by rw [Hid, HR.out, if_neg hcol, HCH.out]
          clear hcol
          have hcg := cutOf_gt t hp HL.out HS'.out.1 HS'.out.2
          have hcl := cutOf_le t n p
          have hsl := stopOf_lt t hp
          go_upto_region 32 with fail
          go_quiet ((go_at_call 31; exact Calls.quiet_of_same (piece31' g 0 n n p e t _ hn hLe hLn' hfx.st.tx HL.out (by rw [HE.out]; exact HLA.out.brk) (by rw [HE.out]; exact HLA.out.non))))
          go_wp2
          go_roundg (gk - 1)
          case measure => omega
          case rel => exact ⟨1, cutOf t n p, acc, by omega, by go_num, by rw [Hpc.out], by omega, hFM.drewN nq, by have := hal.out; unfold Hid; omega, .inr ⟨by omega, fun _ => hcg, ⟨by rw [HA.out.1]; exact HR'.out, fun _ => HA.out.1⟩⟩⟩
      · have hTl : i < T.length := by rw [← HM.out]; exact hiM
        have hLA := hSI.ok i hTl
        have hinc := hSI.inc (i - 1) (by omega)
        rw [show i - 1 + 1 = i by omega] at hinc
        have hLp' := (hSI.ok (i - 1) (by omega)).lt
        have hdrop := prs_drop (T := T) (F := F) hi0 hTl
        have c1 := hfx.cT i hiM
        have c1' := hfx.cT (i - 1) (by omega)
        have c2 := hfx.cF i hiM
        have hwT : Hid (∀ wx, Fix g n t L gs ge gt gf M T F wx → wx.cell? ⟨gt, i, none⟩ = some (.int .i64 (T.getD i 0)) ∧ wx.cell? ⟨gf, i, none⟩ = some (.int .i64 (F.getD i 0)) ∧ wx.cell? ⟨ge, T.getD i 0, none⟩ = some (.int .i64 (lnd L (T.getD i 0)))) := fun wx h => ⟨h.cT i hiM, h.cF i hiM, h.st.en _ hLA.lt⟩
        obtain ⟨ti, hti⟩ : ∃ ti, ti = T.getD i 0 := ⟨_, rfl⟩
        obtain ⟨tp, htp⟩ : ∃ tp, tp = T.getD (i - 1) 0 := ⟨_, rfl⟩
        obtain ⟨a, ha⟩ : ∃ a, a = F.getD i 0 := ⟨_, rfl⟩
        rw [← hti] at hLA hinc hdrop c1 hwT
        rw [← htp] at hinc hdrop c1' hLp'
        have Htp : Hid (tp = T.getD (i - 1) 0) := htp
        rw [← ha] at hLA hdrop c2 hwT
        clear hti htp ha
        obtain ⟨br, hbr⟩ : ∃ br, br = ti - tp - 1 := ⟨_, rfl⟩
        rw [← hbr] at hdrop
        have hbr1 : br + tp + 1 ≤ ti := by omega
        have hbr2 : ti ≤ br + tp + 1 := by omega
        clear hbr
        have hjN : ti < N := by rw [HN.out]; exact hLA.lt
        have hLe := hLA.le
        have hLn' := hLA.en
        have HLA : Hid (LineAt t n L ti a) := hLA
        obtain ⟨e, he⟩ : ∃ e, e = lnd L ti := ⟨_, rfl⟩
        have HE : Hid (e = lnd L ti) := he
        rw [← he] at hLe hLn' hwT
        clear hLA he
        have HRi' : Hid (R = foldC t n p ((a, br) :: (prs T F).drop i) cut acc (decide (1 < i))) := by
          rw [Hid, HRi.out.1, hdrop]
        have Hi1 : Hid (i = 1 → acc = []) := HRi.out.2
        clear HRi hdrop c1 c1' c2
        obtain ⟨acc1, hacc1⟩ : ∃ acc1, acc1 = (if 1 < i then acc else sub t p cut) := ⟨_, rfl⟩
        have HA1 : Hid (acc1 = (if 1 < i then acc else sub t p cut)) := hacc1
        have Hla1 : Hid (acc1.length ≤ i * 4194304 + n) := by
          have := hal.out
          rw [Hid, hacc1]
          split
          · exact Nat.le_trans this (Nat.le_add_right _ _)
          · rw [sub_length]; exact Nat.le_trans (Nat.sub_le _ _) (Nat.le_trans hcn (Nat.le_add_left _ _))
        have hla1 : acc1.length ≤ 4398047559680 := by have := Hla1.out; omega
        have hal' : acc.length ≤ 4398046511104 := by have := hal.out; omega
        clear hacc1
        go_upto_if 149 with fail
        go_cut [21] (fun vfo wx => FoldM w2 vfo acc1 wx)
        case first =>
          by_cases hi1 : i = 1
          · have e1 : ((i : Int) == 1) = true := by simp [hi1]
            have HA1' : Hid (acc1 = acc ++ sub t p cut) := by rw [Hid, HA1.out, if_neg (by omega), Hi1.out hi1]; rfl
            have hpc' := hpc.out hi1
            clear hi1
            go_wp2_with (at_builtin; refine wpList_append_lies _ rfl (.tmp 150) (.tmp 154) 22 rfl w2.heap.size 5 j0 (.int .u8 0) 1 1 Trym.underlying22 hj hy0 hy1 hy2 rfl (by decide) _ _ _ rfl hFM.own ⟨g, p, none⟩ (cut - p) (n - p) (u8s (sub t p cut)) rfl ?c0 ?c1 ?c2 ?c3 ?c4 ?c5 ?c6 _ rfl ?_)
            case c0 => rw [u8s_length, sub_length]; try omega
            case c1 => first | exact hfx.st.tx.news' (by omega) | exact hfx.st.tx.news (by omega)
            case c2 => exact u8s_one _
            case c3 => omega
            case c4 => unfold maxLen; omega
            case c5 => omega
            case c6 => exact hFM.bel.size
            intro g' cap w3 hown hgrow hat hlt
            have hFn := hFM.push (World.grownBy.refl _ _) (sub_length t p cut) hown hgrow
            clear hown hgrow hat hlt
            go_wp2
            go_meet
            case rel => rw [HA1'.out]; exact hFn
          · have e1 : ((i : Int) == 1) = false := by simp; omega
            have HA1' : Hid (acc1 = acc) := by rw [Hid, HA1.out, if_pos (by omega)]
            go_wp2
            go_meet
            case rel => rw [HA1'.out]; exact hFM
        case rest =>
        clear hFM hfx hbl
        have hip : (0 : Int) < (i : Int) := by omega
        go_upto_if 157 with fail
        go_cut [21] (fun vfo wx => FoldM w2 vfo (acc1 ++ sep br) wx)
        case first =>
          have hfx : Fix g n t L gs ge gt gf M T F wc := hfix.below hcut.bel hg2 hgs2 hge2 hgt hgf
          have hFM := hcut
          clear hcut
          have c1 := (hwT.out _ hfx).1
          have c1' : wc.cell? ⟨gt, i - 1, none⟩ = some (.int .i64 tp) := by rw [Htp.out]; exact hfx.cT (i - 1) (by omega)
          go_upto_region 26 with fail
          go_cut [24] (fun v wx => v = .int .i64 br ∧ FoldM w2 u21 acc1 wx)
          case first =>
            go_quiet (fail)
            go_wp2
            go_meet
            case rel => exact ⟨by go_num, hFM.drewN nq⟩
          case rest =>
          clear hFM hfx c1 c1'
          obtain ⟨rfl, hFM⟩ := hcut
          go_upto_if 170 with fail
          go_cut [21] (fun vfo wx => FoldM w2 vfo (if br = 0 then acc1 ++ [32] else acc1) wx)
          case first =>
            by_cases hb0 : br = 0
            · have HB : Hid (br = 0) := hb0
              have e0 : ((br : Int) == 0) = true := by simp [hb0]
              clear hb0
              go_wp2_with (at_builtin; refine wpList_append_lies _ rfl (.tmp 171) (.tmp 172) 22 rfl w2.heap.size 5 j0 (.int .u8 0) 1 1 Trym.underlying22 hj hy0 hy1 hy2 rfl (by decide) _ _ _ rfl (hFM.own.alloc _) ⟨wc.heap.size, 0, none⟩ 1 1 (u8s [32]) rfl rfl ?c1 ?c2 (by decide) ?c4 ?c5 ?c6 _ rfl ?_)
              case c1 =>
                intro j u hj
                match j, hj with
                | 0, hj => simp [u8s] at hj; subst hj; simp [Addr.add]
              case c2 => exact u8s_one _
              case c4 => unfold maxLen; omega
              case c5 => omega
              case c6 => have := hFM.bel.size; first | omega | (simp; omega)
              intro g' cap w3 hown hgrow hat hlt
              have hFn := hFM.push (World.grownBy_alloc _ _ _) (news := [32]) rfl hown hgrow
              clear hown hgrow hat hlt
              go_wp2
              go_meet
              case rel => rw [if_pos HB.out]; exact hFn
            · have e0 : ((br : Int) == 0) = false := by simp; omega
              go_wp2
              go_meet
              case rel => rw [if_neg hb0]; exact hFM
          case rest =>
          clear hFM
          go_wp2_with fail
          go_loopg [21, 24] br (fun gk vfo vb wx => ∃ k, k = gk ∧ k ≤ br ∧ vb = .int .i64 k ∧ FoldM w2 vfo ((if br = 0 then acc1 ++ [32] else acc1) ++ List.replicate (br - k) 10) wx)
          case atStart => exact ⟨br, rfl, Nat.le_refl _, rfl, by simpa using hcut⟩
          case round =>
            clear hcut
            obtain ⟨k, rfl, hkb, rfl, hF3⟩ := hrel
            by_cases hk0 : 0 < k
            · obtain ⟨ac3, hac3⟩ : ∃ ac3, ac3 = (if br = 0 then acc1 ++ [32] else acc1) ++ List.replicate (br - k) 10 := ⟨_, rfl⟩
              have hl3 : ac3.length ≤ 4398049656832 := by
                rw [hac3, if_neg (by omega)]; simp; omega
              have HA3 : Hid (ac3 ++ [10] = (if br = 0 then acc1 ++ [32] else acc1) ++ List.replicate (br - (k - 1)) 10) := by
                rw [Hid, hac3, show br - (k - 1) = (br - k) + 1 by omega, List.replicate_succ', List.append_assoc]
              rw [← hac3] at hF3
              clear hac3
              go_wp2_with (at_builtin; refine wpList_append_lies _ rfl (.tmp 178) (.tmp 179) 22 rfl w2.heap.size 5 j0 (.int .u8 0) 1 1 Trym.underlying22 hj hy0 hy1 hy2 rfl (by decide) _ _ _ rfl (hF3.own.alloc _) ⟨wr.heap.size, 0, none⟩ 1 1 (u8s [10]) rfl rfl ?c1 ?c2 (by decide) ?c4 ?c5 ?c6 _ rfl ?_)
              case c1 =>
                intro j u hj
                match j, hj with
                | 0, hj => simp [u8s] at hj; subst hj; simp [Addr.add]
              case c2 => exact u8s_one _
              case c4 => unfold maxLen; omega
              case c5 => omega
              case c6 => have := hF3.bel.size; first | omega | (simp; omega)
              intro g' cap w3 hown hgrow hat hlt
              have hFn := hF3.push (World.grownBy_alloc _ _ _) (news := [10]) rfl hown hgrow
              clear hown hgrow hat hlt
              go_wp2
              go_roundg (k - 1)
              case measure => omega
              case rel => exact ⟨k - 1, rfl, by omega, by go_num, by rw [← HA3.out]; exact hFn⟩
            · have hk : k = 0 := by omega
              have HM3 : Hid (FoldM w2 u21 (acc1 ++ sep br) wr) := by
                have he : (if br = 0 then acc1 ++ [32] else acc1) ++ List.replicate (br - k) 10 = acc1 ++ sep br := by
                  unfold sep
                  by_cases hb0 : br = 0
                  · simp [hb0]
                  · simp [hb0, hk]
                rw [he] at hF3
                exact hF3
              clear hF3
              go_wp2
              go_meet
              case rel => exact HM3.out
        case rest =>
        have hFM := hcut
        have hfx : Fix g n t L gs ge gt gf M T F wc := hfix.below hFM.bel hg2 hgs2 hge2 hgt hgf
        have hbl : Below w.heap.size w wc := hbel0.trans (hFM.bel.mono (by have := hbel0.size; omega))
        clear hcut
        obtain ⟨acc2, hacc2⟩ : ∃ acc2, acc2 = acc1 ++ sep br := ⟨_, rfl⟩
        have Hla2 : Hid (acc2.length ≤ i * 4194304 + 2 * n + 1) := by
          have h1 := Hla1.out
          have h2 := sep_length br
          rw [Hid, hacc2, List.length_append]; omega
        have hla2 : acc2.length ≤ 4398049656832 := by have := Hla2.out; omega
        have HA2 : Hid (acc2 = acc1 ++ sep br) := hacc2
        rw [← hacc2] at hFM
        clear hacc2
        obtain ⟨c1, c2, c3⟩ := hwT.out _ hfx
        have ham : a < n := by omega
        have hcg := cutOf_gt t ham HL.out HLA.out.n32 HLA.out.n10
        have hcl := cutOf_le t n a
        have hsl := stopOf_lt t ham
        have HAA : Hid ((if decide (1 < i) = true then acc else sub t p cut) = acc1) := by rw [Hid, HA1.out]; simp
        by_cases hcol : colonB t n a = true
        · have HRC : Hid (R = (false, p, acc2, true)) := by rw [Hid, HRi'.out, foldC_colon hcol, HAA.out, HA2.out]
          go_upto_region 32 with fail
          go_quiet ((go_at_call 31; exact Calls.quiet_of_same (piece31' g 0 n n a e t _ hn hLe hLn' hfx.st.tx HL.out (by rw [HE.out]; exact HLA.out.brk) (by rw [HE.out]; exact HLA.out.non))))
          go_wp2
          (try simp only [Exit.inBlock, Exit.then])
          refine bodyPost_ret (results_tmp4 rfl _ _ _) rfl ?_
          exact ⟨_, false, p, acc2, true, rfl, HRC.out, ⟨w2.heap.size, hbel0.size, (hFM.drewN nq).own⟩, below_drewN hbl nq⟩
        · have hcol' : colonB t n a = false := by simpa using hcol
          have HRC : Hid (R = foldC t n p ((prs T F).drop i) (cutOf t n a) (acc2 ++ sub t a (cutOf t n a)) true) := by rw [Hid, HRi'.out, foldC_next hcol', HAA.out, HA2.out]
          have Hpc : Hid (pcut t n a = cutOf t n a) := by unfold Hid pcut; rw [hcol']; rfl
          clear hcol
          go_upto_region 32 with fail
          go_quiet ((go_at_call 31; exact Calls.quiet_of_same (piece31' g 0 n n a e t _ hn hLe hLn' hfx.st.tx HL.out (by rw [HE.out]; exact HLA.out.brk) (by rw [HE.out]; exact HLA.out.non))))
          rw [Hpc.out]
          have hFM2 := hFM.drewN nq
          clear hFM hfx hbl c1 c2 c3
          generalize wc.drewN nq = wz at *
          have hfx : Fix g n t L gs ge gt gf M T F wz := hfix.below hFM2.bel hg2 hgs2 hge2 hgt hgf
          obtain ⟨c1, c2, c3⟩ := hwT.out _ hfx
          go_wp2_with (at_builtin; refine wpList_append_lies _ rfl (.tmp 206) (.tmp 213) 22 rfl w2.heap.size 5 j0 (.int .u8 0) 1 1 Trym.underlying22 hj hy0 hy1 hy2 rfl (by decide) _ _ _ rfl hFM2.own ⟨g, a, none⟩ (cutOf t n a - a) (n - a) (u8s (sub t a (cutOf t n a))) rfl ?c0 ?c1 ?c2 ?c3 ?c4 ?c5 ?c6 _ rfl ?_)
          case c0 => rw [u8s_length, sub_length]; try omega
          case c1 => first | exact hfx.st.tx.news' (by omega) | exact hfx.st.tx.news (by omega)
          case c2 => exact u8s_one _
          case c3 => omega
          case c4 => unfold maxLen; omega
          case c5 => omega
          case c6 => exact hFM2.bel.size
          intro g' cap w3 hown hgrow hat hlt
          have hFn := hFM2.push (World.grownBy.refl _ _) (sub_length t a (cutOf t n a)) hown hgrow
          clear hown hgrow hat hlt
          go_wp2
          go_roundg (gk - 1)
          case measure => omega
          case rel =>
            refine ⟨i + 1, cutOf t n a, _, by omega, by go_num, rfl, by omega, hFn, ?_, .inr ⟨by omega, fun h => by omega, ⟨?_, fun h => by omega⟩⟩⟩
            · have := Hla2.out
              rw [Hid, List.length_append, sub_length]; omega
            · rw [Nat.add_sub_cancel, HRC.out]; simp [hi0]
    · rcases hcase with ⟨rfl, HA⟩ | ⟨hi0, hpc, HRi⟩
      · omega
      · have hiM' : i = M := by omega
        have HRE : Hid (R = (true, cut, acc, decide (1 < i))) := by
          have := HRi.out.1
          rw [prs_end (by rw [← HM.out]; omega)] at this
          exact this
        have HIM : Hid (i = M) := hiM'
        clear hiM'
        go_wp2
        (try simp only [Exit.inBlock, Exit.then])
        refine bodyPost_ret (results_tmp4 rfl _ _ _) rfl ?_
        exact ⟨_, true, cut, acc, decide (1 < i), by rw [HIM.out]; simp; omega, HRE.out, ⟨w2.heap.size, hbel0.size, hFM.own⟩, hbl⟩

end Go.Proofs.Qxb6603316aMods
