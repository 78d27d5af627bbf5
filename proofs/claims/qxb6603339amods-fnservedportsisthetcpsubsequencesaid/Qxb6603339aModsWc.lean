import Derived.Test.Qxb6603339aModsWb
import Derived.Deep.RegionHeld
namespace Go.Proofs.Qxb6603339aMods
open Go.RowKit
set_option linter.unusedVariables false
set_option linter.unusedSimpArgs false

theorem results_tmp4 {fn : Func} {t u v x : Tmp} (h : fn.results = #[.tmp t, .tmp u, .tmp v, .tmp x]) (tmps : Array Value) (P : Program) (w : World) :
    (results fn tmps).run P w = .ok (.tuple #[tmps.getD t undef, tmps.getD u undef, tmps.getD v undef, tmps.getD x undef]) w := by
  simp [results, h]

/-- the made row of ports, k of them filled -/
def Made (w0 : World) (gp n k : Nat) (nm pr : Nat → ByteArray) (pt : Nat → Int) (wr : World) : Prop :=
  ∃ xs, wr.ownsRow w0.heap.size 60 3 (.slice (some ⟨gp, 0, none⟩) n n) n xs ∧ ∀ i, i < k → xs[i * 3]? = some (.string (nm i)) ∧ xs[i * 3 + 1]? = some (.string (pr i)) ∧ xs[i * 3 + 2]? = some (.int .i32 (pt i))

theorem Made.step {w0 wr : World} {gp n k : Nat} {nm pr : Nat → ByteArray} {pt : Nat → Int} (h : Made w0 gp n k nm pr pt wr) (hk : k < n) :
    Made w0 gp n (k + 1) nm pr pt (((wr.setCell ⟨gp, k * 3, none⟩ (.string (nm k))).setCell ⟨gp, k * 3 + 1, none⟩ (.string (pr k))).setCell ⟨gp, k * 3 + 2, none⟩ (.int .i32 (pt k))) := by
  obtain ⟨xs, hown, hxs⟩ := h
  have hlen : xs.length = n * 3 := hown.1
  have h1 := (hown.stored (k * 3) (.string (nm k))).1
  have h2 := (h1.stored (k * 3 + 1) (.string (pr k))).1
  have h3 := (h2.stored (k * 3 + 2) (.int .i32 (pt k))).1
  refine ⟨_, h3, fun i hi => ?_⟩
  by_cases hik : i = k
  · subst hik
    refine ⟨?_, ?_, ?_⟩
    · rw [List.getElem?_set_ne (by omega), List.getElem?_set_ne (by omega), List.getElem?_set_self (by omega)]
    · rw [List.getElem?_set_ne (by omega), List.getElem?_set_self (by simp; omega)]
    · rw [List.getElem?_set_self (by simp; omega)]
  · have := hxs i (by omega)
    refine ⟨?_, ?_, ?_⟩
    · rw [List.getElem?_set_ne (by omega), List.getElem?_set_ne (by omega), List.getElem?_set_ne (by omega)]; exact this.1
    · rw [List.getElem?_set_ne (by omega), List.getElem?_set_ne (by omega), List.getElem?_set_ne (by omega)]; exact this.2.1
    · rw [List.getElem?_set_ne (by omega), List.getElem?_set_ne (by omega), List.getElem?_set_ne (by omega)]; exact this.2.2

theorem Made.prow {w0 wr : World} {gp n : Nat} {nm pr : Nat → ByteArray} {pt : Nat → Int} (h : Made w0 gp n n nm pr pt wr) : PRow wr gp n nm pr pt := by
  obtain ⟨xs, hown, hxs⟩ := h
  intro i hi
  have := hxs i hi
  refine ⟨?_, ?_, ?_⟩
  · rw [hown.cellAt (i * 3) (by omega)]; exact this.1
  · rw [hown.cellAt (i * 3 + 1) (by omega)]; exact this.2.1
  · rw [hown.cellAt (i * 3 + 2) (by omega)]; exact this.2.2

theorem trips_get (nm pr : Nat → ByteArray) (pt : Nat → Int) : ∀ (l : List Nat) (i : Nat), i < l.length →
    (trips nm pr pt l)[i * 3]? = some (.string (nm (l.getD i 0))) ∧ (trips nm pr pt l)[i * 3 + 1]? = some (.string (pr (l.getD i 0))) ∧ (trips nm pr pt l)[i * 3 + 2]? = some (.int .i32 (pt (l.getD i 0)))
  | [], i, h => by simp at h
  | a :: l, 0, h => by simp [trips, trip]
  | a :: l, i + 1, h => by
    have ih := trips_get nm pr pt l i (by simpa using h)
    have e : trips nm pr pt (a :: l) = [.string (nm a), .string (pr a), .int .i32 (pt a)] ++ trips nm pr pt l := by simp [trips, trip]
    rw [e]
    have e1 : (i + 1) * 3 = 3 + i * 3 := by omega
    rw [e1, List.getElem?_append_right (by simp), List.getElem?_append_right (by simp; omega), List.getElem?_append_right (by simp; omega)]
    simp only [List.length_cons, List.length_nil]
    rw [show 3 + i * 3 - (0 + 1 + 1 + 1) = i * 3 by omega, show 3 + i * 3 + 1 - (0 + 1 + 1 + 1) = i * 3 + 1 by omega, show 3 + i * 3 + 2 - (0 + 1 + 1 + 1) = i * 3 + 2 by omega]
    simpa using ih

/-- what servedPorts hands back: the ports of the places l -/
structure Got (b : Nat) (nm pr : Nat → ByteArray) (pt : Nat → Int) (l : List Nat) (v : Value) (wr : World) : Prop where
  own : wr.ownsRow b 60 3 v l.length (trips nm pr pt l)
  nil : l = [] → v = .slice none 0 0

theorem Got.shape {b : Nat} {nm pr : Nat → ByteArray} {pt : Nat → Int} {l : List Nat} {v : Value} {wr : World} (h : Got b nm pr pt l v wr) :
    (l = [] ∧ v = .slice none 0 0) ∨ ∃ gv cv, 0 < l.length ∧ v = .slice (some ⟨gv, 0, none⟩) l.length cv ∧ gv < wr.heap.size ∧
      ∀ i, i < l.length → wr.cell? ⟨gv, i * 3, none⟩ = some (.string (nm (l.getD i 0))) ∧ wr.cell? ⟨gv, i * 3 + 1, none⟩ = some (.string (pr (l.getD i 0))) ∧ wr.cell? ⟨gv, i * 3 + 2, none⟩ = some (.int .i32 (pt (l.getD i 0))) := by
  by_cases hl : l = []
  · exact .inl ⟨hl, h.nil hl⟩
  · have hp : 0 < l.length := List.length_pos_iff.2 hl
    obtain ⟨gv, cv, hv, _, hlt⟩ := h.own.form hp
    refine .inr ⟨gv, cv, hp, hv, hlt, fun i hi => ?_⟩
    have ho := h.own
    rw [hv] at ho
    have ht := trips_get nm pr pt l i hi
    exact ⟨by rw [ho.cellAt (i * 3) (by omega)]; exact ht.1, by rw [ho.cellAt (i * 3 + 1) (by omega)]; exact ht.2.1, by rw [ho.cellAt (i * 3 + 2) (by omega)]; exact ht.2.2⟩

/-- the three rows that are handed out, k of m filled -/
structure Outs (b b1 b2 b3 m k : Nat) (nm pr : Nat → ByteArray) (pt : Nat → Int) (l : List Nat) (wr : World) (xs ys zs : List Value) : Prop where
  o1 : wr.ownsRow b 9 1 (.slice (some ⟨b1, 0, none⟩) m m) m xs
  o2 : wr.ownsRow b 9 1 (.slice (some ⟨b2, 0, none⟩) m m) m ys
  o3 : wr.ownsRow b 21 1 (.slice (some ⟨b3, 0, none⟩) m m) m zs
  p1 : ∀ i, i < k → xs[i]? = some (.string (nm (l.getD i 0)))
  p2 : ∀ i, i < k → ys[i]? = some (.string (pr (l.getD i 0)))
  p3 : ∀ i, i < k → zs[i]? = some (.int .i32 (pt (l.getD i 0)))

/-- what ZZServedPorts hands back -/
def ZOut (nm pr : Nat → ByteArray) (pt : Nat → Int) (l : List Nat) (w : World) (e : Ending) (w' : World) : Prop := ∃ b b1 b2 b3 xs ys zs,
  e = .returned (.tuple #[.bool l.isEmpty, .slice (some ⟨b1, 0, none⟩) l.length l.length, .slice (some ⟨b2, 0, none⟩) l.length l.length, .slice (some ⟨b3, 0, none⟩) l.length l.length]) ∧
  Outs b b1 b2 b3 l.length l.length nm pr pt l w' xs ys zs ∧ Below w.heap.size w w'

theorem kept_set {wr : World} {b e n m a o : Nat} {g : Nat} {u : Value} {xs : List Value} (h : wr.ownsRow b e 1 (.slice (some ⟨g, 0, none⟩) n m) n xs) (hne : g ≠ a) : (wr.setCell ⟨a, o, none⟩ u).ownsRow b e 1 (.slice (some ⟨g, 0, none⟩) n m) n xs :=
  h.kept (row := some a) ⟨rfl, rfl, rfl, by simp [World.setCell], fun j _ hj => Below.heap_setCell _ _ _ _ (fun e => hj (by rw [e]))⟩ (.inr (by simpa [Value.ownBlock] using hne))

theorem Outs.step {b b1 b2 b3 m k : Nat} {nm pr : Nat → ByteArray} {pt : Nat → Int} {l : List Nat} {wr : World} {xs ys zs : List Value} (h : Outs b b1 b2 b3 m k nm pr pt l wr xs ys zs) (h12 : b1 ≠ b2) (h13 : b1 ≠ b3) (h23 : b2 ≠ b3) (hk : k < m) :
    ∃ xs' ys' zs', Outs b b1 b2 b3 m (k + 1) nm pr pt l (((wr.setCell ⟨b1, k, none⟩ (.string (nm (l.getD k 0)))).setCell ⟨b2, k, none⟩ (.string (pr (l.getD k 0)))).setCell ⟨b3, k, none⟩ (.int .i32 (pt (l.getD k 0)))) xs' ys' zs' := by
  have l1 : xs.length = m := by simpa using h.o1.1
  have l2 : ys.length = m := by simpa using h.o2.1
  have l3 : zs.length = m := by simpa using h.o3.1
  refine ⟨_, _, _, kept_set (kept_set (h.o1.stored k _).1 h12) h13, kept_set ((kept_set h.o2 (Ne.symm h12)).stored k _).1 h23, ((kept_set (kept_set h.o3 (Ne.symm h13)) (Ne.symm h23)).stored k _).1, fun i hi => ?_, fun i hi => ?_, fun i hi => ?_⟩
  all_goals
    by_cases hik : i = k
    · subst hik; rw [List.getElem?_set_self (by omega)]
    · rw [List.getElem?_set_ne (by omega)]
      first | exact h.p1 i (by omega) | exact h.p2 i (by omega) | exact h.p3 i (by omega)


/-- is the service of the type that has no endpoints? -/
def extB (ty : ByteArray) : Bool := ty.toList == [69, 120, 116, 101, 114, 110, 97, 108, 78, 97, 109, 101]
/-- the places that are served -/
def lst (ty : ByteArray) (pr : Nat → ByteArray) (n : Nat) : List Nat := if extB ty then [] else ks pr n

theorem served_all (B gp n c : Nat) (ty : ByteArray) (nm pr : Nat → ByteArray) (pt : Nat → Int) (w : World) (hn : n ≤ 65536) (h4 : w.cell? ⟨B, 4, none⟩ = some (.string ty)) (h5 : w.cell? ⟨B, 5, none⟩ = some (.slice (some ⟨gp, 0, none⟩) n c))
    (hp : PRow w gp n nm pr pt) (hgp : gp < w.heap.size) :
    Calls Trym.prog 28 #[.pointer (some ⟨B, 0, none⟩)] w fun e w' => ∃ v, e = .returned v ∧ Got w.heap.size nm pr pt (lst ty pr n) v w' ∧ Below w.heap.size w w' := by
  unfold lst
  cases hx : extB ty
  · refine (served28 B gp n c ty nm pr pt w hn h4 h5 hx hp hgp).mono ?_
    rintro e w' ⟨v, rfl, h1, h2, h3⟩
    exact ⟨v, rfl, ⟨h1, h2⟩, h3⟩
  · refine (served_ext B ty w h4 hx).mono ?_
    rintro e w' ⟨rfl, rfl⟩
    exact ⟨_, rfl, ⟨World.ownsRow_nil _ _ _ _, fun _ => rfl⟩, Below.refl _ _⟩

theorem served_none (B c : Nat) (a : Option Addr) (ty : ByteArray) (nm pr : Nat → ByteArray) (pt : Nat → Int) (w : World) (h4 : w.cell? ⟨B, 4, none⟩ = some (.string ty)) (h5 : w.cell? ⟨B, 5, none⟩ = some (.slice a 0 c)) :
    Calls Trym.prog 28 #[.pointer (some ⟨B, 0, none⟩)] w fun e w' => ∃ v, e = .returned v ∧ Got w.heap.size nm pr pt (lst ty pr 0) v w' ∧ Below w.heap.size w w' := by
  have hl : lst ty pr 0 = [] := by unfold lst; split <;> rfl
  rw [hl]
  cases hx : extB ty
  · refine (served_zero B c a ty w h4 h5 hx).mono ?_
    rintro e w' ⟨rfl, rfl⟩
    exact ⟨_, rfl, ⟨World.ownsRow_nil _ _ _ _, fun _ => rfl⟩, Below.refl _ _⟩
  · refine (served_ext B ty w h4 hx).mono ?_
    rintro e w' ⟨rfl, rfl⟩
    exact ⟨_, rfl, ⟨World.ownsRow_nil _ _ _ _, fun _ => rfl⟩, Below.refl _ _⟩

theorem lst_len (ty : ByteArray) (pr : Nat → ByteArray) (n : Nat) : (lst ty pr n).length ≤ n := by
  unfold lst
  split
  · simp
  · exact ks_len pr n

set_option maxRecDepth 100000 in
set_option maxHeartbeats 4000000 in
theorem zz19 (s0 s1 s2 s3 s4 : ByteArray) (g5 g6 g7 n : Nat) (nm pr : Nat → ByteArray) (pt : Nat → Int) (w : World) (hn : n ≤ 65536) (h5 : Strs w g5 0 n nm) (h6 : Strs w g6 0 n pr) (h7 : I32s w g7 0 n pt) (l5 : g5 < w.heap.size) (l6 : g6 < w.heap.size) (l7 : g7 < w.heap.size) :
    Calls Trym.prog 19 #[.string s0, .string s1, .string s2, .string s3, .string s4, .slice (some ⟨g5, 0, none⟩) n n, .slice (some ⟨g6, 0, none⟩) n n, .slice (some ⟨g7, 0, none⟩) n n] w fun e w' => ZOut nm pr pt (lst s4 pr n) w e w' := by
  obtain ⟨l, hl⟩ : ∃ l, l = lst s4 pr n := ⟨_, rfl⟩
  have hll : l.length ≤ n := by rw [hl]; exact lst_len s4 pr n
  have HLl : Hid (l = lst s4 pr n) := hl
  rw [← hl]
  clear hl
  have q32 : ∀ (w : World) (a : Option Addr) (n c n' c' : Nat), (binOp .neq 32 (.slice a n c) (.slice none n' c')).run Trym.prog w = .ok (.bool (!a.isNone)) w := fun w a n c n' c' => run_neq_slice_nil_any w _ _ a n c n' c' Trym.underlying32
  have q55 : ∀ (w : World) (a : Option Addr) (n c n' c' : Nat), (binOp .eql 55 (.slice a n c) (.slice none n' c')).run Trym.prog w = .ok (.bool a.isNone) w := fun w a n c n' c' => Lib.run_eql_slice_nil w _ _ a n c n' c' Trym.underlying55
  obtain ⟨i0, hi, hz0, hz1, hz2⟩ := info_parts Trym.info60
  obtain ⟨j0, hj, hy0, hy1, hy2⟩ := info_parts Trym.info9
  obtain ⟨k0, hk, hx0, hx1, hx2⟩ := info_parts Trym.info21
  go_enter Trym.func19, Trym.ntmps19
  go_wp2_with (at_make; refine wpList_make_full _ rfl (.tmp 59) (.tmp 59) 55 rfl w.heap.size 60 i0 (.agg #[.string ⟨#[]⟩, .string ⟨#[]⟩, .int .i32 0]) 3 Trym.underlying55 hi hz0 hz1 _ _ _ _ n rfl rfl rfl rfl ?b2 ?b3 ?b4 ?_)
  case b2 => rw [hz2]; omega
  case b3 => unfold maxLen; omega
  case b4 => simp
  intro w1 hown1 hgrow1
  have hblk := hgrow1.block w.heap.size (by simp) (by simp)
  have k4 : w1.cell? ⟨w.heap.size, 4, none⟩ = some (.string s4) := (World.cell?_of_block (a := ⟨w.heap.size, 4, none⟩) hblk).trans (by simp)
  have k5 : w1.cell? ⟨w.heap.size, 5, none⟩ = some (.slice none 0 0) := (World.cell?_of_block (a := ⟨w.heap.size, 5, none⟩) hblk).trans (by simp)
  have k5f : w1.frozen? ⟨w.heap.size, 5, none⟩ = false := (World.frozen?_of_block (a := ⟨w.heap.size, 5, none⟩) hblk).trans (by simp)
  have hb1 : Below w.heap.size w w1 := ((Below.refl _ _).alloc (Nat.le_refl _) _).grown hgrow1 (by simp) (fun k h => by cases h)
  have hlt1 : w.heap.size + 1 < w1.heap.size := (hown1.lt _ rfl).2
  clear hgrow1 hblk
  go_upto_block 0 with fail
  go_cut [21] (fun v wx => Made w (w.heap.size + 1) n n nm pr pt wx ∧ wx.cell? ⟨w.heap.size, 4, none⟩ = some (.string s4) ∧ wx.cell? ⟨w.heap.size, 5, none⟩ = some (.slice (some ⟨w.heap.size + 1, 0, none⟩) n n) ∧ Below w.heap.size w wx ∧ w.heap.size + 1 < wx.heap.size)
  case first =>
    go_wp2_with fail
    go_loopg [21] n (fun gk v wr => ∃ k, k + gk = n ∧ v = .int .i64 k ∧ Made w (w.heap.size + 1) n k nm pr pt wr ∧ wr.cell? ⟨w.heap.size, 4, none⟩ = some (.string s4) ∧ wr.cell? ⟨w.heap.size, 5, none⟩ = some (.slice (some ⟨w.heap.size + 1, 0, none⟩) n n) ∧ Below w.heap.size w wr)
    case atStart =>
      refine ⟨0, by omega, rfl, ⟨_, hown1.kept (row := some w.heap.size) ⟨rfl, rfl, rfl, by simp [World.setCell], fun j _ hj => Below.heap_setCell _ _ _ _ (fun e => hj (by rw [e]))⟩ (.inr (by simp [Value.ownBlock])), fun i hi => by omega⟩, ?_, ?_, hb1.setCell (Nat.le_refl _) _⟩
      · rw [World.cell?_setCell_other _ _ _ _ (by simp)]; exact k4
      · exact World.cell?_setCell_same (u := .slice none 0 0) _ _ _ k5
    case round =>
      obtain ⟨k, hkg, rfl, hMd, c4, c5, hb⟩ := hrel
      have hMd2 := hMd
      obtain ⟨xs, hown, hxs⟩ := hMd2
      clear hxs
      by_cases hlt : k < n
      · have e5 : wr.cell? ⟨g5, k, none⟩ = some (.string (nm k)) := by have := (hb.cell (by exact l5)).trans (h5 k hlt); rwa [Nat.zero_add] at this
        have e6 : wr.cell? ⟨g6, k, none⟩ = some (.string (pr k)) := by have := (hb.cell (by exact l6)).trans (h6 k hlt); rwa [Nat.zero_add] at this
        have e7 : wr.cell? ⟨g7, k, none⟩ = some (.int .i32 (pt k)) := by have := (hb.cell (by exact l7)).trans (h7 k hlt); rwa [Nat.zero_add] at this
        have hlen : xs.length = n * 3 := hown.1
        have d0 : wr.cell? ⟨w.heap.size + 1, k * 3, none⟩ = some (xs[k * 3]'(by omega)) := by rw [hown.cellAt (k * 3) (by omega)]; simp
        have d1 : wr.cell? ⟨w.heap.size + 1, k * 3 + 1, none⟩ = some (xs[k * 3 + 1]'(by omega)) := by rw [hown.cellAt (k * 3 + 1) (by omega)]; simp
        have d2 : wr.cell? ⟨w.heap.size + 1, k * 3 + 2, none⟩ = some (xs[k * 3 + 2]'(by omega)) := by rw [hown.cellAt (k * 3 + 2) (by omega)]; simp
        have f0 := hown.frozenAt (k * 3)
        have f1 := hown.frozenAt (k * 3 + 1)
        have f2 := hown.frozenAt (k * 3 + 2)
        go_wp2
        go_region
        all_goals
          go_wp2
          go_roundg (gk - 1)
          case measure => omega
          case rel => exact ⟨k + 1, by omega, by go_num, hMd.step hlt, by rw [World.cell?_drew, World.cell?_setCell_far _ _ _ _ (by simp), World.cell?_setCell_far _ _ _ _ (by simp), World.cell?_setCell_far _ _ _ _ (by simp)]; exact c4, by rw [World.cell?_drew, World.cell?_setCell_far _ _ _ _ (by simp), World.cell?_setCell_far _ _ _ _ (by simp), World.cell?_setCell_far _ _ _ _ (by simp)]; exact c5, (((hb.setCell (by simp) _).setCell (by simp) _).setCell (by simp) _).drew⟩
      · have HK : Hid (k = n) := by unfold Hid; omega
        have hlt' := (hown.lt _ rfl).2
        go_wp2
        go_meet
        case rel => exact ⟨HK.out ▸ hMd, c4, c5, hb, hlt'⟩
  case rest =>
  obtain ⟨hMd, c4, c5, hb, hlt2⟩ := hcut
  clear hown1 k4 k5 k5f hb1 hlt1
  go_wp2_with fail
  refine (served_all w.heap.size (w.heap.size + 1) n n s4 nm pr pt _ hn c4 c5 hMd.prow hlt2).mono ?_
  rintro e w3 ⟨v, rfl, hG, hb3⟩
  rw [← HLl.out] at hG
  obtain ⟨av, cv, hv, hav, hcells⟩ : ∃ av cv, v = .slice av l.length cv ∧ av.isNone = l.isEmpty ∧ ∀ i, i < l.length → ∃ gv, av = some ⟨gv, 0, none⟩ ∧ gv < w3.heap.size ∧ w3.cell? ⟨gv, i * 3, none⟩ = some (.string (nm (l.getD i 0))) ∧ w3.cell? ⟨gv, i * 3 + 1, none⟩ = some (.string (pr (l.getD i 0))) ∧ w3.cell? ⟨gv, i * 3 + 2, none⟩ = some (.int .i32 (pt (l.getD i 0))) := by
    rcases hG.shape with ⟨h1, h2⟩ | ⟨gv, cv, h0, h1, h2, h3⟩
    · exact ⟨none, 0, by rw [h2, h1]; rfl, by rw [h1]; rfl, fun i hi => by rw [h1] at hi; simp at hi⟩
    · exact ⟨_, cv, h1, by cases l with | nil => simp at h0 | cons a l => rfl, fun i hi => ⟨gv, rfl, h2, h3 i hi⟩⟩
  subst hv
  have HAV : Hid (av.isNone = l.isEmpty) := hav
  have hbw3 : Below w.heap.size w w3 := hb.trans (hb3.mono (by have := hb.size; omega))
  clear hav hG hMd c4 c5 hb hb3 hlt2
  go_wp2_with (at_make; refine wpList_make_full _ rfl (.tmp 93) (.tmp 93) 32 rfl w3.heap.size 9 j0 (.string ⟨#[]⟩) 1 Trym.underlying32 hj hy0 hy1 _ _ _ _ l.length rfl rfl rfl rfl ?a2 ?a3 ?a4 ?_)
  case a2 => rw [hy2]; omega
  case a3 => unfold maxLen; omega
  case a4 => exact Nat.le_refl _
  intro w4 ho1 hgr1
  have hl4 : w3.heap.size < w4.heap.size := (ho1.lt _ rfl).2
  go_wp2_with (at_make; refine wpList_make_full _ rfl (.tmp 96) (.tmp 96) 32 rfl w3.heap.size 9 j0 (.string ⟨#[]⟩) 1 Trym.underlying32 hj hy0 hy1 _ _ _ _ l.length rfl rfl rfl rfl ?e2 ?e3 ?e4 ?_)
  case e2 => rw [hy2]; omega
  case e3 => unfold maxLen; omega
  case e4 => omega
  intro w5 ho2 hgr2
  have hl5 : w4.heap.size < w5.heap.size := (ho2.lt _ rfl).2
  have ho1' := ho1.kept hgr2 (.inr (by simp [Value.ownBlock]))
  go_wp2_with (at_make; refine wpList_make_full _ rfl (.tmp 99) (.tmp 99) 33 rfl w3.heap.size 21 k0 (.int .i32 0) 1 Trym.underlying33 hk hx0 hx1 _ _ _ _ l.length rfl rfl rfl rfl ?f2 ?f3 ?f4 ?_)
  case f2 => rw [hx2]; omega
  case f3 => unfold maxLen; omega
  case f4 => omega
  intro w6 ho3 hgr3
  have ho1'' := ho1'.kept hgr3 (.inr (by simp [Value.ownBlock]))
  have ho2' := ho2.kept hgr3 (.inr (by simp [Value.ownBlock]))
  have hb6 : Below w3.heap.size w3 w6 := (((Below.refl _ _).grown hgr1 (Nat.le_refl _) (fun k h => by cases h)).grown hgr2 (by omega) (fun k h => by cases h)).grown hgr3 (by omega) (fun k h => by cases h)
  clear ho1 ho1' ho2 hgr1 hgr2 hgr3
  go_wp2_with fail
  go_loopg [26] l.length (fun gk vi wr => ∃ k xs ys zs, k + gk = l.length ∧ vi = .int .i64 (k : Nat) ∧ Outs w3.heap.size w3.heap.size w4.heap.size w5.heap.size l.length k nm pr pt l wr xs ys zs ∧ Below w3.heap.size w3 wr)
  case atStart => exact ⟨0, _, _, _, by omega, rfl, ⟨ho1'', ho2', ho3, fun i hi => absurd hi (Nat.not_lt_zero _), fun i hi => absurd hi (Nat.not_lt_zero _), fun i hi => absurd hi (Nat.not_lt_zero _)⟩, hb6⟩
  case round =>
    obtain ⟨k, xs, ys, zs, hkg, rfl, hO, hb⟩ := hrel
    by_cases hlt : k < l.length
    · obtain ⟨gv, rfl, hgv, d0, d1, d2⟩ := hcells k hlt
      have d0 := (hb.cell (p := ⟨gv, k * 3, none⟩) hgv).trans d0
      have d1 := (hb.cell (p := ⟨gv, k * 3 + 1, none⟩) hgv).trans d1
      have d2 := (hb.cell (p := ⟨gv, k * 3 + 2, none⟩) hgv).trans d2
      have l1 : xs.length = l.length := by simpa using hO.o1.1
      have l2 : ys.length = l.length := by simpa using hO.o2.1
      have l3 : zs.length = l.length := by simpa using hO.o3.1
      obtain ⟨x1, e1⟩ : ∃ x, wr.cell? ⟨w3.heap.size, k, none⟩ = some x := ⟨xs[k]'(by omega), by rw [hO.o1.cellAt k (by omega)]; simp [l1, hlt]⟩
      obtain ⟨x2, e2⟩ : ∃ x, wr.cell? ⟨w4.heap.size, k, none⟩ = some x := ⟨ys[k]'(by omega), by rw [hO.o2.cellAt k (by omega)]; simp [l2, hlt]⟩
      obtain ⟨x3, e3⟩ : ∃ x, wr.cell? ⟨w5.heap.size, k, none⟩ = some x := ⟨zs[k]'(by omega), by rw [hO.o3.cellAt k (by omega)]; simp [l3, hlt]⟩
      have f1 := hO.o1.frozenAt k
      have f2 := hO.o2.frozenAt k
      have f3 := hO.o3.frozenAt k
      have HST := hO.step (by omega) (by omega) (by omega) hlt
      obtain ⟨xs', ys', zs', hO'⟩ := HST
      obtain ⟨a, ha⟩ : ∃ a, a = l.getD k 0 := ⟨_, rfl⟩
      rw [← ha] at d0 d1 d2 hO'
      have HA : Hid (a = l.getD k 0) := ha
      clear ha l1 l2 l3 hcells
      go_wp2
      go_roundg (gk - 1)
      case measure => omega
      case rel => exact ⟨k + 1, xs', ys', zs', by omega, by go_num, hO', ((hb.setCell (Nat.le_refl _) _).setCell (by show w3.heap.size ≤ w4.heap.size; omega) _).setCell (by show w3.heap.size ≤ w5.heap.size; omega) _⟩
    · have HK : Hid (k = l.length) := by unfold Hid; omega
      go_wp2
      (try simp only [Exit.inBlock, Exit.then])
      refine bodyPost_ret (results_tmp4 rfl _ _ _) rfl ?_
      refine ⟨w3.heap.size, w3.heap.size, w4.heap.size, w5.heap.size, xs, ys, zs, by rw [← HAV.out]; rfl, ?_, hbw3.trans (hb.mono (by have := hbw3.size; omega))⟩
      have := hO
      rw [HK.out] at this
      exact this

set_option maxRecDepth 100000 in
set_option maxHeartbeats 2000000 in
theorem zz19_nil (s0 s1 s2 s3 s4 : ByteArray) (v6 v7 : Value) (nm pr : Nat → ByteArray) (pt : Nat → Int) (w : World) :
    Calls Trym.prog 19 #[.string s0, .string s1, .string s2, .string s3, .string s4, .slice none 0 0, v6, v7] w fun e w' => ZOut nm pr pt [] w e w' := by
  have q32 : ∀ (w : World) (a : Option Addr) (n c n' c' : Nat), (binOp .neq 32 (.slice a n c) (.slice none n' c')).run Trym.prog w = .ok (.bool (!a.isNone)) w := fun w a n c n' c' => run_neq_slice_nil_any w _ _ a n c n' c' Trym.underlying32
  have q55 : ∀ (w : World) (a : Option Addr) (n c n' c' : Nat), (binOp .eql 55 (.slice a n c) (.slice none n' c')).run Trym.prog w = .ok (.bool a.isNone) w := fun w a n c n' c' => Lib.run_eql_slice_nil w _ _ a n c n' c' Trym.underlying55
  obtain ⟨j0, hj, hy0, hy1, hy2⟩ := info_parts Trym.info9
  obtain ⟨k0, hk, hx0, hx1, hx2⟩ := info_parts Trym.info21
  go_enter Trym.func19, Trym.ntmps19
  go_wp2_with fail
  refine (served_none w.heap.size 0 none s4 nm pr pt _ (by simp) (by simp)).mono ?_
  rintro e w3 ⟨v, rfl, hG, hb3⟩
  have hl : lst s4 pr 0 = [] := by unfold lst; split <;> rfl
  rw [hl] at hG
  have hv := hG.nil rfl
  subst hv
  have hbw3 : Below w.heap.size w w3 := ((Below.refl _ _).alloc (Nat.le_refl _) _).trans (hb3.mono (by simp))
  clear hG hb3 hl
  go_wp2_with (at_make; refine wpList_make_full _ rfl (.tmp 93) (.tmp 93) 32 rfl w3.heap.size 9 j0 (.string ⟨#[]⟩) 1 Trym.underlying32 hj hy0 hy1 _ _ _ _ 0 rfl rfl rfl rfl ?a2 ?a3 ?a4 ?_)
  case a2 => omega
  case a3 => unfold maxLen; omega
  case a4 => exact Nat.le_refl _
  intro w4 ho1 hgr1
  have hl4 : w3.heap.size < w4.heap.size := (ho1.lt _ rfl).2
  go_wp2_with (at_make; refine wpList_make_full _ rfl (.tmp 96) (.tmp 96) 32 rfl w3.heap.size 9 j0 (.string ⟨#[]⟩) 1 Trym.underlying32 hj hy0 hy1 _ _ _ _ 0 rfl rfl rfl rfl ?e2 ?e3 ?e4 ?_)
  case e2 => omega
  case e3 => unfold maxLen; omega
  case e4 => omega
  intro w5 ho2 hgr2
  have hl5 : w4.heap.size < w5.heap.size := (ho2.lt _ rfl).2
  have ho1' := ho1.kept hgr2 (.inr (by simp [Value.ownBlock]))
  go_wp2_with (at_make; refine wpList_make_full _ rfl (.tmp 99) (.tmp 99) 33 rfl w3.heap.size 21 k0 (.int .i32 0) 1 Trym.underlying33 hk hx0 hx1 _ _ _ _ 0 rfl rfl rfl rfl ?f2 ?f3 ?f4 ?_)
  case f2 => omega
  case f3 => unfold maxLen; omega
  case f4 => omega
  intro w6 ho3 hgr3
  have ho1'' := ho1'.kept hgr3 (.inr (by simp [Value.ownBlock]))
  have ho2' := ho2.kept hgr3 (.inr (by simp [Value.ownBlock]))
  have hb6 : Below w3.heap.size w3 w6 := (((Below.refl _ _).grown hgr1 (Nat.le_refl _) (fun k h => by cases h)).grown hgr2 (by omega) (fun k h => by cases h)).grown hgr3 (by omega) (fun k h => by cases h)
  have hO : Outs w3.heap.size w3.heap.size w4.heap.size w5.heap.size 0 0 nm pr pt [] w6 _ _ _ := ⟨ho1'', ho2', ho3, fun i hi => absurd hi (Nat.not_lt_zero _), fun i hi => absurd hi (Nat.not_lt_zero _), fun i hi => absurd hi (Nat.not_lt_zero _)⟩
  clear ho1 ho1' ho2 hgr1 hgr2 hgr3
  go_wp2_with fail
  go_loop [26] (fun vi => vi = .int .i64 0) (fun _ => 0)
  case atStart => rfl
  case round =>
    subst hrel
    go_wp2
    (try simp only [Exit.inBlock, Exit.then])
    refine bodyPost_ret (results_tmp4 rfl _ _ _) rfl ?_
    exact ⟨w3.heap.size, w3.heap.size, w4.heap.size, w5.heap.size, _, _, _, rfl, hO, hbw3.trans (hb6.mono (by have := hbw3.size; omega))⟩

set_option maxRecDepth 100000 in
set_option maxHeartbeats 2000000 in
theorem zz19_zero (s0 s1 s2 s3 s4 : ByteArray) (x : Addr) (c5 : Nat) (v6 v7 : Value) (nm pr : Nat → ByteArray) (pt : Nat → Int) (w : World) :
    Calls Trym.prog 19 #[.string s0, .string s1, .string s2, .string s3, .string s4, .slice (some x) 0 c5, v6, v7] w fun e w' => ZOut nm pr pt [] w e w' := by
  have q32 : ∀ (w : World) (a : Option Addr) (n c n' c' : Nat), (binOp .neq 32 (.slice a n c) (.slice none n' c')).run Trym.prog w = .ok (.bool (!a.isNone)) w := fun w a n c n' c' => run_neq_slice_nil_any w _ _ a n c n' c' Trym.underlying32
  have q55 : ∀ (w : World) (a : Option Addr) (n c n' c' : Nat), (binOp .eql 55 (.slice a n c) (.slice none n' c')).run Trym.prog w = .ok (.bool a.isNone) w := fun w a n c n' c' => Lib.run_eql_slice_nil w _ _ a n c n' c' Trym.underlying55
  obtain ⟨j0, hj, hy0, hy1, hy2⟩ := info_parts Trym.info9
  obtain ⟨k0, hk, hx0, hx1, hx2⟩ := info_parts Trym.info21
  obtain ⟨i0, hi, hz0, hz1, hz2⟩ := info_parts Trym.info60
  go_enter Trym.func19, Trym.ntmps19
  go_wp2_with (at_make; refine wpList_make_full _ rfl (.tmp 59) (.tmp 59) 55 rfl w.heap.size 60 i0 (.agg #[.string ⟨#[]⟩, .string ⟨#[]⟩, .int .i32 0]) 3 Trym.underlying55 hi hz0 hz1 _ _ _ _ 0 rfl rfl rfl rfl ?b2 ?b3 ?b4 ?_)
  case b2 => omega
  case b3 => unfold maxLen; omega
  case b4 => simp
  intro w1 hown1 hgrow1
  have hblk := hgrow1.block w.heap.size (by simp) (by simp)
  have k4 : w1.cell? ⟨w.heap.size, 4, none⟩ = some (.string s4) := (World.cell?_of_block (a := ⟨w.heap.size, 4, none⟩) hblk).trans (by simp)
  have k5 : w1.cell? ⟨w.heap.size, 5, none⟩ = some (.slice none 0 0) := (World.cell?_of_block (a := ⟨w.heap.size, 5, none⟩) hblk).trans (by simp)
  have k5f : w1.frozen? ⟨w.heap.size, 5, none⟩ = false := (World.frozen?_of_block (a := ⟨w.heap.size, 5, none⟩) hblk).trans (by simp)
  have hb1 : Below w.heap.size w w1 := ((Below.refl _ _).alloc (Nat.le_refl _) _).grown hgrow1 (by simp) (fun k h => by cases h)
  clear hgrow1 hblk hown1
  go_wp2_with fail
  go_loop [21] (fun vi => vi = .int .i64 0) (fun _ => 0)
  case atStart => rfl
  case round =>
  subst hrel
  go_wp2_with fail
  refine (served_none w.heap.size 0 (some ⟨w.heap.size + 1, 0, none⟩) s4 nm pr pt _ ?_ ?_).mono ?_
  · rw [World.cell?_setCell_other _ _ _ _ (by simp)]; exact k4
  · exact World.cell?_setCell_same (u := .slice none 0 0) _ _ _ k5
  rintro e w3 ⟨v, rfl, hG, hb3⟩
  have hl : lst s4 pr 0 = [] := by unfold lst; split <;> rfl
  rw [hl] at hG
  have hv := hG.nil rfl
  subst hv
  have hbw3 : Below w.heap.size w w3 := (hb1.setCell (Nat.le_refl _) _).trans (hb3.mono (by have := hb1.size; simp [World.setCell]; omega))
  clear hG hb3 hl
  go_wp2_with (at_make; refine wpList_make_full _ rfl (.tmp 93) (.tmp 93) 32 rfl w3.heap.size 9 j0 (.string ⟨#[]⟩) 1 Trym.underlying32 hj hy0 hy1 _ _ _ _ 0 rfl rfl rfl rfl ?a2 ?a3 ?a4 ?_)
  case a2 => omega
  case a3 => unfold maxLen; omega
  case a4 => exact Nat.le_refl _
  intro w4 ho1 hgr1
  have hl4 : w3.heap.size < w4.heap.size := (ho1.lt _ rfl).2
  go_wp2_with (at_make; refine wpList_make_full _ rfl (.tmp 96) (.tmp 96) 32 rfl w3.heap.size 9 j0 (.string ⟨#[]⟩) 1 Trym.underlying32 hj hy0 hy1 _ _ _ _ 0 rfl rfl rfl rfl ?e2 ?e3 ?e4 ?_)
  case e2 => omega
  case e3 => unfold maxLen; omega
  case e4 => omega
  intro w5 ho2 hgr2
  have hl5 : w4.heap.size < w5.heap.size := (ho2.lt _ rfl).2
  have ho1' := ho1.kept hgr2 (.inr (by simp [Value.ownBlock]))
  go_wp2_with (at_make; refine wpList_make_full _ rfl (.tmp 99) (.tmp 99) 33 rfl w3.heap.size 21 k0 (.int .i32 0) 1 Trym.underlying33 hk hx0 hx1 _ _ _ _ 0 rfl rfl rfl rfl ?f2 ?f3 ?f4 ?_)
  case f2 => omega
  case f3 => unfold maxLen; omega
  case f4 => omega
  intro w6 ho3 hgr3
  have ho1'' := ho1'.kept hgr3 (.inr (by simp [Value.ownBlock]))
  have ho2' := ho2.kept hgr3 (.inr (by simp [Value.ownBlock]))
  have hb6 : Below w3.heap.size w3 w6 := (((Below.refl _ _).grown hgr1 (Nat.le_refl _) (fun k h => by cases h)).grown hgr2 (by omega) (fun k h => by cases h)).grown hgr3 (by omega) (fun k h => by cases h)
  have hO : Outs w3.heap.size w3.heap.size w4.heap.size w5.heap.size 0 0 nm pr pt [] w6 _ _ _ := ⟨ho1'', ho2', ho3, fun i hi => absurd hi (Nat.not_lt_zero _), fun i hi => absurd hi (Nat.not_lt_zero _), fun i hi => absurd hi (Nat.not_lt_zero _)⟩
  clear ho1 ho1' ho2 hgr1 hgr2 hgr3
  go_wp2_with fail
  go_loop [26] (fun vi => vi = .int .i64 0) (fun _ => 0)
  case atStart => rfl
  case round =>
    subst hrel
    go_wp2
    (try simp only [Exit.inBlock, Exit.then])
    refine bodyPost_ret (results_tmp4 rfl _ _ _) rfl ?_
    exact ⟨w3.heap.size, w3.heap.size, w4.heap.size, w5.heap.size, _, _, _, rfl, hO, hbw3.trans (hb6.mono (by have := hbw3.size; omega))⟩

end Go.Proofs.Qxb6603339aMods
