import Derived.Test.Qxb6603610aModsProg
import Derived.WalkKit
import Derived.WalkSpells
import Derived.WalkLawsBesides
import Derived.Deep.QuietTactic
import Derived.BigQuiet
import Derived.Deep.DeepCutAuto
import Derived.Deep.CutBlock
import Derived.Deep.LoopGhost
import Derived.Deep.AppendLies
import Derived.Deep.RegionHeld
import Derived.Deep.RegionWith
import Derived.Laws.ResultCell
namespace Go.Proofs.Qxb6603610aMods
open Go.RowKit
set_option linter.unusedVariables false
set_option linter.unusedSimpArgs false

/-- a row of pairs of numbers -/
def Pairs (w : World) (g o n : Nat) (f h : Nat → Int) : Prop := ∀ i, i < n → w.cell? ⟨g, o + i * 2, none⟩ = some (.int .i64 (f i)) ∧ w.cell? ⟨g, o + i * 2 + 1, none⟩ = some (.int .i64 (h i))
/-- a slice of pairs that came in -/
def PArg (w : World) (a : Option Addr) (n c : Nat) (f h : Nat → Int) : Prop := (a = none ∧ n = 0 ∧ c = 0) ∨ ∃ x, a = some x ∧ (0 < n → ∃ g o, x = ⟨g, o, none⟩ ∧ g < w.heap.size ∧ Pairs w g o n f h)

theorem PArg.below {w w' : World} {a : Option Addr} {n c : Nat} {u t : Nat → Int} (h : PArg w a n c u t) (hb : Below w.heap.size w w') : PArg w' a n c u t := by
  rcases h with h | ⟨x, rfl, h⟩
  · exact .inl h
  · refine .inr ⟨x, rfl, fun h0 => ?_⟩
    obtain ⟨g, o, rfl, h1, h2⟩ := h h0
    exact ⟨g, o, rfl, by have := hb.size; omega, fun i hi => ⟨(hb.cell h1).trans (h2 i hi).1, (hb.cell h1).trans (h2 i hi).2⟩⟩

theorem PArg.cell {w : World} {a : Option Addr} {n c : Nat} {u t : Nat → Int} (h : PArg w a n c u t) {k : Nat} (hk : k < n) :
    ∃ g o, a = some ⟨g, o, none⟩ ∧ g < w.heap.size ∧ w.cell? ⟨g, o + k * 2, none⟩ = some (.int .i64 (u k)) ∧ w.cell? ⟨g, o + k * 2 + 1, none⟩ = some (.int .i64 (t k)) := by
  rcases h with ⟨_, h, _⟩ | ⟨x, rfl, h⟩
  · omega
  · obtain ⟨g, o, rfl, h1, h2⟩ := h (by omega)
    exact ⟨g, o, rfl, h1, h2 k hk⟩

theorem Trym.info30 : (Trym.prog.info? 30).map (fun i => (i.zero, i.size, i.bytes)) = some (some (.agg #[.int .i64 0, .int .i64 0]), 2, 16) := by kernel_rfl

theorem results_cell1 {fn : Func} {p : Tmp} {ty : TypeId} (h : fn.results = #[.cell p ty]) (tmps : Array Value) (P : Program) (w : World) :
    (results fn tmps).run P w = ((asAddr (tmps.getD p undef)).run P w).andThen fun a w₁ => (loadVar ty a).run P w₁ := by
  simp only [results, h]
  simp [Sem.run_bind, Result.andThen]
theorem results_cell3 {fn : Func} {p u x : Tmp} {ty : TypeId} (h : fn.results = #[.cell p ty, .tmp u, .tmp x]) (tmps : Array Value) (P : Program) (w : World) :
    (results fn tmps).run P w = ((asAddr (tmps.getD p undef)).run P w).andThen fun a w₁ => ((loadVar ty a).run P w₁).andThen fun v w₂ => .ok (.tuple #[v, tmps.getD u undef, tmps.getD x undef]) w₂ := by
  simp only [results, h]
  simp [Sem.run_bind, Result.andThen]

def IsB (e : Ending) : Prop := ∃ b, e = .returned (.bool b)

theorem bytes7 (a : Option Addr) (n c : Nat) (i : Int) (w : World) : Calls Trym.prog 7 #[.slice a n c, .int .i64 i] w fun e w' => IsB e ∧ w' = w := by
  go_enter Trym.func7, Trym.ntmps7
  go_wp2
  all_goals (go_ret; exact ⟨⟨_, rfl⟩, rfl⟩)
theorem bytes14 (a : Option Addr) (n c : Nat) (i : Int) (w : World) : Calls Trym.prog 14 #[.slice a n c, .int .i64 i] w fun e w' => IsB e ∧ w' = w := by
  go_enter Trym.func14, Trym.ntmps14
  go_wp2
  all_goals (go_ret; exact ⟨⟨_, rfl⟩, rfl⟩)

theorem id12 (a b : Int) (w : World) : Calls Trym.prog 12 #[.agg #[.int .i64 a, .int .i64 b]] w fun e w' => e = .returned (.int .i64 a) ∧ w' = w.alloc (.cells #[.int .i64 a, .int .i64 b] 30) := by
  go_enter Trym.func12, Trym.ntmps12
  go_wp2
  go_ret
  exact ⟨rfl, rfl⟩
theorem hu13 (a b : Int) (w : World) : Calls Trym.prog 13 #[.agg #[.int .i64 a, .int .i64 b]] w fun e w' => e = .returned (.int .i64 b) ∧ w' = w.alloc (.cells #[.int .i64 a, .int .i64 b] 30) := by
  go_enter Trym.func13, Trym.ntmps13
  go_wp2
  go_ret
  exact ⟨rfl, rfl⟩
theorem new8 (a : Option Addr) (n c : Nat) (i : Int) (w : World) : Calls Trym.prog 8 #[.slice a n c, .int .i64 i] w fun e w' => e = .returned (.pointer (some ⟨w.heap.size, 0, none⟩)) ∧ w' = w.alloc (.cells #[.slice a n c, .int .i64 i] 53) := by
  go_enter Trym.func8, Trym.ntmps8
  go_wp2
  go_ret
  exact ⟨rfl, rfl⟩
theorem at10 (B : Nat) (i : Int) (w : World) (h : w.cell? ⟨B, 1, none⟩ = some (.int .i64 i)) : Calls Trym.prog 10 #[.pointer (some ⟨B, 0, none⟩)] w fun e w' => e = .returned (.int .i64 i) ∧ w' = w := by
  go_enter Trym.func10, Trym.ntmps10
  go_wp2
  go_ret
  exact ⟨rfl, rfl⟩
theorem mk26 (a b : Int) (w : World) : Calls Trym.prog 26 #[.int .i64 a, .int .i64 b] w fun e w' => e = .returned (.agg #[.int .i64 a, .int .i64 b]) ∧ w' = w.alloc (.cells #[.int .i64 a, .int .i64 b] 30) := by
  go_enter Trym.func26, Trym.ntmps26
  go_wp2
  (try simp only [Exit.inBlock, Exit.then])
  refine bodyPost_ret_by (v := .agg #[.int .i64 a, .int .i64 b]) ?_ rfl ?_
  · rw [results_cell1 rfl]; go_simp
  · exact ⟨rfl, rfl⟩

/-- a kept stream at the place i -/
structure Str (w : World) (B g n i : Nat) (f h : Nat → Int) : Prop where
  c0 : w.cell? ⟨B, 0, none⟩ = some (.slice (some ⟨g, 0, none⟩) n n)
  c1 : w.cell? ⟨B, 1, none⟩ = some (.int .i64 i)
  fz : w.frozen? ⟨B, 1, none⟩ = false
  ps : Pairs w g 0 n f h
  gl : g < w.heap.size
  bl : B < w.heap.size
  ne : g ≠ B

theorem Pairs.below {w w' : World} {g o n b : Nat} {f h : Nat → Int} (hp : Pairs w g o n f h) (hb : Below b w w') (hg : g < b) : Pairs w' g o n f h := fun i hi =>
  ⟨(hb.cell hg).trans (hp i hi).1, (hb.cell hg).trans (hp i hi).2⟩

theorem Str.below {w w' : World} {B g n i : Nat} {f h : Nat → Int} (s : Str w B g n i f h) (hb : Below w.heap.size w w') : Str w' B g n i f h :=
  ⟨(hb.cell s.bl).trans s.c0, (hb.cell s.bl).trans s.c1, (hb.frozen s.bl).trans s.fz, s.ps.below hb s.gl, by have := hb.size; have := s.gl; omega, by have := hb.size; have := s.bl; omega, s.ne⟩

theorem size_set (w : World) (a : Addr) (u : Value) : (w.setCell a u).heap.size = w.heap.size := by simp [World.setCell]

theorem Pairs.set {w : World} {B g o n p : Nat} {v : Value} {f h : Nat → Int} (hp : Pairs w g o n f h) (hn : g ≠ B) : Pairs (w.setCell ⟨B, p, none⟩ v) g o n f h := fun i hi =>
  ⟨(World.cell?_setCell_far _ _ _ _ (by simpa using Ne.symm hn)).trans (hp i hi).1, (World.cell?_setCell_far _ _ _ _ (by simpa using Ne.symm hn)).trans (hp i hi).2⟩

theorem Str.set {w : World} {B g n i j : Nat} {f h : Nat → Int} (s : Str w B g n i f h) : Str (w.setCell ⟨B, 1, none⟩ (.int .i64 j)) B g n j f h :=
  ⟨by rw [World.cell?_setCell_other _ _ _ _ (by simp)]; exact s.c0, World.cell?_setCell_same _ _ _ s.c1, by simpa using s.fz, s.ps.set s.ne, by rw [size_set]; exact s.gl, by rw [size_set]; exact s.bl, s.ne⟩

theorem Str.other {w : World} {B B' g n i p : Nat} {v : Value} {f h : Nat → Int} (s : Str w B g n i f h) (hB : B ≠ B') (hg : g ≠ B') : Str (w.setCell ⟨B', p, none⟩ v) B g n i f h :=
  ⟨by rw [World.cell?_setCell_far _ _ _ _ (by simpa using Ne.symm hB)]; exact s.c0, by rw [World.cell?_setCell_far _ _ _ _ (by simpa using Ne.symm hB)]; exact s.c1, by simpa using s.fz, s.ps.set hg, by rw [size_set]; exact s.gl, by rw [size_set]; exact s.bl, s.ne⟩

theorem below_drewN {B : Nat} {a w : World} (h : Below B a w) (n : Nat) : Below B a (w.drewN n) := ⟨h.os, h.tape, h.output, h.size, h.block⟩
theorem set_drewN (w : World) (n : Nat) (a : Addr) (v : Value) : (w.drewN n).setCell a v = (w.setCell a v).drewN n := rfl

theorem next27_end (B g n : Nat) (f h : Nat → Int) (w : World) (s : Str w B g n n f h) :
    Calls Trym.prog 27 #[.pointer (some ⟨B, 0, none⟩)] w fun e w' => e = .returned (.tuple #[.agg #[.int .i64 0, .int .i64 0], .bool false, .nilIface]) ∧ Below w.heap.size w w' := by
  obtain ⟨c0, c1, fz, ps, gl, bl, ne⟩ := s
  clear ps
  go_enter Trym.func27, Trym.ntmps27
  go_wp2
  go_quiet (fail)
  go_wp2
  (try simp only [Exit.inBlock, Exit.then])
  refine bodyPost_ret_by (v := .tuple #[.agg #[.int .i64 0, .int .i64 0], .bool false, .nilIface]) ?_ rfl ?_
  · rw [results_cell3 rfl]; go_simp
  · exact ⟨rfl, ((below_drewN ((Below.refl _ _).alloc (Nat.le_refl _) _) _).setCell (Nat.le_refl _) _).setCell (Nat.le_refl _) _⟩

theorem next27_mid (B g n i : Nat) (f h : Nat → Int) (w : World) (hn : n ≤ 65536) (hi : i < n) (s : Str w B g n i f h) :
    Calls Trym.prog 27 #[.pointer (some ⟨B, 0, none⟩)] w fun e w' => e = .returned (.tuple #[.agg #[.int .i64 (f i), .int .i64 (h i)], .bool true, .nilIface]) ∧ Below w.heap.size (w.setCell ⟨B, 1, none⟩ (.int .i64 ((i + 1 : Nat) : Int))) w' := by
  obtain ⟨c0, c1, fz, ps, gl, bl, ne⟩ := s
  obtain ⟨p0, p1⟩ := ps i hi
  rw [Nat.zero_add] at p0 p1
  clear ps
  go_enter Trym.func27, Trym.ntmps27
  go_wp2
  go_quiet (fail)
  go_wp2
  go_region
  all_goals
    go_wp2
    (try simp only [Exit.inBlock, Exit.then])
    refine bodyPost_ret_by (v := .tuple #[.agg #[.int .i64 (f i), .int .i64 (h i)], .bool true, .nilIface]) ?_ rfl ?_
    · rw [results_cell3 rfl]; go_simp
    · refine ⟨rfl, ?_⟩
      rw [set_drewN, World.setCell_alloc_past _ _ _ _ bl]
      exact (((below_drewN ((Below.refl w.heap.size _).alloc (by rw [size_set]; exact Nat.le_refl _) _) _).setCell (Nat.le_refl _) _).setCell (Nat.le_refl _) _).drew

theorem next11_end (B g n : Nat) (f h : Nat → Int) (w : World) (s : Str w B g n n f h) :
    Calls Trym.prog 11 #[.pointer (some ⟨B, 0, none⟩)] w fun e w' => e = .returned (.tuple #[.agg #[.int .i64 0, .int .i64 0], .bool false, .nilIface]) ∧ Below w.heap.size w w' := by
  go_enter Trym.func11, Trym.ntmps11
  go_wp2_with fail
  refine (next27_end B g n f h _ (s.below ((Below.refl w.heap.size w).alloc (Nat.le_refl _) _))).mono ?_
  rintro e w1 ⟨rfl, hb⟩
  have z0 : w1.cell? ⟨w.heap.size, 0, none⟩ = some (.int .i64 0) := (hb.cell (by simp)).trans (by simp)
  have z1 : w1.cell? ⟨w.heap.size, 1, none⟩ = some (.int .i64 0) := (hb.cell (by simp)).trans (by simp)
  have zf : ∀ i, w1.frozen? ⟨w.heap.size, i, none⟩ = false := fun i => (hb.frozen (by simp)).trans (by simp)
  have zf0 := zf 0
  have zf1 := zf 1
  have hb' : Below w.heap.size w w1 := ((Below.refl _ _).alloc (Nat.le_refl _) _).trans (hb.mono (by simp))
  clear hb zf
  go_wp2
  (try simp only [Exit.inBlock, Exit.then])
  refine bodyPost_ret_by (v := .tuple #[.agg #[.int .i64 0, .int .i64 0], .bool false, .nilIface]) ?_ rfl ?_
  · rw [results_cell3 rfl]; go_simp
  · exact ⟨rfl, (hb'.setCell (Nat.le_refl _) _).setCell (Nat.le_refl _) _⟩

theorem next11_mid (B g n i : Nat) (f h : Nat → Int) (w : World) (hn : n ≤ 65536) (hi : i < n) (s : Str w B g n i f h) :
    Calls Trym.prog 11 #[.pointer (some ⟨B, 0, none⟩)] w fun e w' => e = .returned (.tuple #[.agg #[.int .i64 (f i), .int .i64 (h i)], .bool true, .nilIface]) ∧ Below w.heap.size (w.setCell ⟨B, 1, none⟩ (.int .i64 ((i + 1 : Nat) : Int))) w' := by
  go_enter Trym.func11, Trym.ntmps11
  go_wp2_with fail
  refine (next27_mid B g n i f h _ hn hi (s.below ((Below.refl w.heap.size w).alloc (Nat.le_refl _) _))).mono ?_
  rintro e w1 ⟨rfl, hb⟩
  have bl := s.bl
  rw [World.setCell_alloc_past _ _ _ _ bl] at hb
  have z0 : w1.cell? ⟨w.heap.size, 0, none⟩ = some (.int .i64 0) := (hb.cell (by simp)).trans (by simp [World.cell?_alloc_at, size_set])
  have z1 : w1.cell? ⟨w.heap.size, 1, none⟩ = some (.int .i64 0) := (hb.cell (by simp)).trans (by simp [World.cell?_alloc_at, size_set])
  have zf : ∀ i, w1.frozen? ⟨w.heap.size, i, none⟩ = false := fun i => (hb.frozen (by simp)).trans (by simp [World.frozen?_alloc_at, size_set])
  have zf0 := zf 0
  have zf1 := zf 1
  have hb' : Below w.heap.size (w.setCell ⟨B, 1, none⟩ (.int .i64 ((i + 1 : Nat) : Int))) w1 := ((Below.refl _ _).alloc (by rw [size_set]; exact Nat.le_refl _) _).trans (hb.mono (by simp))
  clear hb zf s
  have HB : Hid (Below w.heap.size (w.setCell ⟨B, 1, none⟩ (.int .i64 ((i + 1 : Nat) : Int))) w1) := hb'
  clear hb'
  go_wp2
  (try simp only [Exit.inBlock, Exit.then])
  refine bodyPost_ret_by (v := .tuple #[.agg #[.int .i64 (f i), .int .i64 (h i)], .bool true, .nilIface]) ?_ rfl ?_
  · rw [results_cell3 rfl]; go_simp
  · exact ⟨rfl, (HB.out.setCell (Nat.le_refl _) _).setCell (Nat.le_refl _) _⟩

/-- the made row of pairs, k of them filled -/
def Made (b gp n k : Nat) (u t : Nat → Int) (wr : World) : Prop :=
  ∃ xs, wr.ownsRow b 30 2 (.slice (some ⟨gp, 0, none⟩) n n) n xs ∧ ∀ i, i < k → xs[i * 2]? = some (.int .i64 (u i)) ∧ xs[i * 2 + 1]? = some (.int .i64 (t i))

theorem Made.step {b : Nat} {wr : World} {gp n k : Nat} {u t : Nat → Int} (h : Made b gp n k u t wr) (hk : k < n) :
    Made b gp n (k + 1) u t ((wr.setCell ⟨gp, k * 2, none⟩ (.int .i64 (u k))).setCell ⟨gp, k * 2 + 1, none⟩ (.int .i64 (t k))) := by
  obtain ⟨xs, hown, hxs⟩ := h
  have hlen : xs.length = n * 2 := hown.1
  have h1 := (hown.stored (k * 2) (.int .i64 (u k))).1
  have h2 := (h1.stored (k * 2 + 1) (.int .i64 (t k))).1
  refine ⟨_, h2, fun i hi => ?_⟩
  by_cases hik : i = k
  · subst hik
    refine ⟨?_, ?_⟩
    · rw [List.getElem?_set_ne (by omega), List.getElem?_set_self (by omega)]
    · rw [List.getElem?_set_self (by simp; omega)]
  · have := hxs i (by omega)
    refine ⟨?_, ?_⟩
    · rw [List.getElem?_set_ne (by omega), List.getElem?_set_ne (by omega)]; exact this.1
    · rw [List.getElem?_set_ne (by omega), List.getElem?_set_ne (by omega)]; exact this.2

theorem Made.alloc {b : Nat} {wr : World} {gp n k : Nat} {u t : Nat → Int} (h : Made b gp n k u t wr) (o : Obj) : Made b gp n k u t (wr.alloc o) := by
  obtain ⟨xs, hown, hxs⟩ := h
  exact ⟨xs, hown.alloc _, hxs⟩

theorem Made.pairs {b : Nat} {wr : World} {gp n : Nat} {u t : Nat → Int} (h : Made b gp n n u t wr) : Pairs wr gp 0 n u t := by
  obtain ⟨xs, hown, hxs⟩ := h
  intro i hi
  have := hxs i hi
  rw [Nat.zero_add]
  refine ⟨?_, ?_⟩
  · rw [hown.cellAt (i * 2) (by omega)]; exact this.1
  · rw [hown.cellAt (i * 2 + 1) (by omega)]; exact this.2

set_option maxHeartbeats 1000000 in
theorem toCh9 (a : Option Addr) (n c : Nat) (u t : Nat → Int) (w : World) (hn : n ≤ 65536) (h : PArg w a n c u t) :
    Calls Trym.prog 9 #[.slice a n c] w fun e w' => e = .returned (.slice (some ⟨w.heap.size, 0, none⟩) n n) ∧ w.heap.size < w'.heap.size ∧ Pairs w' w.heap.size 0 n u t ∧ Below w.heap.size w w' := by
  obtain ⟨i0, hi, hz0, hz1, hz2⟩ := info_parts Trym.info30
  go_enter Trym.func9, Trym.ntmps9
  go_wp2_with (at_make; refine wpList_make_full _ rfl _ _ 26 rfl w.heap.size 30 i0 (.agg #[.int .i64 0, .int .i64 0]) 2 Trym.underlying26 hi hz0 hz1 _ _ _ _ n rfl rfl rfl rfl ?b2 ?b3 (Nat.le_refl _) ?_)
  case b2 => rw [hz2]; omega
  case b3 => unfold maxLen; omega
  intro w0 hown0 hgrow0
  go_wp2
  go_loopg [4] n (fun gk v wr => ∃ k, k + gk = n ∧ v = .int .i64 k ∧ Made w.heap.size w.heap.size n k u t wr ∧ Below w.heap.size w wr)
  case atStart => exact ⟨0, by omega, rfl, ⟨_, hown0, fun i hi => by omega⟩, (Below.refl _ _).grown hgrow0 (Nat.le_refl _) (fun k h => by cases h)⟩
  case round =>
    obtain ⟨k, hkg, rfl, hMd, hb⟩ := hrel
    have hMd2 := hMd
    obtain ⟨xs, hown, hxs⟩ := hMd2
    clear hxs
    by_cases hlt : k < n
    · obtain ⟨g, o, hx, hg, g0, g1⟩ := h.cell hlt
      subst hx
      have g0 := (hb.cell (p := ⟨g, o + k * 2, none⟩) hg).trans g0
      have g1 := (hb.cell (p := ⟨g, o + k * 2 + 1, none⟩) hg).trans g1
      have hlen : xs.length = n * 2 := hown.1
      have d0 : wr.cell? ⟨w.heap.size, k * 2, none⟩ = some (xs[k * 2]'(by omega)) := by rw [hown.cellAt (k * 2) (by omega)]; simp
      have d1 : wr.cell? ⟨w.heap.size, k * 2 + 1, none⟩ = some (xs[k * 2 + 1]'(by omega)) := by rw [hown.cellAt (k * 2 + 1) (by omega)]; simp
      have f0 := hown.frozenAt (k * 2)
      have f1 := hown.frozenAt (k * 2 + 1)
      have hl : w.heap.size < wr.heap.size := (hown.lt _ rfl).2
      have hgl : g < wr.heap.size := by omega
      go_wp2
      go_region_with (go_at_call 26; refine (mk26 (u k) (t k) _).mono ?_; rintro e w' ⟨rfl, rfl⟩)
      all_goals
        go_wp2
        go_roundg (gk - 1)
        case measure => omega
        case rel => exact ⟨k + 1, by omega, by go_num, (hMd.step hlt).alloc _, (((hb.setCell (by simp) _).setCell (by simp) _).alloc (by rw [size_set, size_set]; omega) _).drew⟩
    · have HK : Hid (k = n) := by unfold Hid; omega
      have hlt' := (hown.lt _ rfl).2
      go_wp2
      go_ret
      have hMd' := hMd
      rw [HK.out] at hMd'
      exact ⟨rfl, hlt', hMd'.pairs, hb⟩

theorem Str.next {w w' : World} {B g n i : Nat} {f h : Nat → Int} (s : Str w B g n i f h) (hb : Below w.heap.size (w.setCell ⟨B, 1, none⟩ (.int .i64 ((i + 1 : Nat) : Int))) w') : Str w' B g n (i + 1) f h :=
  (s.set (j := i + 1)).below (by rw [size_set]; exact hb)
theorem below_next {w0 w w' : World} {B b : Nat} {v : Value} (h0 : Below b w0 w) (hB : b ≤ B) (hs : b ≤ w.heap.size) (hb : Below w.heap.size (w.setCell ⟨B, 1, none⟩ v) w') : Below b w0 w' :=
  (h0.setCell hB _).trans (hb.mono hs)

theorem Str.fresh {w1 w2 : World} {g n i : Nat} {f h : Nat → Int} (ps : Pairs w1 g 0 n f h) (gl : g < w1.heap.size) (hw : w2 = w1.alloc (.cells #[.slice (some ⟨g, 0, none⟩) n n, .int .i64 i] 53)) :
    Str w2 w1.heap.size g n i f h ∧ Below w1.heap.size w1 w2 := by
  subst hw
  have hb : Below w1.heap.size w1 (w1.alloc (.cells #[.slice (some ⟨g, 0, none⟩) n n, .int .i64 i] 53)) := (Below.refl _ _).alloc (Nat.le_refl _) _
  exact ⟨⟨by simp, by simp, by simp, ps.below hb gl, by simp; omega, by simp, by omega⟩, hb⟩

theorem b_alloc {b : Nat} {a w : World} (h : Below b a w) (o : Obj) (hb : b ≤ a.heap.size := by exact Nat.le_refl _) : Below b a (w.alloc o) :=
  h.alloc (Nat.le_trans hb h.size) o

end Go.Proofs.Qxb6603610aMods
