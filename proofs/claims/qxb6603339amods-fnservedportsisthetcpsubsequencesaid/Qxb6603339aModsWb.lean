import Derived.Test.Qxb6603339aModsWa
import Derived.Deep.DeepCutAuto
import Derived.Deep.CutBlock
import Derived.Deep.LoopGhost
import Derived.Deep.AppendLies
namespace Go.Proofs.Qxb6603339aMods
open Go.RowKit
set_option linter.unusedVariables false
set_option linter.unusedSimpArgs false

/-- the ports as the service holds them -/
def PRow (w : World) (gp n : Nat) (nm pr : Nat → ByteArray) (pt : Nat → Int) : Prop :=
  ∀ i, i < n → w.cell? ⟨gp, i * 3, none⟩ = some (.string (nm i)) ∧ w.cell? ⟨gp, i * 3 + 1, none⟩ = some (.string (pr i)) ∧ w.cell? ⟨gp, i * 3 + 2, none⟩ = some (.int .i32 (pt i))

theorem PRow.below {w w' : World} {gp n : Nat} {nm pr : Nat → ByteArray} {pt : Nat → Int} {b : Nat} (h : PRow w gp n nm pr pt) (hb : Below b w w') (hg : gp < b) : PRow w' gp n nm pr pt := fun i hi =>
  ⟨(hb.cell hg).trans (h i hi).1, (hb.cell hg).trans (h i hi).2.1, (hb.cell hg).trans (h i hi).2.2⟩

def trip (nm pr : Nat → ByteArray) (pt : Nat → Int) (i : Nat) : List Value := [.string (nm i), .string (pr i), .int .i32 (pt i)]
/-- which of the first k are served -/
def ks (pr : Nat → ByteArray) (k : Nat) : List Nat := (List.range k).filter fun i => srvB (pr i)
def trips (nm pr : Nat → ByteArray) (pt : Nat → Int) (l : List Nat) : List Value := l.flatMap (trip nm pr pt)

theorem ks_yes {pr : Nat → ByteArray} {k : Nat} (h : srvB (pr k) = true) : ks pr (k + 1) = ks pr k ++ [k] := by simp [ks, List.range_succ, h]
theorem ks_no {pr : Nat → ByteArray} {k : Nat} (h : srvB (pr k) = false) : ks pr (k + 1) = ks pr k := by simp [ks, List.range_succ, h]
theorem ks_len (pr : Nat → ByteArray) (k : Nat) : (ks pr k).length ≤ k := by
  have := List.length_filter_le (fun i => srvB (pr i)) (List.range k)
  simpa [ks] using this
theorem trips_snoc (nm pr : Nat → ByteArray) (pt : Nat → Int) (l : List Nat) (k : Nat) : trips nm pr pt (l ++ [k]) = trips nm pr pt l ++ trip nm pr pt k := by simp [trips]

theorem served_ext (B : Nat) (ty : ByteArray) (w : World) (h4 : w.cell? ⟨B, 4, none⟩ = some (.string ty)) (hty : (ty.toList == [69, 120, 116, 101, 114, 110, 97, 108, 78, 97, 109, 101]) = true) :
    Calls Trym.prog 28 #[.pointer (some ⟨B, 0, none⟩)] w fun e w' => e = .returned (.slice none 0 0) ∧ w' = w := by
  go_enter Trym.func28, Trym.ntmps28
  go_wp2
  go_ret
  exact ⟨rfl, rfl⟩

theorem served_zero (B c : Nat) (a : Option Addr) (ty : ByteArray) (w : World) (h4 : w.cell? ⟨B, 4, none⟩ = some (.string ty)) (h5 : w.cell? ⟨B, 5, none⟩ = some (.slice a 0 c))
    (hty : (ty.toList == [69, 120, 116, 101, 114, 110, 97, 108, 78, 97, 109, 101]) = false) :
    Calls Trym.prog 28 #[.pointer (some ⟨B, 0, none⟩)] w fun e w' => e = .returned (.slice none 0 0) ∧ w' = w := by
  go_enter Trym.func28, Trym.ntmps28
  go_wp2
  go_loop [3, 18] (fun v i => v = .slice none 0 0 ∧ i = .int .i64 0) (fun _ _ => 0)
  case atStart => exact ⟨rfl, rfl⟩
  case round =>
    obtain ⟨rfl, rfl⟩ := hrel
    go_wp2
    go_ret
    exact ⟨rfl, rfl⟩

set_option maxRecDepth 100000 in
set_option maxHeartbeats 1000000 in
theorem served28 (B gp n c : Nat) (ty : ByteArray) (nm pr : Nat → ByteArray) (pt : Nat → Int) (w : World) (hn : n ≤ 65536) (h4 : w.cell? ⟨B, 4, none⟩ = some (.string ty)) (h5 : w.cell? ⟨B, 5, none⟩ = some (.slice (some ⟨gp, 0, none⟩) n c))
    (hty : (ty.toList == [69, 120, 116, 101, 114, 110, 97, 108, 78, 97, 109, 101]) = false) (hp : PRow w gp n nm pr pt) (hgp : gp < w.heap.size) :
    Calls Trym.prog 28 #[.pointer (some ⟨B, 0, none⟩)] w fun e w' => ∃ v, e = .returned v ∧ w'.ownsRow w.heap.size 60 3 v (ks pr n).length (trips nm pr pt (ks pr n)) ∧ (ks pr n = [] → v = .slice none 0 0) ∧ Below w.heap.size w w' := by
  obtain ⟨i0, hi, hz0, hz1, hz2⟩ := info_parts Trym.info60
  go_enter Trym.func28, Trym.ntmps28
  go_wp2
  go_loopg [3, 18] n (fun gk v i wr => ∃ k, k + gk = n ∧ i = .int .i64 k ∧ wr.ownsRow w.heap.size 60 3 v (ks pr k).length (trips nm pr pt (ks pr k)) ∧ Hid (ks pr k = [] → v = .slice none 0 0) ∧ Below w.heap.size w wr)
  case atStart => exact ⟨0, by omega, rfl, World.ownsRow_nil _ _ _ _, (fun _ => rfl), Below.refl _ _⟩
  case round =>
    obtain ⟨k, hkg, rfl, hown, hnil, hb⟩ := hrel
    by_cases hlt : k < n
    · obtain ⟨d1, d2, d3⟩ := (hp.below hb hgp) k hlt
      have hbs := hb.size
      have hkl := ks_len pr k
      cases hE : (pr k).toList.isEmpty
      · cases hT : ((pr k).toList == [84, 67, 80])
        · have hS : srvB (pr k) = false := by unfold srvB; rw [hE, hT]; rfl
          have HK : Hid (ks pr (k + 1) = ks pr k) := ks_no hS
          clear hS
          go_wp2
          go_roundg (gk - 1)
          case measure => omega
          case rel => exact ⟨k + 1, by omega, by go_num, by rw [HK.out]; exact (hown.alloc _), by rw [HK.out]; exact hnil, hb.alloc hbs _⟩
        · have hS : srvB (pr k) = true := by unfold srvB; rw [hE, hT]; rfl
          have HK : Hid (ks pr (k + 1) = ks pr k ++ [k]) := ks_yes hS
          clear hS
          go_wp2_with (at_builtin; refine wpList_append_lies _ rfl (.tmp 30) (.tmp 32) 55 rfl w.heap.size 60 i0 (.agg #[.string ⟨#[]⟩, .string ⟨#[]⟩, .int .i32 0]) 3 40 Trym.underlying55 hi hz0 hz1 hz2 rfl (by decide) _ _ _ rfl ((hown.alloc _).alloc _) ⟨wr.heap.size + 1, 0, none⟩ 1 1 (trip nm pr pt k) rfl rfl ?c1 ?c2 (by decide) ?c3 ?c4 ?c5 _ rfl ?_)
          case c1 =>
            intro j u hj
            match j, hj with
            | 0, hj => simp [trip] at hj; subst hj; simp [Addr.add]
            | 1, hj => simp [trip] at hj; subst hj; simp [Addr.add]
            | 2, hj => simp [trip] at hj; subst hj; simp [Addr.add]
          case c2 => intro u hu; simp [trip] at hu; rcases hu with rfl | rfl | rfl <;> rfl
          case c3 => unfold maxLen; omega
          case c4 => omega
          case c5 => first | omega | (simp; omega)
          intro g' cap w2 hown2 hgrow hat hlt2
          have hbb : Below w.heap.size w w2 := (((hb.alloc hbs _).alloc (by simp; omega) _).grown hgrow (by simp; omega) (fun k hk => (hown.lt k hk).1))
          clear hgrow hat d1 d2 d3
          go_wp2
          go_roundg (gk - 1)
          case measure => omega
          case rel => exact ⟨k + 1, by omega, by go_num, by rw [HK.out, trips_snoc, List.length_append]; exact hown2, (fun h => by rw [HK.out] at h; simp at h), hbb⟩
      · have hS : srvB (pr k) = true := by unfold srvB; rw [hE]; rfl
        have HK : Hid (ks pr (k + 1) = ks pr k ++ [k]) := ks_yes hS
        clear hS
        go_wp2_with (at_builtin; refine wpList_append_lies _ rfl (.tmp 30) (.tmp 32) 55 rfl w.heap.size 60 i0 (.agg #[.string ⟨#[]⟩, .string ⟨#[]⟩, .int .i32 0]) 3 40 Trym.underlying55 hi hz0 hz1 hz2 rfl (by decide) _ _ _ rfl ((hown.alloc _).alloc _) ⟨wr.heap.size + 1, 0, none⟩ 1 1 (trip nm pr pt k) rfl rfl ?c1 ?c2 (by decide) ?c3 ?c4 ?c5 _ rfl ?_)
        case c1 =>
          intro j u hj
          match j, hj with
          | 0, hj => simp [trip] at hj; subst hj; simp [Addr.add]
          | 1, hj => simp [trip] at hj; subst hj; simp [Addr.add]
          | 2, hj => simp [trip] at hj; subst hj; simp [Addr.add]
        case c2 => intro u hu; simp [trip] at hu; rcases hu with rfl | rfl | rfl <;> rfl
        case c3 => unfold maxLen; omega
        case c4 => omega
        case c5 => first | omega | (simp; omega)
        intro g' cap w2 hown2 hgrow hat hlt2
        have hbb : Below w.heap.size w w2 := (((hb.alloc hbs _).alloc (by simp; omega) _).grown hgrow (by simp; omega) (fun k hk => (hown.lt k hk).1))
        clear hgrow hat d1 d2 d3
        go_wp2
        go_roundg (gk - 1)
        case measure => omega
        case rel => exact ⟨k + 1, by omega, by go_num, by rw [HK.out, trips_snoc, List.length_append]; exact hown2, (fun h => by rw [HK.out] at h; simp at h), hbb⟩
    · have HK : Hid (k = n) := by unfold Hid; omega
      go_wp2
      go_ret
      exact ⟨_, rfl, HK.out ▸ hown, HK.out ▸ hnil.out, hb⟩


end Go.Proofs.Qxb6603339aMods
