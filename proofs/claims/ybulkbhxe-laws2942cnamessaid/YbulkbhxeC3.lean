/-
  The walk of LawS2942CNames (function 7): it returns true, and writes nothing that was there.
-/
import Derived.Test.YbulkbhxeC2
import Derived.WalkSpells
import Derived.WalkLawsBesides
namespace Go.Proofs.Ybulkbhxe.CNames
open Go.ChangeShapes Go.WideShapes Go.ChangeAt Go.RowKit

theorem cut_left (a b : ByteArray) : ((a ++ b).extract 0 a.size).toList = a.toList := by
  rw [ByteArray.extract_append_eq_left rfl]

theorem cut_right (a b : ByteArray) : ((a ++ b).extract a.size (a.size + b.size)).toList = b.toList := by
  rw [ByteArray.extract_append_eq_right rfl rfl]

theorem below_drewN {B : Nat} {w w' : World} (h : Below B w w') (n : Nat) : Below B w (w'.drewN n) :=
  ⟨h.os, h.tape, h.output, h.size, h.block⟩

/-- The second loop's relation is kept through draws. -/
def Drawn (w w' : World) : Prop := ∃ n, w' = w.drewN n

set_option maxHeartbeats 1000000 in
theorem walk_in (s : ByteArray) (a1 : Option Addr) (n c1 : Nat) (ss : Nat → ByteArray) (a2 : Option Addr) (n2 c2 : Nat) (zs : Nat → Int) (w : World)
    (h1 : StrRow w a1 n ss) (h2 : IntRow w a2 n2 zs) (hn : n ≤ 1024) (hn2 : n2 ≤ 9223372036854775807) (hs : s.size ≤ 1048576) :
    Calls Yba.prog 7 #[.string s, .slice a1 n c1, .slice a2 n2 c2] w fun e w' => e = .returned (.bool true) ∧ Below w.heap.size w w' := by
  have q56 : ∀ (w : World) (a : Option Addr) (n c n' c' : Nat), (binOp .eql 56 (.slice a n c) (.slice none n' c')).run Yba.prog w = .ok (.bool a.isNone) w := fun w a n c n' c' => Lib.run_eql_slice_nil w _ _ a n c n' c' Yba.underlying56
  go_enter Yba.func7, Yba.ntmps7
  go_wp2
  go_loop [7] (fun i => ∃ k : Nat, k ≤ n ∧ i = .int .i64 k ∧ ∀ j, j < k → (ss j).size ≤ 1048576) (fun i => n - (intOf i).toNat)
  case atStart => exact ⟨0, Nat.zero_le _, rfl, fun _ h => absurd h (Nat.not_lt_zero _)⟩
  case round =>
    obtain ⟨k, hk, rfl, hsz⟩ := hrel
    by_cases hlt : k < n
    · rcases h1 with h1 | ⟨b, off, rfl, hbl, hc⟩
      · omega
      have hcr := hc k hlt
      by_cases hbig : (1048576 : Int) < ((ss k).size : Int)
      · clear hc
        go_wp2
        go_ret
        exact ⟨rfl, Below.refl _ _⟩
      · clear hc
        go_wp2
        go_round
        case rel => exact ⟨k + 1, by omega, by go_num, fun j hj => by by_cases e : j = k; · subst e; omega
                                                                      · exact hsz j (by omega)⟩
        case measure => simp [intOf]; omega
    · have e : k = n := by omega
      subst e
      go_wp2_with fail
      refine (build_any a1 k c1 ss a2 n2 c2 zs w h1 h2 hn hn2).mono ?_
      rintro e w1 ⟨rfl, hp, hb1⟩
      have hl1 : w.heap.size < w1.heap.size := by obtain ⟨cur, hg, _⟩ := hp; exact (Array.getElem?_eq_some_iff.1 hg).1
      go_wp2_with fail
      refine (names_any s w.heap.size k ss (kd n2 zs) w1 hp hl1 hn hs hsz).mono ?_
      rintro e w2 ⟨rfl, hq, hb2⟩
      have hb : Below w.heap.size w w2 := hb1.trans (hb2.mono (by omega))
      have HP : Hid (∀ j, j < k → w2.cell? ⟨w.heap.size, j * 2, none⟩ = some (.string (ss j)) ∧ w2.cell? ⟨w.heap.size, j * 2 + 1, none⟩ = some (.int .i64 (kd n2 zs j))) :=
        fun j hj => ⟨(hb2.cell (by exact hl1)).trans (hp.at j hj).1, (hb2.cell (by exact hl1)).trans (hp.at j hj).2⟩
      clear hp hb1 hb2
      go_wp2
      go_loopw [10] (fun i wr => ∃ j : Nat, j ≤ k ∧ i = .int .i64 j ∧ Drawn w2 wr) (fun i _ => k - (intOf i).toNat)
      case atStart => exact ⟨0, Nat.zero_le _, rfl, 0, rfl⟩
      case round =>
        obtain ⟨j, hj, rfl, m, rfl⟩ := hrel
        by_cases hlj : j < k
        · rcases h1 with h1 | ⟨b, off, rfl, hbl, hc⟩
          · omega
          have hcr : w2.cell? ⟨b, off + j, none⟩ = some (.string (ss j)) := (hb.cell (by exact hbl)).trans (hc j hlj)
          obtain ⟨hp1, hp2⟩ := HP.out j hlj
          have hqj := hq.at j hlj
          have hsj := hsz j hlj
          have hcl := cut_left s (ss j)
          have hcr2 := cut_right s (ss j)
          clear hc
          by_cases hz : n2 = 0
          · subst hz
            go_wp2
            go_quiet (fail)
            go_wp2
            go_roundw
            case rel => exact ⟨j + 1, by omega, by go_num, _, rfl⟩
            case measure => simp [intOf]; omega
          · rcases h2 with h2 | ⟨b', off', rfl, hbl', hc'⟩
            · omega
            have hm : j % n2 < n2 := Nat.mod_lt _ (by omega)
            have hm' : (j : Int) % (n2 : Int) < (n2 : Int) := by omega
            have hcz : w2.cell? ⟨b', off' + j % n2, none⟩ = some (.int .i64 (zs (j % n2))) := (hb.cell (by exact hbl')).trans (hc' _ hm)
            have ekd : kd n2 zs j = zs (j % n2) := by simp [kd, hz]
            rw [ekd] at hp2
            clear hc' ekd
            have hpos : (0 : Int) < (n2 : Int) := by omega
            have hpos2 : 0 < n2 := by omega
            go_wp2
            go_quiet (fail)
            go_wp2
            go_roundw
            case rel => exact ⟨j + 1, by omega, by go_num, _, rfl⟩
            case measure => simp [intOf]; omega
        · go_wp2
          go_ret
          exact ⟨rfl, below_drewN hb m⟩
end Go.Proofs.Ybulkbhxe.CNames
