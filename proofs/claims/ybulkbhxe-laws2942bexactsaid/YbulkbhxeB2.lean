/-
  The walks of the varint writers: binary.AppendUvarint and zzs2942buv (functions 29, 17), binary.AppendVarint and zzs2942bsv (30, 18).
-/
import Derived.Test.YbulkbhxeB0
import Derived.Test.YbulkbhxeB1
namespace Go.Proofs.Ybulkbhxe.BVal
open Go.ChangeShapes Go.WideShapes Go.ChangeAt Go.RowKit

theorem one_new (w : World) (b : UInt8) : ∀ (j : Nat) (u : Value), (bc [b])[j]? = some u → (w.alloc (.cells #[.int .u8 (b.toNat : Int)] 5)).cell? ((⟨w.heap.size, 0, none⟩ : Addr).add j) = some u := by
  intro j u hj
  match j, hj with
  | 0, hj =>
    simp [bc] at hj
    subst hj
    rw [show (⟨w.heap.size, 0, none⟩ : Addr).add 0 = ⟨w.heap.size, 0, none⟩ from rfl, cell_of_row _ _ 0 _ 5 (0, 0) (heap_alloc_new w _)]
    rfl
  | j + 1, hj => simp [bc] at hj

theorem uv_last {m : List UInt8} {x y : Nat} (h : m ++ uv y = uv x) (hy : y < 128) (l : List UInt8) {b : UInt8} (hb : b = UInt8.ofNat y) : l ++ (m ++ [b]) = l ++ uv x := by
  rw [← h, uv_small hy, hb]

theorem uv_next {m : List UInt8} {x y : Nat} (h : m ++ uv y = uv x) (hy : ¬ y < 128) {b : UInt8} (hb : b = UInt8.ofNat (y % 128 + 128)) : (m ++ [b]) ++ uv (y / 128) = uv x := by
  rw [← h, uv_big hy, hb, List.append_assoc]; rfl

theorem ret_val {v v' : Value} (h : v = v') : Ending.returned v = .returned v' := by rw [h]

set_option maxRecDepth 20000 in
set_option maxHeartbeats 400000 in
theorem uv29 (Pr : Nat → Prop) (v : Value) (l : List UInt8) (x : Nat) (w : World) (hx : (uv x).length ≤ 10) (hown : Row w Pr v l) (hpr : ∀ k, Pr k → k < w.heap.size) (hl : l.length ≤ 900000) :
    Calls Yba.prog 29 #[v, .int .u64 (x : Int)] w fun e w' => ∃ v', e = .returned v' ∧ Row w' Pr v' (l ++ uv x) ∧ Step Pr l.length w w' := by
  go_enter Yba.func29, Yba.ntmps29
  go_wp2
  go_loopw [0, 1] (fun v t wr => ∃ (y : Nat) (m : List UInt8), t = .int .u64 y ∧ Row wr Pr v (l ++ m) ∧ Step Pr l.length w wr ∧ Hid (m ++ uv y = uv x)) (fun _ i _ => (intOf i).toNat)
  case atStart => exact ⟨x, [], rfl, by simpa using hown, Step.refl _ _ _, rfl⟩
  case round =>
    obtain ⟨y, m, rfl, hr, hst, HE⟩ := hrel
    have hml : m.length ≤ 10 := by have := congrArg List.length HE.out; rw [List.length_append] at this; omega
    have hbr : ∀ k, Pr k → k < (wr.alloc (.cells #[] 5)).heap.size := fun k hk => by have := hst.size; have := hpr k hk; simp; omega
    by_cases hlt : y < 128
    · obtain ⟨b, hb⟩ : ∃ b, b = UInt8.ofNat y := ⟨_, rfl⟩
      have hor := wrap_low y hlt
      rw [← hb] at hor
      have HB : Hid (b = UInt8.ofNat y) := hb
      clear hb
      go_wp2_with (at_builtin; refine wpList_put _ rfl (.tmp 15) (.tmp 18) rfl Pr _ (l ++ m) rfl (hr.alloc _) ⟨wr.heap.size, 0, none⟩ 1 1 [b] rfl rfl ?c1 ?c2 ?c3 ?_)
      case c1 => exact one_new wr b
      case c2 => simp; omega
      case c3 => simpa using hbr
      intro v' w1 hr1 hs1
      have hr2 : Row w1 Pr v' (l ++ (m ++ [b])) := by simpa using hr1
      rw [uv_last HE.out hlt l HB.out] at hr2
      have hs2 : Step Pr l.length w w1 := (hst.alloc hpr _).trans hs1 (by simp)
      clear hs1 hst hr hr1
      go_wp2
      go_ret
      exact ⟨v', rfl, hr2, hs2⟩
    · obtain ⟨b, hb⟩ : ∃ b, b = UInt8.ofNat (y % 128 + 128) := ⟨_, rfl⟩
      have hor := or_high y
      rw [IntKind.wrap_u8'] at hor
      rw [← hb] at hor
      have HB : Hid (b = UInt8.ofNat (y % 128 + 128)) := hb
      clear hb
      go_wp2_with (at_builtin; refine wpList_put _ rfl (.tmp 7) (.tmp 11) rfl Pr _ (l ++ m) rfl (hr.alloc _) ⟨wr.heap.size, 0, none⟩ 1 1 [b] rfl rfl ?d1 ?d2 ?d3 ?_)
      case d1 => exact one_new wr b
      case d2 => simp; omega
      case d3 => simpa using hbr
      intro v' w1 hr1 hs1
      have hs2 : Step Pr l.length w w1 := (hst.alloc hpr _).trans hs1 (by simp)
      have hr2 : Row w1 Pr v' (l ++ (m ++ [b])) := by simpa using hr1
      have HN : Hid ((m ++ [b]) ++ uv (y / 128) = uv x) := uv_next HE.out hlt HB.out
      clear hs1 hst hr hor hr1
      go_wp2
      go_roundw
      case rel => exact ⟨y / 128, m ++ [b], by go_num, hr2, hs2, HN⟩
      case measure => simp [intOf]; omega

set_option maxRecDepth 20000 in
set_option maxHeartbeats 400000 in
theorem uv17 (Pr : Nat → Prop) (v : Value) (l : List UInt8) (x : Nat) (w : World) (hx : (uv x).length ≤ 10) (hown : Row w Pr v l) (hpr : ∀ k, Pr k → k < w.heap.size) (hl : l.length ≤ 900000) :
    Calls Yba.prog 17 #[v, .int .u64 (x : Int)] w fun e w' => ∃ v', e = .returned v' ∧ Row w' Pr v' (l ++ uv x) ∧ Step Pr l.length w w' := by
  go_enter Yba.func17, Yba.ntmps17
  go_wp2
  go_loopw [0, 1] (fun v t wr => ∃ (y : Nat) (m : List UInt8), t = .int .u64 y ∧ Row wr Pr v (l ++ m) ∧ Step Pr l.length w wr ∧ Hid (m ++ uv y = uv x)) (fun _ i _ => (intOf i).toNat)
  case atStart => exact ⟨x, [], rfl, by simpa using hown, Step.refl _ _ _, rfl⟩
  case round =>
    obtain ⟨y, m, rfl, hr, hst, HE⟩ := hrel
    have hml : m.length ≤ 10 := by have := congrArg List.length HE.out; rw [List.length_append] at this; omega
    have hbr : ∀ k, Pr k → k < (wr.alloc (.cells #[] 5)).heap.size := fun k hk => by have := hst.size; have := hpr k hk; simp; omega
    by_cases hlt : y < 128
    · obtain ⟨b, hb⟩ : ∃ b, b = UInt8.ofNat y := ⟨_, rfl⟩
      have hor := wrap_low y hlt
      rw [← hb] at hor
      have HB : Hid (b = UInt8.ofNat y) := hb
      clear hb
      go_wp2_with (at_builtin; refine wpList_put _ rfl (.tmp 15) (.tmp 18) rfl Pr _ (l ++ m) rfl (hr.alloc _) ⟨wr.heap.size, 0, none⟩ 1 1 [b] rfl rfl ?c1 ?c2 ?c3 ?_)
      case c1 => exact one_new wr b
      case c2 => simp; omega
      case c3 => simpa using hbr
      intro v' w1 hr1 hs1
      have hr2 : Row w1 Pr v' (l ++ (m ++ [b])) := by simpa using hr1
      rw [uv_last HE.out hlt l HB.out] at hr2
      have hs2 : Step Pr l.length w w1 := (hst.alloc hpr _).trans hs1 (by simp)
      clear hs1 hst hr hr1
      go_wp2
      go_ret
      exact ⟨v', rfl, hr2, hs2⟩
    · obtain ⟨b, hb⟩ : ∃ b, b = UInt8.ofNat (y % 128 + 128) := ⟨_, rfl⟩
      have hor := or_high y
      rw [IntKind.wrap_u8'] at hor
      rw [← hb] at hor
      have HB : Hid (b = UInt8.ofNat (y % 128 + 128)) := hb
      clear hb
      go_wp2_with (at_builtin; refine wpList_put _ rfl (.tmp 7) (.tmp 11) rfl Pr _ (l ++ m) rfl (hr.alloc _) ⟨wr.heap.size, 0, none⟩ 1 1 [b] rfl rfl ?d1 ?d2 ?d3 ?_)
      case d1 => exact one_new wr b
      case d2 => simp; omega
      case d3 => simpa using hbr
      intro v' w1 hr1 hs1
      have hs2 : Step Pr l.length w w1 := (hst.alloc hpr _).trans hs1 (by simp)
      have hr2 : Row w1 Pr v' (l ++ (m ++ [b])) := by simpa using hr1
      have HN : Hid ((m ++ [b]) ++ uv (y / 128) = uv x) := uv_next HE.out hlt HB.out
      clear hs1 hst hr hor hr1
      go_wp2
      go_roundw
      case rel => exact ⟨y / 128, m ++ [b], by go_num, hr2, hs2, HN⟩
      case measure => simp [intOf]; omega

set_option maxRecDepth 20000 in
set_option maxHeartbeats 400000 in
theorem sv30 (Pr : Nat → Prop) (v : Value) (l : List UInt8) (x : Int) (w : World) (h1 : -9223372036854775808 ≤ x) (h2 : x ≤ 9223372036854775807) (hown : Row w Pr v l) (hpr : ∀ k, Pr k → k < w.heap.size) (hl : l.length ≤ 900000) :
    Calls Yba.prog 30 #[v, .int .i64 x] w fun e w' => ∃ v', e = .returned v' ∧ Row w' Pr v' (l ++ uv (zig x)) ∧ Step Pr l.length w w' := by
  have hz := uv_len64 _ (zig_lt h1 h2)
  by_cases h : x < 0
  · have hn := zig_neg x h h1
    go_enter Yba.func30, Yba.ntmps30
    go_wp2_with fail
    refine (uv29 Pr v l (zig x) _ hz hown hpr hl).mono ?_
    rintro e w1 ⟨v', rfl, hr, hs⟩
    go_wp2
    go_ret
    exact ⟨v', rfl, hr, hs⟩
  · have hn := zig_pos x h
    go_enter Yba.func30, Yba.ntmps30
    go_wp2_with fail
    refine (uv29 Pr v l (zig x) _ hz hown hpr hl).mono ?_
    rintro e w1 ⟨v', rfl, hr, hs⟩
    go_wp2
    go_ret
    exact ⟨v', rfl, hr, hs⟩

set_option maxRecDepth 20000 in
set_option maxHeartbeats 400000 in
theorem sv18 (Pr : Nat → Prop) (v : Value) (l : List UInt8) (x : Int) (w : World) (h1 : -9223372036854775808 ≤ x) (h2 : x ≤ 9223372036854775807) (hown : Row w Pr v l) (hpr : ∀ k, Pr k → k < w.heap.size) (hl : l.length ≤ 900000) :
    Calls Yba.prog 18 #[v, .int .i64 x] w fun e w' => ∃ v', e = .returned v' ∧ Row w' Pr v' (l ++ uv (zig x)) ∧ Step Pr l.length w w' := by
  have hz := uv_len64 _ (zig_lt h1 h2)
  by_cases h : x < 0
  · have hn := zig_neg x h h1
    go_enter Yba.func18, Yba.ntmps18
    go_wp2_with fail
    refine (uv17 Pr v l (zig x) _ hz hown hpr hl).mono ?_
    rintro e w1 ⟨v', rfl, hr, hs⟩
    go_wp2
    go_ret
    exact ⟨v', rfl, hr, hs⟩
  · have hn := zig_pos x h
    go_enter Yba.func18, Yba.ntmps18
    go_wp2_with fail
    refine (uv17 Pr v l (zig x) _ hz hown hpr hl).mono ?_
    rintro e w1 ⟨v', rfl, hr, hs⟩
    go_wp2
    go_ret
    exact ⟨v', rfl, hr, hs⟩
end Go.Proofs.Ybulkbhxe.BVal
