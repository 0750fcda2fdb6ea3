/-
  How the arguments of the two laws over writes are opened: a datum of seven fields, by value and in a slice; a slice of bytes.
-/
import Derived.Test.YbulkbhxeA6
import Derived.Deep.Slices
namespace Go.Proofs.Ybulkbhxe.AMem
open Go.ChangeShapes Go.WideShapes Go.ChangeAt Go.RowKit Go.Deep
set_option linter.unusedVariables false

theorem cells25 : Yba.prog.cellsOf 25 = 7 := by kernel_rfl
theorem cells23 : Yba.prog.cellsOf 23 = 1 := by kernel_rfl
theorem cells5 : Yba.prog.cellsOf 5 = 1 := by kernel_rfl
theorem cells4 : Yba.prog.cellsOf 4 = 1 := by kernel_rfl

/-- The seven cells of a datum. -/
def Seven (cs : List Value) : Prop := ∃ N G A0 A1 A2 L F, cs = [.int .i8 N, .int .u8 G, .int .u8 A0, .int .u8 A1, .int .u8 A2, .int .u8 L, .bool F] ∧ (0 ≤ G ∧ G ≤ 255) ∧ (0 ≤ A0 ∧ A0 ≤ 255) ∧ (0 ≤ A1 ∧ A1 ≤ 255) ∧ (0 ≤ A2 ∧ A2 ≤ 255) ∧ (0 ≤ L ∧ L ≤ 255)

theorem list7 {α : Type} {cs : List α} (h : cs.length = 7) : ∃ a b c d e f g, cs = [a, b, c, d, e, f, g] := by
  match cs, h with
  | [a, b, c, d, e, f, g], _ => exact ⟨a, b, c, d, e, f, g, rfl⟩

theorem seven_of {H : Type} {enc : TypeId × Value → H} {w : World} {base : Nat} {spare : Nat → Bool} {held : Bool} {n : Nat} {cs : List Value} {x : DataW H × List MemPlace} (h : DataW.trod enc Yba.prog w base spare held n 25 cs = some x) : Seven cs := by
  obtain ⟨xs, m, _, _, hl, hlen, hf⟩ := DataW.trod_struct Yba.underlying25 h
  rw [cells25] at hl
  obtain ⟨c0, c1, c2, c3, c4, c5, c6, rfl⟩ := list7 hl
  obtain ⟨y0, y1, y2, y3, y4, y5, y6, rfl⟩ := list7 (show xs.length = 7 from hlen)
  have f0 : DataW.trod enc Yba.prog w base spare held m 23 [c0] = some y0 := by simpa [cells23] using hf 0 _ rfl
  have f1 : DataW.trod enc Yba.prog w base spare held m 5 [c1] = some y1 := by simpa [cells5] using hf 1 _ rfl
  have f2 : DataW.trod enc Yba.prog w base spare held m 5 [c2] = some y2 := by simpa [cells5] using hf 2 _ rfl
  have f3 : DataW.trod enc Yba.prog w base spare held m 5 [c3] = some y3 := by simpa [cells5] using hf 3 _ rfl
  have f4 : DataW.trod enc Yba.prog w base spare held m 5 [c4] = some y4 := by simpa [cells5] using hf 4 _ rfl
  have f5 : DataW.trod enc Yba.prog w base spare held m 5 [c5] = some y5 := by simpa [cells5] using hf 5 _ rfl
  have f6 : DataW.trod enc Yba.prog w base spare held m 4 [c6] = some y6 := by simpa [cells4] using hf 6 _ rfl
  obtain ⟨N, e0, _, _⟩ := DataW.trod_int Yba.underlying23 f0
  obtain ⟨G, e1, _, w1⟩ := DataW.trod_int Yba.underlying5 f1
  obtain ⟨A0, e2, _, w2⟩ := DataW.trod_int Yba.underlying5 f2
  obtain ⟨A1, e3, _, w3⟩ := DataW.trod_int Yba.underlying5 f3
  obtain ⟨A2, e4, _, w4⟩ := DataW.trod_int Yba.underlying5 f4
  obtain ⟨L, e5, _, w5⟩ := DataW.trod_int Yba.underlying5 f5
  obtain ⟨F, e6, _⟩ := DataW.trod_bool Yba.underlying4 f6
  simp only [List.cons.injEq, and_true] at e0 e1 e2 e3 e4 e5 e6
  subst e0 e1 e2 e3 e4 e5 e6
  exact ⟨N, G, A0, A1, A2, L, F, rfl, bounds_u8 w1, bounds_u8 w2, bounds_u8 w3, bounds_u8 w4, bounds_u8 w5⟩

theorem add_plain' (b off i j : Nat) : ((⟨b, off, none⟩ : Addr).add i).add j = ⟨b, off + i + j, none⟩ := by
  unfold Addr.add
  split <;> split <;> simp_all

theorem arow_of {w : World} {a : Addr} {len : Nat} (h : ∀ i, i < len → ∃ cs, w.cells? 0 (a.add (i * 7)) 7 = some cs ∧ Seven cs) : ARow w (some a) len := by
  rcases Nat.eq_zero_or_pos len with hz | hp
  · exact .inl hz
  · obtain ⟨b, off, spot⟩ := a
    obtain ⟨cs, hc, hs⟩ := h 0 hp
    obtain ⟨_, hl, hcell⟩ := World.cells?_some hc
    have h0 : w.cell? ⟨b, off, spot⟩ = cs[0]? := by simpa [Addr.add] using hcell 0 (by omega)
    obtain ⟨c0, hc0⟩ : ∃ c0, cs[0]? = some c0 := ⟨cs[0]'(by omega), List.getElem?_eq_getElem _⟩
    rw [hc0] at h0
    have hspot : spot = none := by simpa using World.cell?_spot h0
    subst hspot
    refine .inr ⟨b, off, rfl, World.block_lt_of_cell? _ _ h0, fun k hk => ?_⟩
    obtain ⟨cs', hc', N, G, A0, A1, A2, L, F, rfl, g1, g2, g3, g4, g5⟩ := h k hk
    obtain ⟨_, _, hcell'⟩ := World.cells?_some hc'
    have q : ∀ j, j < 7 → w.cell? ⟨b, off + k * 7 + j, none⟩ = ([.int .i8 N, .int .u8 G, .int .u8 A0, .int .u8 A1, .int .u8 A2, .int .u8 L, .bool F] : List Value)[j]? := fun j hj => by
      have := hcell' j hj
      rw [add_plain'] at this
      exact this
    exact ⟨N, G, A0, A1, A2, L, F, ⟨q 0 (by omega), q 1 (by omega), q 2 (by omega), q 3 (by omega), q 4 (by omega), q 5 (by omega), q 6 (by omega), g1, g2, g3, g4, g5⟩⟩

/-- A slice of data, opened. -/
theorem open_data {H : Type} {enc : TypeId × Value → H} {w : World} {a : Option Addr} {len cap : Nat} {d : DataW H} {p : List MemPlace} (h : DataW.Trod enc Yba.prog w 0 (fun _ => true) true 22 (.slice a len cap) d p) : ARow w a len ∧ len ≤ maxLen := by
  obtain ⟨fuel, hf⟩ := h
  rcases open_slice Yba.underlying22 hf with ⟨hcs, _⟩ | ⟨x, l, c, m, n, D, Pl, hcs, _, hl, hm, hmm, _, hel⟩
  · simp [Value.cells] at hcs
    obtain ⟨rfl, rfl, rfl⟩ := hcs
    exact ⟨.inl rfl, Nat.zero_le _⟩
  · simp [Value.cells] at hcs
    obtain ⟨rfl, rfl, rfl⟩ := hcs
    simp only [if_true] at hmm
    refine ⟨arow_of fun i hi => ?_, Nat.le_trans hl hm⟩
    obtain ⟨cs', hc, ht⟩ := hel i (by omega)
    rw [cells25] at hc
    exact ⟨cs', hc, seven_of ht⟩

/-- A datum by value, opened. -/
theorem open_datum {H : Type} {enc : TypeId × Value → H} {w : World} {r : Reach} {b0 : Nat} {v : Value} {d : DataW H} {p : List MemPlace} (hv : Value.okWide Yba.prog w r b0 25 v) (h : DataW.Trod enc Yba.prog w 0 (fun _ => true) true 25 v d p) :
    ∃ N G A0 A1 A2 L F, v = .agg #[.int .i8 N, .int .u8 G, .int .u8 A0, .int .u8 A1, .int .u8 A2, .int .u8 L, .bool F] ∧ (0 ≤ G ∧ G ≤ 255) ∧ (0 ≤ A0 ∧ A0 ≤ 255) ∧ (0 ≤ A1 ∧ A1 ≤ 255) ∧ (0 ≤ A2 ∧ A2 ≤ 255) ∧ (0 ≤ L ∧ L ≤ 255) := by
  obtain ⟨cs, rfl, _⟩ := okWide_struct Yba.underlying25 hv
  obtain ⟨fuel, hf⟩ := h
  obtain ⟨N, G, A0, A1, A2, L, F, he, g1, g2, g3, g4, g5⟩ := seven_of hf
  refine ⟨N, G, A0, A1, A2, L, F, ?_, g1, g2, g3, g4, g5⟩
  have : cs.toList = [.int .i8 N, .int .u8 G, .int .u8 A0, .int .u8 A1, .int .u8 A2, .int .u8 L, .bool F] := by simpa [Value.cells] using he
  rw [← Array.toArray_toList (xs := cs), this]

/-- A slice of bytes, opened. -/
theorem open_bytes {H : Type} {enc : TypeId × Value → H} {w : World} {a : Option Addr} {len cap : Nat} {d : DataW H} {p : List MemPlace} (h : DataW.Trod enc Yba.prog w 0 (fun _ => true) true 26 (.slice a len cap) d p) : (∃ zs, ByteRow w a len zs) ∧ len ≤ maxLen := by
  obtain ⟨fuel, hf⟩ := h
  rcases open_ints Yba.underlying26 Yba.underlying5 cells5 hf with ⟨hcs, _⟩ | ⟨x, l, c, zs, hcs, _, hl, hm, hz, _, hcell, hwz⟩
  · simp [Value.cells] at hcs
    obtain ⟨rfl, rfl, rfl⟩ := hcs
    exact ⟨⟨fun _ => 0, .inl rfl⟩, Nat.zero_le _⟩
  · simp [Value.cells] at hcs
    obtain ⟨rfl, rfl, rfl⟩ := hcs
    have hz' : zs.length = cap := by simpa using hz
    refine ⟨⟨fun i => zs.getD i 0, ?_⟩, Nat.le_trans hl hm⟩
    rcases Nat.eq_zero_or_pos len with h0 | hp
    · exact .inl h0
    · obtain ⟨b, off, rfl, hc⟩ := ints_at hcell (by omega)
      refine .inr ⟨b, off, rfl, World.block_lt_of_cell? _ _ (hc 0 (by omega)), fun k hk => ⟨hc k (by omega), ?_⟩⟩
      have hkz : k < zs.length := by omega
      have e : zs.getD k 0 = zs[k] := by simp [List.getD, List.getElem?_eq_getElem hkz]
      show 0 ≤ zs.getD k 0 ∧ zs.getD k 0 ≤ 255
      rw [e]
      exact bounds_u8 (hwz zs[k] (List.getElem_mem hkz))
end Go.Proofs.Ybulkbhxe.AMem
