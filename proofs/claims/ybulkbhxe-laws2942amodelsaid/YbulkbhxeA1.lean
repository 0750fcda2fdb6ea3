/-
  Writes and clocks as they lie in memory; the walks of the functions that only read them: clock.at, precedes, before, slices.Equal, equal (functions 32, 22, 24, 28, 25).
-/
import Derived.Test.YbulkbhxeRows
import Derived.WalkKit
import Derived.ProofKit
import Derived.OpenShut
import Derived.ShutString
import Derived.ChangeOld
import Derived.Below
import Derived.WalkSpells
import Derived.WalkLawsBesides
import Derived.Deep.QuietTactic
import Derived.BigQuiet
import Derived.Deep.RegionHeld3
import Derived.Deep.DrawnRows
namespace Go.Proofs.Ybulkbhxe.AMem
open Go.ChangeShapes Go.WideShapes Go.ChangeAt Go.RowKit
set_option linter.unusedVariables false

/-- A write: its number, its goroutine, its clock (the block where it lies, and its elements), what it follows. -/
structure Wr where
  N : Int
  g : Nat
  b : Nat
  at' : List Nat
  f : Int

/-- Element i of a clock (0 where it has none). -/
def el (l : List Nat) (i : Nat) : Int := ((l.getD i 0 : Nat) : Int)
/-- A clock's cells. -/
def uc (l : List Nat) : Array Value := (l.map fun (a : Nat) => Value.int .u32 (a : Int)).toArray
/-- Block b holds the clock l. -/
def Clk (w : World) (b : Nat) (l : List Nat) : Prop := w.heap[b]? = some (.cells (uc l) 65 (0, 0))
/-- A write's cells. -/
def wc (x : Wr) : List Value := [.int .i64 x.N, .string ByteArray.empty, .int .i64 0, .int .u64 0, .int .i64 (x.g : Int), .slice (some ⟨x.b, 0, none⟩) x.at'.length x.at'.length, .int .u64 x.f]
/-- The write's clock lies where it says, and holds its goroutine's element. -/
structure Good (w : World) (x : Wr) : Prop where
  clk : Clk w x.b x.at'
  lt : x.g < x.at'.length
  small : x.at'.length ≤ 1024
/-- The write x lies in block b from offset o on. -/
structure At (w : World) (b o : Nat) (x : Wr) : Prop where
  c0 : w.cell? ⟨b, o, none⟩ = some (.int .i64 x.N)
  c1 : w.cell? ⟨b, o + 1, none⟩ = some (.string ByteArray.empty)
  c2 : w.cell? ⟨b, o + 2, none⟩ = some (.int .i64 0)
  c3 : w.cell? ⟨b, o + 3, none⟩ = some (.int .u64 0)
  c4 : w.cell? ⟨b, o + 4, none⟩ = some (.int .i64 (x.g : Int))
  c5 : w.cell? ⟨b, o + 5, none⟩ = some (.slice (some ⟨x.b, 0, none⟩) x.at'.length x.at'.length)
  c6 : w.cell? ⟨b, o + 6, none⟩ = some (.int .u64 x.f)

theorem Clk.cell {w : World} {b : Nat} {l : List Nat} (h : Clk w b l) (i : Nat) (hi : i < l.length) : w.cell? ⟨b, i, none⟩ = some (.int .u32 (el l i)) := by
  rw [cell_of_row w b i (uc l) 65 (0, 0) h, uc, List.getElem?_toArray, List.getElem?_map, List.getElem?_eq_getElem hi]
  simp [el, List.getD, List.getElem?_eq_getElem hi]

/-- Does the write happen before the next step of a goroutine at this clock? -/
def precB (x : Wr) (cl : List Nat) : Bool := decide (el x.at' x.g ≤ el cl x.g)
def befB (x y : Wr) : Bool := ((x.g : Int) == (y.g : Int)) || precB x y.at'
def eqB (x y : Wr) : Bool := (x.N == y.N) && (((x.g : Int) == (y.g : Int)) && ((x.f == y.f) && (x.at' == y.at')))

theorem At.drewN {w : World} {b o : Nat} {x : Wr} (h : At w b o x) (n : Nat) : At (w.drewN n) b o x := ⟨h.c0, h.c1, h.c2, h.c3, h.c4, h.c5, h.c6⟩
theorem Good.drewN {w : World} {x : Wr} (h : Good w x) (n : Nat) : Good (w.drewN n) x := ⟨h.clk, h.lt, h.small⟩

theorem clockAt (b : Nat) (l : List Nat) (i : Nat) (w : World) (h : Clk w b l) (hl : l.length ≤ 1024) (hi : i ≤ 1024) :
    Calls Yba.prog 32 #[.slice (some ⟨b, 0, none⟩) l.length l.length, .int .i64 (i : Int)] w fun e w' => e = .returned (.int .u32 (el l i)) ∧ w' = w := by
  by_cases hlt : i < l.length
  · have hc := h.cell i hlt
    go_enter Yba.func32, Yba.ntmps32
    go_wp2
    go_ret
    exact ⟨rfl, rfl⟩
  · have hz : el l i = 0 := by simp [el, List.getD, List.getElem?_eq_none (Nat.le_of_not_lt hlt)]
    rw [hz]
    clear hz
    go_enter Yba.func32, Yba.ntmps32
    go_wp2
    go_ret
    exact ⟨rfl, rfl⟩

set_option maxHeartbeats 400000 in
theorem prec22 (b o cb : Nat) (x : Wr) (cl : List Nat) (w : World) (ha : At w b o x) (hx : Good w x) (hc : Clk w cb cl) (hl : cl.length ≤ 1024) :
    Calls Yba.prog 22 #[.pointer (some ⟨b, o, none⟩), .slice (some ⟨cb, 0, none⟩) cl.length cl.length] w fun e w' => e = .returned (.bool (precB x cl)) ∧ ∃ n, w' = w.drewN n := by
  have h4 := ha.c4
  have h5 := ha.c5
  have h6 := hx.clk.cell x.g hx.lt
  have hlt : (x.g : Int) < (x.at'.length : Int) := by have := hx.lt; omega
  have hs := hx.small
  have hgs : x.g ≤ 1024 := by have := hx.lt; omega
  clear ha hx
  go_enter Yba.func22, Yba.ntmps22
  go_wp2
  go_quiet ((go_at_call 32; exact Calls.quiet_of_same (clockAt _ _ _ _ hc hl hgs)))
  go_wp2
  go_ret
  exact ⟨rfl, nq, rfl⟩

set_option maxHeartbeats 400000 in
theorem bef24 (b o b' o' : Nat) (x y : Wr) (w : World) (ha : At w b o x) (ha' : At w b' o' y) (hx : Good w x) (hy : Good w y) :
    Calls Yba.prog 24 #[.pointer (some ⟨b, o, none⟩), .pointer (some ⟨b', o', none⟩)] w fun e w' => e = .returned (.bool (befB x y)) ∧ ∃ n, w' = w.drewN n := by
  have h4 := ha.c4
  have h4' := ha'.c4
  have h5' := ha'.c5
  unfold befB
  cases hg : ((x.g : Int) == (y.g : Int))
  · rw [Bool.false_or]
    go_enter Yba.func24, Yba.ntmps24
    go_wp2
    go_quiet ((go_at_call 22; exact Calls.quiet_of (prec22 _ _ _ _ _ _ (ha.drewN _) (hx.drewN _) hy.clk hy.small)))
    go_wp2
    go_ret
    exact ⟨rfl, nq, rfl⟩
  · rw [Bool.true_or]
    go_enter Yba.func24, Yba.ntmps24
    go_wp2
    go_quiet (fail)
    go_wp2
    go_ret
    exact ⟨rfl, nq, rfl⟩

/-! ### slices.Equal of two clocks -/
theorem list_eq_iff (a b : List Nat) (h : a.length = b.length) : (a == b) = true ↔ ∀ i, i < a.length → el a i = el b i := by
  rw [beq_iff_eq]
  constructor
  · rintro rfl i _
    rfl
  · intro hi
    apply List.ext_getElem h
    intro i h1 h2
    have := hi i h1
    simp only [el, List.getD, List.getElem?_eq_getElem h1, List.getElem?_eq_getElem h2, Option.getD_some] at this
    omega

set_option maxHeartbeats 400000 in
theorem equal28 (b b' : Nat) (l l' : List Nat) (w : World) (h : Clk w b l) (h' : Clk w b' l') (hl : l.length ≤ 1024) (hl' : l'.length ≤ 1024) :
    Calls Yba.prog 28 #[.slice (some ⟨b, 0, none⟩) l.length l.length, .slice (some ⟨b', 0, none⟩) l'.length l'.length] w fun e w' => e = .returned (.bool (l == l')) ∧ ∃ n, w' = w.drewN n := by
  by_cases hlen : l.length = l'.length
  · have hne : (l.length : Int) = (l'.length : Int) := by omega
    have HL : Hid (l.length = l'.length) := hlen
    have HI := list_eq_iff l l' hlen
    have HI' : Hid ((l == l') = true ↔ ∀ i, i < l.length → el l i = el l' i) := HI
    clear HI
    obtain ⟨n, hn⟩ : ∃ n, n = l.length := ⟨_, rfl⟩
    obtain ⟨r, hr⟩ : ∃ r, r = (l == l') := ⟨_, rfl⟩
    have hn' : n = l'.length := hn.trans hlen
    have hc : ∀ i, i < n → w.cell? ⟨b, i, none⟩ = some (.int .u32 (el l i)) := fun i hi => h.cell i (by omega)
    have hc' : ∀ i, i < n → w.cell? ⟨b', i, none⟩ = some (.int .u32 (el l' i)) := fun i hi => h'.cell i (by omega)
    have HR : Hid (r = true ↔ ∀ i, i < n → el l i = el l' i) := by
      show _ ↔ _
      rw [hr, hn]
      exact HI'
    have hns : n ≤ 1024 := by omega
    rw [← hr, ← hn, ← hn']
    clear hr hn hn' HI' HL hlen hne h h' hl hl'
    go_enter Yba.func28, Yba.ntmps28
    go_wp2
    go_loopw [13] (fun i wr => ∃ k : Nat, k ≤ n ∧ i = .int .i64 k ∧ (∃ m, wr = w.drewN m) ∧ Hid (∀ j, j < k → el l j = el l' j)) (fun i _ => n - (intOf i).toNat)
    case atStart => exact ⟨0, Nat.zero_le _, rfl, ⟨0, rfl⟩, fun j hj => absurd hj (Nat.not_lt_zero _)⟩
    case round =>
      obtain ⟨k, hk, rfl, ⟨m, rfl⟩, HE⟩ := hrel
      by_cases hlt : k < n
      · have g := hc k hlt
        have g' := hc' k hlt
        clear hc hc'
        by_cases he : el l k = el l' k
        · have HK : Hid (∀ j, j < k + 1 → el l j = el l' j) := fun j hj => by
            by_cases e : j = k
            · subst e; exact he
            · exact HE.out j (by omega)
          rw [he] at g
          clear he
          go_wp2
          go_quiet (fail)
          go_wp2
          go_roundw
          case rel => exact ⟨k + 1, by omega, by go_num, ⟨_, rfl⟩, HK⟩
          case measure => simp [intOf]; omega
        · have hr0 : r = false := by
            cases hb : r
            · rfl
            · exact absurd (HR.out.1 hb k hlt) he
          subst hr0
          go_wp2
          go_quiet (fail)
          go_wp2
          go_ret
          exact ⟨rfl, m + nq, by rw [World.drewN_drewN]⟩
      · have hr1 : r = true := HR.out.2 fun j hj => HE.out j (by omega)
        subst hr1
        clear hc hc'
        go_wp2
        go_ret
        exact ⟨rfl, _, rfl⟩
  · have hne : ¬ (l.length : Int) = (l'.length : Int) := by omega
    have hr : (l == l') = false := by rw [beq_eq_false_iff_ne]; intro e; exact hlen (by rw [e])
    rw [hr]
    clear hr
    go_enter Yba.func28, Yba.ntmps28
    go_wp2
    go_ret
    exact ⟨rfl, 0, rfl⟩

/-! ### (*write).equal -/
set_option maxRecDepth 20000 in
set_option maxHeartbeats 1000000 in
theorem equal25 (b o b' o' : Nat) (x y : Wr) (w : World) (ha : At w b o x) (ha' : At w b' o' y) (hx : Good w x) (hy : Good w y) :
    Calls Yba.prog 25 #[.pointer (some ⟨b, o, none⟩), .pointer (some ⟨b', o', none⟩)] w fun e w' => e = .returned (.bool (eqB x y)) ∧ ∃ n, w' = w.drewN n := by
  obtain ⟨a0, a1, a2, a3, a4, a5, a6⟩ := ha
  obtain ⟨d0, d1, d2, d3, d4, d5, d6⟩ := ha'
  unfold eqB
  by_cases hN : x.N = y.N
  · rw [hN] at a0 ⊢
    rw [beq_self_eq_true, Bool.true_and]
    cases hg : ((x.g : Int) == (y.g : Int))
    · rw [Bool.false_and]
      clear hN
      go_enter Yba.func25, Yba.ntmps25
      go_wp2
      go_quiet (fail)
      go_wp2
      go_ret
      exact ⟨rfl, nq, rfl⟩
    · rw [Bool.true_and]
      cases hf : (x.f == y.f)
      · rw [Bool.false_and]
        clear hN
        go_enter Yba.func25, Yba.ntmps25
        go_wp2
        go_quiet (fail)
        go_wp2
        go_ret
        exact ⟨rfl, nq, rfl⟩
      · rw [Bool.true_and]
        clear hN
        have hxc := hx.clk
        have hyc := hy.clk
        have hxs := hx.small
        have hys := hy.small
        go_enter Yba.func25, Yba.ntmps25
        go_wp2
        go_quiet ((go_at_call 28; exact Calls.quiet_of (equal28 _ _ _ _ _ hxc hyc hxs hys)))
        go_wp2
        go_ret
        exact ⟨rfl, nq, rfl⟩
  · have hb : (x.N == y.N) = false := beq_eq_false_iff_ne.2 hN
    rw [hb, Bool.false_and]
    go_enter Yba.func25, Yba.ntmps25
    go_wp2
    go_quiet (fail)
    go_wp2
    go_ret
    exact ⟨rfl, nq, rfl⟩
end Go.Proofs.Ybulkbhxe.AMem
