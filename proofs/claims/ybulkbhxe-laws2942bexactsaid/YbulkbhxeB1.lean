/-
  An append to a row that the call owns, once more: what the kit's law 'run_append_own' (and its twin for a string) leaves unsaid: the first cells of EVERY old block are as they were ('Kept').
-/
import Derived.Test.YbulkbhxeRows
import Derived.WalkKit
import Derived.ProofKit
import Derived.OpenShut
import Derived.ShutString
import Derived.ChangeOld
import Derived.Below
import Derived.Lib.AppendStr
import Derived.WalkSpells
import Derived.WalkLawsBesides
import Derived.Deep.QuietTactic
import Derived.BigQuiet
namespace Go.Proofs.Ybulkbhxe.BVal
open Go.ChangeShapes Go.WideShapes Go.ChangeAt Go.RowKit

/-- Of each block that was there the first n cells read as they did. -/
def Kept (n : Nat) (w w' : World) : Prop := ∀ k j, k < w.heap.size → j < n → w'.cell? ⟨k, j, none⟩ = w.cell? ⟨k, j, none⟩

theorem Kept.refl (n : Nat) (w : World) : Kept n w w := fun _ _ _ _ => rfl
theorem Kept.trans {n m : Nat} {a b c : World} (h : Kept n a b) (g : Kept m b c) (hs : a.heap.size ≤ b.heap.size) (hn : n ≤ m) : Kept n a c :=
  fun k j hk hj => (g k j (by omega) (by omega)).trans (h k j hk hj)
theorem Kept.mono {n m : Nat} {a b : World} (h : Kept n a b) (hn : m ≤ n) : Kept m a b := fun k j hk hj => h k j hk (by omega)
theorem Kept.alloc (n : Nat) (w : World) (o : Obj) : Kept n w (w.alloc o) :=
  fun k _ hk _ => World.cell?_of_block (a := ⟨k, _, none⟩) (Below.heap_alloc w o k hk)
theorem Kept.drewAlloc (n : Nat) (w : World) (o : Obj) : Kept n w (w.drew.alloc o) :=
  fun k _ hk _ => World.cell?_of_block (w := w) (a := ⟨k, _, none⟩) (Below.heap_alloc w.drew o k hk)

theorem Kept.setRow {n : Nat} {w : World} {g : Nat} {cur cs : Array Value} {t : TypeId} {fr : Nat × Nat} (hg : w.heap[g]? = some (.cells cur t fr)) (h : ∀ j, j < n → cs[j]? = cur[j]?) : Kept n w (w.setRow g cs) := by
  intro k j _ hj
  by_cases e : k = g
  · subst e
    rw [cell_setRow_same w k j cur cs t fr hg, cell_of_row w k j cur t fr hg]
    exact h j hj
  · exact World.cell?_of_block (w := w) (a := ⟨k, j, none⟩) (setRow_other w g k cs e)

theorem splice_first (l mid tail : List Value) (n j : Nat) (hj : j < n) (hn : n ≤ l.length) : (l.take n ++ mid ++ tail).toArray[j]? = l[j]? := by
  rw [List.getElem?_toArray, List.append_assoc, List.getElem?_append_left (by rw [List.length_take]; omega), List.getElem?_take_of_lt hj]

section
variable {P : Program} (w : World)

/-- Where the row of what an append hands back lies: it is nil, or v's own row, or the new block. -/
def Near (w : World) (v v' : Value) : Prop := v'.ownBlock = none ∨ v'.ownBlock = v.ownBlock ∨ v'.ownBlock = some w.heap.size

theorem run_append_kept (base : Nat) (t ty e : TypeId) (i : TypeInfo) (z : Value) (size bytes : Nat) (ht : P.underlying t = some (.slice e)) (hi : P.info? e = some i) (hz : i.zero = some z)
    (hsize : i.size = size) (hby : i.bytes = bytes)
    (v : Value) (n : Nat) (xs : List Value) (hown : w.ownsRow base e size v n xs)
    (a : Addr) (m c : Nat) (news : List Value) (hl : news.length = m * size) (hnews : ∀ j u, news[j]? = some u → w.cell? (a.add j) = some u) (h1 : ∀ u ∈ news, u.oneCell' = true)
    (h63 : n + m ≤ maxLen) (hbytes : (n + m) * bytes ≤ 140737488355328) {v' : Value} {w' : World}
    (hnil : v' = .slice none 0 0 ↔ v = .slice none 0 0 ∧ m = 0)
    (hr : (Builtin.append_ #[t, t] ty #[v, .slice (some a) m c]).run P w = .ok v' w') : Kept (n * size) w w' ∧ Near w v v' := by
  subst hsize
  subst hby
  have hsmall : n + m ≤ 9223372036854775807 := by simp only [maxLen] at h63; omega
  rcases hown.2 with ⟨rfl, rfl⟩ | ⟨g, cap, cur, rfl, hbg, hg, hnc, hcm, hcs, htake⟩
  · refine ⟨fun k j _ hj => by omega, ?_⟩
    by_cases hm : m = 0
    · rw [hnil.2 ⟨rfl, hm⟩]
      exact .inl rfl
    · have hr' := run_append_nil (P := P) w t ty e i z ht hi hz a m c news hl hnews (by omega) (by omega) (by have hb := hbytes; simp only [Nat.zero_add] at hb; omega)
      rw [hr] at hr'
      injection hr' with e1 _
      subst e1
      exact .inr (.inr rfl)
  · by_cases hroom : n + m ≤ cap
    · have hfit : n * i.size + news.length ≤ cur.size := by rw [hl, hcs, ← Nat.add_mul]; exact Nat.mul_le_mul_right _ hroom
      have hr' := run_append_room (P := P) w t ty e i ht hi g n cap cur hg a m c news hl hnews h1 hroom hfit
      rw [hr] at hr'
      injection hr' with e1 e2
      subst e1 e2
      refine ⟨Kept.setRow hg fun j hj => ?_, .inr (.inl rfl)⟩
      rw [splice_first _ _ _ _ _ hj (by rw [Array.length_toList]; omega)]
      simp
    · have holds : ∀ j u, xs[j]? = some u → w.cell? ((⟨g, 0, none⟩ : Addr).add j) = some u := hown.cells (g := g) rfl
      have hr' := run_append_grow (P := P) w t ty e i z ht hi hz ⟨g, 0, none⟩ n cap xs hown.1 holds a m c news hl hnews (by omega) (by omega) (growslice_fits (by omega) hbytes)
      rw [hr] at hr'
      injection hr' with e1 e2
      subst e1 e2
      exact ⟨Kept.drewAlloc _ _ _, .inr (.inr rfl)⟩

theorem run_append_kept_string (base : Nat) (t u ty e : TypeId) (i : TypeInfo) (ht : P.underlying t = some (.slice e)) (hu : P.underlying u = some .string) (hi : P.info? e = some i) (hz : i.zero = some (.int .u8 0))
    (hsize : i.size = 1) (hby : i.bytes = 1)
    (v : Value) (n : Nat) (xs : List Value) (hown : w.ownsRow base e 1 v n xs) (s : ByteArray)
    (h63 : n + s.size ≤ maxLen) (hbytes : n + s.size ≤ 140737488355328) {v' : Value} {w' : World}
    (hnil : v' = .slice none 0 0 ↔ v = .slice none 0 0 ∧ s.size = 0)
    (hr : (Builtin.append_ #[t, u] ty #[v, .string s]).run P w = .ok v' w') : Kept n w w' ∧ Near w v v' := by
  have hsmall : n + s.size ≤ 9223372036854775807 := by simp only [maxLen] at h63; omega
  have hxl : xs.length = n := by simpa using hown.1
  rcases hown.2 with ⟨rfl, rfl⟩ | ⟨g, cap, cur, rfl, hbg, hg, hnc, hcm, hcs, htake⟩
  · refine ⟨fun k j _ hj => by omega, ?_⟩
    by_cases hm : s.size = 0
    · rw [hnil.2 ⟨rfl, hm⟩]
      exact .inl rfl
    · have hr' := run_append_nil_string (P := P) w t u ty e i (.int .u8 0) ht hu hi hz s (by omega) (by omega) (by rw [hby]; omega)
      rw [hr] at hr'
      injection hr' with e1 _
      subst e1
      exact .inr (.inr rfl)
  · have hcs' : cur.size = cap := by simpa using hcs
    by_cases hroom : n + s.size ≤ cap
    · have hr' := Lib.run_append_room_string (P := P) w t u ty e i ht hu hi hsize g n cap cur hg s hroom (by omega)
      rw [hr] at hr'
      injection hr' with e1 e2
      subst e1 e2
      refine ⟨Kept.setRow hg fun j hj => ?_, .inr (.inl rfl)⟩
      rw [splice_first _ _ _ _ _ hj (by rw [Array.length_toList]; omega)]
      simp
    · have holds : ∀ j u, xs[j]? = some u → w.cell? ((⟨g, 0, none⟩ : Addr).add j) = some u := hown.cells (g := g) rfl
      have hr' := Lib.run_append_grow_string (P := P) w t u ty e i (.int .u8 0) ht hu hi hz ⟨g, 0, none⟩ n cap xs (by rw [hsize]; simpa using hxl) holds s (by omega) (by omega) (by rw [hby]; exact growslice_fits (by omega) (by omega))
      rw [hr] at hr'
      injection hr' with e1 e2
      subst e1 e2
      exact ⟨Kept.drewAlloc _ _ _, .inr (.inr rfl)⟩
end

/-- The element type's row of the table: a byte. -/
theorem info5 : (Yba.prog.info? 5).map (fun i => (i.zero, i.size, i.bytes)) = some (some (.int .u8 0), 1, 1) := by kernel_rfl

/-- Bytes as cells. -/
def bc (l : List UInt8) : List Value := l.map fun b => Value.int .u8 b.toNat
theorem bc_append (a b : List UInt8) : bc (a ++ b) = bc a ++ bc b := by simp [bc]
theorem bc_length (a : List UInt8) : (bc a).length = a.length := by simp [bc]
theorem bc_oneCell (l : List UInt8) : ∀ u ∈ bc l, u.oneCell' = true := by
  intro u hu
  simp only [bc, List.mem_map] at hu
  obtain ⟨b, _, rfl⟩ := hu
  rfl

/-- The value v owns the bytes l, in a block that is none of Pr (or is nil, and l empty). -/
def Row (w : World) (Pr : Nat → Prop) (v : Value) (l : List UInt8) : Prop := w.ownsRow 0 5 1 v l.length (bc l) ∧ ∀ k, v.ownBlock = some k → ¬ Pr k

theorem Row.alloc {w : World} {Pr : Nat → Prop} {v : Value} {l : List UInt8} (h : Row w Pr v l) (o : Obj) : Row (w.alloc o) Pr v l := ⟨World.ownsRow.alloc h.1 o, h.2⟩
theorem Row.nil (w : World) (Pr : Nat → Prop) : Row w Pr (.slice none 0 0) [] := ⟨World.ownsRow_nil _ _ _ _, fun k h => by cases h⟩

/-- The blocks of Pr have not turned; of every old block the first n cells are as they were; no block has gone. -/
structure Step (Pr : Nat → Prop) (n : Nat) (w w' : World) : Prop where
  os : w'.os = w.os
  tape : w'.tape = w.tape
  output : w'.output = w.output
  size : w.heap.size ≤ w'.heap.size
  block : ∀ k, Pr k → w'.heap[k]? = w.heap[k]?
  kept : Kept n w w'

theorem Step.refl (Pr : Nat → Prop) (n : Nat) (w : World) : Step Pr n w w := ⟨rfl, rfl, rfl, Nat.le_refl _, fun _ _ => rfl, Kept.refl _ _⟩
theorem Step.trans {Pr : Nat → Prop} {n m : Nat} {a b c : World} (h : Step Pr n a b) (g : Step Pr m b c) (hn : n ≤ m) : Step Pr n a c :=
  ⟨g.os.trans h.os, g.tape.trans h.tape, g.output.trans h.output, Nat.le_trans h.size g.size, fun k hk => (g.block k hk).trans (h.block k hk), h.kept.trans g.kept h.size hn⟩
theorem Step.mono {Pr Pr' : Nat → Prop} {n : Nat} {a b : World} (h : Step Pr n a b) (hp : ∀ k, Pr' k → Pr k) : Step Pr' n a b :=
  ⟨h.os, h.tape, h.output, h.size, fun k hk => h.block k (hp k hk), h.kept⟩
theorem Step.ofAlloc {Pr : Nat → Prop} (n : Nat) (a : World) (hp : ∀ k, Pr k → k < a.heap.size) (o : Obj) : Step Pr n a (a.alloc o) :=
  ⟨rfl, rfl, rfl, by simp, fun k hk => Below.heap_alloc _ _ _ (hp k hk), Kept.alloc n a o⟩
theorem Step.alloc {Pr : Nat → Prop} {n : Nat} {a b : World} (h : Step Pr n a b) (hp : ∀ k, Pr k → k < a.heap.size) (o : Obj) : Step Pr n a (b.alloc o) :=
  h.trans (Step.ofAlloc n b (fun k hk => Nat.lt_of_lt_of_le (hp k hk) h.size) o) (Nat.le_refl _)
theorem Step.drewN {Pr : Nat → Prop} {n : Nat} {a b : World} (h : Step Pr n a b) (m : Nat) : Step Pr n a (b.drewN m) := ⟨h.os, h.tape, h.output, h.size, h.block, h.kept⟩
theorem Step.below {B n : Nat} {a b : World} (h : Step (fun k => k < B) n a b) : Below B a b := ⟨h.os, h.tape, h.output, h.size, h.block⟩
theorem Step.cell {Pr : Nat → Prop} {n : Nat} {a b : World} (h : Step Pr n a b) {k j : Nat} (hk : Pr k) : b.cell? ⟨k, j, none⟩ = a.cell? ⟨k, j, none⟩ :=
  World.cell?_of_block (w := a) (a := ⟨k, j, none⟩) (h.block k hk)

theorem step_of {Pr : Nat → Prop} {n : Nat} {w w' : World} {v : Value} (hv : ∀ k, v.ownBlock = some k → ¬ Pr k) (hg : w.grownBy w' v.ownBlock) (hp : ∀ k, Pr k → k < w.heap.size) (hk : Kept n w w') : Step Pr n w w' :=
  ⟨hg.os, hg.tape, hg.output, hg.size, fun k h => hg.block k (hp k h) (fun e => hv k e.symm h), hk⟩
theorem apart_of {Pr : Nat → Prop} {w : World} {v v' : Value} (hv : ∀ k, v.ownBlock = some k → ¬ Pr k) (hn : Near w v v') (hp : ∀ k, Pr k → k < w.heap.size) : ∀ k, v'.ownBlock = some k → ¬ Pr k := by
  intro k hk
  rcases hn with h | h | h
  · rw [h] at hk; cases hk
  · exact hv k (by rw [← h]; exact hk)
  · rw [h] at hk
    injection hk with hk
    intro hpk
    have := hp k hpk
    omega

theorem wpList_put {ops : Array Oper} {rest : List Oper} {o : Oper} {a : Act} {Q : Exit → Act → World → Prop} (w : World) (hgd : o.guard = none) (s x : Operand)
    (ho : o.op = .call { callee := .builtin .append, args := #[s, x], argTypes := #[26, 26] })
    (Pr : Nat → Prop) (v : Value) (l : List UInt8) (hs : a.eval s = v) (hown : Row w Pr v l)
    (ad : Addr) (m c : Nat) (news : List UInt8) (hx : a.eval x = .slice (some ad) m c) (hl : news.length = m) (hnews : ∀ j u, (bc news)[j]? = some u → w.cell? (ad.add j) = some u)
    (hbytes : l.length + m ≤ 1000000) (hpr : ∀ k, Pr k → k < w.heap.size)
    (h : ∀ v' w', Row w' Pr v' (l ++ news) → Step Pr l.length w w' → wpList Yba.prog ops Q rest (a.put o.dst v') w') : wpList Yba.prog ops Q (o :: rest) a w := by
  obtain ⟨i, hi, hz0, hz1, hz2⟩ := info_parts info5
  refine wpList_plain hgd fun K hK => ?_
  have h63 : l.length + m ≤ maxLen := by simp only [maxLen]; omega
  obtain ⟨v', w', hr, h2, h3, h4⟩ := run_append_own (P := Yba.prog) w 0 26 o.type 5 i _ 1 1 Yba.underlying26 hi hz0 hz1 hz2 rfl (by decide) v l.length (bc l) hown.1 ad m c (bc news) (by rw [bc_length]; omega) hnews (bc_oneCell news) h63 (by omega) (Nat.zero_le _)
  obtain ⟨hk, hn⟩ := run_append_kept (P := Yba.prog) w 0 26 o.type 5 i _ 1 1 Yba.underlying26 hi hz0 hz1 hz2 v l.length (bc l) hown.1 ad m c (bc news) (by rw [bc_length]; omega) hnews (bc_oneCell news) h63 (by omega) h4 hr
  unfold Oper.wp execOp
  simp only [ho, resolve, invoke, builtin, Sem.run_bind, Sem.run_pure, Result.andThen_ok, List.map_toArray, List.map_cons, List.map_nil, hs, hx, hr]
  refine hK _ _ (h v' w' ⟨?_, apart_of hown.2 hn hpr⟩ (step_of hown.2 h3 hpr (by simpa using hk)))
  rw [bc_append, List.length_append, hl]
  exact h2

theorem wpList_puts {ops : Array Oper} {rest : List Oper} {o : Oper} {a : Act} {Q : Exit → Act → World → Prop} (w : World) (hgd : o.guard = none) (sl x : Operand)
    (ho : o.op = .call { callee := .builtin .append, args := #[sl, x], argTypes := #[26, 9] })
    (Pr : Nat → Prop) (v : Value) (l : List UInt8) (hs : a.eval sl = v) (hown : Row w Pr v l) (s : ByteArray) (hx : a.eval x = .string s)
    (hbytes : l.length + s.size ≤ 1000000) (hpr : ∀ k, Pr k → k < w.heap.size)
    (h : ∀ v' w', Row w' Pr v' (l ++ s.data.toList) → Step Pr l.length w w' → wpList Yba.prog ops Q rest (a.put o.dst v') w') : wpList Yba.prog ops Q (o :: rest) a w := by
  obtain ⟨i, hi, hz0, hz1, hz2⟩ := info_parts info5
  refine wpList_plain hgd fun K hK => ?_
  have h63 : l.length + s.size ≤ maxLen := by simp only [maxLen]; omega
  obtain ⟨v', w', hr, h2, h3, h4⟩ := Lib.run_append_own_string (P := Yba.prog) w 0 26 9 o.type 5 i Yba.underlying26 Yba.underlying9 hi hz0 hz1 hz2 v l.length (bc l) hown.1 s h63 (by omega) (Nat.zero_le _)
  obtain ⟨hk, hn⟩ := run_append_kept_string (P := Yba.prog) w 0 26 9 o.type 5 i Yba.underlying26 Yba.underlying9 hi hz0 hz1 hz2 v l.length (bc l) hown.1 s h63 (by omega) h4 hr
  unfold Oper.wp execOp
  simp only [ho, resolve, invoke, builtin, Sem.run_bind, Sem.run_pure, Result.andThen_ok, List.map_toArray, List.map_cons, List.map_nil, hs, hx, hr]
  refine hK _ _ (h v' w' ⟨?_, apart_of hown.2 hn hpr⟩ (step_of hown.2 h3 hpr hk))
  rw [bc_append, List.length_append, Array.length_toList]
  exact h2
end Go.Proofs.Ybulkbhxe.BVal
