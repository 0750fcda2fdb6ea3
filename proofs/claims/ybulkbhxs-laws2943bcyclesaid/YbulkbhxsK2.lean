/-
  The Keeper in memory (Kp), and publish (8) and withdraw (6) over it.
-/
import Derived.Test.YbulkbhxsLocks
import Derived.Test.YbulkbhxsK1
import Derived.Conc.MuLone
import Derived.WalkKit
namespace Go.Proofs.Ybulkbhxs
open Go.Conc Go.RowKit Go.MuLone

theorem cell?_heap (w : World) (h : Array Obj) (a : Addr) (e : h[a.block]? = w.heap[a.block]?) : ({ w with heap := h } : World).cell? a = w.cell? a := by
  simp only [World.cell?, e]
theorem frozen?_heap (w : World) (h : Array Obj) (a : Addr) (e : h[a.block]? = w.heap[a.block]?) : ({ w with heap := h } : World).frozen? a = w.frozen? a := by
  simp only [World.frozen?, e]

/-- The Keeper at block b: its lock's state mu, its connection conn, its channel ready at block c, shut or not; all of it at or above N; below N the world is W. -/
structure Kp (N b : Nat) (W w : World) (mu : Int) (c : Nat) (conn : Value) (sh : Bool) : Prop where
  lo : N ≤ b
  loc : N ≤ c
  hb : b < w.heap.size
  hc : c < w.heap.size
  ne : b ≠ c
  m : w.cell? ⟨b, 14, none⟩ = some (.int .i32 mu)
  k : w.cell? ⟨b, 16, none⟩ = some conn
  r : w.cell? ⟨b, 17, none⟩ = some (.chan (some c))
  d : w.cell? ⟨b, 18, none⟩ = some (.int .i64 0)
  l : w.cell? ⟨b, 19, none⟩ = some .nilIface
  fz : ∀ i, w.frozen? ⟨b, i, none⟩ = false
  ch : w.heap[c]? = some (.chan 0 #[] sh 0 0 false)
  bel : Below N W w

section
variable {N b : Nat} {W w : World} {mu : Int} {c : Nat} {conn : Value} {sh : Bool}

theorem Kp.setMu (K : Kp N b W w mu c conn sh) (v : Int) : Kp N b W (w.setCell ⟨b, 14, none⟩ (.int .i32 v)) v c conn sh where
  lo := K.lo
  loc := K.loc
  hb := by simpa using K.hb
  hc := by simpa using K.hc
  ne := K.ne
  m := World.cell?_setCell_same _ _ _ K.m
  k := (World.cell?_setCell_other _ _ _ _ (by simp)).trans K.k
  r := (World.cell?_setCell_other _ _ _ _ (by simp)).trans K.r
  d := (World.cell?_setCell_other _ _ _ _ (by simp)).trans K.d
  l := (World.cell?_setCell_other _ _ _ _ (by simp)).trans K.l
  fz i := by simpa using K.fz i
  ch := (Below.heap_setCell _ _ _ _ (Ne.symm K.ne)).trans K.ch
  bel := K.bel.setCell K.lo _

theorem Kp.setConn (K : Kp N b W w mu c conn sh) (v : Value) : Kp N b W (w.setCell ⟨b, 16, none⟩ v) mu c v sh where
  lo := K.lo
  loc := K.loc
  hb := by simpa using K.hb
  hc := by simpa using K.hc
  ne := K.ne
  m := (World.cell?_setCell_other _ _ _ _ (by simp)).trans K.m
  k := World.cell?_setCell_same _ _ _ K.k
  r := (World.cell?_setCell_other _ _ _ _ (by simp)).trans K.r
  d := (World.cell?_setCell_other _ _ _ _ (by simp)).trans K.d
  l := (World.cell?_setCell_other _ _ _ _ (by simp)).trans K.l
  fz i := by simpa using K.fz i
  ch := (Below.heap_setCell _ _ _ _ (Ne.symm K.ne)).trans K.ch
  bel := K.bel.setCell K.lo _

theorem Kp.alloc (K : Kp N b W w mu c conn sh) (o : Obj) : Kp N b W (w.alloc o) mu c conn sh where
  lo := K.lo
  loc := K.loc
  hb := by have := K.hb; simp; omega
  hc := by have := K.hc; simp; omega
  ne := K.ne
  m := (World.cell?_alloc_past _ _ _ K.hb).trans K.m
  k := (World.cell?_alloc_past _ _ _ K.hb).trans K.k
  r := (World.cell?_alloc_past _ _ _ K.hb).trans K.r
  d := (World.cell?_alloc_past _ _ _ K.hb).trans K.d
  l := (World.cell?_alloc_past _ _ _ K.hb).trans K.l
  fz i := (World.frozen?_alloc_past _ _ _ K.hb).trans (K.fz i)
  ch := (Below.heap_alloc _ _ _ K.hc).trans K.ch
  bel := K.bel.alloc (Nat.le_of_lt (Nat.lt_of_le_of_lt K.lo K.hb)) _

theorem Kp.renew (K : Kp N b W w mu c conn sh) : Kp N b W ((w.setCell ⟨b, 17, none⟩ (.chan (some w.heap.size))).alloc (.chan 0 #[] false 0 0 false)) mu w.heap.size conn false :=
  have hb : b < (w.setCell ⟨b, 17, none⟩ (.chan (some w.heap.size))).heap.size := by simpa using K.hb
  { lo := K.lo
    loc := Nat.le_of_lt (Nat.lt_of_le_of_lt K.lo K.hb)
    hb := by have := K.hb; simp; omega
    hc := by simp
    ne := Nat.ne_of_lt K.hb
    m := (World.cell?_alloc_past _ _ _ hb).trans ((World.cell?_setCell_other _ _ _ _ (by simp)).trans K.m)
    k := (World.cell?_alloc_past _ _ _ hb).trans ((World.cell?_setCell_other _ _ _ _ (by simp)).trans K.k)
    r := (World.cell?_alloc_past _ _ _ hb).trans (World.cell?_setCell_same _ _ _ K.r)
    d := (World.cell?_alloc_past _ _ _ hb).trans ((World.cell?_setCell_other _ _ _ _ (by simp)).trans K.d)
    l := (World.cell?_alloc_past _ _ _ hb).trans ((World.cell?_setCell_other _ _ _ _ (by simp)).trans K.l)
    fz := fun i => (World.frozen?_alloc_past _ _ _ hb).trans (by simpa using K.fz i)
    ch := by simpa using heap_alloc_new (w.setCell ⟨b, 17, none⟩ (.chan (some w.heap.size))) (.chan 0 #[] false 0 0 false)
    bel := (K.bel.setCell K.lo _).alloc (by have h1 := K.lo; have h2 := K.hb; simp; omega) _ }

theorem Kp.close (K : Kp N b W w mu c conn false) : Kp N b W { w with heap := w.heap.setIfInBounds c (.chan 0 #[] true 0 0 false) } mu c conn true where
  lo := K.lo
  loc := K.loc
  hb := by simpa using K.hb
  hc := by simpa using K.hc
  ne := K.ne
  m := (cell?_heap _ _ _ (Array.getElem?_setIfInBounds_ne (Ne.symm K.ne))).trans K.m
  k := (cell?_heap _ _ _ (Array.getElem?_setIfInBounds_ne (Ne.symm K.ne))).trans K.k
  r := (cell?_heap _ _ _ (Array.getElem?_setIfInBounds_ne (Ne.symm K.ne))).trans K.r
  d := (cell?_heap _ _ _ (Array.getElem?_setIfInBounds_ne (Ne.symm K.ne))).trans K.d
  l := (cell?_heap _ _ _ (Array.getElem?_setIfInBounds_ne (Ne.symm K.ne))).trans K.l
  fz i := (frozen?_heap _ _ _ (Array.getElem?_setIfInBounds_ne (Ne.symm K.ne))).trans (K.fz i)
  ch := by have := K.hc; simp [this]
  bel := below_setChan K.bel K.loc 0 #[] true 0 0 false
end

theorem bytes36 : ∃ i, Yba.prog.info? 36 = some i ∧ i.bytes = 0 := by
  have h : (Yba.prog.info? 36).map (·.bytes) = some 0 := by kernel_rfl
  obtain ⟨i, hi, hb⟩ := Option.map_eq_some_iff.1 h
  exact ⟨i, hi, hb⟩
theorem mk0 (w : World) : (Instr.makeChan 25 (.int .i64 0)).run Yba.prog w = .ok (.chan (some w.heap.size)) (w.alloc (.chan 0 #[] false 0 0 false)) := by
  obtain ⟨i, hi, hb⟩ := bytes36
  simpa using run_makeChan (P := Yba.prog) (w := w) Yba.underlying25 hi .i64 0 (by omega) (by rw [hb]; omega)

theorem withdraw_ok {N b : Nat} {W w : World} {c : Nat} {conn : Value} {sh : Bool} (K : Kp N b W w 0 c conn sh) :
    Calls Yba.prog 6 #[.pointer (some ⟨b, 0, none⟩)] w fun e w' => e = .returned (.tuple #[]) ∧ ∃ c', Kp N b W w' 0 c' (.pointer none) false := by
  go_enter Yba.func6, Yba.ntmps6
  go_wp2_with fail
  refine (lock_free Yba.muLib ⟨b, 14, none⟩ _ K.m (K.fz 14)).mono ?_
  rintro e w' ⟨rfl, rfl⟩
  replace K := K.setMu 1
  generalize w.setCell ⟨b, 14, none⟩ (.int .i32 1) = w1 at K ⊢
  have h16 := K.k
  have h17 := K.r
  have f16 := K.fz 16
  have f17 := K.fz 17
  have hb := K.hb
  have hm := mk0
  go_wp2_with fail
  have K2 := ((K.setConn (.pointer none)).renew)
  simp only [World.size_setCell] at K2
  refine (unlock_held Yba.muLib ⟨b, 14, none⟩ _ K2.m (K2.fz 14)).mono ?_
  rintro e w' ⟨rfl, rfl⟩
  have K3 := K2.setMu 0
  generalize World.setCell _ ⟨b, 14, none⟩ (.int .i32 0) = w3 at K3 ⊢
  clear K K2 h16 h17 f16 f17
  go_wp2
  go_end0
  exact ⟨rfl, _, K3⟩

theorem publish_ok {N b : Nat} {W w : World} {c : Nat} {conn : Value} (K : Kp N b W w 0 c conn false) :
    Calls Yba.prog 8 #[.pointer (some ⟨b, 0, none⟩), .nilIface] w fun e w' => ∃ n, e = .returned (.pointer (some ⟨n, 0, none⟩)) ∧ Kp N b W w' 0 c (.pointer (some ⟨n, 0, none⟩)) true := by
  have hm := mk0
  go_enter Yba.func8, Yba.ntmps8
  go_wp2_with fail
  replace K := (K.alloc (.chan 0 #[] false 0 0 false)).alloc (.cells #[.nilIface, .pointer (some ⟨b, 0, none⟩), .int .u32 0, .int .i32 0, .int .u32 0, .chan (some w.heap.size), .int .u64 0, .int .i64 0, .pointer none, .nilIface] 58)
  refine (lock_free Yba.muLib ⟨b, 14, none⟩ _ K.m (K.fz 14)).mono ?_
  rintro e w' ⟨rfl, rfl⟩
  replace K := K.setMu 1
  generalize World.setCell _ ⟨b, 14, none⟩ (.int .i32 1) = w1 at K ⊢
  have h16 := K.k
  have h17 := K.r
  have f16 := K.fz 16
  replace K := K.setConn (.pointer (some ⟨w.heap.size + 1, 0, none⟩))
  have hcl := fun ats ty => run_close_open (P := Yba.prog) ats ty K.ch
  go_wp2_with fail
  replace K := K.close
  refine (unlock_held Yba.muLib ⟨b, 14, none⟩ _ K.m (K.fz 14)).mono ?_
  rintro e w' ⟨rfl, rfl⟩
  replace K := K.setMu 0
  generalize World.setCell _ ⟨b, 14, none⟩ (.int .i32 0) = w3 at K ⊢
  clear h16 h17 f16 hcl
  go_wp2
  go_ret
  exact ⟨_, rfl, K⟩

end Go.Proofs.Ybulkbhxs
