/-
  The plain law: what store leaves of a list of writes; that the common case comes to the same; that storing once more turns nothing.
-/
import Derived.Test.YbulkbhxeA3
namespace Go.Proofs.Ybulkbhxe.AMem

/-- Is x before one of the later writes r, which precedes the floor? -/
def hid (fl : List Nat) (x : Wr) (r : List Wr) : Bool := r.any fun y => befB x y && precB y fl
def keepL (fl : List Nat) : List Wr → List Wr
  | [] => []
  | x :: r => if hid fl x r then keepL fl r else x :: keepL fl r
def twin (K : List Wr) : Bool := match K.reverse with
  | y :: x :: _ => eqB x y
  | _ => false
def dedup (K : List Wr) : List Wr := if twin K then K.dropLast else K
/-- What storing x over W leaves. -/
def res (fl : List Nat) (W : List Wr) (x : Wr) : List Wr := dedup (keepL fl (W ++ [x]))

theorem twin_two (K : List Wr) (x y : Wr) : twin (K ++ [x, y]) = eqB x y := by simp [twin]
theorem twin_nil : twin [] = false := rfl
theorem twin_one (x : Wr) : twin [x] = false := rfl
theorem befB_refl (x : Wr) : befB x x = true := by simp [befB]

theorem keepL_len (fl : List Nat) : ∀ W, (keepL fl W).length ≤ W.length
  | [] => Nat.le_refl _
  | x :: r => by
    have := keepL_len fl r
    unfold keepL
    split <;> simp <;> omega
theorem keepL_mem (fl : List Nat) : ∀ (W : List Wr) (x : Wr), x ∈ keepL fl W → x ∈ W
  | [], x, h => h
  | y :: r, x, h => by
    unfold keepL at h
    split at h
    · exact List.mem_cons_of_mem _ (keepL_mem fl r x h)
    · rcases List.mem_cons.1 h with h | h
      · exact h ▸ List.mem_cons_self
      · exact List.mem_cons_of_mem _ (keepL_mem fl r x h)
theorem dedup_mem {K : List Wr} {x : Wr} (h : x ∈ dedup K) : x ∈ K := by
  unfold dedup at h
  split at h
  · exact (List.dropLast_sublist K).subset h
  · exact h
theorem dedup_len (K : List Wr) : (dedup K).length ≤ K.length := by
  unfold dedup
  split <;> simp
theorem res_len (fl : List Nat) (W : List Wr) (x : Wr) : (res fl W x).length ≤ W.length + 1 := by
  have h1 := dedup_len (keepL fl (W ++ [x]))
  have h2 := keepL_len fl (W ++ [x])
  unfold res
  simp at h2
  omega
theorem res_mem {fl : List Nat} {W : List Wr} {x y : Wr} (h : y ∈ res fl W x) : y ∈ W ∨ y = x := by
  have := keepL_mem fl _ _ (dedup_mem h)
  simpa using this

/-- The kept ones of W ahead of x. -/
def keepR (fl : List Nat) (x : Wr) : List Wr → List Wr
  | [] => []
  | y :: r => if hid fl y (r ++ [x]) then keepR fl x r else y :: keepR fl x r
theorem keepL_snoc (fl : List Nat) (x : Wr) : ∀ W, keepL fl (W ++ [x]) = keepR fl x W ++ [x]
  | [] => by simp [keepL, keepR, hid]
  | y :: r => by
    rw [List.cons_append, keepL, keepR, keepL_snoc fl x r]
    split <;> simp
theorem hid_mono {fl : List Nat} {y : Wr} {a b : List Wr} (h : ∀ z, z ∈ a → z ∈ b) (hb : hid fl y b = false) : hid fl y a = false := by
  rw [hid, List.any_eq_false] at hb ⊢
  exact fun z hz => hb z (h z hz)
theorem keepR_mem (fl : List Nat) (x : Wr) : ∀ (W : List Wr) (z : Wr), z ∈ keepR fl x W → z ∈ W
  | [], z, h => h
  | y :: r, z, h => by
    unfold keepR at h
    split at h
    · exact List.mem_cons_of_mem _ (keepR_mem fl x r z h)
    · rcases List.mem_cons.1 h with h | h
      · exact h ▸ List.mem_cons_self
      · exact List.mem_cons_of_mem _ (keepR_mem fl x r z h)
/-- What is kept is not hidden by what is kept behind it. -/
def Clean (fl : List Nat) (x : Wr) : List Wr → Prop
  | [] => True
  | y :: r => hid fl y (r ++ [x]) = false ∧ Clean fl x r
theorem keepR_clean (fl : List Nat) (x : Wr) : ∀ W, Clean fl x (keepR fl x W)
  | [] => trivial
  | y :: r => by
    unfold keepR
    split
    · exact keepR_clean fl x r
    · rename_i h
      refine ⟨hid_mono (fun z hz => ?_) (by simpa using h), keepR_clean fl x r⟩
      rcases List.mem_append.1 hz with hz | hz
      · exact List.mem_append_left _ (keepR_mem fl x r z hz)
      · exact List.mem_append_right _ hz
theorem keepL_clean {fl : List Nat} {x : Wr} (T : List Wr) (hT : ∀ z, z ∈ T → z = x) : ∀ {K : List Wr}, Clean fl x K → keepL fl (K ++ T) = K ++ keepL fl T
  | [], _ => rfl
  | y :: r, h => by
    rw [List.cons_append, keepL, keepL_clean T hT h.2]
    have : hid fl y (r ++ T) = false := hid_mono (b := r ++ [x]) (fun z hz => by
      rcases List.mem_append.1 hz with hz | hz
      · exact List.mem_append_left _ hz
      · exact List.mem_append_right _ (by simp [hT z hz])) h.1
    rw [if_neg (by simp [this]), List.cons_append]

/-- The common case. -/
theorem res_fast (fl : List Nat) (W : List Wr) (x : Wr) (h1 : precB x fl = true) (h2 : W.all (fun y => befB y x) = true) : res fl W x = [x] := by
  have : keepR fl x W = [] := by
    induction W with
    | nil => rfl
    | cons y r ih =>
      rw [List.all_cons, Bool.and_eq_true] at h2
      have : hid fl y (r ++ [x]) = true := by
        rw [hid, List.any_eq_true]
        exact ⟨x, by simp, by rw [h2.1, h1]; rfl⟩
      rw [keepR, if_pos this]
      exact ih h2.2
  rw [res, keepL_snoc, this, List.nil_append, dedup, twin_one]
  rfl

theorem snoc_form (K : List Wr) : K = [] ∨ ∃ K' z, K = K' ++ [z] := by
  rcases List.eq_nil_or_concat K with h | ⟨K', z, h⟩
  · exact .inl h
  · exact .inr ⟨K', z, by simpa using h⟩
theorem twin_snoc (K : List Wr) (x : Wr) : twin (K ++ [x]) = true ↔ ∃ K' z, K = K' ++ [z] ∧ eqB z x = true := by
  rcases snoc_form K with rfl | ⟨K', z, rfl⟩
  · simp [twin_one]
  · rw [List.append_assoc, List.cons_append, List.nil_append, twin_two]
    constructor
    · intro h
      exact ⟨K', z, rfl, h⟩
    · rintro ⟨K'', z', h, he⟩
      have := List.append_inj' h rfl
      simp at this
      rw [this.2]
      exact he
/-- The two forms of what is left. -/
theorem res_form (fl : List Nat) (W : List Wr) (x : Wr) : (twin (keepR fl x W ++ [x]) = false ∧ res fl W x = keepR fl x W ++ [x]) ∨ (∃ K z, keepR fl x W = K ++ [z] ∧ eqB z x = true ∧ res fl W x = K ++ [z]) := by
  rw [res, keepL_snoc, dedup]
  cases h : twin (keepR fl x W ++ [x])
  · exact .inl ⟨rfl, by simp⟩
  · obtain ⟨K, z, hK, he⟩ := (twin_snoc _ _).1 h
    exact .inr ⟨K, z, hK, he, by simp [hK]⟩
/-- Stored once more: nothing turns. -/
theorem res_again (fl : List Nat) (W : List Wr) (x : Wr) : res fl (res fl W x) x = res fl W x := by
  have hc := keepR_clean fl x W
  rcases res_form fl W x with ⟨ht, hr⟩ | ⟨K, z, hK, he, hr⟩
  · rw [hr]
    generalize keepR fl x W = K at *
    rw [res, List.append_assoc, keepL_clean ([x] ++ [x]) (by simp) hc]
    have e : keepL fl ([x] ++ [x]) = if precB x fl then [x] else [x, x] := by
      simp [keepL, hid, befB_refl]
    rw [e]
    cases hp : precB x fl
    · rw [if_neg (by simp), dedup, twin_two, eqB_refl, if_pos rfl]
      rw [show K ++ [x, x] = (K ++ [x]) ++ [x] by simp, List.dropLast_concat]
    · rw [if_pos rfl, dedup, ht]
      rfl
  · rw [hr]
    rw [hK] at hc
    rw [res, keepL_clean [x] (by simp) hc]
    have e : keepL fl [x] = [x] := by simp [keepL, hid]
    rw [e, dedup]
    have ht : twin (K ++ [z] ++ [x]) = true := (twin_snoc _ _).2 ⟨K, z, rfl, he⟩
    rw [if_pos ht, List.dropLast_concat]
/-- What is left ends in x or its twin. -/
theorem res_last (fl : List Nat) (W : List Wr) (x : Wr) : ∃ K z, res fl W x = K ++ [z] ∧ eqB z x = true := by
  rcases res_form fl W x with ⟨_, hr⟩ | ⟨K, z, _, he, hr⟩
  · exact ⟨_, x, hr, eqB_refl x⟩
  · exact ⟨K, z, hr, he⟩
end Go.Proofs.Ybulkbhxe.AMem
