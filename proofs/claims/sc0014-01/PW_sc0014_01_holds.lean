import PyProof.Rows.All
import Wide.All
import OpenK.AllK
import Wide.FinOn
import PySem.Challenge.RW_sc0014_01
set_option Elab.async false
set_option rowWalk.seconds 1000000
namespace Mine
section G0
open PySem PySem.W PyProof.Rows
section HdA
open PySem PySem.W PyProof.Rows
set_option maxRecDepth 100000 in
set_option maxHeartbeats 8000000 in
open_top hd for PySem.Challenge.rw_sc0014_01
end HdA
section Pl0
/-! plain functions: what the heap code computes, on lists of ints -/
/-- the heap's order, and its mirror -/
def lo (a b : Int) : Bool := decide (a < b)
def hi (a b : Int) : Bool := decide (b < a)
/-- _siftdown's loop and its last store -/
def sd (lt : Int → Int → Bool) (st : Nat) (new : Int) (h : List Int) (pos : Nat) : List Int :=
  if st < pos then
    if lt new (h.getD ((pos - 1) / 2) 0) = true then sd lt st new (h.set pos (h.getD ((pos - 1) / 2) 0)) ((pos - 1) / 2)
    else h.set pos new
  else h.set pos new
termination_by pos
decreasing_by omega
/-- the child that _siftup goes down to -/
def kid (lt : Int → Int → Bool) (h : List Int) (c : Nat) : Nat :=
  if c + 1 < h.length then (if lt (h.getD c 0) (h.getD (c + 1) 0) = true then c else c + 1) else c
theorem kid_le (lt : Int → Int → Bool) (h : List Int) (c : Nat) : c ≤ kid lt h c := by
  unfold kid
  split
  · split <;> omega
  · omega
theorem kid_lt (lt : Int → Int → Bool) (h : List Int) (c : Nat) (hc : c < h.length) : kid lt h c < h.length := by
  unfold kid
  split
  · split <;> omega
  · omega
/-- _siftup's loop -/
def su (lt : Int → Int → Bool) (h : List Int) (pos : Nat) : List Int × Nat :=
  if hc : 2 * pos + 1 < h.length then su lt (h.set pos (h.getD (kid lt h (2 * pos + 1)) 0)) (kid lt h (2 * pos + 1)) else (h, pos)
termination_by h.length - pos
decreasing_by
  have h1 := kid_le lt h (2 * pos + 1)
  have h2 := kid_lt lt h (2 * pos + 1) hc
  rw [List.length_set]
  omega
/-- _siftup -/
def sup (lt : Int → Int → Bool) (h : List Int) (pos : Nat) : List Int :=
  sd lt pos (h.getD pos 0) ((su lt h pos).1.set (su lt h pos).2 (h.getD pos 0)) (su lt h pos).2
theorem sd_length (lt : Int → Int → Bool) (st : Nat) (new : Int) : ∀ (pos : Nat) (h : List Int), (sd lt st new h pos).length = h.length := by
  intro pos
  induction pos using Nat.strongRecOn with
  | _ pos ih =>
    intro h
    rw [sd]
    split
    · split
      · rw [ih _ (by omega), List.length_set]
      · rw [List.length_set]
    · rw [List.length_set]
theorem su_facts (lt : Int → Int → Bool) : ∀ (k : Nat) (h : List Int) (pos : Nat), h.length - pos ≤ k → pos < h.length → (su lt h pos).1.length = h.length ∧ (su lt h pos).2 < h.length ∧ pos ≤ (su lt h pos).2 := by
  intro k
  induction k with
  | zero => intro h pos h1 h2; omega
  | succ k ih =>
    intro h pos h1 h2
    rw [su]
    split
    · rename_i hc
      have q1 := kid_le lt h (2 * pos + 1)
      have q2 := kid_lt lt h (2 * pos + 1) hc
      have := ih (h.set pos (h.getD (kid lt h (2 * pos + 1)) 0)) (kid lt h (2 * pos + 1)) (by rw [List.length_set]; omega) (by rw [List.length_set]; omega)
      rw [List.length_set] at this
      exact ⟨this.1, this.2.1, by omega⟩
    · exact ⟨rfl, h2, Nat.le_refl _⟩
theorem sup_length (lt : Int → Int → Bool) (h : List Int) (pos : Nat) (hp : pos < h.length) : (sup lt h pos).length = h.length := by
  unfold sup
  rw [sd_length, List.length_set, (su_facts lt _ h pos (Nat.le_refl _) hp).1]

/-- heapify's loop: the places k - 1, .., 0 -/
def hpf (lt : Int → Int → Bool) (h : List Int) : Nat → List Int
  | 0 => h
  | k + 1 => hpf lt (sup lt h k) k
theorem hpf_length (lt : Int → Int → Bool) : ∀ (k : Nat) (h : List Int), k ≤ h.length → (hpf lt h k).length = h.length := by
  intro k
  induction k with
  | zero => intro h _; rfl
  | succ k ih =>
    intro h hk
    show (hpf lt (sup lt h k) k).length = _
    have := sup_length lt h k (by omega)
    rw [ih _ (by omega), this]
/-- heapreplace -/
def hrp (lt : Int → Int → Bool) (h : List Int) (x : Int) : List Int := sup lt (h.set 0 x) 0

/-! one turn of each loop, as the walk asks it -/
theorem sd_turn {lt : Int → Int → Bool} {st pos pos0 new : Int} {heap heap0 : List Int} (e1 : heap.length = heap0.length) (a1 : 0 ≤ st) (a2 : 0 ≤ pos) (a3 : pos < heap.length) (a4 : heap.length ≤ 10)
    (e : sd lt st.toNat new heap pos.toNat = sd lt st.toNat new heap0 pos0.toNat) (hp : st < pos) (hc : lt new (heap.getD ((pos - 1) / 2).toNat 0) = true) :
    (heap.set pos.toNat (heap.getD ((pos - 1) / 2).toNat 0)).length = heap0.length ∧ 0 ≤ st ∧ 0 ≤ (pos - 1) / 2 ∧ (pos - 1) / 2 < ((heap.set pos.toNat (heap.getD ((pos - 1) / 2).toNat 0)).length : Int) ∧ (heap.set pos.toNat (heap.getD ((pos - 1) / 2).toNat 0)).length ≤ 10 ∧
      sd lt st.toNat new (heap.set pos.toNat (heap.getD ((pos - 1) / 2).toNat 0)) ((pos - 1) / 2).toNat = sd lt st.toNat new heap0 pos0.toNat := by
  have ep : ((pos - 1) / 2).toNat = (pos.toNat - 1) / 2 := by omega
  rw [ep] at hc ⊢
  refine ⟨by rw [List.length_set]; exact e1, a1, by omega, by rw [List.length_set]; omega, by rw [List.length_set]; exact a4, ?_⟩
  rw [← e]
  conv => rhs; rw [sd]
  rw [if_pos (by omega), if_pos hc]
theorem sd_end0 {lt : Int → Int → Bool} {st pos new : Int} {heap : List Int} (hp : ¬ st < pos) (a1 : 0 ≤ st) (a2 : 0 ≤ pos) : heap.set pos.toNat new = sd lt st.toNat new heap pos.toNat := by
  rw [sd, if_neg (by omega)]
theorem sd_end1 {lt : Int → Int → Bool} {st pos new : Int} {heap : List Int} (a1 : 0 ≤ st) (hp : st < pos) (hc : ¬ lt new (heap.getD ((pos - 1) / 2).toNat 0) = true) : heap.set pos.toNat new = sd lt st.toNat new heap pos.toNat := by
  have ep : ((pos - 1) / 2).toNat = (pos.toNat - 1) / 2 := by omega
  rw [ep] at hc
  rw [sd, if_pos (by omega), if_neg hc]
/-- _siftup's loop, one turn -/
theorem su_turn {lt : Int → Int → Bool} {pos pos0 c : Int} {heap heap0 : List Int} (e1 : heap.length = heap0.length) (a2 : 0 ≤ pos) (a3 : pos < heap.length) (a4 : heap.length ≤ 10) (hc : c = 2 * pos + 1) (hl : c < heap.length)
    (e : su lt heap pos.toNat = su lt heap0 pos0.toNat) {k : Int} (hk : k.toNat = kid lt heap c.toNat) (k0 : 0 ≤ k) :
    (heap.set pos.toNat (heap.getD k.toNat 0)).length = heap0.length ∧ 0 ≤ k ∧ k < ((heap.set pos.toNat (heap.getD k.toNat 0)).length : Int) ∧ (heap.set pos.toNat (heap.getD k.toNat 0)).length ≤ 10 ∧ 2 * k + 1 = 2 * k + 1 ∧
      su lt (heap.set pos.toNat (heap.getD k.toNat 0)) k.toNat = su lt heap0 pos0.toNat := by
  have q := kid_lt lt heap c.toNat (by omega)
  refine ⟨by rw [List.length_set]; exact e1, k0, by rw [List.length_set]; omega, by rw [List.length_set]; exact a4, rfl, ?_⟩
  rw [← e]
  conv => rhs; rw [su]
  have ec : 2 * pos.toNat + 1 = c.toNat := by omega
  rw [dif_pos (by omega), ec, hk]
theorem su_end {lt : Int → Int → Bool} {pos c : Int} {heap : List Int} (a2 : 0 ≤ pos) (hc : c = 2 * pos + 1) (hl : ¬ c < heap.length) : su lt heap pos.toNat = (heap, pos.toNat) := by
  rw [su, dif_neg (by omega)]
theorem kid_left {lt : Int → Int → Bool} {c : Int} {heap : List Int} (c0 : 0 ≤ c) (h : ¬ (c + 1 < heap.length)) : c.toNat = kid lt heap c.toNat := by
  unfold kid; rw [if_neg (by omega)]
theorem kid_low {lt : Int → Int → Bool} {c : Int} {heap : List Int} (c0 : 0 ≤ c) (h : c + 1 < heap.length) (q : lt (heap.getD c.toNat 0) (heap.getD (c + 1).toNat 0) = true) : c.toNat = kid lt heap c.toNat := by
  have e : (c + 1).toNat = c.toNat + 1 := by omega
  rw [e] at q
  unfold kid; rw [if_pos (by omega), if_pos q]
theorem kid_right {lt : Int → Int → Bool} {c : Int} {heap : List Int} (c0 : 0 ≤ c) (h : c + 1 < heap.length) (q : ¬ lt (heap.getD c.toNat 0) (heap.getD (c + 1).toNat 0) = true) : (c + 1).toNat = kid lt heap c.toNat := by
  have e : (c + 1).toNat = c.toNat + 1 := by omega
  rw [e] at q
  unfold kid; rw [if_pos (by omega), if_neg q, e]
theorem sup_end {lt : Int → Int → Bool} {pos pos0 c x : Int} {heap ns : List Int} (e : su lt heap pos.toNat = su lt ns pos0.toNat) (a2 : 0 ≤ pos) (a3 : pos < heap.length) (hc : c = 2 * pos + 1) (hl : ¬ c < heap.length) (hx : x = ns.getD pos0.toNat 0 := by rfl) :
    sd lt pos0.toNat ((heap.set pos.toNat x).getD pos.toNat 0) (heap.set pos.toNat x) pos.toNat = sup lt ns pos0.toNat := by
  subst hx
  have q := su_end (lt := lt) a2 hc hl
  rw [q] at e
  have g : (heap.set pos.toNat (ns.getD pos0.toNat 0)).getD pos.toNat 0 = ns.getD pos0.toNat 0 := by
    rw [List.getD_eq_getElem?_getD, List.getElem?_set_self (by omega)]; rfl
  unfold sup
  rw [← e, g]
theorem hpf_turn {lt : Int → Int → Bool} {ns9 X : List Int} {k i : Nat} {k9 : Int} (hi : i < k) (hk : k9 = (k : Int) - 1 - (i : Int)) (h : hpf lt ns9 (k - i) = X) : hpf lt (sup lt ns9 k9.toNat) (k - (i + 1)) = X := by
  have e : k - i = (k - (i + 1)) + 1 := by omega
  have e2 : k9.toNat = k - (i + 1) := by omega
  rw [e2, ← h, e]
  rfl
end Pl0
section Pl1
/-! the toggles' algebra: steps that undo themselves and pass each other when they are two or more apart -/
section alg
variable {α : Type} (t : Nat → α → α)
/-- the steps 0, .., k - 1 -/
def asc : Nat → α → α
  | 0, x => x
  | k + 1, x => t k (asc k x)
/-- the steps k - 1, .., 0 -/
def dsc : Nat → α → α
  | 0, x => x
  | k + 1, x => dsc k (t k x)
/-- evacuation -/
def ev : Nat → α → α
  | 0, x => x
  | k + 1, x => ev k (asc t (k + 1) x)
/-- the steps k, .., k + m - 1 -/
def up : Nat → Nat → α → α
  | _, 0, x => x
  | k, m + 1, x => up (k + 1) m (t k x)
/-- the steps k + m - 1, .., k -/
def dn : Nat → Nat → α → α
  | _, 0, x => x
  | k, m + 1, x => t k (dn (k + 1) m x)
/-- evacuation from below -/
def fd : Nat → Nat → α → α
  | _, 0, x => x
  | k, m + 1, x => fd (k + 1) m (dn t k (m + 1) x)
/-- m promotions -/
def itp (N : Nat) : Nat → α → α
  | 0, x => x
  | m + 1, x => asc t N (itp N m x)
def es (N : Nat) : Nat → α → α
  | 0, x => x
  | m + 1, x => asc t (N - m) (es N m x)
variable {t} (hi : ∀ i x, t i (t i x) = x) (hc : ∀ i j x, i + 1 < j → t i (t j x) = t j (t i x))
include hc in
theorem comm_asc : ∀ (k j : Nat) (x : α), k < j → t j (asc t k x) = asc t k (t j x) := by
  intro k
  induction k with
  | zero => intro j x _; rfl
  | succ k ih =>
    intro j x h
    show t j (t k (asc t k x)) = t k (asc t k (t j x))
    rw [← hc k j _ h, ih j x (by omega)]
include hc in
theorem comm_ev : ∀ (k j : Nat) (x : α), k < j → t j (ev t k x) = ev t k (t j x) := by
  intro k
  induction k with
  | zero => intro j x _; rfl
  | succ k ih =>
    intro j x h
    show t j (ev t k (asc t (k + 1) x)) = ev t k (asc t (k + 1) (t j x))
    rw [ih j _ (by omega), comm_asc hc (k + 1) j x h]
include hc in
theorem ev_asc : ∀ (k : Nat) (x : α), ev t k (asc t (k + 1) x) = dsc t (k + 1) (ev t k x) := by
  intro k
  induction k with
  | zero => intro x; rfl
  | succ k ih =>
    intro x
    have e : ∀ y, ev t (k + 1) y = dsc t (k + 1) (ev t k y) := ih
    rw [e]
    show dsc t (k + 1) (ev t k (t (k + 1) (asc t (k + 1) x))) = dsc t (k + 1) (t (k + 1) (ev t k (asc t (k + 1) x)))
    rw [comm_ev hc k (k + 1) _ (by omega)]
include hi in
theorem dsc_asc : ∀ (k : Nat) (x : α), dsc t k (asc t k x) = x := by
  intro k
  induction k with
  | zero => intro x; rfl
  | succ k ih =>
    intro x
    show dsc t k (t k (t k (asc t k x))) = x
    rw [hi, ih]
include hi in
theorem asc_dsc : ∀ (k : Nat) (x : α), asc t k (dsc t k x) = x := by
  intro k
  induction k with
  | zero => intro x; rfl
  | succ k ih =>
    intro x
    show t k (asc t k (dsc t k (t k x))) = x
    rw [ih, hi]
include hi hc in
theorem ev_ev : ∀ (k : Nat) (x : α), ev t k (ev t k x) = x := by
  intro k
  induction k with
  | zero => intro x; rfl
  | succ k ih =>
    intro x
    have e : ∀ y, ev t (k + 1) y = dsc t (k + 1) (ev t k y) := ev_asc hc k
    rw [e]
    show dsc t (k + 1) (ev t k (ev t k (asc t (k + 1) x))) = x
    rw [ih, dsc_asc hi]
include hi hc in
theorem ev_asc_ev_asc (N : Nat) (x : α) : ev t N (asc t N (ev t N (asc t N x))) = x := by
  cases N with
  | zero => rfl
  | succ k =>
    have e : ∀ y, ev t (k + 1) y = dsc t (k + 1) (ev t k y) := ev_asc hc k
    rw [e (asc t (k + 1) x), asc_dsc hi, e, ev_ev hi hc, dsc_asc hi]
theorem up_succ : ∀ (m k : Nat) (x : α), up t k (m + 1) x = t (k + m) (up t k m x) := by
  intro m
  induction m with
  | zero => intro k x; rfl
  | succ m ih =>
    intro k x
    show up t (k + 1) (m + 1) (t k x) = _
    rw [ih]
    show t (k + 1 + m) (up t k (m + 1) x) = _
    rw [show k + 1 + m = k + (m + 1) by omega]
theorem asc_up (j : Nat) (x : α) : ∀ m, asc t (j + m) x = up t j m (asc t j x) := by
  intro m
  induction m with
  | zero => rfl
  | succ m ih =>
    rw [up_succ, ← ih]
    rfl
include hc in
theorem comm_dn : ∀ (m k j : Nat) (x : α), j + 1 < k → t j (dn t k m x) = dn t k m (t j x) := by
  intro m
  induction m with
  | zero => intro k j x _; rfl
  | succ m ih =>
    intro k j x h
    show t j (t k (dn t (k + 1) m x)) = t k (dn t (k + 1) m (t j x))
    rw [hc j k _ h, ih (k + 1) j x (by omega)]
include hc in
theorem comm_fd : ∀ (m k j : Nat) (x : α), j + 1 < k → t j (fd t k m x) = fd t k m (t j x) := by
  intro m
  induction m with
  | zero => intro k j x _; rfl
  | succ m ih =>
    intro k j x h
    show t j (fd t (k + 1) m (dn t k (m + 1) x)) = fd t (k + 1) m (dn t k (m + 1) (t j x))
    rw [ih (k + 1) j _ (by omega), comm_dn hc (m + 1) k j x h]
include hc in
theorem asc_fd (m k : Nat) : ∀ (j : Nat) (x : α), j < k → asc t j (fd t k m x) = fd t k m (asc t j x) := by
  intro j
  induction j with
  | zero => intro x _; rfl
  | succ j ih =>
    intro x h
    show t j (asc t j (fd t k m x)) = fd t k m (t j (asc t j x))
    rw [ih x (by omega), comm_fd hc m k j _ (by omega)]
include hc in
theorem up_fd : ∀ (m j : Nat) (w : α), up t j (m + 1) (fd t (j + 1) m w) = fd t (j + 1) m (dn t j (m + 1) w) := by
  intro m
  induction m with
  | zero => intro j w; rfl
  | succ m ih =>
    intro j w
    show up t (j + 1) (m + 1) (t j (fd t (j + 1 + 1) m (dn t (j + 1) (m + 1) w))) = fd t (j + 1 + 1) m (dn t (j + 1) (m + 1) (t j (dn t (j + 1) (m + 1) w)))
    rw [comm_fd hc m (j + 1 + 1) j _ (by omega), ih]
include hc in
theorem itp_fd (N : Nat) (x : α) : ∀ (m j : Nat), j + m = N → itp t N (m + 1) x = fd t j m (asc t j (es t N m x)) := by
  intro m
  induction m with
  | zero => intro j h; have : j = N := by omega
            subst this; rfl
  | succ m ih =>
    intro j h
    have e : itp t N (m + 1 + 1) x = asc t N (itp t N (m + 1) x) := rfl
    rw [e, ih (j + 1) (by omega)]
    have e2 : es t N (m + 1) x = asc t (j + 1) (es t N m x) := by
      show asc t (N - m) (es t N m x) = _
      rw [show N - m = j + 1 by omega]
    rw [← e2, ← h, asc_up, asc_fd hc m (j + 1) j _ (by omega), up_fd hc]
    rfl
theorem ev_es (N : Nat) (x : α) : ∀ m, m ≤ N → ev t N x = ev t (N - m) (es t N m x) := by
  intro m
  induction m with
  | zero => intro _; rfl
  | succ m ih =>
    intro h
    rw [ih (by omega)]
    show ev t (N - m) (es t N m x) = ev t (N - (m + 1)) (asc t (N - m) (es t N m x))
    obtain ⟨k, hk⟩ : ∃ k, N - m = k + 1 := ⟨N - m - 1, by omega⟩
    rw [hk, show N - (m + 1) = k by omega]
    rfl
include hc in
/-- the two evacuations, one behind the other, are as many promotions as there are labels -/
theorem ev_fd (N : Nat) (x : α) : fd t 0 N (ev t N x) = itp t N (N + 1) x := by
  rw [itp_fd hc N x N 0 (by omega), ev_es N x N (Nat.le_refl _), Nat.sub_self]
  rfl
end alg
end Pl1
section Pl2
/-! lists of ints by their places -/
theorem gd_set_eq {l : List Int} {q : Nat} {v : Int} (h : q < l.length) : (l.set q v).getD q 0 = v := by
  rw [List.getD_eq_getElem?_getD, List.getElem?_set_self h]; rfl
theorem gd_set_ne {l : List Int} {q p : Nat} {v : Int} (h : q ≠ p) : (l.set q v).getD p 0 = l.getD p 0 := by
  rw [List.getD_eq_getElem?_getD, List.getElem?_set_ne h, ← List.getD_eq_getElem?_getD]
theorem gd_map {l : List Int} {p : Nat} {f : Int → Int} (h : p < l.length) : (l.map f).getD p 0 = f (l.getD p 0) := by
  rw [List.getD_eq_getElem?_getD, List.getElem?_map, List.getElem?_eq_getElem h, List.getD_eq_getElem?_getD, List.getElem?_eq_getElem h]; rfl
theorem gd_ext {l l' : List Int} (h : l.length = l'.length) (e : ∀ p, p < l.length → l.getD p 0 = l'.getD p 0) : l = l' := by
  apply List.ext_getElem h
  intro p h1 h2
  have := e p h1
  rw [List.getD_eq_getElem?_getD, List.getElem?_eq_getElem h1, List.getD_eq_getElem?_getD, List.getElem?_eq_getElem h2] at this
  exact this
/-! the toggles -/
/-- the labels i and i + 1 stand at a parent and its child -/
def Adj (i : Nat) (r : List Int) : Prop :=
  ∃ p, 0 < p ∧ p < r.length ∧ ((r.getD p 0 = (i : Int) ∧ r.getD ((p - 1) / 2) 0 = (i : Int) + 1) ∨ (r.getD p 0 = (i : Int) + 1 ∧ r.getD ((p - 1) / 2) 0 = (i : Int)))
def sw (i : Nat) (v : Int) : Int := if v = (i : Int) then (i : Int) + 1 else if v = (i : Int) + 1 then (i : Int) else v
theorem sw_sw (i : Nat) (v : Int) : sw i (sw i v) = v := by
  unfold sw; repeat' split
  all_goals omega
theorem sw_at {i : Nat} {v : Int} : sw i v = (i : Int) ↔ v = (i : Int) + 1 := by
  unfold sw; constructor
  · intro h; split at h
    · omega
    · split at h <;> omega
  · intro h; rw [if_neg (by omega), if_pos h]
theorem sw_at1 {i : Nat} {v : Int} : sw i v = (i : Int) + 1 ↔ v = (i : Int) := by
  unfold sw; constructor
  · intro h; split at h
    · assumption
    · split at h <;> omega
  · intro h; rw [if_pos h]
theorem sw_off {i : Nat} {v c : Int} (h1 : c ≠ (i : Int)) (h2 : c ≠ (i : Int) + 1) : sw i v = c ↔ v = c := by
  unfold sw; constructor
  · intro h; split at h
    · omega
    · split at h <;> omega
  · intro h; rw [if_neg (by omega), if_neg (by omega)]; exact h
theorem sw_comm {i j : Nat} (h : i + 1 < j) (v : Int) : sw i (sw j v) = sw j (sw i v) := by
  unfold sw; repeat' split
  all_goals omega
open Classical in
noncomputable def tog (i : Nat) (r : List Int) : List Int := if Adj i r then r else r.map (sw i)
theorem adj_map {i : Nat} {r : List Int} {f : Int → Int} (h1 : ∀ v, f v = (i : Int) ↔ v = (i : Int)) (h2 : ∀ v, f v = (i : Int) + 1 ↔ v = (i : Int) + 1) : Adj i (r.map f) ↔ Adj i r := by
  unfold Adj
  constructor
  · rintro ⟨p, a, b, c⟩
    rw [List.length_map] at b
    rw [gd_map b, gd_map (by omega)] at c
    refine ⟨p, a, b, ?_⟩
    rcases c with ⟨c, d⟩ | ⟨c, d⟩
    · exact .inl ⟨(h1 _).mp c, (h2 _).mp d⟩
    · exact .inr ⟨(h2 _).mp c, (h1 _).mp d⟩
  · rintro ⟨p, a, b, c⟩
    refine ⟨p, a, by rw [List.length_map]; exact b, ?_⟩
    rw [gd_map b, gd_map (by omega)]
    rcases c with ⟨c, d⟩ | ⟨c, d⟩
    · exact .inl ⟨(h1 _).mpr c, (h2 _).mpr d⟩
    · exact .inr ⟨(h2 _).mpr c, (h1 _).mpr d⟩
theorem adj_sw {i : Nat} {r : List Int} : Adj i (r.map (sw i)) ↔ Adj i r := by
  unfold Adj
  constructor
  · rintro ⟨p, a, b, c⟩
    rw [List.length_map] at b
    rw [gd_map b, gd_map (by omega)] at c
    refine ⟨p, a, b, ?_⟩
    rcases c with ⟨c, d⟩ | ⟨c, d⟩
    · exact .inr ⟨sw_at.mp c, sw_at1.mp d⟩
    · exact .inl ⟨sw_at1.mp c, sw_at.mp d⟩
  · rintro ⟨p, a, b, c⟩
    refine ⟨p, a, by rw [List.length_map]; exact b, ?_⟩
    rw [gd_map b, gd_map (by omega)]
    rcases c with ⟨c, d⟩ | ⟨c, d⟩
    · exact .inr ⟨sw_at1.mpr c, sw_at.mpr d⟩
    · exact .inl ⟨sw_at.mpr c, sw_at1.mpr d⟩
theorem tog_pos {i : Nat} {r : List Int} (h : Adj i r) : tog i r = r := if_pos h
theorem tog_neg {i : Nat} {r : List Int} (h : ¬ Adj i r) : tog i r = r.map (sw i) := if_neg h
theorem tog_tog (i : Nat) (r : List Int) : tog i (tog i r) = r := by
  by_cases h : Adj i r
  · rw [tog_pos h, tog_pos h]
  · rw [tog_neg h, tog_neg (fun q => h (adj_sw.mp q)), List.map_map]
    have : (sw i ∘ sw i) = id := by funext v; exact sw_sw i v
    rw [this, List.map_id]
theorem adj_far {i j : Nat} {r : List Int} (h : i + 1 < j) : Adj i (r.map (sw j)) ↔ Adj i r :=
  adj_map (fun _ => sw_off (by omega) (by omega)) (fun _ => sw_off (by omega) (by omega))
theorem adj_far' {i j : Nat} {r : List Int} (h : i + 1 < j) : Adj j (r.map (sw i)) ↔ Adj j r :=
  adj_map (fun _ => sw_off (by omega) (by omega)) (fun _ => sw_off (by omega) (by omega))
theorem tog_comm (i j : Nat) (r : List Int) (h : i + 1 < j) : tog i (tog j r) = tog j (tog i r) := by
  by_cases h1 : Adj i r
  · rw [tog_pos h1]
    by_cases h2 : Adj j r
    · rw [tog_pos h2, tog_pos h1]
    · rw [tog_neg h2, tog_pos ((adj_far h).mpr h1)]
  · rw [tog_neg h1]
    by_cases h2 : Adj j r
    · rw [tog_pos h2, tog_neg h1, tog_pos ((adj_far' h).mpr h2)]
    · rw [tog_neg h2, tog_neg (fun q => h1 ((adj_far h).mp q)), tog_neg (fun q => h2 ((adj_far' h).mp q)), List.map_map, List.map_map]
      congr 1
      funext v
      exact sw_comm h v
theorem tog_length (i : Nat) (r : List Int) : (tog i r).length = r.length := by
  by_cases h : Adj i r
  · rw [tog_pos h]
  · rw [tog_neg h, List.length_map]
/-- the labels 0, .., n - 1, each once, a parent's less than its child's -/
structure RH (r : List Int) : Prop where
  inj : ∀ p q, p < r.length → q < r.length → r.getD p 0 = r.getD q 0 → p = q
  sur : ∀ v : Nat, v < r.length → ∃ p, p < r.length ∧ r.getD p 0 = (v : Int)
  heap : ∀ p, 0 < p → p < r.length → r.getD ((p - 1) / 2) 0 < r.getD p 0
  rng : ∀ p, p < r.length → 0 ≤ r.getD p 0 ∧ r.getD p 0 < r.length
theorem tog_RH {k : Nat} {r : List Int} (H : RH r) (hk : k + 1 < r.length) : RH (tog k r) := by
  by_cases h : Adj k r
  · rw [tog_pos h]; exact H
  rw [tog_neg h]
  refine ⟨?_, ?_, ?_, ?_⟩
  · intro p q hp hq e
    rw [List.length_map] at hp hq
    rw [gd_map hp, gd_map hq] at e
    refine H.inj p q hp hq ?_
    rw [← sw_sw k (r.getD p 0), e, sw_sw]
  · intro v hv
    rw [List.length_map] at hv
    have key : ∀ u : Nat, u < r.length → sw k u = v → ∃ p, p < (r.map (sw k)).length ∧ (r.map (sw k)).getD p 0 = (v : Int) := by
      intro u hu e
      obtain ⟨p, hp, hpv⟩ := H.sur u hu
      exact ⟨p, by rw [List.length_map]; exact hp, by rw [gd_map hp, hpv, e]⟩
    by_cases e1 : v = k
    · exact key (k + 1) hk (by subst e1; exact sw_at.mpr (by omega))
    · by_cases e2 : v = k + 1
      · exact key k (by omega) (by subst e2; exact (sw_at1.mpr rfl).trans (by omega))
      · exact key v hv ((sw_off (by omega) (by omega)).mpr rfl)
  · intro p h0 hp
    rw [List.length_map] at hp
    rw [gd_map hp, gd_map (by omega)]
    have a := H.heap p h0 hp
    have b : ¬ (r.getD p 0 = (k : Int) + 1 ∧ r.getD ((p - 1) / 2) 0 = (k : Int)) := fun c => h ⟨p, h0, hp, .inr c⟩
    unfold sw
    repeat' split
    all_goals omega
  · intro p hp
    rw [List.length_map] at hp ⊢
    rw [gd_map hp]
    have a := H.rng p hp
    unfold sw
    repeat' split
    all_goals omega
end Pl2
section Pl3
/-! what the heap code does to the items: it moves them about -/
theorem set_getD_self {l : List Int} {q : Nat} (h : q < l.length) : l.set q (l.getD q 0) = l := by
  refine gd_ext (by rw [List.length_set]) fun p _ => ?_
  by_cases e : q = p
  · subst e; rw [gd_set_eq h]
  · rw [gd_set_ne e]
theorem swap_perm {h : List Int} {q c : Nat} {x : Int} (hq : q < h.length) (hc : c < h.length) (e : q ≠ c) : ((h.set q (h.getD c 0)).set c x).Perm (h.set q x) := by
  have hq' : q < (h.set q x).length := by rw [List.length_set]; exact hq
  have hc' : c < (h.set q x).length := by rw [List.length_set]; exact hc
  have z := List.set_set_perm hq' hc'
  have e1 : (h.set q x)[q] = x := by simp
  have e2 : (h.set q x)[c] = h.getD c 0 := by
    rw [List.getElem_set_ne e, List.getD_eq_getElem?_getD, List.getElem?_eq_getElem hc]; rfl
  rw [e1, e2, List.set_set] at z
  exact z
theorem su_perm (lt : Int → Int → Bool) (x : Int) : ∀ (k : Nat) (h : List Int) (q : Nat), h.length - q ≤ k → q < h.length → ((su lt h q).1.set (su lt h q).2 x).Perm (h.set q x) := by
  intro k
  induction k with
  | zero => intro h q h1 h2; omega
  | succ k ih =>
    intro h q h1 h2
    rw [su]
    split
    · rename_i hc
      have q1 := kid_le lt h (2 * q + 1)
      have q2 := kid_lt lt h (2 * q + 1) hc
      exact (ih _ _ (by rw [List.length_set]; omega) (by rw [List.length_set]; exact q2)).trans (swap_perm h2 q2 (by omega))
    · exact List.Perm.refl _
theorem sd_perm (lt : Int → Int → Bool) (st : Nat) (x : Int) : ∀ (q : Nat) (h : List Int), q < h.length → (sd lt st x h q).Perm (h.set q x) := by
  intro q
  induction q using Nat.strongRecOn with
  | _ q ih =>
    intro h hq
    rw [sd]
    split
    · split
      · exact (ih _ (by omega) _ (by rw [List.length_set]; omega)).trans (swap_perm hq (by omega) (by omega))
      · exact List.Perm.refl _
    · exact List.Perm.refl _
theorem sup_perm (lt : Int → Int → Bool) (h : List Int) (pos : Nat) (hp : pos < h.length) : (sup lt h pos).Perm h := by
  unfold sup
  have f := su_facts lt _ h pos (Nat.le_refl _) hp
  refine (sd_perm lt pos _ _ _ (by rw [List.length_set, f.1]; exact f.2.1)).trans ?_
  rw [List.set_set]
  exact (su_perm lt _ _ h pos (Nat.le_refl _) hp).trans (by rw [set_getD_self hp])
theorem hpf_perm (lt : Int → Int → Bool) : ∀ (k : Nat) (h : List Int), k ≤ h.length → (hpf lt h k).Perm h := by
  intro k
  induction k with
  | zero => intro h _; exact List.Perm.refl _
  | succ k ih =>
    intro h hk
    have l := sup_length lt h k (by omega)
    exact (ih (sup lt h k) (by omega)).trans (sup_perm lt h k (by omega))
end Pl3
section Pl4
/-! sup is a slide: the hole goes down while the least child is less than the newcomer -/
theorem lo_true {a b : Int} (h : a < b) : lo a b = true := decide_eq_true h
theorem lo_false {a b : Int} (h : ¬ a < b) : ¬ lo a b = true := fun z => h (of_decide_eq_true z)
def sl (go : Int → Bool) (l : List Int) (q : Nat) : List Int × Nat :=
  if hc : 2 * q + 1 < l.length then
    if go (l.getD (kid lo l (2 * q + 1)) 0) = true then sl go (l.set q (l.getD (kid lo l (2 * q + 1)) 0)) (kid lo l (2 * q + 1)) else (l, q)
  else (l, q)
termination_by l.length - q
decreasing_by
  have h1 := kid_le lo l (2 * q + 1)
  have h2 := kid_lt lo l (2 * q + 1) hc
  rw [List.length_set]
  omega
/-- the child's parent, and it is the least child -/
theorem kid_par {l : List Int} {q : Nat} (hc : 2 * q + 1 < l.length) : (kid lo l (2 * q + 1) - 1) / 2 = q := by
  have h1 := kid_le lo l (2 * q + 1)
  unfold kid at *
  split
  · split <;> omega
  · omega
theorem kid_gt {l : List Int} {q : Nat} : q < kid lo l (2 * q + 1) := by
  have h1 := kid_le lo l (2 * q + 1)
  omega
theorem kid_min {l : List Int} {q p : Nat} (h0 : 0 < p) (hp : p < l.length) (e : (p - 1) / 2 = q) : l.getD (kid lo l (2 * q + 1)) 0 ≤ l.getD p 0 := by
  have hcase : p = 2 * q + 1 ∨ p = 2 * q + 1 + 1 := by omega
  unfold kid lo
  split
  · split
    · rename_i h
      have h := of_decide_eq_true h
      rcases hcase with rfl | rfl <;> omega
    · rename_i h
      have h : ¬ (l.getD (2 * q + 1) 0 < l.getD (2 * q + 1 + 1) 0) := fun z => h (decide_eq_true z)
      rcases hcase with rfl | rfl <;> omega
  · rcases hcase with rfl | rfl
    · exact Int.le_refl _
    · omega
theorem sd_set {st q : Nat} {x y : Int} {l : List Int} : sd lo st x (l.set q y) q = sd lo st x l q := by
  rw [sd, sd.eq_1 (h := l)]
  by_cases h : st < q
  · rw [if_pos h, if_pos h, gd_set_ne (show q ≠ (q - 1) / 2 by omega), List.set_set, List.set_set]
  · rw [if_neg h, if_neg h, List.set_set]
/-- the pairs whose parent stands behind q are in order -/
def Ord (l : List Int) (q : Nat) : Prop := ∀ p, q < (p - 1) / 2 → p < l.length → l.getD ((p - 1) / 2) 0 < l.getD p 0
theorem Ord.set {l : List Int} {q c : Nat} {v : Int} (h : Ord l q) (hc : q < c) : Ord (l.set q v) c := by
  intro p h1 h2
  rw [List.length_set] at h2
  rw [gd_set_ne (show q ≠ (p - 1) / 2 by omega), gd_set_ne (show q ≠ p by omega)]
  exact h p (by omega) h2
theorem climb {st : Nat} {x : Int} : ∀ (k : Nat) (l : List Int) (q : Nat), l.length - q ≤ k → q < l.length → st ≤ q → Ord l q → (2 * q + 1 < l.length → x < l.getD (kid lo l (2 * q + 1)) 0) →
    sd lo st x ((su lo l q).1.set (su lo l q).2 x) (su lo l q).2 = sd lo st x l q := by
  intro k
  induction k with
  | zero => intro l q h1 h2; omega
  | succ k ih =>
    intro l q h1 h2 hst hO hx
    rw [su]
    split
    · rename_i hc
      have g := kid_gt (l := l) (q := q)
      have hk := kid_lt lo l (2 * q + 1) hc
      have hp := kid_par hc
      have hxc := hx hc
      generalize kid lo l (2 * q + 1) = c at *
      have hO' : Ord (l.set q (l.getD c 0)) c := hO.set g
      rw [ih _ _ (by rw [List.length_set]; omega) (by rw [List.length_set]; exact hk) (by omega) hO' ?_]
      · rw [sd, if_pos (by omega), hp, gd_set_eq h2, if_pos (lo_true hxc)]
        have e : (l.set q (l.getD c 0)).set c (l.getD c 0) = l.set q (l.getD c 0) := by
          have z := set_getD_self (l := l.set q (l.getD c 0)) (q := c) (by rw [List.length_set]; exact hk)
          rw [gd_set_ne (by omega)] at z
          exact z
        rw [e, sd_set]
      · intro hc2
        rw [List.length_set] at hc2
        have g2 := kid_gt (l := l.set q (l.getD c 0)) (q := c)
        have hk2 := kid_lt lo (l.set q (l.getD c 0)) (2 * c + 1) (by rw [List.length_set]; exact hc2)
        have hp2 := kid_par (l := l.set q (l.getD c 0)) (q := c) (by rw [List.length_set]; exact hc2)
        rw [List.length_set] at hk2
        generalize kid lo (l.set q (l.getD c 0)) (2 * c + 1) = c2 at *
        rw [gd_set_ne (by omega)]
        have := hO c2 (by omega) hk2
        rw [hp2] at this
        omega
    · exact sd_set
theorem slide {st : Nat} {x : Int} : ∀ (k : Nat) (l : List Int) (q : Nat), l.length - q ≤ k → q < l.length → st ≤ q → Ord l q → (∀ p, q < p → p < l.length → l.getD p 0 ≠ x) → (st < q → ¬ x < l.getD ((q - 1) / 2) 0) →
    sd lo st x ((su lo l q).1.set (su lo l q).2 x) (su lo l q).2 = (sl (fun v => decide (v < x)) l q).1.set (sl (fun v => decide (v < x)) l q).2 x := by
  intro k
  induction k with
  | zero => intro l q h1 h2; omega
  | succ k ih =>
    intro l q h1 h2 hst hO hne hG
    have stop : sd lo st x l q = l.set q x := by
      rw [sd]
      by_cases h : st < q
      · rw [if_pos h, if_neg (lo_false (hG h))]
      · rw [if_neg h]
    by_cases hc : 2 * q + 1 < l.length
    · by_cases hgo : l.getD (kid lo l (2 * q + 1)) 0 < x
      · rw [su, dif_pos hc, sl, dif_pos hc, if_pos (decide_eq_true hgo)]
        have g := kid_gt (l := l) (q := q)
        have hk := kid_lt lo l (2 * q + 1) hc
        have hp := kid_par hc
        generalize kid lo l (2 * q + 1) = c at *
        refine ih _ _ (by rw [List.length_set]; omega) (by rw [List.length_set]; exact hk) (by omega) (hO.set g) ?_ ?_
        · intro p h3 h4
          rw [List.length_set] at h4
          rw [gd_set_ne (by omega)]
          exact hne p (by omega) h4
        · intro _
          rw [hp, gd_set_eq h2]
          omega
      · have hk := kid_lt lo l (2 * q + 1) hc
        have hx : x < l.getD (kid lo l (2 * q + 1)) 0 := by
          have := hne _ (kid_gt (l := l) (q := q)) hk
          omega
        rw [climb (k + 1) l q h1 h2 hst hO (fun _ => hx), stop, sl, dif_pos hc, if_neg (fun z => hgo (of_decide_eq_true z))]
    · rw [climb (k + 1) l q h1 h2 hst hO (fun z => absurd z hc), stop, sl, dif_neg hc]
/-- sup, as a slide -/
theorem sup_slide {l : List Int} {pos : Nat} (hp : pos < l.length) (hO : Ord l pos) (hne : ∀ p, pos < p → p < l.length → l.getD p 0 ≠ l.getD pos 0) :
    sup lo l pos = (sl (fun v => decide (v < l.getD pos 0)) l pos).1.set (sl (fun v => decide (v < l.getD pos 0)) l pos).2 (l.getD pos 0) :=
  slide _ l pos (Nat.le_refl _) hp (Nat.le_refl _) hO hne (fun h => absurd h (Nat.lt_irrefl _))
end Pl4
section Pl5
/-! a slide on labels is a row of toggles -/
theorem kid_map {l : List Int} {g : Int → Int} (hg : ∀ u v, g u < g v ↔ u < v) {c : Nat} (hc : c < l.length) : kid lo (l.map g) c = kid lo l c := by
  unfold kid
  rw [List.length_map]
  by_cases h : c + 1 < l.length
  · rw [if_pos h, if_pos h, gd_map hc, gd_map h]
    by_cases h2 : l.getD c 0 < l.getD (c + 1) 0
    · rw [if_pos (lo_true h2), if_pos (lo_true ((hg _ _).mpr h2))]
    · rw [if_neg (lo_false h2), if_neg (lo_false (fun z => h2 ((hg _ _).mp z)))]
  · rw [if_neg h, if_neg h]
theorem map_set' {l : List Int} {g : Int → Int} {q : Nat} {v : Int} : (l.map g).set q (g v) = (l.set q v).map g := by
  rw [List.map_set]
theorem sl_map {go go' : Int → Bool} {g : Int → Int} (hg : ∀ u v, g u < g v ↔ u < v) (hgo : ∀ v, go' (g v) = go v) : ∀ (k : Nat) (l : List Int) (q : Nat), l.length - q ≤ k → sl go' (l.map g) q = ((sl go l q).1.map g, (sl go l q).2) := by
  intro k
  induction k with
  | zero =>
    intro l q h
    rw [sl, dif_neg (by rw [List.length_map]; omega), sl.eq_1 (l := l), dif_neg (by omega)]
  | succ k ih =>
    intro l q h
    by_cases hc : 2 * q + 1 < l.length
    · have hk := kid_lt lo l (2 * q + 1) hc
      have g1 := kid_gt (l := l) (q := q)
      rw [sl, dif_pos (by rw [List.length_map]; exact hc), sl.eq_1 (l := l), dif_pos hc, kid_map hg hc, gd_map hk, hgo]
      by_cases h2 : go (l.getD (kid lo l (2 * q + 1)) 0) = true
      · rw [if_pos h2, if_pos h2, map_set', ih _ _ (by rw [List.length_set]; omega)]
      · rw [if_neg h2, if_neg h2]
    · rw [sl, dif_neg (by rw [List.length_map]; exact hc), sl.eq_1 (l := l), dif_neg hc]
/-- what stands in the hole is never read -/
theorem sl_hole {go : Int → Bool} {l : List Int} {q : Nat} {x y : Int} : (sl go (l.set q x) q).1.set (sl go (l.set q x) q).2 y = (sl go l q).1.set (sl go l q).2 y := by
  have hk : ∀ c, q < c → kid lo (l.set q x) c = kid lo l c := by
    intro c hc
    unfold kid
    rw [List.length_set, gd_set_ne (by omega), gd_set_ne (by omega)]
  rw [sl, sl.eq_1 (l := l)]
  by_cases hc : 2 * q + 1 < l.length
  · have hc' : 2 * q + 1 < (l.set q x).length := by rw [List.length_set]; exact hc
    have g1 := kid_gt (l := l) (q := q)
    rw [dif_pos hc', dif_pos hc, hk _ (by omega), gd_set_ne (by omega), List.set_set]
    by_cases h2 : go (l.getD (kid lo l (2 * q + 1)) 0) = true
    · rw [if_pos h2, if_pos h2]
    · rw [if_neg h2, if_neg h2, List.set_set]
  · have hc' : ¬ 2 * q + 1 < (l.set q x).length := by rw [List.length_set]; exact hc
    rw [dif_neg hc', dif_neg hc, List.set_set]
def gok (k : Nat) (v : Int) : Bool := decide (v ≤ (k : Int))
def dec (k : Nat) (v : Int) : Int := if v ≤ (k : Int) then v - 1 else v
/-- the least label goes; the labels to k move down by one; the newcomer is label k -/
def pr (k : Nat) (r : List Int) : List Int := ((sl (gok k) r 0).1.map (dec k)).set (sl (gok k) r 0).2 (k : Int)
/-- what holds of a list of labels with a hole -/
structure Inv (n k : Nat) (l : List Int) (q : Nat) : Prop where
  len : l.length = n
  lt : q < n
  inj : ∀ p p', p ≠ q → p' ≠ q → p < n → p' < n → l.getD p 0 = l.getD p' 0 → p = p'
  sur : ∀ v : Nat, 1 ≤ v → v < n → ∃ p, p ≠ q ∧ p < n ∧ l.getD p 0 = (v : Int)
  ord : Ord l q
  par : 0 < q → l.getD ((q - 1) / 2) 0 ≤ (k : Int)
theorem root_zero {r : List Int} (H : RH r) (h0 : 0 < r.length) : r.getD 0 0 = 0 := by
  obtain ⟨p, hp, e⟩ := H.sur 0 h0
  by_cases h : p = 0
  · subst h; simpa using e
  · have a := H.heap p (by omega) hp
    have b := H.rng ((p - 1) / 2) (by omega)
    have e' : r.getD p 0 = 0 := by simpa using e
    omega
theorem inv_start {r : List Int} {k : Nat} (H : RH r) (h0 : 0 < r.length) : Inv r.length k r 0 where
  len := rfl
  lt := h0
  inj := fun p p' _ _ hp hp' e => H.inj p p' hp hp' e
  sur := fun v h1 h2 => by
    obtain ⟨p, hp, e⟩ := H.sur v h2
    refine ⟨p, fun q => ?_, hp, e⟩
    subst q
    rw [root_zero H h0] at e
    omega
  ord := fun p hp h => H.heap p (by omega) h
  par := fun h => absurd h (Nat.lt_irrefl _)
theorem inv_step {n k : Nat} {l : List Int} {q : Nat} (I : Inv n k l q) (hc : 2 * q + 1 < l.length) (hgo : l.getD (kid lo l (2 * q + 1)) 0 ≤ (k : Int)) : Inv n k (l.set q (l.getD (kid lo l (2 * q + 1)) 0)) (kid lo l (2 * q + 1)) := by
  have hk := kid_lt lo l (2 * q + 1) hc
  have g1 := kid_gt (l := l) (q := q)
  have hp := kid_par hc
  generalize kid lo l (2 * q + 1) = c at *
  have hq : q < l.length := by rw [I.len]; exact I.lt
  have hln := I.len
  refine ⟨by rw [List.length_set]; exact I.len, by omega, ?_, ?_, I.ord.set g1, ?_⟩
  · intro p p' h1 h2 h3 h4 e
    by_cases a : q = p
    · by_cases b : q = p'
      · omega
      · subst a
        rw [gd_set_eq hq, gd_set_ne b] at e
        exact absurd (I.inj c p' (by omega) (Ne.symm b) (by omega) h4 e) (Ne.symm h2)
    · by_cases b : q = p'
      · subst b
        rw [gd_set_eq hq, gd_set_ne a] at e
        exact absurd (I.inj p c (Ne.symm a) (by omega) h3 (by omega) e) h1
      · rw [gd_set_ne a, gd_set_ne b] at e
        exact I.inj p p' (Ne.symm a) (Ne.symm b) h3 h4 e
  · intro v h1 h2
    obtain ⟨p, hpq, hpn, e⟩ := I.sur v h1 h2
    by_cases a : p = c
    · subst a
      exact ⟨q, by omega, I.lt, by rw [gd_set_eq hq]; exact e⟩
    · exact ⟨p, a, hpn, by rw [gd_set_ne (Ne.symm hpq)]; exact e⟩
  · intro _
    rw [hp, gd_set_eq hq]
    exact hgo
theorem sl_inv {n k : Nat} : ∀ (j : Nat) (l : List Int) (q : Nat), l.length - q ≤ j → Inv n k l q → Inv n k (sl (gok k) l q).1 (sl (gok k) l q).2 ∧
    (2 * (sl (gok k) l q).2 + 1 < n → (k : Int) < (sl (gok k) l q).1.getD (kid lo (sl (gok k) l q).1 (2 * (sl (gok k) l q).2 + 1)) 0) := by
  intro j
  induction j with
  | zero => intro l q h I; have := I.lt; have := I.len; omega
  | succ j ih =>
    intro l q h I
    rw [sl]
    by_cases hc : 2 * q + 1 < l.length
    · rw [dif_pos hc]
      have g1 := kid_gt (l := l) (q := q)
      by_cases h2 : l.getD (kid lo l (2 * q + 1)) 0 ≤ (k : Int)
      · rw [if_pos (show gok k _ = true from decide_eq_true h2)]
        exact ih _ _ (by rw [List.length_set]; omega) (inv_step I hc h2)
      · have h3 : ¬ gok k (l.getD (kid lo l (2 * q + 1)) 0) = true := fun z => h2 (of_decide_eq_true z)
        rw [if_neg h3]
        refine ⟨I, fun _ => ?_⟩
        show (k : Int) < l.getD (kid lo l (2 * q + 1)) 0
        omega
    · rw [dif_neg hc]
      refine ⟨I, fun z => absurd z ?_⟩
      have := I.len
      show ¬ 2 * q + 1 < n
      omega
theorem sl_again {k : Nat} : ∀ (j : Nat) (l : List Int) (q : Nat), l.length - q ≤ j → sl (gok (k + 1)) l q = sl (gok (k + 1)) (sl (gok k) l q).1 (sl (gok k) l q).2 := by
  intro j
  induction j with
  | zero =>
    intro l q h
    rw [sl.eq_1 (go := gok k), dif_neg (by omega)]
  | succ j ih =>
    intro l q h
    by_cases hc : 2 * q + 1 < l.length
    · have g1 := kid_gt (l := l) (q := q)
      by_cases h2 : l.getD (kid lo l (2 * q + 1)) 0 ≤ (k : Int)
      · have a : gok k (l.getD (kid lo l (2 * q + 1)) 0) = true := decide_eq_true h2
        have b : gok (k + 1) (l.getD (kid lo l (2 * q + 1)) 0) = true := decide_eq_true (by omega)
        rw [sl.eq_1 (go := gok k), dif_pos hc, if_pos a, ← ih _ _ (by rw [List.length_set]; omega)]
        conv => lhs; rw [sl, dif_pos hc, if_pos b]
      · have a : ¬ gok k (l.getD (kid lo l (2 * q + 1)) 0) = true := fun z => h2 (of_decide_eq_true z)
        rw [sl.eq_1 (go := gok k), dif_pos hc, if_neg a]
    · rw [sl.eq_1 (go := gok k), dif_neg hc]
/-- one more label: one more toggle -/
theorem pr_succ {r : List Int} {k : Nat} (H : RH r) (hk : k + 1 < r.length) : pr (k + 1) r = tog k (pr k r) := by
  have h0 : 0 < r.length := by omega
  obtain ⟨I, hstop⟩ := sl_inv (n := r.length) (k := k) _ r 0 (Nat.le_refl _) (inv_start H h0)
  have hag := sl_again (k := k) _ r 0 (Nat.le_refl _)
  unfold pr
  rw [hag]
  generalize sl (gok k) r 0 = s at *
  obtain ⟨l, e⟩ := s
  dsimp only at *
  have hlen := I.len
  have hlt := I.lt
  -- the labels of y
  have ylen : ((l.map (dec k)).set e (k : Int)).length = r.length := by rw [List.length_set, List.length_map, hlen]
  have ye : ((l.map (dec k)).set e (k : Int)).getD e 0 = k := gd_set_eq (by rw [List.length_map, hlen]; exact hlt)
  have yp : ∀ p, p ≠ e → p < r.length → ((l.map (dec k)).set e (k : Int)).getD p 0 = dec k (l.getD p 0) := fun p hp hpn => by rw [gd_set_ne (Ne.symm hp), gd_map (by omega)]
  have dk : ∀ v, dec k v ≠ (k : Int) := fun v => by unfold dec; split <;> omega
  have dk1 : ∀ v, dec k v = (k : Int) + 1 ↔ v = (k : Int) + 1 := fun v => by unfold dec; split <;> omega
  by_cases hc : 2 * e + 1 < l.length ∧ l.getD (kid lo l (2 * e + 1)) 0 = (k : Int) + 1
  · obtain ⟨hc, hv⟩ := hc
    have g1 := kid_gt (l := l) (q := e)
    have hkl := kid_lt lo l (2 * e + 1) hc
    have hp := kid_par hc
    have b : gok (k + 1) (l.getD (kid lo l (2 * e + 1)) 0) = true := decide_eq_true (by omega)
    rw [sl, dif_pos hc, if_pos b]
    generalize kid lo l (2 * e + 1) = c at *
    rw [hv]
    have stop2 : sl (gok (k + 1)) (l.set e ((k : Int) + 1)) c = (l.set e ((k : Int) + 1), c) := by
      rw [sl]
      by_cases hc2 : 2 * c + 1 < (l.set e ((k : Int) + 1)).length
      · rw [dif_pos hc2]
        have g2 := kid_gt (l := l.set e ((k : Int) + 1)) (q := c)
        have hk2 := kid_lt lo _ (2 * c + 1) hc2
        have hp2 := kid_par hc2
        rw [List.length_set] at hk2
        generalize kid lo (l.set e ((k : Int) + 1)) (2 * c + 1) = c2 at *
        have := I.ord c2 (by omega) hk2
        rw [hp2, hv] at this
        have a : ¬ gok (k + 1) ((l.set e ((k : Int) + 1)).getD c2 0) = true := by
          rw [gd_set_ne (by omega)]
          intro z
          have := of_decide_eq_true z
          omega
        rw [if_neg a]
      · rw [dif_neg hc2]
    rw [stop2]
    have adj : Adj k ((l.map (dec k)).set e (k : Int)) := by
      refine ⟨c, by omega, by omega, .inr ⟨?_, ?_⟩⟩
      · rw [yp c (by omega) (by omega), hv]; exact (dk1 _).mpr rfl
      · rw [hp, ye]
    rw [tog_pos adj]
    refine gd_ext (by simp) fun p hpn => ?_
    have hpn' : p < r.length := by simpa [hlen] using hpn
    by_cases a : c = p
    · subst a
      rw [gd_set_eq (by simpa using hkl), yp _ (by omega) hpn', hv]
      show ((k + 1 : Nat) : Int) = dec k ((k : Int) + 1)
      rw [(dk1 _).mpr rfl]; omega
    · rw [gd_set_ne a, gd_map (by simpa [hlen] using hpn')]
      by_cases a2 : e = p
      · subst a2
        rw [gd_set_eq (by omega), ye]
        unfold dec
        split <;> omega
      · rw [gd_set_ne a2, yp p (Ne.symm a2) hpn']
        have : l.getD p 0 ≠ (k : Int) + 1 := fun z => a (I.inj c p (by omega) (Ne.symm a2) (by omega) hpn' (hv.trans z.symm))
        unfold dec
        split <;> split <;> omega
  · -- the label k + 1 stands elsewhere
    have stop1 : sl (gok (k + 1)) l e = (l, e) := by
      rw [sl]
      by_cases hc2 : 2 * e + 1 < l.length
      · rw [dif_pos hc2]
        have := hstop (by omega)
        have hv : l.getD (kid lo l (2 * e + 1)) 0 ≠ (k : Int) + 1 := fun z => hc ⟨hc2, z⟩
        have a : ¬ gok (k + 1) (l.getD (kid lo l (2 * e + 1)) 0) = true := by
          intro z
          have := of_decide_eq_true z
          omega
        rw [if_neg a]
      · rw [dif_neg hc2]
    rw [stop1]
    dsimp only
    obtain ⟨p0, hp0e, hp0n, hp0⟩ := I.sur (k + 1) (by omega) hk
    have hp0' : l.getD p0 0 = (k : Int) + 1 := by rw [hp0]; omega
    have nadj : ¬ Adj k ((l.map (dec k)).set e (k : Int)) := by
      rintro ⟨p, h1, h2, h3⟩
      rw [ylen] at h2
      have at_e : ∀ z, z < r.length → ((l.map (dec k)).set e (k : Int)).getD z 0 = (k : Int) → z = e := fun z hz hv => by
        by_cases q : z = e
        · exact q
        · rw [yp z q hz] at hv
          exact absurd hv (dk _)
      have at_p : ∀ z, z < r.length → ((l.map (dec k)).set e (k : Int)).getD z 0 = (k : Int) + 1 → z = p0 := fun z hz hv => by
        by_cases q : z = e
        · subst q; rw [ye] at hv; omega
        · rw [yp z q hz] at hv
          exact I.inj z p0 q hp0e hz hp0n (((dk1 _).mp hv).trans hp0'.symm)
      rcases h3 with ⟨ha, hb⟩ | ⟨ha, hb⟩
      · have e1 := at_e p h2 ha
        have e2 := at_p _ (by omega) hb
        have := I.par (by omega)
        rw [← e1, e2, hp0'] at this
        omega
      · have e1 := at_p p h2 ha
        have e2 := at_e _ (by omega) hb
        subst e1
        have hc2 : 2 * e + 1 < l.length := by omega
        have m := kid_min (l := l) h1 (by omega) e2
        have := hstop (by omega)
        exact hc ⟨hc2, by omega⟩
    rw [tog_neg nadj]
    refine gd_ext (by simp) fun p hpn => ?_
    have hpn' : p < r.length := by simpa [hlen] using hpn
    rw [gd_map (by rw [ylen]; exact hpn')]
    by_cases a : e = p
    · subst a
      rw [gd_set_eq (by rw [List.length_map]; omega), ye, sw_at1.mpr rfl]
      omega
    · rw [gd_set_ne a, gd_map (by omega), yp p (Ne.symm a) hpn']
      by_cases b : p = p0
      · subst b
        rw [hp0', (dk1 _).mpr rfl, sw_at.mpr rfl]
        unfold dec
        split <;> omega
      · have hne : l.getD p 0 ≠ (k : Int) + 1 := fun z => b (I.inj p p0 (Ne.symm a) hp0e hpn' hp0n (z.trans hp0'.symm))
        have : sw k (dec k (l.getD p 0)) = dec k (l.getD p 0) := (sw_off (dk _) (fun z => hne ((dk1 _).mp z))).mpr rfl
        rw [this]
        unfold dec
        split <;> split <;> omega
end Pl5
section C0
open PySem PySem.W PyProof.Rows
abbrev Led := List (Addr × Obj)
theorem rshift_one {prog : Program} {w : World} {A : Around} {E : Value → Shared → Prop} {s : Shared} {Q : Value → Shared → Prop} {a : Int} {t u : Tok}
    (h : Q (.int (a / 2) s.toks) { s with toks := s.toks + 1 }) : wpAny (model prog w) A (binaryOp .RShift (.int a t) (.int 1 u)) Q E s := by
  refine rshift_int (by decide) ?_
  have e : a.fdiv (2 ^ Int.toNat 1) = a / 2 := by
    show a.fdiv 2 = a / 2
    rw [Int.fdiv_eq_ediv_of_nonneg _ (by decide)]
  rw [e]
  exact h
/-- what a call does that turns one object of the ledger -/
def Does (w : World) (f : Addr) (args : List Value) (size : Nat) (l : Addr) (o : Obj) (Post : Value → Obj → Prop) : Prop :=
  ∀ (dp un : Nat) (gd : Option (List Code)) (cn : Str) (cs : Scope) (a : Addr) (ccd : Value) (cl : List (Str × Addr)) (outer : List Env) (A₀ : Around) (base h₀ : Heap) (L : Addr) (m : Str → Option Value) (s : Shared) (mean : ExcName → Option Value) (mg mb : Str → Option Value)
    (Q E : Value → Shared → Prop) (news : Led) (g : Obj → Led),
    Below A₀ base outer h₀ → Fr h₀ L s.heap m → (hd.heap_39 w.params).In h₀ → News h₀ L s.heap news → UpdF l o news g → Top hd.view_39 (looseW hd.view_39 []) mean mg mb h₀ → cs.kind = .function → dp + size < recursionLimit → un + 8 * size < cLine →
    (∀ r o' h' tk', Fr h₀ L h' m → News h₀ L h' (g o') → Post r o' → Q r { s with heap := h', toks := tk' }) →
    wpAny (model PySem.Challenge.rw_sc0014_01.row.prog w) (ktrTop dp un gd cn cs L a ccd cl outer) (call (.ref f) args) Q E s
/-- the same, the object at the ledger's head -/
def Does1 (w : World) (f : Addr) (args : List Value) (size : Nat) (l : Addr) (o : Obj) (Post : Value → Obj → Prop) : Prop :=
  ∀ (dp un : Nat) (gd : Option (List Code)) (cn : Str) (cs : Scope) (a : Addr) (ccd : Value) (cl : List (Str × Addr)) (outer : List Env) (A₀ : Around) (base h₀ : Heap) (L : Addr) (m : Str → Option Value) (s : Shared) (mean : ExcName → Option Value) (mg mb : Str → Option Value)
    (Q E : Value → Shared → Prop) (rest : Led),
    Below A₀ base outer h₀ → Fr h₀ L s.heap m → (hd.heap_39 w.params).In h₀ → News h₀ L s.heap ((l, o) :: rest) → (∀ p ∈ rest, p.1 ≠ l) → Top hd.view_39 (looseW hd.view_39 []) mean mg mb h₀ → cs.kind = .function → dp + size < recursionLimit → un + 8 * size < cLine →
    (∀ r o' h' tk', Fr h₀ L h' m → News h₀ L h' ((l, o') :: rest) → Post r o' → Q r { s with heap := h', toks := tk' }) →
    wpAny (model PySem.Challenge.rw_sc0014_01.row.prog w) (ktrTop dp un gd cn cs L a ccd cl outer) (call (.ref f) args) Q E s
theorem does_of {w : World} {f : Addr} {args : List Value} {size : Nat} {l : Addr} {o : Obj} {Post : Value → Obj → Prop} (D : Does1 w f args size l o Post) : Does w f args size l o Post := by
  intro dp un gd cn cs a ccd cl outer A₀ base h₀ L m s mean mg mb Q E news g B F X N U T hk hdp hun ret
  obtain ⟨pre, post, rfl, hg, a1, a2⟩ := U.split
  refine D dp un gd cn cs a ccd cl outer A₀ base h₀ L m s mean mg mb Q E (pre ++ post) B F X ?_ ?_ T hk hdp hun ?_
  · intro p hp
    refine N p ?_
    rcases List.mem_cons.mp hp with rfl | hp
    · exact List.mem_append.mpr (.inr (.head _))
    · exact (List.mem_append.mp hp).elim (fun h => List.mem_append.mpr (.inl h)) fun h => List.mem_append.mpr (.inr (.tail _ h))
  · intro p hp
    exact (List.mem_append.mp hp).elim (a1 p) (a2 p)
  · intro r o' h' tk' F' N' hP
    refine ret r o' h' tk' F' ?_ hP
    rw [hg]
    intro p hp
    refine N' p ?_
    rcases List.mem_append.mp hp with h | h
    · exact .tail _ (List.mem_append.mpr (.inl h))
    · rcases List.mem_cons.mp h with rfl | h
      · exact .head _
      · exact .tail _ (List.mem_append.mpr (.inr h))
theorem does_use {w : World} {f : Addr} {args : List Value} {size : Nat} {l : Addr} {o : Obj} {Post : Value → Obj → Prop} (D : Does w f args size l o Post)
    {dp un : Nat} {gd : Option (List Code)} {cn : Str} {cs : Scope} {a : Addr} {ccd : Value} {cl : List (Str × Addr)} {outer : List Env} {A₀ : Around} {base h₀ : Heap} {L : Addr} {m : Str → Option Value} {s : Shared} {mean : ExcName → Option Value} {mg mb : Str → Option Value}
    {Q E : Value → Shared → Prop} {news : Led} {g : Obj → Led} (B : Below A₀ base outer h₀) (F : Fr h₀ L s.heap m) (X : (hd.heap_39 w.params).In h₀) (N : News h₀ L s.heap news) (U : UpdF l o news g) (T : Top hd.view_39 (looseW hd.view_39 []) mean mg mb h₀)
    (hk : cs.kind = .function) (hdp : dp + size < recursionLimit) (hun : un + 8 * size < cLine)
    (ret : ∀ r o' h' tk', Fr h₀ L h' m → News h₀ L h' (g o') → Post r o' → Q r { s with heap := h', toks := tk' }) :
    wpAny (model PySem.Challenge.rw_sc0014_01.row.prog w) (ktrTop dp un gd cn cs L a ccd cl outer) (call (.ref f) args) Q E s :=
  D dp un gd cn cs a ccd cl outer A₀ base h₀ L m s mean mg mb Q E news g B F X N U T hk hdp hun ret
/-- None comes back, and the list holds these ints -/
def Ints (xs : List Int) (r : Value) (o : Obj) : Prop := r = .none ∧ ∃ vs n, o = listOf vs.toArray n ∧ IntsAre vs xs
/-- this int comes back, and the list holds these ints -/
def IntsR (x : Int) (xs : List Int) (r : Value) (o : Obj) : Prop := ∃ t vs n, r = .int x t ∧ o = listOf vs.toArray n ∧ IntsAre vs xs
end C0
section Rv
open PySem PySem.W PyProof.Rows
set_option maxRecDepth 100000
section
variable {prog : Program} {w : World} {A : Around} {E : Value → Shared → Prop} {s : Shared}
theorem size_up {b : Int} (h0 : 0 ≤ b) : Builtin.Range.rangeSize 0 b 1 = b := by
  unfold Builtin.Range.rangeSize
  simp only [show ((1 : Int) > 0) by decide, if_true, Int.ediv_one]
  split <;> omega
theorem range_reversed {r : Addr} {b : Int} {t u v : Tok} {Q : Value → Shared → Prop} (hr : IsRange s.heap r 0 b 1 t u v) (h0 : 0 ≤ b) (h1 : b ≤ 1000)
    (h : Q (.ref s.heap.objs.size) { s with heap := s.heap.push { cls := .type "range_iterator", data := .fields #[rawInt (b - 1), rawInt b, rawInt (-1)] } }) :
    wpAny (model prog w) A (call (.builtin "range.__reversed__") [.ref r]) Q E s := by
  have hT : s.TypeIs (.ref r) "range" := ⟨_, hr, rfl⟩
  refine wpAny_call_entry F.slot_range_reversed hT F.entry_range_reversed ?_ (F.args_range_reversed_1 _)
  have e1 : (0 : Int) + (Builtin.Range.rangeSize 0 b 1 - 1) * 1 = b - 1 := by rw [size_up h0]; omega
  have e2 : (Builtin.Range.rangeFitsLong 0 && Builtin.Range.rangeFitsLong b && Builtin.Range.rangeFitsLong 1 && Builtin.Range.rangeFitsLong (-1) && Builtin.Range.rangeFitsLong (0 - 1) && Builtin.Range.rangeFitsLong (Builtin.Range.rangeSize 0 b 1)) = true := by
    rw [size_up h0]
    unfold Builtin.Range.rangeFitsLong
    simp only [Bool.and_eq_true, decide_eq_true_eq]
    omega
  unfold Builtin.«range.__reversed__»
  refine wpAny_bind (wpAny_of_eq (a := Value.ref r) rfl ?_)
  refine wpAny_bind ?_
  unfold Builtin.Range.rangeFields
  refine wpAny_bind (wpAny_field hr rfl (x := .int 0 t) rfl ?_)
  refine wpAny_bind (m := asInt? _) (wpAny_pure ?_)
  refine wpAny_bind (wpAny_field hr rfl (x := .int b u) rfl ?_)
  refine wpAny_bind (m := asInt? _) (wpAny_pure ?_)
  refine wpAny_bind (wpAny_field hr rfl (x := .int 1 v) rfl ?_)
  refine wpAny_bind (m := asInt? _) (wpAny_pure ?_)
  refine wpAny_pure ?_
  dsimp only
  rw [e2, e1, size_up h0]
  simp only [Bool.not_true, Bool.false_eq_true, if_false, if_true]
  refine wpAny_bind ?_
  refine wpAny_newObj_type (wpAny_pure ?_)
  exact ⟨_, rfl, h⟩
theorem sub_range_reversed : isSubtype (.type "range_iterator") (.type "reversed") = pure false := by rw [isSubtype_type]; kernel_rfl
theorem new_range_reversed {r : Addr} {b : Int} {t u v : Tok} {Q : Value → Shared → Prop} (hr : IsRange s.heap r 0 b 1 t u v) (h0 : 0 ≤ b) (h1 : b ≤ 1000)
    (h : Q (.ref s.heap.objs.size) { s with heap := s.heap.push { cls := .type "range_iterator", data := .fields #[rawInt (b - 1), rawInt b, rawInt (-1)] } }) :
    codeAny (model prog w) A (.call (.builtin "reversed.__new__") ⟨[.type "reversed", .ref r], []⟩) (wants Q E) s := by
  have hT : s.TypeIs (.ref r) "range" := ⟨_, hr, rfl⟩
  refine codeAny_of_tree ?_
  show wpAny _ A.in1 (do checkBuiltinCall "reversed.__new__" ⟨[.type "reversed", .ref r], []⟩; again (.builtin "reversed.__new__" ⟨[.type "reversed", .ref r], []⟩)) _ _ s
  refine wpAny_bind (wpAny_of_eq (F.newCall_reversed_1 _) (wpAny_pure ⟨plainId_quiet F.plain_reversed_new _, codeAny_builtin F.entry_reversed_new ?_⟩))
  rw [Around.under_plainId F.plain_reversed_new _]
  unfold Builtin.«reversed.__new__»
  refine wpAny_bind (wpAny_of_eq (newClass_reversed _) ?_)
  try dsimp only
  refine wpAny_bind (wpAny_of_eq (a := ()) (by first | rfl | kernel_rfl) ?_)
  refine wpAny_bind (wpAny_of_eq (a := ()) (by first | rfl | kernel_rfl) ?_)
  try dsimp only
  refine wpAny_bind (wpAny_specialOf hT F.slot_range_reversed.lookup ?_)
  try dsimp only
  refine wpAny_bind (wpAny_of_eq (F.slot_range_reversed.bind _) ?_)
  try dsimp only
  first
  | rw [if_neg (show ¬ ((Value.builtin "range.__reversed__" == Value.none) = true) from Bool.false_ne_true)]
  | (show wpAny _ _ (if (Value.builtin "range.__reversed__" == Value.none) = true then _ else _) _ _ _; rw [if_neg (show ¬ ((Value.builtin "range.__reversed__" == Value.none) = true) from Bool.false_ne_true)])
  refine wpAny_bind (wpAny_rule ?_)
  refine wpAny_bind (m := runValue (.call (.builtin "range.__reversed__") ⟨[.ref r], []⟩)) (show wpAny _ _ (call (.builtin "range.__reversed__") [.ref r]) _ _ _ from range_reversed hr h0 h1 ?_)
  first
  | exact wpAny_pure h
  | exact wpAny_bind (wpAny_pure (wpAny_pure h))
theorem call_range_reversed {r : Addr} {b : Int} {t u v : Tok} {Q : Value → Shared → Prop} (hr : IsRange s.heap r 0 b 1 t u v) (h0 : 0 ≤ b) (h1 : b ≤ 1000)
    (h : Q (.ref s.heap.objs.size) { s with heap := s.heap.push { cls := .type "range_iterator", data := .fields #[rawInt (b - 1), rawInt b, rawInt (-1)] } }) : wpAny (model prog w) A (call (.type "reversed") [.ref r]) Q E s := by
  refine callType_other (U := "range_iterator") (Q₁ := fun obj s₁ => obj = .ref s.heap.objs.size ∧ s₁ = { s with heap := s.heap.push { cls := .type "range_iterator", data := .fields #[rawInt (b - 1), rawInt b, rawInt (-1)] } }) (by decide +kernel) F.create_reversed ⟨_, _, F.mro_reversed⟩ F.made_reversed sub_range_reversed (F.typeCall_reversed_1 _) (new_range_reversed hr h0 h1 ⟨rfl, rfl⟩) ?_
  rintro obj s₁ ⟨rfl, rfl⟩
  exact ⟨⟨_, Heap.get?_push_size _ rfl, rfl⟩, h⟩
variable {h₀ : Heap} {L : Addr} {m : Str → Option Value} {env : Env} {x : Str} {body : List Stmt}
/-- the mark that a range's iterator stands at I, off the ledger -/
structure DownIter (h₀ h : Heap) (L I : Addr) (news : List (Addr × Obj)) (n : Nat) : Prop where
  it : IsRangeIter h I ((n : Int) - 1) n (-1)
  fresh : h₀.get? I = none
  off : I ≠ L
  offs : ∀ p ∈ news, p.1 ≠ I
theorem fdiv_two (k : Nat) : Int.fdiv (k : Int) 2 = ((k / 2 : Nat) : Int) := by
  rw [Int.fdiv_eq_ediv_of_nonneg _ (by decide)]
  omega
theorem reversed_K {r : Addr} {b : Int} {k : Nat} {t u v : Tok} {news : List (Addr × Obj)} {Q : Value → Shared → Prop} (F : Fr h₀ L s.heap m) (N : News h₀ L s.heap news) (hr : IsRange s.heap r 0 b 1 t u v) (hb : b = (k : Int)) (h1 : k ≤ 1000)
    (h : ∀ I h', DownIter h₀ h' L I news k → Fr h₀ L h' m → News h₀ L h' news → Q (.ref I) { s with heap := h' }) : wpAny (model prog w) A (call (.type "reversed") [.ref r]) Q E s := by
  subst hb
  refine call_range_reversed hr (by omega) (by omega) (h _ _ ⟨?_, next_is_new F, fun e => Nat.lt_irrefl _ (e ▸ F.ns.lt), fun p hp e => Nat.lt_irrefl _ (e ▸ Heap.lt_size (N p hp).1)⟩ (F.push _) fun p hp => ⟨Heap.get?_push_of_some _ (N p hp).1, (N p hp).2⟩)
  exact Heap.get?_push_size _ rfl
/-- what holds between heapify's turns -/
def HpJ (lt : Int → Int → Bool) (l : Addr) (rest : List (Addr × Obj)) (ns : List Int) (k : Nat) (x : Str) (m₀ : Str → Option Value) (i : Nat) (m₁ : Str → Option Value) (nx : List (Addr × Obj)) : Prop :=
  ∃ vs' ns' n', nx = (l, listOf (List.toArray vs') n') :: rest ∧ IntsAre vs' ns' ∧ ns'.length = ns.length ∧ hpf lt ns' (k - i) = hpf lt ns k ∧ ∀ z, z ≠ x → m₁ z = m₀ z
theorem fr_agree {h : Heap} {v : Option Value} {m₁ m₀ : Str → Option Value} (e : ∀ z, z ≠ x → m₁ z = m₀ z) (F : Fr h₀ L h (fun y => if y = x then v else m₁ y)) : Fr h₀ L h (fun y => if y = x then v else m₀ y) := by
  have q : (fun y => if y = x then v else m₁ y) = fun y => if y = x then v else m₀ y := by
    funext y
    by_cases hy : y = x
    · rw [if_pos hy, if_pos hy]
    · rw [if_neg hy, if_neg hy, e y hy]
  rw [← q]
  exact F
theorem fr_agree0 {h : Heap} {m₁ m₀ : Str → Option Value} (e : ∀ z, z ≠ x → m₁ z = m₀ z) (F : Fr h₀ L h m₁) : Fr h₀ L h (fun y => if y = x then m₁ x else m₀ y) := by
  have q : m₁ = fun y => if y = x then m₁ x else m₀ y := by
    funext y
    by_cases hy : y = x
    · rw [if_pos hy, hy]
    · rw [if_neg hy, e y hy]
  rw [← q]
  exact F
theorem hp_end {lt : Int → Int → Bool} {l : Addr} {rest own : List (Addr × Obj)} {ns ns' : List Int} {vs' : List Value} {n' k i tk : Nat} {o₀ : Obj} {m₀ m' : Str → Option Value} {h' : Heap} {s₁ : Shared} (F : Fr h₀ L h' m') (N : News h₀ L h' ((l, listOf (List.toArray vs') n') :: (rest ++ own))) (hI : IntsAre vs' ns')
    (hl : ns'.length = ns.length) (hp : hpf lt ns' (k - (i + 1)) = hpf lt ns k) (hm : ∀ z, z ≠ x → m' z = m₀ z) : InvEndN h₀ L (HpJ lt l rest ns k x m₀ (i + 1)) own (((l, o₀) :: rest).map (·.1)) s₁ { s₁ with heap := h', toks := tk } :=
  InvEndN.intro F N ⟨vs', ns', n', rfl, hI, hl, hp, hm⟩ rfl (fun _ hp => (List.mem_cons.mp hp).elim (fun h => h ▸ .head _) fun h => .tail _ (List.mem_append.mpr (.inl h))) (fun _ hp => .tail _ (List.mem_append.mpr (.inr hp)))
/-- the loop over it, by what holds between the turns -/
theorem down_loop {Q : Flow → Shared → Prop} {I : Addr} {n : Nat} {m₀ : Str → Option Value} {news : List (Addr × Obj)} (J : Nat → (Str → Option Value) → List (Addr × Obj) → Prop)
    (hh : A.handled = none) (D : DownIter h₀ s.heap env.locals I news n) (F : Fr h₀ env.locals s.heap m₀) (N : News h₀ env.locals s.heap news) (hj : J 0 m₀ news)
    (turn : ∀ i k t m₁ news₁ h tk own, i < n → k = (n : Int) - 1 - (i : Int) → news₁.map (·.1) = news.map (·.1) → OwnOff own (news.map (·.1)) → J i m₁ news₁ → Fr h₀ env.locals h (fun y => if y = x then some (.int k t) else m₁ y) → News h₀ env.locals h (news₁ ++ own) →
      wpAny (model prog w) A (execs body env) (InvPostN h₀ env.locals (J (i + 1)) own (news.map (·.1)) { s with heap := h, toks := tk } Q) E { s with heap := h, toks := tk })
    (done : ∀ m₁ news₁ h tk, J n m₁ news₁ → Fr h₀ env.locals h m₁ → News h₀ env.locals h news₁ → Q .next { s with heap := h, toks := tk }) :
    wpAny (model prog w) A (pyIter (.ref I)) (fun it s₂ => LoopAtV prog w A h₀ env x body Q E it s₂) E s := by
  refine wpAny_pyIter_rangeiter D.it ?_
  have W : Walks prog w A I [I] [I] n (fun i v => i < n ∧ ∃ t, v = .int ((n : Int) - 1 + i * (-1)) t)
      (fun i h => IsRangeIter h I ((n : Int) - 1 + (i : Nat) * (-1)) ((n : Int) - (i : Nat)) (-1)) := (Walks.range hh _ ((n : Int) - 1) (-1) n).bound
  refine loop_invN J W ?_ ?_ ?_ ?_ ?_ F N hj ?_ done
  · intro h; exact D.off (List.mem_singleton.mp h).symm
  · intro b hb; rw [List.mem_singleton.mp hb]; exact D.fresh
  · intro p hp h; exact D.offs p hp (List.mem_singleton.mp h)
  · intro p hp h; exact D.offs p hp (List.mem_singleton.mp h)
  · show IsRangeIter _ _ _ _ _
    simpa using D.it
  · rintro i v m₁ nx h tk own hi ⟨_, t, rfl⟩ hmap hoff hJ F₁ N₁
    exact turn i _ t m₁ nx h tk own hi (by omega) hmap hoff hJ F₁ N₁
end
theorem heap_var {lt : Int → Int → Bool} {vs : List Value} {ns : List Int} (h : IntsAre vs (hpf lt ns (ns.length / 2))) : ∃ ys, IntsAre vs ys ∧ ys = hpf lt ns (ns.length / 2) ∧ ys.length = ns.length ∧ ys.Perm ns :=
  ⟨_, h, rfl, hpf_length lt _ _ (Nat.div_le_self _ _), hpf_perm lt _ _ (Nat.div_le_self _ _)⟩
end Rv
section Ec
open PySem PySem.W PyProof.Rows PySem.Spec PySem.Calls PyProof.Rows.LCg
set_option maxRecDepth 100000
theorem ld_ns {prog : Program} {w : World} {A : Around} {E : Value → Shared → Prop} {s : Shared} {env : Env} {scope : Scope} {cl : List (Str × Addr)} {C : Addr} {m₂ : Str → Option Value} {z : Str} {pos : Pos} {v : Value} {Q : Value → Shared → Prop} (hn : s.heap.Ns C m₂) (hv : m₂ z = some v) (h : Q v s)
    (hk : (compEnvC scope cl C env).scope.kind = .function := by rfl) (hl : (compEnvC scope cl C env).kindOf z = some .local := by rfl) (hd : (z == ("__debug__" : Str)) = false := by decide) :
    wpAny (model prog w) A (eval (.Name z pos) (compEnvC scope cl C env)) Q E s := wpAny_Name (wpAny_loadName_local hk hl hn hv h) hd
/-- the element's values over enumerate -/
def enumG (g : Int → Int → Int) : Nat → List Int → List Int
  | _, [] => []
  | i, k :: r => g (i : Int) k :: enumG g (i + 1) r
theorem enumG_length (g : Int → Int → Int) : ∀ (ns : List Int) (i : Nat), (enumG g i ns).length = ns.length
  | [], _ => rfl
  | _ :: r, i => congrArg (· + 1) (enumG_length g r (i + 1))
theorem enumG_at (g : Int → Int → Int) : ∀ (ns : List Int) (j i : Nat) (k : Int), ns[i]? = some k → (enumG g j ns)[i]? = some (g ((j + i : Nat) : Int) k)
  | [], _, _, _, h => by simp at h
  | x :: r, j, 0, k, h => by
    have : x = k := by simpa using h
    subst this
    rfl
  | x :: r, j, i + 1, k, h => by
    have := enumG_at g r (j + 1) i k (by simpa using h)
    rw [show j + (i + 1) = j + 1 + i by omega]
    simpa [enumG] using this
section
variable {prog : Program} {w : World} {A : Around} {E : Value → Shared → Prop} {s : Shared} {h₀ : Heap} {L : Addr} {m : Str → Option Value} {env : Env}
/-- the enumerate object stands made, off the ledger -/
structure EnumAt (h₀ h : Heap) (L : Addr) (m : Str → Option Value) (news : List (Addr × Obj)) (e it l : Addr) (items : Array Value) : Prop where
  en : IsEnum h e it 0 .none
  li : h.IsListIter it l 0
  ls : h.IsList l items
  fr : Fr h₀ L h m
  nw : News h₀ L h news
  hei : e ≠ it
  hle : l ≠ e
  hli : l ≠ it
  e0 : h₀.get? e = none
  i0 : h₀.get? it = none
  eL : e ≠ L
  iL : it ≠ L
  off : ∀ p ∈ news, p.1 ≠ e ∧ p.1 ≠ it
theorem enum_block {elt iter : PySem.Expr} {a b : Str} {pa pb tp : Pos} {kk : Nat} {scope : Scope} {cl : List (Str × Addr)} {pos : Pos} {s₂ : Shared} {e it l : Addr} {vs : List Value} {ns : List Int} {news : List (Addr × Obj)} (g : Int → Int → Int)
    {RR : Value → Addr → Result → Shared → Prop} (hh : A.handled = none) (X : EnumAt h₀ s₂.heap L m news e it l vs.toArray) (hI : IntsAre vs ns) (hsz : ns.length ≤ sizeLine) (hLlt : l < s₂.heap.objs.size)
    (hcell : ∀ y ∈ scope.names, y.2 ≠ .cell) (hkind : scope.kind = .function) (hxa : scope.names.lookup a = some .local) (hxb : scope.names.lookup b = some .local) (hab : ¬ a = b)
    (elt_ok : ∀ (C : Addr) (m₂ : Str → Option Value) (i : Nat) (k : Int) (t t' : Tok) (s' : Shared) (Q' : Value → Shared → Prop) (E' : Value → Shared → Prop), s'.heap.Ns C m₂ → m₂ a = some (.int (i : Int) t) → m₂ b = some (.int k t') →
      (∀ (t'' : Tok) (tk : Nat), Q' (.int (g (i : Int) k) t'') { s' with toks := tk }) → wpAny (model prog w) A (eval elt (compEnvC scope cl C env)) Q' E' s')
    (hRR : ∀ D C h tk m' ys, Fr h₀ L h m → News h₀ L h ((D, lst ys) :: news) → Off1 D news → h.Ns C m' → h₀.get? C = none → h₀.get? D = none → C ≠ L → D ≠ L → C ≠ D → (∀ p ∈ news, p.1 ≠ C) → IntsAre ys (enumG g 0 ns) → RR (.ref D) C (.ok .next) { s₂ with heap := h, toks := tk }) :
    wpAny (model prog w) A (newList []) (fun acc s₃ => wpAny (model prog w) A (newFunctionEnv scope env.globals cl [] env.qual none .none (some env)) (fun cenv s₄ =>
      codeAny (model prog w) A (.compStart (.ListComp elt [⟨.Tuple [.Name a pa, .Name b pb] kk tp, iter, [], 0⟩] scope pos) 0 (.ref e) acc { cenv with scope := relabel scope env }) (RR acc cenv.locals) s₄) E s₃) E s₂ := by
  refine wpAny_newObj_type (wpAny_newFunctionEnv hcell (by intro y hy; simp at hy) (fun h₁ hns₁ hsb₁ => ?_) hkind)
  dsimp only at hns₁ hsb₁ ⊢
  generalize hH2 : s₂.heap.push { cls := .type "list", dict := none, data := .seq ([] : List Value).toArray } = H2 at hns₁ hsb₁ ⊢
  have hC : H2.objs.size = s₂.heap.objs.size + 1 := by rw [← hH2, Heap.size_push]
  have hDC : s₂.heap.objs.size ≠ H2.objs.size := by rw [hC]; exact Nat.ne_of_lt (Nat.lt_succ_self _)
  have below : ∀ b, b < s₂.heap.objs.size → b ≠ H2.objs.size ∧ b ≠ s₂.heap.objs.size := fun b hb => ⟨by rw [hC]; exact Nat.ne_of_lt (Nat.lt_succ_of_lt hb), Nat.ne_of_lt hb⟩
  have old : ∀ b o, s₂.heap.get? b = some o → h₁.get? b = some o := fun b o e => hsb₁.extBut b o (below b (Heap.lt_size e)).1 (Heap.get?_push_of_some _ (hH2 ▸ Heap.get?_push_of_some _ e))
  have hacc : h₁.get? s₂.heap.objs.size = some (lst []) := hsb₁.extBut _ _ hDC (Heap.get?_push_of_some _ (hH2 ▸ Heap.get?_push_size _ rfl))
  have fresh : ∀ a, s₂.heap.objs.size ≤ a → s₂.heap.get? a = none := fun a ha => by
    cases e : s₂.heap.get? a with
    | none => rfl
    | some o' => exact absurd (Heap.lt_size e) (Nat.not_lt.mpr ha)
  have fresh₀ : ∀ a, s₂.heap.objs.size ≤ a → h₀.get? a = none := fun a ha => by
    cases e : h₀.get? a with
    | none => rfl
    | some o' => have := X.fr.keep a o' e; rw [fresh a ha] at this; cases this
  have hD₀ : h₀.get? s₂.heap.objs.size = none := fresh₀ _ (Nat.le_refl _)
  have hC₀ : h₀.get? H2.objs.size = none := fresh₀ _ (by rw [hC]; exact Nat.le_succ _)
  have hLl : L < s₂.heap.objs.size := X.fr.ns.lt
  have hDL : s₂.heap.objs.size ≠ L := Ne.symm (below L hLl).2
  have hCL : H2.objs.size ≠ L := Ne.symm (below L hLl).1
  have hee := below e (Heap.lt_size X.en)
  have hii := below it (by obtain ⟨_, x, _⟩ := X.li; exact Heap.lt_size x)
  have hll := below l hLlt
  have offC : ∀ p ∈ news, p.1 ≠ H2.objs.size := fun p hp => (below _ (Heap.lt_size (X.nw p hp).1)).1
  have offD : ∀ p ∈ news, p.1 ≠ s₂.heap.objs.size := fun p hp => (below _ (Heap.lt_size (X.nw p hp).1)).2
  have off1 : Off1 s₂.heap.objs.size news := (Off3.of (I := e) (C := H2.objs.size) fun p hp => ⟨(X.off p hp).1, offC p hp, offD p hp⟩).one
  have W := WalksT.enumerate (prog := prog) (w := w) (A := A) hh e it l X.hei X.hle X.hli vs.toArray
  have hn : vs.toArray.size = ns.length := by rw [List.size_toArray]; exact hI.length
  rw [hn] at W
  have hCfp : H2.objs.size ∉ [e, it, l] := by
    intro q
    rcases List.mem_cons.mp q with q | q
    · exact hee.1 q.symm
    rcases List.mem_cons.mp q with q | q
    · exact hii.1 q.symm
    · exact hll.1 (List.mem_singleton.mp q).symm
  have hDfp : s₂.heap.objs.size ∉ [e, it, l] := by
    intro q
    rcases List.mem_cons.mp q with q | q
    · exact hee.2 q.symm
    rcases List.mem_cons.mp q with q | q
    · exact hii.2 q.symm
    · exact hll.2 (List.mem_singleton.mp q).symm
  have wr2 : ∀ c, c ≠ e → c ≠ it → c ∉ [e, it] := fun c h1 h2 q => by
    rcases List.mem_cons.mp q with q | q
    · exact h1 q
    · exact h2 (List.mem_singleton.mp q)
  have loop : ∀ s₃ : Shared, s₃ = { s₂ with heap := h₁, toks := s₂.toks + ([] : List (Str × Value)).length } →
      codeAny (model prog w) A (.compLoop (.ListComp elt [⟨.Tuple [.Name a pa, .Name b pb] kk tp, iter, [], 0⟩] scope pos) 0 (.ref e) (.ref s₂.heap.objs.size) (compEnvC scope cl H2.objs.size env))
        (RR (.ref s₂.heap.objs.size) H2.objs.size) s₃ := by
    rintro s₃ rfl
    refine kcp_loop
      (fun k s' => ∃ h' tk i ys m', s' = { s₂ with heap := h', toks := tk } ∧ i ≤ ns.length ∧ k = ns.length + 1 - i ∧ IntsAre ys ((enumG g 0 ns).take i) ∧
        ((∃ old, IsEnum h' e it (i : Int) old) ∧ h'.IsListIter it l i ∧ h'.IsList l vs.toArray) ∧ Fr h₀ L h' m ∧ h'.Ns H2.objs.size m' ∧ News h₀ L h' ((s₂.heap.objs.size, lst ys) :: news)) ?_ (ns.length + 1)
      ⟨h₁, _, 0, [], _, rfl, Nat.zero_le _, rfl, .nil, W.frame 0 _ _ ⟨⟨_, X.en⟩, X.li, X.ls⟩ fun b _ o q => old b o q, X.fr.keeps old, hns₁, fun p hp => ?_⟩
    · rintro k s' ⟨h', tk, i, ys, m', rfl, hi, rfl, hys, hst', F', hn', N'⟩
      have hyl : ys.length = i := by rw [hys.length, List.length_take, enumG_length]; omega
      by_cases hlt : i < ns.length
      · refine W.item i _ _ _ hlt hst' fun T vals h₂ tk₂ hPt _ hTup hMid hk₂ => ?_
        obtain ⟨t, x, hx, rfl⟩ := hPt
        obtain ⟨k', t', rfl, hk'⟩ := IntsAre.at hI i x (by simpa using hx)
        refine W.go _ _ _ i T _ _ _ hMid fun h₃ hst₃ hk₃ => ?_
        have hTup₃ : h₃.IsTuple T #[.int (i : Int) t, .int k' t'] := by
          obtain ⟨o, ho, r⟩ := hTup
          exact ⟨o, hk₃ T o (W.apart _ _ _ hMid) ho, r⟩
        have up₃ : ∀ c o, c ≠ e → c ≠ it → h'.get? c = some o → h₃.get? c = some o := fun c o c1 c2 q => hk₃ c o (wr2 c c1 c2) (hk₂ c o (wr2 c c1 c2) q)
        refine kcp_assign (env := compEnvC scope cl H2.objs.size env) hh hTup₃ (lookup_relabel_local hxa) (lookup_relabel_local hxb) (by simp [compEnvC, relabel, hkind]) (hn'.at' fun o q => up₃ _ o (Ne.symm hee.1) (Ne.symm hii.1) q) fun h₄ tk₄ hn₄ hs₄ => ?_
        have up₄ : ∀ c o, c ≠ e → c ≠ it → c ≠ H2.objs.size → h'.get? c = some o → h₄.get? c = some o := fun c o c1 c2 c3 q => hs₄ c o c3 (up₃ c o c1 c2 q)
        have hst₄ := W.frame _ _ _ hst₃ fun c hc o q => hs₄ c o (fun z => hCfp (by have z' : c = H2.objs.size := z; rw [← z']; exact hc)) q
        have F₄ : Fr h₀ L h₄ m := ⟨F'.ns.at' fun o q => up₄ L o (Ne.symm X.eL) (Ne.symm X.iL) (Ne.symm hCL) q, fun c o q => up₄ c o (fun z => by rw [z, X.e0] at q; cases q) (fun z => by rw [z, X.i0] at q; cases q) (fun z => by rw [z, hC₀] at q; cases q) (F'.keep c o q), F'.above⟩
        have N₄ : News h₀ L h₄ ((s₂.heap.objs.size, lst ys) :: news) := fun p hp => by
          have z := N' p hp
          rcases List.mem_cons.mp hp with rfl | hp
          · exact ⟨up₄ _ _ (Ne.symm hee.2) (Ne.symm hii.2) hDC z.1, z.2⟩
          · exact ⟨up₄ _ _ (X.off p hp).1 (X.off p hp).2 (offC p hp) z.1, z.2⟩
        refine elt_ok H2.objs.size _ i k' t t' _ _ _ hn₄ (by simp [hab]) (by simp) fun t'' tk₅ => ?_
        refine append_at (hsz := by show ys.toArray.size ≤ sizeLine; rw [List.size_toArray, hyl]; exact Nat.le_trans hi hsz) (N₄ _ List.mem_cons_self).1 fun h₆ hs₆ hD₆ => ?_
        refine ⟨ns.length + 1 - (i + 1), by omega, h₆, tk₅, i + 1, ys ++ [.int (g (i : Int) k') t''], _, rfl, hlt, rfl, ?_, W.frame _ _ _ hst₄ fun c hc o q => hs₆.extBut c o (fun z => hDfp (z ▸ hc)) q, F₄.change hs₆ hDL hD₀, hn₄.sameBut hs₆ (Ne.symm hDC), fun p hp => ?_⟩
        · have ee := enumG_at g ns 0 i k' hk'
          rw [Nat.zero_add] at ee
          rw [List.take_add_one, ee]
          exact IntsAre.append hys (.cons _ t'' .nil)
        · rcases List.mem_cons.mp hp with rfl | hp
          · exact ⟨hD₆.trans (congrArg some (lst_snoc ys _)), hDL, hD₀⟩
          · exact ⟨hs₆.extBut _ _ (offD p hp) (N₄ p (List.mem_cons_of_mem _ hp)).1, (X.nw p hp).2⟩
      · have hin : i = ns.length := Nat.le_antisymm hi (Nat.not_lt.mp hlt)
        subst hin
        rw [List.take_of_length_le (Nat.le_of_eq (enumG_length g ns 0))] at hys
        refine W.done _ _ _ hst' fun h₂ tk₂ hk₂ => ?_
        have up : ∀ c o, c ≠ e → c ≠ it → h'.get? c = some o → h₂.get? c = some o := fun c o c1 c2 q => hk₂ c o (wr2 c c1 c2) q
        refine hRR _ _ h₂ tk₂ _ ys ⟨F'.ns.at' fun o q => up L o (Ne.symm X.eL) (Ne.symm X.iL) q, fun c o q => up c o (fun z => by rw [z, X.e0] at q; cases q) (fun z => by rw [z, X.i0] at q; cases q) (F'.keep c o q), F'.above⟩ (fun p hp => ?_) off1
          (hn'.at' fun o q => up _ o (Ne.symm hee.1) (Ne.symm hii.1) q) hC₀ hD₀ hCL hDL (Ne.symm hDC) offC hys
        have z := N' p hp
        rcases List.mem_cons.mp hp with rfl | hp
        · exact ⟨up _ _ (Ne.symm hee.2) (Ne.symm hii.2) z.1, z.2⟩
        · exact ⟨up _ _ (X.off p hp).1 (X.off p hp).2 z.1, z.2⟩
    · rcases List.mem_cons.mp hp with rfl | hp
      · exact ⟨hacc, hDL, hD₀⟩
      · exact ⟨old _ _ (X.nw p hp).1, (X.nw p hp).2⟩
  exact codeAny_compStart_list (loop _ rfl) (W.self 0 _ _ _ (W.frame 0 _ _ ⟨⟨_, X.en⟩, X.li, X.ls⟩ fun b _ o q => old b o q) (loop _ rfl))
/-- enumerate is called: what the comprehension behind it asks -/
def EnumSrc (A : Around) (h₀ : Heap) (L : Addr) (m : Str → Option Value) (news : List (Addr × Obj)) (l : Addr) (items : Array Value) (Fin : Shared → Prop) (xv : Value) (s₁ : Shared) : Prop :=
  ∃ e it, xv = .ref e ∧ A.handled = none ∧ EnumAt h₀ s₁.heap L m news e it l items ∧ l < s₁.heap.objs.size ∧ Fin s₁
theorem enum_src {l : Addr} {vs : List Value} {nn : Nat} {news : List (Addr × Obj)} {Fin : Shared → Prop} (hh : A.handled = none) (F : Fr h₀ L s.heap m) (N : News h₀ L s.heap news) (hm : (l, listOf vs.toArray nn) ∈ news)
    (h : ∀ h', Fin { s with heap := h' }) : wpAny (model prog w) A (call (.type "enumerate") [.ref l]) (EnumSrc A h₀ L m news l vs.toArray Fin) E s := by
  have hax := N _ hm
  have hl : s.heap.IsList l vs.toArray := ⟨_, hax.1, rfl, nn, rfl⟩
  have hlt : l < s.heap.objs.size := Heap.lt_size hax.1
  have hL : L < s.heap.objs.size := F.ns.lt
  have none0 : ∀ a, s.heap.objs.size ≤ a → h₀.get? a = none := fun a ha => by
    cases e : h₀.get? a with
    | none => rfl
    | some o' => exact absurd (Nat.lt_of_lt_of_le (Heap.lt_size (F.keep a o' e)) ha) (Nat.lt_irrefl _)
  refine call_enumerate_list hl fun h' hE hI hsz hk => ?_
  have hE' : s.heap.objs.size + 1 ≠ s.heap.objs.size := Nat.succ_ne_self _
  refine ⟨s.heap.objs.size + 1, s.heap.objs.size, rfl, hh, ⟨hE, hI, ⟨_, hk _ _ hax.1, rfl, nn, rfl⟩, F.keeps hk, N.grown hk, hE', Nat.ne_of_lt (Nat.lt_succ_of_lt hlt), Nat.ne_of_lt hlt, none0 _ (Nat.le_succ _), none0 _ (Nat.le_refl _), Nat.ne_of_gt (Nat.lt_succ_of_lt hL), Nat.ne_of_gt hL, fun p hp => ?_⟩, Heap.lt_size (hk _ _ hax.1), h h'⟩
  have := Heap.lt_size (N p hp).1
  exact ⟨Nat.ne_of_lt (Nat.lt_succ_of_lt this), Nat.ne_of_lt this⟩
theorem Assign_enum {elt iter : PySem.Expr} {a b y : Str} {pa pb tp py : Pos} {kk : Nat} {scope : Scope} {cl : List (Str × Addr)} {pos spos : Pos} {l : Addr} {vs : List Value} {ns : List Int} {news : List (Addr × Obj)} {nn : Nat} {Q : Flow → Shared → Prop} (g : Int → Int → Int) (_F : Fr h₀ L s.heap m) (_N : News h₀ L s.heap news) (_hm : (l, listOf vs.toArray nn) ∈ news) (hLe : env.locals = L)
    (hsw : swapsWith (.ListComp elt [⟨.Tuple [.Name a pa, .Name b pb] kk tp, iter, [], 0⟩] scope pos) (some (.Name y py)) spos.line env = pure true)
    (hclos : closureFor scope env = pure cl) (hcell : ∀ z ∈ scope.names, z.2 ≠ .cell) (hkind : scope.kind = .function)
    (hnames : ∀ z ∈ scope.names, z.2 = .local → scope.names.lookup z.1 = some .local) (hxa : scope.names.lookup a = some .local) (hxb : scope.names.lookup b = some .local) (hab : ¬ a = b)
    (hy : env.kindOf y = some .local) (hp : (env.scope.kind == .class || (env.scope.kind == .module && env.locals != env.globals)) = false)
    (hI : IntsAre vs ns) (hsz : ns.length ≤ sizeLine)
    (elt_ok : ∀ (C : Addr) (m₂ : Str → Option Value) (i : Nat) (k : Int) (t t' : Tok) (s' : Shared) (Q' : Value → Shared → Prop) (E' : Value → Shared → Prop), s'.heap.Ns C m₂ → m₂ a = some (.int (i : Int) t) → m₂ b = some (.int k t') →
      (∀ (t'' : Tok) (tk : Nat), Q' (.int (g (i : Int) k) t'') { s' with toks := tk }) → wpAny (model prog w) A (eval elt (compEnvC scope cl C env)) Q' E' s')
    (h : wpAny (model prog w) A (eval iter env) (EnumSrc A h₀ L m news l vs.toArray (fun s₁ => ∀ ys, IntsAre ys (enumG g 0 ns) → FinA h₀ L m s₁ y Q ys news)) E s)
    (hs : ∀ x, foldedSetIterable iter env x = pure x := by intro _; rfl) :
    wpAny (model prog w) A (exec (.Assign [.Name y py] (.ListComp elt [⟨.Tuple [.Name a pa, .Name b pb] kk tp, iter, [], 0⟩] scope pos) spos) env) Q E s := by
  subst hLe
  rw [exec_Assign_Name_used _ _ _ _ hsw]
  refine wpAny_bind (wpAny_standAt (wpAny_bind ?_))
  show wpAny _ A (do let _ ← comprehension (.ListComp elt [⟨.Tuple [.Name a pa, .Name b pb] kk tp, iter, [], 0⟩] scope pos) scope env _ (newList []) false (eval iter env) (some (assign (.Name y py) env))) _ _ s
  refine wpAny_bind (wpAny_mono (wpAny_comprehension_free (use := some (assign (.Name y py) env)) (Q := fun _ s' => Q .next s') rfl hs hclos hkind hnames
    (wpAny_mono h (fun xv s₁ h₁ => ?_) fun _ _ e => e)) (fun _ s' hq => wpAny_pure (wpAny_pure hq)) fun _ _ e => e)
  obtain ⟨e, it, rfl, hh, X, hlt, fin⟩ := h₁
  refine wpAny_pyIter_enum X.en ?_
  refine enum_block g hh X hI hsz hlt hcell hkind hxa hxb hab elt_ok ?_
  intro D C h' tk m' ys F' N' o1 hn hC₀ hD₀ hCL hDL hCD offC hys
  show wpAny _ A (assign (.Name y py) env (.ref D)) _ _ _
  refine wpAny_assign_Name (wpAny_storeName_local hy F'.ns (fun h₂ hn₂ hs₂ => ?_) hp)
  have hL₀ : h₀.get? env.locals = none := Heap.get?_none_of_le F'.above
  have F₂ : Fr h₀ env.locals h₂ (fun z => if z = y then some (.ref D) else m z) := ⟨hn₂, fun b o e => hs₂.extBut b o (fun q => by rw [q, hL₀] at e; cases e) (F'.keep b o e), F'.above⟩
  refine ⟨m', hn.sameBut hs₂ hCL, fun h'' hs'' => fin ys hys D h'' _ (F₂.change hs'' hCL hC₀) (fun p hp => ?_) o1⟩
  have z : h₂.get? p.1 = some p.2 := hs₂.extBut _ _ (N' p hp).2.1 (N' p hp).1
  refine ⟨hs''.extBut _ _ ?_ z, (N' p hp).2⟩
  rcases List.mem_cons.mp hp with rfl | hp
  · exact Ne.symm hCD
  · exact offC p hp
theorem len_cells (f : Int → Int) (n : Nat) : (List.map f (rangeKs 0 ((n : Int) - 0).toNat)).length = n := by
  simp only [List.length_map, rangeKs_length, Int.sub_zero, Int.toNat_natCast]
/-- the law's numbers: each place's own remainder by sixteen -/
def Drawn (zs : List Int) : Prop := ∀ i, i < zs.length → (zs.getD i 0) % 16 = (i : Int)
theorem drawn_of {ns : List Int} (h : ns.length ≤ 10) : Drawn (enumG (fun i k => 16 * Int.fmod k 40 + i) 0 ns) := by
  intro i hi
  rw [enumG_length] at hi
  have e := enumG_at (fun i k => 16 * Int.fmod k 40 + i) ns 0 i _ (List.getElem?_eq_getElem hi)
  rw [List.getD_eq_getElem?_getD, e]
  simp only [Option.getD_some, Nat.zero_add]
  omega
theorem Assign_drawn {elt iter : PySem.Expr} {a b y : Str} {pa pb tp py : Pos} {kk : Nat} {scope : Scope} {cl : List (Str × Addr)} {pos spos : Pos} {l : Addr} {vs : List Value} {ns : List Int} {news : List (Addr × Obj)} {nn n : Nat} {Q : Flow → Shared → Prop} (F : Fr h₀ L s.heap m) (N : News h₀ L s.heap news) (hm : (l, listOf vs.toArray nn) ∈ news) (hLe : env.locals = L)
    (hsw : swapsWith (.ListComp elt [⟨.Tuple [.Name a pa, .Name b pb] kk tp, iter, [], 0⟩] scope pos) (some (.Name y py)) spos.line env = pure true)
    (hclos : closureFor scope env = pure cl) (hcell : ∀ z ∈ scope.names, z.2 ≠ .cell) (hkind : scope.kind = .function)
    (hnames : ∀ z ∈ scope.names, z.2 = .local → scope.names.lookup z.1 = some .local) (hxa : scope.names.lookup a = some .local) (hxb : scope.names.lookup b = some .local) (hab : ¬ a = b)
    (hy : env.kindOf y = some .local) (hp : (env.scope.kind == .class || (env.scope.kind == .module && env.locals != env.globals)) = false)
    (hI : IntsAre vs ns) (hn : ns.length = n) (h10 : n ≤ 10)
    (elt_ok : ∀ (C : Addr) (m₂ : Str → Option Value) (i : Nat) (k : Int) (t t' : Tok) (s' : Shared) (Q' : Value → Shared → Prop) (E' : Value → Shared → Prop), s'.heap.Ns C m₂ → m₂ a = some (.int (i : Int) t) → m₂ b = some (.int k t') →
      (∀ (t'' : Tok) (tk : Nat), Q' (.int (16 * Int.fmod k 40 + (i : Int)) t'') { s' with toks := tk }) → wpAny (model prog w) A (eval elt (compEnvC scope cl C env)) Q' E' s')
    (h : wpAny (model prog w) A (eval iter env) (EnumSrc A h₀ L m news l vs.toArray (fun s₁ => ∀ ys zs, IntsAre ys zs → zs.length = n → Drawn zs → FinA h₀ L m s₁ y Q ys news)) E s)
    (hs : ∀ x, foldedSetIterable iter env x = pure x := by intro _; rfl) :
    wpAny (model prog w) A (exec (.Assign [.Name y py] (.ListComp elt [⟨.Tuple [.Name a pa, .Name b pb] kk tp, iter, [], 0⟩] scope pos) spos) env) Q E s := by
  refine Assign_enum (fun i k => 16 * Int.fmod k 40 + i) F N hm hLe hsw hclos hcell hkind hnames hxa hxb hab hy hp hI (by rw [hn, sizeLine_eq]; omega) elt_ok (wpAny_mono h (fun xv s₁ h₁ => ?_) fun _ _ e => e) hs
  obtain ⟨e, it, rfl, hh, X, hlt, fin⟩ := h₁
  exact ⟨e, it, rfl, hh, X, hlt, fun ys hys => fin ys _ hys (by rw [enumG_length, hn]) (drawn_of (by omega))⟩
theorem slice_whole {value slice : PySem.Expr} {l : Addr} {vs : List Value} {ns : List Int} {Q : Value → Shared → Prop} {news : List (Addr × Obj)} (F : Fr h₀ L s.heap m) (N : News h₀ L s.heap news) (hl : s.heap.IsList l vs.toArray) (hi' : IntsAre vs ns) (hsz : ns.length ≤ 10)
    (h : ∀ D ws h', Fr h₀ L h' m → News h₀ L h' ((D, listOf (List.toArray ws) 0) :: news) → (∀ p ∈ news, p.1 < D) → IntsAre ws ns → Q (.ref D) { s with heap := h' })
    (hs : subscripted slice false (.ref l) (.ref s.heap.objs.size) = operate [.ref s.heap.objs.size, .ref l] (getItem (.ref l) (.ref s.heap.objs.size))) (ht : ∀ r, letTemporaryGo value (.ref l) r = pure ()) :
    wpAny (model prog w) A (subscriptTail value slice (.ref l) (.ref s.heap.objs.size)) Q E { s with heap := s.heap.push { cls := .type "slice", data := .fields #[.none, .none, .none] } } :=
  kmk_slice_ints (lo := none) (hi := none) F N hl .none .none hi' (kmk_all hi') rfl (fun D ws h' F' N' l1 hI _ _ => h D ws h' F' N' l1 hI) hs ht (by rw [List.size_toArray, hi'.length, sizeLine_eq]; omega)
end
end Ec
section Sl
open PySem PySem.W PyProof.Rows PySem.Spec PySem.Calls
set_option maxRecDepth 100000
section
variable {prog : Program} {w : World} {A : Around} {E : Value → Shared → Prop} {s : Shared} {h₀ : Heap} {L : Addr} {m : Str → Option Value} {news : List (Addr × Obj)}
theorem slice_ints3 {value slice : PySem.Expr} {l : Addr} {vs : List Value} {ns : List Int} {vl vu vk : Value} {lo hi st : Option Int} {ops : List Value} {Q : Value → Shared → Prop}
    (F : Fr h₀ L s.heap m) (N : News h₀ L s.heap news) (hl : s.heap.IsList l vs.toArray) (hi' : IntsAre vs ns) (pl : IsPart vl lo) (pu : IsPart vu hi) (pk : IsPart vk st) (h0 : st ≠ some 0)
    (h : ∀ D ws h', Fr h₀ L h' m → News h₀ L h' ((D, listOf (List.toArray ws) 0) :: news) → (∀ p ∈ news, p.1 < D) → IntsAre ws (pickNums ns lo hi st) → Q (.ref D) { s with heap := h' })
    (hs : subscripted slice false (.ref l) (.ref s.heap.objs.size) = operate ops (getItem (.ref l) (.ref s.heap.objs.size))) (ht : ∀ r, letTemporaryGo value (.ref l) r = pure ()) (hz : vs.toArray.size ≤ sizeLine) :
    wpAny (model prog w) A (subscriptTail value slice (.ref l) (.ref s.heap.objs.size)) Q E { s with heap := s.heap.push { cls := .type "slice", data := .fields #[vl, vu, vk] } } := by
  refine slice_list3 F N hl pl pu pk h0 (fun h' F' N' => h _ (slicePick vs.toArray lo hi st).toList h' F' ?_ (fun p hp => Nat.lt_succ_of_lt (Heap.lt_size (N p hp).1)) (hi'.pick lo hi st)) hs ht hz
  rw [Array.toArray_toList]
  exact N'
theorem mem_two {k : Int} {a b z : List Int} (h : k ∈ a) (h1 : a.Perm z) (h2 : b.Perm z) : k ∈ b := h2.mem_iff.mpr (h1.mem_iff.mp h)
open PySem.SeqAt in
theorem index_small {l : Addr} {vs : List Value} {ns : List Int} {k : Int} {t : Tok} {Q : Value → Shared → Prop} (hl : s.heap.IsList l vs.toArray) (hi : IntsAre vs ns) (h10 : ns.length ≤ 10) (hk : k ∈ ns) (h : Q (.int (ns.idxOf k : Nat) s.toks) { s with toks := s.toks + 1 }) :
    wpAny (model prog w) A (call (.builtin "list.index") [.ref l, .int k t]) Q E s := by
  obtain ⟨⟨cls, dd, data, sl⟩, ho, hc, n, hd⟩ := id hl
  simp only at hc hd
  subst hc hd
  have hlen := hi.length
  have hj : ns.idxOf k < ns.length := List.idxOf_lt_length_iff.mpr hk
  refine call_meets PySem.F.slot_list_index ⟨_, ho, rfl⟩ PySem.F.entry_list_index (PySem.F.args_list_index_2 _ _)
    (list_indexAt l vs.toArray n dd sl (.int k t) (isInt k) (ns.idxOf k) (by simpa [hlen] using hj) (by omega) ?_ ?_) ⟨ho, fun y hy => (eq_isInt k t hi y (by simpa using hy)).at _ _, h⟩
  · show isInt k vs[ns.idxOf k] = true
    rw [isInt_at k hi _ (by omega) hj]
    simpa using List.getElem_idxOf hj
  · intro j hjs hlt
    show isInt k vs[j] = false
    rw [isInt_at k hi j (by simpa using hjs) (by omega)]
    exact ne_of_lt_idxOf hlt _
theorem floordiv_two {a : Int} {t u : Tok} {Q : Value → Shared → Prop} (h : Q (.int (a / 2) s.toks) { s with toks := s.toks + 1 }) : wpAny (model prog w) A (binaryOp .FloorDiv (.int a t) (.int 2 u)) Q E s := by
  refine floordiv_int (by decide) ?_
  rw [Int.fdiv_eq_ediv_of_nonneg _ (by decide)]
  exact h
/-- a remainder by eight, as a letter -/
theorem mod_eight {a : Int} {t u : Tok} {Q : Value → Shared → Prop} (h : ∀ k : Nat, k < 8 → Q (.int (k : Int) s.toks) { s with toks := s.toks + 1 }) : wpAny (model prog w) A (binaryOp .Mod (.int a t) (.int 8 u)) Q E s := by
  refine mod_int' (by decide) ?_
  have h1 : 0 ≤ a.fmod 8 := Int.fmod_nonneg_of_pos _ (by decide)
  have h2 : a.fmod 8 < 8 := Int.fmod_lt_of_pos _ (by decide)
  have := h (a.fmod 8).toNat (by omega)
  rw [Int.toNat_of_nonneg h1] at this
  exact this
theorem add_three {k : Nat} {t u : Tok} {Q : Value → Shared → Prop} (hk : k < 8) (h : ∀ n : Nat, 3 ≤ n → n ≤ 10 → Q (.int (n : Int) s.toks) { s with toks := s.toks + 1 }) : wpAny (model prog w) A (binaryOp .Add (.int 3 t) (.int (k : Int) u)) Q E s := by
  refine add_int ?_
  have := h (3 + k) (by omega) (by omega)
  rw [show ((3 + k : Nat) : Int) = 3 + (k : Int) by omega] at this
  exact this
end
/-- two addresses differ; hidden from omega -/
structure Off (a b : Nat) : Prop where
  ne : a ≠ b
theorem Off.ne' {a b : Nat} (h : Off b a) : a ≠ b := h.ne.symm
/-- the walk rests here -/
structure Stop (P : Prop) : Prop where
  go : P
end Sl
section R0
open PySem PySem.W PyProof.Rows
/-- one turn of the law's run: the least goes, a newcomer comes -/
def stp (g : List Int × List Int) (c : Int) : List Int × List Int := (g.1 ++ [g.2.getD 0 0], hrp lo g.2 c)
def stm (g : List Int × List Int) (c : Int) : List Int × List Int := (g.1 ++ [-(g.2.getD 0 0)], hrp hi g.2 (-c))
/-- a call that makes a pair of a bool and a list of ints -/
def RunsTo (w : World) (f : Addr) (args : List Value) (size : Nat) (news : Led) (b : Bool) (xs : List Int) : Prop :=
  ∀ (dp un : Nat) (gd : Option (List Code)) (cn : Str) (cs : Scope) (a : Addr) (ccd : Value) (cl : List (Str × Addr)) (outer : List Env) (A₀ : Around) (base h₀ : Heap) (L : Addr) (m : Str → Option Value) (s : Shared) (mean : ExcName → Option Value) (mg mb : Str → Option Value)
    (Q E : Value → Shared → Prop),
    Below A₀ base outer h₀ → Fr h₀ L s.heap m → (hd.heap_39 w.params).In h₀ → News h₀ L s.heap news → Top hd.view_39 (looseW hd.view_39 []) mean mg mb h₀ → cs.kind = .function → dp + size < recursionLimit → un + 8 * size < cLine →
    (∀ ta la vs n h' tk', Fr h₀ L h' m → News h₀ L h' ((ta, { cls := .type "tuple", data := .seq #[.bool b, .ref la] }) :: (la, listOf (List.toArray vs) n) :: news) → LCg.Off1 la news → AllLt ta news → @LT.lt Nat _ la ta → IntsAre vs xs → Q (.ref ta) { s with heap := h', toks := tk' }) →
    wpAny (model PySem.Challenge.rw_sc0014_01.row.prog w) (ktrTop dp un gd cn cs L a ccd cl outer) (call (.ref f) args) Q E s
theorem off_of {d : Addr} : ∀ {l : Led}, AllLt d l → ∀ p ∈ l, p.1 ≠ d
  | [], _, _, h => nomatch h
  | q :: r, x, p, h => by
    rcases List.mem_cons.mp h with rfl | h
    · exact Nat.ne_of_lt x.1
    · exact off_of x.2 p h
theorem off_lt {a d : Addr} {l : Led} (h : ∀ p ∈ l, p.1 < a) (e : @LE.le Nat _ a d) : ∀ p ∈ l, p.1 ≠ d := fun p hp => Nat.ne_of_lt (Nat.lt_of_lt_of_le (h p hp) e)
theorem off1_of {d : Addr} : ∀ {l : Led}, LCg.Off1 d l → ∀ p ∈ l, p.1 ≠ d
  | [], _, _, h => nomatch h
  | q :: r, x, p, h => by
    rcases List.mem_cons.mp h with rfl | h
    · exact x.1
    · exact off1_of x.2 p h
theorem stp_snoc {pre : List Int} {n : Int} {r heap gone : List Int} (h : (gone, heap) = pre.foldl stp ([], r)) : (gone ++ [heap.getD 0 0], hrp lo heap n) = (pre ++ [n]).foldl stp ([], r) := by
  rw [List.foldl_append, ← h]; rfl
theorem stm_snoc {pre : List Int} {n : Int} {r heap gone : List Int} (h : (gone, heap) = pre.foldl stm ([], r)) : (gone ++ [-(heap.getD 0 0)], hrp hi heap (-n)) = (pre ++ [n]).foldl stm ([], r) := by
  rw [List.foldl_append, ← h]; rfl
theorem hrp_length {lt : Int → Int → Bool} {h : List Int} {x : Int} (h0 : 0 < h.length) : (hrp lt h x).length = h.length := by
  unfold hrp; rw [sup_length _ _ _ (by rw [List.length_set]; exact h0), List.length_set]
theorem map_one (r : List Int) : List.map (fun k => 1 * k) r = r := by
  have : (fun k : Int => 1 * k) = id := by funext k; simp
  rw [this, List.map_id]
theorem size_of_ints {vs : List Value} {ns : List Int} (h : IntsAre vs ns) (e : ns.length ≤ 100) : vs.toArray.size ≤ sizeLine := by
  rw [List.size_toArray, h.length, sizeLine_eq]; omega
/-- what holds of the run between the turns -/
def RunInv (st : List Int × List Int → Int → List Int × List Int) (r pre heap gone : List Int) : Prop := (gone, heap) = pre.foldl st ([], r) ∧ heap.length = r.length ∧ gone.length = pre.length
theorem run_start {st : List Int × List Int → Int → List Int × List Int} {r : List Int} : RunInv st r [] r [] := ⟨rfl, rfl, rfl⟩
theorem run_turn {pre heap gone r : List Int} {n : Int} (h0 : 0 < r.length) (h : RunInv stp r pre heap gone) : RunInv stp r (pre ++ [n]) (hrp lo heap n) (gone ++ [heap.getD 0 0]) :=
  ⟨stp_snoc h.1, (hrp_length (by rw [h.2.1]; exact h0)).trans h.2.1, by rw [List.length_append, List.length_append, h.2.2]; rfl⟩
theorem run_turnM {pre heap gone r : List Int} {n : Int} (h0 : 0 < r.length) (h : RunInv stm r pre heap gone) : RunInv stm r (pre ++ [n]) (hrp hi heap (-n)) (gone ++ [-(heap.getD 0 0)]) :=
  ⟨stm_snoc h.1, (hrp_length (by rw [h.2.1]; exact h0)).trans h.2.1, by rw [List.length_append, List.length_append, h.2.2]; rfl⟩
theorem run_len {st : List Int × List Int → Int → List Int × List Int} {pre heap gone r c post : List Int} {n : Int} (h : RunInv st r pre heap gone) (e : c = pre ++ n :: post) (h3 : c.length ≤ 11) : heap.length = r.length ∧ gone.length ≤ 11 := by
  have : c.length = pre.length + (post.length + 1) := by rw [e, List.length_append, List.length_cons]
  exact ⟨h.2.1, by rw [h.2.2]; omega⟩
theorem run_startC {st : List Int × List Int → Int → List Int × List Int} {r : List Int} : RunInv st r [] r [] ∧ r.length = r.length := ⟨run_start, rfl⟩
theorem run_turnC {pre heap gone r : List Int} {n : Int} (h0 : 0 < r.length) (h : RunInv stp r pre heap gone) : RunInv stp r (pre ++ [n]) (hrp lo heap n) (gone ++ [heap.getD 0 0]) ∧ (hrp lo heap n).length = r.length := ⟨run_turn h0 h, (run_turn h0 h).2.1⟩
theorem run_turnMC {pre heap gone r : List Int} {n : Int} (h0 : 0 < r.length) (h : RunInv stm r pre heap gone) : RunInv stm r (pre ++ [n]) (hrp hi heap (-n)) (gone ++ [-(heap.getD 0 0)]) ∧ (hrp hi heap (-n)).length = r.length := ⟨run_turnM h0 h, (run_turnM h0 h).2.1⟩
theorem range_map (n : Nat) : List.map (fun k : Int => k) (rangeKs 0 ((n : Int) - 0).toNat) = (List.range n).map fun (i : Nat) => (i : Int) := by
  simp [rangeKs]
theorem run_told {st : List Int × List Int → Int → List Int × List Int} {gone heap r c : List Int} (h : RunInv st r c heap gone) :
    decide (gone = List.map (fun k => k) (rangeKs 0 ((c.length : Int) - 0).toNat)) = decide ((c.foldl st ([], r)).1 = (List.range c.length).map fun (i : Nat) => (i : Int)) := by
  rw [range_map, ← h.1]
theorem run_out {st : List Int × List Int → Int → List Int × List Int} {gone heap r c : List Int} {ys : List Value} (h : RunInv st r c heap gone) (hI : IntsAre ys (List.map (fun k => 1 * k - (c.length : Int)) heap)) :
    IntsAre ys ((c.foldl st ([], r)).2.map fun v => v - (c.length : Int)) := by
  rw [← h.1]
  have : (fun k : Int => 1 * k - (c.length : Int)) = fun v => v - (c.length : Int) := by funext k; rw [Int.one_mul]
  rw [this] at hI
  exact hI
theorem run_outM {st : List Int × List Int → Int → List Int × List Int} {gone heap r c : List Int} {ys : List Value} (h : RunInv st r c heap gone) (hI : IntsAre ys (List.map (fun k => -1 * k - (c.length : Int)) heap)) :
    IntsAre ys ((c.foldl st ([], r)).2.map fun v => -1 * v - (c.length : Int)) := by
  rw [← h.1]
  exact hI
theorem sub7 {α : Type} {p a b c d e f g : α} {l : List α} (h : p ∈ a :: b :: l) : p ∈ a :: b :: c :: d :: e :: f :: g :: l := by
  rcases List.mem_cons.mp h with rfl | h
  · exact .head _
  rcases List.mem_cons.mp h with rfl | h
  · exact .tail _ (.head _)
  exact .tail _ (.tail _ (.tail _ (.tail _ (.tail _ (.tail _ (.tail _ h))))))
theorem run_startM {f : Int → Int} {r : List Int} : RunInv stm (r.map f) [] (r.map f) [] ∧ (r.map f).length = r.length := ⟨run_start, List.length_map ..⟩
theorem run_turnMM {f : Int → Int} {pre heap gone r : List Int} {n : Int} (h0 : 0 < r.length) (h : RunInv stm (r.map f) pre heap gone) : RunInv stm (r.map f) (pre ++ [n]) (hrp hi heap (-n)) (gone ++ [-(heap.getD 0 0)]) ∧ (hrp hi heap (-n)).length = r.length :=
  have q := run_turnM (by rw [List.length_map]; exact h0) h
  ⟨q, q.2.1.trans (List.length_map ..)⟩
theorem run_lt {pre heap g r c post : List Int} {n : Int} (h : RunInv stp r pre heap g) (e : c = pre ++ n :: post) (H : ∀ pre x post g heap, c = pre ++ x :: post → RunInv stp r pre heap g → heap.getD 0 0 < x) : heap.getD 0 0 < n := H _ _ _ _ _ e h
end R0
section Cb
open PySem PySem.W PyProof.Rows PySem.Spec PySem.Calls
set_option maxRecDepth 100000
/-- an element that is True -/
def KTrueEl (news : List (Addr × Obj)) (y : Value) (news' : List (Addr × Obj)) : Prop := news' = news ∧ y = .bool true
section
variable {prog : Program} {w : World} {A : Around} {E : Value → Shared → Prop} {h₀ : Heap} {L : Addr} {m : Str → Option Value} {env : Env} {elt : PySem.Expr} {x : Str} {scope : Scope} {cl : List (Str × Addr)} {s : Shared} {S : List (Addr × Obj) → Prop} {P : Nat → Value → Prop} {Fin : List Value → List (Addr × Obj) → Prop} {news : List (Addr × Obj)}
theorem bools_snoc : ∀ {ys : List Value} {i : Nat}, LSm.BoolsAre ys (List.replicate i true) → LSm.BoolsAre (ys ++ [.bool true]) (List.replicate (i + 1) true)
  | [], 0, _ => .cons true .nil
  | _ :: _, i + 1, .cons _ r => .cons true (bools_snoc r)
theorem kcb_range {n : Nat} {a : Int}
    (turn : ∀ k t I oI C oC D m₂ ys h tk (E' : Value → Shared → Prop), a ≤ k → k < a + (n : Int) → LCg.NsObj oC m₂ → m₂ x = some (.int k t) → Fr h₀ L h m → News h₀ L h ((I, oI) :: (C, oC) :: (D, LCg.lst ys) :: news) → LCg.Off3 I C D news →
      wpAny (model prog w) A (eval elt (compEnvC scope cl C env)) (LCg.CompEnd h₀ L m { s with heap := h, toks := tk } I oI C oC D (LCg.lst ys) S (fun y news' => KTrueEl news y news')) E' { s with heap := h, toks := tk })
    (fin : ∀ ys, LSm.BoolsAre ys (List.replicate n true) → Fin ys news) : LCg.CompRest prog w A h₀ L m env elt x scope cl s S (fun i v => ∃ t, v = .int (a + (i : Int)) t) Fin n 0 [] news := by
  have key : ∀ (j i : Nat) (ys : List Value), i + j = n → LSm.BoolsAre ys (List.replicate i true) → LCg.CompRest prog w A h₀ L m env elt x scope cl s S (fun i v => ∃ t, v = .int (a + (i : Int)) t) Fin j i ys news := by
    intro j
    induction j with
    | zero =>
      intro i ys hi hy
      have e : i = n := by omega
      subst e
      exact LCg.CompRest.zero (fin ys hy)
    | succ j ih =>
      intro i ys hi hy
      refine LCg.CompRest.succ ?_
      intro v I oI C oC D m₂ h tk E' hv hC hx F N off ne
      obtain ⟨t, rfl⟩ := hv
      refine wpAny_mono (turn (a + (i : Int)) t I oI C oC D m₂ ys h tk E' (by omega) (by omega) hC hx F N off) (fun y s₂ hq => ?_) fun _ _ e => e
      obtain ⟨h', tk', nw, e, F', N', off', hS, hn, hy'⟩ := hq
      rw [hn] at N' off' hS
      refine ⟨h', tk', news, e, F', N', off', hS, ?_⟩
      rw [hy']
      exact ih (i + 1) _ (by omega) (bools_snoc hy)
  exact key n 0 [] (by omega) .nil
theorem true_end {I C D : Addr} {oI oC oD : Obj} {b : Bool} {h' : Heap} {tk : Nat} {s₁ : Shared} (F : Fr h₀ L h' m) (N : News h₀ L h' ((I, oI) :: (C, oC) :: (D, oD) :: news)) (off : LCg.Off3 I C D news) (hS : S news) (e : b = true) :
    LCg.CompEnd h₀ L m s₁ I oI C oC D oD S (fun y news' => KTrueEl news y news') (.bool b) { s₁ with heap := h', toks := tk } := ⟨h', tk, news, rfl, F, N, off, hS, rfl, by rw [e]⟩
theorem all_true {l : Addr} {vs : List Value} {n : Nat} {Q : Value → Shared → Prop} (F : Fr h₀ L s.heap m) (N : News h₀ L s.heap news) (hh : A.handled = none) (hl : s.heap.IsList l vs.toArray) (hb : LSm.BoolsAre vs (List.replicate n true))
    (h : ∀ h' tk, Fr h₀ L h' m → News h₀ L h' news → Q (.bool true) { s with heap := h', toks := tk }) : wpAny (model prog w) A (call (.builtin "all") [.ref l]) Q E s := by
  refine LSm.all_bools F N hh hl hb fun h' tk F' N' => ?_
  have : (List.replicate n true).all id = true := by simp
  rw [this]
  exact h h' tk F' N'
theorem heap_lt {fst : List Int} {n : Nat} {k : Int} (H : RH fst) (hl : fst.length = n) (h1 : 1 ≤ k) (h2 : k < 1 + (((n : Int) - 1).toNat : Int)) : decide (fst.getD ((k - 1) / 2).toNat 0 < fst.getD k.toNat 0) = true := by
  have := H.heap k.toNat (by omega) (by omega)
  have e : ((k - 1) / 2).toNat = (k.toNat - 1) / 2 := by omega
  rw [e]
  exact decide_eq_true this
end
end Cb
section Pl6
/-! the runs on labels -/
theorem pr_zero {r : List Int} (H : RH r) (h0 : 0 < r.length) : pr 0 r = r := by
  have hz := root_zero H h0
  have stop : sl (gok 0) r 0 = (r, 0) := by
    rw [sl]
    by_cases hc : 2 * 0 + 1 < r.length
    · rw [dif_pos hc]
      have hk := kid_lt lo r (2 * 0 + 1) hc
      have hp := kid_par hc
      have g := kid_gt (l := r) (q := 0)
      generalize kid lo r (2 * 0 + 1) = c at *
      have := H.heap c (by omega) hk
      rw [hp, hz] at this
      have a : ¬ gok 0 (r.getD c 0) = true := fun z => by
        have := of_decide_eq_true z
        omega
      rw [if_neg a]
    · rw [dif_neg hc]
  unfold pr
  rw [stop]
  refine gd_ext (by simp) fun p hp => ?_
  have hp' : p < r.length := by simpa using hp
  by_cases e : 0 = p
  · subst e
    rw [gd_set_eq (by simpa using h0), hz]; rfl
  · rw [gd_set_ne e, gd_map hp']
    have := H.heap p (by omega) hp'
    have := (H.rng ((p - 1) / 2) (by omega)).1
    unfold dec
    rw [if_neg (by omega)]
theorem asc_RH {r : List Int} (H : RH r) : ∀ k, k < r.length → RH (asc tog k r) ∧ (asc tog k r).length = r.length := by
  intro k
  induction k with
  | zero => intro _; exact ⟨H, rfl⟩
  | succ k ih =>
    intro hk
    obtain ⟨h1, h2⟩ := ih (by omega)
    exact ⟨tog_RH h1 (by rw [h2]; exact hk), (tog_length _ _).trans h2⟩
theorem pr_asc {r : List Int} (H : RH r) : ∀ k, k < r.length → pr k r = asc tog k r := by
  intro k
  induction k with
  | zero => intro h; exact pr_zero H h
  | succ k ih =>
    intro hk
    rw [pr_succ H hk, ih (by omega)]
    rfl
/-- the newcomer X on the heap that bears g of the labels -/
theorem hrp_pr {r : List Int} {g g' : Int → Int} {X : Int} {k : Nat} (H : RH r) (h0 : 0 < r.length) (hg : ∀ u v, g u < g v ↔ u < v) (hX : ∀ v, g v < X ↔ v ≤ (k : Int)) (hne : ∀ v, v < (r.length : Int) → g v ≠ X) (hd : ∀ v, g' (dec k v) = g v) (hk : g' (k : Int) = X) :
    hrp lo (r.map g) X = (pr k r).map g' := by
  have hl : (r.map g).length = r.length := List.length_map ..
  have h0' : 0 < ((r.map g).set 0 X).length := by rw [List.length_set, hl]; exact h0
  have x0 : ((r.map g).set 0 X).getD 0 0 = X := gd_set_eq (by rw [hl]; exact h0)
  have hO : Ord ((r.map g).set 0 X) 0 := by
    intro p h1 h2
    rw [List.length_set, hl] at h2
    rw [gd_set_ne (by omega), gd_set_ne (by omega), gd_map (by omega), gd_map h2]
    exact (hg _ _).mpr (H.heap p (by omega) h2)
  have hN : ∀ p, 0 < p → p < ((r.map g).set 0 X).length → ((r.map g).set 0 X).getD p 0 ≠ ((r.map g).set 0 X).getD 0 0 := by
    intro p h1 h2
    rw [List.length_set, hl] at h2
    rw [x0, gd_set_ne (by omega), gd_map h2]
    exact hne _ (H.rng p h2).2
  have hs := sup_slide h0' hO hN
  rw [x0] at hs
  unfold hrp
  rw [hs, sl_hole, sl_map hg (go := gok k) (fun v => by
    unfold gok
    by_cases z : v ≤ (k : Int)
    · rw [decide_eq_true z, decide_eq_true ((hX v).mpr z)]
    · rw [decide_eq_false z, decide_eq_false (fun y => z ((hX v).mp y))]) _ r 0 (Nat.le_refl _)]
  unfold pr
  dsimp only
  rw [List.map_set, List.map_map, hk]
  have : (g' ∘ dec k) = g := by funext v; exact hd v
  rw [this]
end Pl6
section Pl7
noncomputable def evac (r : List Int) : List Int := ev tog (r.length - 1) r
/-- the falling newcomers, and what the heap bears while they come -/
def comersF (n : Nat) (b : Int) : Nat → List Int
  | 0 => []
  | k + 1 => ((k : Int) + (n : Int) + b) :: comersF n b k
def gF (n k : Nat) (b v : Int) : Int := if v < (k : Int) then v + ((n : Int) - (k : Int)) + b else v + (n : Int) + b
noncomputable def evp : Nat → List Int → List Int
  | 0, r => r
  | k + 1, r => evp k (asc tog k r)
theorem evp_ev : ∀ (k : Nat) (r : List Int), evp (k + 1) r = ev tog k r := by
  intro k
  induction k with
  | zero => intro r; rfl
  | succ k ih => intro r; exact ih (asc tog (k + 1) r)
def Good : List Int → List Int → Prop
  | _, [] => True
  | h, c :: cs => h.getD 0 0 < c ∧ Good (hrp lo h c) cs
theorem fall_step {n k : Nat} {b : Int} {r : List Int} (H : RH r) (hl : r.length = n) (hk : k < n) :
    hrp lo (r.map (gF n (k + 1) b)) ((k : Int) + (n : Int) + b) = (asc tog k r).map (gF n k b) ∧ (r.map (gF n (k + 1) b)).getD 0 0 = ((n : Int) - ((k + 1 : Nat) : Int)) + b := by
  constructor
  · rw [← pr_asc H k (by omega)]
    refine hrp_pr H (by omega) ?_ ?_ ?_ ?_ ?_
    · intro u v; unfold gF; split <;> split <;> omega
    · intro v; unfold gF; split <;> omega
    · intro v _; unfold gF; split <;> omega
    · intro v; unfold gF dec; repeat' split
      all_goals omega
    · unfold gF; rw [if_neg (by omega)]
  · rw [gd_map (by omega), root_zero H (by omega)]
    unfold gF
    rw [if_pos (by omega)]
    omega
theorem range_cons (k : Nat) (f : Nat → Int) : (List.range (k + 1)).map f = f 0 :: (List.range k).map fun i => f (i + 1) := by
  rw [List.range_succ_eq_map, List.map_cons, List.map_map]; rfl
theorem fall_run {n : Nat} {b : Int} : ∀ (k : Nat) (r G : List Int), RH r → r.length = n → k ≤ n →
    (comersF n b k).foldl stp (G, r.map (gF n k b)) = (G ++ (List.range k).map (fun (i : Nat) => ((n : Int) - (k : Int)) + b + (i : Int)), (evp k r).map fun v => v + (n : Int) + b) ∧ (evp k r).length = n ∧ RH (evp k r) ∧ Good (r.map (gF n k b)) (comersF n b k) := by
  intro k
  induction k with
  | zero =>
    intro r G H hl hk
    refine ⟨?_, hl, H, trivial⟩
    show (G, r.map (gF n 0 b)) = _
    refine Prod.ext (by simp) ?_
    show r.map (gF n 0 b) = r.map _
    refine List.map_congr_left fun v hv => ?_
    obtain ⟨i, hi, e⟩ := List.getElem_of_mem hv
    have := (H.rng i hi).1
    rw [List.getD_eq_getElem?_getD, List.getElem?_eq_getElem hi] at this
    simp only [Option.getD_some, e] at this
    unfold gF
    rw [if_neg (by omega)]
  | succ k ih =>
    intro r G H hl hk
    obtain ⟨s1, s2⟩ := fall_step (b := b) H hl (by omega : k < n)
    obtain ⟨H', hl'⟩ := asc_RH H k (by omega)
    obtain ⟨e, l, R, good⟩ := ih (asc tog k r) (G ++ [((n : Int) - ((k + 1 : Nat) : Int)) + b]) H' (hl'.trans hl) (by omega)
    refine ⟨?_, l, R, ?_, by rw [s1]; exact good⟩
    · show (comersF n b k).foldl stp (stp (G, r.map (gF n (k + 1) b)) ((k : Int) + (n : Int) + b)) = _
      have : stp (G, r.map (gF n (k + 1) b)) ((k : Int) + (n : Int) + b) = (G ++ [((n : Int) - ((k + 1 : Nat) : Int)) + b], (asc tog k r).map (gF n k b)) := by
        unfold stp; dsimp only; rw [s1, s2]
      rw [this, e, range_cons, List.append_assoc]
      refine Prod.ext ?_ rfl
      show G ++ ([_] ++ _) = G ++ _
      congr 1
      show _ :: _ = _ :: _
      congr 1
      · omega
      · refine List.map_congr_left fun i _ => ?_
        omega
    · rw [s2]; omega
theorem map_lt {r : List Int} {f g : Int → Int} (H : RH r) (h : ∀ v, v < (r.length : Int) → f v = g v) : r.map f = r.map g := by
  refine List.map_congr_left fun v hv => ?_
  obtain ⟨i, hi, e⟩ := List.getElem_of_mem hv
  have := (H.rng i hi).2
  rw [List.getD_eq_getElem?_getD, List.getElem?_eq_getElem hi] at this
  simp only [Option.getD_some, e] at this
  exact h v this
theorem fall_all {r : List Int} {n : Nat} (H : RH r) (hl : r.length = n) (h1 : 1 ≤ n) :
    (comersF n 0 n).foldl stp ([], r) = ((List.range n).map (fun (i : Nat) => (i : Int)), (evac r).map fun v => v + (n : Int)) ∧ (evac r).length = n ∧ RH (evac r) := by
  obtain ⟨e, l, R, _⟩ := fall_run (b := 0) n r [] H hl (Nat.le_refl _)
  have hm : r.map (gF n n 0) = r := by
    have : r.map (gF n n 0) = r.map id := map_lt H fun v hv => by
      unfold gF; rw [if_pos (by omega)]; show _ = v; omega
    rw [this, List.map_id]
  have he : evp n r = evac r := by
    obtain ⟨k, rfl⟩ : ∃ k, n = k + 1 := ⟨n - 1, by omega⟩
    rw [evp_ev]; unfold evac; rw [hl]; rfl
  rw [hm, he] at e
  rw [he] at l R
  refine ⟨?_, l, R⟩
  rw [e]
  refine Prod.ext ?_ ?_
  · show [] ++ _ = _
    rw [List.nil_append]
    exact List.map_congr_left fun i _ => by omega
  · exact List.map_congr_left fun i _ => by omega
/-- one promotion -/
noncomputable def prom (r : List Int) : List Int := asc tog (r.length - 1) r
theorem prom_step {r : List Int} {n : Nat} {s : Int} (H : RH r) (hl : r.length = n) (h1 : 1 ≤ n) :
    hrp lo (r.map fun v => v + s) ((n : Int) + s) = (prom r).map (fun v => v + (s + 1)) ∧ (r.map fun v => v + s).getD 0 0 = s ∧ RH (prom r) ∧ (prom r).length = n := by
  obtain ⟨H', hl'⟩ := asc_RH H (r.length - 1) (by omega)
  refine ⟨?_, ?_, H', hl'.trans hl⟩
  · have e : hrp lo (r.map fun v => v + s) ((n : Int) + s) = (pr (n - 1) r).map (fun v => if v < (n : Int) then v + (s + 1) else v + s) := by
      refine hrp_pr H (by omega) ?_ ?_ ?_ ?_ ?_
      · intro u v; omega
      · intro v; omega
      · intro v hv; omega
      · intro v; unfold dec; repeat' split
        all_goals omega
      · rw [if_pos (by omega)]; omega
    rw [e, pr_asc H (n - 1) (by omega)]
    unfold prom
    rw [hl]
    rw [hl] at H' hl'
    refine map_lt H' fun v hv => ?_
    rw [if_pos (by omega)]
  · rw [gd_map (by omega), root_zero H (by omega)]; omega
/-- one newcomer, then the falling ones -/
theorem one_all {r : List Int} {n : Nat} (H : RH r) (hl : r.length = n) (h1 : 1 ≤ n) :
    (((n : Int)) :: comersF n 1 n).foldl stp ([], r) = ((List.range (n + 1)).map (fun (i : Nat) => (i : Int)), (evac (prom r)).map fun v => v + ((n : Int) + 1)) ∧ (evac (prom r)).length = n ∧ RH (evac (prom r)) ∧ Good r ((n : Int) :: comersF n 1 n) := by
  obtain ⟨p1, p2, p3, p4⟩ := prom_step (s := 0) H hl h1
  have h0 : (r.map fun v => v + 0) = r := by
    have : (fun v : Int => v + 0) = id := by funext v; simp
    rw [this, List.map_id]
  rw [h0] at p1 p2
  rw [show (n : Int) + 0 = n by omega] at p1
  obtain ⟨e, l, R, good⟩ := fall_run (b := 1) n (prom r) [0] p3 p4 (Nat.le_refl _)
  have hm : (prom r).map (gF n n 1) = (prom r).map fun v => v + (0 + 1) := map_lt p3 fun v hv => by
    rw [p4] at hv
    unfold gF; rw [if_pos (by omega)]; omega
  have he : evp n (prom r) = evac (prom r) := by
    obtain ⟨k, rfl⟩ : ∃ k, n = k + 1 := ⟨n - 1, by omega⟩
    rw [evp_ev]; unfold evac; rw [p4]; rfl
  rw [hm, he] at e
  rw [he] at l R
  rw [hm] at good
  refine ⟨?_, l, R, by rw [p2]; omega, by rw [p1]; exact good⟩
  have st : stp ([], r) (n : Int) = ([0], (prom r).map fun v => v + (0 + 1)) := by
    unfold stp; dsimp only; rw [p1, p2]; rfl
  rw [List.foldl_cons, st, e, range_cons]
  refine Prod.ext ?_ ?_
  · show [0] ++ _ = _ :: _
    show (0 : Int) :: _ = _ :: _
    congr 1
    exact List.map_congr_left fun i _ => by omega
  · exact List.map_congr_left fun i _ => by omega
def riseF (n : Nat) : Nat → Int → List Int
  | 0, _ => []
  | j + 1, s => ((n : Int) + s) :: riseF n j (s + 1)
noncomputable def prs : Nat → List Int → List Int
  | 0, r => r
  | j + 1, r => prs j (prom r)
theorem rise_run {n : Nat} (h1 : 1 ≤ n) : ∀ (j : Nat) (s : Int) (r G : List Int), RH r → r.length = n →
    (riseF n j s).foldl stp (G, r.map fun v => v + s) = (G ++ (List.range j).map (fun (i : Nat) => s + (i : Int)), (prs j r).map fun v => v + (s + (j : Int))) ∧ (prs j r).length = n ∧ RH (prs j r) ∧ Good (r.map fun v => v + s) (riseF n j s) := by
  intro j
  induction j with
  | zero =>
    intro s r G H hl
    refine ⟨?_, hl, H, trivial⟩
    refine Prod.ext (by simp [riseF]) ?_
    show (r.map fun v => v + s) = _
    exact List.map_congr_left fun v _ => by omega
  | succ j ih =>
    intro s r G H hl
    obtain ⟨p1, p2, p3, p4⟩ := prom_step (s := s) H hl h1
    obtain ⟨e, l, R, good⟩ := ih (s + 1) (prom r) (G ++ [s]) p3 p4
    refine ⟨?_, l, R, by rw [p2]; omega, by rw [p1]; exact good⟩
    show (riseF n j (s + 1)).foldl stp (stp (G, r.map fun v => v + s) ((n : Int) + s)) = _
    have st : stp (G, r.map fun v => v + s) ((n : Int) + s) = (G ++ [s], (prom r).map fun v => v + (s + 1)) := by
      unfold stp; dsimp only; rw [p1, p2]
    rw [st, e, range_cons, List.append_assoc]
    refine Prod.ext ?_ ?_
    · show G ++ ([s] ++ _) = G ++ _
      congr 1
      show s :: _ = _ :: _
      congr 1
      · omega
      · exact List.map_congr_left fun i _ => by omega
    · exact List.map_congr_left fun i _ => by omega
theorem prs_itp (N : Nat) : ∀ (j : Nat) (r : List Int), r.length = N + 1 → RH r → prs j r = itp tog N j r := by
  have sw : ∀ (j : Nat) (r : List Int), itp tog N j (asc tog N r) = asc tog N (itp tog N j r) := by
    intro j
    induction j with
    | zero => intro r; rfl
    | succ j ih => intro r; show asc tog N (itp tog N j (asc tog N r)) = _; rw [ih]; rfl
  intro j
  induction j with
  | zero => intro r _ _; rfl
  | succ j ih =>
    intro r hl H
    obtain ⟨_, _, p3, p4⟩ := prom_step (s := 0) H hl (by omega)
    show prs j (prom r) = asc tog N (itp tog N j r)
    have hp : prom r = asc tog N r := by unfold prom; rw [hl]; rfl
    rw [ih (prom r) p4 p3, hp, sw]
/-- the three identities -/
theorem evac_evac {r : List Int} (H : RH r) (h1 : 1 ≤ r.length) : evac (evac r) = r := by
  have l := (fall_all H rfl h1).2.1
  unfold evac at *
  rw [l]
  exact ev_ev tog_tog tog_comm _ _
theorem evac_prom_twice {r : List Int} (H : RH r) (h1 : 1 ≤ r.length) : evac (prom (evac (prom r))) = r := by
  have q1 := (prom_step (s := 0) H rfl h1).2.2
  have q2 := (fall_all q1.1 q1.2 h1).2
  have q3 := (prom_step (s := 0) q2.2 q2.1 h1).2.2
  have a : prom r = asc tog (r.length - 1) r := rfl
  have b : evac (prom r) = ev tog (r.length - 1) (prom r) := by unfold evac; rw [q1.2]
  have c : prom (evac (prom r)) = asc tog (r.length - 1) (evac (prom r)) := by unfold prom; rw [show (evac (asc tog (r.length - 1) r)).length = r.length from q2.1]
  have d : evac (prom (evac (prom r))) = ev tog (r.length - 1) (prom (evac (prom r))) := by
    show ev tog ((prom (evac (prom r))).length - 1) _ = _
    rw [q3.2]
  rw [d, c, b, a]
  exact ev_asc_ev_asc tog_tog tog_comm _ _
theorem evac_below {r : List Int} (H : RH r) (h1 : 1 ≤ r.length) : fd tog 0 (r.length - 1) (evac r) = prs r.length r := by
  rw [prs_itp (r.length - 1) r.length r (by omega) H]
  have := ev_fd tog_comm (r.length - 1) r
  rw [show r.length - 1 + 1 = r.length by omega] at this
  exact this
end Pl7
section Pl8
/-! the mirror -/
def ng (l : List Int) : List Int := l.map fun k => -k
theorem ng_len (l : List Int) : (ng l).length = l.length := List.length_map ..
theorem ng_at {l : List Int} {p : Nat} (h : p < l.length) : (ng l).getD p 0 = -(l.getD p 0) := gd_map h
theorem ng_set {l : List Int} {p : Nat} {v : Int} : (ng l).set p (-v) = ng (l.set p v) := by unfold ng; rw [List.map_set]
theorem hi_ng {a b : Int} : hi (-a) (-b) = lo a b := by
  unfold hi lo
  by_cases h : a < b
  · rw [decide_eq_true h, decide_eq_true (by omega)]
  · rw [decide_eq_false h, decide_eq_false (by omega)]
theorem kid_ng {l : List Int} {c : Nat} (h : c < l.length) : kid hi (ng l) c = kid lo l c := by
  unfold kid
  rw [ng_len]
  by_cases h2 : c + 1 < l.length
  · rw [if_pos h2, if_pos h2, ng_at h, ng_at h2, hi_ng]
  · rw [if_neg h2, if_neg h2]
theorem su_ng : ∀ (k : Nat) (l : List Int) (q : Nat), l.length - q ≤ k → su hi (ng l) q = (ng (su lo l q).1, (su lo l q).2) := by
  intro k
  induction k with
  | zero => intro l q h; rw [su, dif_neg (by rw [ng_len]; omega), su.eq_1 (h := l), dif_neg (by omega)]
  | succ k ih =>
    intro l q h
    by_cases hc : 2 * q + 1 < l.length
    · have hk := kid_lt lo l (2 * q + 1) hc
      have g := kid_gt (l := l) (q := q)
      rw [su, dif_pos (by rw [ng_len]; exact hc), kid_ng hc, ng_at hk, ng_set, ih _ _ (by rw [List.length_set]; omega)]
      conv => rhs; rw [su, dif_pos hc]
    · rw [su, dif_neg (by rw [ng_len]; exact hc), su.eq_1 (h := l), dif_neg hc]
theorem sd_ng {st : Nat} {x : Int} : ∀ (q : Nat) (l : List Int), q < l.length → sd hi st (-x) (ng l) q = ng (sd lo st x l q) := by
  intro q
  induction q using Nat.strongRecOn with
  | _ q ih =>
    intro l hq
    rw [sd, sd.eq_1 (h := l)]
    by_cases h : st < q
    · rw [if_pos h, if_pos h, ng_at (by omega), hi_ng]
      by_cases h2 : lo x (l.getD ((q - 1) / 2) 0) = true
      · rw [if_pos h2, if_pos h2, ng_set, ih _ (by omega) _ (by rw [List.length_set]; omega)]
      · rw [if_neg h2, if_neg h2, ng_set]
    · rw [if_neg h, if_neg h, ng_set]
theorem sup_ng {l : List Int} {p : Nat} (hp : p < l.length) : sup hi (ng l) p = ng (sup lo l p) := by
  have f := su_facts lo _ l p (Nat.le_refl _) hp
  unfold sup
  rw [su_ng _ l p (Nat.le_refl _), ng_at hp]
  dsimp only
  rw [ng_set, sd_ng _ _ (by rw [List.length_set, f.1]; exact f.2.1)]
theorem hrp_ng {l : List Int} {x : Int} (h : 0 < l.length) : hrp hi (ng l) (-x) = ng (hrp lo l x) := by
  unfold hrp
  rw [ng_set, sup_ng (by rw [List.length_set]; exact h)]
theorem hpf_ng : ∀ (k : Nat) (l : List Int), k ≤ l.length → hpf hi (ng l) k = ng (hpf lo l k) := by
  intro k
  induction k with
  | zero => intro l _; rfl
  | succ k ih =>
    intro l h
    show hpf hi (sup hi (ng l) k) k = ng (hpf lo (sup lo l k) k)
    rw [sup_ng (by omega), ih _ (by rw [sup_length _ _ _ (by omega)]; omega)]
theorem ng_ng (l : List Int) : ng (ng l) = l := by
  unfold ng
  rw [List.map_map]
  have : ((fun k : Int => -k) ∘ fun k => -k) = id := by funext k; simp
  rw [this, List.map_id]
theorem ng_one (l : List Int) : (l.map fun k => -1 * k) = ng l := List.map_congr_left fun k _ => by omega
theorem stm_ng : ∀ (c G h : List Int), 0 < h.length → c.foldl stm (G, ng h) = ((c.foldl stp (G, h)).1, ng (c.foldl stp (G, h)).2) := by
  intro c
  induction c with
  | nil => intro G h _; rfl
  | cons x c ih =>
    intro G h h0
    rw [List.foldl_cons, List.foldl_cons]
    have : stm (G, ng h) x = (G ++ [h.getD 0 0], ng (hrp lo h x)) := by
      unfold stm
      dsimp only
      rw [ng_at h0, hrp_ng h0, Int.neg_neg]
    rw [this]
    show c.foldl stm (G ++ [h.getD 0 0], ng (hrp lo h x)) = ((c.foldl stp (G ++ [h.getD 0 0], hrp lo h x)).1, _)
    exact ih _ _ (by rw [hrp_length h0]; exact h0)
theorem good_go {x : Int} {post : List Int} : ∀ (pre G h c : List Int), Good h c → c = pre ++ x :: post → ((pre.foldl stp (G, h)).2).getD 0 0 < x := by
  intro pre
  induction pre with
  | nil =>
    intro G h c g e
    subst e
    exact g.1
  | cons y pre ih =>
    intro G h c g e
    subst e
    rw [List.foldl_cons]
    exact ih _ _ _ g.2 rfl
theorem good_run {r c : List Int} (g : Good r c) : ∀ pre x post g' heap, c = pre ++ x :: post → RunInv stp r pre heap g' → heap.getD 0 0 < x := by
  intro pre x post g' heap e h
  have := good_go pre [] r c g e
  rw [← h.1] at this
  exact this
end Pl8
section Pl9
/-! heapify makes a heap -/
theorem slide_ok {x : Int} : ∀ (k : Nat) (l : List Int) (q : Nat), l.length - q ≤ k → q < l.length → Ord l q → (∀ p, q < p → p < l.length → l.getD p 0 ≠ x) → (∀ p p', q < p → q < p' → p < l.length → p' < l.length → l.getD p 0 = l.getD p' 0 → p = p') →
    (∀ p, p ≠ q → ¬ (0 < p ∧ q ≤ (p - 1) / 2) → ((sl (fun v => decide (v < x)) l q).1.set (sl (fun v => decide (v < x)) l q).2 x).getD p 0 = l.getD p 0) ∧
    (∀ p, 0 < p → p < l.length → q ≤ (p - 1) / 2 → ((sl (fun v => decide (v < x)) l q).1.set (sl (fun v => decide (v < x)) l q).2 x).getD ((p - 1) / 2) 0 < ((sl (fun v => decide (v < x)) l q).1.set (sl (fun v => decide (v < x)) l q).2 x).getD p 0) ∧
    (∀ b, b < x → (∀ p, 0 < p → p < l.length → (p - 1) / 2 = q → b < l.getD p 0) → b < ((sl (fun v => decide (v < x)) l q).1.set (sl (fun v => decide (v < x)) l q).2 x).getD q 0) := by
  intro k
  induction k with
  | zero => intro l q h1 h2; omega
  | succ k ih =>
    intro l q h1 h2 hO hne hinj
    by_cases hgo : 2 * q + 1 < l.length ∧ l.getD (kid lo l (2 * q + 1)) 0 < x
    · obtain ⟨hc, hgo⟩ := hgo
      have e : sl (fun v => decide (v < x)) l q = sl (fun v => decide (v < x)) (l.set q (l.getD (kid lo l (2 * q + 1)) 0)) (kid lo l (2 * q + 1)) := by
        rw [sl, dif_pos hc, if_pos (decide_eq_true hgo)]
      rw [e]
      have g := kid_gt (l := l) (q := q)
      have hk := kid_lt lo l (2 * q + 1) hc
      have hp := kid_par hc
      have hmin := fun p h0 hp' e => kid_min (l := l) (q := q) (p := p) h0 hp' e
      generalize kid lo l (2 * q + 1) = c at *
      have hlen : (l.set q (l.getD c 0)).length = l.length := List.length_set ..
      obtain ⟨A, B, C⟩ := ih (l.set q (l.getD c 0)) c (by rw [hlen]; omega) (by rw [hlen]; exact hk) (hO.set g) (fun p h3 h4 => by rw [hlen] at h4; rw [gd_set_ne (by omega)]; exact hne p (by omega) h4)
        (fun p p' h3 h4 h5 h6 h7 => by rw [hlen] at h5 h6; rw [gd_set_ne (by omega), gd_set_ne (by omega)] at h7; exact hinj p p' (by omega) (by omega) h5 h6 h7)
      generalize (sl (fun v => decide (v < x)) (l.set q (l.getD c 0)) c).1.set (sl (fun v => decide (v < x)) (l.set q (l.getD c 0)) c).2 x = R at *
      have Rq : R.getD q 0 = l.getD c 0 := by rw [A q (by omega) (by omega), gd_set_eq h2]
      have off : ∀ p, p ≠ q → p ≠ c → ¬ (0 < p ∧ c ≤ (p - 1) / 2) → R.getD p 0 = l.getD p 0 := fun p a b d => by rw [A p b d, gd_set_ne (Ne.symm a)]
      refine ⟨fun p a b => off p a (fun z => b ⟨by omega, by rw [z, hp]; omega⟩) (fun z => b ⟨z.1, by omega⟩), fun p a b d => ?_, fun b hb hch => ?_⟩
      · by_cases h3 : c ≤ (p - 1) / 2
        · exact B p a (by rw [hlen]; exact b) h3
        · by_cases h4 : (p - 1) / 2 = q
          · rw [h4, Rq]
            by_cases h5 : p = c
            · subst h5
              exact C _ hgo fun p' a' b' d' => by
                rw [hlen] at b'
                rw [gd_set_ne (by omega)]
                have := hO p' (by omega) b'
                rw [d'] at this
                exact this
            · rw [off p (by omega) h5 (by omega)]
              have m := hmin p a b h4
              have : l.getD c 0 ≠ l.getD p 0 := fun z => h5 (hinj p c (by omega) g b hk z.symm)
              omega
          · rw [off _ h4 (by omega) (by omega), off p (by omega) (fun z => h4 (by rw [z, hp])) (by omega)]
            exact hO p (by omega) b
      · rw [Rq]
        exact hch c (by omega) hk hp
    · have e : sl (fun v => decide (v < x)) l q = (l, q) := by
        rw [sl]
        by_cases hc : 2 * q + 1 < l.length
        · rw [dif_pos hc, if_neg (fun z => hgo ⟨hc, of_decide_eq_true z⟩)]
        · rw [dif_neg hc]
      rw [e]
      dsimp only
      refine ⟨fun p a _ => gd_set_ne (Ne.symm a), fun p a b d => ?_, fun b hb _ => by rw [gd_set_eq h2]; exact hb⟩
      rw [gd_set_ne (show q ≠ p by omega)]
      by_cases h4 : (p - 1) / 2 = q
      · rw [h4, gd_set_eq h2]
        have m := kid_min (l := l) a b h4
        have hc : 2 * q + 1 < l.length := by omega
        have : ¬ l.getD (kid lo l (2 * q + 1)) 0 < x := fun z => hgo ⟨hc, z⟩
        have := hne p (by omega) b
        omega
      · rw [gd_set_ne (Ne.symm h4)]
        exact hO p (by omega) b
def Dist (l : List Int) : Prop := ∀ p p', p < l.length → p' < l.length → l.getD p 0 = l.getD p' 0 → p = p'
theorem dist_nodup {l : List Int} : Dist l ↔ l.Nodup := by
  unfold Dist List.Nodup
  rw [List.pairwise_iff_getElem]
  have gd : ∀ p (h : p < l.length), l.getD p 0 = l[p] := fun p h => by rw [List.getD_eq_getElem?_getD, List.getElem?_eq_getElem h]; rfl
  constructor
  · intro h i j hi hj hij e
    exact absurd (h i j hi hj (by rw [gd i hi, gd j hj]; exact e)) (by omega)
  · intro h p p' hp hp' e
    rw [gd p hp, gd p' hp'] at e
    by_cases a : p < p'
    · exact absurd e (h p p' hp hp' a)
    · by_cases b : p' < p
      · exact absurd e.symm (h p' p hp' hp b)
      · omega
theorem hpf_heap : ∀ (k : Nat) (l : List Int), k ≤ l.length → l.Nodup → (∀ p, 0 < p → p < l.length → k ≤ (p - 1) / 2 → l.getD ((p - 1) / 2) 0 < l.getD p 0) →
    ∀ p, 0 < p → p < l.length → (hpf lo l k).getD ((p - 1) / 2) 0 < (hpf lo l k).getD p 0 := by
  intro k
  induction k with
  | zero => intro l _ _ h p h0 hp; exact h p h0 hp (Nat.zero_le _)
  | succ k ih =>
    intro l hk nd h
    have hl := sup_length lo l k (by omega)
    have D := dist_nodup.mpr nd
    have hO : Ord l k := fun p h1 h2 => h p (by omega) h2 h1
    have hne : ∀ p, k < p → p < l.length → l.getD p 0 ≠ l.getD k 0 := fun p h1 h2 e => absurd (D p k h2 (by omega) e) (by omega)
    have q := slide_ok (x := l.getD k 0) _ l k (Nat.le_refl _) (by omega) hO hne (fun p p' _ _ h5 h6 e => D p p' h5 h6 e)
    rw [← sup_slide (by omega) hO hne] at q
    have := ih (sup lo l k) (by omega) ((sup_perm lo l k (by omega)).nodup_iff.mpr nd) (fun p a b d => by rw [hl] at b; exact q.2.1 p a b d)
    intro p h0 hp
    exact this p h0 (by rw [hl]; exact hp)
theorem heapify_heap {l : List Int} (nd : l.Nodup) : ∀ p, 0 < p → p < l.length → (hpf lo l (l.length / 2)).getD ((p - 1) / 2) 0 < (hpf lo l (l.length / 2)).getD p 0 :=
  hpf_heap _ l (Nat.div_le_self _ _) nd fun p h0 hp h => by omega
end Pl9
section Pl10
/-! from below: the greatest label climbs; its way is a row of toggles, downwards -/
def upl (fr : Nat → Int → Bool) (l : List Int) (q : Nat) : List Int × Nat :=
  if 0 < q then
    if fr ((q - 1) / 2) (l.getD ((q - 1) / 2) 0) = true then upl fr (l.set q (l.getD ((q - 1) / 2) 0)) ((q - 1) / 2) else (l, q)
  else (l, q)
termination_by q
decreasing_by omega
def gou (j : Nat) (_ : Nat) (v : Int) : Bool := decide ((j : Int) ≤ v)
def inc (j : Nat) (v : Int) : Int := if (j : Int) ≤ v then v + 1 else v
def dr (j : Nat) (g : List Int) (q : Nat) : List Int := ((upl (gou j) g q).1.map (inc j)).set (upl (gou j) g q).2 (j : Int)
structure InvU (n j : Nat) (l : List Int) (q : Nat) : Prop where
  len : l.length = n
  lt : q < n
  inj : ∀ p p', p ≠ q → p' ≠ q → p < n → p' < n → l.getD p 0 = l.getD p' 0 → p = p'
  sur : ∀ v : Nat, v + 1 < n → ∃ p, p ≠ q ∧ p < n ∧ l.getD p 0 = (v : Int)
  chl : ∀ p, 0 < p → p < n → (p - 1) / 2 = q → (j : Int) ≤ l.getD p 0
  ord : ∀ p, p ≠ q → 0 < p → p < n → (p - 1) / 2 < q → l.getD ((p - 1) / 2) 0 < l.getD p 0
theorem invU_start {g : List Int} {j q : Nat} (H : RH g) (hq : q < g.length) (hv : g.getD q 0 = (g.length : Int) - 1) : InvU g.length j g q where
  len := rfl
  lt := hq
  inj := fun p p' _ _ hp hp' e => H.inj p p' hp hp' e
  sur := fun v h => by
    obtain ⟨p, hp, e⟩ := H.sur v (by omega)
    exact ⟨p, fun z => by subst z; omega, hp, e⟩
  chl := fun p h0 hp e => by
    have a := H.heap p h0 hp
    have b := (H.rng p hp).2
    rw [e] at a
    omega
  ord := fun p _ h0 hp _ => H.heap p h0 hp
theorem invU_step {n j : Nat} {l : List Int} {q : Nat} (I : InvU n j l q) (h0 : 0 < q) (hgo : (j : Int) ≤ l.getD ((q - 1) / 2) 0) : InvU n j (l.set q (l.getD ((q - 1) / 2) 0)) ((q - 1) / 2) := by
  have hq : q < l.length := by rw [I.len]; exact I.lt
  have hlt := I.lt
  generalize hc : (q - 1) / 2 = c at *
  have hcq : c < q := by omega
  refine ⟨by rw [List.length_set]; exact I.len, by omega, ?_, ?_, ?_, ?_⟩
  · intro p p' h1 h2 h3 h4 e
    by_cases a : q = p
    · by_cases b : q = p'
      · omega
      · subst a
        rw [gd_set_eq hq, gd_set_ne b] at e
        exact absurd (I.inj c p' (by omega) (Ne.symm b) (by omega) h4 e) (Ne.symm h2)
    · by_cases b : q = p'
      · subst b
        rw [gd_set_eq hq, gd_set_ne a] at e
        exact absurd (I.inj p c (Ne.symm a) (by omega) h3 (by omega) e) h1
      · rw [gd_set_ne a, gd_set_ne b] at e
        exact I.inj p p' (Ne.symm a) (Ne.symm b) h3 h4 e
  · intro v h
    obtain ⟨p, hpq, hpn, e⟩ := I.sur v h
    by_cases a : p = c
    · subst a
      exact ⟨q, by omega, I.lt, by rw [gd_set_eq hq]; exact e⟩
    · exact ⟨p, a, hpn, by rw [gd_set_ne (Ne.symm hpq)]; exact e⟩
  · intro p a b d
    by_cases e : q = p
    · subst e; rw [gd_set_eq hq]; exact hgo
    · rw [gd_set_ne e]
      have := I.ord p (Ne.symm e) a b (by omega)
      rw [d] at this
      omega
  · intro p a b d e
    rw [gd_set_ne (show q ≠ p by omega), gd_set_ne (show q ≠ (p - 1) / 2 by omega)]
    exact I.ord p (by omega) b d (by omega)
theorem upl_inv {n j : Nat} : ∀ (q : Nat) (l : List Int), InvU n j l q → InvU n j (upl (gou j) l q).1 (upl (gou j) l q).2 ∧
    (0 < (upl (gou j) l q).2 → (upl (gou j) l q).1.getD (((upl (gou j) l q).2 - 1) / 2) 0 < (j : Int)) := by
  intro q
  induction q using Nat.strongRecOn with
  | _ q ih =>
    intro l I
    rw [upl]
    by_cases h : 0 < q
    · rw [if_pos h]
      by_cases h2 : (j : Int) ≤ l.getD ((q - 1) / 2) 0
      · rw [if_pos (show gou j _ _ = true from decide_eq_true h2)]
        exact ih _ (by omega) _ (invU_step I h h2)
      · rw [if_neg (show ¬ gou j _ _ = true from fun z => h2 (of_decide_eq_true z))]
        refine ⟨I, fun _ => ?_⟩
        show l.getD ((q - 1) / 2) 0 < (j : Int)
        omega
    · rw [if_neg h]
      exact ⟨I, fun z => absurd z h⟩
theorem upl_again {j : Nat} : ∀ (q : Nat) (l : List Int), upl (gou j) l q = upl (gou j) (upl (gou (j + 1)) l q).1 (upl (gou (j + 1)) l q).2 := by
  intro q
  induction q using Nat.strongRecOn with
  | _ q ih =>
    intro l
    by_cases h : 0 < q
    · by_cases h2 : ((j + 1 : Nat) : Int) ≤ l.getD ((q - 1) / 2) 0
      · have a : gou (j + 1) ((q - 1) / 2) (l.getD ((q - 1) / 2) 0) = true := decide_eq_true h2
        have b : gou j ((q - 1) / 2) (l.getD ((q - 1) / 2) 0) = true := decide_eq_true (by omega)
        rw [upl.eq_1 (fr := gou (j + 1)), if_pos h, if_pos a, ← ih _ (by omega)]
        conv => lhs; rw [upl, if_pos h, if_pos b]
      · have a : ¬ gou (j + 1) ((q - 1) / 2) (l.getD ((q - 1) / 2) 0) = true := fun z => h2 (of_decide_eq_true z)
        rw [upl.eq_1 (fr := gou (j + 1)), if_pos h, if_neg a]
    · rw [upl.eq_1 (fr := gou (j + 1)), if_neg h]
theorem dr_top {g : List Int} {q : Nat} (H : RH g) (hq : q < g.length) (hv : g.getD q 0 = (g.length : Int) - 1) : dr (g.length - 1) g q = g := by
  have stop : upl (gou (g.length - 1)) g q = (g, q) := by
    rw [upl]
    by_cases h : 0 < q
    · have := H.heap q h hq
      rw [if_pos h, if_neg (show ¬ gou _ _ _ = true from fun z => by have := of_decide_eq_true z; omega)]
    · rw [if_neg h]
  unfold dr
  rw [stop]
  refine gd_ext (by simp) fun p hp => ?_
  have hp' : p < g.length := by simpa using hp
  by_cases e : q = p
  · subst e
    rw [gd_set_eq (by simpa using hq), hv]; omega
  · rw [gd_set_ne e, gd_map hp']
    have a := (H.rng p hp').2
    have b : g.getD p 0 ≠ g.getD q 0 := fun z => e (H.inj q p hq hp' z.symm)
    unfold inc
    rw [if_neg (by omega)]
theorem dr_succ {g : List Int} {j q : Nat} (H : RH g) (hq : q < g.length) (hv : g.getD q 0 = (g.length : Int) - 1) (hj : j + 1 < g.length) : dr j g q = tog j (dr (j + 1) g q) := by
  obtain ⟨I, hstop⟩ := upl_inv (n := g.length) (j := j + 1) q g (invU_start H hq hv)
  have hag := upl_again (j := j) q g
  unfold dr
  rw [hag]
  generalize upl (gou (j + 1)) g q = s at *
  obtain ⟨l, e⟩ := s
  dsimp only at *
  have hlen := I.len
  have hlt := I.lt
  have ylen : ((l.map (inc (j + 1))).set e ((j + 1 : Nat) : Int)).length = g.length := by rw [List.length_set, List.length_map, hlen]
  have ye : ((l.map (inc (j + 1))).set e ((j + 1 : Nat) : Int)).getD e 0 = (j : Int) + 1 := by rw [gd_set_eq (by rw [List.length_map, hlen]; exact hlt)]; omega
  have yp : ∀ p, p ≠ e → p < g.length → ((l.map (inc (j + 1))).set e ((j + 1 : Nat) : Int)).getD p 0 = inc (j + 1) (l.getD p 0) := fun p hp hpn => by rw [gd_set_ne (Ne.symm hp), gd_map (by omega)]
  have dk : ∀ v, inc (j + 1) v ≠ (j : Int) + 1 := fun v => by unfold inc; split <;> omega
  have dk1 : ∀ v, inc (j + 1) v = (j : Int) ↔ v = (j : Int) := fun v => by unfold inc; split <;> omega
  by_cases hc : 0 < e ∧ l.getD ((e - 1) / 2) 0 = (j : Int)
  · obtain ⟨hc, hv2⟩ := hc
    have b : gou j ((e - 1) / 2) (l.getD ((e - 1) / 2) 0) = true := decide_eq_true (by omega)
    rw [upl, if_pos hc, if_pos b]
    have hceq : (e - 1) / 2 = (e - 1) / 2 := rfl
    generalize hcd : (e - 1) / 2 = c at *
    have hce : c < e := by omega
    rw [hv2]
    have stop2 : upl (gou j) (l.set e (j : Int)) c = (l.set e (j : Int), c) := by
      rw [upl]
      by_cases hc2 : 0 < c
      · have := I.ord c (by omega) hc2 (by omega) (by omega)
        rw [if_pos hc2, if_neg]
        intro z
        have z := of_decide_eq_true z
        rw [gd_set_ne (by omega)] at z
        omega
      · rw [if_neg hc2]
    rw [stop2]
    have adj : Adj j ((l.map (inc (j + 1))).set e ((j + 1 : Nat) : Int)) := by
      refine ⟨e, hc, by omega, .inr ⟨ye, ?_⟩⟩
      rw [hcd, yp c (by omega) (by omega), hv2]
      exact (dk1 _).mpr rfl
    rw [tog_pos adj]
    refine gd_ext (by simp) fun p hpn => ?_
    have hpn' : p < g.length := by simpa [hlen] using hpn
    by_cases a : c = p
    · subst a
      rw [gd_set_eq (by simpa [hlen] using hpn'), yp _ (by omega) hpn', hv2]
      exact ((dk1 _).mpr rfl).symm
    · rw [gd_set_ne a, gd_map (by simpa [hlen] using hpn')]
      by_cases a2 : e = p
      · subst a2
        rw [gd_set_eq (by omega), ye]
        unfold inc
        rw [if_pos (by omega)]
      · rw [gd_set_ne a2, yp p (Ne.symm a2) hpn']
        have : l.getD p 0 ≠ (j : Int) := fun z => a (I.inj c p (by omega) (Ne.symm a2) (by omega) hpn' (hv2.trans z.symm))
        unfold inc
        split <;> split <;> omega
  · have stop1 : upl (gou j) l e = (l, e) := by
      rw [upl]
      by_cases hc2 : 0 < e
      · have := hstop hc2
        have hv2 : l.getD ((e - 1) / 2) 0 ≠ (j : Int) := fun z => hc ⟨hc2, z⟩
        rw [if_pos hc2, if_neg]
        intro z
        have z := of_decide_eq_true z
        omega
      · rw [if_neg hc2]
    rw [stop1]
    dsimp only
    obtain ⟨p0, hp0e, hp0n, hp0⟩ := I.sur j hj
    have nadj : ¬ Adj j ((l.map (inc (j + 1))).set e ((j + 1 : Nat) : Int)) := by
      rintro ⟨p, h1, h2, h3⟩
      rw [ylen] at h2
      have at_e : ∀ z, z < g.length → ((l.map (inc (j + 1))).set e ((j + 1 : Nat) : Int)).getD z 0 = (j : Int) + 1 → z = e := fun z hz hv => by
        by_cases q : z = e
        · exact q
        · rw [yp z q hz] at hv
          exact absurd hv (dk _)
      have at_p : ∀ z, z < g.length → ((l.map (inc (j + 1))).set e ((j + 1 : Nat) : Int)).getD z 0 = (j : Int) → z = p0 := fun z hz hv => by
        by_cases q : z = e
        · subst q; rw [ye] at hv; omega
        · rw [yp z q hz] at hv
          exact I.inj z p0 q hp0e hz hp0n (((dk1 _).mp hv).trans hp0.symm)
      rcases h3 with ⟨ha, hb⟩ | ⟨ha, hb⟩
      · have e1 := at_p p h2 ha
        have e2 := at_e _ (by omega) hb
        have := I.chl p h1 h2 e2
        rw [e1, hp0] at this
        omega
      · have e1 := at_e p h2 ha
        have e2 := at_p _ (by omega) hb
        exact hc ⟨by omega, by rw [← e1, e2]; exact hp0⟩
    rw [tog_neg nadj]
    refine gd_ext (by simp) fun p hpn => ?_
    have hpn' : p < g.length := by simpa [hlen] using hpn
    rw [gd_map (by rw [ylen]; exact hpn')]
    by_cases a : e = p
    · subst a
      rw [gd_set_eq (by rw [List.length_map]; omega), ye, sw_at.mpr rfl]
    · rw [gd_set_ne a, gd_map (by omega), yp p (Ne.symm a) hpn']
      by_cases b : p = p0
      · subst b
        rw [hp0, (dk1 _).mpr rfl, sw_at1.mpr rfl]
        unfold inc
        rw [if_pos (by omega)]
      · have hne : l.getD p 0 ≠ (j : Int) := fun z => b (I.inj p p0 (Ne.symm a) hp0e hpn' hp0n (z.trans hp0.symm))
        have : sw j (inc (j + 1) (l.getD p 0)) = inc (j + 1) (l.getD p 0) := (sw_off (fun z => hne ((dk1 _).mp z)) (dk _)).mpr rfl
        rw [this]
        unfold inc
        split <;> split <;> omega
/-- one turn from below -/
theorem dr_dn {g : List Int} {q : Nat} (H : RH g) (hq : q < g.length) (hv : g.getD q 0 = (g.length : Int) - 1) : ∀ m k, k + m + 1 = g.length → dr k g q = dn tog k m g := by
  intro m
  induction m with
  | zero =>
    intro k h
    rw [show k = g.length - 1 by omega]
    exact dr_top H hq hv
  | succ m ih =>
    intro k h
    rw [dr_succ H hq hv (by omega), ih (k + 1) (by omega)]
    rfl
theorem dn_RH : ∀ (m k : Nat) (g : List Int), RH g → k + m < g.length → RH (dn tog k m g) ∧ (dn tog k m g).length = g.length := by
  intro m
  induction m with
  | zero => intro k g H _; exact ⟨H, rfl⟩
  | succ m ih =>
    intro k g H h
    obtain ⟨a, b⟩ := ih (k + 1) g H (by omega)
    exact ⟨tog_RH a (by rw [b]; omega), (tog_length _ _).trans b⟩
end Pl10
section Pl11
/-! from below, as the code keeps it: a row of numbers and what is found -/
def fre (fo : List (Option Int)) (i : Nat) (_ : Int) : Bool := (fo.getD i none).isNone
/-- the labels g, told by the row and what is found at turn k -/
structure FB (n k : Nat) (row : List Int) (fo : List (Option Int)) (g : List Int) : Prop where
  lr : row.length = n
  lf : fo.length = n
  lg : g.length = n
  rh : RH g
  nn : ∀ i, i < n → fo.getD i none = none → g.getD i 0 = row.getD i 0 + (k : Int) ∧ (k : Int) ≤ g.getD i 0
  ss : ∀ i t, i < n → fo.getD i none = some t → g.getD i 0 = t ∧ t < (k : Int)
theorem upl_both {n k : Nat} {fo : List (Option Int)} : ∀ (q : Nat) (w l : List Int), q < n → w.length = n → l.length = n → fo.getD q none = none → (∀ i, i < n → fo.getD i none = none → l.getD i 0 = w.getD i 0 + (k : Int) ∧ ((k : Int) ≤ l.getD i 0)) → (∀ i t, i < n → fo.getD i none = some t → l.getD i 0 < (k : Int)) →
    (upl (gou k) l q).2 = (upl (fre fo) w q).2 ∧ (upl (gou k) l q).2 < n ∧ fo.getD (upl (gou k) l q).2 none = none ∧ (upl (gou k) l q).1.length = n ∧ (upl (fre fo) w q).1.length = n ∧
    (∀ i, i < n → fo.getD i none = none → (upl (gou k) l q).1.getD i 0 = (upl (fre fo) w q).1.getD i 0 + (k : Int) ∧ (k : Int) ≤ (upl (gou k) l q).1.getD i 0) ∧ (∀ i t, i < n → fo.getD i none = some t → (upl (gou k) l q).1.getD i 0 = l.getD i 0) := by
  intro q
  induction q using Nat.strongRecOn with
  | _ q ih =>
    intro w l hq hw hl hf hn hs
    by_cases h : 0 < q
    · cases hp : fo.getD ((q - 1) / 2) none with
      | none =>
        have a := hn ((q - 1) / 2) (by omega) hp
        have b1 : gou k ((q - 1) / 2) (l.getD ((q - 1) / 2) 0) = true := decide_eq_true a.2
        have b2 : fre fo ((q - 1) / 2) (w.getD ((q - 1) / 2) 0) = true := by unfold fre; rw [hp]; rfl
        rw [upl, if_pos h, if_pos b1, upl.eq_1 (l := w), if_pos h, if_pos b2]
        have z := ih ((q - 1) / 2) (by omega) (w.set q (w.getD ((q - 1) / 2) 0)) (l.set q (l.getD ((q - 1) / 2) 0)) (by omega) (by rw [List.length_set]; exact hw) (by rw [List.length_set]; exact hl) hp ?_ ?_
        · obtain ⟨z1, z2, z3, z4, z5, z6, z7⟩ := z
          refine ⟨z1, z2, z3, z4, z5, z6, fun i t hi hit => ?_⟩
          rw [z7 i t hi hit, gd_set_ne]
          intro e
          subst e
          rw [hf] at hit
          cases hit
        · intro i hi hin
          by_cases e : q = i
          · subst e
            rw [gd_set_eq (by omega), gd_set_eq (by omega)]
            exact a
          · rw [gd_set_ne e, gd_set_ne e]
            exact hn i hi hin
        · intro i t hi hit
          rw [gd_set_ne]
          · exact hs i t hi hit
          · intro e
            subst e
            rw [hf] at hit
            cases hit
      | some t =>
        have a := hs ((q - 1) / 2) t (by omega) hp
        have b1 : ¬ gou k ((q - 1) / 2) (l.getD ((q - 1) / 2) 0) = true := fun z => by
          have := of_decide_eq_true z
          omega
        have b2 : ¬ fre fo ((q - 1) / 2) (w.getD ((q - 1) / 2) 0) = true := by unfold fre; rw [hp]; exact Bool.false_ne_true
        rw [upl, if_pos h, if_neg b1, upl.eq_1 (l := w), if_pos h, if_neg b2]
        exact ⟨rfl, hq, hf, hl, hw, hn, fun _ _ _ _ => rfl⟩
    · rw [upl, if_neg h, upl.eq_1 (l := w), if_neg h]
      exact ⟨rfl, hq, hf, hl, hw, hn, fun _ _ _ _ => rfl⟩
theorem od_set_eq {fo : List (Option Int)} {i : Nat} {v : Option Int} (h : i < fo.length) : (fo.set i v).getD i none = v := by
  rw [List.getD_eq_getElem?_getD, List.getElem?_set_self h]; rfl
theorem od_set_ne {fo : List (Option Int)} {i p : Nat} {v : Option Int} (h : i ≠ p) : (fo.set i v).getD p none = fo.getD p none := by
  rw [List.getD_eq_getElem?_getD, List.getElem?_set_ne h, ← List.getD_eq_getElem?_getD]
/-- one turn -/
theorem fb_turn {n k q : Nat} {row : List Int} {fo : List (Option Int)} {g : List Int} (B : FB n k row fo g) (hk : k < n) (hq : q < n) (hf : fo.getD q none = none) (hv : row.getD q 0 + (k : Int) = (n : Int) - 1) :
    FB n (k + 1) (upl (fre fo) row q).1 (fo.set (upl (fre fo) row q).2 (some (k : Int))) (dn tog k (n - 1 - k) g) ∧ (upl (fre fo) row q).2 < n := by
  have hg := B.nn q hq hf
  have lg := B.lg
  have hd := dr_dn B.rh (by rw [lg]; exact hq) (by rw [lg, hg.1]; exact hv) (n - 1 - k) k (by omega)
  have hR := dn_RH (n - 1 - k) k g B.rh (by omega)
  obtain ⟨z1, z2, z3, z4, z5, z6, z7⟩ := upl_both (k := k) q row g hq B.lr lg hf B.nn (fun i t hi hit => by have := B.ss i t hi hit; omega)
  rw [← z1]
  refine ⟨⟨z5, by rw [List.length_set]; exact B.lf, hR.2.trans lg, hR.1, ?_, ?_⟩, z2⟩
  · intro i hi hin
    rw [← hd]
    unfold dr
    have e : (upl (gou k) g q).2 ≠ i := by
      intro e
      rw [e, od_set_eq (by rw [B.lf]; exact hi)] at hin
      cases hin
    rw [od_set_ne e] at hin
    rw [gd_set_ne e, gd_map (by omega)]
    have := z6 i hi hin
    unfold inc
    rw [if_pos this.2]
    omega
  · intro i t hi hit
    rw [← hd]
    unfold dr
    by_cases e : (upl (gou k) g q).2 = i
    · rw [e, od_set_eq (by rw [B.lf]; exact hi)] at hit
      cases hit
      rw [← e, gd_set_eq (by rw [List.length_map]; omega)]
      omega
    · rw [od_set_ne e] at hit
      rw [gd_set_ne e, gd_map (by omega), z7 i t hi hit]
      have := B.ss i t hi hit
      unfold inc
      rw [if_neg (by omega)]
      omega
end Pl11
section Pl12
noncomputable def rst (n k : Nat) (g : List Int) : List Int := if k < n then fd tog k (n - 1 - k) g else g
theorem rst_start {n : Nat} {r : List Int} (h : 0 < n) : rst n 0 r = fd tog 0 (n - 1) r := by unfold rst; rw [if_pos h]; rfl
theorem rst_turn {n k : Nat} {g : List Int} (hk : k < n) : rst n (k + 1) (dn tog k (n - 1 - k) g) = rst n k g := by
  unfold rst
  rw [if_pos hk]
  by_cases h : k + 1 < n
  · rw [if_pos h]
    obtain ⟨m, hm⟩ : ∃ m, n - 1 - k = m + 1 := ⟨n - 1 - k - 1, by omega⟩
    rw [hm, show n - 1 - (k + 1) = m by omega]
    rfl
  · rw [if_neg h, show n - 1 - k = 0 by omega]
    rfl
theorem fb_start {r : List Int} {n : Nat} (H : RH r) (hl : r.length = n) : FB n 0 r (List.replicate n none) r := by
  refine ⟨hl, List.length_replicate .., hl, H, fun i hi _ => ⟨by omega, (H.rng i (by omega)).1⟩, fun i t hi h => ?_⟩
  rw [List.getD_eq_getElem?_getD, List.getElem?_replicate] at h
  rw [if_pos hi] at h
  cases h
theorem fb_end {n : Nat} {row : List Int} {fo : List (Option Int)} {g : List Int} (B : FB n n row fo g) : fo = g.map some := by
  apply List.ext_getElem (by rw [List.length_map, B.lf, B.lg])
  intro i h1 h2
  have hi : i < n := by rw [← B.lf]; exact h1
  have e1 : fo.getD i none = fo[i] := by rw [List.getD_eq_getElem?_getD, List.getElem?_eq_getElem h1]; rfl
  have e2 : g.getD i 0 = g[i]'(by rw [B.lg]; exact hi) := by rw [List.getD_eq_getElem?_getD, List.getElem?_eq_getElem (by rw [B.lg]; exact hi)]; rfl
  rw [List.getElem_map, ← e2, ← e1]
  cases hp : fo.getD i none with
  | none =>
    have a := B.nn i hi hp
    have b := (B.rh.rng i (by rw [B.lg]; exact hi)).2
    rw [B.lg] at b
    omega
  | some t =>
    have a := B.ss i t hi hp
    rw [a.1]
/-- the greatest free number is the last label's -/
theorem fb_max {n k : Nat} {row : List Int} {fo : List (Option Int)} {g : List Int} (B : FB n k row fo g) (hk : k < n) {M : Int} (h1 : ∃ i, i < n ∧ fo.getD i none = none ∧ row.getD i 0 = M) (h2 : ∀ i, i < n → fo.getD i none = none → row.getD i 0 ≤ M) : M + (k : Int) = (n : Int) - 1 := by
  obtain ⟨i, hi, hf, e⟩ := h1
  have a := B.nn i hi hf
  have b := (B.rh.rng i (by rw [B.lg]; exact hi)).2
  rw [B.lg] at b
  obtain ⟨p, hp, ep⟩ := B.rh.sur (n - 1) (by rw [B.lg]; omega)
  rw [B.lg] at hp
  cases hpf : fo.getD p none with
  | none =>
    have c := B.nn p hp hpf
    have d := h2 p hp hpf
    omega
  | some t =>
    have c := B.ss p t hp hpf
    omega
theorem fb_turn' {n k q : Nat} {row : List Int} {fo : List (Option Int)} {g R : List Int} {M : Int} (B : FB n k row fo g) (hr : rst n k g = R) (hk : k < n) (hq : q < n) (hf : fo.getD q none = none) (hv : row.getD q 0 = M) (h2 : ∀ i, i < n → fo.getD i none = none → row.getD i 0 ≤ M) :
    ∃ g', FB n (k + 1) (upl (fre fo) row q).1 (fo.set (upl (fre fo) row q).2 (some (k : Int))) g' ∧ rst n (k + 1) g' = R ∧ (upl (fre fo) row q).2 < n := by
  have z := fb_turn B hk hq hf (by rw [hv]; exact fb_max B hk ⟨q, hq, hf, hv⟩ h2)
  exact ⟨_, z.1, by rw [rst_turn hk]; exact hr, z.2⟩
end Pl12
section Lg
theorem drawn_nodup {zs : List Int} (h : Drawn zs) (h10 : zs.length ≤ 10) : zs.Nodup := by
  rw [← dist_nodup]
  intro p p' hp hp' e
  have a := h p hp
  have b := h p' hp'
  rw [e] at a
  omega
theorem gd_mem {l : List Int} {p : Nat} (h : p < l.length) : l.getD p 0 ∈ l := by
  rw [List.getD_eq_getElem?_getD, List.getElem?_eq_getElem h]
  exact List.getElem_mem h
theorem mem_gd {l : List Int} {v : Int} (h : v ∈ l) : ∃ p, p < l.length ∧ l.getD p 0 = v := by
  obtain ⟨p, hp, e⟩ := List.getElem_of_mem h
  exact ⟨p, hp, by rw [List.getD_eq_getElem?_getD, List.getElem?_eq_getElem hp]; exact e⟩
theorem rank_RH {hp ns zs : List Int} (h1 : hp.Perm zs) (h2 : ns.Perm zs) (ho : ns.Pairwise (· ≤ ·)) (nd : zs.Nodup) (hh : ∀ p, 0 < p → p < hp.length → hp.getD ((p - 1) / 2) 0 < hp.getD p 0) : RH (hp.map fun k => ((ns.idxOf k : Nat) : Int)) := by
  have ndh := dist_nodup.mpr (h1.nodup_iff.mpr nd)
  have ndn := dist_nodup.mpr (h2.nodup_iff.mpr nd)
  have mm : ∀ v, v ∈ hp ↔ v ∈ ns := fun v => h1.mem_iff.trans h2.mem_iff.symm
  have len : hp.length = ns.length := h1.length_eq.trans h2.length_eq.symm
  have L : (hp.map fun k => ((ns.idxOf k : Nat) : Int)).length = hp.length := List.length_map ..
  have idx : ∀ p, p < hp.length → ns.idxOf (hp.getD p 0) < ns.length ∧ ns.getD (ns.idxOf (hp.getD p 0)) 0 = hp.getD p 0 := by
    intro p h
    have m := (mm _).mp (gd_mem h)
    have lt := List.idxOf_lt_length_iff.mpr m
    refine ⟨lt, ?_⟩
    rw [List.getD_eq_getElem?_getD, List.getElem?_eq_getElem lt]
    exact List.getElem_idxOf lt
  have at_ : ∀ p, p < hp.length → (hp.map fun k => ((ns.idxOf k : Nat) : Int)).getD p 0 = ((ns.idxOf (hp.getD p 0) : Nat) : Int) := fun p h => gd_map h
  have sorted : ∀ i j, i < j → j < ns.length → ns.getD i 0 ≤ ns.getD j 0 := by
    intro i j hij hj
    have := List.pairwise_iff_getElem.mp ho i j (by omega) hj hij
    rw [List.getD_eq_getElem?_getD, List.getElem?_eq_getElem (show i < ns.length by omega), List.getD_eq_getElem?_getD, List.getElem?_eq_getElem hj]
    exact this
  refine ⟨?_, ?_, ?_, ?_⟩
  · intro p q hp' hq e
    rw [L] at hp' hq
    rw [at_ p hp', at_ q hq] at e
    refine ndh p q hp' hq ?_
    rw [← (idx p hp').2, ← (idx q hq).2, show ns.idxOf (hp.getD p 0) = ns.idxOf (hp.getD q 0) by omega]
  · intro v hv
    rw [L] at hv
    obtain ⟨p, hp', e⟩ := mem_gd ((mm _).mpr (gd_mem (show v < ns.length by omega)))
    refine ⟨p, by rw [L]; exact hp', ?_⟩
    rw [at_ p hp']
    have := ndn (ns.idxOf (hp.getD p 0)) v (idx p hp').1 (by omega) ((idx p hp').2.trans e)
    omega
  · intro p h0 hp'
    rw [L] at hp'
    rw [at_ p hp', at_ _ (by omega)]
    have a := idx p hp'
    have b := idx ((p - 1) / 2) (by omega)
    have c := hh p h0 hp'
    by_cases z : ns.idxOf (hp.getD ((p - 1) / 2) 0) < ns.idxOf (hp.getD p 0)
    · omega
    · exfalso
      by_cases y : ns.idxOf (hp.getD p 0) = ns.idxOf (hp.getD ((p - 1) / 2) 0)
      · rw [y, b.2] at a
        omega
      · have := sorted (ns.idxOf (hp.getD p 0)) (ns.idxOf (hp.getD ((p - 1) / 2) 0)) (by omega) b.1
        rw [a.2, b.2] at this
        omega
  · intro p hp'
    rw [L] at hp'
    rw [at_ p hp', L, len]
    have := (idx p hp').1
    omega
theorem law_first {zs hp om ns : List Int} {n : Nat} (hn : zs.length = n) (_h3 : 3 ≤ n) (h10 : n ≤ 10) (hdr : Drawn zs) (hy : hp = hpf lo zs (zs.length / 2)) (hy2 : om = hpf hi (zs.map fun k => -k) ((zs.map fun k => -k).length / 2)) (hq : ns.Perm zs) (ho : ns.Pairwise (· ≤ ·)) :
    List.map (fun k => -k) om = hp ∧ RH (hp.map fun k => ((ns.idxOf k : Nat) : Int)) := by
  have nd := drawn_nodup hdr (by omega)
  have len := hpf_length lo (zs.length / 2) zs (Nat.div_le_self _ _)
  constructor
  · have : om = ng (hpf lo zs (zs.length / 2)) := by
      rw [hy2, List.length_map]
      exact hpf_ng _ _ (Nat.div_le_self _ _)
    rw [this, hy]
    exact ng_ng _
  · rw [hy]
    refine rank_RH (hpf_perm lo _ _ (Nat.div_le_self _ _)) hq ho nd fun p h0 hp' => ?_
    rw [len] at hp'
    exact heapify_heap nd p h0 hp'
end Lg
section Op
open PySem PySem.W PyProof.Rows PySem.Spec PySem.Calls
set_option maxRecDepth 100000
/-- a list of None and ints -/
inductive OptsAre : List Value → List (Option Int) → Prop
  | nil : OptsAre [] []
  | none {vs : List Value} {os : List (Option Int)} : OptsAre vs os → OptsAre (.none :: vs) (none :: os)
  | some (i : Int) (t : Tok) {vs : List Value} {os : List (Option Int)} : OptsAre vs os → OptsAre (.int i t :: vs) (some i :: os)
theorem OptsAre.length : ∀ {vs : List Value} {os : List (Option Int)}, OptsAre vs os → vs.length = os.length
  | _, _, .nil => rfl
  | _, _, .none r => congrArg (· + 1) r.length
  | _, _, .some _ _ r => congrArg (· + 1) r.length
theorem OptsAre.rep : ∀ n, OptsAre (List.replicate n .none) (List.replicate n Option.none)
  | 0 => .nil
  | n + 1 => .none (OptsAre.rep n)
theorem OptsAre.set : ∀ {vs : List Value} {os : List (Option Int)}, OptsAre vs os → ∀ (i : Nat) (k : Int) (t : Tok), OptsAre (vs.set i (.int k t)) (os.set i (Option.some k))
  | _, _, .nil, _, _, _ => .nil
  | _, _, .none r, 0, k, t => .some k t r
  | _, _, .some _ _ r, 0, k, t => .some k t r
  | _, _, .none r, i + 1, k, t => .none (r.set i k t)
  | _, _, .some a b r, i + 1, k, t => .some a b (r.set i k t)
theorem OptsAre.get : ∀ {vs : List Value} {os : List (Option Int)}, OptsAre vs os → ∀ i, i < os.length → (os.getD i Option.none = Option.none ∧ vs[i]? = Option.some .none) ∨ ∃ k t, os.getD i Option.none = Option.some k ∧ vs[i]? = Option.some (.int k t)
  | _, _, .nil, _, h => absurd h (Nat.not_lt_zero _)
  | _, _, .none _, 0, _ => .inl ⟨rfl, rfl⟩
  | _, _, .some k t _, 0, _ => .inr ⟨k, t, rfl, rfl⟩
  | _, _, .none r, i + 1, h => by simpa using r.get i (by simpa using h)
  | _, _, .some _ _ r, i + 1, h => by simpa using r.get i (by simpa using h)
theorem OptsAre.ints : ∀ {vs : List Value} {g : List Int}, OptsAre vs (g.map Option.some) → IntsAre vs g
  | _, [], .nil => .nil
  | _, _ :: _, .some i t r => .cons i t r.ints
section
variable {prog : Program} {w : World} {A : Around} {E : Value → Shared → Prop} {s : Shared}
/-- an item of such a list: None, or an int -/
theorem item_opt {value slice : PySem.Expr} {l : Addr} {vs : List Value} {os : List (Option Int)} {k : Int} {u : Tok} {Q : Value → Shared → Prop} (hl : s.heap.IsList l vs.toArray) (ho : OptsAre vs os) (h0 : 0 ≤ k) (h1 : k < (os.length : Int)) (h10 : os.length ≤ 100)
    (hn : os.getD k.toNat none = none → Q .none s) (hi : ∀ i t, os.getD k.toNat none = some i → Q (.int i t) s)
    (hs : subscripted slice false (.ref l) (.int k u) = operate [.ref l, .int k u] (getItem (.ref l) (.int k u))) :
    wpAny (model prog w) A (subscriptTail value slice (.ref l) (.int k u)) Q E s := by
  rcases ho.get k.toNat (by omega) with ⟨e, hv⟩ | ⟨i, t, e, hv⟩
  · exact tail_any hl.typeIs slot_list_getitem.lookup (wpAny_getItem_list hl h0 (by omega) (by simpa using hv) (hn e)) hs
  · exact tail_any hl.typeIs slot_list_getitem.lookup (wpAny_getItem_list hl h0 (by omega) (by simpa using hv) (hi i t e)) hs
end
end Op
section Cf
open PySem PySem.W PyProof.Rows PySem.Spec PySem.Calls
set_option maxRecDepth 100000
/-- a comprehension's fold that keeps what passes a test -/
def keep (p : Int → Bool) (l : List Int) (k : Int) : List Int := if p k = true then l ++ [k] else l
theorem keep_foldl (p : Int → Bool) : ∀ (ks l : List Int), ks.foldl (keep p) l = l ++ ks.filter p := by
  intro ks
  induction ks with
  | nil => intro l; simp
  | cons k ks ih =>
    intro l
    rw [List.foldl_cons, ih]
    unfold keep
    by_cases h : p k = true
    · rw [if_pos h, List.filter_cons_of_pos h, List.append_assoc]; rfl
    · rw [if_neg h, List.filter_cons_of_neg h]
theorem keep_grows (p : Int → Bool) : KPfGrows (keep p) := by
  intro l k
  unfold keep
  split
  · simp
  · omega
theorem keep_yes {p : Int → Bool} {news : List (Addr × Obj)} {l : List Int} {k : Int} {t : Tok} (h : p k = true) : KCiEl news l (keep p l k) (.int k t) news := ⟨rfl, k, t, rfl, if_pos h⟩
theorem keep_no {p : Int → Bool} {news : List (Addr × Obj)} {l : List Int} {k : Int} (h : ¬ p k = true) : KCiNo news l (keep p l k) news := ⟨rfl, if_neg h⟩
end Cf
section Ga
open PySem PySem.W PyProof.Rows
section Gc
open PySem PySem.W PyProof.Rows
local macro_rules | `(tactic| walk_at "binaryOp RShift int int") => `(tactic| (k_here; with_reducible refine rshift_one ?_))
local macro_rules | `(tactic| k_all) => `(tactic| assumption)
local macro_rules | `(tactic| walk_at "KswEnd") => `(tactic| k_dflt ksw_close)
section C1
open PySem PySem.W PyProof.Rows
set_option maxRecDepth 100000 in
set_option maxHeartbeats 8000000 in
theorem siftdown_d {w : World} {l : Addr} {vs : List Value} {ns : List Int} {n : Nat} {st pos : Int} {ts tp : Tok} (hi9 : IntsAre vs ns) (h0 : 0 ≤ st) (h1 : 0 ≤ pos) (h2 : pos < ns.length) (hlen : ns.length ≤ 10) :
    Does1 w 56 [.ref l, .int st ts, .int pos tp] 1 l (listOf vs.toArray n) (Ints (sd lo st.toNat (ns.getD pos.toNat 0) ns pos.toNat)) := by
  unfold Does1
  w_top off
  k_with_none
  k_fill
  intro dp un gd cn cs a ccd cl outer A₀ base h₀ L m s mean mg mb Q E rest B F X N hoff T hk hdp hun ret
  refine wpAny_call ?_
  k_dflt ktr_enter
  k_with "exec While Compare cons nil" => k_while_given ["heap!", "startpos", "newitem", "pos!"] (fun heap0 st new pos0 script heap pos => heap.length = heap0.length ∧ 0 ≤ st ∧ 0 ≤ pos ∧ pos < heap.length ∧ heap.length ≤ 10 ∧ sd lo st.toNat new heap pos.toNat = sd lo st.toNat new heap0 pos0.toNat) (fun heap0 st new pos0 script heap pos => pos.toNat) "heap" "pos"
  k_with "state" => exact sd_turn (by assumption) (by assumption) (by assumption) (by assumption) (by assumption) (by assumption) (by assumption) (decide_eq_true (by assumption))
  k_steps
  · refine ret _ _ _ _ (by k_asm) (by k_asm) ⟨rfl, _, _, rfl, ?_⟩
    rw [← (by assumption : sd lo st.toNat (ns.getD pos.toNat 0) _ _ = sd lo st.toNat (ns.getD pos.toNat 0) ns pos.toNat), ← sd_end1 (by assumption) (by assumption) (mt of_decide_eq_true (by assumption))]
    assumption
  · refine ret _ _ _ _ (by k_asm) (by k_asm) ⟨rfl, _, _, rfl, ?_⟩
    rw [← (by assumption : sd lo st.toNat (ns.getD pos.toNat 0) _ _ = sd lo st.toNat (ns.getD pos.toNat 0) ns pos.toNat), ← sd_end0 (by assumption) (by assumption) (by assumption)]
    assumption
end C1
section C1m
open PySem PySem.W PyProof.Rows
set_option maxRecDepth 100000 in
set_option maxHeartbeats 8000000 in
theorem siftdown_m {w : World} {l : Addr} {vs : List Value} {ns : List Int} {n : Nat} {st pos : Int} {ts tp : Tok} (hi9 : IntsAre vs ns) (h0 : 0 ≤ st) (h1 : 0 ≤ pos) (h2 : pos < ns.length) (hlen : ns.length ≤ 10) :
    Does1 w 70 [.ref l, .int st ts, .int pos tp] 1 l (listOf vs.toArray n) (Ints (sd hi st.toNat (ns.getD pos.toNat 0) ns pos.toNat)) := by
  unfold Does1
  w_top off
  k_with_none
  k_fill
  intro dp un gd cn cs a ccd cl outer A₀ base h₀ L m s mean mg mb Q E rest B F X N hoff T hk hdp hun ret
  refine wpAny_call ?_
  k_dflt ktr_enter
  k_with "exec While Compare cons nil" => k_while_given ["heap!", "startpos", "newitem", "pos!"] (fun heap0 st new pos0 script heap pos => heap.length = heap0.length ∧ 0 ≤ st ∧ 0 ≤ pos ∧ pos < heap.length ∧ heap.length ≤ 10 ∧ sd hi st.toNat new heap pos.toNat = sd hi st.toNat new heap0 pos0.toNat) (fun heap0 st new pos0 script heap pos => pos.toNat) "heap" "pos"
  k_with "state" => exact sd_turn (by assumption) (by assumption) (by assumption) (by assumption) (by assumption) (by assumption) (by assumption) (decide_eq_true (by assumption))
  k_steps
  · refine ret _ _ _ _ (by k_asm) (by k_asm) ⟨rfl, _, _, rfl, ?_⟩
    rw [← (by assumption : sd hi st.toNat (ns.getD pos.toNat 0) _ _ = sd hi st.toNat (ns.getD pos.toNat 0) ns pos.toNat), ← sd_end1 (by assumption) (by assumption) (mt of_decide_eq_true (by assumption))]
    assumption
  · refine ret _ _ _ _ (by k_asm) (by k_asm) ⟨rfl, _, _, rfl, ?_⟩
    rw [← (by assumption : sd hi st.toNat (ns.getD pos.toNat 0) _ _ = sd hi st.toNat (ns.getD pos.toNat 0) ns pos.toNat), ← sd_end0 (by assumption) (by assumption) (by assumption)]
    assumption
end C1m
local macro_rules | `(tactic| walk_at "call ref") => `(tactic| k_extra "Mine call ref")
section C2
open PySem PySem.W PyProof.Rows
set_option maxRecDepth 100000 in
set_option maxHeartbeats 8000000 in
theorem siftup_d {w : World} {l : Addr} {vs : List Value} {ns : List Int} {n : Nat} {pos : Int} {tp : Tok} (hi9 : IntsAre vs ns) (h1 : 0 ≤ pos) (h2 : pos < ns.length) (hlen : ns.length ≤ 10) :
    Does1 w 63 [.ref l, .int pos tp] 2 l (listOf vs.toArray n) (Ints (sup lo ns pos.toNat)) := by
  unfold Does1
  w_top off
  k_with_none
  k_with "Mine call ref" => (k_here; (with_reducible show wpAny _ _ (call (Value.ref 56) _) _ _ _); k_dflt (refine' does_use (does_of (siftdown_d ?pIz1 ?p0z1 ?p1z1 ?p2z1 ?p3z1)) ?Bz1 ?Fz1 ?Xz1 ?Nz1 ?Uz1 ?Tz1 ?hkz1 ?hdpz1 ?hunz1 ?_; (case Bz1 => k_asm); (case Fz1 => k_asm); (case Xz1 => k_asm); (case Nz1 => k_asm); (case Uz1 => k_updF); (case pIz1 => assumption); (case p0z1 => first | assumption | omega); (case p1z1 => first | assumption | omega); (case p2z1 => first | assumption | omega); (case p3z1 => first | assumption | omega); (case Tz1 => k_asm); (case hkz1 => first | exact rfl | assumption); (case hdpz1 => ktr_room); (case hunz1 => ktr_units); intro r9 o9 h9 tk9 F9 N9 P9; obtain ⟨e9, vs9, n9, q9, hi9⟩ := P9; subst e9; subst q9; (try dsimp only); (try k_fold)))
  k_fill
  intro dp un gd cn cs a ccd cl outer A₀ base h₀ L m s mean mg mb Q E rest B F X N hoff T hk hdp hun ret
  refine wpAny_call ?_
  k_dflt ktr_enter
  k_with "exec While Compare cons nil" => k_while_given ["heap!", "pos!"] (fun heap0 pos0 script heap pos child => heap.length = heap0.length ∧ 0 ≤ pos ∧ pos < heap.length ∧ heap.length ≤ 10 ∧ child = 2 * pos + 1 ∧ su lo heap pos.toNat = su lo heap0 pos0.toNat) (fun heap0 pos0 script heap pos child => heap.length - pos.toNat) "heap" "pos" "childpos"
  k_with "state" => exact su_turn (by assumption) (by assumption) (by assumption) (by assumption) (by assumption) (by omega) (by assumption) (kid_low (by omega) (by omega) (decide_eq_true (by assumption))) (by omega)
  k_with "state" => exact su_turn (by assumption) (by assumption) (by assumption) (by assumption) (by assumption) (by omega) (by assumption) (kid_right (by omega) (by omega) (mt of_decide_eq_true (by assumption))) (by omega)
  k_with "state" => exact su_turn (by assumption) (by assumption) (by assumption) (by assumption) (by assumption) (by omega) (by assumption) (kid_left (by omega) (by omega)) (by omega)
  k_with "measure" => (simp only [List.length_set]; omega)
  k_steps
  refine ret _ _ _ _ (by k_asm) (by k_asm) ⟨rfl, _, _, rfl, ?_⟩
  rw [← sup_end (by assumption : su lo _ _ = su lo ns pos.toNat) (by assumption) (by assumption) (by assumption) (by omega)]
  assumption
end C2
section C2m
open PySem PySem.W PyProof.Rows
set_option maxRecDepth 100000 in
set_option maxHeartbeats 8000000 in
theorem siftup_m {w : World} {l : Addr} {vs : List Value} {ns : List Int} {n : Nat} {pos : Int} {tp : Tok} (hi9 : IntsAre vs ns) (h1 : 0 ≤ pos) (h2 : pos < ns.length) (hlen : ns.length ≤ 10) :
    Does1 w 77 [.ref l, .int pos tp] 2 l (listOf vs.toArray n) (Ints (sup hi ns pos.toNat)) := by
  unfold Does1
  w_top off
  k_with_none
  k_with "Mine call ref" => (k_here; (with_reducible show wpAny _ _ (call (Value.ref 70) _) _ _ _); k_dflt (refine' does_use (does_of (siftdown_m ?pIz2 ?p0z2 ?p1z2 ?p2z2 ?p3z2)) ?Bz2 ?Fz2 ?Xz2 ?Nz2 ?Uz2 ?Tz2 ?hkz2 ?hdpz2 ?hunz2 ?_; (case Bz2 => k_asm); (case Fz2 => k_asm); (case Xz2 => k_asm); (case Nz2 => k_asm); (case Uz2 => k_updF); (case pIz2 => assumption); (case p0z2 => first | assumption | omega); (case p1z2 => first | assumption | omega); (case p2z2 => first | assumption | omega); (case p3z2 => first | assumption | omega); (case Tz2 => k_asm); (case hkz2 => first | exact rfl | assumption); (case hdpz2 => ktr_room); (case hunz2 => ktr_units); intro r9 o9 h9 tk9 F9 N9 P9; obtain ⟨e9, vs9, n9, q9, hi9⟩ := P9; subst e9; subst q9; (try dsimp only); (try k_fold)))
  k_fill
  intro dp un gd cn cs a ccd cl outer A₀ base h₀ L m s mean mg mb Q E rest B F X N hoff T hk hdp hun ret
  refine wpAny_call ?_
  k_dflt ktr_enter
  k_with "exec While Compare cons nil" => k_while_given ["heap!", "pos!"] (fun heap0 pos0 script heap pos child => heap.length = heap0.length ∧ 0 ≤ pos ∧ pos < heap.length ∧ heap.length ≤ 10 ∧ child = 2 * pos + 1 ∧ su hi heap pos.toNat = su hi heap0 pos0.toNat) (fun heap0 pos0 script heap pos child => heap.length - pos.toNat) "heap" "pos" "childpos"
  k_with "state" => exact su_turn (by assumption) (by assumption) (by assumption) (by assumption) (by assumption) (by omega) (by assumption) (kid_low (by omega) (by omega) (decide_eq_true (by assumption))) (by omega)
  k_with "state" => exact su_turn (by assumption) (by assumption) (by assumption) (by assumption) (by assumption) (by omega) (by assumption) (kid_right (by omega) (by omega) (mt of_decide_eq_true (by assumption))) (by omega)
  k_with "state" => exact su_turn (by assumption) (by assumption) (by assumption) (by assumption) (by assumption) (by omega) (by assumption) (kid_left (by omega) (by omega)) (by omega)
  k_with "measure" => (simp only [List.length_set]; omega)
  k_steps
  refine ret _ _ _ _ (by k_asm) (by k_asm) ⟨rfl, _, _, rfl, ?_⟩
  rw [← sup_end (by assumption : su hi _ _ = su hi ns pos.toNat) (by assumption) (by assumption) (by assumption) (by omega)]
  assumption
end C2m
section C3
open PySem PySem.W PyProof.Rows
set_option maxRecDepth 100000 in
set_option maxHeartbeats 8000000 in
theorem heapreplace_d {w : World} {l : Addr} {vs : List Value} {ns : List Int} {n : Nat} {x : Int} {tx : Tok} (hi9 : IntsAre vs ns) (h1 : 0 < ns.length) (hlen : ns.length ≤ 10) :
    Does1 w 21 [.ref l, .int x tx] 3 l (listOf vs.toArray n) (IntsR (ns.getD 0 0) (hrp lo ns x)) := by
  unfold Does1
  w_top off
  k_with_none
  k_with "Mine call ref" => (k_here; (with_reducible show wpAny _ _ (call (Value.ref 63) _) _ _ _); k_dflt (refine' does_use (does_of (siftup_d ?pIz3 ?p0z3 ?p1z3 ?p2z3)) ?Bz3 ?Fz3 ?Xz3 ?Nz3 ?Uz3 ?Tz3 ?hkz3 ?hdpz3 ?hunz3 ?_; (case Bz3 => k_asm); (case Fz3 => k_asm); (case Xz3 => k_asm); (case Nz3 => k_asm); (case Uz3 => k_updF); (case pIz3 => assumption); (case p0z3 => first | assumption | omega); (case p1z3 => first | assumption | omega); (case p2z3 => first | assumption | omega); (case Tz3 => k_asm); (case hkz3 => first | exact rfl | assumption); (case hdpz3 => ktr_room); (case hunz3 => ktr_units); intro r9 o9 h9 tk9 F9 N9 P9; obtain ⟨e9, vs9, n9, q9, hi9⟩ := P9; subst e9; subst q9; (try dsimp only); (try k_fold)))
  k_fill
  intro dp un gd cn cs a ccd cl outer A₀ base h₀ L m s mean mg mb Q E rest B F X N hoff T hk hdp hun ret
  refine wpAny_call ?_
  k_dflt ktr_enter
  k_steps
  refine ret _ _ _ _ (by k_asm) (by k_asm) ⟨_, _, _, rfl, rfl, by assumption⟩
end C3
section C3m
open PySem PySem.W PyProof.Rows
set_option maxRecDepth 100000 in
set_option maxHeartbeats 8000000 in
theorem heapreplace_m {w : World} {l : Addr} {vs : List Value} {ns : List Int} {n : Nat} {x : Int} {tx : Tok} (hi9 : IntsAre vs ns) (h1 : 0 < ns.length) (hlen : ns.length ≤ 10) :
    Does1 w 42 [.ref l, .int x tx] 3 l (listOf vs.toArray n) (IntsR (ns.getD 0 0) (hrp hi ns x)) := by
  unfold Does1
  w_top off
  k_with_none
  k_with "Mine call ref" => (k_here; (with_reducible show wpAny _ _ (call (Value.ref 77) _) _ _ _); k_dflt (refine' does_use (does_of (siftup_m ?pIz4 ?p0z4 ?p1z4 ?p2z4)) ?Bz4 ?Fz4 ?Xz4 ?Nz4 ?Uz4 ?Tz4 ?hkz4 ?hdpz4 ?hunz4 ?_; (case Bz4 => k_asm); (case Fz4 => k_asm); (case Xz4 => k_asm); (case Nz4 => k_asm); (case Uz4 => k_updF); (case pIz4 => assumption); (case p0z4 => first | assumption | omega); (case p1z4 => first | assumption | omega); (case p2z4 => first | assumption | omega); (case Tz4 => k_asm); (case hkz4 => first | exact rfl | assumption); (case hdpz4 => ktr_room); (case hunz4 => ktr_units); intro r9 o9 h9 tk9 F9 N9 P9; obtain ⟨e9, vs9, n9, q9, hi9⟩ := P9; subst e9; subst q9; (try dsimp only); (try k_fold)))
  k_fill
  intro dp un gd cn cs a ccd cl outer A₀ base h₀ L m s mean mg mb Q E rest B F X N hoff T hk hdp hun ret
  refine wpAny_call ?_
  k_dflt ktr_enter
  k_steps
  refine ret _ _ _ _ (by k_asm) (by k_asm) ⟨_, _, _, rfl, rfl, by assumption⟩
end C3m
section C3p
open PySem PySem.W PyProof.Rows
set_option maxRecDepth 100000 in
set_option maxHeartbeats 8000000 in
theorem heappushpop_d {w : World} {l : Addr} {vs : List Value} {ns : List Int} {n : Nat} {x : Int} {tx : Tok} (hi9 : IntsAre vs ns) (h1 : 0 < ns.length) (hlen : ns.length ≤ 10) (hlt : ns.getD 0 0 < x) :
    Does1 w 28 [.ref l, .int x tx] 3 l (listOf vs.toArray n) (IntsR (ns.getD 0 0) (hrp lo ns x)) := by
  unfold Does1
  w_top off
  k_with_none
  k_with "Mine call ref" => (k_here; (with_reducible show wpAny _ _ (call (Value.ref 63) _) _ _ _); k_dflt (refine' does_use (does_of (siftup_d ?pIz5 ?p0z5 ?p1z5 ?p2z5)) ?Bz5 ?Fz5 ?Xz5 ?Nz5 ?Uz5 ?Tz5 ?hkz5 ?hdpz5 ?hunz5 ?_; (case Bz5 => k_asm); (case Fz5 => k_asm); (case Xz5 => k_asm); (case Nz5 => k_asm); (case Uz5 => k_updF); (case pIz5 => assumption); (case p0z5 => first | assumption | omega); (case p1z5 => first | assumption | omega); (case p2z5 => first | assumption | omega); (case Tz5 => k_asm); (case hkz5 => first | exact rfl | assumption); (case hdpz5 => ktr_room); (case hunz5 => ktr_units); intro r9 o9 h9 tk9 F9 N9 P9; obtain ⟨e9, vs9, n9, q9, hi9⟩ := P9; subst e9; subst q9; (try dsimp only); (try k_fold)))
  k_fill
  intro dp un gd cn cs a ccd cl outer A₀ base h₀ L m s mean mg mb Q E rest B F X N hoff T hk hdp hun ret
  refine wpAny_call ?_
  k_dflt ktr_enter
  k_steps
  · rename News h₀ L _ (_ :: _ :: rest) => N7
    refine ret _ _ _ _ (by k_asm) (fun p hp => N7 p (.tail _ hp)) ⟨_, _, _, rfl, rfl, by assumption⟩
  · exact absurd hlt (by assumption)
end C3p
local macro_rules | `(tactic| walk_at "call type:reversed") => `(tactic| k_extra "Mine call type:reversed")
section C4
open PySem PySem.W PyProof.Rows
set_option maxRecDepth 100000 in
set_option maxHeartbeats 8000000 in
theorem heapify_d {w : World} {l : Addr} {vs : List Value} {ns : List Int} {n : Nat} (hi9 : IntsAre vs ns) (hlen : ns.length ≤ 10) :
    Does1 w 35 [.ref l] 3 l (listOf vs.toArray n) (Ints (hpf lo ns (ns.length / 2))) := by
  unfold Does1
  w_top off
  k_with_none
  k_with "Mine call type:reversed" => (k_here; (with_reducible show wpAny _ _ (call (Value.type _) [Value.ref _]) _ _ _); (rename IsRange _ _ _ _ _ _ _ _ => rgX); k_dflt (refine' reversed_K ?Fz6 ?Nz6 rgX (fdiv_two _) ?bz6 ?_; (case Fz6 => k_asm); (case Nz6 => k_asm); (case bz6 => omega)); intro D' h' dI' F' N'; clear rgX; (try k_sweep))
  k_with "Mine call ref" => (k_here; (with_reducible show wpAny _ _ (call (Value.ref 63) _) _ _ _); k_dflt (refine' does_use (does_of (siftup_d ?pIz7 ?p0z7 ?p1z7 ?p2z7)) ?Bz7 ?Fz7 ?Xz7 ?Nz7 ?Uz7 ?Tz7 ?hkz7 ?hdpz7 ?hunz7 ?_; (case Bz7 => k_asm); (case Fz7 => k_asm); (case Xz7 => k_asm); (case Nz7 => k_asm); (case Uz7 => k_updF); (case pIz7 => assumption); (case p0z7 => first | assumption | omega); (case p1z7 => first | assumption | omega); (case p2z7 => first | assumption | omega); (case Tz7 => k_asm); (case hkz7 => first | exact rfl | assumption); (case hdpz7 => ktr_room); (case hunz7 => ktr_units); intro r9 o9 h9 tk9 F9 N9 P9; obtain ⟨e9, vs9, n9, q9, hi9⟩ := P9; subst e9; subst q9; (try dsimp only); (try k_fold)))
  k_fill
  intro dp un gd cn cs a ccd cl outer A₀ base h₀ L m s mean mg mb Q E rest B F X N hoff T hk hdp hun ret
  refine wpAny_call ?_
  k_dflt ktr_enter
  k_with "pyIter ref" => (k_here; (with_reducible show wpAny _ _ (pyIter (Value.ref _)) (fun it s₂ => LoopAtV _ _ _ _ _ _ _ _ _ it s₂) _ _); (rename Fr _ _ _ _ => lF'); (rename News _ _ _ _ => lN'); (rename DownIter _ _ _ _ _ _ => lD'); (k_dflt refine' down_loop (HpJ lo l rest ns (ns.length / 2) (Str.ofString "i") _) rfl lD' lF' lN' ⟨_, _, _, rfl, hi9, rfl, rfl, fun _ _ => rfl⟩ ?kTurn ?kDone); (case' kTurn => (intro i9 k9 t9 m9 nx9 h9 tk9 own9 hi' hk' hmap hoff' hJ F₁ N₁; obtain ⟨vs9, ns9, n9, e9, hi9', hl9, hp9, hm9⟩ := hJ; subst e9; (k_dflt (replace F₁ := fr_agree hm9 F₁)); (have hof9 : ∀ p ∈ rest ++ own9, p.1 ≠ l := fun p hp => (List.mem_append.mp hp).elim (hoff p) (fun h => hoff' p h l (.head _))); (try k_fold))); (case' kDone => (intro m9 nx9 h9 tk9 hJ F₁ N₁; obtain ⟨vs9, ns9, n9, e9, hi9', hl9, hp9, hm9⟩ := hJ; subst e9; (k_dflt (replace F₁ := fr_agree0 hm9 F₁)); (try k_fold))))
  k_steps
  · refine ret _ _ _ _ (by k_asm) (by k_asm) ⟨rfl, _, _, rfl, ?_⟩
    rename hpf lo _ (ns.length / 2 - ns.length / 2) = _ => hq
    rw [Nat.sub_self] at hq
    rw [← hq]
    assumption
  · rename IntsAre _ (sup lo _ _) => hI
    rename News _ _ _ ((l, _) :: List.append rest _) => hN
    exact hp_end (by k_asm) hN hI ((sup_length lo _ _ (by omega)).trans (by assumption)) (hpf_turn (by assumption) (by assumption) (by assumption)) (fun z hz => if_neg hz)
end C4
section C4m
open PySem PySem.W PyProof.Rows
set_option maxRecDepth 100000 in
set_option maxHeartbeats 8000000 in
theorem heapify_m {w : World} {l : Addr} {vs : List Value} {ns : List Int} {n : Nat} (hi9 : IntsAre vs ns) (hlen : ns.length ≤ 10) :
    Does1 w 49 [.ref l] 3 l (listOf vs.toArray n) (Ints (hpf hi ns (ns.length / 2))) := by
  unfold Does1
  w_top off
  k_with_none
  k_with "Mine call type:reversed" => (k_here; (with_reducible show wpAny _ _ (call (Value.type _) [Value.ref _]) _ _ _); (rename IsRange _ _ _ _ _ _ _ _ => rgX); k_dflt (refine' reversed_K ?Fz8 ?Nz8 rgX (fdiv_two _) ?bz8 ?_; (case Fz8 => k_asm); (case Nz8 => k_asm); (case bz8 => omega)); intro D' h' dI' F' N'; clear rgX; (try k_sweep))
  k_with "Mine call ref" => (k_here; (with_reducible show wpAny _ _ (call (Value.ref 77) _) _ _ _); k_dflt (refine' does_use (does_of (siftup_m ?pIz9 ?p0z9 ?p1z9 ?p2z9)) ?Bz9 ?Fz9 ?Xz9 ?Nz9 ?Uz9 ?Tz9 ?hkz9 ?hdpz9 ?hunz9 ?_; (case Bz9 => k_asm); (case Fz9 => k_asm); (case Xz9 => k_asm); (case Nz9 => k_asm); (case Uz9 => k_updF); (case pIz9 => assumption); (case p0z9 => first | assumption | omega); (case p1z9 => first | assumption | omega); (case p2z9 => first | assumption | omega); (case Tz9 => k_asm); (case hkz9 => first | exact rfl | assumption); (case hdpz9 => ktr_room); (case hunz9 => ktr_units); intro r9 o9 h9 tk9 F9 N9 P9; obtain ⟨e9, vs9, n9, q9, hi9⟩ := P9; subst e9; subst q9; (try dsimp only); (try k_fold)))
  k_fill
  intro dp un gd cn cs a ccd cl outer A₀ base h₀ L m s mean mg mb Q E rest B F X N hoff T hk hdp hun ret
  refine wpAny_call ?_
  k_dflt ktr_enter
  k_with "pyIter ref" => (k_here; (with_reducible show wpAny _ _ (pyIter (Value.ref _)) (fun it s₂ => LoopAtV _ _ _ _ _ _ _ _ _ it s₂) _ _); (rename Fr _ _ _ _ => lF'); (rename News _ _ _ _ => lN'); (rename DownIter _ _ _ _ _ _ => lD'); (k_dflt refine' down_loop (HpJ hi l rest ns (ns.length / 2) (Str.ofString "i") _) rfl lD' lF' lN' ⟨_, _, _, rfl, hi9, rfl, rfl, fun _ _ => rfl⟩ ?kTurn ?kDone); (case' kTurn => (intro i9 k9 t9 m9 nx9 h9 tk9 own9 hi' hk' hmap hoff' hJ F₁ N₁; obtain ⟨vs9, ns9, n9, e9, hi9', hl9, hp9, hm9⟩ := hJ; subst e9; (k_dflt (replace F₁ := fr_agree hm9 F₁)); (have hof9 : ∀ p ∈ rest ++ own9, p.1 ≠ l := fun p hp => (List.mem_append.mp hp).elim (hoff p) (fun h => hoff' p h l (.head _))); (try k_fold))); (case' kDone => (intro m9 nx9 h9 tk9 hJ F₁ N₁; obtain ⟨vs9, ns9, n9, e9, hi9', hl9, hp9, hm9⟩ := hJ; subst e9; (k_dflt (replace F₁ := fr_agree0 hm9 F₁)); (try k_fold))))
  k_steps
  · refine ret _ _ _ _ (by k_asm) (by k_asm) ⟨rfl, _, _, rfl, ?_⟩
    rename hpf hi _ (ns.length / 2 - ns.length / 2) = _ => hq
    rw [Nat.sub_self] at hq
    rw [← hq]
    assumption
  · rename IntsAre _ (sup hi _ _) => hI
    rename News _ _ _ ((l, _) :: List.append rest _) => hN
    exact hp_end (by k_asm) hN hI ((sup_length hi _ _ (by omega)).trans (by assumption)) (hpf_turn (by assumption) (by assumption) (by assumption)) (fun z hz => if_neg hz)
end C4m
end Gc
section Gr
open PySem PySem.W PyProof.Rows
local macro_rules | `(tactic| walk_at "binaryOp RShift int int") => `(tactic| (k_here; with_reducible refine rshift_one ?_))
local macro_rules | `(tactic| k_all) => `(tactic| assumption)
local macro_rules | `(tactic| walk_at "KswEnd") => `(tactic| k_dflt ksw_close)
local macro_rules | `(tactic| walk_at "compareOp Eq ref ref") => `(tactic| k_extra "Mine compareOp Eq ref ref")
local macro_rules | `(tactic| walk_at "call builtin:list.append") => `(tactic| k_extra "Mine call builtin:list.append")
local macro_rules | `(tactic| k_mem) => `(tactic| (k_dflt assumption))
local macro_rules | `(tactic| k_memK) => `(tactic| (k_dflt assumption))
local macro_rules | `(tactic| k_all) => `(tactic| first | assumption | exact off1_of (by assumption) | exact off_lt (by assumption) (by omega))
local macro_rules | `(tactic| k_ne) => `(tactic| (refine neN ?_; (try dsimp only); first | exact Off.ne (by assumption) | exact Off.ne' (by assumption) | omega))
local macro_rules | `(tactic| walk_at "FinE") => `(tactic| k_extra "Mine FinE")
local macro_rules | `(tactic| walk_at "FinA") => `(tactic| k_extra "Mine FinA")
local macro_rules | `(tactic| walk_at "call ref") => `(tactic| k_extra "Mine call ref")
section RR0
open PySem PySem.W PyProof.Rows
set_option maxRecDepth 100000 in
set_option maxHeartbeats 8000000 in
theorem run0 {w : World} {lr lc : Addr} {vr vc : List Value} {r c : List Int} {nr nc : Nat} {t : Tok} {news : Led} (hir : IntsAre vr r) (hic : IntsAre vc c) (hr : (lr, listOf vr.toArray nr) ∈ news) (hc : (lc, listOf vc.toArray nc) ∈ news) (h1 : 0 < r.length) (h2 : r.length ≤ 10) (h3 : c.length ≤ 11) :
    RunsTo w 82 [.ref lr, .ref lc, .int 0 t] 12 news (decide ((c.foldl stp ([], r)).1 = (List.range c.length).map fun (i : Nat) => (i : Int))) ((c.foldl stp ([], r)).2.map fun v => v - (c.length : Int)) := by
  unfold RunsTo
  w_top off
  k_with_none
  k_with "Mine compareOp Eq ref ref" => (k_here; (with_reducible show wpAny _ _ (compareOp CmpOp.Eq (Value.ref _) (Value.ref _)) _ _ _); k_dflt (refine' eq_intsK ?az10 ?bz10 ?cz10 ?dz10 ?uz10 ?_; (case az10 => kmk_list); (case bz10 => l_ints); (case cz10 => kmk_list); (case dz10 => l_ints); (case uz10 => (have hcL9 := cLine_is; (try simp only [units_in1, units_deeper, Around.mark_units, units_caller]); (try dsimp only [ktrTop]); omega)); k_whole))
  k_with "Mine call builtin:list.append" => (k_here; (with_reducible show wpAny _ _ (call (Value.builtin _) [Value.ref _, _]) _ _ _); k_dflt (refine' append_K ?k1z11 ?k2z11 ?k3z11 ?_ ?zz11; (case k1z11 => k_asm); (case k2z11 => k_asm); (case k3z11 => k_upd); (case zz11 => (refine size_of_ints (by assumption) ?_; have q9 := run_len (by assumption) (by assumption) (by assumption); omega)); k_whole); intro h' F' N'; (try k_sweep))
  k_with "Mine FinE" => ((unfold LCg.FinE); intro D' h' tk' F' N' o1'; (try simp only [LCg.Off1, and_true] at o1'); (repeat (obtain ⟨o8, o1'⟩ := o1'; replace o8 := Off.mk o8)); (try replace o1' := Off.mk o1'); (try simp only [List.nil_append, List.cons_append] at N'); (try dsimp only))
  k_with "Mine FinA" => ((unfold LCg.FinA); intro D' h' tk' F' N' o1'; (try simp only [LCg.Off1, and_true] at o1'); (repeat (obtain ⟨o8, o1'⟩ := o1'; replace o8 := Off.mk o8)); (try replace o1' := Off.mk o1'); (try simp only [List.nil_append, List.cons_append] at N'); (try dsimp only))
  k_with "Mine call ref" => (k_here; (with_reducible show wpAny _ _ (call (Value.ref 21) _) _ _ _); k_dflt (refine' does_use (does_of (heapreplace_d ?pIz14 ?p0z14 ?p1z14)) ?Bz14 ?Fz14 ?Xz14 ?Nz14 ?Uz14 ?Tz14 ?hkz14 ?hdpz14 ?hunz14 ?_; (case Bz14 => k_asm); (case Fz14 => k_asm); (case Xz14 => k_asm); (case Nz14 => k_asm); (case Uz14 => k_updF); (case pIz14 => assumption); (case p0z14 => first | assumption | omega | (simp only [List.length_map]; omega)); (case p1z14 => first | assumption | omega | (simp only [List.length_map]; omega)); (case Tz14 => k_asm); (case hkz14 => first | exact rfl | assumption); (case hdpz14 => ktr_room); (case hunz14 => ktr_units); intro r9 o9 h9 tk9 F9 N9 P9; obtain ⟨t9, vs9, n9, e9, q9, hi9⟩ := P9; subst e9; subst q9; (try dsimp only); (try k_fold)))
  k_with "Mine call ref" => (k_here; (with_reducible show wpAny _ _ (call (Value.ref 42) _) _ _ _); k_dflt (refine' does_use (does_of (heapreplace_m ?pIz15 ?p0z15 ?p1z15)) ?Bz15 ?Fz15 ?Xz15 ?Nz15 ?Uz15 ?Tz15 ?hkz15 ?hdpz15 ?hunz15 ?_; (case Bz15 => k_asm); (case Fz15 => k_asm); (case Xz15 => k_asm); (case Nz15 => k_asm); (case Uz15 => k_updF); (case pIz15 => assumption); (case p0z15 => first | assumption | omega | (simp only [List.length_map]; omega)); (case p1z15 => first | assumption | omega | (simp only [List.length_map]; omega)); (case Tz15 => k_asm); (case hkz15 => first | exact rfl | assumption); (case hdpz15 => ktr_room); (case hunz15 => ktr_units); intro r9 o9 h9 tk9 F9 N9 P9; obtain ⟨t9, vs9, n9, e9, q9, hi9⟩ := P9; subst e9; subst q9; (try dsimp only); (try k_fold)))
  k_with "Mine call ref" => (k_here; (with_reducible show wpAny _ _ (call (Value.ref 28) _) _ _ _); k_dflt (refine' does_use (does_of (heappushpop_d ?pIz16 ?p0z16 ?p1z16 ?e0z16)) ?Bz16 ?Fz16 ?Xz16 ?Nz16 ?Uz16 ?Tz16 ?hkz16 ?hdpz16 ?hunz16 ?_; (case Bz16 => k_asm); (case Fz16 => k_asm); (case Xz16 => k_asm); (case Nz16 => k_asm); (case Uz16 => k_updF); (case pIz16 => assumption); (case p0z16 => first | assumption | omega | (simp only [List.length_map]; omega)); (case p1z16 => first | assumption | omega | (simp only [List.length_map]; omega)); (case e0z16 => first | assumption | exact run_lt (by assumption) (by assumption) (by assumption)); (case Tz16 => k_asm); (case hkz16 => first | exact rfl | assumption); (case hdpz16 => ktr_room); (case hunz16 => ktr_units); intro r9 o9 h9 tk9 F9 N9 P9; obtain ⟨t9, vs9, n9, e9, q9, hi9⟩ := P9; subst e9; subst q9; (try dsimp only); (try k_fold)))
  k_fill
  intro dp un gd cn cs a ccd cl outer A₀ base h₀ L m s mean mg mb Q E B F X N T hk hdp hun ret
  refine wpAny_call ?_
  k_dflt (refine' code_defC ?k1 ?k2 ?k3 ?k4 ?k5 ?kA ?kF ?kK ?k6 ?k7 ?k8 ?k9 ?kB ?kD ?_ ?c2 ?c3 ?c4; (case kA => exact rfl); (case kF => exact rfl); (case kK => assumption); (case k1 => k_asm); (case k2 => k_asm); (case k3 => k_asm); (case k4 => k_asm); (case k5 => k_asm); (case k6 => k_is); (case k7 => k_is); (case k8 => ktr_room); (case k9 => exact BindsTo.of_eq rfl); (case kB => exact rfl); (case kD => decide +kernel); (case c2 => exact rfl); (case c3 => exact rfl); (case c4 => exact rfl); k_whole; intro g' L' h' tk' cells' FG' F' N' Y' B' X' T' l1; k_cells Y'; (try simp only [List.cons_append, List.nil_append] at N'); (try dsimp only); (try k_fold))
  k_with "pyIter ref" => k_state (fun pre heap gone => RunInv stp r pre heap gone ∧ heap.length = r.length) "heap" "gone"
  k_with "state" => exact run_turnC (by assumption) (by assumption)
  k_with "state" => exact run_startC
  k_with "state" => (rw [map_one]; exact run_startC)
  k_steps
  rename RunInv stp _ c _ _ => hR
  rename News h₀ L _ (_ :: _ :: _) => hN
  rename IntsAre _ (List.map (fun k => 1 * k - (c.length : Int)) _) => hI
  rename (_ ∧ _ ∧ _ ∧ _ ∧ _ ∧ _ ∧ AllLt _ news) => hl1
  rw [run_told hR] at hN
  exact ret _ _ _ _ _ _ (by k_asm) (fun p hp => hN p (sub7 hp)) (by assumption) hl1.2.2.2.2.2.2 hl1.1 (run_out hR hI)
end RR0
section RR1
open PySem PySem.W PyProof.Rows
set_option maxRecDepth 100000 in
set_option maxHeartbeats 8000000 in
theorem run1 {w : World} {lr lc : Addr} {vr vc : List Value} {r c : List Int} {nr nc : Nat} {t : Tok} {news : Led} (hir : IntsAre vr r) (hic : IntsAre vc c) (hr : (lr, listOf vr.toArray nr) ∈ news) (hc : (lc, listOf vc.toArray nc) ∈ news) (h1 : 0 < r.length) (h2 : r.length ≤ 10) (h3 : c.length ≤ 11) (hgo : ∀ pre x post g heap, c = pre ++ x :: post → RunInv stp r pre heap g → heap.getD 0 0 < x) :
    RunsTo w 82 [.ref lr, .ref lc, .int 1 t] 12 news (decide ((c.foldl stp ([], r)).1 = (List.range c.length).map fun (i : Nat) => (i : Int))) ((c.foldl stp ([], r)).2.map fun v => v - (c.length : Int)) := by
  unfold RunsTo
  w_top off
  k_with_none
  k_with "Mine compareOp Eq ref ref" => (k_here; (with_reducible show wpAny _ _ (compareOp CmpOp.Eq (Value.ref _) (Value.ref _)) _ _ _); k_dflt (refine' eq_intsK ?az17 ?bz17 ?cz17 ?dz17 ?uz17 ?_; (case az17 => kmk_list); (case bz17 => l_ints); (case cz17 => kmk_list); (case dz17 => l_ints); (case uz17 => (have hcL9 := cLine_is; (try simp only [units_in1, units_deeper, Around.mark_units, units_caller]); (try dsimp only [ktrTop]); omega)); k_whole))
  k_with "Mine call builtin:list.append" => (k_here; (with_reducible show wpAny _ _ (call (Value.builtin _) [Value.ref _, _]) _ _ _); k_dflt (refine' append_K ?k1z18 ?k2z18 ?k3z18 ?_ ?zz18; (case k1z18 => k_asm); (case k2z18 => k_asm); (case k3z18 => k_upd); (case zz18 => (refine size_of_ints (by assumption) ?_; have q9 := run_len (by assumption) (by assumption) (by assumption); omega)); k_whole); intro h' F' N'; (try k_sweep))
  k_with "Mine FinE" => ((unfold LCg.FinE); intro D' h' tk' F' N' o1'; (try simp only [LCg.Off1, and_true] at o1'); (repeat (obtain ⟨o8, o1'⟩ := o1'; replace o8 := Off.mk o8)); (try replace o1' := Off.mk o1'); (try simp only [List.nil_append, List.cons_append] at N'); (try dsimp only))
  k_with "Mine FinA" => ((unfold LCg.FinA); intro D' h' tk' F' N' o1'; (try simp only [LCg.Off1, and_true] at o1'); (repeat (obtain ⟨o8, o1'⟩ := o1'; replace o8 := Off.mk o8)); (try replace o1' := Off.mk o1'); (try simp only [List.nil_append, List.cons_append] at N'); (try dsimp only))
  k_with "Mine call ref" => (k_here; (with_reducible show wpAny _ _ (call (Value.ref 21) _) _ _ _); k_dflt (refine' does_use (does_of (heapreplace_d ?pIz21 ?p0z21 ?p1z21)) ?Bz21 ?Fz21 ?Xz21 ?Nz21 ?Uz21 ?Tz21 ?hkz21 ?hdpz21 ?hunz21 ?_; (case Bz21 => k_asm); (case Fz21 => k_asm); (case Xz21 => k_asm); (case Nz21 => k_asm); (case Uz21 => k_updF); (case pIz21 => assumption); (case p0z21 => first | assumption | omega | (simp only [List.length_map]; omega)); (case p1z21 => first | assumption | omega | (simp only [List.length_map]; omega)); (case Tz21 => k_asm); (case hkz21 => first | exact rfl | assumption); (case hdpz21 => ktr_room); (case hunz21 => ktr_units); intro r9 o9 h9 tk9 F9 N9 P9; obtain ⟨t9, vs9, n9, e9, q9, hi9⟩ := P9; subst e9; subst q9; (try dsimp only); (try k_fold)))
  k_with "Mine call ref" => (k_here; (with_reducible show wpAny _ _ (call (Value.ref 42) _) _ _ _); k_dflt (refine' does_use (does_of (heapreplace_m ?pIz22 ?p0z22 ?p1z22)) ?Bz22 ?Fz22 ?Xz22 ?Nz22 ?Uz22 ?Tz22 ?hkz22 ?hdpz22 ?hunz22 ?_; (case Bz22 => k_asm); (case Fz22 => k_asm); (case Xz22 => k_asm); (case Nz22 => k_asm); (case Uz22 => k_updF); (case pIz22 => assumption); (case p0z22 => first | assumption | omega | (simp only [List.length_map]; omega)); (case p1z22 => first | assumption | omega | (simp only [List.length_map]; omega)); (case Tz22 => k_asm); (case hkz22 => first | exact rfl | assumption); (case hdpz22 => ktr_room); (case hunz22 => ktr_units); intro r9 o9 h9 tk9 F9 N9 P9; obtain ⟨t9, vs9, n9, e9, q9, hi9⟩ := P9; subst e9; subst q9; (try dsimp only); (try k_fold)))
  k_with "Mine call ref" => (k_here; (with_reducible show wpAny _ _ (call (Value.ref 28) _) _ _ _); k_dflt (refine' does_use (does_of (heappushpop_d ?pIz23 ?p0z23 ?p1z23 ?e0z23)) ?Bz23 ?Fz23 ?Xz23 ?Nz23 ?Uz23 ?Tz23 ?hkz23 ?hdpz23 ?hunz23 ?_; (case Bz23 => k_asm); (case Fz23 => k_asm); (case Xz23 => k_asm); (case Nz23 => k_asm); (case Uz23 => k_updF); (case pIz23 => assumption); (case p0z23 => first | assumption | omega | (simp only [List.length_map]; omega)); (case p1z23 => first | assumption | omega | (simp only [List.length_map]; omega)); (case e0z23 => first | assumption | exact run_lt (by assumption) (by assumption) (by assumption)); (case Tz23 => k_asm); (case hkz23 => first | exact rfl | assumption); (case hdpz23 => ktr_room); (case hunz23 => ktr_units); intro r9 o9 h9 tk9 F9 N9 P9; obtain ⟨t9, vs9, n9, e9, q9, hi9⟩ := P9; subst e9; subst q9; (try dsimp only); (try k_fold)))
  k_fill
  intro dp un gd cn cs a ccd cl outer A₀ base h₀ L m s mean mg mb Q E B F X N T hk hdp hun ret
  refine wpAny_call ?_
  k_dflt (refine' code_defC ?k1 ?k2 ?k3 ?k4 ?k5 ?kA ?kF ?kK ?k6 ?k7 ?k8 ?k9 ?kB ?kD ?_ ?c2 ?c3 ?c4; (case kA => exact rfl); (case kF => exact rfl); (case kK => assumption); (case k1 => k_asm); (case k2 => k_asm); (case k3 => k_asm); (case k4 => k_asm); (case k5 => k_asm); (case k6 => k_is); (case k7 => k_is); (case k8 => ktr_room); (case k9 => exact BindsTo.of_eq rfl); (case kB => exact rfl); (case kD => decide +kernel); (case c2 => exact rfl); (case c3 => exact rfl); (case c4 => exact rfl); k_whole; intro g' L' h' tk' cells' FG' F' N' Y' B' X' T' l1; k_cells Y'; (try simp only [List.cons_append, List.nil_append] at N'); (try dsimp only); (try k_fold))
  k_with "pyIter ref" => k_state (fun pre heap gone => RunInv stp r pre heap gone ∧ heap.length = r.length) "heap" "gone"
  k_with "state" => exact run_turnC (by assumption) (by assumption)
  k_with "state" => exact run_startC
  k_with "state" => (rw [map_one]; exact run_startC)
  k_steps
  rename RunInv stp _ c _ _ => hR
  rename News h₀ L _ (_ :: _ :: _) => hN
  rename IntsAre _ (List.map (fun k => 1 * k - (c.length : Int)) _) => hI
  rename (_ ∧ _ ∧ _ ∧ _ ∧ _ ∧ _ ∧ AllLt _ news) => hl1
  rw [run_told hR] at hN
  exact ret _ _ _ _ _ _ (by k_asm) (fun p hp => hN p (sub7 hp)) (by assumption) hl1.2.2.2.2.2.2 hl1.1 (run_out hR hI)
end RR1
section RR2
open PySem PySem.W PyProof.Rows
set_option maxRecDepth 100000 in
set_option maxHeartbeats 8000000 in
theorem run2 {w : World} {lr lc : Addr} {vr vc : List Value} {r c : List Int} {nr nc : Nat} {t : Tok} {news : Led} (hir : IntsAre vr r) (hic : IntsAre vc c) (hr : (lr, listOf vr.toArray nr) ∈ news) (hc : (lc, listOf vc.toArray nc) ∈ news) (h1 : 0 < r.length) (h2 : r.length ≤ 10) (h3 : c.length ≤ 11) :
    RunsTo w 82 [.ref lr, .ref lc, .int 2 t] 12 news (decide ((c.foldl stm ([], (r.map fun k => -1 * k))).1 = (List.range c.length).map fun (i : Nat) => (i : Int))) ((c.foldl stm ([], (r.map fun k => -1 * k))).2.map fun v => -1 * v - (c.length : Int)) := by
  unfold RunsTo
  w_top off
  k_with_none
  k_with "Mine compareOp Eq ref ref" => (k_here; (with_reducible show wpAny _ _ (compareOp CmpOp.Eq (Value.ref _) (Value.ref _)) _ _ _); k_dflt (refine' eq_intsK ?az24 ?bz24 ?cz24 ?dz24 ?uz24 ?_; (case az24 => kmk_list); (case bz24 => l_ints); (case cz24 => kmk_list); (case dz24 => l_ints); (case uz24 => (have hcL9 := cLine_is; (try simp only [units_in1, units_deeper, Around.mark_units, units_caller]); (try dsimp only [ktrTop]); omega)); k_whole))
  k_with "Mine call builtin:list.append" => (k_here; (with_reducible show wpAny _ _ (call (Value.builtin _) [Value.ref _, _]) _ _ _); k_dflt (refine' append_K ?k1z25 ?k2z25 ?k3z25 ?_ ?zz25; (case k1z25 => k_asm); (case k2z25 => k_asm); (case k3z25 => k_upd); (case zz25 => (refine size_of_ints (by assumption) ?_; have q9 := run_len (by assumption) (by assumption) (by assumption); omega)); k_whole); intro h' F' N'; (try k_sweep))
  k_with "Mine FinE" => ((unfold LCg.FinE); intro D' h' tk' F' N' o1'; (try simp only [LCg.Off1, and_true] at o1'); (repeat (obtain ⟨o8, o1'⟩ := o1'; replace o8 := Off.mk o8)); (try replace o1' := Off.mk o1'); (try simp only [List.nil_append, List.cons_append] at N'); (try dsimp only))
  k_with "Mine FinA" => ((unfold LCg.FinA); intro D' h' tk' F' N' o1'; (try simp only [LCg.Off1, and_true] at o1'); (repeat (obtain ⟨o8, o1'⟩ := o1'; replace o8 := Off.mk o8)); (try replace o1' := Off.mk o1'); (try simp only [List.nil_append, List.cons_append] at N'); (try dsimp only))
  k_with "Mine call ref" => (k_here; (with_reducible show wpAny _ _ (call (Value.ref 21) _) _ _ _); k_dflt (refine' does_use (does_of (heapreplace_d ?pIz28 ?p0z28 ?p1z28)) ?Bz28 ?Fz28 ?Xz28 ?Nz28 ?Uz28 ?Tz28 ?hkz28 ?hdpz28 ?hunz28 ?_; (case Bz28 => k_asm); (case Fz28 => k_asm); (case Xz28 => k_asm); (case Nz28 => k_asm); (case Uz28 => k_updF); (case pIz28 => assumption); (case p0z28 => first | assumption | omega | (simp only [List.length_map]; omega)); (case p1z28 => first | assumption | omega | (simp only [List.length_map]; omega)); (case Tz28 => k_asm); (case hkz28 => first | exact rfl | assumption); (case hdpz28 => ktr_room); (case hunz28 => ktr_units); intro r9 o9 h9 tk9 F9 N9 P9; obtain ⟨t9, vs9, n9, e9, q9, hi9⟩ := P9; subst e9; subst q9; (try dsimp only); (try k_fold)))
  k_with "Mine call ref" => (k_here; (with_reducible show wpAny _ _ (call (Value.ref 42) _) _ _ _); k_dflt (refine' does_use (does_of (heapreplace_m ?pIz29 ?p0z29 ?p1z29)) ?Bz29 ?Fz29 ?Xz29 ?Nz29 ?Uz29 ?Tz29 ?hkz29 ?hdpz29 ?hunz29 ?_; (case Bz29 => k_asm); (case Fz29 => k_asm); (case Xz29 => k_asm); (case Nz29 => k_asm); (case Uz29 => k_updF); (case pIz29 => assumption); (case p0z29 => first | assumption | omega | (simp only [List.length_map]; omega)); (case p1z29 => first | assumption | omega | (simp only [List.length_map]; omega)); (case Tz29 => k_asm); (case hkz29 => first | exact rfl | assumption); (case hdpz29 => ktr_room); (case hunz29 => ktr_units); intro r9 o9 h9 tk9 F9 N9 P9; obtain ⟨t9, vs9, n9, e9, q9, hi9⟩ := P9; subst e9; subst q9; (try dsimp only); (try k_fold)))
  k_with "Mine call ref" => (k_here; (with_reducible show wpAny _ _ (call (Value.ref 28) _) _ _ _); k_dflt (refine' does_use (does_of (heappushpop_d ?pIz30 ?p0z30 ?p1z30 ?e0z30)) ?Bz30 ?Fz30 ?Xz30 ?Nz30 ?Uz30 ?Tz30 ?hkz30 ?hdpz30 ?hunz30 ?_; (case Bz30 => k_asm); (case Fz30 => k_asm); (case Xz30 => k_asm); (case Nz30 => k_asm); (case Uz30 => k_updF); (case pIz30 => assumption); (case p0z30 => first | assumption | omega | (simp only [List.length_map]; omega)); (case p1z30 => first | assumption | omega | (simp only [List.length_map]; omega)); (case e0z30 => first | assumption | exact run_lt (by assumption) (by assumption) (by assumption)); (case Tz30 => k_asm); (case hkz30 => first | exact rfl | assumption); (case hdpz30 => ktr_room); (case hunz30 => ktr_units); intro r9 o9 h9 tk9 F9 N9 P9; obtain ⟨t9, vs9, n9, e9, q9, hi9⟩ := P9; subst e9; subst q9; (try dsimp only); (try k_fold)))
  k_fill
  intro dp un gd cn cs a ccd cl outer A₀ base h₀ L m s mean mg mb Q E B F X N T hk hdp hun ret
  refine wpAny_call ?_
  k_dflt (refine' code_defC ?k1 ?k2 ?k3 ?k4 ?k5 ?kA ?kF ?kK ?k6 ?k7 ?k8 ?k9 ?kB ?kD ?_ ?c2 ?c3 ?c4; (case kA => exact rfl); (case kF => exact rfl); (case kK => assumption); (case k1 => k_asm); (case k2 => k_asm); (case k3 => k_asm); (case k4 => k_asm); (case k5 => k_asm); (case k6 => k_is); (case k7 => k_is); (case k8 => ktr_room); (case k9 => exact BindsTo.of_eq rfl); (case kB => exact rfl); (case kD => decide +kernel); (case c2 => exact rfl); (case c3 => exact rfl); (case c4 => exact rfl); k_whole; intro g' L' h' tk' cells' FG' F' N' Y' B' X' T' l1; k_cells Y'; (try simp only [List.cons_append, List.nil_append] at N'); (try dsimp only); (try k_fold))
  k_with "pyIter ref" => k_state (fun pre heap gone => RunInv stm (r.map fun k => -1 * k) pre heap gone ∧ heap.length = r.length) "heap" "gone"
  k_with "state" => exact run_turnMM (by assumption) (by assumption)
  k_with "state" => exact run_startM
  k_steps
  rename RunInv stm _ c _ _ => hR
  rename News h₀ L _ (_ :: _ :: _) => hN
  rename IntsAre _ (List.map (fun k => -1 * k - (c.length : Int)) _) => hI
  rename (_ ∧ _ ∧ _ ∧ _ ∧ _ ∧ _ ∧ AllLt _ news) => hl1
  rw [run_told hR] at hN
  exact ret _ _ _ _ _ _ (by k_asm) (fun p hp => hN p (sub7 hp)) (by assumption) hl1.2.2.2.2.2.2 hl1.1 (run_outM hR hI)
end RR2
section Lf
open PySem PySem.W PyProof.Rows
theorem law_first2 {zs hp om ns : List Int} {n : Nat} (hn : zs.length = n) (h3 : 3 ≤ n) (h10 : n ≤ 10) (hdr : Drawn zs) (hy : hp = hpf lo zs (zs.length / 2)) (hy2 : om = hpf hi (zs.map fun k => -k) ((zs.map fun k => -k).length / 2)) (ho : ns.Pairwise (· ≤ ·)) (hq : ns.Perm zs) :
    List.map (fun k => -k) om = hp ∧ ∃ fst, RH fst ∧ fst.length = n ∧ ∀ vs, IntsAre vs (hp.map fun k => ((ns.idxOf k : Nat) : Int)) → IntsAre vs fst :=
  have q := law_first hn h3 h10 hdr hy hy2 hq ho
  ⟨q.1, _, q.2, by rw [List.length_map, hy, hpf_length _ _ _ (Nat.div_le_self _ _), hn], fun _ h => h⟩
structure Passed : Prop where
theorem stop_pass {P : Prop} (h : Passed → P) : Stop P := ⟨h ⟨⟩⟩
theorem news_drop6 {h₀ h : Heap} {L : Addr} {a b c d e f g : Addr × Obj} {r : Led} (N : News h₀ L h (a :: b :: c :: d :: e :: f :: g :: r)) : News h₀ L h (a :: r) := fun p hp => N p ((List.mem_cons.mp hp).elim (fun q => q ▸ .head _) fun q => .tail _ (.tail _ (.tail _ (.tail _ (.tail _ (.tail _ (.tail _ q)))))))
theorem runs_use {w : World} {f : Addr} {args : List Value} {size : Nat} {news : Led} {b : Bool} {xs : List Int} (D : RunsTo w f args size news b xs)
    {dp un : Nat} {gd : Option (List Code)} {cn : Str} {cs : Scope} {a : Addr} {ccd : Value} {cl : List (Str × Addr)} {outer : List Env} {A₀ : Around} {base h₀ : Heap} {L : Addr} {m : Str → Option Value} {s : Shared} {mean : ExcName → Option Value} {mg mb : Str → Option Value}
    {Q E : Value → Shared → Prop} (B : Below A₀ base outer h₀) (F : Fr h₀ L s.heap m) (X : (hd.heap_39 w.params).In h₀) (N : News h₀ L s.heap news) (T : Top hd.view_39 (looseW hd.view_39 []) mean mg mb h₀)
    (hk : cs.kind = .function) (hdp : dp + size < recursionLimit) (hun : un + 8 * size < cLine)
    (ret : ∀ ta la vs n h' tk', Fr h₀ L h' m → News h₀ L h' ((ta, { cls := .type "tuple", data := .seq #[.bool b, .ref la] }) :: (la, listOf (List.toArray vs) n) :: news) → LCg.Off1 la news → AllLt ta news → @LT.lt Nat _ la ta → IntsAre vs xs → Q (.ref ta) { s with heap := h', toks := tk' }) :
    wpAny (model PySem.Challenge.rw_sc0014_01.row.prog w) (ktrTop dp un gd cn cs L a ccd cl outer) (call (.ref f) args) Q E s :=
  D dp un gd cn cs a ccd cl outer A₀ base h₀ L m s mean mg mb Q E B F X N T hk hdp hun ret
end Lf
section Lu
open PySem PySem.W PyProof.Rows
abbrev fallL (n : Nat) : List Int := List.map (fun k => 2 * (n : Int) - 1 - k) (rangeKs 0 ((n : Int) - 0).toNat)
abbrev oneL (n : Nat) : List Int := [(n : Int)] ++ List.map (fun k => 2 * (n : Int) - k) (rangeKs 0 ((n : Int) - 0).toNat)
abbrev riseL (n : Nat) : List Int := List.map (fun k => (n : Int) + k) (rangeKs 0 ((n : Int) - 0).toNat)
theorem map_range_rev (n : Nat) (b : Int) : ∀ k, k ≤ n → (List.range k).map (fun (i : Nat) => ((k : Int) - 1 - (i : Int)) + (n : Int) + b) = comersF n b k := by
  intro k
  induction k with
  | zero => intro _; rfl
  | succ k ih =>
    intro hk
    rw [range_cons, ← show _ :: comersF n b k = comersF n b (k + 1) from rfl, ← ih (by omega)]
    congr 1
    · omega
    · exact List.map_congr_left fun i _ => by omega
theorem fall_form (n : Nat) : fallL n = comersF n 0 n := by
  rw [← map_range_rev n 0 n (Nat.le_refl _)]
  simp only [fallL, rangeKs, Int.sub_zero, Int.toNat_natCast, List.map_map]
  exact List.map_congr_left fun i _ => by simp only [Function.comp]; omega
theorem one_form (n : Nat) : oneL n = (n : Int) :: comersF n 1 n := by
  rw [← map_range_rev n 1 n (Nat.le_refl _)]
  simp only [oneL, rangeKs, Int.sub_zero, Int.toNat_natCast, List.map_map]
  show _ :: _ = _ :: _
  congr 1
  exact List.map_congr_left fun i _ => by simp only [Function.comp]; omega
theorem rise_map (n : Nat) : ∀ (j : Nat) (s : Int), (List.range j).map (fun (i : Nat) => (n : Int) + (s + (i : Int))) = riseF n j s := by
  intro j
  induction j with
  | zero => intro s; rfl
  | succ j ih =>
    intro s
    rw [range_cons, show riseF n (j + 1) s = ((n : Int) + s) :: riseF n j (s + 1) from rfl, ← ih (s + 1)]
    congr 1
    · omega
    · exact List.map_congr_left fun i _ => by omega
theorem rise_form (n : Nat) : riseL n = riseF n n 0 := by
  rw [← rise_map n n 0]
  simp only [riseL, rangeKs, Int.sub_zero, Int.toNat_natCast, List.map_map]
  exact List.map_congr_left fun i _ => by simp only [Function.comp]
theorem comersF_length (n : Nat) (b : Int) : ∀ k, (comersF n b k).length = k := by
  intro k
  induction k with
  | zero => rfl
  | succ k ih => show (comersF n b k).length + 1 = _; rw [ih]
theorem riseF_length (n : Nat) : ∀ (j : Nat) (s : Int), (riseF n j s).length = j := by
  intro j
  induction j with
  | zero => intro s; rfl
  | succ j ih => intro s; show (riseF n j (s + 1)).length + 1 = _; rw [ih]
theorem map_back {r : List Int} {a b : Int} (h : a = b) : (r.map fun v => v + a).map (fun v => v - b) = r := by
  rw [List.map_map]
  have : ((fun v : Int => v - b) ∘ fun v => v + a) = id := by funext v; simp only [Function.comp, id]; omega
  rw [this, List.map_id]
/-- told True, and the labels behind the falling newcomers -/
theorem fall_out {r : List Int} {n : Nat} (H : RH r) (hl : r.length = n) (h1 : 1 ≤ n) :
    decide (((fallL n).foldl stp ([], r)).1 = (List.range (fallL n).length).map fun (i : Nat) => (i : Int)) = true ∧ (((fallL n).foldl stp ([], r)).2.map fun v => v - ((fallL n).length : Int)) = evac r := by
  rw [fall_form, (fall_all H hl h1).1, comersF_length]
  exact ⟨decide_eq_true rfl, map_back rfl⟩
theorem one_out {r : List Int} {n : Nat} (H : RH r) (hl : r.length = n) (h1 : 1 ≤ n) :
    decide (((oneL n).foldl stp ([], r)).1 = (List.range (oneL n).length).map fun (i : Nat) => (i : Int)) = true ∧ (((oneL n).foldl stp ([], r)).2.map fun v => v - ((oneL n).length : Int)) = evac (prom r) := by
  rw [one_form, (one_all H hl h1).1, List.length_cons, comersF_length]
  exact ⟨decide_eq_true rfl, map_back (by omega)⟩
theorem rise_out {r : List Int} {n : Nat} (H : RH r) (hl : r.length = n) (h1 : 1 ≤ n) :
    decide (((riseL n).foldl stp ([], r)).1 = (List.range (riseL n).length).map fun (i : Nat) => (i : Int)) = true ∧ (((riseL n).foldl stp ([], r)).2.map fun v => v - ((riseL n).length : Int)) = prs n r := by
  have h0 : (r.map fun v => v + 0) = r := by
    have : (fun v : Int => v + 0) = id := by funext v; simp
    rw [this, List.map_id]
  have e := (rise_run h1 n 0 r [] H hl).1
  rw [h0] at e
  rw [rise_form, e, riseF_length]
  refine ⟨decide_eq_true ?_, map_back (by omega)⟩
  show [] ++ _ = _
  rw [List.nil_append]
  exact List.map_congr_left fun i _ => by omega
/-- a run that is told True, its labels a letter -/
def RunsL (w : World) (args : List Value) (news : Led) (n : Nat) (R : List Int) : Prop :=
  ∀ (dp un : Nat) (gd : Option (List Code)) (cn : Str) (cs : Scope) (a : Addr) (ccd : Value) (cl : List (Str × Addr)) (outer : List Env) (A₀ : Around) (base h₀ : Heap) (L : Addr) (m : Str → Option Value) (s : Shared) (mean : ExcName → Option Value) (mg mb : Str → Option Value)
    (Q E : Value → Shared → Prop),
    Below A₀ base outer h₀ → Fr h₀ L s.heap m → (hd.heap_39 w.params).In h₀ → News h₀ L s.heap news → Top hd.view_39 (looseW hd.view_39 []) mean mg mb h₀ → cs.kind = .function → dp + 12 < recursionLimit → un + 8 * 12 < cLine →
    (∀ ta la vs k h' tk' xs, Fr h₀ L h' m → News h₀ L h' ((ta, { cls := .type "tuple", data := .seq #[.bool true, .ref la] }) :: (la, listOf (List.toArray vs) k) :: news) → LCg.Off1 la news → AllLt ta news → @LT.lt Nat _ la ta → xs = R → RH xs → xs.length = n → IntsAre vs xs → Q (.ref ta) { s with heap := h', toks := tk' }) →
    wpAny (model PySem.Challenge.rw_sc0014_01.row.prog w) (ktrTop dp un gd cn cs L a ccd cl outer) (call (.ref 82) args) Q E s
theorem runsL_of {w : World} {args : List Value} {news : Led} {n : Nat} {R xs : List Int} {b : Bool} (D : RunsTo w 82 args 12 news b xs) (hb : b = true) (hx : xs = R) (H : RH R) (hl : R.length = n) : RunsL w args news n R := by
  subst hb
  subst hx
  intro dp un gd cn cs a ccd cl outer A₀ base h₀ L m s mean mg mb Q E B F X N T hk hdp hun ret
  exact D dp un gd cn cs a ccd cl outer A₀ base h₀ L m s mean mg mb Q E B F X N T hk hdp hun fun ta la vs k h' tk' F' N' o l g hI => ret ta la vs k h' tk' _ F' N' o l g rfl H hl hI
theorem runsL_use {w : World} {args : List Value} {news : Led} {n : Nat} {R : List Int} (D : RunsL w args news n R)
    {dp un : Nat} {gd : Option (List Code)} {cn : Str} {cs : Scope} {a : Addr} {ccd : Value} {cl : List (Str × Addr)} {outer : List Env} {A₀ : Around} {base h₀ : Heap} {L : Addr} {m : Str → Option Value} {s : Shared} {mean : ExcName → Option Value} {mg mb : Str → Option Value}
    {Q E : Value → Shared → Prop} (B : Below A₀ base outer h₀) (F : Fr h₀ L s.heap m) (X : (hd.heap_39 w.params).In h₀) (N : News h₀ L s.heap news) (T : Top hd.view_39 (looseW hd.view_39 []) mean mg mb h₀)
    (hk : cs.kind = .function) (hdp : dp + 12 < recursionLimit) (hun : un + 8 * 12 < cLine)
    (ret : ∀ ta la vs k h' tk' xs, Fr h₀ L h' m → News h₀ L h' ((ta, { cls := .type "tuple", data := .seq #[.bool true, .ref la] }) :: (la, listOf (List.toArray vs) k) :: news) → LCg.Off1 la news → AllLt ta news → @LT.lt Nat _ la ta → xs = R → RH xs → xs.length = n → IntsAre vs xs → Q (.ref ta) { s with heap := h', toks := tk' }) :
    wpAny (model PySem.Challenge.rw_sc0014_01.row.prog w) (ktrTop dp un gd cn cs L a ccd cl outer) (call (.ref 82) args) Q E s :=
  D dp un gd cn cs a ccd cl outer A₀ base h₀ L m s mean mg mb Q E B F X N T hk hdp hun ret
section
variable {w : World} {lr lc : Addr} {vr vc : List Value} {r : List Int} {nr nc n : Nat} {t : Tok} {news : Led}
theorem fallL_len (n : Nat) : (fallL n).length = n := by rw [fall_form, comersF_length]
theorem oneL_len (n : Nat) : (oneL n).length = n + 1 := by rw [one_form, List.length_cons, comersF_length]
theorem riseL_len (n : Nat) : (riseL n).length = n := by rw [rise_form, riseF_length]
theorem use_fall0 (hr : (lr, listOf vr.toArray nr) ∈ news) (hc : (lc, listOf vc.toArray nc) ∈ news) (hir : IntsAre vr r) (hic : IntsAre vc (fallL n)) (H : RH r) (hl : r.length = n) (h3 : 3 ≤ n) (h10 : n ≤ 10) : RunsL w [.ref lr, .ref lc, .int 0 t] news n (evac r) :=
  have q := fall_out H hl (by omega)
  have z := fall_all H hl (by omega)
  runsL_of (run0 hir hic hr hc (by omega) (by omega) (by rw [fallL_len]; omega)) q.1 q.2 z.2.2 z.2.1
theorem use_one0 (hr : (lr, listOf vr.toArray nr) ∈ news) (hc : (lc, listOf vc.toArray nc) ∈ news) (hir : IntsAre vr r) (hic : IntsAre vc (oneL n)) (H : RH r) (hl : r.length = n) (h3 : 3 ≤ n) (h10 : n ≤ 10) : RunsL w [.ref lr, .ref lc, .int 0 t] news n (evac (prom r)) :=
  have q := one_out H hl (by omega)
  have z := one_all H hl (by omega)
  runsL_of (run0 hir hic hr hc (by omega) (by omega) (by rw [oneL_len]; omega)) q.1 q.2 z.2.2.1 z.2.1
theorem use_one1 (hr : (lr, listOf vr.toArray nr) ∈ news) (hc : (lc, listOf vc.toArray nc) ∈ news) (hir : IntsAre vr r) (hic : IntsAre vc (oneL n)) (H : RH r) (hl : r.length = n) (h3 : 3 ≤ n) (h10 : n ≤ 10) : RunsL w [.ref lr, .ref lc, .int 1 t] news n (evac (prom r)) :=
  have q := one_out H hl (by omega)
  have z := one_all H hl (by omega)
  runsL_of (run1 hir hic hr hc (by omega) (by omega) (by rw [oneL_len]; omega) (good_run (by rw [one_form]; exact z.2.2.2))) q.1 q.2 z.2.2.1 z.2.1
theorem use_rise1 (hr : (lr, listOf vr.toArray nr) ∈ news) (hc : (lc, listOf vc.toArray nc) ∈ news) (hir : IntsAre vr r) (hic : IntsAre vc (riseL n)) (H : RH r) (hl : r.length = n) (h3 : 3 ≤ n) (h10 : n ≤ 10) : RunsL w [.ref lr, .ref lc, .int 1 t] news n (prs n r) :=
  have q := rise_out H hl (by omega)
  have z := rise_run (n := n) (by omega) n 0 r [] H hl
  runsL_of (run1 hir hic hr hc (by omega) (by omega) (by rw [riseL_len]; omega) (good_run (by
    have h0 : (r.map fun v => v + 0) = r := by
      have : (fun v : Int => v + 0) = id := by funext v; simp
      rw [this, List.map_id]
    have g := z.2.2.2
    rw [h0] at g
    rw [rise_form]; exact g))) q.1 q.2 z.2.2.1 z.2.1
theorem use_fall2 (hr : (lr, listOf vr.toArray nr) ∈ news) (hc : (lc, listOf vc.toArray nc) ∈ news) (hir : IntsAre vr r) (hic : IntsAre vc (fallL n)) (H : RH r) (hl : r.length = n) (h3 : 3 ≤ n) (h10 : n ≤ 10) : RunsL w [.ref lr, .ref lc, .int 2 t] news n (evac r) := by
  have q := fall_out H hl (by omega)
  have z := fall_all H hl (by omega)
  have e := stm_ng (fallL n) [] r (by omega)
  refine runsL_of (run2 hir hic hr hc (by omega) (by omega) (by rw [fallL_len]; omega)) ?_ ?_ z.2.2 z.2.1
  · rw [ng_one, e]; exact q.1
  · rw [ng_one, e]
    refine Eq.trans ?_ q.2
    unfold ng
    rw [List.map_map]
    exact List.map_congr_left fun k _ => by simp only [Function.comp]; omega
/-- the law's runs, one by one -/
inductive Run (n : Nat) (r : List Int) : Int → List Int → List Int → Prop
  | fall0 : Run n r 0 (fallL n) (evac r)
  | fall2 : Run n r 2 (fallL n) (evac r)
  | one0 : Run n r 0 (oneL n) (evac (prom r))
  | one1 : Run n r 1 (oneL n) (evac (prom r))
  | rise1 : Run n r 1 (riseL n) (prs n r)
theorem use_run {how : Int} {cs R : List Int} (hr : (lr, listOf vr.toArray nr) ∈ news) (hc : (lc, listOf vc.toArray nc) ∈ news) (hir : IntsAre vr r) (hic : IntsAre vc cs) (k : Run n r how cs R) (H : RH r) (hl : r.length = n) (h3 : 3 ≤ n) (h10 : n ≤ 10) : RunsL w [.ref lr, .ref lc, .int how t] news n R := by
  cases k with
  | fall0 => exact use_fall0 hr hc hir hic H hl h3 h10
  | fall2 => exact use_fall2 hr hc hir hic H hl h3 h10
  | one0 => exact use_one0 hr hc hir hic H hl h3 h10
  | one1 => exact use_one1 hr hc hir hic H hl h3 h10
  | rise1 => exact use_rise1 hr hc hir hic H hl h3 h10
end
end Lu
section Lv
open PySem PySem.W PyProof.Rows
def BelowL (w : World) (args : List Value) (news : Led) (n : Nat) (R : List Int) : Prop :=
  ∀ (dp un : Nat) (gd : Option (List Code)) (cn : Str) (cs : Scope) (a : Addr) (ccd : Value) (cl : List (Str × Addr)) (outer : List Env) (A₀ : Around) (base h₀ : Heap) (L : Addr) (m : Str → Option Value) (s : Shared) (mean : ExcName → Option Value) (mg mb : Str → Option Value)
    (Q E : Value → Shared → Prop),
    Below A₀ base outer h₀ → Fr h₀ L s.heap m → (hd.heap_39 w.params).In h₀ → News h₀ L s.heap news → Top hd.view_39 (looseW hd.view_39 []) mean mg mb h₀ → cs.kind = .function → dp + 12 < recursionLimit → un + 8 * 12 < cLine →
    (∀ la vs k h' tk' xs, Fr h₀ L h' m → News h₀ L h' ((la, listOf (List.toArray vs) k) :: news) → LCg.Off1 la news → xs = R → xs.length = n → IntsAre vs xs → Q (.ref la) { s with heap := h', toks := tk' }) →
    wpAny (model PySem.Challenge.rw_sc0014_01.row.prog w) (ktrTop dp un gd cn cs L a ccd cl outer) (call (.ref 87) args) Q E s
theorem belowL_use {w : World} {args : List Value} {news : Led} {n : Nat} {R : List Int} (D : BelowL w args news n R)
    {dp un : Nat} {gd : Option (List Code)} {cn : Str} {cs : Scope} {a : Addr} {ccd : Value} {cl : List (Str × Addr)} {outer : List Env} {A₀ : Around} {base h₀ : Heap} {L : Addr} {m : Str → Option Value} {s : Shared} {mean : ExcName → Option Value} {mg mb : Str → Option Value}
    {Q E : Value → Shared → Prop} (B : Below A₀ base outer h₀) (F : Fr h₀ L s.heap m) (X : (hd.heap_39 w.params).In h₀) (N : News h₀ L s.heap news) (T : Top hd.view_39 (looseW hd.view_39 []) mean mg mb h₀)
    (hk : cs.kind = .function) (hdp : dp + 12 < recursionLimit) (hun : un + 8 * 12 < cLine)
    (ret : ∀ la vs k h' tk' xs, Fr h₀ L h' m → News h₀ L h' ((la, listOf (List.toArray vs) k) :: news) → LCg.Off1 la news → xs = R → xs.length = n → IntsAre vs xs → Q (.ref la) { s with heap := h', toks := tk' }) :
    wpAny (model PySem.Challenge.rw_sc0014_01.row.prog w) (ktrTop dp un gd cn cs L a ccd cl outer) (call (.ref 87) args) Q E s :=
  D dp un gd cn cs a ccd cl outer A₀ base h₀ L m s mean mg mb Q E B F X N T hk hdp hun ret
theorem eqA {f x1 x2 : List Int} (a : x2 = evac f) (b : x1 = evac f) : x2 = x1 := a.trans b.symm
theorem eqB {f x1 x3 : List Int} {n : Nat} (b : x3 = evac x1) (a : x1 = evac f) (H : RH f) (hl : f.length = n) (h3 : 3 ≤ n) : x3 = f := by
  rw [b, a]; exact evac_evac H (by omega)
theorem eqC {f x4 x5 : List Int} {n : Nat} (b : x5 = evac (prom x4)) (a : x4 = evac (prom f)) (H : RH f) (hl : f.length = n) (h3 : 3 ≤ n) : x5 = f := by
  rw [b, a]; exact evac_prom_twice H (by omega)
theorem eqD {f x1 x6 y : List Int} {n : Nat} (b : y = fd tog 0 (n - 1) x1) (a : x1 = evac f) (c : x6 = prs n f) (H : RH f) (hl : f.length = n) (h3 : 3 ≤ n) : y = x6 := by
  rw [b, a, c, ← hl]; exact evac_below H (by omega)
theorem eq_same {prog : Program} {w : World} {A : Around} {E : Value → Shared → Prop} {s : Shared} {a b : Addr} {vs us : List Value} {ns ms : List Int} {Q : Value → Shared → Prop} (hl : s.heap.IsList a vs.toArray) (hi : IntsAre vs ns) (hl' : s.heap.IsList b us.toArray) (hi' : IntsAre us ms) (hu : A.units + 64 < cLine) (e : ns = ms)
    (h : Q (.bool true) s) : wpAny (model prog w) A (compareOp .Eq (.ref a) (.ref b)) Q E s :=
  eq_intsK hl hi hl' hi' hu (by rw [decide_eq_true e]; exact h)
end Lv
section Ld
open PySem PySem.W PyProof.Rows
set_option maxRecDepth 100000
theorem law_post (xs : List Int) : PySem.Challenge.rw_sc0014_01.row.claim.post [ofPy (.list (xs.map .int))] (.bool true) [ofPy (.list (xs.map .int))] = true := by
  kc_post
theorem law_none (xs : List Int) (cls : ExcName) : PySem.Challenge.rw_sc0014_01.row.claim.raises [ofPy (.list (xs.map .int))] cls = false := rfl
end Ld
section Bo
open PySem PySem.W PyProof.Rows PySem.Spec PySem.Calls
set_option maxRecDepth 100000
section
variable {prog : Program} {w : World} {A : Around} {E : Value → Shared → Prop} {s : Shared} {h₀ : Heap} {L D l : Addr} {m : Str → Option Value} {news news' : List (Addr × Obj)} {vs : List Value} {os : List (Option Int)} {n : Nat} {k x : Int} {t u : Tok}
theorem mul_none {Q : Value → Shared → Prop} (Fm : Fr h₀ L s.heap m) (N : News h₀ L s.heap news) (hl : s.heap.IsList l (List.toArray [Value.none])) (hx : x = (n : Int)) (h10 : n ≤ 100)
    (h : ∀ D h' vs, Fr h₀ L h' m → News h₀ L h' ((D, listOf (List.toArray vs) 0) :: news) → (∀ p ∈ news, p.1 < D) → OptsAre vs (List.replicate n none) → Q (.ref D) { s with heap := h' }) : wpAny (model prog w) A (binaryOp .Mult (.ref l) (.int x u)) Q E s := by
  subst hx
  refine KMa.mul Fm N hl (by omega) (by omega) ?_ (lm_rep_flat_one _ _) fun D h' F' N' o => h D h' _ F' N' o ?_
  · simp only [List.length_cons, List.length_nil, Int.toNat_natCast]
    omega
  · exact OptsAre.rep n
theorem opt_sub {value slice : PySem.Expr} {Q : Value → Shared → Prop} (N : News h₀ L s.heap news) (hm : (D, listOf vs.toArray n) ∈ news) (ho : OptsAre vs os) (h0 : 0 ≤ k) (h1 : k < (os.length : Int)) (h10 : os.length ≤ 100)
    (hn : os.getD k.toNat none = none → Q .none s) (hi : ∀ i t, os.getD k.toNat none = some i → Q (.int i t) s)
    (hs : subscripted slice false (.ref D) (.int k u) = operate [.ref D, .int k u] (getItem (.ref D) (.int k u)) := by with_unfolding_all rfl) :
    wpAny (model prog w) A (subscriptTail value slice (.ref D) (.int k u)) Q E s :=
  item_opt (PySem.IsL.isList (n := n) (N _ hm).1) ho h0 h1 h10 hn hi hs
theorem opt_set {Q : Unit → Shared → Prop} (F : Fr h₀ L s.heap m) (N : News h₀ L s.heap news) (U : Upd D (listOf vs.toArray n) (listOf (vs.set k.toNat (.int x u)).toArray n) news news') (ho : OptsAre vs os) (h0 : 0 ≤ k) (h1 : k < (os.length : Int)) (h10 : os.length ≤ 100)
    (h : ∀ h', Fr h₀ L h' m → News h₀ L h' news' → OptsAre (vs.set k.toNat (.int x u)) (os.set k.toNat (some x)) → Q () { s with heap := h' }) :
    wpAny (model prog w) A (setItem (.ref D) (.int k t) (.int x u)) Q E s := by
  obtain ⟨pre, post, rfl, rfl, a, b'⟩ := U.split
  have z := N (D, listOf vs.toArray n) (List.mem_append.mpr (.inr (.head _)))
  have hl : vs.length = os.length := ho.length
  have hs : vs.toArray.size = os.length := by rw [List.size_toArray]; exact hl
  refine ki_setAt z.1 h0 (by omega) (by omega) (h _ (F.change (Heap.SameBut.update ..) z.2.1 z.2.2) (ki_turn _ N a b' ?_ ?_) (ho.set _ _ _))
  · show vs.toArray.setIfInBounds k.toNat (.int x u) = (vs.set k.toNat (.int x u)).toArray
    apply Array.toList_inj.mp
    simp
  · simp
theorem opt_len {Q : Value → Shared → Prop} (N : News h₀ L s.heap news) (hm : (D, listOf vs.toArray n) ∈ news) (ho : OptsAre vs os) (hf : os.length ≤ 100) (h : Q (.int (os.length : Nat) (s.toks + 1)) { s with toks := s.toks + 1 + 1 }) :
    wpAny (model prog w) A (call (.builtin "len") [.ref D]) Q E s :=
  KM.len_K N hm (by rw [List.size_toArray]; exact ho.length) (by omega) h
end
end Bo
section Bl
open PySem PySem.W PyProof.Rows PySem.Spec PySem.Calls
set_option maxRecDepth 100000
section
variable {prog : Program} {w : World} {A : Around} {E : Value → Shared → Prop} {s : Shared} {env : Env} {h₀ : Heap} {x y1 y2 : Str} {body : List Stmt} {Q : Flow → Shared → Prop}
/-- what holds between the turns from below -/
def BelJ (lf lr cg : Addr) (p1 : Addr × Obj) (rest : Led) (nf nr n : Nat) (R : List Int) (x y1 y2 : Str) (m₀ : Str → Option Value) (i : Nat) (m₁ : Str → Option Value) (nx : Led) : Prop :=
  ∃ vf vr og row fo g v, nx = (lf, listOf (List.toArray vf) nf) :: p1 :: (lr, listOf (List.toArray vr) nr) :: (cg, og) :: rest ∧ IntsAre vr row ∧ OptsAre vf fo ∧ og.data = .cell v ∧ FB n i row fo g ∧ rst n i g = R ∧ ∀ z, z ≠ x → z ≠ y1 → z ≠ y2 → m₁ z = m₀ z
theorem bel_fr {L : Addr} {h : Heap} {v : Option Value} {m₁ m₀ : Str → Option Value} (e : ∀ z, z ≠ x → z ≠ y1 → z ≠ y2 → m₁ z = m₀ z) (F : Fr h₀ L h (fun y => if y = x then v else m₁ y)) : Fr h₀ L h (fun y => if y = x then v else if y = y1 then m₁ y1 else if y = y2 then m₁ y2 else m₀ y) := by
  have q : (fun y => if y = x then v else m₁ y) = fun y => if y = x then v else if y = y1 then m₁ y1 else if y = y2 then m₁ y2 else m₀ y := by
    funext y
    by_cases hy : y = x
    · rw [if_pos hy, if_pos hy]
    · rw [if_neg hy, if_neg hy]
      by_cases h1 : y = y1
      · rw [if_pos h1, h1]
      · rw [if_neg h1]
        by_cases h2 : y = y2
        · rw [if_pos h2, h2]
        · rw [if_neg h2, e y hy h1 h2]
  rw [← q]
  exact F
theorem bel_fr0 {L : Addr} {h : Heap} {m₁ m₀ : Str → Option Value} (e : ∀ z, z ≠ x → z ≠ y1 → z ≠ y2 → m₁ z = m₀ z) (F : Fr h₀ L h m₁) : Fr h₀ L h (fun y => if y = x then m₁ x else if y = y1 then m₁ y1 else if y = y2 then m₁ y2 else m₀ y) := by
  refine bel_fr (v := m₁ x) e ?_
  have q : m₁ = fun y => if y = x then m₁ x else m₁ y := by
    funext y
    by_cases hy : y = x
    · rw [if_pos hy, hy]
    · rw [if_neg hy]
  rw [← q]
  exact F
theorem below_loop {r : Addr} {b : Int} {t₀ u₀ v₀ : Tok} {n nf nr : Nat} {m₀ : Str → Option Value} {lf lr cg : Addr} {p1 : Addr × Obj} {rest : Led} {vf vr : List Value} {og : Obj} {row₀ : List Int} {v : Option Value} (y1 y2 : Str)
    (hh : A.handled = none) (hr : IsRange s.heap r 0 b 1 t₀ u₀ v₀) (hb : b = (n : Int)) (h0 : 0 < n) (h10 : n ≤ 10) (F : Fr h₀ env.locals s.heap m₀) (N : News h₀ env.locals s.heap ((lf, listOf (List.toArray vf) nf) :: p1 :: (lr, listOf (List.toArray vr) nr) :: (cg, og) :: rest))
    (hi : IntsAre vr row₀) (ho : OptsAre vf (List.replicate n none)) (hog : og.data = .cell v) (H : RH row₀) (hl : row₀.length = n)
    (turn : ∀ i t vf vr og row fo g v (m₁ : Str → Option Value) h tk own, i < n → OwnOff own (lf :: p1.1 :: lr :: cg :: rest.map (·.1)) → IntsAre vr row → OptsAre vf fo → og.data = .cell v → FB n i row fo g → rst n i g = fd tog 0 (n - 1) row₀ →
      Fr h₀ env.locals h (fun y => if y = x then some (.int (i : Int) t) else if y = y1 then m₁ y1 else if y = y2 then m₁ y2 else m₀ y) → News h₀ env.locals h (((lf, listOf (List.toArray vf) nf) :: p1 :: (lr, listOf (List.toArray vr) nr) :: (cg, og) :: rest) ++ own) →
      wpAny (model prog w) A (execs body env) (InvPostN h₀ env.locals (BelJ lf lr cg p1 rest nf nr n (fd tog 0 (n - 1) row₀) x y1 y2 m₀ (i + 1)) own (lf :: p1.1 :: lr :: cg :: rest.map (·.1)) { s with heap := h, toks := tk } Q) E { s with heap := h, toks := tk })
    (done : ∀ vf vr og xs v (m₁ : Str → Option Value) h tk, IntsAre vf xs → xs.length = n → xs = fd tog 0 (n - 1) row₀ → og.data = .cell v →
      Fr h₀ env.locals h (fun y => if y = x then m₁ x else if y = y1 then m₁ y1 else if y = y2 then m₁ y2 else m₀ y) → News h₀ env.locals h ((lf, listOf (List.toArray vf) nf) :: p1 :: (lr, listOf (List.toArray vr) nr) :: (cg, og) :: rest) → Q .next { s with heap := h, toks := tk }) :
    wpAny (model prog w) A (pyIter (.ref r)) (fun it s₂ => LoopAtV prog w A h₀ env x body Q E it s₂) E s := by
  subst hb
  refine kpr_invN (n := n) (BelJ lf lr cg p1 rest nf nr n (fd tog 0 (n - 1) row₀) x y1 y2 m₀) hh hr (small_one (by decide) (by decide) (by omega) (by omega)) (by rw [rangeSize_nat]; omega) F N ⟨vf, vr, og, row₀, _, row₀, v, rfl, hi, ho, hog, fb_start H hl, rst_start h0, fun _ _ _ _ => rfl⟩ ?_ ?_
  · rintro i k t m₁ nx h tk own hk hoff ⟨vf', vr', og', row', fo', g', v', rfl, a1, a2, a3, a4, a5, a6⟩ F₁ N₁
    have hin : i < n := by
      have := (List.getElem?_eq_some_iff.mp hk).1
      rw [rangeKs_length] at this
      exact this
    have e : k = (i : Int) := by
      have : (rangeKs 0 n)[i]? = some (0 + (i : Int)) := by simp [rangeKs, hin]
      rw [this] at hk
      have := Option.some.inj hk
      omega
    subst e
    exact turn i t vf' vr' og' row' fo' g' v' m₁ h tk own hin hoff a1 a2 a3 a4 a5 (bel_fr a6 F₁) N₁
  · rintro m₁ nx h tk ⟨vf', vr', og', row', fo', g', v', rfl, a1, a2, a3, a4, a5, a6⟩ F₁ N₁
    rw [rangeKs_length] at a4 a5
    have e := fb_end a4
    have eg : g' = fd tog 0 (n - 1) row₀ := by
      rw [← a5]; unfold rst; rw [if_neg (Nat.lt_irrefl _)]
    rw [e] at a2
    exact done vf' vr' og' g' v' m₁ h tk a2.ints a4.lg eg a3 (bel_fr0 a6 F₁) N₁
/-- a turn's end -/
theorem bel_end {lf lr cg : Addr} {p1 : Addr × Obj} {rest own : Led} {nf nr n i tk : Nat} {R : List Int} {m₀ m' : Str → Option Value} {L : Addr} {h' : Heap} {s₁ : Shared} {vf vr : List Value} {og : Obj} {row : List Int} {fo : List (Option Int)} {g : List Int} {v : Option Value} {news' : Led}
    (F : Fr h₀ L h' m') (N : News h₀ L h' news') (hn : ∀ p ∈ (lf, listOf (List.toArray vf) nf) :: p1 :: (lr, listOf (List.toArray vr) nr) :: (cg, og) :: rest, p ∈ news') (hw : ∀ p ∈ own, p ∈ news')
    (a1 : IntsAre vr row) (a2 : OptsAre vf fo) (a3 : og.data = .cell v) (a4 : FB n (i + 1) row fo g) (a5 : rst n (i + 1) g = R) (a6 : ∀ z, z ≠ x → z ≠ y1 → z ≠ y2 → m' z = m₀ z) :
    InvEndN h₀ L (BelJ lf lr cg p1 rest nf nr n R x y1 y2 m₀ (i + 1)) own (lf :: p1.1 :: lr :: cg :: rest.map (·.1)) s₁ { s₁ with heap := h', toks := tk } :=
  InvEndN.intro F N ⟨vf, vr, og, row, fo, g, v, rfl, a1, a2, a3, a4, a5, a6⟩ rfl hn hw
end
end Bl
section Bc
open PySem PySem.W PyProof.Rows PySem.Spec PySem.Calls
set_option maxRecDepth 100000
/-- the free places -/
def Free (n : Nat) (os : List (Option Int)) (fr : List Int) : Prop := ∀ k, k ∈ fr ↔ (0 ≤ k ∧ k < (n : Int) ∧ os.getD k.toNat none = none)
/-- the free places that bear the greatest -/
def Pick (row : List Int) (M : Int) (fr pk : List Int) : Prop := ∀ k ∈ pk, k ∈ fr ∧ row.getD k.toNat 0 = M
abbrev isFree (os : List (Option Int)) (k : Int) : Bool := (os.getD k.toNat none).isNone
abbrev isTop (row : List Int) (M : Int) (k : Int) : Bool := decide (row.getD k.toNat 0 = M)
theorem free_some {n k : Nat} {row : List Int} {fo : List (Option Int)} {g : List Int} (B : FB n k row fo g) (hk : k < n) : ∃ q, q < n ∧ fo.getD q none = none := by
  obtain ⟨p, hp, ep⟩ := B.rh.sur (n - 1) (by rw [B.lg]; omega)
  rw [B.lg] at hp
  refine ⟨p, hp, ?_⟩
  cases e : fo.getD p none with
  | none => rfl
  | some t =>
    have := B.ss p t hp e
    omega
theorem free_of {n : Nat} {os : List (Option Int)} : Free n os ((rangeKs 0 n).foldl (keep (isFree os)) []) := by
  intro k
  rw [keep_foldl, List.nil_append, List.mem_filter]
  constructor
  · rintro ⟨h1, h2⟩
    have := mem_rangeKs h1
    exact ⟨by omega, by omega, by simpa using h2⟩
  · rintro ⟨h1, h2, h3⟩
    refine ⟨?_, by simpa using h3⟩
    simp only [rangeKs, List.mem_map, List.mem_range]
    exact ⟨k.toNat, by omega, by omega⟩
theorem free_len {n k : Nat} {row : List Int} {fo : List (Option Int)} {g fr : List Int} (B : FB n k row fo g) (hk : k < n) (hf : Free n fo fr) : 0 < fr.length := by
  obtain ⟨q, hq, e⟩ := free_some B hk
  exact List.length_pos_of_mem ((hf q).mpr ⟨by omega, by omega, by simpa using e⟩)
section
variable {prog : Program} {w : World} {A : Around} {h₀ : Heap} {L : Addr} {m : Str → Option Value} {env : Env} {ct elt : Expr} {x : Str} {scope : Scope} {cl : List (Str × Addr)} {s : Shared} {S : List (Addr × Obj) → Prop} {P : Nat → Value → Prop} {Fin : List Value → List (Addr × Obj) → Prop} {news : List (Addr × Obj)}
theorem comp_free {n c k : Nat} {row : List Int} {fo : List (Option Int)} {g : List Int} (B : FB n k row fo g) (hk : k < n) (hc : c = n)
    (turn : ∀ k t I oI C oC D m₂ ys l h tk (E' : Value → Shared → Prop), 0 ≤ k → k < (0 : Int) + (c : Int) → IntsAre ys l → LCg.NsObj oC m₂ → m₂ x = some (.int k t) → Fr h₀ L h m → News h₀ L h ((I, oI) :: (C, oC) :: (D, LCg.lst ys) :: news) → LCg.Off3 I C D news → ((@Ne Nat I C) ∧ (@Ne Nat I D) ∧ (@Ne Nat C D)) →
      wpAny (model prog w) A (isTrue ct (compEnvC scope cl C env) (eval ct (compEnvC scope cl C env))) (fun b s' => if b = true then wpAny (model prog w) A (eval elt (compEnvC scope cl C env)) (LCg.CompEnd h₀ L m { s with heap := h, toks := tk } I oI C oC D (LCg.lst ys) S (fun y news' => KCiEl news l (keep (isFree fo) l k) y news')) E' s'
        else LCg.CompEnd h₀ L m { s with heap := h, toks := tk } I oI C oC D (LCg.lst ys) S (fun _ news' => KCiNo news l (keep (isFree fo) l k) news') Value.none s') E' { s with heap := h, toks := tk })
    (fin : ∀ ys fr, IntsAre ys fr → Free n fo fr → 0 < fr.length → fr.length ≤ n → Fin ys news) : LCt.CompRestT prog w A h₀ L m env ct elt x scope cl s S (fun i v => ∃ t, v = .int ((0 : Int) + (i : Int)) t) Fin c 0 [] news := by
  subst hc
  refine kci_range (keep (isFree fo)) (fun k t I oI C oC D m₂ ys l h tk E' a1 a2 a3 a4 a5 a6 a7 a8 a9 _ => turn k t I oI C oC D m₂ ys l h tk E' a1 a2 a3 a4 a5 a6 a7 a8 a9) ?_ (keep_grows _)
  exact fun ys hy hl => fin ys _ hy free_of (free_len B hk free_of) (by rw [← hy.length]; exact hl)
theorem comp_pick {n : Nat} {vs : List Value} {row fr : List Int} {fo : List (Option Int)} {M : Int} (hi : IntsAre vs fr) (hf : Free n fo fr) (hM : M ∈ fr.map fun k => row.getD k.toNat 0)
    (turn : ∀ k t I oI C oC D m₂ ys l h tk (E' : Value → Shared → Prop), 0 ≤ k → k < (n : Int) → IntsAre ys l → LCg.NsObj oC m₂ → m₂ x = some (.int k t) → Fr h₀ L h m → News h₀ L h ((I, oI) :: (C, oC) :: (D, LCg.lst ys) :: news) → LCg.Off3 I C D news → ((@Ne Nat I C) ∧ (@Ne Nat I D) ∧ (@Ne Nat C D)) →
      wpAny (model prog w) A (isTrue ct (compEnvC scope cl C env) (eval ct (compEnvC scope cl C env))) (fun b s' => if b = true then wpAny (model prog w) A (eval elt (compEnvC scope cl C env)) (LCg.CompEnd h₀ L m { s with heap := h, toks := tk } I oI C oC D (LCg.lst ys) S (fun y news' => KCiEl news l (keep (isTop row M) l k) y news')) E' s'
        else LCg.CompEnd h₀ L m { s with heap := h, toks := tk } I oI C oC D (LCg.lst ys) S (fun _ news' => KCiNo news l (keep (isTop row M) l k) news') Value.none s') E' { s with heap := h, toks := tk })
    (fin : ∀ ys pk, IntsAre ys pk → Pick row M fr pk → 0 < pk.length → pk.length ≤ fr.length → Fin ys news) : LCt.CompRestT prog w A h₀ L m env ct elt x scope cl s S (fun i v => vs.toArray[i]? = some v) Fin vs.toArray.size 0 [] news := by
  refine kci_list (keep (isTop row M)) hi (fun k t I oI C oC D m₂ ys l h tk E' a1 a3 a4 a5 a6 a7 a8 a9 _ => turn k t I oI C oC D m₂ ys l h tk E' ((hf k).mp a1).1 ((hf k).mp a1).2.1 a3 a4 a5 a6 a7 a8 a9) ?_ (keep_grows _)
  refine fun ys hy hl => fin ys _ hy (fun k hk => ?_) ?_ (by rw [← hy.length, ← hi.length]; simpa using hl)
  · rw [keep_foldl, List.nil_append, List.mem_filter] at hk
    exact ⟨hk.1, of_decide_eq_true hk.2⟩
  · obtain ⟨k, hk, e⟩ := List.mem_map.mp hM
    rw [keep_foldl, List.nil_append]
    exact List.length_pos_of_mem (List.mem_filter.mpr ⟨hk, decide_eq_true e⟩)
/-- the greatest among the free -/
theorem comp_nums {n : Nat} {vs : List Value} {row fr : List Int} {fo : List (Option Int)} (hi : IntsAre vs fr) (hf : Free n fo fr)
    (turn : ∀ k t I oI C oC D m₂ ys h tk (E' : Value → Shared → Prop), 0 ≤ k → k < (n : Int) → LCg.NsObj oC m₂ → m₂ x = some (.int k t) → Fr h₀ L h m → News h₀ L h ((I, oI) :: (C, oC) :: (D, LCg.lst ys) :: news) → LCg.Off3 I C D news → ((@Ne Nat I C) ∧ (@Ne Nat I D) ∧ (@Ne Nat C D)) →
      wpAny (model prog w) A (eval elt (compEnvC scope cl C env)) (LCg.CompEnd h₀ L m { s with heap := h, toks := tk } I oI C oC D (LCg.lst ys) S (fun y news' => KCfEl news (row.getD k.toNat 0) y news')) E' { s with heap := h, toks := tk })
    (fin : ∀ ys, IntsAre ys (fr.map fun k => row.getD k.toNat 0) → Fin ys news) : LCg.CompRest prog w A h₀ L m env elt x scope cl s S (fun i v => vs.toArray[i]? = some v) Fin vs.toArray.size 0 [] news :=
  kcf_list (fun k => row.getD k.toNat 0) hi (fun k t I oI C oC D m₂ ys h tk E' a1 a4 a5 a6 a7 a8 a9 _ => turn k t I oI C oC D m₂ ys h tk E' ((hf k).mp a1).1 ((hf k).mp a1).2.1 a4 a5 a6 a7 a8 a9) fin
end
section
variable {prog : Program} {w : World} {A : Around} {E : Value → Shared → Prop} {s : Shared} {h₀ : Heap} {L l : Addr} {m : Str → Option Value} {news : List (Addr × Obj)} {vs : List Value}
theorem max_free {fr row : List Int} {Q : Value → Shared → Prop} (F : Fr h₀ L s.heap m) (N : News h₀ L s.heap news) (hl : s.heap.IsList l vs.toArray) (hi : IntsAre vs (fr.map fun k => row.getD k.toNat 0)) (hne : 0 < fr.length) (hh : A.handled = none)
    (h : ∀ h' M (t : Tok) tk, Fr h₀ L h' m → News h₀ L h' news → M ∈ fr.map (fun k => row.getD k.toNat 0) → (∀ a ∈ fr.map (fun k => row.getD k.toNat 0), a ≤ M) → Q (.int M t) { s with heap := h', toks := tk }) : wpAny (model prog w) A (call (.builtin "max") [.ref l]) Q E s :=
  kso_max F N hl hi (by rw [List.length_map]; exact hne) hh h
theorem item_spot {value slice : PySem.Expr} {u : Tok} {n : Nat} {row fr pk : List Int} {fo : List (Option Int)} {M : Int} {Q : Value → Shared → Prop} (hl : s.heap.IsList l vs.toArray) (hi : IntsAre vs pk) (h1 : 0 < pk.length) (hf : Free n fo fr) (hp : Pick row M fr pk)
    (h : ∀ (q : Nat) t, q < n → fo.getD q none = none → row.getD q 0 = M → Q (.int (q : Int) t) s)
    (hs : subscripted slice false (.ref l) (.int 0 u) = operate [.ref l, .int 0 u] (getItem (.ref l) (.int 0 u)) := by with_unfolding_all rfl) :
    wpAny (model prog w) A (subscriptTail value slice (.ref l) (.int 0 u)) Q E s := by
  refine item_anyK hl hi (by decide) (by omega) (by decide) (fun t => ?_) hs
  have hm : pk.getD 0 0 ∈ pk := kso_getD h1
  obtain ⟨a, b⟩ := hp _ hm
  obtain ⟨c1, c2, c3⟩ := (hf _).mp a
  have e : pk.getD 0 0 = ((pk.getD 0 0).toNat : Int) := by omega
  show Q (.int (pk.getD 0 0) t) s
  rw [e]
  exact h _ t (by omega) c3 b
end
/-- what the climb keeps -/
structure UpSt where
  vr : List Value
  row : List Int
  q : Nat
  t : Tok
section
variable {prog : Program} {w : World} {A : Around} {E : Value → Shared → Prop} {Q : Flow → Shared → Prop} {s : Shared} {env : Env} {h₀ : Heap} {L lr : Addr}
theorem up_while {test : Expr} {body : List Stmt} {pos : Pos} {m₀ : Str → Option Value} {vr : List Value} {row : List Int} {n nr q : Nat} {t : Tok} {fo : List (Option Int)} {news X : Led} {G : Obj → Led} (y : Str) (_ : ∀ p ∈ X, p.1 ≠ lr)
    (F : Fr h₀ L s.heap m₀) (N : News h₀ L s.heap news) (U : UpdF lr (listOf (List.toArray vr) nr) news G) (hi : IntsAre vr row) (hl : row.length = n) (hq : q < n) (hy : m₀ y = some (.int (q : Int) t))
    (turn : ∀ (vr' : List Value) (row' : List Int) (q' : Nat) (t' : Tok) (u : Str → Option Value) h tk, IntsAre vr' row' → row'.length = n → q' < n → upl (fre fo) row' q' = upl (fre fo) row q → Fr h₀ L h (fun z => if z = y then some (.int (q' : Int) t') else m₀ z) → News h₀ L h (G (listOf (List.toArray vr') nr)) →
      wpAny (model prog w) A (isTrue test env (eval test env)) (fun b s₂ =>
        if b = true then wpAny (model prog w) A (execs body env) (KswPost h₀ L s (fun c : UpSt => G (listOf (List.toArray c.vr) nr)) (fun c => [(y, .int (c.q : Int) c.t)]) (fun c => IntsAre c.vr c.row) [] m₀ (fun c => c.row.length = n ∧ c.q < n ∧ upl (fre fo) c.row c.q = upl (fre fo) row q) (fun c => c.q) Q ⟨vr', row', q', t'⟩) E s₂ else Q .next s₂) E { s with heap := h, toks := tk })
    (hE : PassesOwn (model prog w) A env E := by passes_own) :
    wpAny (model prog w) A (exec (.While test body [] pos) env) Q E s := by
  have e0 : G (listOf (List.toArray vr) nr) = news := by
    obtain ⟨pre, post, rfl, hg, _, _⟩ := U.split
    exact hg _
  refine ksw_while (fun c : UpSt => G (listOf (List.toArray c.vr) nr)) (fun c => [(y, .int (c.q : Int) c.t)]) (fun c => IntsAre c.vr c.row) [] (fun c => c.row.length = n ∧ c.q < n ∧ upl (fre fo) c.row c.q = upl (fre fo) row q) (fun c => c.q) ⟨vr, row, q, t⟩ F (by rw [← e0] at N; exact N) hi ?_ ⟨hl, hq, rfl⟩ ?_ hE
  · intro p hp
    rw [List.mem_singleton.mp hp]
    exact hy
  · rintro ⟨vr', row', q', t'⟩ u h tk hi' ⟨a1, a2, a3⟩ F' N'
    exact turn vr' row' q' t' u h tk hi' a1 a2 a3 F' N'
theorem up_end {m₀ m' : Str → Option Value} {vr vr2 : List Value} {row row2 : List Int} {n q q2 tk : Nat} {t t2 : Tok} {h' : Heap} {R : List Int × Nat} {fo : List (Option Int)} {news' : Led} {Lc : UpSt → Led} {y : Str} {z2 : Int}
    (F : Fr h₀ L h' m') (N : News h₀ L h' news') (hn : ∀ p ∈ Lc ⟨vr2, row2, q2, t2⟩, p ∈ news') (hi : IntsAre vr2 row2) (he : row2 = row.set q (row.getD ((q - 1) / 2) 0)) (hz : z2 = ((q2 : Nat) : Int)) (hq2 : q2 = (q - 1) / 2) (h0 : 0 < q) (hy : m' y = some (.int z2 t2)) (hr : ∀ z, z ≠ y → m' z = m₀ z)
    (hl : row.length = n) (hq : q < n) (hf : fo.getD ((q - 1) / 2) none = none) (hu : upl (fre fo) row q = R) :
    KswEnd h₀ L s Lc (fun c => [(y, .int (c.q : Int) c.t)]) (fun c => IntsAre c.vr c.row) [] m₀ (fun c => c.row.length = n ∧ c.q < n ∧ upl (fre fo) c.row c.q = R) (fun c => c.q) ⟨vr, row, q, t⟩ { s with heap := h', toks := tk } := by
  subst hz hq2 he
  refine ksw_end (⟨vr2, _, (q - 1) / 2, t2⟩ : UpSt) F N hn hi ?_ ?_ ⟨by rw [List.length_set]; exact hl, by show (q - 1) / 2 < n; omega, ?_⟩ (by show (q - 1) / 2 < q; omega)
  · intro p hp
    rw [List.mem_singleton.mp hp]
    exact hy
  · intro z hz _
    exact hr z (hz _ (.head _))
  · rw [← hu, upl.eq_1 (q := q), if_pos h0, if_pos (by unfold fre; rw [hf]; rfl)]
theorem up_stop {row : List Int} {q : Nat} {fo : List (Option Int)} (h : q = 0 ∨ (0 < q ∧ ∃ i, fo.getD ((q - 1) / 2) none = some i)) : upl (fre fo) row q = (row, q) := by
  rw [upl.eq_1]
  rcases h with rfl | ⟨h0, i, e⟩
  · rfl
  · rw [if_pos h0, if_neg (by unfold fre; rw [e]; exact Bool.false_ne_true)]
theorem up_row {row : List Int} {q : Nat} (h0 : 0 < q) : row.set ((q : Int)).toNat (row.getD (((q : Int) - 1) / 2).toNat 0) = row.set q (row.getD ((q - 1) / 2) 0) := by
  rw [show ((q : Int)).toNat = q by omega, show (((q : Int) - 1) / 2).toNat = (q - 1) / 2 by omega]
theorem off1_lt {d : Addr} : ∀ {l : Led}, AllLt d l → LCg.Off1 d l
  | [], _ => trivial
  | _ :: _, x => ⟨Nat.ne_of_lt x.1, off1_lt x.2⟩
end
theorem sub_in {α : Type} {p x y z a b c d e f : α} {l o : List α} (h : p ∈ a :: b :: c :: d :: e :: f :: l) : p ∈ x :: y :: z :: a :: b :: c :: d :: e :: f :: (l ++ o) :=
  .tail _ (.tail _ (.tail _ (show p ∈ (a :: b :: c :: d :: e :: f :: l) ++ o from List.mem_append.mpr (.inl h))))
theorem sub_own {α : Type} {p x y z a b c d e f : α} {l o : List α} (h : p ∈ o) : p ∈ x :: y :: z :: a :: b :: c :: d :: e :: f :: (l ++ o) :=
  .tail _ (.tail _ (.tail _ (show p ∈ (a :: b :: c :: d :: e :: f :: l) ++ o from List.mem_append.mpr (.inr h))))
theorem half_q {q : Nat} (h : (0 : Int) < (q : Int)) : (((q : Int) - 1) / 2).toNat = (q - 1) / 2 := by omega
theorem half_z {q : Nat} (h : (0 : Int) < (q : Int)) : ((q : Int) - 1) / 2 = (((q - 1) / 2 : Nat) : Int) := by omega
/-- a whole turn, told plainly -/
theorem bel_turn {n k q q2 : Nat} {row row2 fr : List Int} {fo : List (Option Int)} {g R : List Int} {M : Int} (B : FB n k row fo g) (hr : rst n k g = R) (hk : k < n) (hq : q < n) (hf : fo.getD q none = none) (hv : row.getD q 0 = M) (hfr : Free n fo fr)
    (hle : ∀ a ∈ fr.map (fun k => row.getD k.toNat 0), a ≤ M) (hu : upl (fre fo) row2 q2 = upl (fre fo) row q) (hs : q2 = 0 ∨ (0 < q2 ∧ ∃ i, fo.getD ((q2 - 1) / 2) none = some i)) :
    ∃ g', FB n (k + 1) row2 (fo.set q2 (some (k : Int))) g' ∧ rst n (k + 1) g' = R := by
  obtain ⟨g', b1, b2, _⟩ := fb_turn' B hr hk hq hf hv (fun i hi hi2 => hle _ (List.mem_map.mpr ⟨(i : Int), (hfr _).mpr ⟨by omega, by omega, hi2⟩, rfl⟩))
  rw [← hu, up_stop hs] at b1
  exact ⟨g', b1, b2⟩
theorem sub6 {α : Type} {p a b c d e f : α} {l : List α} (h : p ∈ a :: l) : p ∈ a :: b :: c :: d :: e :: f :: l := by
  rcases List.mem_cons.mp h with rfl | h
  · exact .head _
  exact .tail _ (.tail _ (.tail _ (.tail _ (.tail _ (.tail _ h)))))
theorem own_all {own news : Led} {a b c d : Addr} {rest : List Addr} (h : OwnOff own (a :: b :: c :: d :: rest)) (ha : ∀ p ∈ news, p.1 ≠ a) (hc : ∀ p ∈ news, p.1 ≠ c) (hd : ∀ p ∈ news, p.1 ≠ d) :
    (∀ p ∈ news ++ own, p.1 ≠ a) ∧ (∀ p ∈ news ++ own, p.1 ≠ c) ∧ ∀ p ∈ news ++ own, p.1 ≠ d :=
  ⟨fun p hp => (List.mem_append.mp hp).elim (ha p) fun q => h p q a (.head _), fun p hp => (List.mem_append.mp hp).elim (hc p) fun q => h p q c (.tail _ (.tail _ (.head _))), fun p hp => (List.mem_append.mp hp).elim (hd p) fun q => h p q d (.tail _ (.tail _ (.tail _ (.head _))))⟩
section
variable {h₀ h' : Heap} {L I C D : Addr} {m : Str → Option Value} {oI oC oD : Obj} {S : List (Addr × Obj) → Prop} {news : Led} {tk : Nat} {s₁ : Shared} {l : List Int} {k : Int} {t : Tok}
theorem free_yes {os : List (Option Int)} (F : Fr h₀ L h' m) (N : News h₀ L h' ((I, oI) :: (C, oC) :: (D, oD) :: news)) (off : LCg.Off3 I C D news) (hS : S news) (e : os.getD k.toNat none = none) :
    LCg.CompEnd h₀ L m s₁ I oI C oC D oD S (fun y news' => KCiEl news l (keep (isFree os) l k) y news') (.int k t) { s₁ with heap := h', toks := tk } := ⟨h', tk, news, rfl, F, N, off, hS, keep_yes (by show Option.isNone _ = true; rw [e]; rfl)⟩
theorem free_no {os : List (Option Int)} (F : Fr h₀ L h' m) (N : News h₀ L h' ((I, oI) :: (C, oC) :: (D, oD) :: news)) (off : LCg.Off3 I C D news) (hS : S news) (e : ∃ i, os.getD k.toNat none = some i) :
    LCg.CompEnd h₀ L m s₁ I oI C oC D oD S (fun _ news' => KCiNo news l (keep (isFree os) l k) news') .none { s₁ with heap := h', toks := tk } := ⟨h', tk, news, rfl, F, N, off, hS, keep_no (by obtain ⟨i, e⟩ := e; show ¬ Option.isNone _ = true; rw [e]; exact Bool.false_ne_true)⟩
theorem top_yes {row : List Int} {M : Int} (F : Fr h₀ L h' m) (N : News h₀ L h' ((I, oI) :: (C, oC) :: (D, oD) :: news)) (off : LCg.Off3 I C D news) (hS : S news) (e : row.getD k.toNat 0 = M) :
    LCg.CompEnd h₀ L m s₁ I oI C oC D oD S (fun y news' => KCiEl news l (keep (isTop row M) l k) y news') (.int k t) { s₁ with heap := h', toks := tk } := ⟨h', tk, news, rfl, F, N, off, hS, keep_yes (decide_eq_true e)⟩
theorem top_no {row : List Int} {M : Int} (F : Fr h₀ L h' m) (N : News h₀ L h' ((I, oI) :: (C, oC) :: (D, oD) :: news)) (off : LCg.Off3 I C D news) (hS : S news) (e : ¬ row.getD k.toNat 0 = M) :
    LCg.CompEnd h₀ L m s₁ I oI C oC D oD S (fun _ news' => KCiNo news l (keep (isTop row M) l k) news') .none { s₁ with heap := h', toks := tk } := ⟨h', tk, news, rfl, F, N, off, hS, keep_no (mt of_decide_eq_true e)⟩
theorem nums_end {x : Int} (F : Fr h₀ L h' m) (N : News h₀ L h' ((I, oI) :: (C, oC) :: (D, oD) :: news)) (off : LCg.Off3 I C D news) (hS : S news) :
    LCg.CompEnd h₀ L m s₁ I oI C oC D oD S (fun y news' => KCfEl news x y news') (.int x t) { s₁ with heap := h', toks := tk } := ⟨h', tk, news, rfl, F, N, off, hS, rfl, t, rfl⟩
end
end Bc
section Gb
open PySem PySem.W PyProof.Rows
local macro_rules | `(tactic| walk_at "binaryOp FloorDiv int int") => `(tactic| k_extra "Mine binaryOp FloorDiv int int")
local macro_rules | `(tactic| walk_at "subscriptTail Name Slice ref ref") => `(tactic| k_extra "Mine subscriptTail Name Slice ref ref")
local macro_rules | `(tactic| walk_at "binaryOp Mult ref int") => `(tactic| k_extra "Mine binaryOp Mult ref int")
local macro_rules | `(tactic| walk_at "pyIter ref") => `(tactic| (k_here; (fail_if_success (rename Passed => pz)); refine Stop.go ?_))
local macro_rules | `(tactic| walk_at "subscriptTail") => `(tactic| k_extra "Mine subscriptTail")
local macro_rules | `(tactic| walk_at "CompSrcT") => `(tactic| k_extra "Mine CompSrcT")
local macro_rules | `(tactic| walk_at "call builtin:max") => `(tactic| k_extra "Mine call builtin:max")
local macro_rules | `(tactic| walk_at "CompSrc") => `(tactic| k_extra "Mine CompSrc")
local macro_rules | `(tactic| walk_at "CompEnd") => `(tactic| k_extra "Mine CompEnd")
local macro_rules | `(tactic| walk_at "exec While BoolOp cons nil") => `(tactic| (k_here; refine Stop.go ?_))
local macro_rules | `(tactic| walk_at "setItem ref int") => `(tactic| k_extra "Mine setItem ref int")
local macro_rules | `(tactic| walk_at "KswEnd") => `(tactic| refine Stop.go ?_)
local macro_rules | `(tactic| walk_at "InvEndN") => `(tactic| refine Stop.go ?_)
section B1
open PySem PySem.W PyProof.Rows
set_option maxRecDepth 100000 in
set_option maxHeartbeats 8000000 in
theorem below_d {w : World} {lr : Addr} {vr : List Value} {r : List Int} {nr n : Nat} {news : Led} (hr : (lr, listOf vr.toArray nr) ∈ news) (hir : IntsAre vr r) (H : RH r) (hl : r.length = n) (h3 : 3 ≤ n) (h10 : n ≤ 10) : BelowL w [.ref lr] news n (fd tog 0 (n - 1) r) := by
  unfold BelowL
  w_top off
  k_with_none
  k_with "Mine compareOp Eq ref ref" => (k_here; (with_reducible show wpAny _ _ (compareOp CmpOp.Eq (Value.ref _) (Value.ref _)) _ _ _); k_dflt (refine' eq_intsK ?az31 ?bz31 ?cz31 ?dz31 ?uz31 ?_; (case az31 => kmk_list); (case bz31 => l_ints); (case cz31 => kmk_list); (case dz31 => l_ints); (case uz31 => (have hcL9 := cLine_is; (try simp only [units_in1, units_deeper, Around.mark_units, units_caller]); (try dsimp only [ktrTop]); omega)); k_whole))
  k_with "Mine call builtin:list.append" => (k_here; (with_reducible show wpAny _ _ (call (Value.builtin _) [Value.ref _, _]) _ _ _); k_dflt (refine' append_K ?k1z32 ?k2z32 ?k3z32 ?_ ?zz32; (case k1z32 => k_asm); (case k2z32 => k_asm); (case k3z32 => k_upd); (case zz32 => (refine size_of_ints (by assumption) ?_; have q9 := run_len (by assumption) (by assumption) (by assumption); omega)); k_whole); intro h' F' N'; (try k_sweep))
  k_with "Mine FinE" => ((unfold LCg.FinE); intro D' h' tk' F' N' o1'; (try simp only [LCg.Off1, and_true] at o1'); (repeat (obtain ⟨o8, o1'⟩ := o1'; replace o8 := Off.mk o8)); (try replace o1' := Off.mk o1'); (try simp only [List.nil_append, List.cons_append] at N'); (try dsimp only))
  k_with "Mine FinA" => ((unfold LCg.FinA); intro D' h' tk' F' N' o1'; (try simp only [LCg.Off1, and_true] at o1'); (repeat (obtain ⟨o8, o1'⟩ := o1'; replace o8 := Off.mk o8)); (try replace o1' := Off.mk o1'); (try simp only [List.nil_append, List.cons_append] at N'); (try dsimp only))
  k_with "Mine binaryOp FloorDiv int int" => (k_here; (with_reducible show wpAny _ _ (binaryOp _ (Value.int _ _) (Value.int 2 _)) _ _ _); with_reducible refine floordiv_two ?_)
  k_with "Mine subscriptTail Name Slice ref ref" => (k_here; (with_reducible show wpAny _ _ (subscriptTail _ (PySem.Expr.Slice none none none _) (Value.ref _) (Value.ref _)) _ _ _); k_dflt (refine' slice_whole ?Fz36 ?Nz36 ?lz36 ?iz36 ?zz36 ?_ ?sz36 ?tz36; (case Fz36 => k_asm); (case Nz36 => k_asm); (case lz36 => kmk_list); (case iz36 => l_ints); (case zz36 => omega); (case sz36 => with_unfolding_all rfl); (case tz36 => kmk_pure)); intro D' ws' h' F' N' l1 hI'; (try k_lt l1); (try k_sweep))
  k_with "Mine binaryOp Mult ref int" => (k_here; (with_reducible show wpAny _ _ (binaryOp Operator.Mult (Value.ref _) (Value.int (Nat.cast _) _)) _ _ _); k_dflt (refine' mul_none ?Fz37 ?Nz37 ?lz37 rfl ?zz37 ?_; (case Fz37 => k_asm); (case Nz37 => k_asm); (case lz37 => is_list); (case zz37 => omega)); intro D' h' vs' F' N' l1 hO'; (try k_lt l1); (try k_sweep))
  k_with "Mine subscriptTail" => (k_here; (with_reducible show wpAny _ _ (subscriptTail _ _ (Value.ref _) (Value.int _ _)) _ _ _); k_dflt (refine' opt_sub ?k1z38 ?k2z38 ?k3z38 ?k4z38 ?k5z38 ?k6z38 ?_ ?_ ?k7z38; (case k1z38 => k_asm); (case k2z38 => k_mem); (case k3z38 => with_reducible assumption); (case k4z38 => omega); (case k5z38 => omega); (case k6z38 => omega); (case k7z38 => with_unfolding_all rfl)); all_goals (intros; (try k_fold)))
  k_with "Mine CompSrcT" => (k_here; k_dflt (first | (refine LCt.CompSrcT.range (by rfl) (by k_asm) (by k_asm) (by assumption) (by exact small_one (by omega) (by omega) (by omega) (by omega)) (by exact rangeSize_nat _ _) (by (rw [PySem.sizeLine_eq]; omega)) ?_; intro g'; (refine' comp_free (by assumption) (by assumption) (by omega) (fun k' t' I' oI' C' oC' D' m' ys' l' h' tk' E' hlo' hhi' hI' hC' hx' F' N' off' ne' => ?_) (fun ys' fr' hys' hfr' hfp' hfl' => ?_)); (all_goals (try k_fold))) | (refine LCt.CompSrcT.ledger (by rfl) (by k_asm) (by k_asm) (by k_mem) (by (rw [PySem.sizeLine_eq]; (simp only [List.size_toArray]); kcf_lens; omega)) ?_; intro g'; (refine' comp_pick (by assumption) (by assumption) (by assumption) (fun k' t' I' oI' C' oC' D' m' ys' l' h' tk' E' hlo' hhi' hI' hC' hx' F' N' off' ne' => ?_) (fun ys' fr' hys' hfr' hfp' hfl' => ?_)); (all_goals (try k_fold)))))
  k_with "Mine subscriptTail" => (k_here; (with_reducible show wpAny _ _ (subscriptTail _ _ (Value.ref _) (Value.int _ _)) _ _ _); k_dflt (refine' ksa_sub ?k1z40 ?k2z40 ?k3z40 ?k4z40 ?k5z40 ?k6z40 ?_ ?k7z40; (case k1z40 => k_asm); (case k2z40 => k_mem); (case k3z40 => with_reducible assumption); (case k4z40 => omega); (case k5z40 => omega); (case k6z40 => omega); (case k7z40 => with_unfolding_all rfl); k_whole); intro _)
  k_with "Mine subscriptTail" => (k_here; (with_reducible show wpAny _ _ (subscriptTail _ _ (Value.ref _) (Value.int 0 _)) _ _ _); k_dflt (refine' item_spot ?k1z41 ?k2z41 ?k3z41 ?k4z41 ?k5z41 ?_ ?k7z41; (case k1z41 => is_list); (case k2z41 => with_reducible assumption); (case k3z41 => assumption); (case k4z41 => assumption); (case k5z41 => assumption); (case k7z41 => with_unfolding_all rfl); k_whole); intro q9 t9 hq9 hqf9 hqr9)
  k_with "Mine call builtin:max" => (k_here; (with_reducible show wpAny _ _ (call (Value.builtin _) [Value.ref _]) _ _ _); k_dflt (refine' max_free ?k1z42 ?k2z42 ?k3z42 ?k4z42 ?k5z42 ?k6z42 ?_; (case k1z42 => k_asm); (case k2z42 => k_asm); (case k3z42 => is_list); (case k4z42 => l_ints); (case k5z42 => assumption); (case k6z42 => with_unfolding_all rfl); k_whole); intro h' M' t' k' F' N' hM' hle'; (try k_sweep))
  k_with "Mine CompSrc" => (k_here; k_dflt (refine LCg.CompSrc.ledger (by rfl) (by k_asm) (by k_asm) (by k_mem) (by (rw [PySem.sizeLine_eq]; (simp only [List.size_toArray]); kcf_lens; omega)) ?_; intro g'; (refine' comp_nums (by assumption) (by assumption) (fun k' t' I' oI' C' oC' D' m' ys' h' tk' E' hlo' hhi' hC' hx' F' N' off' ne' => ?_) (fun ys' hys' => ?_)); (all_goals (try k_fold))))
  k_with "Mine CompEnd" => (k_here; k_dflt (first | (refine free_yes ?Fz44 ?Nz44 ?oz44 ?sz44 ?ez44; (case Fz44 => k_asm); (case Nz44 => k_asm); (case oz44 => assumption); (case sz44 => first | exact trivial | lcg_src); (case ez44 => assumption)) | (refine free_no ?Fz44 ?Nz44 ?oz44 ?sz44 ?ez44; (case Fz44 => k_asm); (case Nz44 => k_asm); (case oz44 => assumption); (case sz44 => first | exact trivial | lcg_src); (case ez44 => exact ⟨_, by assumption⟩)) | (refine top_yes ?Fz44 ?Nz44 ?oz44 ?sz44 ?ez44; (case Fz44 => k_asm); (case Nz44 => k_asm); (case oz44 => assumption); (case sz44 => first | exact trivial | lcg_src); (case ez44 => assumption)) | (refine top_no ?Fz44 ?Nz44 ?oz44 ?sz44 ?ez44; (case Fz44 => k_asm); (case Nz44 => k_asm); (case oz44 => assumption); (case sz44 => first | exact trivial | lcg_src); (case ez44 => assumption)) | (refine nums_end ?Fz44 ?Nz44 ?oz44 ?sz44; (case Fz44 => k_asm); (case Nz44 => k_asm); (case oz44 => assumption); (case sz44 => first | exact trivial | lcg_src))))
  k_with "Mine setItem ref int" => (k_here; (with_reducible show wpAny _ _ (setItem (Value.ref _) (Value.int _ _) (Value.int _ _)) _ _ _); k_dflt (refine' opt_set ?k1z45 ?k2z45 ?k3z45 ?k4z45 ?k5z45 ?k6z45 ?k7z45 ?_; (case k1z45 => k_asm); (case k2z45 => k_asm); (case k3z45 => k_upd); (case k4z45 => with_reducible assumption); (case k5z45 => omega); (case k6z45 => omega); (case k7z45 => omega); k_whole); intro h' F' N' hO'; (try k_sweep))
  k_fill
  intro dp un gd cn cs a ccd cl outer A₀ base h₀ L m s mean mg mb Q E B F X N T hk hdp hun ret
  refine wpAny_call ?_
  k_dflt (refine' code_defC ?k1 ?k2 ?k3 ?k4 ?k5 ?kA ?kF ?kK ?k6 ?k7 ?k8 ?k9 ?kB ?kD ?_ ?c2 ?c3 ?c4; (case kA => exact rfl); (case kF => exact rfl); (case kK => assumption); (case k1 => k_asm); (case k2 => k_asm); (case k3 => k_asm); (case k4 => k_asm); (case k5 => k_asm); (case k6 => k_is); (case k7 => k_is); (case k8 => ktr_room); (case k9 => exact BindsTo.of_eq rfl); (case kB => exact rfl); (case kD => decide +kernel); (case c2 => exact rfl); (case c3 => exact rfl); (case c4 => exact rfl); k_whole; intro g' L' h' tk' cells' FG' F' N' Y' B' X' T' l1; k_cells Y'; (try simp only [List.cons_append, List.nil_append] at N'); (try dsimp only); (try k_fold))
  have hl0 := l1
  k_steps
  refine stop_pass fun hPass => ?_
  rename IsRange _ _ _ _ _ _ _ _ => hR
  rename Fr _ _ _ _ => hF
  rename News _ _ _ _ => hN
  rename OptsAre _ _ => hO
  rename IntsAre _ r => hI
  rw [hl] at hO
  refine below_loop (n := n) (Str.ofString "free") (Str.ofString "spot") rfl hR (by omega) (by omega) h10 hF hN hI hO (by assumption) H hl ?turn ?done
  case done =>
    clear hF hN hR hI hO
    intro vf9 vr9 og9 xs9 v9 m9 h9 tk9 hI9 hl9 hx9 hd9 F9 N9
    k_steps
    rename (_ ∧ _ ∧ _ ∧ _ ∧ _ ∧ AllLt _ news) => hlt
    rename News h₀ L _ _ => hN
    exact ret _ _ _ _ _ _ (by k_asm) (fun p hp => hN p (sub6 hp)) (off1_lt hlt.2.2.2.2.2) hx9 hl9 hI9
  clear hF hN hR hI hO
  intro i t vf vr og row fo g v m₁ h tk own hi hoff hIr hOf hog hB hRs F₁ N₁
  replace F₁ : Fr g' L' h _ := F₁
  replace N₁ : News g' L' h _ := N₁
  rename (_ ∧ _ ∧ _ ∧ _ ∧ _ ∧ AllLt _ news) => hltF
  rename (_ ∧ _ ∧ _ ∧ AllLt _ news) => hltR
  obtain ⟨hofA, hofB, hofC⟩ := own_all hoff (off_of hltF.2.2.2.2.2) (off_of hltR.2.2.2) (off_lt hl0 (by omega))
  simp only [List.cons_append] at N₁
  have hrl : row.length = n := hB.lr
  have hfl : fo.length = n := hB.lf
  (try k_fold)
  k_steps
  refine Stop.mk ?_
  rename Fr _ _ _ _ => hF
  rename News _ _ _ _ => hN
  rename (row.getD _ 0 = _) => hqr
  rename (fo.getD _ none = none) => hqf
  rename (_ < n) => hq9
  with_reducible (rename Free n fo _ => hfr)
  rename (∀ a ∈ List.map _ _, a ≤ _) => hle
  with_reducible rename (_ = Data.cell (some (Value.int _ _))) => hcell
  refine' up_while (n := n) (fo := fo) (Str.ofString "spot") hofB hF hN ?U hIr hrl hq9 rfl ?climb
  case U => k_updF
  clear hF hN
  intro vr2 row2 q2 t2 u2 h2 tk2 hI2 hl2 hq2 hu2 F2 N2
  (try dsimp only at N2)
  (try k_fold)
  repeat' (first | (k_unfold; (try dsimp only)) | walk1 | (dsimp only; walk1) | (leave1; (try dsimp only)) | fail "no step")
  · refine Stop.mk ?_
    with_reducible (rename ((0 : Int) < (_ : Int)) => h0; rename (fo.getD _ none = none) => hz; rename Fr _ _ _ _ => hF3; rename News _ _ _ _ => hN3; rename IntsAre _ _ => hI3)
    rw [half_q h0] at hz
    refine up_end (y := Str.ofString "spot") (q2 := (q2 - 1) / 2) hF3 hN3 ?_ hI3 (up_row (by omega)) (half_z h0) rfl (by omega) rfl ?_ hl2 hq2 hz hu2
    · exact fun p hp => hp
    · intro z hz
      simp only [if_neg hz]
  · refine Stop.mk ?_
    with_reducible (rename ((0 : Int) < (_ : Int)) => h0; rename (fo.getD _ none = some _) => hz; rename Fr _ _ _ _ => hF3; rename News _ _ _ _ => hN3; rename OptsAre _ _ => hO3)
    rw [half_q h0] at hz
    obtain ⟨g3, hB3, hR3⟩ := bel_turn hB hRs hi hq9 hqf hqr hfr hle hu2 (.inr ⟨by omega, _, hz⟩)
    refine bel_end hF3 hN3 (fun p hp => sub_in hp) (fun p hp => sub_own hp) hI2 hO3 hcell hB3 hR3 (fun z z1 z2 z3 => ?_)
    simp only [if_neg z1, if_neg z2, if_neg z3]
  · refine Stop.mk ?_
    with_reducible (rename (¬ ((0 : Int) < (_ : Int))) => h0; rename Fr _ _ _ _ => hF3; rename News _ _ _ _ => hN3; rename OptsAre _ _ => hO3)
    obtain ⟨g3, hB3, hR3⟩ := bel_turn hB hRs hi hq9 hqf hqr hfr hle hu2 (.inl (by omega))
    refine bel_end hF3 hN3 (fun p hp => sub_in hp) (fun p hp => sub_own hp) hI2 hO3 hcell hB3 hR3 (fun z z1 z2 z3 => ?_)
    simp only [if_neg z1, if_neg z2, if_neg z3]
end B1
end Gb
section Gl
open PySem PySem.W PyProof.Rows
local macro_rules | `(tactic| walk_at "binaryOp FloorDiv int int") => `(tactic| k_extra "Mine binaryOp FloorDiv int int")
local macro_rules | `(tactic| walk_at "binaryOp Mod int int") => `(tactic| k_extra "Mine binaryOp Mod int int")
local macro_rules | `(tactic| walk_at "binaryOp Add int int") => `(tactic| k_extra "Mine binaryOp Add int int")
local macro_rules | `(tactic| walk_at "subscriptTail Name Slice ref ref") => `(tactic| k_extra "Mine subscriptTail Name Slice ref ref")
local macro_rules | `(tactic| walk_at "eval Name") => `(tactic| k_extra "Mine eval Name")
local macro_rules | `(tactic| walk_at "call type:enumerate") => `(tactic| k_extra "Mine call type:enumerate")
local macro_rules | `(tactic| walk_at "exec Assign cons ListComp") => `(tactic| k_extra "Mine exec Assign cons ListComp")
local macro_rules | `(tactic| walk_at "call builtin:list.index") => `(tactic| k_extra "Mine call builtin:list.index")
local macro_rules | `(tactic| walk_at "storeName") => `(tactic| k_extra "Mine storeName")
local macro_rules | `(tactic| walk_at "eval ListComp Compare") => `(tactic| k_extra "Mine eval ListComp Compare")
local macro_rules | `(tactic| walk_at "CompSrc Compare") => `(tactic| k_extra "Mine CompSrc Compare")
local macro_rules | `(tactic| walk_at "CompEnd bool") => `(tactic| k_extra "Mine CompEnd bool")
local macro_rules | `(tactic| walk_at "call builtin:all") => `(tactic| k_extra "Mine call builtin:all")
local macro_rules | `(tactic| walk_at "eval ListComp BinOp") => `(tactic| k_extra "Mine eval ListComp BinOp")
section L1
open PySem PySem.W PyProof.Rows
set_option maxRecDepth 100000 in
set_option maxHeartbeats 6000000 in
theorem L1 : PySem.Challenge.rw_sc0014_01.Holds := by
  refine hd ?_
  w_top off
  k_with_none
  k_with "Mine binaryOp FloorDiv int int" => (k_here; (with_reducible show wpAny _ _ (binaryOp _ (Value.int _ _) (Value.int 2 _)) _ _ _); with_reducible refine floordiv_two ?_)
  k_with "Mine binaryOp Mod int int" => (k_here; (with_reducible show wpAny _ _ (binaryOp _ (Value.int _ _) (Value.int 8 _)) _ _ _); with_reducible refine mod_eight ?_; intro k9 hk9)
  k_with "Mine binaryOp Add int int" => (k_here; (with_reducible show wpAny _ _ (binaryOp _ (Value.int 3 _) (Value.int (Nat.cast _) _)) _ _ _); with_reducible refine add_three (by assumption) ?_; intro n9 hn9 hm9)
  k_with "Mine subscriptTail Name Slice ref ref" => (k_here; (with_reducible show wpAny _ _ (subscriptTail _ (PySem.Expr.Slice (some _) none (some _) _) (Value.ref _) (Value.ref _)) _ _ _); k_dflt (refine' slice_ints3 ?Fz49 ?Nz49 ?lz49 ?iz49 ?pz49 ?qz49 ?kz49 ?oz49 ?_ ?sz49 ?tz49 ?zz49; (case Fz49 => k_asm); (case Nz49 => k_asm); (case lz49 => kmk_list); (case iz49 => l_ints); (case pz49 => kmk_part); (case qz49 => kmk_part); (case kz49 => kmk_part); (case oz49 => (intro e; have := Option.some.inj e; omega)); (case sz49 => with_unfolding_all rfl); (case tz49 => kmk_pure); (case zz49 => kmk_size)); intro D' ws' h' F' N' l1 hI'; (try k_lt l1); (try k_sweep))
  k_with "Mine eval Name" => ((with_reducible rename Heap.Ns _ _ _ => kNs); (with_reducible show wpAny _ _ (eval (Expr.Name _ _) (compEnvC _ _ _ _)) _ _ _); k_dflt (refine ld_ns kNs (by assumption) ?_))
  k_with "Mine subscriptTail Name Slice ref ref" => (k_here; (with_reducible show wpAny _ _ (subscriptTail _ (PySem.Expr.Slice none none none _) (Value.ref _) (Value.ref _)) _ _ _); k_dflt (refine' slice_whole ?Fz51 ?Nz51 ?lz51 ?iz51 ?zz51 ?_ ?sz51 ?tz51; (case Fz51 => k_asm); (case Nz51 => k_asm); (case lz51 => kmk_list); (case iz51 => l_ints); (case zz51 => omega); (case sz51 => with_unfolding_all rfl); (case tz51 => kmk_pure)); intro D' ws' h' F' N' l1 hI'; (try k_lt l1); (try k_sweep))
  k_with "Mine call type:enumerate" => (k_here; k_dflt (refine' enum_src rfl ?Fz52 ?Nz52 ?mz52 ?_; (case Fz52 => k_asm); (case Nz52 => k_asm); (case mz52 => k_mem)); intro h' ys' zs' hys' hzl' hdr'; (try dsimp only))
  k_with "Mine exec Assign cons ListComp" => (k_here; lcp_look; (rename IntsAre _ _ => iA'); k_dflt (refine' Assign_drawn ?Fz53 ?Nz53 ?mz53 ?a1z53 ?a2z53 ?a3z53 ?a4z53 ?a5z53 ?a6z53 ?a7z53 ?a8z53 ?a9z53 ?b1z53 ?b2z53 iA' ?b4z53 ?b5z53 ?eltz53 ?srcz53; (case Fz53 => k_asm); (case Nz53 => k_asm); (case mz53 => k_mem); (case a1z53 => exact rfl); (case a2z53 => with_unfolding_all exact rfl); (case a3z53 => with_unfolding_all exact rfl); (case a4z53 => decide); (case a5z53 => exact rfl); (case a6z53 => decide); (case a7z53 => exact rfl); (case a8z53 => exact rfl); (case a9z53 => decide); (case b1z53 => exact rfl); (case b2z53 => exact rfl); (case b4z53 => exact len_cells _ _); (case b5z53 => assumption); (case eltz53 => (intro C2 m2 i2 k2 t2 u2 s2 Q2 E2 hns2 ha2 hb2 hq2; (repeat' walk1); exact hq2 _ _))))
  k_with "Mine call builtin:list.index" => (k_here; (with_reducible show wpAny _ _ (call (Value.builtin _) [Value.ref _, Value.int _ _]) _ _ _); k_dflt (refine' index_small ?lz54 ?iz54 ?zz54 ?mz54 ?_; (case lz54 => is_list); (case iz54 => l_ints); (case zz54 => omega); (case mz54 => exact mem_two (by assumption) (by assumption) (by assumption))))
  k_with "Mine storeName" => (k_here; k_dflt (refine' storeX_C ?Fz55 ?Nz55 ?cz55 ?Uz55 ?dz55 ?_ ?az55 ?bz55; (case az55 => rfl); (case bz55 => rfl); (case Fz55 => k_asm); (case Nz55 => k_asm); (case cz55 => rfl); (case Uz55 => k_updF); (case dz55 => k_asm); k_whole; intro h' o' F' N' d'; (try dsimp only at N'); (try k_sweep)))
  k_with "Mine storeName" => (k_here; (fail_if_success (rename Passed => pz)); (with_reducible show wpAny _ _ (storeName _ (PySem.Str.ofString "first") _) _ _ _); refine Stop.go ?_)
  k_with "Mine FinE" => ((unfold LCg.FinE); intro D' h' tk' F' N' o1'; (try simp only [LCg.Off1, and_true] at o1'); (repeat (obtain ⟨o8, o1'⟩ := o1'; replace o8 := Off.mk o8)); (try replace o1' := Off.mk o1'); (try simp only [List.nil_append, List.cons_append] at N'); (try dsimp only))
  k_with "Mine FinA" => ((unfold LCg.FinA); intro D' h' tk' F' N' o1'; (try simp only [LCg.Off1, and_true] at o1'); (repeat (obtain ⟨o8, o1'⟩ := o1'; replace o8 := Off.mk o8)); (try replace o1' := Off.mk o1'); (try simp only [List.nil_append, List.cons_append] at N'); (try dsimp only))
  k_with "Mine eval ListComp Compare" => (k_here; k_dflt (refine LCg.ListComp_U (F₀ := by k_asm) (by with_unfolding_all rfl) (by decide) (by rfl) (by decide) (by rfl) ?_))
  k_with "Mine CompSrc Compare" => (k_here; k_dflt (refine LCg.CompSrc.range (by rfl) (by k_asm) (by k_asm) (by assumption) (by exact small_one (by omega) (by omega) (by omega) (by omega)) (by exact rangeSize_nat _ _) (by (rw [PySem.sizeLine_eq]; omega)) ?_); intro g'; (refine' kcb_range (fun k' t' I' oI' C' oC' D' m' ys' h' tk' E' hlo' hhi' hC' hx' F' N' off' => ?_) (fun ys' hys' => ?_)); (all_goals (try k_fold)))
  k_with "Mine CompEnd bool" => (k_here; k_dflt (refine true_end ?Fz61 ?Nz61 ?oz61 ?sz61 ?ez61; (case Fz61 => k_asm); (case Nz61 => k_asm); (case oz61 => assumption); (case sz61 => exact trivial); (case ez61 => exact heap_lt (by assumption) (by assumption) (by assumption) (by assumption))))
  k_with "Mine call builtin:all" => (k_here; k_dflt (refine' all_true ?Fz62 ?Nz62 (by rfl) ?lz62 ?bz62 ?_; (case Fz62 => k_asm); (case Nz62 => k_asm); (case lz62 => kmk_list); (case bz62 => assumption)); intro h' tk' F' N')
  k_with "Mine eval ListComp BinOp" => (k_here; k_dflt (refine LCg.ListComp_U (F₀ := by k_asm) (by with_unfolding_all rfl) (by decide) (by rfl) (by decide) (by rfl) ?_))
  k_with "Mine call ref" => (k_here; (with_reducible show wpAny _ _ (call (Value.ref 82) _) _ _ _); k_dflt (refine' runsL_use (use_run ?m1z64 ?m2z64 ?i1z64 ?i2z64 ?kz64 ?Hz64 ?lz64 ?pz64 ?qz64) ?Bz64 ?Fz64 ?Xz64 ?Nz64 ?Tz64 ?hkz64 ?hdpz64 ?hunz64 ?_; (case Bz64 => k_asm); (case Fz64 => k_asm); (case Xz64 => k_asm); (case Nz64 => k_asm); (case m1z64 => k_mem); (case m2z64 => k_mem); (case i1z64 => assumption); (case i2z64 => assumption); (case kz64 => constructor); (case Hz64 => assumption); (case lz64 => assumption); (case pz64 => assumption); (case qz64 => assumption); (case Tz64 => k_asm); (case hkz64 => first | exact rfl | assumption); (case hdpz64 => ktr_room); (case hunz64 => ktr_units)); intro ta9 la9 vs9 k9 h9 tk9 xs9 F9 N9 o9 l9 g9 e9 H9 z9 hI9; (try simp only [LCg.Off1, and_true] at o9); (repeat (obtain ⟨o8, o9⟩ := o9; replace o8 := Off.mk o8)); (try replace o9 := Off.mk o9); (try simp only [AllLt, and_true] at l9); (try dsimp only); (try k_fold))
  k_with "Mine call ref" => (k_here; (with_reducible show wpAny _ _ (call (Value.ref 87) _) _ _ _); k_dflt (refine' belowL_use (below_d ?m1z65 ?i1z65 ?Hz65 ?lz65 ?pz65 ?qz65) ?Bz65 ?Fz65 ?Xz65 ?Nz65 ?Tz65 ?hkz65 ?hdpz65 ?hunz65 ?_; (case Bz65 => k_asm); (case Fz65 => k_asm); (case Xz65 => k_asm); (case Nz65 => k_asm); (case m1z65 => k_mem); (case i1z65 => assumption); (case Hz65 => assumption); (case lz65 => assumption); (case pz65 => assumption); (case qz65 => assumption); (case Tz65 => k_asm); (case hkz65 => first | exact rfl | assumption); (case hdpz65 => ktr_room); (case hunz65 => ktr_units)); intro la9 vs9 k9 h9 tk9 xs9 F9 N9 o9 e9 z9 hI9; (try simp only [LCg.Off1, and_true] at o9); (repeat (obtain ⟨o8, o9⟩ := o9; replace o8 := Off.mk o8)); (try replace o9 := Off.mk o9); (try dsimp only); (try k_fold))
  k_with "Mine compareOp Eq ref ref" => (k_here; (rename Passed => pz); k_dflt (refine' eq_same ?az66 ?bz66 ?cz66 ?dz66 ?uz66 ?ez66 ?_; (case az66 => kmk_list); (case bz66 => assumption); (case cz66 => kmk_list); (case dz66 => assumption); (case uz66 => units_room); (case ez66 => first | exact eqA (by assumption) (by assumption) | exact eqB (by assumption) (by assumption) (by assumption) (by assumption) (by assumption) | exact eqC (by assumption) (by assumption) (by assumption) (by assumption) (by assumption) | exact eqD (by assumption) (by assumption) (by assumption) (by assumption) (by assumption) (by assumption)); k_whole))
  k_with "Mine call ref" => (k_here; (with_reducible show wpAny _ _ (call (Value.ref 35) _) _ _ _); k_dflt (refine' does_use (does_of (heapify_d ?pIz67 ?p0z67)) ?Bz67 ?Fz67 ?Xz67 ?Nz67 ?Uz67 ?Tz67 ?hkz67 ?hdpz67 ?hunz67 ?_; (case Bz67 => k_asm); (case Fz67 => k_asm); (case Xz67 => k_asm); (case Nz67 => k_asm); (case Uz67 => k_updF); (case pIz67 => assumption); (case p0z67 => first | assumption | omega | (simp only [List.length_map]; omega)); (case Tz67 => k_asm); (case hkz67 => first | exact rfl | assumption); (case hdpz67 => ktr_room); (case hunz67 => ktr_units); intro r9 o9 h9 tk9 F9 N9 P9; obtain ⟨e9, vs9, n9, q9, hi9⟩ := P9; subst e9; subst q9; (replace hi9 := heap_var hi9); obtain ⟨ys9, hi9, hy9, hl9, hp9⟩ := hi9; (try simp only [List.length_map] at hl9); (try dsimp only); (try k_fold)))
  k_with "Mine call ref" => (k_here; (with_reducible show wpAny _ _ (call (Value.ref 49) _) _ _ _); k_dflt (refine' does_use (does_of (heapify_m ?pIz68 ?p0z68)) ?Bz68 ?Fz68 ?Xz68 ?Nz68 ?Uz68 ?Tz68 ?hkz68 ?hdpz68 ?hunz68 ?_; (case Bz68 => k_asm); (case Fz68 => k_asm); (case Xz68 => k_asm); (case Nz68 => k_asm); (case Uz68 => k_updF); (case pIz68 => assumption); (case p0z68 => first | assumption | omega | (simp only [List.length_map]; omega)); (case Tz68 => k_asm); (case hkz68 => first | exact rfl | assumption); (case hdpz68 => ktr_room); (case hunz68 => ktr_units); intro r9 o9 h9 tk9 F9 N9 P9; obtain ⟨e9, vs9, n9, q9, hi9⟩ := P9; subst e9; subst q9; (replace hi9 := heap_var hi9); obtain ⟨ys9, hi9, hy9, hl9, hp9⟩ := hi9; (try simp only [List.length_map] at hl9); (try dsimp only); (try k_fold)))
  k_go0
  (all_goals try k_fold)
  k_steps
  rename Drawn _ => hdr
  rename _ = hpf lo _ _ => hy
  rename _ = hpf hi _ _ => hy2
  rename List.Pairwise _ _ => ho
  rename 3 ≤ _ => h3
  rename _ ≤ 10 => h10
  have hX := law_first2 (by assumption) h3 h10 hdr hy hy2 ho (by assumption)
  obtain ⟨hneg, fst, hRH, hfl, hup⟩ := hX
  have hfI := hup _ (by assumption)
  rename Fr _ _ _ _ => hF
  rename News _ _ _ _ => hN
  rw [hneg, decide_eq_true rfl] at hF
  replace hN := news_drop6 hN
  clear hdr hy hy2 ho hneg hup
  refine stop_pass fun hPass => ?_
  repeat' (first | (k_unfold; (try dsimp only)) | walk1 | (dsimp only; walk1) | (leave1; (try dsimp only)) | fail "no step")
  exact goodW_bool (by assumption) (by assumption) (law_none _) (law_post _)
end L1
end Gl
end Gr
end Ga
end G0
end Mine
theorem PySem.Challenge.cw_sc0014_01_holds : PySem.Challenge.rw_sc0014_01.Holds :=
  Mine.L1
