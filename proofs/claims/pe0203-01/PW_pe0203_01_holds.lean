import PyProof.Rows.All
import Wide.All
import OpenK.AllK
import Wide.FinOn
import Lean
import PySem.Challenge.RW_pe0203_01
set_option Elab.async false
set_option maxRecDepth 100000
namespace Mine
section
open PySem PySem.W PyProof.Rows
set_option maxHeartbeats 8000000 in
open_top hd for PySem.Challenge.rw_pe0203_01
end
/-! part M1 -/
section

/-! numbers by figures -/
def val8 : List Nat → Nat
  | [] => 0
  | d :: r => d * 8 ^ r.length + val8 r
theorem val8_append (a b : List Nat) : val8 (a ++ b) = val8 a * 8 ^ b.length + val8 b := by
  induction a with
  | nil => simp [val8]
  | cons d r ih =>
    rw [List.cons_append, val8, val8, ih, List.length_append, Nat.pow_add, Nat.add_mul, Nat.mul_assoc, Nat.add_assoc]
theorem val8_lt (a : List Nat) (h : ∀ d ∈ a, d < 8) : val8 a < 8 ^ a.length := by
  induction a with
  | nil => simp [val8]
  | cons d r ih =>
    have h1 := ih fun x hx => h x (.tail _ hx)
    have h2 := h d (.head _)
    rw [val8, List.length_cons, Nat.pow_succ]
    have h3 : d * 8 ^ r.length ≤ 7 * 8 ^ r.length := Nat.mul_le_mul_right _ (by omega)
    omega
theorem val8_inj : ∀ (a b : List Nat), a.length = b.length → (∀ d ∈ a, d < 8) → (∀ d ∈ b, d < 8) → val8 a = val8 b → a = b
  | [], [], _, _, _, _ => rfl
  | [], _ :: _, h, _, _, _ => by simp at h
  | _ :: _, [], h, _, _, _ => by simp at h
  | x :: a, y :: b, hl, ha, hb, h => by
    have hl' : a.length = b.length := by simpa using hl
    have h1 := val8_lt a fun d hd => ha d (.tail _ hd)
    have h2 := val8_lt b fun d hd => hb d (.tail _ hd)
    rw [val8, val8, hl'] at h
    rw [hl'] at h1
    have hp : 0 < 8 ^ b.length := Nat.pow_pos (by decide)
    have e1 : (x * 8 ^ b.length + val8 a) / 8 ^ b.length = x := by
      rw [Nat.mul_comm, Nat.mul_add_div hp, Nat.div_eq_of_lt h1]; rfl
    have e2 : (y * 8 ^ b.length + val8 b) / 8 ^ b.length = y := by
      rw [Nat.mul_comm, Nat.mul_add_div hp, Nat.div_eq_of_lt h2]; rfl
    have exy : x = y := by rw [← e1, ← e2, h]
    subst exy
    rw [val8_inj a b hl' (fun d hd => ha d (.tail _ hd)) (fun d hd => hb d (.tail _ hd)) (by omega)]
theorem val8_take (a : List Nat) (h : ∀ d ∈ a, d < 8) (k : Nat) : val8 a / 8 ^ (a.length - k) = val8 (a.take k) := by
  have e : a = a.take k ++ a.drop k := (List.take_append_drop k a).symm
  have hd : (a.drop k).length = a.length - k := by simp
  have h1 := val8_lt (a.drop k) fun d hd => h d (List.mem_of_mem_drop hd)
  rw [hd] at h1
  have hp : 0 < 8 ^ (a.length - k) := Nat.pow_pos (by decide)
  have e2 : val8 a = val8 (a.take k) * 8 ^ (a.length - k) + val8 (a.drop k) := by
    conv => lhs; rw [e]
    rw [val8_append, hd]
  rw [e2, Nat.mul_comm, Nat.mul_add_div hp, Nat.div_eq_of_lt h1]; rfl

def nxt8 (n x : Nat) : Nat := (x * 8) % 8 ^ n + (x * 8) / 8 ^ n
def num8 (n B : Nat) : Nat → Nat
  | 0 => B
  | k + 1 => nxt8 n (num8 n B k)
def rot (f : List Nat) (k : Nat) : List Nat := f.drop k ++ f.take k
theorem rot_len (f : List Nat) (k : Nat) (h : k ≤ f.length) : (rot f k).length = f.length := by simp [rot]; omega
theorem rot_mem (f : List Nat) (k : Nat) (d : Nat) (h : d ∈ rot f k) : d ∈ f := by
  rcases List.mem_append.mp h with h | h
  · exact List.mem_of_mem_drop h
  · exact List.mem_of_mem_take h
theorem nxt8_cons (d : Nat) (r : List Nat) (hr : ∀ x ∈ r, x < 8) : nxt8 (r.length + 1) (val8 (d :: r)) = val8 (r ++ [d]) := by
  have h1 := val8_lt r hr
  have e : val8 (d :: r) * 8 = 8 ^ (r.length + 1) * d + 8 * val8 r := by
    rw [val8, Nat.pow_succ, Nat.add_mul, Nat.mul_comm (val8 r) 8]
    congr 1
    rw [Nat.mul_comm d, Nat.mul_assoc, Nat.mul_comm d 8, ← Nat.mul_assoc]
  have h2 : 8 * val8 r < 8 ^ (r.length + 1) := by rw [Nat.pow_succ]; omega
  unfold nxt8
  rw [e, Nat.mul_add_mod, Nat.mod_eq_of_lt h2, Nat.mul_add_div (Nat.pow_pos (by decide)), Nat.div_eq_of_lt h2, val8_append]
  simp [val8]; omega
theorem rot_split (f : List Nat) (k : Nat) (h : k < f.length) : rot f k = f[k] :: (f.drop (k + 1) ++ f.take k) ∧ rot f (k + 1) = (f.drop (k + 1) ++ f.take k) ++ [f[k]] := by
  constructor
  · rw [rot, List.drop_eq_getElem_cons h]; rfl
  · rw [rot, List.take_succ_eq_append_getElem h, List.append_assoc]
theorem num8_rot (f : List Nat) (hf : ∀ d ∈ f, d < 8) : ∀ k, k ≤ f.length → num8 f.length (val8 f) k = val8 (rot f k)
  | 0, _ => by simp [num8, rot]
  | k + 1, h => by
    rw [num8, num8_rot f hf k (by omega)]
    obtain ⟨e1, e2⟩ := rot_split f k (by omega)
    have e3 := nxt8_cons f[k] (f.drop (k + 1) ++ f.take k) fun x hx => by
      rcases List.mem_append.mp hx with h | h
      · exact hf _ (List.mem_of_mem_drop h)
      · exact hf _ (List.mem_of_mem_take h)
    rw [← e1, ← e2] at e3
    rw [← e3]
    congr 1
    simp; omega
theorem num8_round (f : List Nat) (hf : ∀ d ∈ f, d < 8) : num8 f.length (val8 f) f.length = val8 f := by
  rw [num8_rot f hf _ (Nat.le_refl _)]; simp [rot]

/-- the turn back -/
def rho (m v : Nat) : Nat := (v % 8) * 8 ^ m + v / 8
theorem fig_mod (a b : Nat) (h : b < 8) : (a * 8 + b) % 8 = b := by omega
theorem fig_div (a b : Nat) (h : b < 8) : (a * 8 + b) / 8 = a := by omega
theorem rho_nxt (m x : Nat) (hx : x < 8 ^ (m + 1)) : rho m (nxt8 (m + 1) x) = x := by
  have h1 : x / 8 ^ m < 8 := Nat.div_lt_of_lt_mul (by rw [Nat.pow_succ] at hx; omega)
  have e1 : x * 8 % 8 ^ (m + 1) = x % 8 ^ m * 8 := by rw [Nat.pow_succ, Nat.mul_mod_mul_right]
  have e2 : x * 8 / 8 ^ (m + 1) = x / 8 ^ m := by rw [Nat.pow_succ, Nat.mul_div_mul_right _ _ (by decide)]
  unfold rho nxt8
  rw [e1, e2]
  have e3 : (x % 8 ^ m * 8 + x / 8 ^ m) % 8 = x / 8 ^ m := fig_mod _ _ h1
  have e4 : (x % 8 ^ m * 8 + x / 8 ^ m) / 8 = x % 8 ^ m := fig_div _ _ h1
  rw [e3, e4, Nat.mul_comm]
  exact Nat.div_add_mod x (8 ^ m)
theorem nxt8_last (m x : Nat) (hx : x < 8 ^ (m + 1)) : nxt8 (m + 1) x % 8 = x * 8 / 8 ^ (m + 1) := by
  have h1 : x / 8 ^ m < 8 := Nat.div_lt_of_lt_mul (by rw [Nat.pow_succ] at hx; omega)
  have e1 : x * 8 % 8 ^ (m + 1) = x % 8 ^ m * 8 := by rw [Nat.pow_succ, Nat.mul_mod_mul_right]
  have e2 : x * 8 / 8 ^ (m + 1) = x / 8 ^ m := by rw [Nat.pow_succ, Nat.mul_div_mul_right _ _ (by decide)]
  unfold nxt8
  rw [e1, e2]
  exact fig_mod _ _ h1

/-! counting in a rising row -/
theorem rho_lt_iff {m v c z : Nat} (hv : v < 8 ^ (m + 1)) (hz : z ≤ 8 ^ m) : rho m v < c * 8 ^ m + z ↔ v % 8 < c ∨ (v % 8 = c ∧ v < 8 * z) := by
  have h1 : v / 8 < 8 ^ m := Nat.div_lt_of_lt_mul (by rw [Nat.pow_succ] at hv; omega)
  unfold rho
  rcases Nat.lt_trichotomy (v % 8) c with h | h | h
  · have : (v % 8 + 1) * 8 ^ m ≤ c * 8 ^ m := Nat.mul_le_mul_right _ h
    rw [Nat.add_mul] at this
    exact ⟨fun _ => .inl h, fun _ => by omega⟩
  · subst h
    constructor
    · intro h; right; omega
    · rintro (h | h) <;> omega
  · have : (c + 1) * 8 ^ m ≤ v % 8 * 8 ^ m := Nat.mul_le_mul_right _ h
    rw [Nat.add_mul] at this
    constructor
    · intro; omega
    · rintro (h | h) <;> omega
theorem countP_or {α : Type} (p q r : α → Bool) : ∀ (l : List α), (∀ x ∈ l, p x = (q x || r x)) → (∀ x ∈ l, q x = true → r x = false) → l.countP p = l.countP q + l.countP r
  | [], _, _ => rfl
  | x :: l, h, h2 => by
    rw [List.countP_cons, List.countP_cons, List.countP_cons, countP_or p q r l (fun y hy => h y (.tail _ hy)) (fun y hy => h2 y (.tail _ hy)), h x (.head _)]
    have h3 := h2 x (.head _)
    cases hq : q x <;> cases hr : r x <;> simp_all <;> omega
theorem take_countP : ∀ (V : List Nat) (x : Nat), V.Pairwise (· ≤ ·) → V.take (V.countP (· < x)) = V.filter (· < x)
  | [], _, _ => rfl
  | v :: V, x, h => by
    obtain ⟨h1, h2⟩ := List.pairwise_cons.mp h
    by_cases hv : v < x
    · rw [List.countP_cons_of_pos (by simpa using hv), List.take_succ_cons, take_countP V x h2, List.filter_cons_of_pos (by simpa using hv)]
    · have h0 : V.countP (· < x) = 0 := by
        rw [List.countP_eq_zero]
        intro y hy
        have := h1 y hy
        simp; omega
      rw [List.countP_cons_of_neg (by simpa using hv), h0]
      symm
      simp only [List.take_zero, List.filter_eq_nil_iff]
      intro y hy
      rcases List.mem_cons.mp hy with rfl | hy
      · simpa using hv
      · have := h1 y hy
        simp; omega
theorem led_cnt {V : List Nat} {m c z : Nat} (hs : V.Pairwise (· ≤ ·)) (hV : ∀ v ∈ V, v < 8 ^ (m + 1)) (hp : (V.map (rho m)).Perm V) (hz : z ≤ 8 ^ m) :
    (V.map (· % 8)).countP (· < c) + ((V.map (· % 8)).take (V.countP (· < 8 * z))).count c = V.countP (· < c * 8 ^ m + z) := by
  have e := hp.countP_eq (fun v => decide (v < c * 8 ^ m + z))
  rw [← e, List.countP_map, List.countP_map, ← List.map_take, take_countP V _ hs, List.count, List.countP_map, List.countP_filter]
  symm
  refine countP_or _ _ _ V (fun v hv => ?_) (fun v hv h => ?_)
  · have := rho_lt_iff (c := c) (hV v hv) hz
    simp only [Function.comp]
    rw [Bool.eq_iff_iff]
    simp [this]
  · simp only [Function.comp, decide_eq_true_eq] at h
    simp; omega

theorem sorted_at {V : List Nat} (hs : V.Pairwise (· ≤ ·)) {q u : Nat} (h1 : V.countP (· < u) ≤ q) (h2 : q < V.countP (· < u + 1)) : V[q]? = some u := by
  induction V generalizing q with
  | nil => simp at h2
  | cons v V ih =>
    obtain ⟨a1, a2⟩ := List.pairwise_cons.mp hs
    rcases Nat.lt_trichotomy v u with h | h | h
    · rw [List.countP_cons_of_pos (by simpa using h)] at h1
      rw [List.countP_cons_of_pos (by simp; omega)] at h2
      obtain ⟨q', rfl⟩ : ∃ q', q = q' + 1 := ⟨q - 1, by omega⟩
      rw [List.getElem?_cons_succ]
      exact ih a2 (by omega) (by omega)
    · subst h
      cases q with
      | zero => rfl
      | succ q =>
        rw [List.getElem?_cons_succ]
        have h0 : V.countP (· < v) = 0 := by
          rw [List.countP_eq_zero]
          intro y hy
          have := a1 y hy
          simp; omega
        rw [List.countP_cons_of_pos (by simp)] at h2
        exact ih a2 (by omega) (by omega)
    · have h0 : (v :: V).countP (· < u + 1) = 0 := by
        rw [List.countP_eq_zero]
        intro y hy
        rcases List.mem_cons.mp hy with rfl | hy
        · simp; omega
        · have := a1 y hy
          simp; omega
      omega
theorem countP_take_le {V : List Nat} (hs : V.Pairwise (· ≤ ·)) {p x : Nat} (hx : V[p]? = some x) (c : Nat) :
    V.countP (fun v => decide (v % 8 = c) && decide (v < x)) ≤ (V.take p).countP (fun v => decide (v % 8 = c)) ∧
    (V.take p).countP (fun v => decide (v % 8 = c)) + (if x % 8 = c then 1 else 0) ≤ V.countP (fun v => decide (v % 8 = c) && decide (v < x + 1)) := by
  induction V generalizing p with
  | nil => simp at hx
  | cons v V ih =>
    obtain ⟨a1, a2⟩ := List.pairwise_cons.mp hs
    cases p with
    | zero =>
      rw [List.getElem?_cons_zero] at hx
      have hvx : v = x := by simpa using hx
      subst hvx
      constructor
      · rw [List.take_zero, List.countP_nil, Nat.le_zero, List.countP_eq_zero]
        intro y hy
        rcases List.mem_cons.mp hy with rfl | hy
        · simp
        · have := a1 y hy
          simp; omega
      · rw [List.take_zero, List.countP_nil, Nat.zero_add, List.countP_cons]
        by_cases h : v % 8 = c
        · simp [h]
        · simp [h]
    | succ p =>
      rw [List.getElem?_cons_succ] at hx
      have hvx : v ≤ x := a1 x (List.mem_of_getElem? hx)
      obtain ⟨i1, i2⟩ := ih a2 hx
      rw [List.take_succ_cons, List.countP_cons, List.countP_cons, List.countP_cons]
      have e : (decide (v % 8 = c) && decide (v < x + 1)) = decide (v % 8 = c) := by
        rw [show decide (v < x + 1) = true by simp; omega, Bool.and_true]
      rw [e]
      have e2 : (if (decide (v % 8 = c) && decide (v < x)) = true then 1 else 0) ≤ (if decide (v % 8 = c) = true then 1 else 0) := by
        by_cases h1 : v % 8 = c <;> by_cases h2 : v < x <;> simp [h1, h2]
      omega
/-- one step leads from a turn to the one ahead of it -/
theorem lf {V : List Nat} {m p x : Nat} (hs : V.Pairwise (· ≤ ·)) (hV : ∀ v ∈ V, v < 8 ^ (m + 1)) (hp : (V.map (rho m)).Perm V) (hx : V[p]? = some x) :
    V[(V.map (· % 8)).countP (· < x % 8) + ((V.map (· % 8)).take p).count (x % 8)]? = some (rho m x) := by
  obtain ⟨h1, h2⟩ := countP_take_le hs hx (x % 8)
  simp only [if_true] at h2
  have hxV := hV x (List.mem_of_getElem? hx)
  have hx8 : x / 8 < 8 ^ m := Nat.div_lt_of_lt_mul (by rw [Nat.pow_succ] at hxV; omega)
  have ec : ((V.map (· % 8)).take p).count (x % 8) = (V.take p).countP (fun v => decide (v % 8 = x % 8)) := by
    rw [← List.map_take, List.count, List.countP_map]
    refine List.countP_congr fun v _ => ?_
    simp
  have el : (V.map (· % 8)).countP (· < x % 8) = V.countP (fun v => decide (v % 8 < x % 8)) := by
    rw [List.countP_map]; rfl
  have split : ∀ y z, z ≤ 8 ^ m → (∀ v, v % 8 = x % 8 → (v < 8 * z ↔ v < y)) → V.countP (· < x % 8 * 8 ^ m + z) = V.countP (fun v => decide (v % 8 < x % 8)) + V.countP (fun v => decide (v % 8 = x % 8) && decide (v < y)) := by
    intro y z hz hy
    rw [← hp.countP_eq, List.countP_map]
    refine countP_or _ _ _ V (fun v hv => ?_) (fun v hv h => ?_)
    · have := rho_lt_iff (c := x % 8) (hV v hv) hz
      simp only [Function.comp]
      rw [Bool.eq_iff_iff]
      simp only [decide_eq_true_eq, Bool.or_eq_true, Bool.and_eq_true]
      rw [this]
      constructor
      · rintro (h | ⟨h, h'⟩)
        · exact .inl h
        · exact .inr ⟨h, (hy v h).mp h'⟩
      · rintro (h | ⟨h, h'⟩)
        · exact .inl h
        · exact .inr ⟨h, (hy v h).mpr h'⟩
    · simp only [decide_eq_true_eq] at h
      simp; omega
  refine sorted_at hs ?_ ?_
  · rw [ec, el, show rho m x = x % 8 * 8 ^ m + x / 8 from rfl, split x (x / 8) (by omega) (fun v hv => by omega)]
    omega
  · rw [ec, el, show rho m x + 1 = x % 8 * 8 ^ m + (x / 8 + 1) from rfl, split (x + 1) (x / 8 + 1) (by omega) (fun v hv => by omega)]
    omega
end
/-! part M3 -/
section

/-! ends of rows, dots, rows: plain lists of signs -/
def nlb : Bool → List Nat → List Nat
  | _, [] => []
  | b, c :: r => if c = 10 then (if b then nlb false r else 13 :: 10 :: nlb false r) else if c = 13 then 13 :: 10 :: nlb true r else c :: nlb false r
def dot : Bool → List Nat → List Nat
  | _, [] => []
  | b, c :: r => if b = true ∧ c = 46 then 46 :: 46 :: dot false r else c :: dot (c == 10) r
def quoted (t : List Nat) : List Nat := dot true (nlb false t)
def rowsR : List Nat → List (List Nat)
  | [] => [[]]
  | c :: r => if c = 10 then [] :: rowsR r else if c = 13 then (if r.head? = some 10 then rowsR r else [] :: rowsR r) else match rowsR r with
    | x :: xs => (c :: x) :: xs
    | [] => [[c]]
def rowsB : Bool → List Nat → List (List Nat)
  | _, [] => [[]]
  | b, c :: r => if c = 10 then (if b then rowsB false r else [] :: rowsB false r) else if c = 13 then [] :: rowsB true r else match rowsB false r with
    | x :: xs => (c :: x) :: xs
    | [] => [[c]]
def joinC : List (List Nat) → List Nat
  | [] => []
  | [x] => x
  | x :: y :: r => x ++ 13 :: 10 :: joinC (y :: r)
def stuff (x : List Nat) : List Nat := if x.head? = some 46 then 46 :: x else x
def stuffH : Bool → List (List Nat) → List (List Nat)
  | true, xs => xs.map stuff
  | false, x :: xs => x :: xs.map stuff
  | false, [] => []

theorem rowsB_true {r : List Nat} (h : r.head? ≠ some 10) : rowsB true r = rowsB false r := by
  cases r with
  | nil => rfl
  | cons c r =>
    have hc : c ≠ 10 := fun q => h (by rw [q]; rfl)
    simp [rowsB, hc]
theorem rowsR_eq : ∀ t, rowsR t = rowsB false t
  | [] => rfl
  | c :: r => by
    have ih := rowsR_eq r
    rw [rowsR, rowsB, ih]
    by_cases h : c = 10
    · simp [h]
    · by_cases h2 : c = 13
      · subst h2
        simp only [if_neg h, if_true]
        by_cases h3 : r.head? = some 10
        · rw [if_pos h3]
          cases r with
          | nil => simp at h3
          | cons d r =>
            have : d = 10 := by simpa using h3
            subst this
            simp [rowsB]
        · rw [if_neg h3, rowsB_true h3]
      · simp [h, h2]
theorem rowsB_ne : ∀ b t, rowsB b t ≠ []
  | _, [] => by simp [rowsB]
  | b, c :: r => by
    have h1 := rowsB_ne false r
    rw [rowsB]
    split
    · split
      · exact h1
      · simp
    · split
      · simp
      · split <;> simp
theorem rowsB_cons (b : Bool) (t : List Nat) : ∃ x xs, rowsB b t = x :: xs := by
  cases h : rowsB b t with
  | nil => exact absurd h (rowsB_ne b t)
  | cons x xs => exact ⟨x, xs, rfl⟩
theorem joinC_cons {x : List Nat} {xs : List (List Nat)} (h : xs ≠ []) : joinC (x :: xs) = x ++ 13 :: 10 :: joinC xs := by
  cases xs with
  | nil => exact absurd rfl h
  | cons y r => rfl
theorem joinC_head (c : Nat) (x : List Nat) (xs : List (List Nat)) : joinC ((c :: x) :: xs) = c :: joinC (x :: xs) := by
  cases xs <;> rfl
theorem dot_crlf (b : Bool) (t : List Nat) : dot b (13 :: 10 :: t) = 13 :: 10 :: dot true t := by
  simp [dot]
theorem stuffH_cons (b : Bool) (x : List Nat) (xs : List (List Nat)) (h : xs ≠ []) (hx : x = []) : joinC (stuffH b (x :: xs)) = 13 :: 10 :: joinC (stuffH true xs) := by
  subst hx
  cases b
  · simp only [stuffH]
    rw [joinC_cons (by simpa using h)]; rfl
  · simp only [stuffH, List.map_cons]
    rw [joinC_cons (by simpa using h)]; rfl
/-- what is sent, by its rows -/
theorem dot_rows : ∀ (t : List Nat) (b p : Bool), dot b (nlb p t) = joinC (stuffH b (rowsB p t))
  | [], b, p => by cases b <;> rfl
  | c :: r, b, p => by
    by_cases h : c = 10
    · subst h
      cases p
      · simp only [nlb, rowsB, if_true, Bool.false_eq_true, if_false]
        rw [dot_crlf, dot_rows r true false, stuffH_cons b [] _ (rowsB_ne _ _) rfl]
      · simp only [nlb, rowsB, if_true]
        exact dot_rows r b false
    · by_cases h2 : c = 13
      · subst h2
        simp only [nlb, rowsB, if_neg h, if_true]
        rw [dot_crlf, dot_rows r true true, stuffH_cons b [] _ (rowsB_ne _ _) rfl]
      · simp only [nlb, rowsB, if_neg h, if_neg h2]
        have ih := dot_rows r false false
        obtain ⟨x, xs, e⟩ := rowsB_cons false r
        rw [e] at ih ⊢
        have hc10 : (c == 10) = false := by simpa using h
        simp only [stuffH] at ih
        by_cases h3 : c = 46
        · subst h3
          cases b
          · simp only [dot, Bool.false_eq_true, false_and, if_false, hc10, stuffH]
            rw [ih, joinC_head]
          · simp only [dot, true_and, if_true, stuffH, List.map_cons, stuff, List.head?_cons]
            rw [ih, joinC_head, joinC_head]
        · have h4 : ¬ (b = true ∧ c = 46) := fun q => h3 q.2
          simp only [dot, h4, if_false, hc10]
          rw [ih]
          cases b
          · simp only [stuffH]
            rw [joinC_head]
          · have h5 : stuff (c :: x) = c :: x := by simp [stuff, h3]
            simp only [stuffH, List.map_cons, h5]
            rw [joinC_head]
theorem quoted_rows (t : List Nat) : quoted t = joinC ((rowsR t).map stuff) := by
  rw [rowsR_eq]; exact dot_rows t true false

/-! counts -/
def isNl (c : Nat) : Bool := c == 10 || c == 13
def dc : Bool → List Nat → Nat
  | _, [] => 0
  | b, c :: r => (if b = true ∧ c = 46 then 1 else 0) + dc (isNl c) r
def hd46 (x : List Nat) : Bool := x.head? == some 46
theorem dc_rows : ∀ t : List Nat, (∀ p, (rowsB p t).countP hd46 = dc true t) ∧ (rowsB false t).tail.countP hd46 = dc false t
  | [] => ⟨fun _ => rfl, rfl⟩
  | c :: r => by
    obtain ⟨i1, i2⟩ := dc_rows r
    by_cases h : c = 10
    · subst h
      constructor
      · intro p
        cases p
        · simp only [rowsB, if_true, Bool.false_eq_true, if_false, dc]
          rw [List.countP_cons, i1]; simp [hd46, isNl]
        · simp only [rowsB, if_true, dc]
          rw [i1]; simp [isNl]
      · simp only [rowsB, if_true, Bool.false_eq_true, if_false, List.tail_cons, dc, false_and, Nat.zero_add]
        rw [i1]; simp [isNl]
    · by_cases h2 : c = 13
      · subst h2
        constructor
        · intro p
          simp only [rowsB, if_neg h, if_true, dc]
          rw [List.countP_cons, i1]; simp [hd46, isNl]
        · simp only [rowsB, if_neg h, if_true, List.tail_cons, dc]
          rw [i1]; simp [isNl]
      · obtain ⟨x, xs, e⟩ := rowsB_cons false r
        rw [e, List.tail_cons] at i2
        have hn : isNl c = false := by simp [isNl, h, h2]
        constructor
        · intro p
          simp only [rowsB, if_neg h, if_neg h2, e, dc, hn]
          rw [List.countP_cons, i2, Nat.add_comm]
          congr 1
          simp [hd46]
        · simp only [rowsB, if_neg h, if_neg h2, e, dc, hn, List.tail_cons]
          rw [i2]; simp
theorem rows_dots (t : List Nat) : (rowsR t).countP hd46 = dc true t := by rw [rowsR_eq]; exact (dc_rows t).1 false

def cw (pat : List Nat) : List Nat → Nat
  | [] => 0
  | c :: r => (if pat.isPrefixOf (c :: r) then 1 else 0) + cw pat r
theorem cw4 : ∀ r : List Nat, (∀ b, cw [13, 10, 46, 46] (dot b (nlb false r)) = dc false r) ∧ (∀ p, cw [13, 10, 46, 46] (13 :: 10 :: dot true (nlb p r)) = dc true r)
  | [] => ⟨fun _ => rfl, fun _ => rfl⟩
  | c :: r => by
    obtain ⟨i1, i2⟩ := cw4 r
    by_cases h : c = 10
    · subst h
      have e : dc true r = dc true (10 :: r) := by simp [dc, isNl]
      have e2 : dc true r = dc false (10 :: r) := by simp [dc, isNl]
      constructor
      · intro b
        simp only [nlb, if_true, Bool.false_eq_true, if_false]
        rw [dot_crlf, i2, e2]
      · intro p
        cases p
        · simp only [nlb, if_true, Bool.false_eq_true, if_false]
          rw [dot_crlf]
          have := i2 false
          rw [cw, cw, this, e]
          simp [List.isPrefixOf]
        · simp only [nlb, if_true]
          rw [i2, e]
    · by_cases h2 : c = 13
      · subst h2
        have e : dc true r = dc true (13 :: r) := by simp [dc, isNl]
        have e2 : dc true r = dc false (13 :: r) := by simp [dc, isNl]
        constructor
        · intro b
          simp only [nlb, if_neg h, if_true]
          rw [dot_crlf, i2, e2]
        · intro p
          simp only [nlb, if_neg h, if_true]
          rw [dot_crlf]
          have := i2 true
          rw [cw, cw, this, e]
          simp [List.isPrefixOf]
      · have hn : isNl c = false := by simp [isNl, h, h2]
        have hc10 : (c == 10) = false := by simpa using h
        have hc13 : (13 == c) = false := by simpa using fun q => h2 q.symm
        have i1' := i1 false
        simp only [nlb, if_neg h, if_neg h2]
        by_cases h3 : c = 46
        · subst h3
          constructor
          · intro b
            cases b
            · simp only [dot, Bool.false_eq_true, false_and, if_false, hc10, cw, i1', dc, hn]
              simp [List.isPrefixOf]
            · simp only [dot, true_and, if_true, cw, i1', dc, hn]
              simp [List.isPrefixOf]
          · intro p
            simp only [dot, true_and, if_true, cw, i1', dc, hn]
            simp [List.isPrefixOf]
        · have h4 : ∀ b, ¬ (b = true ∧ c = 46) := fun b q => h3 q.2
          have h5 : (46 == c) = false := by simpa using fun q => h3 q.symm
          constructor
          · intro b
            simp only [dot, h4, if_false, hc10, cw, i1', dc, hn]
            simp [List.isPrefixOf, hc13]
          · intro p
            simp only [dot, h3, and_false, if_false, hc10, cw, i1', dc, hn]
            simp [List.isPrefixOf, hc13, h5]
theorem cw5 : ∀ r : List Nat, (∀ b, cw [13, 10, 46, 13, 10] (dot b (nlb false r)) = 0) ∧ (∀ p, cw [13, 10, 46, 13, 10] (13 :: 10 :: dot true (nlb p r)) = 0)
  | [] => ⟨fun _ => rfl, fun _ => rfl⟩
  | c :: r => by
    obtain ⟨i1, i2⟩ := cw5 r
    by_cases h : c = 10
    · subst h
      constructor
      · intro b
        simp only [nlb, if_true, Bool.false_eq_true, if_false]
        rw [dot_crlf, i2]
      · intro p
        cases p
        · simp only [nlb, if_true, Bool.false_eq_true, if_false]
          rw [dot_crlf]
          have := i2 false
          rw [cw, cw, this]
          simp [List.isPrefixOf]
        · simp only [nlb, if_true]
          rw [i2]
    · by_cases h2 : c = 13
      · subst h2
        constructor
        · intro b
          simp only [nlb, if_neg h, if_true]
          rw [dot_crlf, i2]
        · intro p
          simp only [nlb, if_neg h, if_true]
          rw [dot_crlf]
          have := i2 true
          rw [cw, cw, this]
          simp [List.isPrefixOf]
      · have hc10 : (c == 10) = false := by simpa using h
        have hc13 : (13 == c) = false := by simpa using fun q => h2 q.symm
        have i1' := i1 false
        simp only [nlb, if_neg h, if_neg h2]
        by_cases h3 : c = 46
        · subst h3
          constructor
          · intro b
            cases b
            · simp only [dot, Bool.false_eq_true, false_and, if_false, hc10, cw, i1']
              simp [List.isPrefixOf]
            · simp only [dot, true_and, if_true, cw, i1']
              simp [List.isPrefixOf]
          · intro p
            simp only [dot, true_and, if_true, cw, i1']
            simp [List.isPrefixOf]
        · have h4 : ∀ b, ¬ (b = true ∧ c = 46) := fun b q => h3 q.2
          have h5 : (46 == c) = false := by simpa using fun q => h3 q.symm
          constructor
          · intro b
            simp only [dot, h4, if_false, hc10, cw, i1']
            simp [List.isPrefixOf, hc13]
          · intro p
            simp only [dot, h3, and_false, if_false, hc10, cw, i1']
            simp [List.isPrefixOf, hc13, h5]

/-! the ring -/
def nst : Bool → List Nat → Bool
  | b, [] => b
  | _, c :: r => nst (c == 13) r
theorem nlb_append : ∀ (a t : List Nat) (b : Bool), nlb b (a ++ t) = nlb b a ++ nlb (nst b a) t
  | [], t, b => rfl
  | c :: r, t, b => by
    rw [List.cons_append, nlb, nlb, nst]
    by_cases h : c = 10
    · subst h
      simp only [if_true]
      rw [nlb_append r t false]
      cases b <;> rfl
    · by_cases h2 : c = 13
      · subst h2
        simp only [if_neg h, if_true]
        rw [nlb_append r t true]; rfl
      · have : (c == 13) = false := by simpa using h2
        simp only [if_neg h, if_neg h2, this]
        rw [nlb_append r t false]; rfl
def dst : Bool → List Nat → Bool
  | b, [] => b
  | _, c :: r => dst (c == 10) r
theorem dot_append : ∀ (a t : List Nat) (b : Bool), dot b (a ++ t) = dot b a ++ dot (dst b a) t
  | [], t, b => rfl
  | c :: r, t, b => by
    rw [List.cons_append, dot, dot, dst]
    by_cases h : b = true ∧ c = 46
    · obtain ⟨h1, h2⟩ := h
      subst h1; subst h2
      simp only [true_and, if_true]
      rw [dot_append r t false]; rfl
    · simp only [if_neg h]
      rw [dot_append r t (c == 10)]; rfl
theorem dst_append : ∀ (a t : List Nat) (b : Bool), dst b (a ++ t) = dst (dst b a) t
  | [], _, _ => rfl
  | c :: r, t, b => by rw [List.cons_append, dst, dst, dst_append r t]
theorem nst_append : ∀ (a t : List Nat) (b : Bool), nst b (a ++ t) = nst (nst b a) t
  | [], _, _ => rfl
  | c :: r, t, b => by rw [List.cons_append, nst, nst, nst_append r t]
theorem dst_nlb : ∀ (u : List Nat) (b p : Bool), (p = true → b = true) → dst b (nlb p (u ++ [10])) = true
  | [], b, p, h => by
    cases p
    · rfl
    · rw [h rfl]; rfl
  | c :: r, b, p, h => by
    rw [List.cons_append, nlb]
    by_cases h1 : c = 10
    · subst h1
      cases p
      · simp only [if_true, Bool.false_eq_true, if_false, dst]
        exact dst_nlb r _ _ (fun q => by cases q)
      · simp only [if_true]
        exact dst_nlb r _ _ (fun q => by cases q)
    · by_cases h2 : c = 13
      · subst h2
        simp only [if_neg h1, if_true, dst]
        exact dst_nlb r _ _ (fun _ => rfl)
      · simp only [if_neg h1, if_neg h2, dst]
        exact dst_nlb r _ _ (fun q => by cases q)
theorem ring_quoted (u : List Nat) : quoted (u ++ [10]) ++ quoted (u ++ [10]) = quoted ((u ++ [10]) ++ (u ++ [10])) := by
  unfold quoted
  rw [nlb_append (u ++ [10]) (u ++ [10]) false, dot_append, dst_nlb u true false (fun _ => rfl), nst_append]
  rfl
def ldc : Bool → List Nat → Bool
  | b, [] => b
  | _, c :: r => ldc (isNl c) r
theorem dc_append : ∀ (a t : List Nat) (b : Bool), dc b (a ++ t) = dc b a + dc (ldc b a) t
  | [], t, b => by simp [dc, ldc]
  | c :: r, t, b => by rw [List.cons_append, dc, dc, ldc, dc_append r t, Nat.add_assoc]
theorem ldc_append : ∀ (a t : List Nat) (b : Bool), ldc b (a ++ t) = ldc (ldc b a) t
  | [], _, _ => rfl
  | c :: r, t, b => by rw [List.cons_append, ldc, ldc, ldc_append r t]
theorem cw_append (pat : List Nat) : ∀ (a b : List Nat), cw pat (a ++ b) = (List.range a.length).countP (fun j => pat.isPrefixOf ((a ++ b).drop j)) + cw pat b
  | [], b => by simp
  | c :: r, b => by
    rw [List.cons_append, cw, cw_append pat r b, List.length_cons, List.range_succ_eq_map, List.countP_cons, List.countP_map]
    have : List.countP ((fun j => pat.isPrefixOf (List.drop j (c :: (r ++ b)))) ∘ Nat.succ) (List.range r.length) = List.countP (fun j => pat.isPrefixOf (List.drop j (r ++ b))) (List.range r.length) := rfl
    rw [this, List.drop_zero]
    omega
/-- an end and two dots stand on the ring once for each row that begins with a dot -/
theorem ring4 (u : List Nat) : (List.range (quoted (u ++ [10])).length).countP (fun j => [13, 10, 46, 46].isPrefixOf ((quoted (u ++ [10]) ++ quoted (u ++ [10])).drop j)) = (rowsR (u ++ [10])).countP hd46 := by
  have h := cw_append [13, 10, 46, 46] (quoted (u ++ [10])) (quoted (u ++ [10]))
  have e1 : cw [13, 10, 46, 46] (quoted (u ++ [10]) ++ quoted (u ++ [10])) = dc false ((u ++ [10]) ++ (u ++ [10])) := by
    rw [ring_quoted]; exact (cw4 _).1 true
  have e2 : cw [13, 10, 46, 46] (quoted (u ++ [10])) = dc false (u ++ [10]) := (cw4 _).1 true
  have e3 : ldc false (u ++ [10]) = true := by rw [ldc_append]; rfl
  rw [e1, e2, dc_append, e3] at h
  rw [rows_dots]
  omega
/-- a dot alone in a row stands nowhere -/
theorem ring5 (u : List Nat) : (List.range (quoted (u ++ [10])).length).countP (fun j => [13, 10, 46, 13, 10].isPrefixOf ((quoted (u ++ [10]) ++ quoted (u ++ [10])).drop j)) = 0 := by
  have h := cw_append [13, 10, 46, 13, 10] (quoted (u ++ [10])) (quoted (u ++ [10]))
  have e1 : cw [13, 10, 46, 13, 10] (quoted (u ++ [10]) ++ quoted (u ++ [10])) = 0 := by
    rw [ring_quoted]; exact (cw5 _).1 true
  omega

/-! sizes, signs -/
def Abc (c : Nat) : Prop := c = 10 ∨ c = 13 ∨ c = 46 ∨ c = 97 ∨ c = 98
theorem nlb_abc : ∀ (t : List Nat) (b : Bool), (∀ c ∈ t, Abc c) → ∀ c ∈ nlb b t, Abc c
  | [], _, _ => by simp [nlb]
  | d :: r, b, h => by
    have ih := fun b => nlb_abc r b fun c hc => h c (.tail _ hc)
    have hd := h d (.head _)
    have h10 : Abc 10 := .inl rfl
    have h13 : Abc 13 := .inr (.inl rfl)
    rw [nlb]
    split
    · split
      · exact ih _
      · intro c hc
        rcases List.mem_cons.mp hc with rfl | hc
        · exact h13
        · rcases List.mem_cons.mp hc with rfl | hc
          · exact h10
          · exact ih _ c hc
    · split
      · intro c hc
        rcases List.mem_cons.mp hc with rfl | hc
        · exact h13
        · rcases List.mem_cons.mp hc with rfl | hc
          · exact h10
          · exact ih _ c hc
      · intro c hc
        rcases List.mem_cons.mp hc with rfl | hc
        · exact hd
        · exact ih _ c hc
theorem dot_abc : ∀ (t : List Nat) (b : Bool), (∀ c ∈ t, Abc c) → ∀ c ∈ dot b t, Abc c
  | [], _, _ => by simp [dot]
  | d :: r, b, h => by
    have ih := fun b => dot_abc r b fun c hc => h c (.tail _ hc)
    have hd := h d (.head _)
    rw [dot]
    split
    · rename_i q
      intro c hc
      rcases List.mem_cons.mp hc with rfl | hc
      · exact .inr (.inr (.inl rfl))
      · rcases List.mem_cons.mp hc with rfl | hc
        · exact .inr (.inr (.inl rfl))
        · exact ih _ c hc
    · intro c hc
      rcases List.mem_cons.mp hc with rfl | hc
      · exact hd
      · exact ih _ c hc
theorem quoted_abc {t : List Nat} (h : ∀ c ∈ t, Abc c) : ∀ c ∈ quoted t, Abc c := dot_abc _ _ (nlb_abc _ _ h)
theorem nlb_le : ∀ (t : List Nat) (b : Bool), (nlb b t).length ≤ 2 * t.length
  | [], _ => by simp [nlb]
  | d :: r, b => by
    have h1 := nlb_le r false
    have h2 := nlb_le r true
    rw [nlb]
    split
    · split <;> simp <;> omega
    · split <;> simp <;> omega
theorem dot_le : ∀ (t : List Nat) (b : Bool), (dot b t).length ≤ 2 * t.length
  | [], _ => by simp [dot]
  | d :: r, b => by
    have h1 := dot_le r false
    have h2 := dot_le r (d == 10)
    rw [dot]
    split <;> simp <;> omega
theorem dot_ge : ∀ (t : List Nat) (b : Bool), t.length ≤ (dot b t).length
  | [], _ => by simp [dot]
  | d :: r, b => by
    have h1 := dot_ge r false
    have h2 := dot_ge r (d == 10)
    rw [dot]
    split <;> simp <;> omega
theorem nlb_ge : ∀ (t : List Nat) (b : Bool), t.length ≤ (nlb b t).length + (if b then 1 else 0)
  | [], _ => by simp
  | d :: r, b => by
    have h1 := nlb_ge r false
    have h2 := nlb_ge r true
    simp at h1 h2
    rw [nlb]
    split
    · cases b <;> simp <;> omega
    · split <;> cases b <;> simp <;> omega
theorem quoted_le (t : List Nat) : (quoted t).length ≤ 4 * t.length := by
  have h1 := dot_le (nlb false t) true
  have h2 := nlb_le t false
  unfold quoted; omega
theorem quoted_ge (t : List Nat) : t.length ≤ (quoted t).length := by
  have h1 := dot_ge (nlb false t) true
  have h2 := nlb_ge t false
  simp at h2
  unfold quoted; omega
end
/-! part R1 -/
set_option Elab.async false
section
open PySem PySem.Sre

theorem runFor_some : ∀ (k : Nat) (m : M), m.outcome.isSome = true → M.runFor k m = m
  | 0, _, _ => rfl
  | k + 1, m, h => by rw [M.runFor, if_pos h]
theorem runFor_add : ∀ (a b : Nat) (m : M), M.runFor (a + b) m = M.runFor b (M.runFor a m)
  | 0, b, m => by simp [M.runFor]
  | a + 1, b, m => by
    rw [Nat.succ_add, M.runFor, M.runFor]
    split
    · rename_i h
      rw [runFor_some _ _ h]
    · exact runFor_add a b _
/-- the machine comes to an end within k steps -/
def Runs (k : Nat) (m : M) (P : M → Prop) : Prop := ∃ m', M.runFor k m = m' ∧ m'.outcome.isSome = true ∧ P m'
theorem Runs.step {m : M} {k : Nat} {P : M → Prop} (h : m.outcome = none) (hs : Runs k m.step P) : Runs (k + 1) m P := by
  obtain ⟨m', e, r⟩ := hs
  exact ⟨m', by rw [M.runFor, if_neg (by rw [h]; simp)]; exact e, r⟩
theorem Runs.end {m : M} {P : M → Prop} (k : Nat) (h : m.outcome.isSome = true) (hP : P m) : Runs k m P := ⟨m, runFor_some k m h, h, hP⟩
theorem Runs.mono {m : M} {a b : Nat} {P : M → Prop} (h : Runs a m P) (hab : a ≤ b) : Runs b m P := by
  obtain ⟨m', e, r, p⟩ := h
  refine ⟨m', ?_, r, p⟩
  rw [show b = a + (b - a) by omega, runFor_add, e, runFor_some _ _ r]

abbrev code1 : Array Nat := #[14, 4, 0, 1, 1, 6, 1, 16, 46, 1]
abbrev code2 : Array Nat := #[14, 9, 4, 1, 2, 16, 10, 16, 13, 0, 7, 7, 16, 13, 16, 10, 15, 18, 5, 16, 10, 15, 13, 11, 16, 13, 5, 5, 0, 16, 10, 1, 15, 2, 0, 1]

def Lost (m : M) : Prop := m.outcome = some .failed
def Got (b e : Nat) (m : M) : Prop := m.outcome = some .matched ∧ m.start = b ∧ m.handed = e

/-! the dots -/
def st1 (T : Array Nat) (j : Nat) (first : Bool) (seen : Seen) : M :=
  { code := code1, text := T, lim := T.size, start := j, lastStart := T.size, pc := 5, pos := j, handed := j, outermost := first, marks := #[], frames := [{ wait := .nextStart, pc := 5, pos := j, outermost := first }], weight := 1, seen := seen }
theorem search1 (T : Array Nat) (i : Nat) (h : i < T.size) : ∃ seen, forSearch code1 T 0 i T.size false = st1 T i true seen := by
  have e : forSearch code1 T 0 i T.size false = if i > T.size || T.size - i < 1 then _ else _ := rfl
  rw [e, if_neg (by simp; omega)]
  exact ⟨_, rfl⟩
theorem search1_end (T : Array Nat) : Runs 2 (forSearch code1 T 0 T.size T.size false) Lost := by
  have e : forSearch code1 T 0 T.size T.size false = if T.size > T.size || T.size - T.size < 1 then _ else _ := rfl
  rw [e, if_pos (by simp)]
  exact .step rfl (.end _ rfl rfl)
/-- a try that fails goes on at the next place -/
theorem next1 {T : Array Nat} {j : Nat} {first : Bool} {seen : Seen} {k : Nat} {P : M → Prop} {x : M} {hd : Nat} {pc ps : Nat} (hj : j < T.size)
    (hx : x = { (st1 T j first seen).say false with handed := hd, pc := pc, pos := ps })
    (h : ∀ seen, Runs k (st1 T (j + 1) false seen) P) : Runs (k + 1) x P := by
  subst hx
  refine .step rfl ?_
  have e : M.step { (st1 T j first seen).say false with handed := hd, pc := pc, pos := ps } = if j < T.size then _ else _ := rfl
  rw [e, if_pos hj]
  exact h seen
theorem last1 {T : Array Nat} {j : Nat} {first : Bool} {seen : Seen} {x : M} {hd : Nat} {pc ps : Nat} (hj : ¬ j < T.size)
    (hx : x = { (st1 T j first seen).say false with handed := hd, pc := pc, pos := ps }) : Runs 2 x Lost := by
  subst hx
  refine .step rfl ?_
  have e : M.step { (st1 T j first seen).say false with handed := hd, pc := pc, pos := ps } = if j < T.size then _ else _ := rfl
  rw [e, if_neg hj]
  exact .step rfl (.end _ rfl rfl)
theorem try1_no {T : Array Nat} {j : Nat} {first : Bool} {seen : Seen} {k : Nat} {P : M → Prop} (hj : j < T.size) (hn : ¬ ((j = 0 ∨ T.getD (j - 1) 0 = 10) ∧ T.getD j 0 = 46))
    (h : ∀ seen, Runs k (st1 T (j + 1) false seen) P) : Runs (k + 3) (st1 T j first seen) P := by
  by_cases ha : (j == 0 || T.getD (j - 1) 0 == 10) = true
  · refine .step rfl ?_
    have e : M.step (st1 T j first seen) = if (j == 0 || T.getD (j - 1) 0 == 10) = true then _ else _ := rfl
    rw [e, if_pos ha]
    refine .step rfl ?_
    have hc : (T.getD j 0 == 46) = false := by
      simp only [Bool.or_eq_true, beq_iff_eq] at ha
      simp only [beq_eq_false_iff_ne]
      exact fun q => hn ⟨ha, q⟩
    have e2 : ∀ seen, M.step { st1 T j first seen with pc := 7 } = if j ≥ T.size then _ else match (Except.ok (T.getD j 0 == 46, Seen.add seen 16) : Except String (Bool × Seen)) with
      | .error why => _
      | .ok (false, sn) => _
      | .ok (true, sn) => _ := fun _ => rfl
    refine (show Runs k.succ (M.step { st1 T j first _ with pc := 7 }) P from ?_)
    rw [e2, if_neg (by omega), hc]
    exact next1 (pc := 7) (ps := j) (hd := j) hj rfl h
  · refine .mono (.step rfl ?_) (by omega : (k + 1) + 1 ≤ k + 3)
    have e : M.step (st1 T j first seen) = if (j == 0 || T.getD (j - 1) 0 == 10) = true then _ else _ := rfl
    rw [e, if_neg ha]
    exact next1 (first := first) (seen := (seen.add 6).add 44) (pc := 5) (ps := j) (hd := j) hj rfl h
theorem try1_last {T : Array Nat} {first : Bool} {seen : Seen} : Runs 4 (st1 T T.size first seen) Lost := by
  by_cases ha : (T.size == 0 || T.getD (T.size - 1) 0 == 10) = true
  · refine .step rfl ?_
    have e : M.step (st1 T T.size first seen) = if (T.size == 0 || T.getD (T.size - 1) 0 == 10) = true then _ else _ := rfl
    rw [e, if_pos ha]
    refine .step rfl ?_
    have e2 : ∀ seen, M.step { st1 T T.size first seen with pc := 7 } = if T.size ≥ T.size then _ else _ := fun _ => rfl
    refine (show Runs 2 (M.step { st1 T T.size first _ with pc := 7 }) Lost from ?_)
    rw [e2, if_pos (by omega)]
    exact last1 (first := first) (pc := 7) (ps := T.size) (hd := T.size) (Nat.lt_irrefl _) rfl
  · refine .mono (.step rfl ?_) (by omega : 2 + 1 ≤ 4)
    have e : M.step (st1 T T.size first seen) = if (T.size == 0 || T.getD (T.size - 1) 0 == 10) = true then _ else _ := rfl
    rw [e, if_neg ha]
    exact last1 (first := first) (seen := (seen.add 6).add 44) (pc := 5) (ps := T.size) (hd := T.size) (Nat.lt_irrefl _) rfl
theorem try1_yes {T : Array Nat} {j : Nat} {first : Bool} {seen : Seen} (hj : j < T.size) (hn : (j = 0 ∨ T.getD (j - 1) 0 = 10) ∧ T.getD j 0 = 46) : Runs 5 (st1 T j first seen) (Got j (j + 1)) := by
  have ha : (j == 0 || T.getD (j - 1) 0 == 10) = true := by simpa using hn.1
  have hc : (T.getD j 0 == 46) = true := by simpa using hn.2
  refine .step rfl ?_
  have e : M.step (st1 T j first seen) = if (j == 0 || T.getD (j - 1) 0 == 10) = true then _ else _ := rfl
  rw [e, if_pos ha]
  refine .step rfl ?_
  have e2 : ∀ seen, M.step { st1 T j first seen with pc := 7 } = if j ≥ T.size then _ else match (Except.ok (T.getD j 0 == 46, Seen.add seen 16) : Except String (Bool × Seen)) with
    | .error why => _
    | .ok (false, sn) => _
    | .ok (true, sn) => _ := fun _ => rfl
  refine (show Runs 3 (M.step { st1 T j first _ with pc := 7 }) (Got j (j + 1)) from ?_)
  rw [e2, if_neg (by omega), hc]
  refine .step rfl ?_
  refine (show Runs 2 (M.step { st1 T j first _ with pc := 9, pos := j + 1 }) (Got j (j + 1)) from ?_)
  have e3 : ∀ seen, M.step { st1 T j first seen with pc := 9, pos := j + 1 } = if (first && ((false && (j + 1 != T.size)) || (false && (j + 1 == j)))) = true then _ else _ := fun _ => rfl
  rw [e3, if_neg (by simp)]
  exact .step rfl (.step rfl (.end _ rfl ⟨rfl, rfl, rfl⟩))
end
/-! part R2 -/
set_option Elab.async false
section
open PySem PySem.Sre

/-! ends of rows -/
def st2 (T : Array Nat) (j : Nat) (seen : Seen) : M :=
  { code := code2, text := T, lim := T.size, start := j, lastStart := T.size, pc := 10, pos := j, handed := j, outermost := true, marks := #[], frames := [{ wait := .nextStart, pc := 10, pos := j, outermost := true }], weight := 1, seen := seen }
theorem set2 (c : Nat) (seen : Seen) : ∃ s1 s2 s3, inSet code2 c 36 5 true seen = if c == 10 then .ok (true, s1) else if c == 13 then .ok (true, s2) else .ok (false, s3) := ⟨_, _, _, rfl⟩
theorem set2_yes {c : Nat} (h : c = 10 ∨ c = 13) (seen : Seen) : ∃ s1, inSet code2 c 36 5 true seen = .ok (true, s1) := by
  obtain ⟨s1, s2, s3, e⟩ := set2 c seen
  rcases h with rfl | rfl
  · exact ⟨s1, e⟩
  · exact ⟨s2, e⟩
theorem set2_no {c : Nat} (h : ¬ (c = 10 ∨ c = 13)) (seen : Seen) : ∃ s1, inSet code2 c 36 5 true seen = .ok (false, s1) := by
  obtain ⟨s1, s2, s3, e⟩ := set2 c seen
  refine ⟨s3, ?_⟩
  rw [e, if_neg (by simpa using fun q => h (.inl q)), if_neg (by simpa using fun q => h (.inr q))]
theorem admit_hit (m : M) (hc : m.code = code2) {b : Nat} (hb : b < m.lim) (hh : m.text.getD b 0 = 10 ∨ m.text.getD b 0 = 13) : ∀ (n fuel j : Nat) (seen : Seen), j + n = b → n < fuel → (∀ c, j ≤ c → c < b → ¬ (m.text.getD c 0 = 10 ∨ m.text.getD c 0 = 13)) →
    ∃ sn, M.admitted m fuel j seen = .ok (some b, sn)
  | n, 0, _, _, _, h, _ => by omega
  | 0, fuel + 1, j, seen, h, _, _ => by
    have : j = b := by omega
    subst this
    obtain ⟨s1, e⟩ := set2_yes hh seen
    refine ⟨s1, ?_⟩
    rw [M.admitted, if_neg (by omega), hc]
    rw [show code2.size = 36 from rfl, e]
  | n + 1, fuel + 1, j, seen, h, hf, hn => by
    obtain ⟨s1, e⟩ := set2_no (hn j (Nat.le_refl _) (by omega)) seen
    obtain ⟨sn, e2⟩ := admit_hit m hc hb hh n fuel (j + 1) s1 (by omega) (by omega) (fun c h1 h2 => hn c (by omega) h2)
    refine ⟨sn, ?_⟩
    rw [M.admitted, if_neg (by omega), hc]
    rw [show code2.size = 36 from rfl, e]
    exact e2
theorem admit_none (m : M) (hc : m.code = code2) : ∀ (n fuel j : Nat) (seen : Seen), j + n = m.lim → n < fuel → (∀ c, j ≤ c → c < m.lim → ¬ (m.text.getD c 0 = 10 ∨ m.text.getD c 0 = 13)) →
    ∃ sn, M.admitted m fuel j seen = .ok (none, sn)
  | n, 0, _, _, _, h, _ => by omega
  | 0, fuel + 1, j, seen, h, _, _ => ⟨seen, by rw [M.admitted, if_pos (by omega)]⟩
  | n + 1, fuel + 1, j, seen, h, hf, hn => by
    obtain ⟨s1, e⟩ := set2_no (hn j (Nat.le_refl _) (by omega)) seen
    obtain ⟨sn, e2⟩ := admit_none m hc n fuel (j + 1) s1 (by omega) (by omega) (fun c h1 h2 => hn c (by omega) h2)
    refine ⟨sn, ?_⟩
    rw [M.admitted, if_neg (by omega), hc]
    rw [show code2.size = 36 from rfl, e]
    exact e2

theorem search2_end (T : Array Nat) : Runs 2 (forSearch code2 T 0 T.size T.size false) Lost := by
  have e : forSearch code2 T 0 T.size T.size false = if T.size > T.size || T.size - T.size < 1 then _ else _ := rfl
  rw [e, if_pos (by simp)]
  exact .step rfl (.end _ rfl rfl)
/-- the machine as it starts -/
def m2 (T : Array Nat) (i : Nat) : M := { code := code2, text := T, lim := T.size, start := i, lastStart := T.size, pc := 10, pos := i, handed := i, marks := #[], seen := ({} : Seen).add 14 }
theorem search2 (T : Array Nat) (i : Nat) (h : i < T.size) : forSearch code2 T 0 i T.size false = match M.admitted (m2 T i) (T.size + 1 - i) i (m2 T i).seen with
    | .ok (some s, seen) => M.attemptAt { m2 T i with mustAdvance := false, seen } s true
    | .ok (none, seen) => M.say { m2 T i with seen } false
    | .error why => M.stick (m2 T i) why := by
  have e : forSearch code2 T 0 i T.size false = if i > T.size || T.size - i < 1 then _ else _ := rfl
  rw [e, if_neg (by simp; omega)]
  rfl
theorem search2_none (T : Array Nat) (i : Nat) (h : i < T.size) (hn : ∀ c, i ≤ c → c < T.size → ¬ (T.getD c 0 = 10 ∨ T.getD c 0 = 13)) : Runs 2 (forSearch code2 T 0 i T.size false) Lost := by
  obtain ⟨sn, e⟩ := admit_none (m2 T i) rfl (T.size - i) (T.size + 1 - i) i (m2 T i).seen (by show i + (T.size - i) = T.size; omega) (by omega) hn
  rw [search2 T i h, e]
  exact .step rfl (.end _ rfl rfl)
theorem search2_hit (T : Array Nat) (i b : Nat) (hi : i ≤ b) (hb : b < T.size) (hh : T.getD b 0 = 10 ∨ T.getD b 0 = 13) (hn : ∀ c, i ≤ c → c < b → ¬ (T.getD c 0 = 10 ∨ T.getD c 0 = 13)) :
    ∃ sn, forSearch code2 T 0 i T.size false = st2 T b sn := by
  obtain ⟨sn, e⟩ := admit_hit (m2 T i) rfl hb hh (b - i) (T.size + 1 - i) i (m2 T i).seen (by omega) (by omega) hn
  rw [search2 T i (by omega), e]
  exact ⟨sn, rfl⟩

/-- a branch that is tried -/
def br2 (T : Array Nat) (j alt pc ps : Nat) (hd : Nat) (seen : Seen) : M :=
  { st2 T j seen with pc := pc, pos := ps, handed := hd, frames := [{ wait := .nextBranch, pc := alt, pos := j, outermost := true, kept := { lastmark := -1, lastindex := -1, whole := false, marks := #[] } }, { wait := .nextStart, pc := 10, pos := j, outermost := true }], weight := 2 }
theorem first2 {T : Array Nat} {j k : Nat} {seen : Seen} {P : M → Prop} (h : ∀ seen, Runs k (br2 T j 11 12 j j seen) P) : Runs (k + 1) (st2 T j seen) P := .step rfl (h _)
/-- a sign that does not fit -/
theorem lit_no {T : Array Nat} {j alt pc ps hd k c : Nat} {seen : Seen} {P : M → Prop} (ho : code2.getD pc 0 = 16) (hl : code2.getD (pc + 1) 0 = c) (hp : pc < 36) (hc : ¬ (ps < T.size ∧ T.getD ps 0 = c))
    (h : ∀ seen, Runs k ((br2 T j alt pc ps hd seen).say false) P) : Runs (k + 1) (br2 T j alt pc ps hd seen) P := by
  refine .step rfl ?_
  have e0 : M.step (br2 T j alt pc ps hd seen) = if pc < 36 then M.exec (br2 T j alt pc ps hd seen) else _ := rfl
  rw [e0, if_pos hp]
  have hw : (br2 T j alt pc ps hd seen).word 0 = 16 := ho
  have hw1 : code2.getD (pc + 1) 0 = c := hl
  unfold M.exec
  rw [hw]
  show Runs k (if ps ≥ T.size then _ else _) P
  by_cases h1 : ps ≥ T.size
  · rw [if_pos h1]; exact h _
  · rw [if_neg h1]
    have e1 : ∀ sn, accepts code2 pc (T.getD ps 0) sn = .ok (T.getD ps 0 == c, sn) := fun sn => by
      unfold accepts
      rw [show code2.getD pc 0 = 16 from ho, hl]; rfl
    have e2 : (T.getD ps 0 == c) = false := by
      rw [beq_eq_false_iff_ne]; exact fun q => hc ⟨by omega, q⟩
    show Runs k (match accepts code2 pc (T.getD ps 0) _ with | .error why => _ | .ok (false, seen) => _ | .ok (true, seen) => _) P
    rw [e1, e2]
    exact h _
theorem lit_yes {T : Array Nat} {j alt pc ps hd k c : Nat} {seen : Seen} {P : M → Prop} (ho : code2.getD pc 0 = 16) (hl : code2.getD (pc + 1) 0 = c) (hp : pc < 36) (hc : ps < T.size ∧ T.getD ps 0 = c)
    (h : ∀ seen, Runs k (br2 T j alt (pc + 2) (ps + 1) hd seen) P) : Runs (k + 1) (br2 T j alt pc ps hd seen) P := by
  refine .step rfl ?_
  have e0 : M.step (br2 T j alt pc ps hd seen) = if pc < 36 then M.exec (br2 T j alt pc ps hd seen) else _ := rfl
  rw [e0, if_pos hp]
  have hw : (br2 T j alt pc ps hd seen).word 0 = 16 := ho
  unfold M.exec
  rw [hw]
  show Runs k (if ps ≥ T.size then _ else _) P
  rw [if_neg (by omega)]
  have e1 : ∀ sn, accepts code2 pc (T.getD ps 0) sn = .ok (T.getD ps 0 == c, sn) := fun sn => by
    unfold accepts
    rw [show code2.getD pc 0 = 16 from ho, hl]; rfl
  have e2 : (T.getD ps 0 == c) = true := by simpa using hc.2
  have e3 : itemWidth code2 pc = 2 := by
    unfold itemWidth
    rw [show code2.getD pc 0 = 16 from ho]; rfl
  show Runs k (match accepts code2 pc (T.getD ps 0) _ with | .error why => _ | .ok (false, seen) => _ | .ok (true, seen) => _) P
  rw [e1, e2]
  have this : Runs k (br2 T j alt (pc + itemWidth code2 pc) (ps + 1) hd ((br2 T j alt pc ps hd seen).seen.add 16)) P := by rw [e3]; exact h _
  exact this
/-- from the end of a branch -/
theorem done2 {T : Array Nat} {j alt ps hd : Nat} {seen : Seen} : Runs 4 (br2 T j alt 35 ps hd seen) (Got j ps) := by
  refine .step rfl ?_
  have e3 : M.step (br2 T j alt 35 ps hd seen) = if (true && ((false && (ps != T.size)) || (false && (ps == j)))) = true then _ else _ := rfl
  rw [e3, if_neg (by simp)]
  exact .step rfl (.step rfl (.step rfl (.end _ rfl ⟨rfl, rfl, rfl⟩)))
theorem jump2 {T : Array Nat} {j alt pc ps hd k : Nat} {seen : Seen} {P : M → Prop} (hpc : pc = 16 ∨ pc = 21 ∨ pc = 32) (h : ∀ seen, Runs k (br2 T j alt 35 ps hd seen) P) : Runs (k + 1) (br2 T j alt pc ps hd seen) P := by
  rcases hpc with rfl | rfl | rfl
  · exact .step rfl (h _)
  · exact .step rfl (h _)
  · exact .step rfl (h _)
theorem other2 {T : Array Nat} {j alt alt' pc ps hd k : Nat} {seen : Seen} {P : M → Prop} (ha : alt = 11 ∧ alt' = 18 ∨ alt = 18 ∧ alt' = 23) (h : ∀ seen, Runs k (br2 T j alt' (alt' + 1) j j seen) P) : Runs (k + 1) ((br2 T j alt pc ps hd seen).say false) P := by
  rcases ha with ⟨rfl, rfl⟩ | ⟨rfl, rfl⟩
  · exact .step rfl (h _)
  · exact .step rfl (h _)
theorem hit2_lf {T : Array Nat} {j : Nat} {seen : Seen} (hj : j < T.size) (h : T.getD j 0 = 10) : Runs 40 (st2 T j seen) (Got j (j + 1)) := by
  refine .mono (first2 fun _ => lit_no (c := 13) rfl rfl (by decide) (by rw [h]; simp) fun _ => other2 (.inl ⟨rfl, rfl⟩) fun _ => lit_yes (c := 10) rfl rfl (by decide) ⟨hj, h⟩ fun _ => jump2 (.inr (.inl rfl)) fun _ => done2) (by decide)
theorem hit2_crlf {T : Array Nat} {j : Nat} {seen : Seen} (hj : j + 1 < T.size) (h : T.getD j 0 = 13) (h2 : T.getD (j + 1) 0 = 10) : Runs 40 (st2 T j seen) (Got j (j + 2)) := by
  refine .mono (first2 fun _ => lit_yes (c := 13) rfl rfl (by decide) ⟨by omega, h⟩ fun _ => lit_yes (c := 10) rfl rfl (by decide) ⟨hj, h2⟩ fun _ => jump2 (.inl rfl) fun _ => done2) (by decide)
/-- the look ahead -/
def lk2 (T : Array Nat) (j : Nat) (ps : Nat) (seen : Seen) : M :=
  { br2 T j 23 29 ps ps seen with outermost := false, weight := 3, frames := { wait := .lookNot, pc := 26, pos := ps, outermost := true, kept := { lastmark := -1, lastindex := -1, whole := false, marks := #[] } } :: (br2 T j 23 29 ps ps seen).frames }
theorem look2 {T : Array Nat} {j ps hd k : Nat} {seen : Seen} {P : M → Prop} (hc : ¬ (ps < T.size ∧ T.getD ps 0 = 10)) (h : ∀ seen hd, Runs k (br2 T j 23 32 ps hd seen) P) : Runs (k + 3) (br2 T j 23 26 ps hd seen) P := by
  refine .step rfl ?_
  have e : M.step (br2 T j 23 26 ps hd seen) = lk2 T j ps (seen.add 5) := rfl
  rw [e]
  refine .step rfl ?_
  have e2 : ∀ seen, M.step (lk2 T j ps seen) = if ps ≥ T.size then _ else match (Except.ok (T.getD ps 0 == 10, Seen.add seen 16) : Except String (Bool × Seen)) with
    | .error why => _
    | .ok (false, sn) => _
    | .ok (true, sn) => _ := fun _ => rfl
  rw [e2]
  by_cases h1 : ps ≥ T.size
  · rw [if_pos h1]
    exact .step rfl (h _ _)
  · have e4 : (T.getD ps 0 == 10) = false := by
      rw [beq_eq_false_iff_ne]; exact fun q => hc ⟨by omega, q⟩
    rw [if_neg h1, e4]
    exact .step rfl (h _ _)
theorem hit2_cr {T : Array Nat} {j : Nat} {seen : Seen} (hj : j < T.size) (h : T.getD j 0 = 13) (h2 : ¬ (j + 1 < T.size ∧ T.getD (j + 1) 0 = 10)) : Runs 40 (st2 T j seen) (Got j (j + 1)) := by
  refine .mono (first2 fun _ => lit_yes (c := 13) rfl rfl (by decide) ⟨hj, h⟩ fun _ => lit_no (c := 10) rfl rfl (by decide) h2 fun _ => other2 (.inl ⟨rfl, rfl⟩) fun _ => lit_no (c := 10) rfl rfl (by decide) (by rw [h]; simp) fun _ => other2 (.inr ⟨rfl, rfl⟩) fun _ =>
    lit_yes (c := 13) rfl rfl (by decide) ⟨hj, h⟩ fun _ => look2 h2 fun _ _ => jump2 (.inr (.inr rfl)) fun _ => done2) (by decide)
end
/-! part R3 -/
set_option Elab.async false
section
open PySem PySem.Sre

def Found (code : Array Nat) (x : List Nat) (i b e : Nat) : Prop := Runs (2 ^ 20) (forSearch code x.toArray 0 i x.length false) (Got b e)
def NotFound (code : Array Nat) (x : List Nat) (i : Nat) : Prop := Runs (2 ^ 20) (forSearch code x.toArray 0 i x.length false) Lost
inductive Subs (code : Array Nat) (rep x : List Nat) : Nat → List Nat → Prop
  | stop {i : Nat} (hi : i ≤ x.length) (h : NotFound code x i) : Subs code rep x i (x.drop i)
  | go {i b e : Nat} {r : List Nat} (hi : i ≤ b) (hb : b < e) (he : e ≤ x.length) (h : Found code x i b e) (t : Subs code rep x e r) : Subs code rep x i ((x.drop i).take (b - i) ++ rep ++ r)

theorem getD_list (x : List Nat) (i : Nat) : x.toArray.getD i 0 = x.getD i 0 := by
  simp only [Array.getD, List.getD_eq_getElem?_getD, List.size_toArray]
  split
  · rename_i h
    rw [List.getElem?_eq_getElem h]; rfl
  · rename_i h
    rw [List.getElem?_eq_none (by omega)]; rfl
theorem drop_getD (x : List Nat) (i : Nat) (h : i < x.length) : x.drop i = x.getD i 0 :: x.drop (i + 1) := by
  rw [List.drop_eq_getElem_cons h]; simp [List.getD_eq_getElem?_getD, h]

/-! dots -/
def hit1 (x : List Nat) (c : Nat) : Prop := (c = 0 ∨ x.getD (c - 1) 0 = 10) ∧ x.getD c 0 = 46
def ls1 (x : List Nat) (i : Nat) : Bool := i == 0 || x.getD (i - 1) 0 == 10
theorem ls1_iff (x : List Nat) (i : Nat) : ls1 x i = true ↔ (i = 0 ∨ x.getD (i - 1) 0 = 10) := by simp [ls1]
theorem from1_hit {x : List Nat} {b : Nat} (hb : b < x.length) (hh : hit1 x b) : ∀ (n j : Nat) (first : Bool) (seen : Seen), j + n = b → (∀ c, j ≤ c → c < b → ¬ hit1 x c) → Runs (3 * n + 5) (st1 x.toArray j first seen) (Got b (b + 1))
  | 0, j, first, seen, h, _ => by
    have : j = b := by omega
    subst this
    exact try1_yes (by simpa using hb) (by rw [getD_list, getD_list]; exact hh)
  | n + 1, j, first, seen, h, hn => by
    refine .mono (try1_no (by simp; omega) (by rw [getD_list, getD_list]; exact hn j (Nat.le_refl _) (by omega)) fun sn => from1_hit hb hh n (j + 1) false sn (by omega) (fun c h1 h2 => hn c (by omega) h2)) (by omega)
theorem from1_none {x : List Nat} : ∀ (n j : Nat) (first : Bool) (seen : Seen), j + n = x.length → (∀ c, j ≤ c → c < x.length → ¬ hit1 x c) → Runs (3 * n + 5) (st1 x.toArray j first seen) Lost
  | 0, j, first, seen, h, _ => by
    have : j = x.toArray.size := by simp; omega
    rw [this]
    exact try1_last.mono (by omega)
  | n + 1, j, first, seen, h, hn => by
    refine .mono (try1_no (by simp; omega) (by rw [getD_list, getD_list]; exact hn j (Nat.le_refl _) (by omega)) fun sn => from1_none n (j + 1) false sn (by omega) (fun c h1 h2 => hn c (by omega) h2)) (by omega)
theorem cases1 (x : List Nat) : ∀ (n i : Nat), i + n = x.length →
    ((∀ c, i ≤ c → c < x.length → ¬ hit1 x c) ∧ dot (ls1 x i) (x.drop i) = x.drop i) ∨
    ∃ b, i ≤ b ∧ b < x.length ∧ hit1 x b ∧ (∀ c, i ≤ c → c < b → ¬ hit1 x c) ∧ dot (ls1 x i) (x.drop i) = (x.drop i).take (b - i) ++ [46, 46] ++ dot (ls1 x (b + 1)) (x.drop (b + 1))
  | 0, i, h => by
    left
    refine ⟨fun c h1 h2 => by omega, ?_⟩
    rw [List.drop_of_length_le (by omega)]; rfl
  | n + 1, i, h => by
    have hi : i < x.length := by omega
    have hls : ls1 x (i + 1) = (x.getD i 0 == 10) := by simp [ls1]
    by_cases hh : hit1 x i
    · right
      refine ⟨i, Nat.le_refl _, hi, hh, fun c h1 h2 => by omega, ?_⟩
      rw [drop_getD x i hi, dot, if_pos ⟨(ls1_iff x i).mpr hh.1, hh.2⟩, hls, hh.2]
      simp
    · have e : dot (ls1 x i) (x.drop i) = x.getD i 0 :: dot (ls1 x (i + 1)) (x.drop (i + 1)) := by
        rw [drop_getD x i hi, dot, if_neg (fun q => hh ⟨(ls1_iff x i).mp q.1, q.2⟩), hls]
      rcases cases1 x n (i + 1) (by omega) with ⟨h1, h2⟩ | ⟨b, h1, h2, h3, h4, h5⟩
      · left
        refine ⟨fun c q1 q2 => ?_, ?_⟩
        · rcases Nat.eq_or_lt_of_le q1 with rfl | q
          · exact hh
          · exact h1 c q q2
        · rw [e, h2, ← drop_getD x i hi]
      · right
        refine ⟨b, by omega, h2, h3, fun c q1 q2 => ?_, ?_⟩
        · rcases Nat.eq_or_lt_of_le q1 with rfl | q
          · exact hh
          · exact h4 c q q2
        · rw [e, h5]
          conv => rhs; rw [drop_getD x i hi, show b - i = (b - (i + 1)) + 1 by omega, List.take_succ_cons]
          simp
theorem subs1 (x : List Nat) (hx : x.length < 1000) : ∀ (n i : Nat), i + n = x.length → Subs code1 [46, 46] x i (dot (ls1 x i) (x.drop i)) := by
  intro n
  induction n using Nat.strongRecOn with
  | ind n ih =>
    intro i h
    rcases cases1 x n i h with ⟨h1, h2⟩ | ⟨b, h1, h2, h3, h4, h5⟩
    · rw [h2]
      refine .stop (by omega) ?_
      unfold NotFound
      rcases Nat.eq_or_lt_of_le (show i ≤ x.length by omega) with rfl | q
      · have := search1_end x.toArray
        rw [List.size_toArray] at this
        exact this.mono (by omega)
      · obtain ⟨sn, e⟩ := search1 x.toArray i (by simpa using q)
        rw [List.size_toArray] at e
        rw [e]
        exact (from1_none n i true sn h h1).mono (by omega)
    · rw [h5]
      refine .go h1 (Nat.lt_succ_self b) (by omega) ?_ (ih (x.length - (b + 1)) (by omega) (b + 1) (by omega))
      unfold Found
      obtain ⟨sn, e⟩ := search1 x.toArray i (by simp; omega)
      rw [List.size_toArray] at e
      rw [e]
      exact (from1_hit h2 h3 (b - i) i true sn (by omega) h4).mono (by omega)

/-! ends -/
def hit2 (x : List Nat) (c : Nat) : Prop := x.getD c 0 = 10 ∨ x.getD c 0 = 13
def nx2 (x : List Nat) (b : Nat) : Nat := if x.getD b 0 = 13 ∧ b + 1 < x.length ∧ x.getD (b + 1) 0 = 10 then b + 2 else b + 1
theorem nlb_true {r : List Nat} (h : r.head? ≠ some 10) : nlb true r = nlb false r := by
  cases r with
  | nil => rfl
  | cons c r =>
    have hc : c ≠ 10 := fun q => h (by rw [q]; rfl)
    simp [nlb, hc]
theorem nlb_hit (x : List Nat) (b : Nat) (hb : b < x.length) (hh : hit2 x b) : nlb false (x.drop b) = [13, 10] ++ nlb false (x.drop (nx2 x b)) := by
  rw [drop_getD x b hb, nlb]
  unfold nx2
  rcases hh with h | h
  · rw [h]; simp
  · rw [h]
    simp only [show ¬ (13 : Nat) = 10 by decide, if_false, if_true, true_and]
    by_cases h2 : b + 1 < x.length ∧ x.getD (b + 1) 0 = 10
    · rw [if_pos h2, drop_getD x (b + 1) h2.1, h2.2, nlb]
      simp
    · rw [if_neg h2, nlb_true]
      · rfl
      · intro q
        apply h2
        rw [List.head?_drop] at q
        obtain ⟨q1, q2⟩ := List.getElem?_eq_some_iff.mp q
        exact ⟨q1, by rw [List.getD_eq_getElem?_getD, q]; rfl⟩
theorem cases2 (x : List Nat) : ∀ (n i : Nat), i + n = x.length →
    ((∀ c, i ≤ c → c < x.length → ¬ hit2 x c) ∧ nlb false (x.drop i) = x.drop i) ∨
    ∃ b, i ≤ b ∧ b < x.length ∧ hit2 x b ∧ (∀ c, i ≤ c → c < b → ¬ hit2 x c) ∧ nlb false (x.drop i) = (x.drop i).take (b - i) ++ [13, 10] ++ nlb false (x.drop (nx2 x b))
  | 0, i, h => by
    left
    refine ⟨fun c h1 h2 => by omega, ?_⟩
    rw [List.drop_of_length_le (by omega)]; rfl
  | n + 1, i, h => by
    have hi : i < x.length := by omega
    by_cases hh : hit2 x i
    · right
      refine ⟨i, Nat.le_refl _, hi, hh, fun c h1 h2 => by omega, ?_⟩
      rw [nlb_hit x i hi hh]; simp
    · have e : nlb false (x.drop i) = x.getD i 0 :: nlb false (x.drop (i + 1)) := by
        rw [drop_getD x i hi, nlb, if_neg (fun q => hh (.inl q)), if_neg (fun q => hh (.inr q))]
      rcases cases2 x n (i + 1) (by omega) with ⟨h1, h2⟩ | ⟨b, h1, h2, h3, h4, h5⟩
      · left
        refine ⟨fun c q1 q2 => ?_, ?_⟩
        · rcases Nat.eq_or_lt_of_le q1 with rfl | q
          · exact hh
          · exact h1 c q q2
        · rw [e, h2, ← drop_getD x i hi]
      · right
        refine ⟨b, by omega, h2, h3, fun c q1 q2 => ?_, ?_⟩
        · rcases Nat.eq_or_lt_of_le q1 with rfl | q
          · exact hh
          · exact h4 c q q2
        · rw [e, h5]
          conv => rhs; rw [drop_getD x i hi, show b - i = (b - (i + 1)) + 1 by omega, List.take_succ_cons]
          simp
theorem subs2 (x : List Nat) : ∀ (n i : Nat), i + n = x.length → Subs code2 [13, 10] x i (nlb false (x.drop i)) := by
  intro n
  induction n using Nat.strongRecOn with
  | ind n ih =>
    intro i h
    rcases cases2 x n i h with ⟨h1, h2⟩ | ⟨b, h1, h2, h3, h4, h5⟩
    · rw [h2]
      refine .stop (by omega) ?_
      unfold NotFound
      rcases Nat.eq_or_lt_of_le (show i ≤ x.length by omega) with rfl | q
      · have := search2_end x.toArray
        rw [List.size_toArray] at this
        exact this.mono (by omega)
      · have := search2_none x.toArray i (by simpa using q) (fun c q1 q2 => by rw [getD_list]; exact h1 c q1 (by simpa using q2))
        rw [List.size_toArray] at this
        exact this.mono (by omega)
    · rw [h5]
      have hnx : b < nx2 x b ∧ nx2 x b ≤ x.length := by
        unfold nx2
        split
        · rename_i q; omega
        · omega
      refine .go h1 hnx.1 hnx.2 ?_ (ih (x.length - nx2 x b) (by omega) (nx2 x b) (by omega))
      unfold Found
      obtain ⟨sn, e⟩ := search2_hit x.toArray i b h1 (by simpa using h2) (by rw [getD_list]; exact h3) (fun c q1 q2 => by rw [getD_list]; exact h4 c q1 q2)
      rw [List.size_toArray] at e
      rw [e]
      refine Runs.mono ?_ (show 40 ≤ 2 ^ 20 by decide)
      unfold nx2
      rcases h3 with h3 | h3
      · rw [if_neg (by rw [h3]; simp)]
        exact hit2_lf (by simpa using h2) (by rw [getD_list]; exact h3)
      · by_cases h6 : b + 1 < x.length ∧ x.getD (b + 1) 0 = 10
        · rw [if_pos ⟨h3, h6⟩]
          exact hit2_crlf (by simpa using h6.1) (by rw [getD_list]; exact h3) (by rw [getD_list]; exact h6.2)
        · rw [if_neg (fun q => h6 q.2)]
          exact hit2_cr (by simpa using h2) (by rw [getD_list]; exact h3) (by rw [getD_list]; simpa using h6)
theorem subs_dots (x : List Nat) (hx : x.length < 1000) : Subs code1 [46, 46] x 0 (dot true x) := by
  have := subs1 x hx x.length 0 (by omega)
  simpa [ls1] using this
theorem subs_ends (x : List Nat) : Subs code2 [13, 10] x 0 (nlb false x) := by
  have := subs2 x x.length 0 (by omega)
  simpa using this
end
/-! part M4 -/
set_option Elab.async false
section
open PySem PySem.Builtin PySem.Builtin.Str

/-! texts as lists of signs -/
def tx (x : Str) : List Nat := x.cps.toList
theorem tx_len (x : Str) : (tx x).length = x.length := by simp [tx, Str.length]
theorem tx_get (x : Str) (k : Nat) : x.cps[k]? = (tx x)[k]? := by simp [tx]
theorem str_ext {x y : Str} (h : tx x = tx y) : x = y := by
  cases x; cases y; simp only [tx] at h; rw [Array.toList_inj.mp h]
theorem pick_range (l : List Nat) (i : Nat) : ∀ n, ((List.range n).map fun k => i + k).filterMap (fun k => l[k]?) = (l.drop i).take n
  | 0 => by simp
  | n + 1 => by
    rw [List.range_succ, List.map_append, List.filterMap_append, pick_range l i n, List.take_add_one, List.getElem?_drop]
    congr 1
theorem range_one (i j : Nat) : sliceRange (i : Int) (j : Int) 1 = (List.range (j - i)).map fun k => i + k := by
  unfold sliceRange
  simp only [show (1 : Int) > 0 by decide, if_true]
  have : (if (i : Int) < (j : Int) then ((j : Int) - i + 1 - 1) / 1 else 0).toNat = j - i := by
    split <;> omega
  rw [this]
  refine List.map_congr_left fun k _ => ?_
  omega
theorem tx_slice_of (x : Str) (l u : Option Int) (i j : Nat) (hj : j ≤ x.length) (h : strSliceIndices l u 1 x.length = sliceRange (i : Int) (j : Int) 1) : tx (Txt.slice x l u) = ((tx x).drop i).take (j - i) := by
  have hx := tx_len x
  unfold Txt.slice
  rw [h, range_one]
  split
  · rename_i q
    have q2 : ((List.range (j - i)).map fun k => i + k).length = x.length := by
      rw [Bool.and_eq_true] at q
      exact eq_of_beq q.2
    rw [List.length_map, List.length_range] at q2
    by_cases hi : i = 0
    · subst hi
      rw [List.drop_zero, List.take_of_length_le (by omega)]
    · have : x.length = 0 := by omega
      rw [List.take_of_length_le (by simp; omega), List.drop_of_length_le (by omega)]
      exact List.eq_nil_of_length_eq_zero (by omega)
  · show (List.filterMap _ _).toArray.toList = _
    rw [List.toList_toArray, ← pick_range]
    congr 1
    exact funext fun k => tx_get x k
theorem clip_nat (n i : Nat) : max 0 (min (if (i : Int) < 0 then (i : Int) + n else i) n) = ((min i n : Nat) : Int) := by
  rw [if_neg (by omega)]; omega
theorem clip_neg (n k : Nat) (h0 : 0 < k) (hk : k ≤ n) : max 0 (min (if -(k : Int) < 0 then -(k : Int) + n else -(k : Int)) n) = ((n - k : Nat) : Int) := by
  rw [if_pos (by omega)]; omega
theorem tx_slice (x : Str) (i j : Nat) : tx (Txt.slice x (some (i : Int)) (some (j : Int))) = ((tx x).drop i).take (j - i) := by
  have hx := tx_len x
  rw [tx_slice_of x _ _ (min i x.length) (min j x.length) (by omega)]
  · rcases Nat.le_total i x.length with h | h
    · rw [Nat.min_eq_left h]
      rcases Nat.le_total j x.length with h2 | h2
      · rw [Nat.min_eq_left h2]
      · rw [Nat.min_eq_right h2, List.take_of_length_le (by rw [List.length_drop]; omega), List.take_of_length_le (by rw [List.length_drop]; omega)]
    · rw [Nat.min_eq_right h, List.drop_of_length_le (by omega), List.drop_of_length_le (by omega)]; simp
  · unfold strSliceIndices
    simp only [show (1 : Int) > 0 by decide, if_true]
    rw [clip_nat, clip_nat]
theorem tx_slice_to (x : Str) (j : Nat) : tx (Txt.slice x none (some (j : Int))) = (tx x).take j := by
  have hx := tx_len x
  rw [tx_slice_of x _ _ 0 (min j x.length) (by omega)]
  · rw [List.drop_zero]
    rcases Nat.le_total j x.length with h2 | h2
    · rw [Nat.min_eq_left h2]; simp
    · rw [Nat.min_eq_right h2, List.take_of_length_le (by omega), List.take_of_length_le (by omega)]
  · unfold strSliceIndices
    simp only [show (1 : Int) > 0 by decide, if_true]
    rw [clip_nat]; rfl
theorem tx_slice_last (x : Str) (k : Nat) (h0 : 0 < k) (hk : k ≤ x.length) : tx (Txt.slice x (some (-(k : Int))) none) = (tx x).drop (x.length - k) := by
  have hx := tx_len x
  rw [tx_slice_of x _ _ (x.length - k) x.length (Nat.le_refl _)]
  · rw [List.take_of_length_le (by rw [List.length_drop]; omega)]
  · unfold strSliceIndices
    simp only [show (1 : Int) > 0 by decide, if_true]
    rw [clip_neg _ _ h0 hk]
theorem seq_nat {n i : Nat} (h : i < n) : seqIndex? (i : Int) n = some i := by
  unfold seqIndex?
  have e : (if (i : Int) < 0 then (i : Int) + n else i) = i := if_neg (by omega)
  simp only [e]
  rw [if_pos (by simp; omega), Int.toNat_natCast]
theorem tx_item (x : Str) (i : Nat) (h : i < x.length) : Txt.item x (i : Int) = ⟨#[(tx x).getD i 0]⟩ := by
  unfold Txt.item Txt.charAt
  rw [seq_nat h, Option.bind_some, tx_get, List.getD_eq_getElem?_getD]
theorem tx_item_last (x : Str) (k : Nat) (h0 : 0 < k) (h : k ≤ x.length) : Txt.item x (-(k : Int)) = ⟨#[(tx x).getD (x.length - k) 0]⟩ := by
  unfold Txt.item Txt.charAt
  rw [seqIndex_neg (by omega) (by omega), Option.bind_some, tx_get, List.getD_eq_getElem?_getD]
  congr 5
  omega
theorem tx_append (x y : Str) : tx (x ++ y) = tx x ++ tx y := by
  show (x ++ y).cps.toList = _
  rw [Str.cps_append, Array.toList_append]; rfl

/-! rows, from what is read so far -/
def glue (pre : List (List Nat)) (l : List Nat) : List (List Nat) → List (List Nat)
  | [] => pre ++ [l]
  | x :: xs => pre ++ (l ++ x) :: xs
theorem glue_nl (pre : List (List Nat)) (l : List Nat) (t : List Nat) : glue pre l ([] :: rowsR t) = glue (pre ++ [l]) [] (rowsR t) := by
  obtain ⟨x, xs, e⟩ := rowsB_cons false t
  rw [rowsR_eq, e]
  simp [glue]
theorem glue_sign (pre : List (List Nat)) (l : List Nat) (c : Nat) (t : List Nat) (h1 : c ≠ 10) (h2 : c ≠ 13) : glue pre l (rowsR (c :: t)) = glue pre (l ++ [c]) (rowsR t) := by
  obtain ⟨x, xs, e⟩ := rowsB_cons false t
  rw [rowsR, if_neg h1, if_neg h2, rowsR_eq, e]
  simp [glue]
theorem glue_end (pre : List (List Nat)) (l : List Nat) : glue pre l (rowsR []) = pre ++ [l] := by simp [glue, rowsR]
end
/-! part B0 -/
set_option maxRecDepth 100000
section
open PySem PySem.W PyProof.Rows PySem.Calls PySem.Spec

abbrev Led := List (Addr × Obj)
abbrev tupOf (vs : List Value) (n : Nat) : Obj := { cls := .type "tuple", data := .seq vs.toArray n }

/-- what stays of the top: the written part, the names -/
structure Gl (w : World) (mg mb : Str → Option Value) (h : Heap) : Prop where
  X : (hd.heap_39 w.params).In h
  g : h.Ns mainGlobals mg
  b : h.Ns builtinsNs mb
  nolimit : h.NoLimit
  builtins : ∀ x : Str, x ≠ "__name__" → mb x = bootBuiltins x
  bmain : ∃ bm ob, mg "__builtins__" = some (.ref bm) ∧ bm ≠ builtinsNs ∧ h.get? bm = some ob ∧ ob.cls = .type "module" ∧ ob.dict = some builtinsNs ∧ ob.data = .plain
  codeA : CodeHd h 51 47
  codeB : CodeHd h 58 54
theorem Gl.keeps {w : World} {mg mb : Str → Option Value} {h h' : Heap} (G : Gl w mg mb h) (k : ∀ b o, h.get? b = some o → h'.get? b = some o) : Gl w mg mb h' :=
  ⟨G.X.keeps k, G.g.keeps k, G.b.keeps k, G.nolimit.keeps k, G.builtins, let ⟨bm, ob, a1, a2, a3, r⟩ := G.bmain; ⟨bm, ob, a1, a2, k _ _ a3, r⟩, G.codeA.keeps k, G.codeB.keeps k⟩

theorem binds_peek {K : Frag} {s : Shared} {fd : FuncData} {args : Args} {binds : List (Str × Value)} (X : K.In s.heap) (e : ∀ S, peek K S (bindArgs fd args) = some binds) : BindsTo s fd args binds :=
  fun M _ _ _ hq => (Looks.of_peek (M := M) X (e _)).here hq

/-- the end of a def's body -/
def Ret (g : Heap) (L : Addr) (s : Shared) (Post : Value → Led → Prop) (fl : Flow) (s' : Shared) : Prop :=
  ∃ h' tk m' news' v, s' = { s with heap := h', toks := tk } ∧ Fr g L h' m' ∧ News g L h' news' ∧ (match fl with | .ret v => v | _ => .none) = v ∧ Post v news'

section
variable {w : World} {mg mb : Str → Option Value} {A : Around} {h₀ : Heap} {L : Addr} {m : Str → Option Value} {s : Shared} {news : Led} {Q E : Value → Shared → Prop} {Post : Value → Led → Prop}
  {name qual : Str} {params : Arguments} {body : List Stmt} {scope : Scope} {dV kV doc pm cdv ct oc : Value} {an od : Option Addr} {osl : Array (Option Value)} {f : Addr} {args : Args} {binds : List (Str × Value)} {cl : List (Str × Addr)} {fo : Obj}

theorem ground' (F : Fr h₀ L s.heap m) (N : News h₀ L s.heap news) :
    h₀.StaysIn (hideAll s.heap (news.map (·.1))) ∧
      ∀ (h' : Heap) (L' : Addr) (m' : Str → Option Value) (news' : Led), Fr (hideAll s.heap (news.map (·.1))) L' h' m' → News (hideAll s.heap (news.map (·.1))) L' h' news' → Fr h₀ L h' m ∧ News h₀ L h' news' := by
  have nm : ∀ b o, h₀.get? b = some o → b ∉ news.map (·.1) := fun b o e q => by
    obtain ⟨p, hp, rfl⟩ := List.mem_map.mp q
    rw [(N p hp).2.2] at e; cases e
  have st : h₀.StaysIn (hideAll s.heap (news.map (·.1))) := fun b o e => hideAll_get _ (F.keep b o e) (nm b o e)
  obtain ⟨oL, es, ep, hL, hLd, hLk, hLf⟩ := F.ns
  have nL : L ∉ news.map (·.1) := fun q => by
    obtain ⟨p, hp, e⟩ := List.mem_map.mp q
    exact (N p hp).2.1 e
  have hLg := hideAll_get (news.map (·.1)) hL nL
  refine ⟨st, fun h' L' m' news' F' N' => ⟨⟨⟨oL, es, ep, F'.keep L oL hLg, hLd, hLk, hLf⟩, fun b o e => F'.keep b o (st b o e), F.above⟩, fun p hp => ⟨(N' p hp).1, fun q => ?_, ?_⟩⟩⟩
  · have := (N' p hp).2.2; rw [q, hLg] at this; cases this
  · cases q : h₀.get? p.1 with
    | none => rfl
    | some o => have := (N' p hp).2.2; rw [st _ _ q] at this; cases this

/-- a def is entered -/
theorem callF (G : Gl w mg mb h₀) (F : Fr h₀ L s.heap m) (N : News h₀ L s.heap news) (ho : s.heap.get? f = some fo) (hd : fo.data = .func (fnX name qual params body scope cl dV kV doc pm an cdv ct)) (hcd : s.heap.CodeRec cdv qual) (hroom : A.depth < recursionLimit)
    (hbind : BindsTo s (fnX name qual params body scope cl dV kV doc pm an cdv ct) args binds) (hloc : ∀ y ∈ binds, scope.names.lookup y.1 = some .local)
    (hcell : ∀ x ∈ scope.names, x.2 ≠ .cell) (hco : scope.isCoroutine = false) (hgen : scope.isGenerator = false) (hk : scope.kind = .function)
    (hQ : ∀ v news' h' tk', Fr h₀ L h' m → News h₀ L h' news' → Post v news' → Q v { s with heap := h', toks := tk' })
    (h : ∀ g L' h₁ tk, Gl w mg mb g → Fr g L' h₁ (fun y => binds.reverse.lookup y) → News g L' h₁ news → (∀ p ∈ news, p.1 < L') →
      wpAny (model PySem.Challenge.rw_pe0203_01.row.prog w) (A.deeper (envX qual scope L' f cdv cl)) (execs body (envX qual scope L' f cdv cl)) (Ret g L' s Post) (fun _ _ => False) { s with heap := h₁, toks := tk }) :
    wpAny (model PySem.Challenge.rw_pe0203_01.row.prog w) A (call (.ref f) args.pos args.kw) Q E s := by
  obtain ⟨st, lv⟩ := ground' F N
  refine wpAny_call ?_
  refine codeAny_call_def (fd := fnX name qual params body scope cl dV kV doc pm an cdv ct) (body := body) (binds := binds) hroom ho hd (G.nolimit.keeps F.keep) hcd rfl hbind hcell hloc (fun h₁ hns hk₁ => ?_) hco hgen hk
  refine wpAny_mono (h _ s.heap.objs.size h₁ _ (G.keeps st) ⟨hns, fun b o e => hk₁ b o (of_hideAll _ e), Nat.le_of_eq (hideAll_size _ _)⟩
    (fun p hp => ⟨hk₁ _ _ (N p hp).1, Nat.ne_of_lt (Heap.lt_size (N p hp).1), hideAll_none _ (List.mem_map_of_mem hp)⟩) (fun p hp => Heap.lt_size (N p hp).1)) (fun fl s' hl => ?_) fun _ _ y => y.elim
  obtain ⟨h', tk, m', news', v, rfl, F', N', rfl, P'⟩ := hl
  obtain ⟨F₂, N₂⟩ := lv _ _ _ _ F' N'
  exact hQ _ _ _ _ F₂ N₂ P'

theorem callK (G : Gl w mg mb h₀) (F : Fr h₀ L s.heap m) (N : News h₀ L s.heap news) (ho : (hd.heap_39 w.params).lookup f = some ⟨oc, od, .func (fnX name qual params body scope [] dV kV doc pm an cdv ct), osl⟩) (hcd : codeIn (hd.heap_39 w.params) cdv qual = true) (hroom : A.depth < recursionLimit)
    (hbind : ∀ S, peek (hd.heap_39 w.params) S (bindArgs (fnX name qual params body scope [] dV kV doc pm an cdv ct) args) = some binds) (hloc : ∀ y ∈ binds, scope.names.lookup y.1 = some .local)
    (hcell : ∀ x ∈ scope.names, x.2 ≠ .cell) (hco : scope.isCoroutine = false) (hgen : scope.isGenerator = false) (hk : scope.kind = .function)
    (hQ : ∀ v news' h' tk', Fr h₀ L h' m → News h₀ L h' news' → Post v news' → Q v { s with heap := h', toks := tk' })
    (h : ∀ g L' h₁ tk, Gl w mg mb g → Fr g L' h₁ (fun y => binds.reverse.lookup y) → News g L' h₁ news → (∀ p ∈ news, p.1 < L') →
      wpAny (model PySem.Challenge.rw_pe0203_01.row.prog w) (A.deeper (envX qual scope L' f cdv [])) (execs body (envX qual scope L' f cdv [])) (Ret g L' s Post) (fun _ _ => False) { s with heap := h₁, toks := tk }) :
    wpAny (model PySem.Challenge.rw_pe0203_01.row.prog w) A (call (.ref f) args.pos args.kw) Q E s :=
  callF G F N ((G.X.keeps F.keep) _ _ ho) rfl (codeRec_of (G.X.keeps F.keep) hcd) hroom (binds_peek (G.X.keeps F.keep) hbind) hloc hcell hco hgen hk hQ h
end

/-- a def's contract -/
def Sp (w : World) (mg mb : Str → Option Value) (f : Addr) (vs : List Value) (dd uu : Nat) (news : Led) (Post : Value → Led → Prop) : Prop :=
  ∀ (A : Around) (h₀ : Heap) (L : Addr) (m : Str → Option Value) (s : Shared) (Q E : Value → Shared → Prop),
    Gl w mg mb h₀ → Fr h₀ L s.heap m → News h₀ L s.heap news → A.depth + dd < recursionLimit → A.units + uu < cLine → A.handled = none →
    (∀ r news' h' tk', Fr h₀ L h' m → News h₀ L h' news' → Post r news' → Q r { s with heap := h', toks := tk' }) →
    wpAny (model PySem.Challenge.rw_pe0203_01.row.prog w) A (call (.ref f) vs) Q E s

/-- names and their values -/
def AllB (m : Str → Option Value) (ps : List (Str × Value)) : Prop := ∀ p ∈ ps, m p.1 = some p.2
theorem al_nil {m : Str → Option Value} : AllB m [] := fun _ h => nomatch h
theorem al_cons {m : Str → Option Value} {x : Str} {v : Value} {ps : List (Str × Value)} (h : m x = some v) (t : AllB m ps) : AllB m ((x, v) :: ps) := fun p hp => by
  rcases List.mem_cons.mp hp with rfl | hp
  · exact h
  · exact t p hp
theorem fr_named {h₀ h : Heap} {L : Addr} {m : Str → Option Value} (ps : List (Str × Value)) (F : Fr h₀ L h m) (hp : AllB m ps) : Fr h₀ L h (kstB m ps) := by
  have : kstB m ps = m := funext fun y => kstB_eq hp fun _ => rfl
  rw [this]; exact F
theorem news_lst {h₀ h : Heap} {L l : Addr} {news : Led} {its : Array Value} {n : Nat} (N : News h₀ L h news) (hm : (l, listOf its n) ∈ news) : h.IsList l its := ⟨_, (N _ hm).1, rfl, n, rfl⟩

section
variable {prog : Program} {w : World} {A : Around} {E : Value → Shared → Prop} {s : Shared}

theorem lt_pair {a b : Addr} {x₁ x₂ y₁ y₂ : Int} {t₁ t₂ u₁ u₂ : Tok} {n k : Nat} {Q : Value → Shared → Prop} (hu : A.units < cLine)
    (ha : s.heap.get? a = some (tupOf [.int x₁ t₁, .int x₂ t₂] n)) (hb : s.heap.get? b = some (tupOf [.int y₁ u₁, .int y₂ u₂] k))
    (h : Q (.bool (decide (x₁ < y₁ ∨ (x₁ = y₁ ∧ x₂ < y₂)))) s) : wpAny (model prog w) A (compareOp .Lt (.ref a) (.ref b)) Q E s := by
  have hTa : s.TypeIs (.ref a) "tuple" := ⟨_, ha, rfl⟩
  have hTb : s.TypeIs (.ref b) "tuple" := ⟨_, hb, rfl⟩
  refine cmp_ofLt (wpAny_richCompare_same_room hTa hTb F.slot_tuple_lt ?_ hu)
  refine wpAny_call_entry F.slot_tuple_lt hTa F.entry_tuple_lt ?_ (F.args_tuple_lt_2 _ _)
  show wpAny _ _ (isInstance (.ref b) (.type "tuple") >>= _) _ _ s
  refine wpAny_bind (wpAny_isInstance hTb isSubtype_tuple_tuple ?_)
  simp only [Bool.not_true, Bool.false_eq_true, if_false]
  refine wpAny_bind (wpAny_tupleItemsOf ha rfl ?_)
  refine wpAny_bind (wpAny_tupleItemsOf hb rfl ?_)
  simp only [List.zip_cons_cons, List.zip_nil_right, List.forIn_cons, List.forIn_nil]
  refine wpAny_bind (wpAny_bind (wpAny_bind (wpAny_eqBool_int ?_)))
  by_cases h1 : x₁ = y₁
  · subst h1
    rw [show (x₁ == x₁) = true from by simp]
    simp only [Bool.not_true, Bool.false_eq_true, if_false]
    refine wpAny_pure ?_
    refine wpAny_bind (wpAny_bind (wpAny_eqBool_int ?_))
    by_cases h2 : x₂ = y₂
    · subst h2
      rw [show (x₂ == x₂) = true from by simp]
      simp only [Bool.not_true, Bool.false_eq_true, if_false]
      refine wpAny_pure (wpAny_pure ?_)
      refine wpAny_pure ⟨_, rfl, nofun, ?_⟩
      simpa [Builtin.Tuple.tupleCompareSizes] using h
    · rw [show (x₂ == y₂) = false from by simpa using h2]
      simp only [Bool.not_false, if_true]
      refine wpAny_bind (wpAny_rule (wpAny_bind (lt_int (Q := fun v s' => _) ?_)))
      refine wpAny_bind (wpAny_pure (wpAny_pure ?_))
      refine wpAny_pure (wpAny_pure ⟨_, rfl, nofun, ?_⟩)
      simpa using h
  · rw [show (x₁ == y₁) = false from by simpa using h1]
    simp only [Bool.not_false, if_true]
    refine wpAny_bind (wpAny_rule (wpAny_bind (lt_int (Q := fun v s' => _) ?_)))
    refine wpAny_bind (wpAny_pure (wpAny_pure ?_))
    refine wpAny_pure (wpAny_pure ⟨_, rfl, nofun, ?_⟩)
    simpa [h1] using h
end

def LtOk (w : World) (news : Led) (v x : Value) (b : Bool) : Prop :=
  ∀ (A : Around) (E Q : Value → Shared → Prop) (s : Shared), A.units < cLine → (∀ p ∈ news, s.heap.get? p.1 = some p.2) → Q (.bool b) s → wpAny (model PySem.Challenge.rw_pe0203_01.row.prog w) A (compareOp .Lt v x) Q E s
theorem LtOk.int {w : World} {news : Led} {a b : Int} {t u : Tok} : LtOk w news (.int a t) (.int b u) (decide (a < b)) := fun _ _ _ _ _ _ h => lt_int h
theorem LtOk.pair {w : World} {news : Led} {a b : Addr} {x₁ x₂ y₁ y₂ : Int} {t₁ t₂ u₁ u₂ : Tok} {n k : Nat} (ha : (a, tupOf [.int x₁ t₁, .int x₂ t₂] n) ∈ news) (hb : (b, tupOf [.int y₁ u₁, .int y₂ u₂] k) ∈ news) :
    LtOk w news (.ref a) (.ref b) (decide (x₁ < y₁ ∨ (x₁ = y₁ ∧ x₂ < y₂))) := fun _ _ _ _ hu hn h => lt_pair hu (hn _ ha) (hn _ hb) h

theorem fdiv2 (a b : Nat) : ((a : Int) + b).fdiv 2 = (((a + b) / 2 : Nat) : Int) := by
  rw [Int.fdiv_eq_ediv_of_nonneg _ (by decide)]; omega
theorem if_pos' {c : Prop} [Decidable c] {P Q : Prop} (hc : c) (h : P) : if c then P else Q := by rw [if_pos hc]; exact h
theorem if_neg' {c : Prop} [Decidable c] {P Q : Prop} (hc : ¬ c) (h : Q) : if c then P else Q := by rw [if_neg hc]; exact h
theorem if_split {c : Prop} [Decidable c] {P Q : Prop} (h1 : c → P) (h2 : ¬ c → Q) : if c then P else Q := by split <;> simp_all

/-! names of the top -/
section
variable {M : Model} {A : Around} {E : Value → Shared → Prop} {s : Shared} {w : World} {mg mb : Str → Option Value} {h₀ : Heap} {L a : Addr} {m : Str → Option Value} {cn : Str} {cs : Scope} {ccd : Value} {cl : List (Str × Addr)} {x : Str} {pos : Pos} {v : Value} {Q : Value → Shared → Prop}
theorem nmG (F : Fr h₀ L s.heap m) (G : Gl w mg mb h₀) (e : nsIn (hd.heap_39 w.params) mainGlobals x = some (some v)) (hk : cs.kind = .function) (hx : (envX cn cs L a ccd cl).kindOf x = some .globalImplicit) (hd : (x == ("__debug__" : Str)) = false)  (h : Q v s) :
    wpAny M A (eval (.Name x pos) (envX cn cs L a ccd cl)) Q E s := Name_function_global hk hx (loadGlobal_global (env := envX cn cs L a ccd cl) (G.g.keeps F.keep) (mg_of G.X G.g e) h) hd
theorem nmB (F : Fr h₀ L s.heap m) (G : Gl w mg mb h₀) (e : nsIn (hd.heap_39 w.params) mainGlobals x = some none) (hv : bootBuiltins x = some v) (hn : x ≠ "__name__") (hk : cs.kind = .function) (hx : (envX cn cs L a ccd cl).kindOf x = some .globalImplicit) (hd : (x == ("__debug__" : Str)) = false) (h : Q v s) :
    wpAny M A (eval (.Name x pos) (envX cn cs L a ccd cl)) Q E s :=
  Name_function_global hk hx (loadGlobal_builtin (env := envX cn cs L a ccd cl) (G.g.keeps F.keep) (mg_none_of G.X G.g e) (G.b.keeps F.keep) ((G.builtins x hn).trans hv) h) hd
end
end
section
open PySem PySem.W PyProof.Rows PySem.Calls PySem.Spec
theorem kfill (w : World) (h : Heap) : (hd.heap_39 w.params).In h → PySem.Challenge.rw_pe0203_01 = PySem.Challenge.rw_pe0203_01 := by
  k_fill
  exact fun _ => rfl
local macro_rules | `(tactic| walk_at "st") => `(tactic| first
  | (with_reducible refine wpAny_execs_cons ?_)
  | (with_reducible refine wpAny_execs_nil ?_)
  | (with_reducible refine wpAny_If ?_)
  | (with_reducible refine wpAny_Return_some ?_)
  | (with_reducible refine wpAny_Return_none ?_)
  | ((with_reducible show wpAny _ _ (exec (Stmt.Assign [Expr.Name _ _] _ _) _) _ _ _); refine wpAny_Assign_Name ?_)
  | ((with_reducible show wpAny _ _ (exec (Stmt.Assign [Expr.Tuple _ _ _] _ _) _) _ _ _); refine Assign_Tuple ?_)
  | ((with_reducible show wpAny _ _ (exec (Stmt.Assign [Expr.Subscript _ _ _] _ _) _) _ _ _); refine wpAny_Assign_Subscript ?_)
  | ((with_reducible show wpAny _ _ (exec (Stmt.AugAssign (Expr.Name _ _) _ _ _) _) _ _ _); refine wpAny_AugAssign_Name ?_)
  | ((with_reducible show wpAny _ _ (exec (Stmt.Expr _ _) _) _ _ _); refine wpAny_Expr_any ?_)
  | ((with_reducible show wpAny _ _ (exec (Stmt.FunctionDef _ _ _ _ _ _ _ _ _ _) _) _ _ _); refine nestDef_K rfl rfl rfl ?_)
  | ((with_reducible show wpAny _ _ (exec (Stmt.For (Expr.Name _ _) _ _ [] _) _) _ _ _); refine wpAny_For ?_)
  | ((with_reducible show wpAny _ _ (isTrue (Expr.Compare _ [_] [_] _) _ _) _ _ _); refine wpAny_isTrue_Compare1 ?_)
  | ((with_reducible show wpAny _ _ (isTrue (Expr.Name _ _) _ _) _ _ _); refine isTrue_plain ?_)
  | ((with_reducible show wpAny _ _ (isTrue (Expr.Call _ _ _ _) _ _) _ _ _); refine isTrue_plain ?_)
  | (with_reducible refine wpAny_BinOp ?_)
  | ((with_reducible show wpAny _ _ (eval (Expr.Compare _ [_] [_] _) _) _ _ _); refine wpAny_Compare1 ?_)
  | (with_reducible refine Subscript_ ?_)
  | (with_reducible refine IfExp_ ?_)
  | (with_reducible refine Tuple_ ?_)
  | (with_reducible refine List_ ?_)
  | (with_reducible refine UnaryOp_ ?_)
  | (with_reducible refine wpAny_Slice ?_)
  | (with_reducible refine evalPart_some_step ?_)
  | (with_reducible refine wpAny_evalPart_none ?_)
  | (with_reducible refine Calls.Constant_str ?_)
  | (with_reducible refine wpAny_Constant_int ?_)
  | (with_reducible refine wpAny_Constant_none ?_)
  | (with_reducible refine wpAny_Constant_bool ?_)
  | ((with_reducible show wpAny _ _ (eval (Expr.Call (Expr.Attribute _ _ _) _ [] _) _) _ _ _); refine MethodCall_ ?_)
  | ((with_reducible show wpAny _ _ (eval (Expr.Call _ _ [] _) _) _ _ _); refine Call_ ?_)
  | ((with_reducible show wpAny _ _ (callWith _ (Value.builtin _) _ (backTo _ (starEach [] _)) _) _ _ _); refine callWith_method0 ?_)
  | ((with_reducible show wpAny _ _ (callWith _ (Value.builtin _) [] _ _) _ _ _); refine PyProof.Rows.callWith_builtin1 ?_)
  | ((with_reducible show wpAny _ _ (callWith _ (Value.builtin _) _ _ _) _ _ _); refine callWith_method1 ?_)
  | ((with_reducible show wpAny _ _ (callWith _ (Value.type _) _ _ _) _ _ _); refine PyProof.Rows.callWith_type1 ?_)
  | ((with_reducible show wpAny _ _ (callWith _ (Value.ref _) [] _ _) _ _ _); refine callWith_K (Gl.X (by assumption)) (by k_is) ?_)
  | ((with_reducible show wpAny _ _ (spliced (backTo _ (starEach (_ :: _) _))) _ _ _); refine spliced_more ?_)
  | (with_reducible refine spliced_none ?_)
  | (with_reducible refine wpAny_truthy_bool ?_)
  | ((with_reducible show wpAny _ _ (eval (Expr.Name _ _) _) _ _ _); first
      | refine nameX_L (by assumption) rfl ?_
      | refine nameX_C (by assumption) rfl (by assumption) (by assumption) ?_
      | refine nameX_F (by assumption) rfl (by assumption) (by assumption) ?_
      | refine nmG (by assumption) (by assumption) (by k_is) rfl rfl (by decide) ?_
      | refine nmB (by assumption) (by assumption) (by k_is) (by boot_by_name) (by decide) rfl rfl (by decide) ?_)
  | ((with_reducible show wpAny _ _ (loadName _ _) _ _ _); refine wpAny_loadName_local rfl rfl (Fr.ns (by assumption)) rfl ?_)
  | ((with_reducible show wpAny _ _ (storeName _ _ _) _ _ _); (refine storeX_L (by assumption) (by assumption) ?_ rfl rfl); intro h' F' N'; dsimp only)
  | ((with_reducible show wpAny _ _ (compareOp CmpOp.Is Value.none Value.none) _ _ _); with_reducible refine is_none_none ?_)
  | ((with_reducible show wpAny _ _ (compareOp CmpOp.Lt (Value.int _ _) (Value.int _ _)) _ _ _); with_reducible refine lt_int ?_)
  | ((with_reducible show wpAny _ _ (compareOp CmpOp.LtE (Value.int _ _) (Value.int _ _)) _ _ _); with_reducible refine le_int ?_)
  | ((with_reducible show wpAny _ _ (compareOp CmpOp.Eq (Value.int _ _) (Value.int _ _)) _ _ _); with_reducible refine eq_int ?_)
  | ((with_reducible show wpAny _ _ (compareOp CmpOp.NotEq (Value.int _ _) (Value.int _ _)) _ _ _); with_reducible refine ne_int ?_)
  | ((with_reducible show wpAny _ _ (binaryOp Operator.Add (Value.int _ _) (Value.int _ _)) _ _ _); with_reducible refine add_int ?_)
  | ((with_reducible show wpAny _ _ (binaryOp Operator.Sub (Value.int _ _) (Value.int _ _)) _ _ _); with_reducible refine sub_int ?_)
  | ((with_reducible show wpAny _ _ (call (Value.type "range") [Value.int _ _]) _ _ _); refine range1_rows (by assumption) (by assumption) ?_; intro h' tk' t1' u1' v1' R' F' N' kp')
  | ((with_reducible show wpAny _ _ (call (Value.type "range") [Value.int _ _, Value.int _ _]) _ _ _); refine range2_rows (by assumption) (by assumption) ?_; intro h' tk' t1' u1' v1' R' F' N' kp')
  | ((with_reducible show Frag.In _ _ ∧ _); refine ⟨Frag.In.keeps (Gl.X (by assumption)) (Fr.keep (by assumption)), ?_⟩; dsimp only [List.nil_append])
  | (with_reducible refine ite_tt ?_)
  | (with_reducible refine ite_ff ?_)
  | ((with_reducible show ite _ _ _); first | (refine if_pos' (by decide) ?_) | (refine if_neg' (by decide) ?_))
  | (dsimp only; walk_at "st"))
/-! part B1 -/
set_option maxRecDepth 100000
section
open PySem PySem.W PyProof.Rows PySem.Calls PySem.Spec

set_option maxHeartbeats 4000000 in
theorem bl {w : World} {mg mb : Str → Option Value} {news : Led} {l : Addr} {vs : List Value} {n : Nat} {x : Value} {b : Nat → Bool}
   (hl : (l, listOf vs.toArray n) ∈ news) (hz : vs.length < 1000) (hb : ∀ i v, vs[i]? = some v → LtOk w news v x (b i)) (hmono : ∀ i j, i ≤ j → j < vs.length → b j = true → b i = true) :
   Sp w mg mb 100 [.ref l, x] 1 8 news (fun r news' => news' = news ∧ ∃ (k : Nat) (t : Tok), r = .int k t ∧ k ≤ vs.length ∧ (∀ i, i < k → b i = true) ∧ (∀ i, k ≤ i → i < vs.length → b i = false)) := by
  unfold Sp
  intro A h₀ L m s Q E G F N hd hu hh hQ
  refine callK (args := ⟨[.ref l, x], []⟩) G F N (by k_is) (by k_is) (by omega) (fun _ => rfl) (locs rfl) (by decide) rfl rfl rfl hQ ?_
  clear F N G hQ
  intro g L h₁ tk G F N hlt
  repeat' walk_at "st"
  refine len_list (news_lst N hl) (by simp; omega) ?_
  repeat' walk_at "st"
  refine While_inv2 (fun c m nx => nx = news ∧ ∃ (lo hi : Nat) (t1 t2 : Tok), AllB m [(Str.ofString "a", Value.ref l), (Str.ofString "x", x), (Str.ofString "lo", Value.int lo t1), (Str.ofString "hi", Value.int hi t2)] ∧
      c = hi - lo ∧ lo ≤ hi ∧ hi ≤ vs.length ∧ (∀ i, i < lo → b i = true) ∧ (∀ i, hi ≤ i → i < vs.length → b i = false)) (by assumption) (by assumption) ⟨rfl, 0, vs.length, _, _, al_cons rfl (al_cons rfl (al_cons rfl (al_cons rfl al_nil))), rfl, by omega, by omega, by omega, by omega⟩ ?_ (PassesOwn.never)
  rintro c m₁ nx h₂ tk₂ F₁ N₁ ⟨rfl, lo, hi, t1, t2, hm, rfl, hle, hhi, hlo', hhi'⟩
  have F := fr_named _ F₁ hm
  clear F₁ hm
  repeat' walk_at "st"
  refine if_split (fun hc => ?_) (fun hc => ?_)
  · have hc := of_decide_eq_true hc
    repeat' walk_at "st"
    refine floordiv_int (by decide) ?_
    rw [fdiv2 lo hi]
    repeat' walk_at "st"
    obtain ⟨v, hv⟩ : ∃ v, vs[(lo + hi) / 2]? = some v := ⟨_, List.getElem?_eq_getElem (by omega)⟩
    refine item_litK (news_lst (by assumption) hl) (by omega) (by omega) hv ?_
    repeat' walk_at "st"
    refine hb _ _ hv _ _ _ _ (by show A.units + 3 < cLine; omega) (fun p hp => (News.get (by assumption) hp)) ?_
    repeat' walk_at "st"
    refine if_split (fun hbm => ?_) (fun hbm => ?_)
    · repeat' walk_at "st"
      refine ⟨_, _, _, _, _, rfl, by assumption, by assumption, ?_, rfl, (lo + hi) / 2 + 1, hi, _, _, al_cons rfl (al_cons rfl (al_cons rfl (al_cons rfl al_nil))), rfl, by omega, by omega, fun i hi => ?_, hhi'⟩
      · omega
      · exact hmono i _ (by omega) (by omega) hbm
    · repeat' walk_at "st"
      refine ⟨_, _, _, _, _, rfl, by assumption, by assumption, ?_, rfl, lo, (lo + hi) / 2, _, _, al_cons rfl (al_cons rfl (al_cons rfl (al_cons rfl al_nil))), rfl, by omega, by omega, hlo', fun i h1 h2 => ?_⟩
      · omega
      · cases hbi : b i with
        | false => rfl
        | true => exact absurd (hmono _ i h1 h2 hbi) hbm
  · repeat' walk_at "st"
    have hc : ¬ lo < hi := fun q => hc (decide_eq_true (by omega))
    exact ⟨_, _, _, _, _, rfl, by assumption, by assumption, rfl, rfl, lo, _, rfl, by omega, hlo', fun i h1 h2 => hhi' i (by omega) h2⟩
end
/-! part B2 -/
set_option maxRecDepth 100000
section
open PySem PySem.W PyProof.Rows PySem.Calls PySem.Spec
set_option maxHeartbeats 4000000 in
theorem brr {w : World} {mg mb : Str → Option Value} {news : Led} {l : Addr} {vs : List Value} {n : Nat} {x : Value} {b : Nat → Bool}
   (hl : (l, listOf vs.toArray n) ∈ news) (hz : vs.length < 1000) (hb : ∀ i v, vs[i]? = some v → LtOk w news x v (b i)) (hmono : ∀ i j, i ≤ j → j < vs.length → b i = true → b j = true) {t₀ : Tok} :
   Sp w mg mb 91 [.ref l, x, .int 0 t₀, .none] 1 8 news (fun r news' => news' = news ∧ ∃ (k : Nat) (t : Tok), r = .int k t ∧ k ≤ vs.length ∧ (∀ i, i < k → b i = false) ∧ (∀ i, k ≤ i → i < vs.length → b i = true)) := by
  unfold Sp
  intro A h₀ L m s Q E G F N hd hu hh hQ
  refine callK (args := ⟨[.ref l, x, .int 0 t₀, .none], []⟩) G F N (by k_is) (by k_is) (by omega) (fun _ => rfl) (locs rfl) (by decide) rfl rfl rfl hQ ?_
  clear F N G hQ
  intro g L h₁ tk G F N hlt
  repeat' walk_at "st"
  refine len_list (news_lst N hl) (by simp; omega) ?_
  repeat' walk_at "st"
  refine While_inv2 (fun c m nx => nx = news ∧ ∃ (lo hi : Nat) (t1 t2 : Tok), AllB m [(Str.ofString "a", Value.ref l), (Str.ofString "x", x), (Str.ofString "lo", Value.int lo t1), (Str.ofString "hi", Value.int hi t2)] ∧
      c = hi - lo ∧ lo ≤ hi ∧ hi ≤ vs.length ∧ (∀ i, i < lo → b i = false) ∧ (∀ i, hi ≤ i → i < vs.length → b i = true)) (by assumption) (by assumption) ⟨rfl, 0, vs.length, _, _, al_cons rfl (al_cons rfl (al_cons rfl (al_cons rfl al_nil))), rfl, by omega, by omega, by omega, by omega⟩ ?_ (PassesOwn.never)
  rintro c m₁ nx h₂ tk₂ F₁ N₁ ⟨rfl, lo, hi, t1, t2, hm, rfl, hle, hhi, hlo', hhi'⟩
  have F := fr_named _ F₁ hm
  clear F₁ hm
  repeat' walk_at "st"
  refine if_split (fun hc => ?_) (fun hc => ?_)
  · have hc := of_decide_eq_true hc
    repeat' walk_at "st"
    refine floordiv_int (by decide) ?_
    rw [fdiv2 lo hi]
    repeat' walk_at "st"
    obtain ⟨v, hv⟩ : ∃ v, vs[(lo + hi) / 2]? = some v := ⟨_, List.getElem?_eq_getElem (by omega)⟩
    refine item_litK (news_lst (by assumption) hl) (by omega) (by omega) hv ?_
    repeat' walk_at "st"
    refine hb _ _ hv _ _ _ _ (by show A.units + 3 < cLine; omega) (fun p hp => (News.get (by assumption) hp)) ?_
    repeat' walk_at "st"
    refine if_split (fun hbm => ?_) (fun hbm => ?_)
    · repeat' walk_at "st"
      refine ⟨_, _, _, _, _, rfl, by assumption, by assumption, ?_, rfl, lo, (lo + hi) / 2, _, _, al_cons rfl (al_cons rfl (al_cons rfl (al_cons rfl al_nil))), rfl, by omega, by omega, hlo', fun i h1 h2 => hmono _ i h1 h2 hbm⟩
      omega
    · repeat' walk_at "st"
      refine ⟨_, _, _, _, _, rfl, by assumption, by assumption, ?_, rfl, (lo + hi) / 2 + 1, hi, _, _, al_cons rfl (al_cons rfl (al_cons rfl (al_cons rfl al_nil))), rfl, by omega, by omega, fun i hi => ?_, hhi'⟩
      · omega
      · cases hbi : b i with
        | false => rfl
        | true => exact absurd (hmono i _ (by omega) (by omega) hbi) hbm
  · repeat' walk_at "st"
    have hc : ¬ lo < hi := fun q => hc (decide_eq_true (by omega))
    exact ⟨_, _, _, _, _, rfl, by assumption, by assumption, rfl, rfl, lo, _, rfl, by omega, hlo', fun i h1 h2 => hhi' i (by omega) h2⟩

/-- a ledger with one object turned -/
def upd (news : Led) (l : Addr) (o : Obj) : Led := (l, o) :: news.filter (fun p => p.1 != l)
theorem upd_mem {news : Led} {l : Addr} {o : Obj} {p : Addr × Obj} (h : p ∈ news) (hn : p.1 ≠ l) : p ∈ upd news l o := .tail _ (List.mem_filter.mpr ⟨h, by simpa using hn⟩)
theorem upd_head {news : Led} {l : Addr} {o : Obj} : (l, o) ∈ upd news l o := .head _
theorem news_pick {h₀ h : Heap} {L l : Addr} {news : Led} {o : Obj} (N : News h₀ L h news) (hl : (l, o) ∈ news) : News h₀ L h (upd news l o) := fun p hp => by
  rcases List.mem_cons.mp hp with rfl | hp
  · exact N _ hl
  · exact N p (List.mem_filter.mp hp).1
theorem upd_ne {news : Led} {l : Addr} : ∀ p ∈ news.filter (fun p => p.1 != l), p.1 ≠ l := fun p hp => by simpa using (List.mem_filter.mp hp).2
theorem kl_ins_nat {vs : List Value} {k : Nat} {x : Value} (h : k ≤ vs.length) : kl_ins vs.toArray.toList (k : Int) x = vs.take k ++ x :: vs.drop k := by
  unfold kl_ins
  have e : ¬ ((k : Int) < 0) := by omega
  simp only [e, if_false, Int.toNat_natCast]
  rw [Nat.min_eq_left (by simpa using h)]
theorem upd_Upd {news : Led} {l : Addr} {o o' : Obj} : Upd l o o' (upd news l o) (upd news l o') := Upd.head upd_ne

set_option maxHeartbeats 4000000 in
theorem ins {w : World} {mg mb : Str → Option Value} {news : Led} {l : Addr} {vs : List Value} {n : Nat} {x : Value} {b : Nat → Bool}
   (hl : (l, listOf vs.toArray n) ∈ news) (hz : vs.length < 1000) (hb : ∀ i v, vs[i]? = some v → LtOk w news x v (b i)) (hmono : ∀ i j, i ≤ j → j < vs.length → b i = true → b j = true) :
   Sp w mg mb 82 [.ref l, x] 2 16 news (fun r news' => r = .none ∧ ∃ (k : Nat), k ≤ vs.length ∧ (∀ i, i < k → b i = false) ∧ (∀ i, k ≤ i → i < vs.length → b i = true) ∧ news' = upd news l (listOf (vs.take k ++ x :: vs.drop k).toArray (n + 1))) := by
  unfold Sp
  intro A h₀ L m s Q E G F N hd hu hh hQ
  refine callK (args := ⟨[.ref l, x], []⟩) G F N (by k_is) (by k_is) (by omega) (fun _ => rfl) (locs rfl) (by decide) rfl rfl rfl hQ ?_
  clear F N G hQ
  intro g L h₁ tk G F N hlt
  repeat' walk_at "st"
  refine brr hl hz hb hmono _ _ _ _ _ _ _ G F N (by show A.depth + 1 + 1 < _; omega) (by show A.units + 3 + 8 < _; omega) hh ?_
  rintro r news' h₂ tk₂ F₂ N₂ ⟨rfl, k, t, rfl, hk, h1, h2⟩
  clear F N
  repeat' walk_at "st"
  refine kl_method (by assumption) hl PySem.F.slot_list_insert PySem.F.type_list_insert ?_
  repeat' walk_at "st"
  refine kl_insert (by assumption) (news_pick (by assumption) hl) ?_ rfl upd_Upd ?_ ?_
  · simp [Builtin.List.listFitsIndex]; omega
  · simp [sizeLine]; omega
  · intro h₃ F₃ N₃
    repeat' walk_at "st"
    exact ⟨h₃, _, _, _, _, rfl, F₃, N₃, rfl, rfl, k, hk, h1, h2, by rw [kl_ins_nat hk]⟩
end
/-! part B3 -/
set_option maxRecDepth 100000
section
open PySem PySem.W PyProof.Rows PySem.Calls PySem.Spec

/-- a list of ints in the ledger -/
def IntL (news : Led) (l : Addr) (ns : List Int) : Prop := ∃ vs n, (l, listOf (List.toArray vs) n) ∈ news ∧ IntsAre vs ns
theorem IntL.mono {news news' : Led} {l : Addr} {ns : List Int} (h : IntL news l ns) (k : ∀ p ∈ news, p ∈ news') : IntL news' l ns := let ⟨vs, n, a, b⟩ := h; ⟨vs, n, k _ a, b⟩

theorem count_split {α : Type} (p : α → Bool) : ∀ (l : List α) (k : Nat), k ≤ l.length → (∀ i x, l[i]? = some x → i < k → p x = true) → (∀ i x, l[i]? = some x → k ≤ i → p x = false) → l.countP p = k
  | [], k, hk, _, _ => by simp at hk; simp [hk]
  | x :: l, 0, _, _, h2 => by
    rw [List.countP_eq_zero]
    intro y hy
    obtain ⟨i, hi⟩ := List.getElem?_of_mem hy
    simp [h2 i y hi (Nat.zero_le _)]
  | x :: l, k + 1, hk, h1, h2 => by
    rw [List.countP_cons_of_pos (h1 0 x rfl (Nat.succ_pos _)), count_split p l k (by simpa using hk) (fun i y hi hk => h1 (i + 1) y hi (by omega)) (fun i y hi hk => h2 (i + 1) y hi (by omega))]

theorem sorted_le {l : List Int} (h : l.Pairwise (· ≤ ·)) {i j : Nat} (hij : i ≤ j) (hj : j < l.length) : l.getD i 0 ≤ l.getD j 0 := by
  rw [List.getD_eq_getElem?_getD, List.getD_eq_getElem?_getD, List.getElem?_eq_getElem hj, List.getElem?_eq_getElem (by omega)]
  rcases Nat.lt_or_eq_of_le hij with h1 | rfl
  · exact List.pairwise_iff_getElem.mp h i j (by omega) hj h1
  · exact Int.le_refl _

/-- bisect_left upon a rising list of ints -/
theorem bl_int {w : World} {mg mb : Str → Option Value} {news : Led} {l : Addr} {ns : List Int} {c : Int} {t : Tok} (hl : IntL news l ns) (hs : ns.Pairwise (· ≤ ·)) (hz : ns.length < 1000) :
    Sp w mg mb 100 [.ref l, .int c t] 1 8 news (fun r news' => news' = news ∧ ∃ t', r = .int (ns.countP (· < c) : Nat) t') := by
  obtain ⟨vs, n, hm, hi⟩ := hl
  have hlen := hi.length
  intro A h₀ L m s Q E G F N hd hu hh hQ
  refine bl (b := fun i => decide (ns.getD i 0 < c)) hm (by omega) (fun i v hv => ?_) (fun i j hij hj hb => ?_) A h₀ L m s Q E G F N hd hu hh (fun r news' h' tk' F' N' P => hQ r news' h' tk' F' N' ?_)
  · obtain ⟨t', rfl⟩ := hi.int_at i v hv
    exact LtOk.int
  · have := sorted_le hs hij (by omega)
    simp only [decide_eq_true_eq] at hb ⊢
    omega
  · obtain ⟨e, k, t', rfl, hk, h1, h2⟩ := P
    refine ⟨e, t', ?_⟩
    rw [count_split (fun x => decide (x < c)) ns k (by omega) (fun i x hx hik => ?_) (fun i x hx hik => ?_)]
    · have := h1 i hik
      rw [List.getD_eq_getElem?_getD, hx] at this
      exact this
    · have hl : i < ns.length := (List.getElem?_eq_some_iff.mp hx).1
      have := h2 i hik (by omega)
      rw [List.getD_eq_getElem?_getD, hx] at this
      exact this

set_option maxHeartbeats 4000000 in
theorem led {w : World} {mg mb : Str → Option Value} {news : Led} {lf ll : Addr} {fs ls : List Int} {c : Int} {p : Nat} {t u : Tok} (hf : IntL news lf fs) (hl : IntL news ll ls) (hs : fs.Pairwise (· ≤ ·)) (hz : fs.length < 1000) (hz2 : ls.length < 1000) :
    Sp w mg mb 138 [.ref lf, .ref ll, .int c t, .int p u] 2 16 news (fun r news' => (∀ q ∈ news, q ∈ news') ∧ ∃ t', r = .int ((fs.countP (· < c) + (ls.take p).count c : Nat)) t') := by
  unfold Sp
  intro A h₀ L m s Q E G F N hd hu hh hQ
  refine callK (args := ⟨[.ref lf, .ref ll, .int c t, .int p u], []⟩) G F N (by k_is) (by k_is) (by omega) (fun _ => rfl) (locs rfl) (by decide) rfl rfl rfl hQ ?_
  clear F N G hQ
  intro g L h₁ tk G F N hlt
  repeat' walk_at "st"
  refine bl_int hf hs hz _ _ _ _ _ _ _ G F N (by show A.depth + 1 + 1 < _; omega) (by show A.units + 3 + 8 < _; omega) hh ?_
  rintro r news' h₂ tk₂ F₂ N₂ ⟨rfl, t', rfl⟩
  clear F N
  repeat' walk_at "st"
  dsimp only
  obtain ⟨vs, n, hm, hi⟩ := hl
  have hlen := hi.length
  refine kmk_slice (s := { s with heap := h₂, toks := tk₂ }) F₂ N₂ (news_lst N₂ hm) .none (.int _ _) ?_ (by with_unfolding_all rfl) (by intro _; with_unfolding_all rfl) (by simp [sizeLine]; omega)
  intro D h₃ F₃ N₃ hlt₃
  have hi₃ := kmk_upto (y := (p : Int)) hi (by omega)
  rw [Int.toNat_natCast] at hi₃
  repeat' walk_at "st"
  refine kl_method (by assumption) (.head _) PySem.F.slot_list_count PySem.F.type_list_count ?_
  repeat' walk_at "st"
  refine count_list_ints (vs := (slicePick vs.toArray none (some (p : Int)) none).toList) (news_lst (its := _) N₃ (.head _)) hi₃ ?_
  repeat' walk_at "st"
  exact ⟨_, _, _, _, _, rfl, F₃, N₃, rfl, fun q hq => .tail _ hq, _, by push_cast; rfl⟩
end
/-! part B4 -/
set_option maxRecDepth 100000
section
open PySem PySem.W PyProof.Rows PySem.Calls PySem.Spec

abbrev itObj (x left : Int) : Obj := { cls := .type "range_iterator", dict := none, data := .fields #[rawInt x, rawInt left, rawInt 1], slots := #[] }
def isIt (o : Obj) : Prop := ∃ x y, o = itObj x y
theorem not_it {o : Obj} (h : o.cls ≠ .type "range_iterator") : ¬ isIt o := fun ⟨_, _, q⟩ => h (by rw [q])
theorem isIt.cls {o : Obj} (h : isIt o) : o.cls = .type "range_iterator" := by obtain ⟨_, _, rfl⟩ := h; rfl
/-- the entries of running loops stay -/
def ItK (nx nx' : Led) : Prop := ∀ p ∈ nx, isIt p.2 → p ∈ nx'
theorem ItK.of {nx nx' : Led} (h : ∀ p ∈ nx, p ∈ nx') : ItK nx nx' := fun p hp _ => h p hp
theorem ItK.trans {a b c : Led} (h : ItK a b) (k : ItK b c) : ItK a c := fun p hp e => k p (h p hp e) e
theorem ItK.upd {h₀ h : Heap} {L l : Addr} {nx : Led} {o o' : Obj} (N : News h₀ L h nx) (hl : (l, o) ∈ nx) (hc : o.cls ≠ .type "range_iterator") : ItK nx (upd nx l o') := fun p hp e => by
  refine upd_mem hp fun q => hc ?_
  have h1 := (N p hp).1
  rw [q, (N _ hl).1] at h1
  rw [← Option.some.inj h1] at e
  exact e.cls

/-- what a loop's turn hands on -/
def Turn (s : Shared) (h₀ : Heap) (L : Addr) (nx : Led) (J : (Str → Option Value) → Led → Prop) (Q : Flow → Shared → Prop) (f : Flow) (s₃ : Shared) : Prop := match f with
  | .ret v => Q (.ret v) s₃
  | .brk => Q .next s₃
  | _ => ∃ h' tk' m' nx', s₃ = { s with heap := h', toks := tk' } ∧ Fr h₀ L h' m' ∧ News h₀ L h' nx' ∧ ItK nx nx' ∧ J m' nx'

section
variable {prog : Program} {w : World} {A : Around} {s : Shared} {env : Env} {h₀ : Heap} {L : Addr} {m : Str → Option Value} {news : Led} {Q : Flow → Shared → Prop}

theorem iter_range {x : Str} {px : Pos} {body : List Stmt} {r : Addr} {a b : Int} {t u v : Tok} {n : Nat} {R : Result → Shared → Prop} {E : Value → Shared → Prop} (J : Nat → (Str → Option Value) → Led → Prop)
    (hmono : ∀ i m nx nx', J i m nx → (∀ p ∈ nx, ¬ isIt p.2 → p ∈ nx') → J i m nx')
    (hh : A.handled = none) (hr : IsRange s.heap r a b 1 t u v) (hsmall : Builtin.Range.small a b 1 = true) (hn : b = a + n) (F : Fr h₀ L s.heap m) (N : News h₀ L s.heap news) (hJ : J 0 m news)
    (hR : ∀ f s', Q f s' → R (.ok f) s')
    (turn : ∀ i t m₁ nx h tk, i < n → J i m₁ nx → (∀ p ∈ news, isIt p.2 → p ∈ nx) → Fr h₀ L h m₁ → News h₀ L h nx → wpAny (model prog w) A (storeName env x (.int (a + (i : Int)) t)) (fun _ s₂ => wpAny (model prog w) A (execs body env) (Turn s h₀ L nx (J (i + 1)) Q) (fun _ _ => False) s₂) (fun _ _ => False) { s with heap := h, toks := tk })
    (done : ∀ m₁ nx h tk, J n m₁ nx → (∀ p ∈ news, isIt p.2 → p ∈ nx) → Fr h₀ L h m₁ → News h₀ L h nx → Q .next { s with heap := h, toks := tk }) :
    wpAny (model prog w) A (pyIter (.ref r)) (fun it s₂ => codeAny (model prog w) A (.forLoop (.Name x px) it body [] env) R s₂) E s := by
  refine wpAny_pyIter_range hr hsmall ?_
  have hsz : Builtin.Range.rangeSize a b 1 = (n : Int) := by rw [rangeSize_one]; split <;> omega
  rw [hsz]
  have hI0 : h₀.get? s.heap.objs.size = none := next_is_new F
  have hIL : s.heap.objs.size ≠ L := Nat.ne_of_gt F.ns.lt
  refine codeAny_forLoop (fun k s' => ∃ h' tk m' nx i, s' = { s with heap := h', toks := tk } ∧ IsRangeIter h' s.heap.objs.size (a + (i : Nat)) ((n : Int) - (i : Nat)) 1 ∧ Fr h₀ L h' m' ∧ News h₀ L h' nx ∧ (∀ p ∈ nx, p.1 ≠ s.heap.objs.size) ∧ (∀ p ∈ news, isIt p.2 → p ∈ nx) ∧ J i m' nx ∧ i ≤ n ∧ k = n + 1 - i) ?_ (n + 1)
    ⟨_, _, m, news, 0, rfl, by simpa using Heap.get?_push_size _ rfl, F.push _, (fun p hp => ⟨Heap.get?_push_of_some _ (N p hp).1, (N p hp).2⟩), (fun p hp => Nat.ne_of_lt (Heap.lt_size (N p hp).1)), fun p hp _ => hp, hJ, Nat.zero_le _, rfl⟩
  rintro k s' ⟨h', tk, m', nx, i, rfl, hit, F', N', hne, hold, hJ', hi, rfl⟩
  by_cases hlt : i < n
  · refine wpAny_pyNext_range_item hit (by omega) fun h₁ hit₁ hsb => ?_
    have F₁ : Fr h₀ L h₁ m' := F'.change hsb hIL hI0
    have N₁ : News h₀ L h₁ ((s.heap.objs.size, itObj (a + (i : Nat) + 1) ((n : Int) - (i : Nat) - 1)) :: nx) := fun p hp => by
      rcases List.mem_cons.mp hp with rfl | hp
      · exact ⟨hit₁, hIL, hI0⟩
      · exact ⟨(hsb.2 _ (hne p hp)).trans (N' p hp).1, (N' p hp).2⟩
    refine wpAny_assign_Name (wpAny_mono (turn i _ m' _ h₁ _ hlt (hmono _ _ _ _ hJ' fun p hp _ => .tail _ hp) (fun p hp e => .tail _ (hold p hp e)) F₁ N₁) (fun _ s₂ h₂ => ?_) fun _ _ e => e.elim)
    refine wpAny_mono h₂ (fun f s₃ h₃ => ?_) fun _ _ e => e.elim
    have fin : (∃ h' tk' m' nx', s₃ = { s with heap := h', toks := tk' } ∧ Fr h₀ L h' m' ∧ News h₀ L h' nx' ∧ ItK ((s.heap.objs.size, itObj (a + (i : Nat) + 1) ((n : Int) - (i : Nat) - 1)) :: nx) nx' ∧ J (i + 1) m' nx') → ∃ m, m < n + 1 - i ∧ ∃ h' tk m' nx i, s₃ = { s with heap := h', toks := tk } ∧ IsRangeIter h' s.heap.objs.size (a + (i : Nat)) ((n : Int) - (i : Nat)) 1 ∧ Fr h₀ L h' m' ∧ News h₀ L h' nx ∧ (∀ p ∈ nx, p.1 ≠ s.heap.objs.size) ∧ (∀ p ∈ news, isIt p.2 → p ∈ nx) ∧ J i m' nx ∧ i ≤ n ∧ m = n + 1 - i := by
      rintro ⟨h₄, tk₄, m₄, nx₄, rfl, F₄, N₄, K₄, J₄⟩
      have hI := K₄ _ (.head _) ⟨_, _, rfl⟩
      have hI2 := (N₄ _ hI).1
      refine ⟨n + 1 - (i + 1), by omega, h₄, tk₄, m₄, nx₄.filter (fun p => p.1 != s.heap.objs.size), i + 1, rfl, ?_, F₄, fun p hp => N₄ p (List.mem_filter.mp hp).1, upd_ne, fun p hp e => ?_, hmono _ _ _ _ J₄ fun p hp hc => ?_, hlt, rfl⟩
      · have e1 : a + ((i + 1 : Nat) : Int) = a + (i : Int) + 1 := by omega
        have e2 : (n : Int) - ((i + 1 : Nat) : Int) = (n : Int) - (i : Int) - 1 := by omega
        rw [e1, e2]
        exact hI2
      · refine List.mem_filter.mpr ⟨K₄ p (.tail _ (hold p hp e)) e, by simpa using Nat.ne_of_lt (Heap.lt_size (N p hp).1)⟩
      · refine List.mem_filter.mpr ⟨hp, ?_⟩
        simp only [bne_iff_ne, ne_eq]
        intro q
        have h1 := (N₄ p hp).1
        rw [q, hI2] at h1
        exact hc (by rw [← Option.some.inj h1]; exact ⟨_, _, rfl⟩)
    cases f with
    | ret v => exact hR _ _ h₃
    | brk => exact hR _ _ h₃
    | next => exact fin h₃
    | cont => exact fin h₃
  · have hin : i = n := by omega
    subst hin
    refine wpAny_pyNext_range_end hh hit (by omega) fun h₁ hx => wpAny_execs_nil (hR _ _ ?_)
    refine done m' nx h₁ _ hJ' hold ⟨?_, fun b o e => hx b o (fun q => by rw [q, hI0] at e; cases e) (F'.keep b o e), F'.above⟩ fun p hp => ⟨hx _ _ (hne p hp) (N' p hp).1, (N' p hp).2⟩
    exact F'.ns.extBut hx hIL.symm
end
end
/-! part B5 -/
set_option maxRecDepth 100000
section
open PySem PySem.W PyProof.Rows PySem.Calls PySem.Spec

/-- the places that are gone through -/
def ledP (ls : List Int) (p : Nat) : Nat := ls.countP (· < ls.getD p 0) + (ls.take p).count (ls.getD p 0)
def goP (ls : List Int) (p : Nat) : Nat → Nat
  | 0 => p
  | n + 1 => ledP ls (goP ls p n)
def heardL (ls : List Int) (p n : Nat) : List Int := (List.range n).map fun i => ls.getD (goP ls p i) 0

theorem heardL_succ (ls : List Int) (p n : Nat) : heardL ls p (n + 1) = heardL ls p n ++ [ls.getD (goP ls p n) 0] := by
  simp [heardL, List.range_succ]

set_option maxHeartbeats 4000000 in
theorem heard {w : World} {mg mb : Str → Option Value} {news : Led} {ll : Addr} {ls : List Int} {p : Nat} {u : Tok} (hl : IntL news ll ls) (hz : ls.length < 64) (hp : ∀ i, i < ls.length → goP ls p i < ls.length) :
    Sp w mg mb 145 [.ref ll, .int p u] 3 24 news (fun r news' => (∀ q ∈ news, q ∈ news') ∧ ∃ D, r = .ref D ∧ IntL news' D (heardL ls p ls.length).reverse) := by
  unfold Sp
  intro A h₀ L m s Q E G F N hd hu hh hQ
  refine callK (args := ⟨[.ref ll, .int p u], []⟩) G F N (by k_is) (by k_is) (by omega) (fun _ => rfl) (locs rfl) (by decide) rfl rfl rfl hQ ?_
  clear F N G hQ
  intro g L h₁ tk G F N hlt
  obtain ⟨vs, n, hm, hi⟩ := hl
  have hlen := hi.length
  repeat' walk_at "st"
  refine kso_sorted F N (news_lst N hm) hi hz ?_
  intro D vs' ns' c h₂ F₂ N₂ hlt₂ hi₂ hlen₂ hperm hsort _
  clear F N
  repeat' walk_at "st"
  refine newList_K (by assumption) (by assumption) ?_
  intro H h₃ F₃ N₃ hH
  repeat' walk_at "st"
  refine len_list (news_lst (by assumption) (List.Mem.tail _ (List.Mem.tail _ hm))) (by simp; omega) ?_
  repeat' walk_at "st"
  refine iter_range (n := ls.length) (fun i m nx => (∀ q ∈ (D, listOf vs'.toArray c) :: news, ¬ isIt q.2 → q ∈ nx) ∧ IntL nx H (heardL ls p i) ∧
      ∃ t, AllB m [(Str.ofString "last", Value.ref ll), (Str.ofString "place", Value.int (goP ls p i) t), (Str.ofString "first", Value.ref D), (Str.ofString "heard", Value.ref H)])
    ?_ hh (by assumption) (small_one (by omega) (by omega) (by omega) (by simp; omega)) (by simp [hlen]) (by assumption) (by assumption) ⟨fun q hq _ => .tail _ hq, ⟨[], 0, .head _, .nil⟩, _, al_cons rfl (al_cons rfl (al_cons rfl (al_cons rfl al_nil)))⟩ (fun _ _ h => h) ?_ ?_
  · rintro i m nx nx' ⟨h1, ⟨hv, hn, h2, h3⟩, h4⟩ hs
    exact ⟨fun q hq hc => hs q (h1 q hq hc) hc, ⟨hv, hn, hs _ h2 (not_it (by simp)), h3⟩, h4⟩
  · rintro i t m₁ nx h tk hin ⟨hk, ⟨hv, hn, hH2, hHi⟩, t', hm'⟩ hold F₁ N₁
    have hpi := hp i hin
    have F := fr_named _ F₁ hm'
    clear F₁ hm'
    repeat' walk_at "st"
    refine kl_method (by assumption) hH2 PySem.F.slot_list_append PySem.F.type_list_append ?_
    repeat' walk_at "st"
    obtain ⟨cv, hcv⟩ : ∃ cv, ls.getD (goP ls p i) 0 = cv := ⟨_, rfl⟩
    obtain ⟨tv, hx⟩ := hi.get (goP ls p i) cv (by simp [hpi, ← hcv])
    have hmx := hk _ (.tail _ hm) (not_it (by simp))
    refine item_litK (news_lst (by assumption) hmx) (by omega) (by omega) (by rw [Int.toNat_natCast]; exact hx) ?_
    repeat' walk_at "st"
    refine append_K (by assumption) (news_pick (by assumption) hH2) upd_Upd ?_ ?_
    · intro h₄ F₄ N₄
      have hlx : (ll, listOf vs.toArray n) ∈ upd nx H (listOf (hv.toArray.push (Value.int cv tv)) (hn + 1)) := upd_mem hmx (Nat.ne_of_lt (hH _ (.tail _ hm)))
      have hDx : (D, listOf vs'.toArray c) ∈ upd nx H (listOf (hv.toArray.push (Value.int cv tv)) (hn + 1)) := upd_mem (hk _ (.head _) (not_it (by simp))) (Nat.ne_of_lt (hH _ (.head _)))
      repeat' walk_at "st"
      refine item_litK (news_lst (by assumption) hlx) (by omega) (by omega) (by rw [Int.toNat_natCast]; exact hx) ?_
      repeat' walk_at "st"
      refine led ⟨_, _, hDx, hi₂⟩ ⟨_, _, hlx, hi⟩ hsort (by omega) (by omega) _ _ _ _ _ _ _ G (by assumption) (by assumption) (by show A.depth + 1 + 2 < _; omega) (by show A.units + 3 + 16 < _; omega) hh ?_
      rintro r news₅ h₅ tk₅ F₅ N₅ ⟨hs₅, t₅, rfl⟩
      repeat' walk_at "st"
      refine ⟨_, _, _, _, rfl, by assumption, by assumption, ?_, ?_, ?_, ?_⟩
      · exact (ItK.upd N₁ hH2 (by simp)).trans (ItK.of hs₅)
      · exact fun q hq hc => hs₅ _ (upd_mem (hk q hq hc) (Nat.ne_of_lt (hH q hq)))
      · refine ⟨hv ++ [Value.int cv tv], hn + 1, hs₅ _ (by rw [← List.push_toArray]; exact upd_head), ?_⟩
        rw [heardL_succ, hcv]
        exact hHi.append (.cons _ _ .nil)
      · refine ⟨t₅, al_cons rfl (al_cons ?_ (al_cons rfl (al_cons rfl al_nil)))⟩
        show some (Value.int _ t₅) = some (Value.int _ t₅)
        have e : goP ls p (i + 1) = List.countP (fun x => decide (x < cv)) ns' + List.count cv (List.take (goP ls p i) ls) := by
          show ledP ls (goP ls p i) = _
          unfold ledP
          rw [hcv, hperm.countP_eq]
        rw [e]
    · have := hHi.length
      simp [heardL] at this
      simp [sizeLine]; omega
  · rintro m₁ nx h tk ⟨hk, hH2, t', hm'⟩ hold F₁ N₁
    have F := fr_named _ F₁ hm'
    clear F₁ hm'
    repeat' walk_at "st"
    refine neg_int ?_
    repeat' walk_at "st"
    dsimp only
    obtain ⟨hv, hn, hH2, hHi⟩ := hH2
    refine krv_ints (s := { s with heap := h, toks := _ }) F N₁ (news_lst N₁ hH2) (.int _ _) hHi ?_ (by with_unfolding_all rfl) (by intro _; with_unfolding_all rfl) ?_
    · intro D' ws h₆ F₆ N₆ _ hi₆ _
      repeat' walk_at "st"
      refine ⟨_, _, _, _, _, rfl, F₆, N₆, rfl, fun q hq => .tail _ ?_, D', rfl, ⟨_, _, .head _, hi₆⟩⟩
      by_cases hc : isIt q.2
      · exact hold q (.tail _ (.tail _ hq)) hc
      · exact hk q (.tail _ hq) hc
    · have := hHi.length
      simp [heardL] at this
      simp [sizeLine]; omega
end
/-! part B6 -/
set_option maxRecDepth 100000
section
open PySem PySem.W PyProof.Rows PySem.Calls PySem.Spec

/-- a pair of ints in the ledger -/
def PairAt (news : Led) (v : Value) (p : Int × Int) : Prop := ∃ a t u n, v = .ref a ∧ (a, tupOf [.int p.1 t, .int p.2 u] n) ∈ news

set_option maxHeartbeats 4000000 in
theorem div2 {w : World} {mg mb : Str → Option Value} {news : Led} {a b n : Int} {t u v : Tok} (hb : 0 < b) (hn : ((Builtin.Int.intBits a : Nat) : Int) - n ≤ 4000) (hl : b.natAbs.log2 < 9000) :
    Sp w mg mb 38 [.int a t, .int b u, .int n v] 1 8 news (fun r news' => (∀ q ∈ news, q ∈ news') ∧ PairAt news' r (a.fdiv b, a.fmod b)) := by
  unfold Sp
  intro A h₀ L m s Q E G F N hd hu hh hQ
  refine callK (args := ⟨[.int a t, .int b u, .int n v], []⟩) G F N (by k_is) (by k_is) (by omega) (fun _ => rfl) (locs rfl) (by decide) rfl rfl rfl hQ ?_
  clear F N G hQ
  intro g L h₁ tk G F N hlt
  repeat' walk_at "st"
  refine getMethod_int_bit_length ?_
  repeat' walk_at "st"
  refine call_int_bit_length ?_
  repeat' walk_at "st"
  refine if_pos' (decide_eq_true hn) ?_
  repeat' walk_at "st"
  refine divmod_N (by assumption) (by assumption) (by omega) ?_ (Or.inl (PyProof.noPylong_of_log2 hl))
  intro h₂ F₂ N₂
  repeat' walk_at "st"
  exact ⟨_, _, _, _, _, rfl, F₂, N₂, rfl, fun q hq => .tail _ hq, _, _, _, _, rfl, .head _⟩
end
/-! part B7 -/
set_option maxRecDepth 100000
section
open PySem PySem.W PyProof.Rows PySem.Calls PySem.Spec

section
variable {w : World} {mg mb : Str → Option Value} {A : Around} {h₀ : Heap} {L : Addr} {m : Str → Option Value} {s : Shared} {news : Led} {Q E : Value → Shared → Prop} {Post : Value → Led → Prop}
  {name qual : Str} {params : Arguments} {body : List Stmt} {scope : Scope} {dV kV doc pm cdv ct oc : Value} {an od : Option Addr} {osl : Array (Option Value)} {f : Addr} {args : Args} {binds : List (Str × Value)}

/-- a def with cells of its own is entered -/
theorem callC (G : Gl w mg mb h₀) (F : Fr h₀ L s.heap m) (N : News h₀ L s.heap news) (ho : (hd.heap_39 w.params).lookup f = some ⟨oc, od, .func (fnX name qual params body scope [] dV kV doc pm an cdv ct), osl⟩) (hcd : codeIn (hd.heap_39 w.params) cdv qual = true) (hroom : A.depth < recursionLimit)
    (hbind : ∀ S, peek (hd.heap_39 w.params) S (bindArgs (fnX name qual params body scope [] dV kV doc pm an cdv ct) args) = some binds)
    (hkind : (binds.all fun y => scope.names.lookup y.1 == some .local || scope.names.lookup y.1 == some .cell) = true)
    (hnd : ((cellsFrom 0 scope.names []).map (·.1)).Nodup) (hco : scope.isCoroutine = false) (hgen : scope.isGenerator = false) (hk : scope.kind = .function)
    (hQ : ∀ v news' h' tk', Fr h₀ L h' m → News h₀ L h' news' → Post v news' → Q v { s with heap := h', toks := tk' })
    (h : ∀ g L' h₁ tk cells, Gl w mg mb g → Fr g L' h₁ (bindL (envOfC qual scope L' f cdv).kindOf binds fun _ => none) → News g L' h₁ (cells ++ news) →
      CellsAre (bindC (envOfC qual scope L' f cdv).kindOf binds fun _ => none) (cellsFrom (L' + 1) scope.names []) cells → (∀ p ∈ news, p.1 < L') →
      wpAny (model PySem.Challenge.rw_pe0203_01.row.prog w) (A.deeper (envX qual scope L' f cdv (cellsFrom (L' + 1) scope.names []))) (execs body (envX qual scope L' f cdv (cellsFrom (L' + 1) scope.names []))) (Ret g L' s Post) (fun _ _ => False) { s with heap := h₁, toks := tk }) :
    wpAny (model PySem.Challenge.rw_pe0203_01.row.prog w) A (call (.ref f) args.pos args.kw) Q E s := by
  obtain ⟨st, lv⟩ := ground' F N
  refine wpAny_call ?_
  refine codeAny_call_function hroom ((G.X.keeps F.keep) _ _ ho) rfl hco hgen rfl (codeRec_of (G.X.keeps F.keep) hcd) (binds_peek (G.X.keeps F.keep) hbind _ _ _ _ ?_)
  refine wpAny_newFunctionEnv_cells hk (kindsX hkind _) fun env' he s' x => ?_
  subst he
  refine ⟨(G.nolimit.keeps F.keep).keeps x.toInCall.keep, codeAny_func ?_⟩
  obtain ⟨h₁, tk, rfl, _⟩ := x.done
  have hk₁ := x.toInCall.keep
  obtain ⟨cells, NC, Y⟩ := Cl.news (h₀ := s.heap) (Nat.le_refl _) fun n c hm => ⟨x.cell n c (lookup_of_mem_nodup (cellsFrom_names scope.names 0 (s.heap.objs.size + 1) [] [] rfl ▸ hnd) hm), x.above n c hm⟩
  refine wpAny_mono (h _ s.heap.objs.size h₁ tk cells (G.keeps st) ⟨x.toInCall.ns, fun b o e => hk₁ b o (of_hideAll _ e), Nat.le_of_eq (hideAll_size _ _)⟩ (fun p hp => ?_) Y (fun p hp => Heap.lt_size (N p hp).1)) (fun fl s' hl => ?_) fun _ _ y => y.elim
  · rcases List.mem_append.mp hp with hp | hp
    · refine ⟨(NC p hp).1, (NC p hp).2.1, ?_⟩
      cases q : (hideAll s.heap (news.map (·.1))).get? p.1 with
      | none => rfl
      | some o => have := of_hideAll _ q; rw [(NC p hp).2.2] at this; cases this
    · exact ⟨hk₁ _ _ (N p hp).1, Nat.ne_of_lt (Heap.lt_size (N p hp).1), hideAll_none _ (List.mem_map_of_mem hp)⟩
  · obtain ⟨h', tk, m', news', v, rfl, F', N', rfl, P'⟩ := hl
    obtain ⟨F₂, N₂⟩ := lv _ _ _ _ F' N'
    exact hQ _ _ _ _ F₂ N₂ P'
end

/-- the table of a def's inner defs: empty, or with the one -/
def TabOk (P : Addr) (qual : Str) (line col : Nat) (news : Led) : Prop :=
  ∃ ps, (P, tabObj ps) ∈ news ∧ (ps = #[] ∨ ∃ c' oc vs t, 54 < c' ∧ ps = #[rawInt line, rawInt col, .ref c'] ∧ (c', oc) ∈ news ∧ oc.data = .fields vs ∧ vs[1]? = some (.str qual t))
theorem TabOk.mono {P : Addr} {qual : Str} {line col : Nat} {news news' : Led} (h : TabOk P qual line col news) (k : ∀ p ∈ news, p ∈ news') : TabOk P qual line col news' := by
  obtain ⟨ps, a, b⟩ := h
  exact ⟨ps, k _ a, b.imp id fun ⟨c', oc, vs, t, h1, h2, h3, h4⟩ => ⟨c', oc, vs, t, h1, h2, k _ h3, h4⟩⟩

section
variable {M : Model} {A : Around} {E : Value → Shared → Prop} {s : Shared} {w : World} {mg mb : Str → Option Value} {h₀ : Heap} {L a c P : Addr} {m : Str → Option Value} {cn : Str} {cs : Scope} {ccd : Value} {cl : List (Str × Addr)} {news : Led}
  {name qual : Str} {params : Arguments} {body : List Stmt} {scope : Scope} {pos : Pos} {firstLine : Nat} {clos : List (Str × Addr)}

theorem nestG {Q : Value → Shared → Prop} (G : Gl w mg mb h₀) (F : Fr h₀ L s.heap m) (N : News h₀ L s.heap news) (C : CodeHd h₀ c P) (hcd : ccd = .ref c) (hT : TabOk P qual pos.line pos.col news) (h54 : ∃ o, (54, o) ∈ news)
    (hcl : closureFor scope (envX cn cs L a ccd cl) = pure clos)
    (h : ∀ f c' oc vs t ctv doc pmv h' tk news', Fr h₀ L h' m → News h₀ L h' ((f, fnMade name qual params body scope clos doc pmv c' ctv) :: news') → (c', oc) ∈ news' → oc.data = .fields vs → vs[1]? = some (.str qual t) →
      TabOk P qual pos.line pos.col news' → (∀ p ∈ news, p.1 ≠ P → p ∈ news') → (∀ p ∈ news', p.1 < f) → Q (.ref f) { s with heap := h', toks := tk }) :
    wpAny M A (makeFunction name qual params (.stmts body) scope (envX cn cs L a ccd cl) [] [] [] pos firstLine) Q E s := by
  obtain ⟨ps, hP, hps⟩ := hT
  have hm := N (P, tabObj ps) hP
  have hgs := G.g.keeps F.keep
  obtain ⟨bm, ob, b1, b2, b3, b4, b5, b6⟩ := G.bmain
  have hgP : mainGlobals ≠ P := fun q => by
    obtain ⟨o, es, ep, e, hd, _⟩ := hgs
    rw [q, hm.1] at e; cases e; cases hd
  have hbP : bm ≠ P := fun q => by
    have e := F.keep _ _ b3
    rw [q, hm.1] at e; cases e; cases b4
  have hbG : bm ≠ mainGlobals := fun q => by
    obtain ⟨o, es, ep, e, hd, _⟩ := G.g
    rw [q, e] at b3; cases b3; rw [hd] at b6; cases b6
  have hb : s.heap.BuiltinsAt mg P := ⟨bm, ob, b1, b2, hbG, hbP, F.keep _ _ b3, b4, b5, b6⟩
  have fresh : ∀ b, L < b → h₀.get? b = none := fun b hb => Heap.get?_none_of_le (Nat.le_trans F.above (Nat.le_of_lt hb))
  rcases hps with rfl | ⟨c', oc, vs, t, h54c, rfl, hc', hd', hv'⟩
  · refine makeFunction_K (mg := mg) hcl rfl hgs hcd (C.keeps F.keep) hm.1 trivial rfl hgP hb fun c' ctv doc h' tk hx hge hlt hrec htb => ?_
    obtain ⟨c₂, oc, vs, t, e2, hoc, hd, hv⟩ := hrec
    cases e2
    have hLs : L < s.heap.objs.size := F.ns.lt
    have hLc : L < c' := Nat.lt_of_lt_of_le hLs hge
    obtain ⟨o54, h54⟩ := h54
    have h54c : 54 < c' := Nat.lt_of_lt_of_le (Heap.lt_size (N _ h54).1) hge
    have old : ∀ b o, h₀.get? b = some o → h'.get? b = some o := fun b o e => hx b o (fun q => by rw [q, hm.2.2] at e; cases e) (F.keep b o e)
    refine h h'.objs.size c' oc vs t ctv doc ((mg "__name__").getD .none) _ tk ((c', oc) :: upd news P (tabObj #[rawInt pos.line, rawInt pos.col, .ref c'])) ⟨(F.ns.extBut hx hm.2.1.symm).push _, fun b o e => Heap.get?_push_of_some _ (old b o e), F.above⟩ (fun q hq => ?_) (.head _) hd hv
      ⟨_, .tail _ upd_head, .inr ⟨c', oc, vs, t, h54c, rfl, .head _, hd, hv⟩⟩ (fun p hp hn => .tail _ (upd_mem hp hn)) (fun p hp => ?_)
    · rcases List.mem_cons.mp hq with rfl | hq
      · exact ⟨Heap.get?_push_size _ rfl, Nat.ne_of_gt (Nat.lt_trans hLc hlt), fresh _ (Nat.lt_trans hLc hlt)⟩
      · rcases List.mem_cons.mp hq with rfl | hq
        · exact ⟨Heap.get?_push_of_some _ hoc, Nat.ne_of_gt hLc, fresh _ hLc⟩
        · rcases List.mem_cons.mp hq with rfl | hq
          · exact ⟨Heap.get?_push_of_some _ (by simpa using htb), hm.2⟩
          · have n := N q (List.mem_filter.mp hq).1
            exact ⟨Heap.get?_push_of_some _ (hx _ _ (upd_ne q hq) n.1), n.2⟩
    · rcases List.mem_cons.mp hp with rfl | hp
      · exact hlt
      · refine Nat.lt_trans ?_ hlt
        rcases List.mem_cons.mp hp with rfl | hp
        · exact Nat.lt_of_lt_of_le (Heap.lt_size hm.1) hge
        · exact Nat.lt_of_lt_of_le (Heap.lt_size (N p (List.mem_filter.mp hp).1).1) hge
  · refine makeFunction_hit (mg := mg) (cv := .ref c') hcl rfl hgs hcd (C.keeps F.keep) hm.1 (by simp [TriplesOk, rawInt]) (by simp [codeAmong, rawInt]) hb fun ctv doc h' tk hk hsz => ?_
    have hLs : L < h'.objs.size := Nat.lt_of_lt_of_le F.ns.lt hsz
    refine h h'.objs.size c' oc vs t ctv doc ((mg "__name__").getD .none) _ tk news ⟨(F.ns.keeps hk).push _, fun b o e => Heap.get?_push_of_some _ (hk b o (F.keep b o e)), F.above⟩ (fun q hq => ?_) hc' hd' hv' ⟨_, hP, .inr ⟨c', oc, vs, t, h54c, rfl, hc', hd', hv'⟩⟩ (fun p hp _ => hp) (fun p hp => Nat.lt_of_lt_of_le (Heap.lt_size (N p hp).1) hsz)
    rcases List.mem_cons.mp hq with rfl | hq
    · exact ⟨Heap.get?_push_size _ rfl, Nat.ne_of_gt hLs, fresh _ hLs⟩
    · exact ⟨Heap.get?_push_of_some _ (hk _ _ (N q hq).1), (N q hq).2⟩
end
end
/-! part B8 -/
set_option maxRecDepth 100000
section
open PySem PySem.W PyProof.Rows PySem.Calls PySem.Spec

/-- figures of n bits each, the low ones first -/
def dsum (n : Nat) : List Int → Int
  | [] => 0
  | d :: r => d + 2 ^ n * dsum n r
theorem dsum_append (n : Nat) : ∀ xs ys : List Int, dsum n (xs ++ ys) = dsum n xs + 2 ^ (n * xs.length) * dsum n ys
  | [], ys => by simp [dsum]
  | x :: xs, ys => by
    rw [List.cons_append, dsum, dsum, dsum_append n xs ys, List.length_cons, Nat.mul_succ, Nat.add_comm, Int.pow_add, Int.mul_add, Int.add_assoc, Int.mul_assoc]
theorem dsum_bound (n K : Nat) : ∀ xs : List Int, (∀ d ∈ xs, d.natAbs < 2 ^ K) → (dsum n xs).natAbs < 2 ^ (K + (n + 1) * xs.length)
  | [], _ => by simp [dsum]; exact Nat.pos_of_ne_zero (by simp)
  | x :: xs, h => by
    have h1 := h x (.head _)
    have h2 := dsum_bound n K xs fun d hd => h d (.tail _ hd)
    have e1 : (dsum n (x :: xs)).natAbs ≤ x.natAbs + 2 ^ n * (dsum n xs).natAbs := by
      rw [dsum]
      refine Nat.le_trans (Int.natAbs_add_le _ _) ?_
      rw [Int.natAbs_mul, Int.natAbs_pow]
      exact Nat.le_refl _
    have e2 : 2 ^ (K + (n + 1) * (x :: xs).length) = 2 ^ n * (2 ^ (K + (n + 1) * xs.length)) + 2 ^ n * (2 ^ (K + (n + 1) * xs.length)) := by
      rw [List.length_cons, ← Nat.two_mul, ← Nat.pow_add, ← Nat.pow_succ']
      congr 1
      rw [Nat.mul_succ]; omega
    have e3 : 2 ^ K ≤ 2 ^ n * 2 ^ (K + (n + 1) * xs.length) := by
      rw [← Nat.pow_add]
      exact Nat.pow_le_pow_right (by decide) (by omega)
    have e4 : 2 ^ n * (dsum n xs).natAbs < 2 ^ n * 2 ^ (K + (n + 1) * xs.length) := Nat.mul_lt_mul_of_pos_left h2 (Nat.pos_of_ne_zero (by simp))
    omega
theorem intBits_le {a : Int} {k : Nat} (h : a.natAbs < 2 ^ k) : Builtin.Int.intBits a ≤ k := by
  unfold Builtin.Int.intBits
  split
  · exact Nat.zero_le _
  · rename_i hz
    have : a.natAbs ≠ 0 := by intro q; exact hz (by simpa using q)
    have := (Nat.log2_lt this).mpr h
    omega
theorem mulOk_small {a b : Int} (h : a.natAbs < 2 ^ 64) : IntMulOk a b := by
  unfold IntMulOk
  have := intBits_le h
  simp [shortFactorBits]
  omega

/-- a stretch of the figures -/
def seg (xs : List Int) (a b : Nat) : List Int := (xs.drop a).take (b - a)
theorem seg_one {xs : List Int} {a : Nat} (h : a < xs.length) : seg xs a (a + 1) = [xs.getD a 0] := by
  simp [seg, List.take_one, h]
theorem seg_split {xs : List Int} {a b c : Nat} (h1 : a ≤ b) (h2 : b ≤ c) : seg xs a c = seg xs a b ++ seg xs b c := by
  unfold seg
  rw [show c - a = (b - a) + (c - b) by omega, List.take_add, List.drop_drop, show a + (b - a) = b by omega]
theorem seg_len {xs : List Int} {a b : Nat} (h : a ≤ b) (h2 : b ≤ xs.length) : (seg xs a b).length = b - a := by simp [seg]; omega

theorem shr1 (a b : Nat) : ((a : Int) + b).fdiv (2 ^ (1 : Int).toNat) = (((a + b) / 2 : Nat) : Int) := by
  rw [show (2 : Int) ^ (1 : Int).toNat = 2 from rfl]; exact fdiv2 a b
theorem int_congr {a b : Int} (t : Tok) (h : a = b) : Value.int a t = Value.int b t := by rw [h]
theorem storeC {M : Model} {A : Around} {E : Value → Shared → Prop} {s : Shared} {h₀ : Heap} {L a : Addr} {m : Str → Option Value} {cn : Str} {cs : Scope} {ccd : Value} {cl : List (Str × Addr)}
    {x : Str} {v : Value} {Q : Unit → Shared → Prop} {news : Led} {c : Addr} {o : Obj} {v₀ : Option Value} (F : Fr h₀ L s.heap m) (N : News h₀ L s.heap news) (hc : cl.lookup x = some c) (hm : (c, o) ∈ news) (hd : o.data = .cell v₀)
    (hk : cs.kind = .function) (hx : (envX cn cs L a ccd cl).kindOf x = some .cell)
    (h : ∀ h' o', Fr h₀ L h' m → News h₀ L h' (upd news c o') → o'.data = .cell (some v) → Q () { s with heap := h' }) : wpAny M A (storeName (envX cn cs L a ccd cl) x v) Q E s :=
  storeX_C F (news_pick N hm) hc (UpdF.head upd_ne) hd h hk hx
theorem head_upd {h₀ h : Heap} {L a l : Addr} {o o' : Obj} {news : Led} (_N : News h₀ L h (upd ((a, o) :: news) l o')) (hne : a ≠ l) : (a, o) ∈ upd ((a, o) :: news) l o' := upd_mem (.head _) hne
theorem tail_upd {h₀ h : Heap} {L a l : Addr} {o o' : Obj} {p : Addr × Obj} {news : Led} (_N : News h₀ L h (upd ((a, o) :: news) l o')) (hp : p ∈ news) (hne : p.1 ≠ l) : p ∈ upd ((a, o) :: news) l o' := upd_mem (.tail _ hp) hne
theorem self_upd {h₀ h : Heap} {L l : Addr} {o' : Obj} {news : Led} (_N : News h₀ L h (upd news l o')) : (l, o') ∈ upd news l o' := .head _
theorem led_name {h₀ h : Heap} {L : Addr} {X : Led} (_N : News h₀ L h X) : ∃ LED, X = LED := ⟨X, rfl⟩
theorem news_ne {h₀ h : Heap} {L a b : Addr} {news : Led} {o o' : Obj} (N : News h₀ L h news) (h1 : (a, o) ∈ news) (h2 : (b, o') ∈ news) (hn : o ≠ o') : a ≠ b := fun q => by
  have e1 := (N _ h1).1
  rw [q, (N _ h2).1] at e1
  exact hn (Option.some.inj e1).symm

set_option maxHeartbeats 4000000 in
theorem d2i {w : World} {mg mb : Str → Option Value} {news : Led} {l : Addr} {xs : List Int} {n : Nat} {t : Tok} (hl : IntL news l xs) (hz : xs.length < 64) (hn : n < 1000) (hx : ∀ d ∈ xs, d.natAbs < 2 ^ 1000)
    (hT : TabOk 54 (Str.ofString "_digits2int.<locals>.inner") 48 4 news) (hl54 : l ≠ 54) :
    Sp w mg mb 59 [.ref l, .int n t] 70 600 news (fun r news' => (∀ q ∈ news, q.1 ≠ 54 → q ∈ news') ∧ TabOk 54 (Str.ofString "_digits2int.<locals>.inner") 48 4 news' ∧ ∃ t', r = .int (dsum n xs) t') := by
  unfold Sp
  intro A h₀ L m s Q E G F N hd hu hh hQ
  refine callC (args := ⟨[.ref l, .int n t], []⟩) G F N (by k_is) (by k_is) (by omega) (fun _ => rfl) (by rfl) (by decide +kernel) rfl rfl rfl hQ ?_
  clear F N G hQ
  intro g L h₁ tk cells G F N hY hlt
  obtain ⟨o₁, o₂, o₃, rfl, d₁, d₂, d₃⟩ := CellsAre.three hY
  clear hY
  dsimp only [List.cons_append, List.nil_append] at N
  repeat' walk_at "st"
  refine nestG (qual := Str.ofString "_digits2int.<locals>.inner") G F N G.codeB rfl (hT.mono fun p hp => .tail _ (.tail _ (.tail _ hp))) (let ⟨ps, hp, _⟩ := hT; ⟨_, .tail _ (.tail _ (.tail _ hp))⟩) rfl ?_
  intro f c' oc vs tt ctv doc pmv h₂ tk₂ news₂ F₂ N₂ hc' hd' hv' hT₂ hk₂ hf₂
  clear F N
  have h54L : @LT.lt Nat _ 54 L := let ⟨ps, hp, _⟩ := hT; hlt _ hp
  have hin : (L + 1 + 1 + 1, o₁) ∈ news₂ := hk₂ _ (.head _) (neN (by dsimp only; omega))
  have hnn : (L + 1 + 1, o₂) ∈ news₂ := hk₂ _ (.tail _ (.head _)) (neN (by dsimp only; omega))
  have hdg : (L + 1, o₃) ∈ news₂ := hk₂ _ (.tail _ (.tail _ (.head _))) (neN (by dsimp only; omega))
  obtain ⟨xv, xn, hxm, hxi⟩ := hl
  have hlL := ltN (hlt _ hxm)
  dsimp only at hlL
  have hxm₂ : (l, listOf xv.toArray xn) ∈ news₂ := hk₂ _ (.tail _ (.tail _ (.tail _ hxm))) hl54
  have hlen := hxi.length
  refine storeC (by assumption) (by assumption) rfl (.tail _ hin) d₁ rfl rfl ?_
  intro h₃ o₄ F₃ N₃ d₄
  have hfun := head_upd N₃ (Nat.ne_of_gt (hf₂ _ hin) : f ≠ L + 1 + 1 + 1)
  have hin' := self_upd N₃
  have hnn' := tail_upd N₃ hnn (neN (by dsimp only; omega))
  have hdg' := tail_upd N₃ hdg (neN (by dsimp only; omega))
  have hxm' := tail_upd N₃ hxm₂ (neN (by dsimp only; omega))
  have hc'' := tail_upd N₃ hc' (news_ne N₂ (.tail _ hc') (.tail _ hin) (fun q => by rw [q, d₁] at hd'; cases hd'))
  obtain ⟨LED, hLED⟩ := led_name N₃
  have hsub : ∀ p ∈ news, p.1 ≠ 54 → p ∈ LED := fun p hp hn => by
    rw [← hLED]
    refine tail_upd N₃ (hk₂ _ (.tail _ (.tail _ (.tail _ hp))) hn) ?_
    have := ltN (hlt _ hp)
    exact neN (by omega)
  have hTL : TabOk 54 (Str.ofString "_digits2int.<locals>.inner") 48 4 LED := by
    obtain ⟨ps, hp, hps⟩ := hT₂
    rw [← hLED]
    refine ⟨ps, tail_upd N₃ hp (neN (by dsimp only; omega)), hps.imp id ?_⟩
    rintro ⟨c₂, oc₂, vs₂, t₂, h1, h2, h3, h4, h5⟩
    exact ⟨c₂, oc₂, vs₂, t₂, h1, h2, tail_upd N₃ h3 (news_ne N₂ (.tail _ h3) (.tail _ hin) (fun q => by rw [q, d₁] at h4; cases h4)), h4, h5⟩
  rw [hLED] at N₃ hfun hin' hnn' hdg' hxm' hc''
  clear hLED hk₂ hf₂ N₂ F₂ hT₂
  have d₂' : o₂.data = .cell (some (.int n t)) := d₂
  have d₃' : o₃.data = .cell (some (.ref l)) := d₃
  have key : ∀ (k lo hi : Nat) (t u : Tok), hi - lo ≤ k → lo < hi → hi ≤ xs.length → Sp w mg mb f [.int lo t, .int hi u] k (8 * k) LED (fun r news' => news' = LED ∧ ∃ t', r = .int (dsum n (seg xs lo hi)) t') := by
    intro k
    induction k with
    | zero => intro lo hi t u h1 h2; omega
    | succ k ih =>
      intro lo hi t u h1 h2 h3
      unfold Sp
      intro A h₀ L m s Q E G F N hd hu hh hQ
      refine callF (args := ⟨[.int lo t, .int hi u], []⟩) G F N (News.get N hfun) rfl (codeRec_news N hc'' hd' hv') (by omega) (BindsTo.of_eq rfl) (locs rfl) (by decide) rfl rfl rfl hQ ?_
      clear F N G hQ F₃ N₃
      intro g L h₁ tk G F N hlt
      repeat' walk_at "st"
      refine if_split (fun hc => ?_) (fun hc => ?_)
      · have hc : lo + 1 = hi := by have := eq_of_beq hc; omega
        subst hc
        repeat' walk_at "st"
        have hlo : lo < xs.length := by omega
        obtain ⟨tv, hv⟩ := hxi.get lo (xs.getD lo 0) (by simp [hlo])
        refine item_litK (news_lst N hxm') (by omega) (by omega) (by rw [Int.toNat_natCast]; exact hv) ?_
        repeat' walk_at "st"
        exact ⟨_, _, _, _, _, rfl, F, N, rfl, rfl, tv, by rw [seg_one (by omega)]; simp [dsum]⟩
      · have hc : lo + 1 ≠ hi := fun q => hc (by rw [← q]; simp)
        repeat' walk_at "st"
        refine rshift_int (by decide) ?_
        rw [shr1 lo hi]
        obtain ⟨mid, hmid⟩ : ∃ mid, (lo + hi) / 2 = mid := ⟨_, rfl⟩
        rw [hmid]
        repeat' walk_at "st"
        refine mul_int ?_ (mulOk_small (by omega))
        rw [show ((mid : Int) - lo) * n = (((mid - lo) * n : Nat) : Int) by rw [Int.natCast_mul]; congr 1; omega]
        repeat' walk_at "st"
        refine callWith_F (FnAt.of (by assumption) hfun) ?_
        repeat' walk_at "st"
        refine ⟨FnAt.of (by assumption) hfun, ?_⟩
        dsimp only [List.nil_append]
        refine ih mid hi _ _ (by omega) (by omega) h3 _ _ _ _ _ _ _ G (by assumption) (by assumption) (by show A.depth + 1 + k < _; omega) (by show A.units + 3 + 8 * k < _; omega) hh ?_
        rintro r news' h₄ tk₄ F₄ N₄ ⟨rfl, t₄, rfl⟩
        repeat' walk_at "st"
        have hb1 : (dsum n (seg xs mid hi)).natAbs < 2 ^ 70000 := by
          refine Nat.lt_of_lt_of_le (dsum_bound n 1000 _ fun d hd => hx d (List.mem_of_mem_drop (List.mem_of_mem_take hd))) (Nat.pow_le_pow_right (by decide) ?_)
          rw [seg_len (by omega) h3]
          have : (n + 1) * (hi - mid) ≤ 1000 * 63 := Nat.mul_le_mul (by omega) (by omega)
          omega
        refine lshift_int (by omega) ?_ ?_
        · have h5 := intBits_le hb1
          have : (mid - lo) * n ≤ 63 * 1000 := Nat.mul_le_mul (by omega) (by omega)
          omega
        repeat' walk_at "st"
        refine callWith_F (FnAt.of (by assumption) hfun) ?_
        repeat' walk_at "st"
        refine ⟨FnAt.of (by assumption) hfun, ?_⟩
        dsimp only [List.nil_append]
        refine ih lo mid _ _ (by omega) (by omega) (by omega) _ _ _ _ _ _ _ G (by assumption) (by assumption) (by show A.depth + 1 + k < _; omega) (by show A.units + 3 + 8 * k < _; omega) hh ?_
        rintro r news' h₅ tk₅ F₅ N₅ ⟨rfl, t₅, rfl⟩
        repeat' walk_at "st"
        refine ⟨_, _, _, _, _, rfl, F₅, N₅, rfl, rfl, _, int_congr _ ?_⟩
        rw [seg_split (show lo ≤ mid by omega) (show mid ≤ hi by omega), dsum_append, seg_len (by omega) (by omega), Int.toNat_natCast, Nat.mul_comm n, Int.add_comm, Int.mul_comm]
  repeat' walk_at "st"
  refine wpAny_truthy_list (news_lst N₃ hxm') (by simp; omega) ?_
  refine if_split (fun hc => ?_) (fun hc => ?_)
  · have hpos : 0 < xs.length := by
      rw [← hlen]
      cases xv with
      | nil => simp at hc
      | cons => simp
    repeat' walk_at "st"
    refine callWith_F (FnAt.of (by assumption) hfun) ?_
    repeat' walk_at "st"
    refine len_list (news_lst (by assumption) hxm') (by simp; omega) ?_
    rw [List.size_toArray, hlen]
    repeat' walk_at "st"
    refine ⟨FnAt.of (by assumption) hfun, ?_⟩
    dsimp only [List.nil_append]
    refine key 64 0 xs.length _ _ (by omega) hpos (Nat.le_refl _) _ _ _ _ _ _ _ G (by assumption) (by assumption) (by show A.depth + 1 + 64 < _; omega) (by show A.units + 3 + 8 * 64 < _; omega) hh ?_
    rintro r news' h₄ tk₄ F₄ N₄ ⟨rfl, t₄, rfl⟩
    repeat' walk_at "st"
    exact ⟨_, _, _, _, _, rfl, F₄, N₄, rfl, hsub, hTL, t₄, by simp [seg]⟩
  · have hnil : xs = [] := by
      have : xv = [] := by
        cases xv with
        | nil => rfl
        | cons => simp at hc
      rw [this] at hlen
      exact List.length_eq_zero_iff.mp hlen.symm
    repeat' walk_at "st"
    exact ⟨_, _, _, _, _, rfl, F₃, N₃, rfl, hsub, hTL, _, by subst hnil; rfl⟩
end
/-! part B9 -/
set_option maxRecDepth 100000
section
open PySem PySem.W PyProof.Rows PySem.Calls PySem.Spec

theorem and_high (x s : Nat) : x &&& (x / 2 ^ s * 2 ^ s) = x / 2 ^ s * 2 ^ s := by
  rw [← Nat.shiftRight_eq_div_pow, ← Nat.shiftLeft_eq]
  apply Nat.eq_of_testBit_eq
  intro i
  rw [Nat.testBit_and, Nat.testBit_shiftLeft, Nat.testBit_shiftRight]
  by_cases h : s ≤ i
  · rw [show s + (i - s) = i by omega]; simp [h]
  · simp [h]
theorem xor_high (x s : Nat) : Builtin.bitXor (x : Int) ((x : Int).fdiv (2 ^ s) * 2 ^ s) = (x % 2 ^ s : Nat) := by
  have e : (x : Int).fdiv (2 ^ s) = ((x / 2 ^ s : Nat) : Int) := by
    rw [Int.fdiv_eq_ediv_of_nonneg _ (Int.le_of_lt (Int.pow_pos (by decide)))]; simp
  have e2 : (x : Int).fdiv (2 ^ s) * 2 ^ s = ((x / 2 ^ s * 2 ^ s : Nat) : Int) := by rw [e]; simp
  rw [e2, bitXor_and]
  have e3 : Builtin.bitAnd (x : Int) ((x / 2 ^ s * 2 ^ s : Nat) : Int) = ((x / 2 ^ s * 2 ^ s : Nat) : Int) := by
    unfold Builtin.bitAnd
    have h1 : (0 : Int) ≤ (x : Int) := by omega
    have h2 : (0 : Int) ≤ ((x / 2 ^ s * 2 ^ s : Nat) : Int) := by omega
    simp only [h1, h2, decide_true, Int.toNat_natCast]
    rw [and_high]
  rw [e3]
  have := Nat.div_add_mod x (2 ^ s)
  rw [Nat.mul_comm] at this
  omega
theorem fdiv_pow (x s : Nat) : (x : Int).fdiv (2 ^ s) = ((x / 2 ^ s : Nat) : Int) := by
  rw [Int.fdiv_eq_ediv_of_nonneg _ (Int.le_of_lt (Int.pow_pos (by decide)))]; simp

theorem rep_one (k : Nat) (v : Value) : List.foldl (fun x1 x2 => x1 ++ x2) #[] (List.replicate k #[v]) = (List.replicate k v).toArray := by
  have : ∀ (k : Nat) (a : Array Value), List.foldl (fun x1 x2 => x1 ++ x2) a (List.replicate k #[v]) = a ++ (List.replicate k v).toArray := by
    intro k
    induction k with
    | zero => intro a; simp
    | succ k ih =>
      intro a
      rw [List.replicate_succ, List.foldl_cons, ih, List.replicate_succ]
      apply Array.toList_inj.mp
      simp
  simpa using this k #[]
theorem ints_rep (k : Nat) (c : Int) (t : Tok) : IntsAre (List.replicate k (Value.int c t)) (List.replicate k c) := by
  induction k with
  | zero => exact .nil
  | succ k ih => exact .cons _ _ ih

section
variable {h₀ h : Heap} {L : Addr} {a b c d e f : Addr × Obj} {r : Led}
theorem nm0 (_ : News h₀ L h (a :: r)) : a ∈ a :: r := .head _
theorem nm1 (_ : News h₀ L h (a :: b :: r)) : b ∈ a :: b :: r := .tail _ (.head _)
theorem nm2 (_ : News h₀ L h (a :: b :: c :: r)) : c ∈ a :: b :: c :: r := .tail _ (.tail _ (.head _))
theorem nm3 (_ : News h₀ L h (a :: b :: c :: d :: r)) : d ∈ a :: b :: c :: d :: r := .tail _ (.tail _ (.tail _ (.head _)))
theorem nm4 (_ : News h₀ L h (a :: b :: c :: d :: e :: r)) : e ∈ a :: b :: c :: d :: e :: r := .tail _ (.tail _ (.tail _ (.tail _ (.head _))))
theorem nm5 (_ : News h₀ L h (a :: b :: c :: d :: e :: f :: r)) : f ∈ a :: b :: c :: d :: e :: f :: r := .tail _ (.tail _ (.tail _ (.tail _ (.tail _ (.head _)))))
end
theorem upd_sub {news : Led} {l : Addr} {o o' : Obj} {p : Addr × Obj} (h : p ∈ upd news l o) (hn : p.1 ≠ l) : p ∈ upd news l o' := by
  rcases List.mem_cons.mp h with rfl | h
  · exact absurd rfl hn
  · exact .tail _ h
theorem set_at {ys : List Int} {lo : Nat} {x : Int} (h : lo < ys.length) : ys.set lo x = ys.take lo ++ [x] ++ ys.drop (lo + 1) := by
  rw [List.set_eq_take_append_cons_drop, if_pos h]; simp
theorem two_stretches {ys ds es : List Int} {lo mid hi : Nat} (h1 : lo ≤ mid) (h2 : mid ≤ hi) (h3 : hi ≤ ys.length) (hd : ds.length = mid - lo) :
    (ys.take lo ++ ds ++ ys.drop mid).take mid ++ es ++ (ys.take lo ++ ds ++ ys.drop mid).drop hi = ys.take lo ++ (ds ++ es) ++ ys.drop hi := by
  have hl : (ys.take lo ++ ds).length = mid := by simp [hd]; omega
  rw [List.take_append_of_le_length (by omega), List.take_of_length_le (by omega), List.drop_append, List.drop_of_length_le (by omega), hl, List.drop_drop, show mid + (hi - mid) = hi by omega]
  simp
theorem flen (b n : Nat) (h : 0 < n) : ((b : Int) + n - 1).fdiv n = (((b + n - 1) / n : Nat) : Int) := by
  rw [show (b : Int) + n - 1 = ((b + n - 1 : Nat) : Int) by omega, Int.fdiv_eq_ediv_of_nonneg _ (by omega)]
  simp

set_option maxHeartbeats 4000000 in
theorem i2d {w : World} {mg mb : Str → Option Value} {news : Led} {a : Nat} {n K : Nat} {t u : Tok} (hK : K ≤ 1000) (ha : a < 2 ^ K) (hn : n < 1000) (hn0 : 0 < n) (hlen : (Builtin.Int.intBits a + n - 1) / n < 64)
    (hT : TabOk 47 (Str.ofString "_int2digits.<locals>.inner") 33 4 news) (h54 : ∃ o, (54, o) ∈ news) :
    Sp w mg mb 52 [.int a t, .int n u] 70 600 news (fun r news' => (∀ q ∈ news, q.1 ≠ 47 → q ∈ news') ∧ TabOk 47 (Str.ofString "_int2digits.<locals>.inner") 33 4 news' ∧
      ∃ D ds, r = .ref D ∧ IntL news' D ds ∧ (∀ q ∈ news, q.1 < D) ∧ dsum n ds = a ∧ ds.length = (Builtin.Int.intBits a + n - 1) / n ∧ ∀ d ∈ ds, d.natAbs < 2 ^ K) := by
  unfold Sp
  intro A h₀ L m s Q E G F N hd hu hh hQ
  refine callC (args := ⟨[.int a t, .int n u], []⟩) G F N (by k_is) (by k_is) (by omega) (fun _ => rfl) (by rfl) (by decide +kernel) rfl rfl rfl hQ ?_
  clear F N G hQ
  intro g L h₁ tk cells G F N hY hlt
  obtain ⟨o₁, o₂, o₃, rfl, d₁, d₂, d₃⟩ := CellsAre.three hY
  clear hY
  dsimp only [List.cons_append, List.nil_append] at N
  have d₁' : o₁.data = .cell none := d₁
  have d₂' : o₂.data = .cell none := d₂
  have d₃' : o₃.data = .cell (some (.int n u)) := d₃
  repeat' walk_at "st"
  refine newList_K F N ?_
  intro D0 h₂ F₂ N₂ hD0
  have m3 := nm3 N₂
  repeat' walk_at "st"
  refine getMethod_int_bit_length ?_
  repeat' walk_at "st"
  refine call_int_bit_length ?_
  repeat' walk_at "st"
  refine floordiv_int (by omega) ?_ (Or.inl (PyProof.noPylong_of_log2 ?_))
  · rw [flen _ n hn0]
    obtain ⟨len, hl⟩ : ∃ len, (Builtin.Int.intBits (a : Int) + n - 1) / n = len := ⟨_, rfl⟩
    rw [hl] at hlen ⊢
    refine mul_list (by assumption) (by assumption) (N₂ _ (.head _)).1 (by omega) (by omega) (by simp; omega) ?_
    intro h₃ F₃ N₃
    rw [if_neg (by simp), Int.toNat_natCast, rep_one] at N₃
    dsimp only at N₃ ⊢
    obtain ⟨D, hD⟩ : ∃ D, h₂.objs.size = D := ⟨_, rfl⟩
    rw [hD] at N₃ ⊢
    have hDlt : ∀ p ∈ (L + 1 + 1 + 1, o₁) :: (L + 1 + 1, o₂) :: (L + 1, o₃) :: news, @LT.lt Nat _ p.1 D := fun p hp => by
      rw [← hD]; exact Heap.lt_size (N₂ p (.tail _ hp)).1
    have h54L : @LT.lt Nat _ 54 L := let ⟨o, hp⟩ := h54; hlt _ hp
    have hD1 := hDlt _ (.head _)
    dsimp only at hD1
    have N₄ : News g L h₃ ((D, listOf (List.replicate len (Value.int 0 tk)).toArray 0) :: (L + 1 + 1 + 1, o₁) :: (L + 1 + 1, o₂) :: (L + 1, o₃) :: news) := fun p hp => by
      rcases List.mem_cons.mp hp with rfl | hp
      · exact N₃ _ (.head _)
      · exact N₃ _ (.tail _ (.tail _ hp))
    clear N₃ N₂ N m3 F₂ F
    refine storeC F₃ N₄ rfl (nm2 N₄) d₂' rfl rfl ?_
    intro h₄ o₅ F₄ N₅ d₅
    have N₆ : News g L h₄ ((L + 1 + 1, o₅) :: (D, listOf (List.replicate len (Value.int 0 tk)).toArray 0) :: (L + 1 + 1 + 1, o₁) :: (L + 1, o₃) :: news) := fun p hp => by
      rcases List.mem_cons.mp hp with rfl | hp
      · exact N₅ _ upd_head
      · refine N₅ _ (upd_mem ?_ ?_)
        · rcases List.mem_cons.mp hp with rfl | hp
          · exact .head _
          · rcases List.mem_cons.mp hp with rfl | hp
            · exact .tail _ (.head _)
            · exact .tail _ (.tail _ (.tail _ hp))
        · rcases List.mem_cons.mp hp with rfl | hp
          · exact neN (by dsimp only; omega)
          · rcases List.mem_cons.mp hp with rfl | hp
            · exact neN (by dsimp only; omega)
            · rcases List.mem_cons.mp hp with rfl | hp
              · exact neN (by dsimp only; omega)
              · have := ltN (hlt p hp); exact neN (by omega)
    clear N₅ N₄
    repeat' walk_at "st"
    refine nestG (qual := Str.ofString "_int2digits.<locals>.inner") G F₄ N₆ G.codeA rfl (hT.mono fun p hp => .tail _ (.tail _ (.tail _ (.tail _ hp)))) (let ⟨o, hp⟩ := h54; ⟨o, .tail _ (.tail _ (.tail _ (.tail _ hp)))⟩) rfl ?_
    intro f c' oc vs tt ctv doc pmv h₅ tk₅ news₂ F₅ N₇ hc' hd' hv' hT₂ hk₂ hf₂
    have hin : (L + 1 + 1 + 1, o₁) ∈ news₂ := hk₂ _ (nm2 N₆) (neN (by dsimp only; omega))
    have hnn : (L + 1, o₃) ∈ news₂ := hk₂ _ (nm3 N₆) (neN (by dsimp only; omega))
    have hdg : (L + 1 + 1, o₅) ∈ news₂ := hk₂ _ (nm0 N₆) (neN (by dsimp only; omega))
    have hDm := hk₂ _ (nm1 N₆) (neN (by dsimp only; omega))
    refine storeC F₅ N₇ rfl (.tail _ hin) d₁' rfl rfl ?_
    intro h₆ o₆ F₆ N₈ d₆
    have hfD : f ≠ D := Nat.ne_of_gt (hf₂ _ hDm)
    have hcD : c' ≠ D := news_ne N₇ (.tail _ hc') (.tail _ hDm) (fun q => by rw [q] at hd'; cases hd')
    have hfun := head_upd N₈ (Nat.ne_of_gt (hf₂ _ hin) : f ≠ L + 1 + 1 + 1)
    have hin' := self_upd N₈
    have hnn' := tail_upd N₈ hnn (neN (by dsimp only; omega))
    have hdg' := tail_upd N₈ hdg (neN (by dsimp only; omega))
    have hDm' := tail_upd N₈ hDm (neN (by dsimp only; omega))
    have hc'' := tail_upd N₈ hc' (news_ne N₇ (.tail _ hc') (.tail _ hin) (fun q => by rw [q, d₁'] at hd'; cases hd'))
    obtain ⟨LED, hLED⟩ := led_name N₈
    have hsub : ∀ p ∈ news, p.1 ≠ 47 → p ∈ LED := fun p hp hn => by
      rw [← hLED]
      refine tail_upd N₈ (hk₂ _ (.tail _ (.tail _ (.tail _ (.tail _ hp)))) hn) ?_
      have := ltN (hlt _ hp)
      exact neN (by omega)
    have hTL : ∀ X, TabOk 47 (Str.ofString "_int2digits.<locals>.inner") 33 4 (upd LED D X) := by
      intro X
      obtain ⟨ps, hp, hps⟩ := hT₂
      rw [← hLED]
      refine ⟨ps, upd_mem (tail_upd N₈ hp (neN (by dsimp only; omega))) (neN (by dsimp only; omega)), hps.imp id ?_⟩
      rintro ⟨c₂, oc₂, vs₂, t₂, h1, h2, h3, h4, h5⟩
      exact ⟨c₂, oc₂, vs₂, t₂, h1, h2, upd_mem (tail_upd N₈ h3 (news_ne N₇ (.tail _ h3) (.tail _ hin) (fun q => by rw [q, d₁'] at h4; cases h4))) (news_ne N₇ (.tail _ h3) (.tail _ hDm) (fun q => by rw [q] at h4; cases h4)), h4, h5⟩
    rw [hLED] at N₈ hfun hin' hnn' hdg' hDm' hc''
    clear hLED hk₂ hf₂ N₇ N₆ F₅ F₄ F₃ hT₂
    have key : ∀ (k lo hi x : Nat) (zs : List Value) (ys : List Int) (t t1 t2 : Tok), hi - lo ≤ k → lo < hi → hi ≤ len → x < 2 ^ K → IntsAre zs ys → ys.length = len →
        Sp w mg mb f [.int x t, .int lo t1, .int hi t2] k (8 * k) (upd LED D (listOf zs.toArray 0)) (fun r news' => ∃ zs' ds, news' = upd LED D (listOf (List.toArray zs') 0) ∧ IntsAre zs' (ys.take lo ++ ds ++ ys.drop hi) ∧ ds.length = hi - lo ∧ dsum n ds = x ∧ ∀ d ∈ ds, d.natAbs < 2 ^ K) := by
      intro k
      induction k with
      | zero => intro lo hi x zs ys t t1 t2 h1 h2; omega
      | succ k ih =>
        intro lo hi x zs ys t t1 t2 h1 h2 h3 hx hzs hys
        have mf := upd_mem (o := listOf zs.toArray 0) hfun hfD
        have mi := upd_mem (l := D) (o := listOf zs.toArray 0) hin' (neN (by dsimp only; omega))
        have mn := upd_mem (l := D) (o := listOf zs.toArray 0) hnn' (neN (by dsimp only; omega))
        have md := upd_mem (l := D) (o := listOf zs.toArray 0) hdg' (neN (by dsimp only; omega))
        have mc := upd_mem (o := listOf zs.toArray 0) hc'' hcD
        unfold Sp
        intro A h₀ L m s Q E G F N hd hu hh hQ
        refine callF (args := ⟨[.int x t, .int lo t1, .int hi t2], []⟩) G F N (News.get N mf) rfl (codeRec_news N mc hd' hv') (by omega) (BindsTo.of_eq rfl) (locs rfl) (by decide) rfl rfl rfl hQ ?_
        clear F N G hQ F₆ N₈
        intro g L h₁ tk G F N hlt
        repeat' walk_at "st"
        refine if_split (fun hc => ?_) (fun hc => ?_)
        · have hc : lo + 1 = hi := by have := eq_of_beq hc; omega
          subst hc
          repeat' walk_at "st"
          refine ksa_set F N upd_Upd hzs (by omega) (by omega) (by omega) ?_
          intro h₂ F₂ N₂ hz₂ _ _
          rw [Int.toNat_natCast] at N₂ hz₂
          repeat' walk_at "st"
          refine ⟨_, _, _, _, _, rfl, F₂, N₂, rfl, _, [(x : Int)], rfl, ?_, by simp, by simp [dsum], fun d hd => by rw [List.mem_singleton.mp hd, Int.natAbs_natCast]; exact hx⟩
          rw [set_at (by omega)] at hz₂
          exact hz₂
        · have hc : lo + 1 ≠ hi := fun q => hc (by rw [← q]; simp)
          repeat' walk_at "st"
          refine rshift_int (by decide) ?_
          rw [shr1 lo hi]
          obtain ⟨mid, hmid⟩ : ∃ mid, (lo + hi) / 2 = mid := ⟨_, rfl⟩
          rw [hmid]
          repeat' walk_at "st"
          refine mul_int ?_ (mulOk_small (by omega))
          rw [show ((mid : Int) - lo) * n = (((mid - lo) * n : Nat) : Int) by rw [Int.natCast_mul]; congr 1; omega]
          obtain ⟨sh, hsh⟩ : ∃ sh, (mid - lo) * n = sh := ⟨_, rfl⟩
          have hsh2 : sh ≤ 63 * 1000 := by rw [← hsh]; exact Nat.mul_le_mul (by omega) (by omega)
          rw [hsh]
          repeat' walk_at "st"
          refine rshift_int (by omega) ?_
          rw [Int.toNat_natCast, fdiv_pow]
          have hup : x / 2 ^ sh < 2 ^ K := Nat.lt_of_le_of_lt (Nat.div_le_self _ _) hx
          repeat' walk_at "st"
          refine lshift_int (by omega) ?_ ?_
          · have h5 := intBits_le (a := ((x / 2 ^ sh : Nat) : Int)) (k := K) (by rw [Int.natAbs_natCast]; exact hup)
            omega
          rw [Int.toNat_natCast, ← fdiv_pow]
          repeat' walk_at "st"
          refine xor_int ?_
          rw [xor_high]
          repeat' walk_at "st"
          refine callWith_F (FnAt.of (by assumption) mf) ?_
          repeat' walk_at "st"
          refine ⟨FnAt.of (by assumption) mf, ?_⟩
          dsimp only [List.nil_append]
          refine ih lo mid (x % 2 ^ sh) zs ys _ _ _ (by omega) (by omega) (by omega) (Nat.lt_of_le_of_lt (Nat.mod_le _ _) hx) hzs hys _ _ _ _ _ _ _ G (by assumption) (by assumption) (by show A.depth + 1 + k < _; omega) (by show A.units + 3 + 8 * k < _; omega) hh ?_
          rintro r news' h₄ tk₄ F₄ N₄ ⟨zs₁, ds₁, rfl, hz₁, hl₁, hs₁, hb₁⟩
          have mf₁ := upd_mem (o := listOf zs₁.toArray 0) hfun hfD
          have mi₁ := upd_mem (l := D) (o := listOf zs₁.toArray 0) hin' (neN (by dsimp only; omega))
          have mn₁ := upd_mem (l := D) (o := listOf zs₁.toArray 0) hnn' (neN (by dsimp only; omega))
          have md₁ := upd_mem (l := D) (o := listOf zs₁.toArray 0) hdg' (neN (by dsimp only; omega))
          repeat' walk_at "st"
          refine callWith_F (FnAt.of (by assumption) mf₁) ?_
          repeat' walk_at "st"
          refine ⟨FnAt.of (by assumption) mf₁, ?_⟩
          dsimp only [List.nil_append]
          have hyl : (ys.take lo ++ ds₁ ++ ys.drop mid).length = len := by simp [hl₁]; omega
          refine ih mid hi (x / 2 ^ sh) zs₁ _ _ _ _ (by omega) (by omega) h3 hup hz₁ hyl _ _ _ _ _ _ _ G (by assumption) (by assumption) (by show A.depth + 1 + k < _; omega) (by show A.units + 3 + 8 * k < _; omega) hh ?_
          rintro r news' h₅ tk₅ F₅ N₅ ⟨zs₂, ds₂, rfl, hz₂, hl₂, hs₂, hb₂⟩
          repeat' walk_at "st"
          rw [two_stretches (by omega) (by omega) (by omega) hl₁] at hz₂
          refine ⟨_, _, _, _, _, rfl, F₅, N₅, rfl, zs₂, ds₁ ++ ds₂, rfl, hz₂, by simp [hl₁, hl₂]; omega, ?_, ?_⟩
          · rw [dsum_append, hs₁, hs₂, hl₁, Nat.mul_comm n, hsh]
            have := Nat.mod_add_div x (2 ^ sh)
            exact_mod_cast this
          · intro d hd
            rcases List.mem_append.mp hd with hd | hd
            · exact hb₁ d hd
            · exact hb₂ d hd
    have N₉ := news_pick N₈ hDm'
    have mf := upd_mem (o := listOf (List.replicate len (Value.int 0 tk)).toArray 0) hfun hfD
    have mi := upd_mem (l := D) (o := listOf (List.replicate len (Value.int 0 tk)).toArray 0) hin' (neN (by dsimp only; omega))
    have md := upd_mem (l := D) (o := listOf (List.replicate len (Value.int 0 tk)).toArray 0) hdg' (neN (by dsimp only; omega))
    have mD := self_upd N₉
    clear N₈
    have hkeep : ∀ X, ∀ q ∈ news, q.1 ≠ 47 → q ∈ upd LED D X := fun X q hq hn => upd_mem (hsub q hq hn) (Nat.ne_of_lt (hDlt q (.tail _ (.tail _ (.tail _ hq)))))
    have hall : ∀ q ∈ news, q.1 < D := fun q hq => hDlt q (.tail _ (.tail _ (.tail _ hq)))
    repeat' walk_at "st"
    refine truthy_int ?_
    refine if_split (fun hc => ?_) (fun hc => ?_)
    · have ha0 : a ≠ 0 := fun q => by subst q; simp at hc
      have hpos : 0 < len := by
        rw [← hl]
        refine Nat.div_pos ?_ hn0
        have : 1 ≤ Builtin.Int.intBits (a : Int) := by
          unfold Builtin.Int.intBits
          rw [if_neg (by simpa using ha0)]
          omega
        omega
      repeat' walk_at "st"
      refine callWith_F (FnAt.of (by assumption) mf) ?_
      repeat' walk_at "st"
      refine len_list (news_lst (by assumption) mD) (by simp; omega) ?_
      rw [List.size_toArray, List.length_replicate]
      repeat' walk_at "st"
      refine ⟨FnAt.of (by assumption) mf, ?_⟩
      dsimp only [List.nil_append]
      refine key 64 0 len a _ _ _ _ _ (by omega) hpos (Nat.le_refl _) ha (ints_rep len 0 tk) (by simp) _ _ _ _ _ _ _ G (by assumption) (by assumption) (by show A.depth + 1 + 64 < _; omega) (by show A.units + 3 + 8 * 64 < _; omega) hh ?_
      rintro r news' h₈ tk₈ F₈ Na ⟨zs₁, ds₁, rfl, hz₁, hl₁, hs₁, hb₁⟩
      have md₁ := upd_mem (l := D) (o := listOf zs₁.toArray 0) hdg' (neN (by dsimp only; omega))
      repeat' walk_at "st"
      refine ⟨_, _, _, _, _, rfl, F₈, Na, rfl, hkeep _, hTL _, D, ds₁, rfl, ⟨zs₁, 0, upd_head, by simpa using hz₁⟩, hall, hs₁, by omega, hb₁⟩
    · have ha0 : a = 0 := by simpa using hc
      have hlen0 : len = 0 := by
        rw [← hl, ha0]
        have : Builtin.Int.intBits ((0 : Nat) : Int) = 0 := rfl
        rw [this]
        exact Nat.div_eq_of_lt (by omega)
      repeat' walk_at "st"
      refine ⟨_, _, _, _, _, rfl, F₆, N₉, rfl, hkeep _, hTL _, D, [], rfl, ⟨_, 0, upd_head, by rw [hlen0]; exact .nil⟩, hall, by simp [dsum, ha0], by simp [hlen0], fun d hd => by cases hd⟩
  · rw [Int.natAbs_natCast]
    have : n.log2 < 10 ∨ n = 0 := by
      by_cases h0 : n = 0
      · exact .inr h0
      · exact .inl ((Nat.log2_lt h0).mpr (by omega))
    rcases this with h | h
    · omega
    · omega
end
/-! part B10 -/
set_option maxRecDepth 100000
section
open PySem PySem.W PyProof.Rows PySem.Calls PySem.Spec

section
variable {prog : Program} {w : World} {A : Around} {s : Shared} {env : Env} {h₀ : Heap} {L : Addr} {m : Str → Option Value} {news : Led} {Q : Flow → Shared → Prop}

theorem iter_rev {x : Str} {px : Pos} {body : List Stmt} {l I : Addr} {vs : List Value} {c : Nat} {R : Result → Shared → Prop} {E : Value → Shared → Prop} (J : Nat → (Str → Option Value) → Led → Prop)
    (hmono : ∀ i m nx nx', J i m nx → (∀ p ∈ nx, p.1 ≠ I → p ∈ nx') → J i m nx') (hlist : ∀ i m nx, J i m nx → (l, listOf (List.toArray vs) c) ∈ nx)
    (hh : A.handled = none) (F : Fr h₀ L s.heap m) (N : News h₀ L s.heap ((I, revObj l ((vs.length : Int) - 1)) :: news)) (hI : ∀ p ∈ news, p.1 ≠ I) (hJ : J 0 m news)
    (hR : ∀ f s', Q f s' → R (.ok f) s')
    (turn : ∀ i v io m₁ nx h tk, i < vs.length → vs[vs.length - 1 - i]? = some v → J i m₁ nx → (I, io) ∈ nx → io.cls = .type "list_reverseiterator" → Fr h₀ L h m₁ → News h₀ L h nx →
      wpAny (model prog w) A (storeName env x v) (fun _ s₂ => wpAny (model prog w) A (execs body env) (fun f s₃ => match f with
        | .ret v => Q (.ret v) s₃
        | .brk => Q .next s₃
        | _ => ∃ h' tk' m' nx', s₃ = { s with heap := h', toks := tk' } ∧ Fr h₀ L h' m' ∧ News h₀ L h' nx' ∧ (I, io) ∈ nx' ∧ J (i + 1) m' nx') (fun _ _ => False) s₂) (fun _ _ => False) { s with heap := h, toks := tk })
    (done : ∀ m₁ nx h tk, J vs.length m₁ nx → Fr h₀ L h m₁ → News h₀ L h nx → Q .next { s with heap := h, toks := tk }) :
    wpAny (model prog w) A (pyIter (.ref I)) (fun it s₂ => codeAny (model prog w) A (.forLoop (.Name x px) it body [] env) R s₂) E s := by
  have hI0 : h₀.get? I = none := (N _ (.head _)).2.2
  have hIL : I ≠ L := (N _ (.head _)).2.1
  have hit0 : s.heap.IsRevIter I l ((vs.length : Int) - 1) := ⟨_, (N _ (.head _)).1, rfl, rfl⟩
  refine wpAny_pyIter_revIter hit0 ?_
  refine codeAny_forLoop (fun k s' => ∃ h' tk m' nx i, s' = { s with heap := h', toks := tk } ∧ h'.IsRevIter I l ((vs.length : Int) - 1 - (i : Nat)) ∧ Fr h₀ L h' m' ∧ News h₀ L h' nx ∧ (∀ p ∈ nx, p.1 ≠ I) ∧ J i m' nx ∧ i ≤ vs.length ∧ k = vs.length + 1 - i) ?_ (vs.length + 1)
    ⟨_, _, m, news, 0, rfl, by simpa using hit0, F, (fun p hp => N p (.tail _ hp)), hI, hJ, Nat.zero_le _, rfl⟩
  rintro k s' ⟨h', tk, m', nx, i, rfl, hit, F', N', hne, hJ', hi, rfl⟩
  have hl : h'.IsList l vs.toArray := news_lst N' (hlist _ _ _ hJ')
  by_cases hlt : i < vs.length
  · have e : (vs.length : Int) - 1 - (i : Nat) = ((vs.length - 1 - i : Nat) : Int) := by omega
    rw [e] at hit
    obtain ⟨v, hv⟩ : ∃ v, vs[vs.length - 1 - i]? = some v := ⟨_, List.getElem?_eq_getElem (by omega)⟩
    refine wpAny_pyNext_rev_item hit hl (by simpa using hv) fun h₁ hit₁ hsb => ?_
    obtain ⟨io, hio, hcls, hdat⟩ := id hit₁
    have F₁ : Fr h₀ L h₁ m' := F'.change hsb hIL hI0
    have N₁ : News h₀ L h₁ ((I, io) :: nx) := fun p hp => by
      rcases List.mem_cons.mp hp with rfl | hp
      · exact ⟨hio, hIL, hI0⟩
      · exact ⟨(hsb.2 _ (hne p hp)).trans (N' p hp).1, (N' p hp).2⟩
    refine wpAny_assign_Name (wpAny_mono (turn i v io m' _ h₁ _ hlt hv (hmono _ _ _ _ hJ' fun p hp _ => .tail _ hp) (.head _) hcls F₁ N₁) (fun _ s₂ h₂ => ?_) fun _ _ e => e.elim)
    refine wpAny_mono h₂ (fun f s₃ h₃ => ?_) fun _ _ e => e.elim
    have fin : (∃ h' tk' m' nx', s₃ = { s with heap := h', toks := tk' } ∧ Fr h₀ L h' m' ∧ News h₀ L h' nx' ∧ (I, io) ∈ nx' ∧ J (i + 1) m' nx') → ∃ m, m < vs.length + 1 - i ∧ ∃ h' tk m' nx i, s₃ = { s with heap := h', toks := tk } ∧ h'.IsRevIter I l ((vs.length : Int) - 1 - (i : Nat)) ∧ Fr h₀ L h' m' ∧ News h₀ L h' nx ∧ (∀ p ∈ nx, p.1 ≠ I) ∧ J i m' nx ∧ i ≤ vs.length ∧ m = vs.length + 1 - i := by
      rintro ⟨h₄, tk₄, m₄, nx₄, rfl, F₄, N₄, K₄, J₄⟩
      have hI2 := (N₄ _ K₄).1
      refine ⟨vs.length + 1 - (i + 1), by omega, h₄, tk₄, m₄, nx₄.filter (fun p => p.1 != I), i + 1, rfl, ?_, F₄, fun p hp => N₄ p (List.mem_filter.mp hp).1, upd_ne, hmono _ _ _ _ J₄ fun p hp hc => ?_, hlt, rfl⟩
      · have e1 : (vs.length : Int) - 1 - ((i + 1 : Nat) : Int) = ((vs.length - 1 - i : Nat) : Int) - 1 := by omega
        rw [e1]
        exact ⟨io, hI2, hcls, hdat⟩
      · exact List.mem_filter.mpr ⟨hp, by simpa using hc⟩
    cases f with
    | ret v => exact hR _ _ h₃
    | brk => exact hR _ _ h₃
    | next => exact fin h₃
    | cont => exact fin h₃
  · have hin : i = vs.length := by omega
    subst hin
    rw [show (vs.length : Int) - 1 - (vs.length : Nat) = -1 by omega] at hit
    refine wpAny_pyNext_rev_end hh hit fun h₁ hx => wpAny_execs_nil (hR _ _ ?_)
    refine done m' nx h₁ _ hJ' ⟨?_, fun b o e => hx b o (fun q => by rw [q, hI0] at e; cases e) (F'.keep b o e), F'.above⟩ fun p hp => ⟨hx _ _ (hne p hp) (N' p hp).1, (N' p hp).2⟩
    exact F'.ns.extBut hx hIL.symm

theorem assign_two {E : Value → Shared → Prop} {x y : Str} {px py pos : Pos} {k : Nat} {t : Addr} {v₁ v₂ : Value} {n : Nat} {Q : Unit → Shared → Prop} (F : Fr h₀ L s.heap m) (N : News h₀ L s.heap news) (hh : A.handled = none) (hm : (t, tupOf [v₁, v₂] n) ∈ news)
    (h : ∀ h', Fr h₀ L h' m → News h₀ L h' news → wpAny (model prog w) A (storeName env x v₁) (fun _ s₁ => wpAny (model prog w) A (storeName env y v₂) Q E s₁) E { s with heap := h' }) :
    wpAny (model prog w) A (assign (.Tuple [.Name x px, .Name y py] k pos) env (.ref t)) Q E s := by
  refine wpAny_assign_Tuple hh (items := #[v₁, v₂]) ⟨_, (N _ hm).1, rfl, n, rfl⟩ rfl rfl fun h' he => ?_
  refine wpAny_assignInOrder_more (wpAny_assign_Name (wpAny_mono (h h' (F.extBut he (Nat.le_refl _)) (N.extBut he (Nat.le_refl _))) (fun _ s₁ h₁ => ?_) fun _ _ e => e))
  exact wpAny_assignInOrder_more (wpAny_assign_Name (wpAny_mono h₁ (fun _ s₂ h₂ => wpAny_assignInOrder_none h₂) fun _ _ e => e))
end
end
/-! part B11 -/
set_option maxRecDepth 100000
section
open PySem PySem.W PyProof.Rows PySem.Calls PySem.Spec

/-- the tables of the two defs that make defs -/
def Tabs (news : Led) : Prop := TabOk 47 (Str.ofString "_int2digits.<locals>.inner") 33 4 news ∧ TabOk 54 (Str.ofString "_digits2int.<locals>.inner") 48 4 news
theorem Tabs.mono {news news' : Led} (h : Tabs news) (k : ∀ p ∈ news, p ∈ news') : Tabs news' := ⟨h.1.mono k, h.2.mono k⟩
/-- all but the tables stays -/
def KT (news news' : Led) : Prop := ∀ q ∈ news, q.1 ≠ 47 → q.1 ≠ 54 → q ∈ news'
theorem TabOk.keep {P P' : Addr} {qual : Str} {line col : Nat} {news news' : Led} (h : TabOk P qual line col news) (hP : P ≠ P') (hP' : @LE.le Nat _ P' 54) (k : ∀ p ∈ news, p.1 ≠ P' → p ∈ news') : TabOk P qual line col news' := by
  obtain ⟨ps, a, b⟩ := h
  exact ⟨ps, k _ a hP, b.imp id fun ⟨c', oc, vs, t, h1, h2, h3, h4⟩ => ⟨c', oc, vs, t, h1, h2, k _ h3 (neN (by have := ltN h1; dsimp only; omega)), h4⟩⟩
theorem tab_ne {h₀ h : Heap} {L l P : Addr} {qual : Str} {line col : Nat} {news : Led} {o : Obj} (N : News h₀ L h news) (hl : (l, o) ∈ news) (hT : TabOk P qual line col news) (hc : o.cls ≠ .none) : l ≠ P := by
  obtain ⟨ps, a, _⟩ := hT
  exact news_ne N hl a fun q => hc (by rw [q])

theorem drop_top {xs : List Int} {i : Nat} (h : i < xs.length) : xs.drop (xs.length - 1 - i) = xs.getD (xs.length - 1 - i) 0 :: xs.drop (xs.length - i) := by
  have hl : xs.length - 1 - i < xs.length := by omega
  rw [List.drop_eq_getElem_cons hl, show xs.length - 1 - i + 1 = xs.length - i by omega]
  simp [hl]

/-- one step of the long division -/
theorem div_turn {n : Nat} {b Qv r d : Int} (hb : 0 < b) : (((r * 2 ^ n + d).fdiv b) + 2 ^ n * Qv) * b + (r * 2 ^ n + d).fmod b = d + 2 ^ n * (Qv * b + r) := by
  have h := Int.mul_fdiv_add_fmod (r * 2 ^ n + d) b
  have e : (((r * 2 ^ n + d).fdiv b) + 2 ^ n * Qv) * b + (r * 2 ^ n + d).fmod b = (b * ((r * 2 ^ n + d).fdiv b) + (r * 2 ^ n + d).fmod b) + 2 ^ n * Qv * b := by
    rw [Int.add_mul, Int.mul_comm b]; omega
  rw [e, h, Int.mul_add, Int.mul_comm r, Int.mul_assoc]; omega

theorem dsum_snoc_rev (n : Nat) (qs : List Int) (q : Int) : dsum n (qs ++ [q]).reverse = q + 2 ^ n * dsum n qs.reverse := by simp [dsum]

theorem fdiv_natAbs_le (x b : Int) (hb : 0 < b) : (x.fdiv b).natAbs ≤ x.natAbs := by
  have h1 := Int.mul_fdiv_add_fmod x b
  have h2 : 0 ≤ x.fmod b := Int.fmod_nonneg_of_pos x hb
  have h3 : x.fmod b < b := Int.fmod_lt_of_pos x hb
  obtain ⟨q, hq⟩ : ∃ q, x.fdiv b = q := ⟨_, rfl⟩
  obtain ⟨f, hf⟩ : ∃ f, x.fmod b = f := ⟨_, rfl⟩
  rw [hq, hf] at h1
  rw [hf] at h2 h3
  rw [hq]
  rcases Int.le_total 0 q with h | h
  · have : q ≤ b * q := by
      have := Int.mul_le_mul_of_nonneg_right (show (1 : Int) ≤ b by omega) h
      omega
    omega
  · have h4 : b * q ≤ q := by
      have := Int.mul_le_mul_of_nonpos_right (show (1 : Int) ≤ b by omega) h
      omega
    by_cases hq0 : q = 0
    · omega
    · have h5 : b * (q + 1) ≤ q + 1 := by
        have := Int.mul_le_mul_of_nonpos_right (show (1 : Int) ≤ b by omega) (show q + 1 ≤ 0 by omega)
        omega
      rw [Int.mul_add] at h5
      omega

set_option maxHeartbeats 4000000 in
theorem dmp {w : World} {mg mb : Str → Option Value} {news : Led} {a b : Nat} {t u : Tok} (ha : a < 2 ^ 400) (hb : 0 < b) (hb2 : b < 2 ^ 400) (hln : (Builtin.Int.intBits a + Builtin.Int.intBits b - 1) / Builtin.Int.intBits b < 64) (hT : Tabs news) :
    Sp w mg mb 66 [.int a t, .int b u] 80 700 news (fun r news' => KT news news' ∧ Tabs news' ∧ PairAt news' r ((a / b : Nat), (a % b : Nat))) := by
  unfold Sp
  intro A h₀ L m s Q E G F N hd hu hh hQ
  refine callK (args := ⟨[.int a t, .int b u], []⟩) G F N (by k_is) (by k_is) (by omega) (fun _ => rfl) (locs rfl) (by decide) rfl rfl rfl hQ ?_
  clear F N G hQ
  intro g L h₁ tk G F N hlt
  repeat' walk_at "st"
  refine getMethod_int_bit_length ?_
  repeat' walk_at "st"
  refine call_int_bit_length ?_
  obtain ⟨n, hn⟩ : ∃ n, Builtin.Int.intBits (b : Int) = n := ⟨_, rfl⟩
  rw [hn] at hln ⊢
  have hn1 : n ≤ 400 := by rw [← hn]; exact intBits_le (by rw [Int.natAbs_natCast]; exact hb2)
  have hn0 : 0 < n := by
    rw [← hn]
    unfold Builtin.Int.intBits
    rw [if_neg (by simp; omega)]
    omega
  repeat' walk_at "st"
  have h54 : ∃ o, (54, o) ∈ news := let ⟨ps, hp, _⟩ := hT.2; ⟨_, hp⟩
  refine i2d (K := 400) (by omega) ha (by omega) hn0 hln hT.1 h54 _ _ _ _ _ _ _ G (by assumption) (by assumption) (by show A.depth + 1 + 70 < _; omega) (by show A.units + 3 + 600 < _; omega) hh ?_
  rintro r news₁ h₂ tk₂ F₂ N₂ ⟨hk₁, hT₁, D, ds, rfl, hD, hDlt, hds, hdl, hdb⟩
  have hT₂ : TabOk 54 (Str.ofString "_digits2int.<locals>.inner") 48 4 news₁ := hT.2.keep (by decide) (by decide) hk₁
  obtain ⟨dv, dc, hDm, hDi⟩ := hD
  have hdvl := hDi.length
  repeat' walk_at "st"
  refine newList_K (by assumption) (by assumption) ?_
  intro H h₃ F₃ N₃ hH
  repeat' walk_at "st"
  refine krv_reversed (by assumption) (by assumption) (news_lst (by assumption) (.tail _ hDm)) ?_
  intro I h₄ F₄ N₄ hI
  repeat' walk_at "st"
  have hHI : H < I := hI _ (.head _)
  refine iter_rev (l := D) (I := I) (vs := dv) (c := dc) (fun i m nx => (∀ q ∈ news₁, q ∈ nx) ∧ ∃ qs r t₁ t₂, IntL nx H qs ∧ qs.length = i ∧ 0 ≤ r ∧ r < (b : Int) ∧ (∀ q ∈ qs, q.natAbs < 2 ^ 1000) ∧ dsum n qs.reverse * b + r = dsum n (ds.drop (ds.length - i)) ∧
      AllB m [(Str.ofString "b", Value.int b u), (Str.ofString "n", Value.int n t₁), (Str.ofString "r", Value.int r t₂), (Str.ofString "q_digits", Value.ref H)])
    ?_ ?_ hh (by assumption) N₄ ?_ ⟨fun q hq => .tail _ hq, [], 0, _, _, ⟨[], 0, .head _, .nil⟩, rfl, by omega, by omega, (fun q hq => by cases hq), by simp [dsum], al_cons rfl (al_cons rfl (al_cons rfl (al_cons rfl al_nil)))⟩ (fun _ _ h => h) ?_ ?_
  · rintro i m nx nx' ⟨h1, qs, r, t₁, t₂, ⟨qv, qc, h2, h3⟩, h4⟩ hs
    exact ⟨fun q hq => hs q (h1 q hq) (Nat.ne_of_lt (hI q (.tail _ hq))), qs, r, t₁, t₂, ⟨qv, qc, hs _ h2 (Nat.ne_of_lt hHI), h3⟩, h4⟩
  · rintro i m nx ⟨h1, _⟩
    exact h1 _ hDm
  · exact fun p hp => Nat.ne_of_lt (hI p hp)
  · rintro i v io m₁ nx h tk' hin hv ⟨hk, qs, r, t₁, t₂, ⟨qv, qc, hqm, hqi⟩, hql, hr0, hrb, hqb, hsum, hmm⟩ hIn hIc F₅ N₅
    obtain ⟨tv, rfl⟩ := hDi.int_at _ _ hv
    obtain ⟨d, hdd⟩ : ∃ d, ds.getD (dv.length - 1 - i) 0 = d := ⟨_, rfl⟩
    rw [hdd]
    have hdm : d ∈ ds := by
      rw [← hdd, hdvl]
      have : ds.length - 1 - i < ds.length := by omega
      rw [List.getD_eq_getElem?_getD, List.getElem?_eq_getElem this]
      exact List.getElem_mem this
    have hdB := hdb d hdm
    have hxb : (r * 2 ^ n + d).natAbs < 2 ^ 801 := by
      have e1 : (r * 2 ^ n).natAbs < 2 ^ 800 := by
        rw [Int.natAbs_mul, Int.natAbs_pow]
        have : r.natAbs < 2 ^ 400 := by omega
        calc r.natAbs * 2 ^ n < 2 ^ 400 * 2 ^ n := Nat.mul_lt_mul_of_pos_right this (Nat.pow_pos (by decide))
          _ ≤ 2 ^ 400 * 2 ^ 400 := Nat.mul_le_mul_left _ (Nat.pow_le_pow_right (by decide) hn1)
          _ = 2 ^ 800 := by rw [← Nat.pow_add]
      have e2 : (2 : Nat) ^ 400 ≤ 2 ^ 800 := Nat.pow_le_pow_right (by decide) (by decide)
      have e3 : (2 : Nat) ^ 801 = 2 ^ 800 + 2 ^ 800 := by rw [← Nat.two_mul, ← Nat.pow_succ']
      have e4 := Int.natAbs_add_le (r * 2 ^ n) d
      omega
    have F := fr_named _ F₅ hmm
    clear F₅ hmm
    repeat' walk_at "st"
    refine lshift_int (by omega) ?_ ?_
    · have := intBits_le (a := r) (k := 400) (by omega)
      omega
    rw [Int.toNat_natCast]
    repeat' walk_at "st"
    refine div2 (by omega) ?_ ?_ _ _ _ _ _ _ _ G (by assumption) (by assumption) (by show A.depth + 1 + 1 < _; omega) (by show A.units + 3 + 8 < _; omega) hh ?_
    · have := intBits_le hxb
      omega
    · rw [Int.natAbs_natCast]
      have := (Nat.log2_lt (show b ≠ 0 by omega)).mpr hb2
      omega
    rintro rv news₆ h₆ tk₆ F₆ N₆ ⟨hs₆, ta, tt₁, tt₂, tn, rfl, htm⟩
    repeat' walk_at "st"
    refine assign_two F₆ N₆ hh htm ?_
    intro h₇ F₇ N₇
    repeat' walk_at "st"
    refine kl_method (by assumption) (hs₆ _ hqm) PySem.F.slot_list_append PySem.F.type_list_append ?_
    repeat' walk_at "st"
    refine append_K (by assumption) (news_pick (by assumption) (hs₆ _ hqm)) upd_Upd ?_ ?_
    · intro h₈ F₈ N₈
      repeat' walk_at "st"
      refine ⟨_, _, _, _, rfl, F₈, N₈, upd_mem (hs₆ _ hIn) (Nat.ne_of_gt hHI), fun q hq => upd_mem (hs₆ _ (hk q hq)) (Nat.ne_of_lt (hH q hq)), qs ++ [(r * 2 ^ n + d).fdiv b], (r * 2 ^ n + d).fmod b, t₁, tt₂,
        ⟨qv ++ [_], qc + 1, by rw [← List.push_toArray]; exact upd_head, hqi.append (.cons _ tt₁ .nil)⟩, by simp [hql], Int.fmod_nonneg_of_pos _ (by omega), Int.fmod_lt_of_pos _ (by omega), ?_, ?_, al_cons rfl (al_cons rfl (al_cons rfl (al_cons rfl al_nil)))⟩
      · intro q hq
        rcases List.mem_append.mp hq with hq | hq
        · exact hqb q hq
        · rw [List.mem_singleton.mp hq]
          exact Nat.lt_of_le_of_lt (fdiv_natAbs_le _ _ (by omega)) (Nat.lt_trans hxb (Nat.pow_lt_pow_right (by decide) (by decide)))
      · rw [dsum_snoc_rev, div_turn (by omega), hsum]
        have : i < ds.length := by omega
        rw [show ds.length - (i + 1) = ds.length - 1 - i by omega, drop_top this, dsum, ← hdd, hdvl]
    · have := hqi.length
      simp [sizeLine]; omega
  · rintro m₁ nx h tk' ⟨hk, qs, r, t₁, t₂, ⟨qv, qc, hqm, hqi⟩, hql, hr0, hrb, hqb, hsum, hmm⟩ F₅ N₅
    have F := fr_named _ F₅ hmm
    clear F₅ hmm
    repeat' walk_at "st"
    refine kl_method (by assumption) hqm PySem.F.slot_list_reverse PySem.F.type_list_reverse ?_
    repeat' walk_at "st"
    refine kl_reverse (by assumption) (news_pick (by assumption) hqm) rfl upd_Upd ?_ ?_
    · have := hqi.length
      simp [sizeLine]; omega
    intro h₆ F₆ N₆
    have hH54 : H ≠ 54 := by
      obtain ⟨ps, hp, _⟩ := hT₂
      exact Nat.ne_of_gt (hH _ hp)
    have hH47 : H ≠ 47 := by
      obtain ⟨ps, hp, _⟩ := hT₁
      exact Nat.ne_of_gt (hH _ hp)
    have hku : ∀ X, ∀ q ∈ news₁, q ∈ upd nx H X := fun X q hq => upd_mem (hk q hq) (Nat.ne_of_lt (hH q hq))
    repeat' walk_at "st"
    refine d2i (xs := qs.reverse) ⟨_, _, upd_head, hqi.reverse⟩ (by simp; omega) (by omega) (fun q hq => hqb q (List.mem_reverse.mp hq)) (hT₂.mono (hku _)) hH54 _ _ _ _ _ _ _ G (by assumption) (by assumption) (by show A.depth + 1 + 70 < _; omega) (by show A.units + 3 + 600 < _; omega) hh ?_
    rintro rv news₇ h₇ tk₇ F₇ N₇ ⟨hs₇, hT₇, tq, rfl⟩
    repeat' walk_at "st"
    refine newTuple_N (by assumption) (by assumption) ?_
    intro h₈ F₈ N₈
    repeat' walk_at "st"
    have hq : dsum n qs.reverse = ((a / b : Nat) : Int) ∧ r = ((a % b : Nat) : Int) := by
      rw [hdvl, Nat.sub_self, List.drop_zero, hds] at hsum
      have h1 : (a : Int) / b = dsum n qs.reverse ∧ (a : Int) % b = r := by
        refine (Int.ediv_emod_unique (by omega)).mpr ⟨?_, hr0, hrb⟩
        rw [Int.mul_comm]; omega
      rw [← h1.1, ← h1.2]
      simp
    refine ⟨_, _, _, _, _, rfl, F₈, N₈, rfl, fun q hq h47 h54 => .tail _ (hs₇ _ (hku _ q (hk₁ q hq h47)) h54), ⟨?_, hT₇.mono fun p hp => .tail _ hp⟩, ⟨_, tq, t₂, 0, rfl, ?_⟩⟩
    · exact ((hT₁.mono (hku _)).keep (by decide) (by decide) hs₇).mono fun p hp => .tail _ hp
    · rw [← hq.1, ← hq.2]
      exact .head _

set_option maxHeartbeats 4000000 in
theorem idm {w : World} {mg mb : Str → Option Value} {news : Led} {a b : Nat} {t u : Tok} (ha : a < 2 ^ 400) (hb : 0 < b) (hb2 : b < 2 ^ 400) (hln : (Builtin.Int.intBits a + Builtin.Int.intBits b - 1) / Builtin.Int.intBits b < 64) (hT : Tabs news) :
    Sp w mg mb 73 [.int a t, .int b u] 90 710 news (fun r news' => KT news news' ∧ Tabs news' ∧ PairAt news' r ((a / b : Nat), (a % b : Nat))) := by
  unfold Sp
  intro A h₀ L m s Q E G F N hd hu hh hQ
  refine callK (args := ⟨[.int a t, .int b u], []⟩) G F N (by k_is) (by k_is) (by omega) (fun _ => rfl) (locs rfl) (by decide) rfl rfl rfl hQ ?_
  clear F N G hQ
  intro g L h₁ tk G F N hlt
  repeat' walk_at "st"
  refine if_neg' (by simp; omega) ?_
  repeat' walk_at "st"
  refine if_neg' (by simp) ?_
  repeat' walk_at "st"
  refine if_neg' (by simp) ?_
  repeat' walk_at "st"
  refine dmp ha hb hb2 hln hT _ _ _ _ _ _ _ G (by assumption) (by assumption) (by show A.depth + 1 + 80 < _; omega) (by show A.units + 3 + 700 < _; omega) hh ?_
  rintro rv news₆ h₆ tk₆ F₆ N₆ ⟨h1, h2, h3⟩
  repeat' walk_at "st"
  exact ⟨_, _, _, _, _, rfl, F₆, N₆, rfl, h1, h2, h3⟩
end
/-! part B12 -/
set_option maxRecDepth 100000
section
open PySem PySem.W PyProof.Rows PySem.Calls PySem.Spec

/-- the order of pairs -/
def plt (p q : Int × Int) : Bool := decide (p.1 < q.1 ∨ (p.1 = q.1 ∧ p.2 < q.2))
theorem plt_mono {x p q : Int × Int} (h : plt q p = false) (h2 : plt x p = true) : plt x q = true := by
  simp only [plt, decide_eq_true_eq, decide_eq_false_iff_not] at *
  omega
theorem plt_mono2 {x p q : Int × Int} (h : plt q p = false) (h2 : plt q x = true) : plt p x = true := by
  simp only [plt, decide_eq_true_eq, decide_eq_false_iff_not] at *
  omega
theorem plt_asymm {x p : Int × Int} (h : plt x p = true) : plt p x = false := by
  simp only [plt, decide_eq_true_eq, decide_eq_false_iff_not] at *
  omega
def Rising (ps : List (Int × Int)) : Prop := ps.Pairwise fun p q => plt q p = false

theorem rising_insert {ps : List (Int × Int)} {x : Int × Int} {k : Nat} (h : Rising ps) (h1 : ∀ i p, ps[i]? = some p → i < k → plt x p = false) (h2 : ∀ i p, ps[i]? = some p → k ≤ i → plt x p = true) :
    Rising (ps.take k ++ x :: ps.drop k) := by
  unfold Rising at *
  rw [List.pairwise_append, List.pairwise_cons]
  refine ⟨h.sublist (List.take_sublist _ _), ⟨fun p hp => ?_, h.sublist (List.drop_sublist _ _)⟩, fun p hp q hq => ?_⟩
  · obtain ⟨i, hi⟩ := List.getElem?_of_mem hp
    rw [List.getElem?_drop] at hi
    exact plt_asymm (h2 _ p hi (by omega))
  · obtain ⟨i, hi⟩ := List.getElem?_of_mem hp
    have hik : i < k := by
      rcases Nat.lt_or_ge i k with h | h
      · exact h
      · rw [List.getElem?_take, if_neg (by omega)] at hi; cases hi
    rw [List.getElem?_take, if_pos hik] at hi
    rcases List.mem_cons.mp hq with rfl | hq
    · exact h1 i p hi hik
    · obtain ⟨j, hj⟩ := List.getElem?_of_mem hq
      rw [List.getElem?_drop] at hj
      obtain ⟨hi1, hi2⟩ := List.getElem?_eq_some_iff.mp hi
      obtain ⟨hj1, hj2⟩ := List.getElem?_eq_some_iff.mp hj
      have := List.pairwise_iff_getElem.mp h i (k + j) hi1 hj1 (by omega)
      rw [hi2, hj2] at this
      exact this
theorem perm_insert {α : Type} (ps : List α) (x : α) (k : Nat) : (ps.take k ++ x :: ps.drop k).Perm (ps ++ [x]) := by
  have h1 : (ps.take k ++ x :: ps.drop k).Perm (x :: (ps.take k ++ ps.drop k)) := List.perm_middle
  rw [List.take_append_drop] at h1
  exact h1.trans (List.perm_append_singleton x ps).symm

/-- pairs in the ledger -/
inductive PairsAre (news : Led) : List Value → List (Int × Int) → Prop
  | nil : PairsAre news [] []
  | cons {v : Value} {p : Int × Int} {vs : List Value} {ps : List (Int × Int)} : PairAt news v p → PairsAre news vs ps → PairsAre news (v :: vs) (p :: ps)
theorem PairAt.mono' {news news' : Led} {v : Value} {p : Int × Int} (h : PairAt news v p) (k : ∀ a o, (a, o) ∈ news → o.cls = .type "tuple" → (a, o) ∈ news') : PairAt news' v p := by
  obtain ⟨a, t, u, n, e, hm⟩ := h
  exact ⟨a, t, u, n, e, k _ _ hm rfl⟩
theorem PairsAre.mono' {news news' : Led} (k : ∀ a o, (a, o) ∈ news → o.cls = .type "tuple" → (a, o) ∈ news') : ∀ {vs : List Value} {ps : List (Int × Int)}, PairsAre news vs ps → PairsAre news' vs ps
  | _, _, .nil => .nil
  | _, _, .cons h t => .cons (h.mono' k) (t.mono' k)
theorem PairsAre.length {news : Led} : ∀ {vs : List Value} {ps : List (Int × Int)}, PairsAre news vs ps → vs.length = ps.length
  | _, _, .nil => rfl
  | _, _, .cons _ t => by rw [List.length_cons, List.length_cons, t.length]
theorem PairsAre.at {news : Led} : ∀ {vs : List Value} {ps : List (Int × Int)}, PairsAre news vs ps → ∀ (i : Nat) (v : Value), vs[i]? = some v → ∃ p, ps[i]? = some p ∧ PairAt news v p
  | _, _, .nil, i, v, h => by simp at h
  | _, _, .cons (p := p) h t, 0, v, e => by simp at e; subst e; exact ⟨p, rfl, h⟩
  | _, _, .cons h t, i + 1, v, e => by simpa using t.at i v (by simpa using e)
theorem PairsAre.take {news : Led} : ∀ {vs : List Value} {ps : List (Int × Int)} (k : Nat), PairsAre news vs ps → PairsAre news (vs.take k) (ps.take k)
  | _, _, 0, _ => by simp; exact .nil
  | _, _, _ + 1, .nil => by simp; exact .nil
  | _, _, k + 1, .cons h t => .cons h (t.take k)
theorem PairsAre.drop {news : Led} : ∀ {vs : List Value} {ps : List (Int × Int)} (k : Nat), PairsAre news vs ps → PairsAre news (vs.drop k) (ps.drop k)
  | _, _, 0, h => h
  | _, _, _ + 1, .nil => .nil
  | _, _, k + 1, .cons _ t => t.drop k
theorem PairsAre.append {news : Led} : ∀ {vs ws : List Value} {ps qs : List (Int × Int)}, PairsAre news vs ps → PairsAre news ws qs → PairsAre news (vs ++ ws) (ps ++ qs)
  | _, _, _, _, .nil, h => h
  | _, _, _, _, .cons h t, h2 => .cons h (t.append h2)
def PairL (news : Led) (l : Addr) (ps : List (Int × Int)) : Prop := ∃ vs n, (l, listOf (List.toArray vs) n) ∈ news ∧ PairsAre news vs ps

theorem lt_of_pairs {w : World} {news : Led} {v x : Value} {p q : Int × Int} (h : PairAt news v p) (k : PairAt news x q) : LtOk w news v x (plt p q) := by
  obtain ⟨a, t, u, n, rfl, hm⟩ := h
  obtain ⟨a', t', u', n', rfl, hm'⟩ := k
  exact LtOk.pair hm hm'

/-- insort_right upon a rising list of pairs -/
theorem ins_pair {w : World} {mg mb : Str → Option Value} {news : Led} {l : Addr} {vs : List Value} {c : Nat} {ps : List (Int × Int)} {x : Value} {q : Int × Int} (hl : (l, listOf (List.toArray vs) c) ∈ news) (hp : PairsAre news vs ps) (hq : PairAt news x q) (hr : Rising ps) (hz : ps.length < 1000) :
    Sp w mg mb 82 [.ref l, x] 2 16 news (fun _ news' => ∃ k, k ≤ ps.length ∧ Rising (ps.take k ++ q :: ps.drop k) ∧ news' = upd news l (listOf (vs.take k ++ x :: vs.drop k).toArray (c + 1))) := by
  have hlen := hp.length
  intro A h₀ L m s Q E G F N hd hu hh hQ
  refine ins (b := fun i => plt q (ps.getD i (0, 0))) hl (by omega) (fun i v hv => ?_) (fun i j hij hj hb => ?_) A h₀ L m s Q E G F N hd hu hh (fun r news' h' tk' F' N' P => hQ r news' h' tk' F' N' ?_)
  · obtain ⟨p, hp1, hp2⟩ := hp.at i v hv
    rw [List.getD_eq_getElem?_getD, hp1]
    exact lt_of_pairs hq hp2
  · rcases Nat.lt_or_eq_of_le hij with h | rfl
    · refine plt_mono ?_ hb
      have hj' : j < ps.length := by omega
      have hi' : i < ps.length := by omega
      rw [List.getD_eq_getElem?_getD, List.getD_eq_getElem?_getD, List.getElem?_eq_getElem hj', List.getElem?_eq_getElem hi']
      exact List.pairwise_iff_getElem.mp hr i j hi' hj' h
    · exact hb
  · obtain ⟨_, k, hk, h1, h2, e⟩ := P
    refine ⟨k, by omega, rising_insert hr (fun i p hi hik => ?_) (fun i p hi hik => ?_), e⟩
    · have := h1 i hik
      rw [List.getD_eq_getElem?_getD, hi] at this
      exact this
    · have := h2 i hik (by rw [hlen]; exact (List.getElem?_eq_some_iff.mp hi).1)
      rw [List.getD_eq_getElem?_getD, hi] at this
      exact this

/-- bisect_left upon a rising list of pairs -/
theorem bl_pair {w : World} {mg mb : Str → Option Value} {news : Led} {l : Addr} {ps : List (Int × Int)} {x : Value} {q : Int × Int} (hl : PairL news l ps) (hq : PairAt news x q) (hr : Rising ps) (hz : ps.length < 1000) :
    Sp w mg mb 100 [.ref l, x] 1 8 news (fun r news' => news' = news ∧ ∃ t', r = .int (ps.countP (plt · q) : Nat) t') := by
  obtain ⟨vs, c, hm, hp⟩ := hl
  have hlen := hp.length
  intro A h₀ L m s Q E G F N hd hu hh hQ
  refine bl (b := fun i => plt (ps.getD i (0, 0)) q) hm (by omega) (fun i v hv => ?_) (fun i j hij hj hb => ?_) A h₀ L m s Q E G F N hd hu hh (fun r news' h' tk' F' N' P => hQ r news' h' tk' F' N' ?_)
  · obtain ⟨p, hp1, hp2⟩ := hp.at i v hv
    rw [List.getD_eq_getElem?_getD, hp1]
    exact lt_of_pairs hp2 hq
  · rcases Nat.lt_or_eq_of_le hij with h | rfl
    · refine plt_mono2 ?_ hb
      have hj' : j < ps.length := by omega
      have hi' : i < ps.length := by omega
      rw [List.getD_eq_getElem?_getD, List.getD_eq_getElem?_getD, List.getElem?_eq_getElem hj', List.getElem?_eq_getElem hi']
      exact List.pairwise_iff_getElem.mp hr i j hi' hj' h
    · exact hb
  · obtain ⟨e, k, t', rfl, hk, h1, h2⟩ := P
    refine ⟨e, t', ?_⟩
    rw [count_split (plt · q) ps k (by omega) (fun i p hi hik => ?_) (fun i p hi hik => ?_)]
    · have := h1 i hik
      rw [List.getD_eq_getElem?_getD, hi] at this
      exact this
    · have := h2 i hik (by rw [hlen]; exact (List.getElem?_eq_some_iff.mp hi).1)
      rw [List.getD_eq_getElem?_getD, hi] at this
      exact this
end
/-! part B13 -/
set_option maxRecDepth 100000
section
open PySem PySem.W PyProof.Rows PySem.Calls PySem.Spec

def nxt (n x : Nat) : Nat := (x * 8) % 8 ^ n + (x * 8) / 8 ^ n
def num (n B : Nat) : Nat → Nat
  | 0 => B
  | k + 1 => nxt n (num n B k)
def prT (n B k : Nat) : Int × Int := ((num n B (k + 1) : Nat), (num n B k * 8 / 8 ^ n : Nat))

theorem nxt_lt {n x : Nat} (hn : 0 < n) (hx : x < 8 ^ n) : nxt n x < 8 ^ n := by
  obtain ⟨m, rfl⟩ : ∃ m, n = m + 1 := ⟨n - 1, by omega⟩
  unfold nxt
  rw [Nat.pow_succ] at hx ⊢
  rw [Nat.mul_mod_mul_right]
  have h1 : x % 8 ^ m < 8 ^ m := Nat.mod_lt _ (Nat.pow_pos (by decide))
  have h2 : x * 8 / (8 ^ m * 8) < 8 := by
    rw [Nat.div_lt_iff_lt_mul (Nat.mul_pos (Nat.pow_pos (by decide)) (by decide))]
    omega
  omega
theorem num_lt {n B : Nat} (hn : 0 < n) (hB : B < 8 ^ n) : ∀ k, num n B k < 8 ^ n
  | 0 => hB
  | k + 1 => nxt_lt hn (num_lt hn hB k)
theorem mulOk_small2 {a b : Int} (h : b.natAbs < 2 ^ 64) : IntMulOk a b := by
  unfold IntMulOk
  have := intBits_le h
  simp [shortFactorBits]
  omega
theorem bits_8 (n : Nat) : Builtin.Int.intBits ((8 ^ n : Nat) : Int) = 3 * n + 1 := by
  unfold Builtin.Int.intBits
  have h0 : 8 ^ n ≠ 0 := Nat.pos_iff_ne_zero.mp (Nat.pow_pos (by decide : 0 < 8))
  have h1 : ¬ ((((8 ^ n : Nat) : Int) == 0) = true) := fun q => h0 (Int.ofNat.inj (eq_of_beq q))
  rw [if_neg h1, Int.natAbs_natCast]
  rw [show (8 : Nat) = 2 ^ 3 from rfl, ← Nat.pow_mul, Nat.log2_two_pow]
theorem pow8_lt {n : Nat} (h : n ≤ 100) : 8 ^ n < 2 ^ 400 := by
  rw [show (8 : Nat) = 2 ^ 3 from rfl, ← Nat.pow_mul]
  exact Nat.pow_lt_pow_right (by decide) (by omega)
theorem long_fits {n x : Nat} (hn : 0 < n) (hn2 : n ≤ 60) (hx : x < 8 ^ n) : x * 8 < 2 ^ 400 ∧ (Builtin.Int.intBits ((x * 8 : Nat) : Int) + Builtin.Int.intBits ((8 ^ n : Nat) : Int) - 1) / Builtin.Int.intBits ((8 ^ n : Nat) : Int) < 64 := by
  have h1 : x * 8 < 8 ^ (n + 1) := by rw [Nat.pow_succ]; omega
  refine ⟨Nat.lt_trans h1 (pow8_lt (by omega)), ?_⟩
  rw [bits_8]
  have h2 : Builtin.Int.intBits ((x * 8 : Nat) : Int) ≤ 3 * (n + 1) := intBits_le (by
    rw [Int.natAbs_natCast]
    rw [show (8 : Nat) = 2 ^ 3 from rfl, ← Nat.pow_mul] at h1
    exact h1)
  rw [Nat.div_lt_iff_lt_mul (by omega)]
  omega

theorem news_keepT {h₀ h : Heap} {L : Addr} {news news' : Led} (N : News h₀ L h news) (hT : Tabs news) (k : KT news news') {a : Addr} {o : Obj} (hm : (a, o) ∈ news) (hc : o.cls ≠ .none) : (a, o) ∈ news' :=
  k _ hm (tab_ne N hm hT.1 hc) (tab_ne N hm hT.2 hc)
theorem tabs_noit {nx nx' : Led} (h : Tabs nx) (hs : ∀ p ∈ nx, ¬ isIt p.2 → p ∈ nx') : Tabs nx' := by
  have key : ∀ {P : Addr} {q : Str} {l c : Nat}, TabOk P q l c nx → TabOk P q l c nx' := by
    rintro P q l c ⟨ps, a, b⟩
    refine ⟨ps, hs _ a (not_it (by simp)), b.imp id ?_⟩
    rintro ⟨c', oc, vs, t, h1, h2, h3, h4, h5⟩
    refine ⟨c', oc, vs, t, h1, h2, hs _ h3 ?_, h4, h5⟩
    rintro ⟨x, y, e⟩
    simp only at e
    rw [e] at h4
    cases h4
    simp [rawInt] at h5
  exact ⟨key h.1, key h.2⟩
theorem tabs_upd {h₀ h : Heap} {L l : Addr} {nx : Led} {o o' : Obj} (N : News h₀ L h nx) (hl : (l, o) ∈ nx) (hc : o.cls = .type "list") (hd : ∀ vs, o.data ≠ .fields vs) (h : Tabs nx) : Tabs (upd nx l o') := by
  have key : ∀ {P : Addr} {q : Str} {ln c : Nat}, TabOk P q ln c nx → TabOk P q ln c (upd nx l o') := by
    rintro P q ln c ⟨ps, a, b⟩
    refine ⟨ps, upd_mem a (news_ne N a hl fun q => by rw [← q] at hc; cases hc), b.imp id ?_⟩
    rintro ⟨c', oc, vs, t, h1, h2, h3, h4, h5⟩
    exact ⟨c', oc, vs, t, h1, h2, upd_mem h3 (news_ne N h3 hl fun q => hd vs (by rw [← q]; exact h4)), h4, h5⟩
  exact ⟨key h.1, key h.2⟩

theorem newTuple_K {M : Model} {A : Around} {E : Value → Shared → Prop} {s : Shared} {h₀ : Heap} {L : Addr} {m : Str → Option Value} {news : Led} {vs : List Value} {Q : Value → Shared → Prop} (F : Fr h₀ L s.heap m) (N : News h₀ L s.heap news)
    (h : ∀ T h', Fr h₀ L h' m → News h₀ L h' ((T, tupOf vs 0) :: news) → (∀ p ∈ news, p.1 < T) → Q (.ref T) { s with heap := h' }) (hsz : vs.length ≤ sizeLine := by size_fits) : wpAny M A (newTuple vs) Q E s :=
  newTuple_N F N (fun h' F' N' => h _ h' F' N' fun p hp => Heap.lt_size (N p hp).1) hsz

set_option maxHeartbeats 4000000 in
theorem turnsS {w : World} {mg mb : Str → Option Value} {news : Led} {n B : Nat} {t u : Tok} (hn : 0 < n) (hn2 : n ≤ 60) (hB : B < 8 ^ n) (hround : num n B n = B) (hT : Tabs news) :
    Sp w mg mb 131 [.int B t, .int n u] 100 800 news (fun r news' => KT news news' ∧ Tabs news' ∧ ∃ D ps, r = .ref D ∧ PairL news' D ps ∧ Rising ps ∧ ps.Perm ((List.range n).map (prT n B))) := by
  unfold Sp
  intro A h₀ L m s Q E G F N hd hu hh hQ
  refine callK (args := ⟨[.int B t, .int n u], []⟩) G F N (by k_is) (by k_is) (by omega) (fun _ => rfl) (locs rfl) (by decide) rfl rfl rfl hQ ?_
  clear F N G hQ
  intro g L h₁ tk G F N hlt
  repeat' walk_at "st"
  refine newList_K (by assumption) (by assumption) ?_
  intro D h₂ F₂ N₂ hD
  repeat' walk_at "st"
  refine iter_range (n := n) (fun i m nx => (∀ q ∈ news, q.1 ≠ 47 → q.1 ≠ 54 → ¬ isIt q.2 → q ∈ nx) ∧ Tabs nx ∧ (∃ vs c ps, (D, listOf (List.toArray vs) c) ∈ nx ∧ PairsAre nx vs ps ∧ Rising ps ∧ ps.Perm ((List.range i).map (prT n B))) ∧
      ∃ t₁, AllB m [(Str.ofString "begun", Value.int B t), (Str.ofString "size", Value.int n u), (Str.ofString "turns", Value.ref D), (Str.ofString "number", Value.int (num n B i) t₁)])
    ?_ hh (by assumption) (small_one (by omega) (by omega) (by omega) (by omega)) (by omega) (by assumption) (by assumption) ⟨fun q hq _ _ _ => .tail _ hq, hT.mono fun p hp => .tail _ hp, ⟨[], 0, [], .head _, .nil, .nil, .refl _⟩, _, al_cons rfl (al_cons rfl (al_cons rfl (al_cons rfl al_nil)))⟩ (fun _ _ h => h) ?_ ?_
  · rintro i m nx nx' ⟨h1, h2, ⟨vs, c, ps, h3, h4, h5⟩, h6⟩ hs
    exact ⟨fun q hq a b c => hs q (h1 q hq a b c) c, tabs_noit h2 hs, ⟨vs, c, ps, hs _ h3 (not_it (by simp)), h4.mono' fun a o ha hc => hs _ ha (not_it (by simp [hc])), h5⟩, h6⟩
  · rintro i t' m₁ nx h tk hin ⟨hk, hTx, ⟨vs, c, ps, hDm, hps, hri, hpe⟩, t₁, hmm⟩ hold F₁ N₁
    have hnum := num_lt hn hB i
    obtain ⟨hf1, hf2⟩ := long_fits hn hn2 hnum
    have F := fr_named _ F₁ hmm
    clear F₁ hmm
    repeat' walk_at "st"
    refine mul_int ?_ (mulOk_small2 (by decide))
    rw [show ((num n B i : Nat) : Int) * 8 = ((num n B i * 8 : Nat) : Int) by simp]
    repeat' walk_at "st"
    refine pow_int_small (by omega) (by omega) (by decide) ?_
    rw [Int.toNat_natCast, show (8 : Int) ^ n = ((8 ^ n : Nat) : Int) by simp]
    repeat' walk_at "st"
    refine idm hf1 (Nat.pow_pos (by decide)) (pow8_lt (by omega)) hf2 hTx _ _ _ _ _ _ _ G (by assumption) (by assumption) (by show A.depth + 1 + 90 < _; omega) (by show A.units + 3 + 710 < _; omega) hh ?_
    rintro rv news₂ h₃ tk₃ F₃ N₃ ⟨hk₂, hT₂, ta, tt₁, tt₂, tn, rfl, htm⟩
    dsimp only at htm
    repeat' walk_at "st"
    refine assign_two F₃ N₃ hh htm ?_
    intro h₄ F₄ N₄
    repeat' walk_at "st"
    rw [show ((num n B i * 8 % 8 ^ n : Nat) : Int) + ((num n B i * 8 / 8 ^ n : Nat) : Int) = ((num n B (i + 1) : Nat) : Int) from rfl]
    repeat' walk_at "st"
    refine newTuple_K (by assumption) (by assumption) ?_
    intro T h₅ F₅ N₅ hT₅
    have hDm₂ := news_keepT N₁ hTx hk₂ hDm (by simp)
    have hps₂ : PairsAre ((T, tupOf [Value.int (num n B (i + 1) : Nat) (tk₃ + 1 + 1), Value.int (num n B i * 8 / 8 ^ n : Nat) tt₁] 0) :: news₂) vs ps := hps.mono' fun a o ha hc => .tail _ (news_keepT N₁ hTx hk₂ ha (by simp [hc]))
    have hpl : ps.length = i := by rw [hpe.length_eq]; simp
    repeat' walk_at "st"
    refine ins_pair (q := prT n B i) (.tail _ hDm₂) hps₂ ⟨T, _, _, _, rfl, .head _⟩ hri (by omega) _ _ _ _ _ _ _ G (by assumption) (by assumption) (by show A.depth + 1 + 2 < _; omega) (by show A.units + 3 + 16 < _; omega) hh ?_
    rintro rv news₆ h₆ tk₆ F₆ N₆ ⟨k, hk6, hri6, rfl⟩
    repeat' walk_at "st"
    have hTu : Tabs (upd ((T, tupOf [Value.int (num n B (i + 1) : Nat) (tk₃ + 1 + 1), Value.int (num n B i * 8 / 8 ^ n : Nat) tt₁] 0) :: news₂) D (listOf (vs.take k ++ Value.ref T :: vs.drop k).toArray (c + 1))) := tabs_upd N₅ (.tail _ hDm₂) rfl (by simp) (hT₂.mono fun p hp => .tail _ hp)
    have hmemu : ∀ {a : Addr} {o : Obj}, (a, o) ∈ (T, tupOf [Value.int (num n B (i + 1) : Nat) (tk₃ + 1 + 1), Value.int (num n B i * 8 / 8 ^ n : Nat) tt₁] 0) :: news₂ → o.cls ≠ .type "list" → (a, o) ∈ upd ((T, tupOf [Value.int (num n B (i + 1) : Nat) (tk₃ + 1 + 1), Value.int (num n B i * 8 / 8 ^ n : Nat) tt₁] 0) :: news₂) D (listOf (vs.take k ++ Value.ref T :: vs.drop k).toArray (c + 1)) :=
      fun hm hc => upd_mem hm (news_ne N₅ hm (.tail _ hDm₂) fun q => hc (by rw [q]))
    refine ⟨_, _, _, _, rfl, F₆, N₆, ?_, ?_, hTu, ⟨_, c + 1, _, upd_head, ?_, hri6, ?_⟩, _, al_cons rfl (al_cons rfl (al_cons rfl (al_cons rfl al_nil)))⟩
    · intro p hp hc
      exact hmemu (.tail _ (news_keepT N₁ hTx hk₂ hp (by simp [hc.cls]))) (by simp [hc.cls])
    · intro q hq h47 h54 hni
      exact upd_mem (.tail _ (hk₂ _ (hk q hq h47 h54 hni) h47 h54)) (Nat.ne_of_lt (hD q hq))
    · refine PairsAre.mono' (fun a o ha hc => hmemu ha (by simp [hc])) ((hps₂.take k).append (.cons ⟨T, _, _, _, rfl, .head _⟩ (hps₂.drop k)))
    · refine (perm_insert ps _ k).trans ?_
      rw [List.range_succ, List.map_append]
      exact hpe.append_right _
  · rintro m₁ nx h tk ⟨hk, hTx, ⟨vs, c, ps, hDm, hps, hri, hpe⟩, t₁, hmm⟩ hold F₁ N₁
    rw [hround] at hmm
    have F := fr_named _ F₁ hmm
    clear F₁ hmm
    repeat' walk_at "st"
    refine if_pos' (by simp) ?_
    repeat' walk_at "st"
    refine ⟨_, _, _, _, _, rfl, F, N₁, rfl, ?_, hTx, D, ps, rfl, ⟨vs, c, hDm, hps⟩, hri, hpe⟩
    intro q hq h47 h54
    by_cases hc : isIt q.2
    · exact hold q (.tail _ hq) hc
    · exact hk q hq h47 h54 hc
end
/-! part B14 -/
set_option maxRecDepth 100000
section
open PySem PySem.W PyProof.Rows PySem.Calls PySem.Spec

section
variable {prog : Program} {w : World} {A : Around} {E : Value → Shared → Prop} {s : Shared} {h₀ : Heap} {L : Addr} {m : Str → Option Value} {env : Env}

theorem nmCL {M : Model} {scope : Scope} {cl : List (Str × Addr)} {C : Addr} {x : Str} {pos : Pos} {v : Value} {Q : Value → Shared → Prop} (F : Fr h₀ C s.heap m) (hv : m x = some v) (h : Q v s)
    (hk : (compEnvC scope cl C env).scope.kind = .function := by rfl) (hx : (compEnvC scope cl C env).kindOf x = some .local := by rfl) (hd : (x == ("__debug__" : Str)) = false := by decide) :
    wpAny M A (eval (.Name x pos) (compEnvC scope cl C env)) Q E s := wpAny_Name (wpAny_loadName_local hk hx F.ns hv h) hd
theorem nmCC {M : Model} {scope : Scope} {cl : List (Str × Addr)} {C c : Addr} {o : Obj} {news : Led} {x : Str} {pos : Pos} {v : Value} {Q : Value → Shared → Prop} (N : News h₀ C s.heap news) (hc : cl.lookup x = some c) (hm : (c, o) ∈ news) (hd : o.data = .cell (some v)) (h : Q v s)
    (hk : (compEnvC scope cl C env).scope.kind = .function := by rfl) (hx : (compEnvC scope cl C env).kindOf x = some .cell := by rfl) (hb : (x == ("__debug__" : Str)) = false := by decide) :
    wpAny M A (eval (.Name x pos) (compEnvC scope cl C env)) Q E s := wpAny_Name (wpAny_loadName_cell hk hx hc ⟨o, N.get hm, hd⟩ h) hb

/-- what a comprehension needs once its iterator stands -/
structure CompGo (prog : Program) (w : World) (A : Around) (h₀ : Heap) (L : Addr) (m : Str → Option Value) (env : Env) (scope : Scope) (cl : List (Str × Addr)) (x : Str) (ifs : List Expr) (elt : Expr) (p : Value → Bool) (FF : Value → Value → Prop)
    (P : Nat → Value → Prop) (n : Nat) (news : Led) (s₂ : Shared) (I : Addr) (St : Nat → Heap → Prop) (fp : List Addr) : Prop where
  W : Walks prog w A I fp [I] n P St
  sz : n ≤ sizeLine
  st : St 0 s₂.heap
  fpl : ∀ b ∈ fp, b < s₂.heap.objs.size
  F : Fr h₀ L s₂.heap m
  N : News h₀ L s₂.heap news
  IL : I ≠ L
  I0 : h₀.get? I = none
  IN : ∀ p ∈ news, p.1 ≠ I
  tests : ∀ C i v s₃ m₃ E', P i v → m₃ x = some v → Fr h₀ C s₃.heap m₃ → News h₀ C s₃.heap news →
    wpAny (model prog w) A (forIn ifs true fun c r => if r = true then do let ok ← isTrue c (compEnvC scope cl C env) (eval c (compEnvC scope cl C env)); pure (ForInStep.yield ok) else pure (ForInStep.yield r)) (fun ok s₄ => ok = p v ∧ Keeps s₃ s₄) E' s₃
  elt : ∀ C i v s₃ m₃ E', P i v → p v = true → m₃ x = some v → Fr h₀ C s₃.heap m₃ → News h₀ C s₃.heap news →
    wpAny (model prog w) A (eval elt (compEnvC scope cl C env)) (fun y s₄ => FF v y ∧ Keeps s₃ s₄) E' s₃

theorem CompGo.quiet {scope : Scope} {cl : List (Str × Addr)} {x : Str} {ifs : List Expr} {elt : Expr} {p : Value → Bool} {FF : Value → Value → Prop} {P : Nat → Value → Prop} {n : Nat} {news : Led} {s₂ : Shared} {I : Addr} {St : Nat → Heap → Prop} {fp : List Addr}
    (c : CompGo prog w A h₀ L m env scope cl x ifs elt p FF P n news s₂ I St fp) : QuietOnC prog w A env scope cl x ifs elt [I] P p FF s₂ := by
  have key : ∀ C (s₃ : Shared) m₃, s₂.heap.objs.size ≤ C → s₃.heap.Ns C m₃ → (∀ b o, b ∉ [I] → s₂.heap.get? b = some o → s₃.heap.get? b = some o) → Fr h₀ C s₃.heap m₃ ∧ News h₀ C s₃.heap news := by
    intro C s₃ m₃ hC hn hk
    refine ⟨⟨hn, fun b o e => hk b o (fun q => by rw [List.mem_singleton.mp q, c.I0] at e; cases e) (c.F.keep b o e), Nat.le_trans (Nat.le_of_lt (Nat.lt_of_le_of_lt c.F.above c.F.ns.lt)) hC⟩, fun p hp => ⟨hk _ _ (fun q => c.IN p hp (List.mem_singleton.mp q)) (c.N p hp).1, ?_, (c.N p hp).2.2⟩⟩
    exact Nat.ne_of_lt (Nat.lt_of_lt_of_le (Heap.lt_size (c.N p hp).1) hC)
  refine ⟨fun C i v s₃ m₃ E' hC hP hn hm hk _ => ?_, fun C i v s₃ m₃ E' hC hP hpv hn hm hk _ => ?_⟩
  · obtain ⟨F', N'⟩ := key C s₃ m₃ hC hn hk
    exact c.tests C i v s₃ m₃ E' hP hm F' N'
  · obtain ⟨F', N'⟩ := key C s₃ m₃ hC hn hk
    exact c.elt C i v s₃ m₃ E' hP hpv hm F' N'

theorem CompGo.after {scope : Scope} {cl : List (Str × Addr)} {x : Str} {ifs : List Expr} {elt : Expr} {p : Value → Bool} {FF : Value → Value → Prop} {P : Nat → Value → Prop} {n : Nat} {news : Led} {s₂ : Shared} {I : Addr} {St : Nat → Heap → Prop} {fp : List Addr}
    (c : CompGo prog w A h₀ L m env scope cl x ifs elt p FF P n news s₂ I St fp) {h' : Heap} {D : Addr} {ys : Array Value} (hD : s₂.heap.get? D = none) (hk : ∀ b o, b ∉ [I] → s₂.heap.get? b = some o → h'.get? b = some o) (hp : h'.PlainList D ys) :
    Fr h₀ L h' m ∧ (∃ k, News h₀ L h' ((D, listOf ys k) :: news)) ∧ ∀ p ∈ news, p.1 ≠ D := by
  have hLI : L ∉ [I] := fun q => c.IL (List.mem_singleton.mp q).symm
  have hne : ∀ p ∈ news, p.1 ≠ D := fun p hp q => by have := (c.N p hp).1; rw [q, hD] at this; cases this
  obtain ⟨k, hk'⟩ := hp
  refine ⟨⟨c.F.ns.at' fun o e => hk _ _ hLI e, fun b o e => hk b o (fun q => by rw [List.mem_singleton.mp q, c.I0] at e; cases e) (c.F.keep b o e), c.F.above⟩, ⟨k, fun p hp => ?_⟩, hne⟩
  rcases List.mem_cons.mp hp with rfl | hp
  · refine ⟨hk', fun q => ?_, ?_⟩
    · obtain ⟨o, _, _, ho, _⟩ := c.F.ns
      simp only at q
      rw [← q, hD] at ho; cases ho
    · cases q : h₀.get? D with
      | none => rfl
      | some o => have := c.F.keep _ _ q; rw [hD] at this; cases this
  · exact ⟨hk _ _ (fun q => c.IN p hp (List.mem_singleton.mp q)) (c.N p hp).1, (c.N p hp).2⟩

theorem listComp_K {elt iter : Expr} {x : Str} {px : Pos} {ifs : List Expr} {scope : Scope} {cl : List (Str × Addr)} {pos : Pos} {Q : Value → Shared → Prop} (_F : Fr h₀ L s.heap m) (p : Value → Bool) (FF : Value → Value → Prop)
    (hclos : closureFor scope env = pure cl) (hcell : ∀ y ∈ scope.names, y.2 ≠ .cell) (hkind : scope.kind = .function)
    (hnames : ∀ y ∈ scope.names, y.2 = .local → scope.names.lookup y.1 = some .local) (hx : scope.names.lookup x = some .local)
    (h : wpAny (model prog w) A (eval iter env) (fun xv s₁ => wpAny (model prog w) A (pyIter xv) (fun it s₂ => ∃ I fp n P St news, it = .ref I ∧ CompGo prog w A h₀ L m env scope cl x ifs elt p FF P n news s₂ I St fp ∧
      (∀ D h' tk ys k (vs : List Value), Fr h₀ L h' m → News h₀ L h' ((D, listOf ys k) :: news) → (∀ p ∈ news, p.1 ≠ D) → vs.length = n → (∀ j v, vs[j]? = some v → P j v) → Paired FF (vs.filter p) ys.toList → Q (.ref D) { s₂ with heap := h', toks := tk })) E s₁) E s)
    (hs : ∀ x, foldedSetIterable iter env x = pure x := by intro _; rfl) :
    wpAny (model prog w) A (eval (.ListComp elt [⟨.Name x px, iter, ifs, 0⟩] scope pos) env) Q E s := by
  refine wpAny_ListComp_free p FF hclos hcell hkind hnames hx (wpAny_mono h (fun xv s₁ h₁ => wpAny_mono h₁ (fun it s₂ h₂ => ?_) fun _ _ e => e) fun _ _ e => e) hs
  obtain ⟨I, fp, n, P, St, news, rfl, c, hq⟩ := h₂
  refine ⟨I, fp, [I], n, P, St, rfl, c.W, c.sz, c.st, c.fpl, c.quiet, fun D h' tk ys vs hD _ hp hl hP hpa hk => ?_⟩
  obtain ⟨F', ⟨k, N'⟩, ne⟩ := c.after hD hk hp
  exact hq D h' tk ys k vs F' N' ne hl hP hpa

theorem assignComp_K {elt iter : Expr} {x y : Str} {px py : Pos} {ifs : List Expr} {scope : Scope} {cl : List (Str × Addr)} {pos spos : Pos} {Q : Flow → Shared → Prop} (_F : Fr h₀ L s.heap m) (p : Value → Bool) (FF : Value → Value → Prop) (hL : env.locals = L)
    (hsw : swapsWith (.ListComp elt [⟨.Name x px, iter, ifs, 0⟩] scope pos) (some (.Name y py)) spos.line env = pure true)
    (hclos : closureFor scope env = pure cl) (hcell : ∀ z ∈ scope.names, z.2 ≠ .cell) (hkind : scope.kind = .function)
    (hnames : ∀ z ∈ scope.names, z.2 = .local → scope.names.lookup z.1 = some .local) (hx : scope.names.lookup x = some .local)
    (hy : env.kindOf y = some .local) (hpp : (env.scope.kind == .class || (env.scope.kind == .module && env.locals != env.globals)) = false)
    (h : wpAny (model prog w) A (eval iter env) (fun xv s₁ => wpAny (model prog w) A (pyIter xv) (fun it s₂ => ∃ I fp n P St news, it = .ref I ∧ CompGo prog w A h₀ L m env scope cl x ifs elt p FF P n news s₂ I St fp ∧
      (∀ D h' tk ys k (vs : List Value), Fr h₀ L h' (fun z => if z = y then some (.ref D) else m z) → News h₀ L h' ((D, listOf ys k) :: news) → (∀ p ∈ news, p.1 ≠ D) → vs.length = n → (∀ j v, vs[j]? = some v → P j v) → Paired FF (vs.filter p) ys.toList → Q .next { s₂ with heap := h', toks := tk })) E s₁) E s)
    (hs : ∀ x, foldedSetIterable iter env x = pure x := by intro _; rfl) :
    wpAny (model prog w) A (exec (.Assign [.Name y py] (.ListComp elt [⟨.Name x px, iter, ifs, 0⟩] scope pos) spos) env) Q E s := by
  subst hL
  refine wpAny_Assign_ListComp_free p FF hsw hclos hcell hkind hnames hx hy hpp (wpAny_mono h (fun xv s₁ h₁ => wpAny_mono h₁ (fun it s₂ h₂ => ?_) fun _ _ e => e) fun _ _ e => e) hs
  obtain ⟨I, fp, n, P, St, news, rfl, c, hq⟩ := h₂
  refine ⟨I, fp, [I], n, P, St, m, rfl, c.W, c.sz, c.st, c.fpl, fun q => c.IL (List.mem_singleton.mp q).symm, c.F.ns, c.quiet, fun D h' tk ys vs hD _ hp hl hP hpa hns hk => ?_⟩
  have hne : ∀ p ∈ news, p.1 ≠ D := fun p hp q => by have := (c.N p hp).1; rw [q, hD] at this; cases this
  obtain ⟨k, hk'⟩ := hp
  have hbL : ∀ b o, h₀.get? b = some o → b ≠ env.locals := fun b o e q => Nat.not_lt_of_ge c.F.above (by rw [← q]; exact Heap.lt_size e)
  refine hq D h' tk ys k vs ⟨hns, fun b o e => hk b o (hbL b o e) (fun q => by rw [List.mem_singleton.mp q, c.I0] at e; cases e) (c.F.keep b o e), c.F.above⟩ (fun p hp => ?_) hne hl hP hpa
  rcases List.mem_cons.mp hp with rfl | hp
  · refine ⟨hk', fun q => ?_, ?_⟩
    · obtain ⟨o, _, _, ho, _⟩ := c.F.ns
      simp only at q
      rw [← q, hD] at ho; cases ho
    · cases q : h₀.get? D with
      | none => rfl
      | some o => have := c.F.keep _ _ q; rw [hD] at this; cases this
  · exact ⟨hk _ _ (c.N p hp).2.1 (fun q => c.IN p hp (List.mem_singleton.mp q)) (c.N p hp).1, (c.N p hp).2⟩

/-- the iterators -/
theorem compGo_range {scope : Scope} {cl : List (Str × Addr)} {x : Str} {ifs : List Expr} {elt : Expr} {p : Value → Bool} {FF : Value → Value → Prop} {m' : Addr → Str → Option Value} {RR : Shared → Addr → Heap → Nat → Prop} {n : Nat} {news : Led} {r : Addr} {b : Int} {t u v : Tok}
    (hh : A.handled = none) (hr : IsRange s.heap r 0 b 1 t u v) (hb : b = n) (hsz : n < 1000) (F : Fr h₀ L s.heap m) (N : News h₀ L s.heap news)
    (tests : ∀ C (i : Nat) tv s₃ m₃ E', i < n → m₃ x = some (Value.int i tv) → Fr h₀ C s₃.heap m₃ → News h₀ C s₃.heap news →
      wpAny (model prog w) A (forIn ifs true fun c r => if r = true then do let ok ← isTrue c (compEnvC scope cl C env) (eval c (compEnvC scope cl C env)); pure (ForInStep.yield ok) else pure (ForInStep.yield r)) (fun ok s₄ => ok = p (Value.int i tv) ∧ Keeps s₃ s₄) E' s₃)
    (elts : ∀ C (i : Nat) tv s₃ m₃ E', i < n → p (Value.int i tv) = true → m₃ x = some (Value.int i tv) → Fr h₀ C s₃.heap m₃ → News h₀ C s₃.heap news → wpAny (model prog w) A (eval elt (compEnvC scope cl C env)) (fun y s₄ => FF (Value.int i tv) y ∧ Keeps s₃ s₄) E' s₃)
    (h : ∀ hp D h' tk ys k (vs : List Value), Fr h₀ L h' (m' D) → News h₀ L h' ((D, listOf ys k) :: news) → (∀ p ∈ news, p.1 ≠ D) → vs.length = n → (∀ (j : Nat) v, vs[j]? = some v → ∃ t, v = Value.int j t) → Paired FF (vs.filter p) ys.toList → RR { s with heap := hp } D h' tk) :
    wpAny (model prog w) A (pyIter (.ref r)) (fun it s₂ => ∃ I fp n P St news, it = .ref I ∧ CompGo prog w A h₀ L m env scope cl x ifs elt p FF P n news s₂ I St fp ∧
      (∀ D h' tk ys k (vs : List Value), Fr h₀ L h' (m' D) → News h₀ L h' ((D, listOf ys k) :: news) → (∀ p ∈ news, p.1 ≠ D) → vs.length = n → (∀ j v, vs[j]? = some v → P j v) → Paired FF (vs.filter p) ys.toList → RR s₂ D h' tk)) E s := by
  subst hb
  refine wpAny_pyIter_range hr (small_one (by omega) (by omega) (by omega) (by omega)) ?_
  have hsz' : Builtin.Range.rangeSize 0 n 1 = (n : Int) := by rw [rangeSize_one]; split <;> omega
  rw [hsz']
  have hI0 : h₀.get? s.heap.objs.size = none := next_is_new F
  have hIL : s.heap.objs.size ≠ L := Nat.ne_of_gt F.ns.lt
  have W := Walks.range (prog := prog) (w := w) (A := A) hh s.heap.objs.size 0 1 n
  refine ⟨s.heap.objs.size, [s.heap.objs.size], n, fun i v => i < n ∧ ∃ t, v = Value.int i t, fun i h => IsRangeIter h s.heap.objs.size (0 + (i : Nat) * 1) ((n : Int) - (i : Nat)) 1, news, rfl,
    ⟨⟨W.sub, W.frame, fun i s Q E hi st hQ => W.item i s Q E hi st fun v h' tk hv => hQ v h' tk ⟨hi, ?_⟩, W.done, W.self⟩, by simp [sizeLine]; omega, by simpa using Heap.get?_push_size _ rfl, ?_, F.push _, (fun p hp => ⟨Heap.get?_push_of_some _ (N p hp).1, (N p hp).2⟩), hIL, hI0,
      (fun p hp => Nat.ne_of_lt (Heap.lt_size (N p hp).1)), ?_, ?_⟩, ?_⟩
  · obtain ⟨t, rfl⟩ := hv
    exact ⟨t, by simp⟩
  · intro b hb
    rw [List.mem_singleton.mp hb]
    simp [Heap.size_push]
  · rintro C i v s₃ m₃ E' ⟨hi, tv, rfl⟩ hm F' N'
    exact tests C i tv s₃ m₃ E' hi hm F' N'
  · rintro C i v s₃ m₃ E' ⟨hi, tv, rfl⟩ hp hm F' N'
    exact elts C i tv s₃ m₃ E' hi hp hm F' N'
  · intro D h' tk ys k vs F' N' ne hl hP hpa
    exact h _ D h' tk ys k vs F' N' ne hl (fun j v hv => (hP j v hv).2) hpa

theorem compGo_list {scope : Scope} {cl : List (Str × Addr)} {x : Str} {ifs : List Expr} {elt : Expr} {p : Value → Bool} {FF : Value → Value → Prop} {m' : Addr → Str → Option Value} {RR : Shared → Addr → Heap → Nat → Prop} {news : Led} {r : Addr} {c : Nat} {its : Array Value}
    (hh : A.handled = none) (hl : (r, listOf its c) ∈ news) (hsz : its.size ≤ sizeLine) (F : Fr h₀ L s.heap m) (N : News h₀ L s.heap news)
    (tests : ∀ C (i : Nat) v s₃ m₃ E', its[i]? = some v → m₃ x = some v → Fr h₀ C s₃.heap m₃ → News h₀ C s₃.heap news →
      wpAny (model prog w) A (forIn ifs true fun c r => if r = true then do let ok ← isTrue c (compEnvC scope cl C env) (eval c (compEnvC scope cl C env)); pure (ForInStep.yield ok) else pure (ForInStep.yield r)) (fun ok s₄ => ok = p v ∧ Keeps s₃ s₄) E' s₃)
    (elts : ∀ C (i : Nat) v s₃ m₃ E', its[i]? = some v → p v = true → m₃ x = some v → Fr h₀ C s₃.heap m₃ → News h₀ C s₃.heap news → wpAny (model prog w) A (eval elt (compEnvC scope cl C env)) (fun y s₄ => FF v y ∧ Keeps s₃ s₄) E' s₃)
    (h : ∀ hp D h' tk ys k, Fr h₀ L h' (m' D) → News h₀ L h' ((D, listOf ys k) :: news) → (∀ p ∈ news, p.1 ≠ D) → Paired FF (its.toList.filter p) ys.toList → RR { s with heap := hp } D h' tk) :
    wpAny (model prog w) A (pyIter (.ref r)) (fun it s₂ => ∃ I fp n P St news, it = .ref I ∧ CompGo prog w A h₀ L m env scope cl x ifs elt p FF P n news s₂ I St fp ∧
      (∀ D h' tk ys k (vs : List Value), Fr h₀ L h' (m' D) → News h₀ L h' ((D, listOf ys k) :: news) → (∀ p ∈ news, p.1 ≠ D) → vs.length = n → (∀ j v, vs[j]? = some v → P j v) → Paired FF (vs.filter p) ys.toList → RR s₂ D h' tk)) E s := by
  refine wpAny_pyIter_list (news_lst N hl) ?_
  have hI0 : h₀.get? s.heap.objs.size = none := next_is_new F
  have hIL : s.heap.objs.size ≠ L := Nat.ne_of_gt F.ns.lt
  have hr : r < s.heap.objs.size := Heap.lt_size (N _ hl).1
  have W := Walks.list (prog := prog) (w := w) (A := A) hh s.heap.objs.size r (Nat.ne_of_lt hr) its
  have N' : News h₀ L (s.heap.push { cls := .type "list_iterator", data := .fields #[.ref r, .int 0 0] }) news := fun p hp => ⟨Heap.get?_push_of_some _ (N p hp).1, (N p hp).2⟩
  refine ⟨s.heap.objs.size, _, its.size, _, _, news, rfl,
    ⟨W, hsz, ⟨⟨_, Heap.get?_push_size _ rfl, rfl, rfl⟩, news_lst N' hl⟩, ?_, F.push _, N', hIL, hI0,
      (fun p hp => Nat.ne_of_lt (Heap.lt_size (N p hp).1)), tests, elts⟩, ?_⟩
  · intro b hb
    rcases List.mem_cons.mp hb with rfl | hb
    · simp [Heap.size_push]
    · rw [List.mem_singleton.mp hb]
      simp only [Heap.size_push]
      exact Nat.lt_succ_of_lt hr
  · intro D h' tk ys k vs F' N' ne hl hP hpa
    have : vs = its.toList := by
      refine List.ext_getElem? fun j => ?_
      rcases Nat.lt_or_ge j vs.length with hj | hj
      · rw [List.getElem?_eq_getElem hj]
        have := hP j _ (List.getElem?_eq_getElem hj)
        rw [← this]; simp
      · rw [List.getElem?_eq_none hj, List.getElem?_eq_none (by simp; omega)]
    subst this
    exact h _ D h' tk ys k F' N' ne hpa

theorem compGo_str {scope : Scope} {cl : List (Str × Addr)} {x : Str} {ifs : List Expr} {elt : Expr} {p : Value → Bool} {FF : Value → Value → Prop} {m' : Addr → Str → Option Value} {RR : Shared → Addr → Heap → Nat → Prop} {news : Led} {y : Str} {t : Tok}
    (hh : A.handled = none) (hsz : y.cps.size ≤ sizeLine) (F : Fr h₀ L s.heap m) (N : News h₀ L s.heap news)
    (tests : ∀ C (i : Nat) v s₃ m₃ E', SignAt y i v → m₃ x = some v → Fr h₀ C s₃.heap m₃ → News h₀ C s₃.heap news →
      wpAny (model prog w) A (forIn ifs true fun c r => if r = true then do let ok ← isTrue c (compEnvC scope cl C env) (eval c (compEnvC scope cl C env)); pure (ForInStep.yield ok) else pure (ForInStep.yield r)) (fun ok s₄ => ok = p v ∧ Keeps s₃ s₄) E' s₃)
    (elts : ∀ C (i : Nat) v s₃ m₃ E', SignAt y i v → p v = true → m₃ x = some v → Fr h₀ C s₃.heap m₃ → News h₀ C s₃.heap news → wpAny (model prog w) A (eval elt (compEnvC scope cl C env)) (fun y s₄ => FF v y ∧ Keeps s₃ s₄) E' s₃)
    (h : ∀ hp D h' tk ys k (vs : List Value), Fr h₀ L h' (m' D) → News h₀ L h' ((D, listOf ys k) :: news) → (∀ p ∈ news, p.1 ≠ D) → vs.length = y.cps.size → (∀ j v, vs[j]? = some v → SignAt y j v) → Paired FF (vs.filter p) ys.toList → RR { s with heap := hp } D h' tk) :
    wpAny (model prog w) A (pyIter (.str y t)) (fun it s₂ => ∃ I fp n P St news, it = .ref I ∧ CompGo prog w A h₀ L m env scope cl x ifs elt p FF P n news s₂ I St fp ∧
      (∀ D h' tk ys k (vs : List Value), Fr h₀ L h' (m' D) → News h₀ L h' ((D, listOf ys k) :: news) → (∀ p ∈ news, p.1 ≠ D) → vs.length = n → (∀ j v, vs[j]? = some v → P j v) → Paired FF (vs.filter p) ys.toList → RR s₂ D h' tk)) E s := by
  refine wpAny_pyIter_str fun o St W st => ?_
  have hI0 : h₀.get? s.heap.objs.size = none := next_is_new F
  have hIL : s.heap.objs.size ≠ L := Nat.ne_of_gt F.ns.lt
  refine ⟨s.heap.objs.size, _, y.cps.size, _, _, news, rfl,
    ⟨W A hh, hsz, st, ?_, F.push _, fun p hp => ⟨Heap.get?_push_of_some _ (N p hp).1, (N p hp).2⟩, hIL, hI0,
      (fun p hp => Nat.ne_of_lt (Heap.lt_size (N p hp).1)), tests, elts⟩, ?_⟩
  · intro b hb
    rw [List.mem_singleton.mp hb]
    simp [Heap.size_push]
  · exact h _

/-- the tests -/
theorem tests_none {e : Env} {v : Value} {E' : Value → Shared → Prop} {s₃ : Shared} {b : Bool} (hb : b = true) :
    wpAny (model prog w) A (forIn ([] : List Expr) true fun c r => if r = true then do let ok ← isTrue c e (eval c e); pure (ForInStep.yield ok) else pure (ForInStep.yield r)) (fun ok s₄ => ok = b ∧ Keeps s₃ s₄) E' s₃ := by
  rw [hb]
  exact wpAny_pure ⟨rfl, s₃.heap, s₃.toks, rfl, fun _ _ e => e⟩
theorem tests_one {e : Env} {c : Expr} {Q : Bool → Shared → Prop} {E' : Value → Shared → Prop} {s₃ : Shared} (h : wpAny (model prog w) A (isTrue c e (eval c e)) Q E' s₃) :
    wpAny (model prog w) A (forIn [c] true fun c r => if r = true then do let ok ← isTrue c e (eval c e); pure (ForInStep.yield ok) else pure (ForInStep.yield r)) Q E' s₃ := by
  simp only [List.forIn_cons, List.forIn_nil, if_true]
  refine wpAny_bind (wpAny_bind (wpAny_mono h (fun ok s₄ h₄ => wpAny_pure (wpAny_pure h₄)) fun _ _ e => e))
end
end
/-! part B15 -/
set_option maxRecDepth 100000
section
open PySem PySem.W PyProof.Rows PySem.Calls PySem.Spec
local macro_rules | `(tactic| walk_at "st") => `(tactic| ((with_reducible show wpAny _ _ (eval (Expr.Name _ _) (compEnvC _ _ _ _)) _ _ _); first
      | refine nmCL (by assumption) (by assumption) ?_
      | refine nmCC (by assumption) rfl (by assumption) (by assumption) ?_))

theorem keptFrK {h₁ h₀ : Heap} {L : Addr} {m : Str → Option Value} {news : Led} : KeptH (fun h => Fr h₀ L h m ∧ News h₀ L h news ∧ ∀ b o, h₁.get? b = some o → h.get? b = some o) :=
  fun _ ob a => ⟨Fr.pushS a.1 ob, a.2.1.pushKeep ob, fun b o e => Heap.get?_push_of_some _ (a.2.2 b o e)⟩
section
variable {prog : Program} {w : World} {A : Around} {E : Value → Shared → Prop} {s : Shared} {value slice : Expr} {x : Str} {t : Tok} {h₀ : Heap} {L : Addr} {m : Str → Option Value} {news : Led} {Q : Value → Shared → Prop}
theorem slK_ns {j : Int} {uj : Tok} (hF : Fr h₀ L s.heap m) (hN : News h₀ L s.heap news) (h : ∀ h' t' k, Fr h₀ L h' m → News h₀ L h' news → (∀ b o, s.heap.get? b = some o → h'.get? b = some o) → Q (.str (Txt.slice x none (some j)) t') { s with heap := h', toks := k })
    (hs : subscripted slice false (.str x t) (.ref s.heap.objs.size) = operate [.ref s.heap.objs.size, .str x t] (getItem (.str x t) (.ref s.heap.objs.size)) := by with_unfolding_all rfl)
    (ht : ∀ r, letTemporaryGo value (.str x t) r = pure () := by intro _; with_unfolding_all rfl) (hsz : x.length ≤ sizeLine := by size_fits) :
    wpAny (model prog w) A (subscriptTail value slice (.str x t) (.ref s.heap.objs.size)) Q E { s with heap := s.heap.push { cls := .type "slice", data := .fields #[.none, .int j uj, .none] } } :=
  tail_of_ItemOn (SBH.sliceItem_ns (keptFrK (h₁ := s.heap)) ⟨hF, hN, fun _ _ e => e⟩ (fun h' t' k a => h h' t' k a.1 a.2.1 a.2.2) hsz) hs ht
theorem slK_sn {i : Int} {ui : Tok} (hF : Fr h₀ L s.heap m) (hN : News h₀ L s.heap news) (h : ∀ h' t' k, Fr h₀ L h' m → News h₀ L h' news → (∀ b o, s.heap.get? b = some o → h'.get? b = some o) → Q (.str (Txt.slice x (some i) none) t') { s with heap := h', toks := k })
    (hs : subscripted slice false (.str x t) (.ref s.heap.objs.size) = operate [.ref s.heap.objs.size, .str x t] (getItem (.str x t) (.ref s.heap.objs.size)) := by with_unfolding_all rfl)
    (ht : ∀ r, letTemporaryGo value (.str x t) r = pure () := by intro _; with_unfolding_all rfl) (hsz : x.length ≤ sizeLine := by size_fits) :
    wpAny (model prog w) A (subscriptTail value slice (.str x t) (.ref s.heap.objs.size)) Q E { s with heap := s.heap.push { cls := .type "slice", data := .fields #[.int i ui, .none, .none] } } :=
  tail_of_ItemOn (SBH.sliceItem_sn (keptFrK (h₁ := s.heap)) ⟨hF, hN, fun _ _ e => e⟩ (fun h' t' k a => h h' t' k a.1 a.2.1 a.2.2) hsz) hs ht
theorem slK_ss {i j : Int} {ui uj : Tok} (hF : Fr h₀ L s.heap m) (hN : News h₀ L s.heap news) (h : ∀ h' t' k, Fr h₀ L h' m → News h₀ L h' news → (∀ b o, s.heap.get? b = some o → h'.get? b = some o) → Q (.str (Txt.slice x (some i) (some j)) t') { s with heap := h', toks := k })
    (hs : subscripted slice false (.str x t) (.ref s.heap.objs.size) = operate [.ref s.heap.objs.size, .str x t] (getItem (.str x t) (.ref s.heap.objs.size)) := by with_unfolding_all rfl)
    (ht : ∀ r, letTemporaryGo value (.str x t) r = pure () := by intro _; with_unfolding_all rfl) (hsz : x.length ≤ sizeLine := by size_fits) :
    wpAny (model prog w) A (subscriptTail value slice (.str x t) (.ref s.heap.objs.size)) Q E { s with heap := s.heap.push { cls := .type "slice", data := .fields #[.int i ui, .int j uj, .none] } } :=
  tail_of_ItemOn (SBH.sliceItem_ss (keptFrK (h₁ := s.heap)) ⟨hF, hN, fun _ _ e => e⟩ (fun h' t' k a => h h' t' k a.1 a.2.1 a.2.2) hsz) hs ht
end

def fgP (S P : Str) (k : Nat) : Int := Txt.find S (Txt.item P (-(k : Int)))
def stepP (ls : List Int) (S P : Str) (p : Nat) : Nat → Nat
  | 0 => p
  | k + 1 => ls.countP (· < fgP S P (k + 1)) + (ls.take (stepP ls S P p k)).count (fgP S P (k + 1))
def valP (S P : Str) : Nat → Int
  | 0 => 0
  | k + 1 => valP S P k + fgP S P (k + 1) * 8 ^ k
def ringB (R P : Str) (k : Nat) (j : Int) : Bool := Txt.slice R (some j) (some (j + k)) == Txt.slice P (some (-(k : Int))) none

theorem comp_count {us : List Value} {n : Nat} (hl : us.length = n) (h : ∀ (j : Nat) v, us[j]? = some v → ∃ t, v = Value.int j t) (f : Int → Bool) :
    (us.filter (fun v => match v with | .int j _ => f j | _ => false)).length = (List.range n).countP (fun (j : Nat) => f (j : Int)) := by
  have e : us.map (fun v => match v with | .int j _ => f j | _ => false) = (List.range n).map (fun (j : Nat) => f (j : Int)) := by
    refine List.ext_getElem? fun j => ?_
    rw [List.getElem?_map, List.getElem?_map]
    rcases Nat.lt_or_ge j n with hj | hj
    · obtain ⟨v, hv⟩ : ∃ v, us[j]? = some v := ⟨_, List.getElem?_eq_getElem (by omega)⟩
      obtain ⟨t, rfl⟩ := h j v hv
      rw [hv, List.getElem?_range hj]
      rfl
    · rw [List.getElem?_eq_none (by omega), List.getElem?_eq_none (by simpa using hj)]
      rfl
  rw [← List.countP_eq_length_filter]
  have := congrArg (List.countP id) e
  rw [List.countP_map, List.countP_map] at this
  exact this
theorem ne_cls {o : Obj} {v : Option Value} (h : o.data = .cell v) : ¬ isIt o := by
  rintro ⟨x, y, rfl⟩
  cases h
set_option maxHeartbeats 4000000 in
theorem often {w : World} {mg mb : Str → Option Value} {news : Led} {lt ll : Addr} {ps : List (Int × Int)} {ls : List Int} {W P S : Str} {t1 t2 t3 : Tok} (hps : PairL news lt ps) (hr : Rising ps) (hpl : ps.length < 64) (hl : IntL news ll ls) (hz : ls.length < 64)
   (hW : W.length < 200) (hPl : P.length ≤ ls.length) (hfg : ∀ k, k < P.length → (fgP S P (k + 1)).natAbs < 2 ^ 40) (hval : ∀ k, k < P.length → (valP S P (k + 1)).natAbs < 2 ^ 40)
   (hlow : ∀ k, k < P.length → stepP ls S P 0 (k + 1) = ps.countP (plt · (valP S P (k + 1) * 8 ^ (ls.length - (k + 1)), 0)))
   (hhigh : ∀ k, k < P.length → stepP ls S P ls.length (k + 1) = ps.countP (plt · ((valP S P (k + 1) + 1) * 8 ^ (ls.length - (k + 1)), 0)))
   (hring : ∀ k, k < P.length → (stepP ls S P ls.length (k + 1) : Int) - stepP ls S P 0 (k + 1) = ((List.range ls.length).countP (fun (j : Nat) => ringB (W ++ W) P (k + 1) (j : Int)) : Nat)) :
    Sp w mg mb 150 [.ref lt, .ref ll, .str W t1, .str P t2, .str S t3] 4 40 news (fun r news' => (∀ q ∈ news, q ∈ news') ∧ ∃ t', r = .int ((stepP ls S P ls.length P.length : Int) - stepP ls S P 0 P.length) t') := by
  unfold Sp
  intro A h₀ L m s Q E G F N hd hu hh hQ
  refine callC (args := ⟨[.ref lt, .ref ll, .str W t1, .str P t2, .str S t3], []⟩) G F N (by k_is) (by k_is) (by omega) (fun _ => rfl) (by rfl) (by decide +kernel) rfl rfl rfl hQ ?_
  clear F N G hQ
  intro g L h₁ tk cells G F N hY hlt
  obtain ⟨o₁, o₂, o₃, rfl, d₁, d₂, d₃⟩ := CellsAre.three hY
  clear hY
  dsimp only [List.cons_append, List.nil_append] at N
  obtain ⟨vs, n, hm, hi⟩ := hl
  have hlen := hi.length
  repeat' walk_at "st"
  refine len_list (news_lst N (.tail _ (.tail _ (.tail _ hm)))) (by simp; omega) ?_
  repeat' walk_at "st"
  refine kso_sorted (by assumption) (by assumption) (news_lst (by assumption) (.tail _ (.tail _ (.tail _ hm)))) hi hz ?_
  intro D vs' ns' c h₂ F₂ N₂ hlt₂ hi₂ hlen₂ hperm hsort _
  clear F N
  repeat' walk_at "st"
  refine add_str ?_ (by simp [sizeLine]; omega)
  intro tr k₁
  dsimp only
  refine storeC (s := { s with heap := _, toks := k₁ }) (by assumption) (by assumption) rfl (.tail _ (.tail _ (.head _))) d₂ rfl rfl ?_
  intro h₃ o₂' F₃ N₃ d₂'
  have hk3 : (L + 1 + 1 + 1, o₁) ∈ upd ((D, listOf vs'.toArray c) :: (L + 1 + 1 + 1, o₁) :: (L + 1 + 1, o₂) :: (L + 1, o₃) :: news) (L + 1 + 1) o₂' := upd_mem (.tail _ (.head _)) (neN (by dsimp only; omega))
  have hr3 : (L + 1 + 1, o₂') ∈ upd ((D, listOf vs'.toArray c) :: (L + 1 + 1 + 1, o₁) :: (L + 1 + 1, o₂) :: (L + 1, o₃) :: news) (L + 1 + 1) o₂' := .head _
  have hp3 : (L + 1, o₃) ∈ upd ((D, listOf vs'.toArray c) :: (L + 1 + 1 + 1, o₁) :: (L + 1 + 1, o₂) :: (L + 1, o₃) :: news) (L + 1 + 1) o₂' := upd_mem (.tail _ (.tail _ (.tail _ (.head _)))) (neN (by dsimp only; omega))
  have hD3 : (D, listOf vs'.toArray c) ∈ upd ((D, listOf vs'.toArray c) :: (L + 1 + 1 + 1, o₁) :: (L + 1 + 1, o₂) :: (L + 1, o₃) :: news) (L + 1 + 1) o₂' := upd_mem (.head _) (Nat.ne_of_gt (hlt₂ _ (.tail _ (.head _))))
  have hn3 : ∀ q ∈ news, q ∈ upd ((D, listOf vs'.toArray c) :: (L + 1 + 1 + 1, o₁) :: (L + 1 + 1, o₂) :: (L + 1, o₃) :: news) (L + 1 + 1) o₂' := fun q hq => upd_mem (.tail _ (.tail _ (.tail _ (.tail _ hq)))) (by have := ltN (hlt _ hq); exact neN (by omega))
  have hDk : D ≠ L + 1 + 1 + 1 := Nat.ne_of_gt (hlt₂ _ (.head _))
  generalize upd ((D, listOf vs'.toArray c) :: (L + 1 + 1 + 1, o₁) :: (L + 1 + 1, o₂) :: (L + 1, o₃) :: news) (L + 1 + 1) o₂' = LED at N₃ hk3 hr3 hp3 hD3 hn3
  repeat' walk_at "st"
  refine len_str (by omega) ?_
  repeat' walk_at "st"
  refine iter_range (n := P.length) (fun i m nx => (∀ q ∈ news, ¬ isIt q.2 → q ∈ nx) ∧ (D, listOf vs'.toArray c) ∈ nx ∧ (∃ o v, (L + 1 + 1 + 1, o) ∈ nx ∧ o.data = .cell v) ∧ (L + 1 + 1, o₂') ∈ nx ∧ (L + 1, o₃) ∈ nx ∧
      ∃ ta tb tc tz, AllB m [(Str.ofString "turns", Value.ref lt), (Str.ofString "last", Value.ref ll), (Str.ofString "signs", Value.str S t3), (Str.ofString "size", Value.int ls.length tz), (Str.ofString "first", Value.ref D),
        (Str.ofString "low", Value.int (stepP ls S P 0 i : Nat) ta), (Str.ofString "high", Value.int (stepP ls S P ls.length i : Nat) tb), (Str.ofString "value", Value.int (valP S P i) tc)])
    ?_ hh (by assumption) (small_one (by omega) (by omega) (by omega) (by omega)) (by omega) (by assumption) (by assumption) ⟨fun q hq _ => hn3 q hq, hD3, ⟨_, _, hk3, d₁⟩, hr3, hp3, _, _, _, _, al_cons rfl (al_cons rfl (al_cons rfl (al_cons (by show some (Value.int _ _) = _; rw [List.size_toArray, hlen]) (al_cons rfl (al_cons rfl (al_cons (by show some (Value.int _ _) = _; rw [List.size_toArray, hlen]; rfl) (al_cons rfl al_nil)))))))⟩ (fun _ _ h => h) ?_ ?_
  · rintro i m nx nx' ⟨e1, e2, ⟨o, v, e3, e4⟩, e5, e6, e7⟩ hs
    exact ⟨fun q hq hc => hs q (e1 q hq hc) hc, hs _ e2 (not_it (by simp)), ⟨o, v, hs _ e3 (ne_cls e4), e4⟩, hs _ e5 (ne_cls d₂'), hs _ e6 (ne_cls d₃), e7⟩
  · rintro i t' m₁ nx h tk hin ⟨e1, e2, ⟨ok, vk, e3, e4⟩, e5, e6, ta, tb, tc, tz, hmm⟩ hold F₁ N₁
    have F := fr_named _ F₁ hmm
    clear F₁ hmm
    refine storeC F N₁ rfl e3 e4 rfl rfl ?_
    intro h₄ ok' F₄ N₄ dk'
    rw [show (1 : Int) + (i : Int) = ((i + 1 : Nat) : Int) by omega] at dk'
    have hks : (L + 1 + 1 + 1, ok') ∈ upd nx (L + 1 + 1 + 1) ok' := .head _
    have hrs : (L + 1 + 1, o₂') ∈ upd nx (L + 1 + 1 + 1) ok' := upd_mem e5 (neN (by dsimp only; omega))
    have hps' : (L + 1, o₃) ∈ upd nx (L + 1 + 1 + 1) ok' := upd_mem e6 (neN (by dsimp only; omega))
    have hDs : (D, listOf vs'.toArray c) ∈ upd nx (L + 1 + 1 + 1) ok' := upd_mem e2 hDk
    have hns : ∀ q ∈ news, ¬ isIt q.2 → q ∈ upd nx (L + 1 + 1 + 1) ok' := fun q hq hc => upd_mem (e1 q hq hc) (by have := ltN (hlt _ hq); exact neN (by omega))
    have hIts : ItK nx (upd nx (L + 1 + 1 + 1) ok') := fun p hp e => upd_mem hp fun q => by
      have h1 := (N₁ p hp).1
      rw [q, (N₁ _ e3).1] at h1
      rw [← Option.some.inj h1] at e
      exact ne_cls e4 e
    generalize upd nx (L + 1 + 1 + 1) ok' = LD at N₄ hks hrs hps' hDs hns hIts
    repeat' walk_at "st"
    refine GM.find ?_
    repeat' walk_at "st"
    refine neg_int ?_
    repeat' walk_at "st"
    refine item_str (by simp [fitsSsize]; omega) (by omega) (by omega) ?_
    intro _
    repeat' walk_at "st"
    refine SC.find ?_
    dsimp only
    rw [show Txt.find S (Txt.item P (-((i + 1 : Nat) : Int))) = fgP S P (i + 1) from rfl]
    repeat' walk_at "st"
    have hll : IntL LD ll ls := ⟨_, _, hns _ hm (not_it (by simp)), hi⟩
    refine led ⟨_, _, hDs, hi₂⟩ hll hsort (by omega) (by omega) _ _ _ _ _ _ _ G (by assumption) (by assumption) (by show A.depth + 1 + 2 < _; omega) (by show A.units + 3 + 16 < _; omega) hh ?_
    rintro rv news₅ h₅ tk₅ F₅ N₅ ⟨hs₅, t₅, rfl⟩
    have N₅' : News g L h₅ LD := fun p hp => N₅ p (hs₅ p hp)
    clear N₅ hs₅
    rw [hperm.countP_eq, show List.countP (fun x => decide (x < fgP S P (i + 1))) ls + List.count (fgP S P (i + 1)) (List.take (stepP ls S P 0 i) ls) = stepP ls S P 0 (i + 1) from rfl]
    repeat' walk_at "st"
    refine led ⟨_, _, hDs, hi₂⟩ hll hsort (by omega) (by omega) _ _ _ _ _ _ _ G (by assumption) (by assumption) (by show A.depth + 1 + 2 < _; omega) (by show A.units + 3 + 16 < _; omega) hh ?_
    rintro rv news₆ h₆ tk₆ F₆ N₆ ⟨hs₆, t₆, rfl⟩
    have N₆' : News g L h₆ LD := fun p hp => N₆ p (hs₆ p hp)
    clear N₆ hs₆
    rw [hperm.countP_eq, show List.countP (fun x => decide (x < fgP S P (i + 1))) ls + List.count (fgP S P (i + 1)) (List.take (stepP ls S P ls.length i) ls) = stepP ls S P ls.length (i + 1) from rfl]
    repeat' walk_at "st"
    refine pow_int_small (by omega) (by omega) (by decide) ?_
    have hfi := hfg i hin
    have hvi := hval i hin
    refine mul_int ?_ (mulOk_small (by omega))
    repeat' walk_at "st"
    dsimp only
    rw [show (((i + 1 : Nat) : Int) - 1).toNat = i by omega]
    refine iadd_int ?_
    dsimp only
    rw [show valP S P i + fgP S P (i + 1) * 8 ^ i = valP S P (i + 1) from rfl]
    repeat' walk_at "st"
    dsimp only
    refine pow_int_small (by omega) (by omega) (by decide) ?_
    dsimp only
    rw [show ((ls.length : Int) - ((i + 1 : Nat) : Int)).toNat = ls.length - (i + 1) by omega]
    refine mul_int ?_ (mulOk_small (by omega))
    repeat' walk_at "st"
    dsimp only
    refine newTuple_K (by assumption) (by assumption) ?_
    intro T h₇ F₇ N₇ hT₇
    repeat' walk_at "st"
    have hpp : PairL LD lt ps := by
      obtain ⟨pv, pc, hp1, hp2⟩ := hps
      exact ⟨pv, pc, hns _ hp1 (not_it (by simp)), hp2.mono' fun a o ha hc => hns _ ha (not_it (by simp [hc]))⟩
    have hpp₇ : ∀ x, PairL (x :: LD) lt ps := by
      obtain ⟨pv, pc, hp1, hp2⟩ := hpp
      exact fun x => ⟨pv, pc, .tail _ hp1, hp2.mono' fun a o ha hc => .tail _ ha⟩
    refine bl_pair (q := (valP S P (i + 1) * 8 ^ (ls.length - (i + 1)), 0)) (hpp₇ _) ⟨T, _, _, _, rfl, .head _⟩ hr (by omega) _ _ _ _ _ _ _ G (by assumption) (by assumption) (by show A.depth + 1 + 1 < _; omega) (by show A.units + 3 + 8 < _; omega) hh ?_
    rintro rv news₈ h₈ tk₈ F₈ N₈ ⟨rfl, t₈, rfl⟩
    have N₈' : News g L h₈ LD := fun p hp => N₈ p (.tail _ hp)
    clear N₈ N₇ F₇
    rw [← hlow i hin]
    repeat' walk_at "st"
    refine if_neg' (by simp) ?_
    repeat' walk_at "st"
    dsimp only
    refine pow_int_small (by omega) (by omega) (by decide) ?_
    dsimp only
    rw [show ((ls.length : Int) - ((i + 1 : Nat) : Int)).toNat = ls.length - (i + 1) by omega]
    refine mul_int ?_ (mulOk_small (by omega))
    repeat' walk_at "st"
    dsimp only
    refine newTuple_K (by assumption) (by assumption) ?_
    intro T₂ h₉ F₉ N₉ hT₉
    repeat' walk_at "st"
    refine bl_pair (q := ((valP S P (i + 1) + 1) * 8 ^ (ls.length - (i + 1)), 0)) (hpp₇ _) ⟨T₂, _, _, _, rfl, .head _⟩ hr (by omega) _ _ _ _ _ _ _ G (by assumption) (by assumption) (by show A.depth + 1 + 1 < _; omega) (by show A.units + 3 + 8 < _; omega) hh ?_
    rintro rv news₁₀ h₁₀ tk₁₀ F₁₀ N₁₀ ⟨rfl, t₁₀, rfl⟩
    have N₁₀' : News g L h₁₀ LD := fun p hp => N₁₀ p (.tail _ hp)
    clear N₁₀ N₉ F₉
    rw [← hhigh i hin]
    repeat' walk_at "st"
    refine if_neg' (by simp) ?_
    repeat' walk_at "st"
    dsimp only
    refine listComp_K (h₀ := g) (L := L) (by assumption) (fun v => match v with | .int j _ => ringB (W ++ W) P (i + 1) j | _ => false) (fun _ _ => True) (by rfl) (by decide +kernel) rfl (by decide +kernel) (by decide +kernel) ?_
    repeat' walk_at "st"
    dsimp only
    refine compGo_range (n := ls.length) hh (by assumption) (by rfl) (by omega) (by assumption) (by assumption) ?_ ?_ ?_
    · intro C j tv s₃ m₃ E' hj hmx F' N'
      refine tests_one ?_
      repeat' walk_at "st"
      dsimp only
      refine slK_ss (s := { s₃ with toks := s₃.toks + 1 }) F' N' ?_ (hsz := by rw [Str.length_append]; simp [sizeLine]; omega)
      intro h₁₂ t₁₂ k₁₂ F₁₂ N₁₂ K₁₂
      repeat' walk_at "st"
      refine neg_int ?_
      repeat' walk_at "st"
      dsimp only
      refine slK_sn (s := { s₃ with heap := h₁₂, toks := k₁₂ + 1 }) F₁₂ N₁₂ ?_ (hsz := by simp [sizeLine]; omega)
      intro h₁₃ t₁₃ k₁₃ F₁₃ N₁₃ K₁₃
      repeat' walk_at "st"
      refine eq_str ?_
      repeat' walk_at "st"
      exact ⟨rfl, h₁₃, k₁₃, rfl, fun b o e => K₁₃ b o (K₁₂ b o e)⟩
    · intro C j tv s₃ m₃ E' hj hmx hpv F' N'
      refine nmCL F' (by assumption) ?_
      exact ⟨trivial, s₃.heap, s₃.toks, rfl, fun _ _ e => e⟩
    · intro hp₁₁ D₂ h₁₁ tk₁₁ ys kk us F₁₁ N₁₁ hne hul hus hpa
      repeat' walk_at "st"
      refine len_list (news_lst N₁₁ (.head _)) ?_ ?_
      · have h1 := hpa.length
        have h2 := List.length_filter_le (fun v => match v with | .int j _ => ringB (W ++ W) P (i + 1) j | _ => false) us
        have h3 : ys.toList.length = ys.size := Array.length_toList
        rw [← h1] at h3
        have h4 : ys.size ≤ us.length := by rw [← h3]; exact h2
        omega
      · have hfin : ys.size = (List.range ls.length).countP (fun (j : Nat) => ringB (W ++ W) P (i + 1) (j : Int)) := by
          rw [← comp_count hul hus, hpa.length, Array.length_toList]
        rw [hfin]
        repeat' walk_at "st"
        dsimp only
        rw [hring i hin]
        refine if_neg' (by simp) ?_
        repeat' walk_at "st"
        refine ⟨_, _, _, _, rfl, F₁₁, N₁₁, fun p hp e => .tail _ (hIts p hp e), fun q hq hc => .tail _ (hns q hq hc), .tail _ hDs, ⟨_, _, .tail _ hks, dk'⟩, .tail _ hrs, .tail _ hps', _, _, _, _, al_cons rfl (al_cons rfl (al_cons rfl (al_cons rfl (al_cons rfl (al_cons rfl (al_cons rfl (al_cons rfl al_nil)))))))⟩
  · rintro m₁ nx h tk ⟨e1, e2, ⟨ok, vk, e3, e4⟩, e5, e6, ta, tb, tc, tz, hmm⟩ hold F₁ N₁
    have F := fr_named _ F₁ hmm
    clear F₁ hmm
    repeat' walk_at "st"
    refine ⟨_, _, _, _, _, rfl, F, N₁, rfl, fun q hq => ?_, _, rfl⟩
    by_cases hc : isIt q.2
    · exact hold q (hn3 q hq) hc
    · exact e1 q hq hc
end
/-! part M2 -/
section
open PySem

theorem num_eq (n B : Nat) : ∀ k, num n B k = num8 n B k
  | 0 => rfl
  | k + 1 => by rw [num, num8, num_eq n B k]; rfl
theorem shift_perm {α : Type} (g : Nat → α) (n : Nat) (h : g n = g 0) : ((List.range n).map fun k => g (k + 1)).Perm ((List.range n).map g) := by
  have e : g 0 :: (List.range n).map (fun k => g (k + 1)) = (List.range n).map g ++ [g n] := by
    have e1 := congrArg (List.map g) (List.range_succ_eq_map (n := n))
    rw [List.range_succ, List.map_append] at e1
    rw [show List.map g [n] = [g n] from rfl] at e1
    rw [e1, List.map_cons, List.map_map]; rfl
  have p : (g 0 :: (List.range n).map (fun k => g (k + 1))).Perm (g 0 :: (List.range n).map g) := by
    rw [e, h]
    exact List.perm_append_comm
  exact (List.perm_cons _).mp p

/-- what the row of turns is -/
structure Row (f : List Nat) (m : Nat) (V : List Nat) (ps : List (Int × Int)) : Prop where
  len : V.length = m + 1
  sorted : V.Pairwise (· ≤ ·)
  lt : ∀ v ∈ V, v < 8 ^ (m + 1)
  turn : (V.map (rho m)).Perm V
  ps : ps = V.map fun (v : Nat) => ((v : Int), ((v % 8 : Nat) : Int))
  rots : V.Perm ((List.range (m + 1)).map fun k => val8 (rot f k))

theorem row_of {f : List Nat} {m : Nat} {ps : List (Int × Int)} (hf : ∀ d ∈ f, d < 8) (hn : f.length = m + 1) (hr : Rising ps) (hp : ps.Perm ((List.range (m + 1)).map (prT (m + 1) (val8 f)))) :
    ∃ V, Row f m V ps := by
  have hB : val8 f < 8 ^ (m + 1) := by rw [← hn]; exact val8_lt f hf
  have hlt : ∀ k, num (m + 1) (val8 f) k < 8 ^ (m + 1) := num_lt (by omega) hB
  have hpr : ∀ k, prT (m + 1) (val8 f) k = (((num (m + 1) (val8 f) (k + 1) : Nat) : Int), ((num (m + 1) (val8 f) (k + 1) % 8 : Nat) : Int)) := fun k => by
    unfold prT
    have := nxt8_last m _ (hlt k)
    rw [← this]; rfl
  have hmem : ∀ p ∈ ps, p = (((p.1.toNat : Nat) : Int), ((p.1.toNat % 8 : Nat) : Int)) ∧ p.1.toNat < 8 ^ (m + 1) := fun p h => by
    obtain ⟨k, hk, e⟩ := List.mem_map.mp (hp.mem_iff.mp h)
    rw [hpr] at e
    subst e
    simp only [Int.toNat_natCast]
    exact ⟨trivial, hlt _⟩
  have hV : (ps.map fun p => p.1.toNat).Perm ((List.range (m + 1)).map fun k => num (m + 1) (val8 f) (k + 1)) := by
    refine (hp.map _).trans ?_
    rw [List.map_map]
    refine List.Perm.of_eq (List.map_congr_left fun k _ => ?_)
    simp only [Function.comp]
    rw [hpr]
    simp
  have hround : num (m + 1) (val8 f) (m + 1) = num (m + 1) (val8 f) 0 := by
    rw [num_eq]
    have := num8_round f hf
    rw [hn] at this
    exact this
  have hV0 : (ps.map fun p => p.1.toNat).Perm ((List.range (m + 1)).map fun k => num (m + 1) (val8 f) k) := hV.trans (shift_perm _ _ hround)
  refine ⟨ps.map fun p => p.1.toNat, ?_, ?_, ?_, ?_, ?_, ?_⟩
  · rw [List.length_map, hp.length_eq]; simp
  · rw [List.pairwise_map]
    refine List.Pairwise.imp_of_mem ?_ hr
    intro a b ha hb hab
    have h1 := (hmem a ha).1
    have h2 := (hmem b hb).1
    rw [h1, h2] at hab
    simp only [plt, decide_eq_false_iff_not] at hab
    omega
  · intro v hv
    obtain ⟨p, hp', rfl⟩ := List.mem_map.mp hv
    exact (hmem p hp').2
  · refine ((hV.map (rho m)).trans ?_).trans hV0.symm
    rw [List.map_map]
    refine List.Perm.of_eq (List.map_congr_left fun k _ => ?_)
    exact rho_nxt m _ (hlt k)
  · rw [List.map_map]
    conv => lhs; rw [← List.map_id ps]
    exact List.map_congr_left fun p h => (hmem p h).1
  · refine hV0.trans (List.Perm.of_eq (List.map_congr_left fun k hk => ?_))
    rw [num_eq]
    have := num8_rot f hf k (by rw [hn]; exact Nat.le_of_lt (List.mem_range.mp hk))
    rw [hn] at this
    exact this

section
variable {f : List Nat} {m : Nat} {V : List Nat} {ps : List (Int × Int)}
def lastI (V : List Nat) : List Int := V.map fun (v : Nat) => ((v % 8 : Nat) : Int)
theorem Row.last (R : Row f m V ps) : ps.map (·.2) = lastI V := by rw [R.ps, List.map_map]; rfl
theorem lastI_len : (lastI V).length = V.length := by simp [lastI]
theorem lastI_countP (c : Nat) : (lastI V).countP (· < (c : Int)) = (V.map (· % 8)).countP (· < c) := by
  rw [lastI, List.countP_map, List.countP_map]
  refine List.countP_congr fun v _ => ?_
  simp only [Function.comp, decide_eq_true_eq]; omega
theorem lastI_count (c p : Nat) : ((lastI V).take p).count (c : Int) = ((V.map (· % 8)).take p).count c := by
  rw [lastI, ← List.map_take, ← List.map_take, List.count, List.count, List.countP_map, List.countP_map]
  refine List.countP_congr fun v _ => ?_
  simp only [Function.comp, beq_iff_eq]; omega
theorem Row.cnt (R : Row f m V ps) (x : Nat) : ps.countP (plt · ((x : Int), 0)) = V.countP (· < x) := by
  rw [R.ps, List.countP_map]
  refine List.countP_congr fun v _ => ?_
  simp only [Function.comp, plt, decide_eq_true_eq]; omega

/-! heard -/
theorem Row.go (R : Row f m V ps) {p x : Nat} (hx : V[p]? = some x) : V[ledP (lastI V) p]? = some (rho m x) := by
  have e : (lastI V).getD p 0 = ((x % 8 : Nat) : Int) := by
    rw [lastI, List.getD_eq_getElem?_getD, List.getElem?_map, hx]; rfl
  unfold ledP
  rw [e, lastI_countP, lastI_count]
  exact lf R.sorted R.lt R.turn hx
theorem rho_rot (hf : ∀ d ∈ f, d < 8) (hn : f.length = m + 1) (k : Nat) (hk : k < m + 1) : rho m (val8 (rot f (k + 1))) = val8 (rot f k) := by
  have h1 := num8_rot f hf k (by omega)
  have h2 := num8_rot f hf (k + 1) (by omega)
  rw [hn] at h1 h2
  rw [← h1, ← h2]
  refine rho_nxt m _ ?_
  rw [h1]
  have := val8_lt (rot f k) fun d hd => hf d (rot_mem f k d hd)
  rw [rot_len f k (by omega), hn] at this
  exact this
theorem rot_last (hf : ∀ d ∈ f, d < 8) (k : Nat) (hk : k < f.length) : val8 (rot f (k + 1)) % 8 = f[k] := by
  rw [(rot_split f k hk).2, val8_append]
  simp only [val8, List.length_cons, List.length_nil, Nat.pow_zero, Nat.mul_one, Nat.add_zero]
  have := hf f[k] (List.getElem_mem hk)
  show (_ * 8 ^ 1 + f[k]) % 8 = f[k]
  rw [Nat.pow_one]
  exact fig_mod _ _ this
theorem Row.start (R : Row f m V ps) : V[V.countP (· < val8 f)]? = some (val8 f) := by
  have hmem : val8 f ∈ V := R.rots.mem_iff.mpr (List.mem_map.mpr ⟨0, by simp, by simp [rot]⟩)
  refine sorted_at R.sorted (Nat.le_refl _) ?_
  have e : V.countP (· < val8 f + 1) = V.countP (· < val8 f) + V.countP (· == val8 f) := by
    refine countP_or _ _ _ V (fun v _ => ?_) (fun v _ h => ?_)
    · rw [Bool.eq_iff_iff]; simp; omega
    · simp at h ⊢; omega
  rw [e]
  have : 0 < V.countP (· == val8 f) := List.countP_pos_iff.mpr ⟨_, hmem, by simp⟩
  omega
theorem Row.gone (R : Row f m V ps) (hf : ∀ d ∈ f, d < 8) (hn : f.length = m + 1) : ∀ i, i ≤ m + 1 → V[goP (lastI V) (V.countP (· < val8 f)) i]? = some (val8 (rot f (m + 1 - i)))
  | 0, _ => by
    have : rot f (m + 1) = f := by rw [← hn]; simp [rot]
    rw [goP, Nat.sub_zero, this]
    exact R.start
  | i + 1, h => by
    rw [goP, R.go (R.gone hf hn i (by omega)), show m + 1 - i = (m + 1 - (i + 1)) + 1 by omega, rho_rot hf hn _ (by omega)]
theorem Row.goP_lt (R : Row f m V ps) (hf : ∀ d ∈ f, d < 8) (hn : f.length = m + 1) (i : Nat) (hi : i < (lastI V).length) : goP (lastI V) (ps.countP (plt · ((val8 f : Nat), 0))) i < (lastI V).length := by
  rw [lastI_len, R.len] at *
  rw [R.cnt]
  have := R.gone hf hn i (by omega)
  have h2 := (List.getElem?_eq_some_iff.mp this).1
  rw [R.len] at h2
  exact h2
theorem Row.heard (R : Row f m V ps) (hf : ∀ d ∈ f, d < 8) (hn : f.length = m + 1) : (heardL (lastI V) (ps.countP (plt · ((val8 f : Nat), 0))) (lastI V).length).reverse = f.map fun (d : Nat) => (d : Int) := by
  rw [lastI_len, R.len, R.cnt]
  refine List.ext_getElem? fun j => ?_
  rcases Nat.lt_or_ge j (m + 1) with hj | hj
  · have hl : (heardL (lastI V) (V.countP (· < val8 f)) (m + 1)).length = m + 1 := by simp [heardL]
    rw [List.getElem?_reverse (by omega), hl, List.getElem?_map, List.getElem?_eq_getElem (by omega : j < f.length)]
    have hi : m + 1 - 1 - j < m + 1 := by omega
    unfold heardL
    rw [List.getElem?_map, List.getElem?_range hi]
    have h1 := R.gone hf hn (m + 1 - 1 - j) (by omega)
    rw [show m + 1 - (m + 1 - 1 - j) = j + 1 by omega] at h1
    have e : (lastI V).getD (goP (lastI V) (V.countP (· < val8 f)) (m + 1 - 1 - j)) 0 = ((val8 (rot f (j + 1)) % 8 : Nat) : Int) := by
      generalize goP (lastI V) (V.countP (· < val8 f)) (m + 1 - 1 - j) = q at h1
      rw [List.getD_eq_getElem?_getD, lastI, List.getElem?_map, h1]
      rfl
    simp only [Option.map_some]
    rw [e, rot_last hf j (by omega)]
  · rw [List.getElem?_eq_none (by simp [heardL]; omega), List.getElem?_eq_none (by simp; omega)]

/-! the pattern's steps -/
def pstep (V g : List Nat) (p : Nat) : Nat → Nat
  | 0 => p
  | k + 1 => (V.map (· % 8)).countP (· < g.getD k 0) + ((V.map (· % 8)).take (pstep V g p k)).count (g.getD k 0)
def pval (g : List Nat) : Nat → Nat
  | 0 => 0
  | k + 1 => pval g k + g.getD k 0 * 8 ^ k
theorem getD_lt {g : List Nat} (hg : ∀ d ∈ g, d < 8) (k : Nat) : g.getD k 0 < 8 := by
  rw [List.getD_eq_getElem?_getD]
  cases h : g[k]? with
  | none => simp
  | some d => exact hg d (List.mem_of_getElem? h)
theorem pval_lt {g : List Nat} (hg : ∀ d ∈ g, d < 8) : ∀ k, pval g k < 8 ^ k
  | 0 => by simp [pval]
  | k + 1 => by
    have h1 := pval_lt hg k
    have h2 : g.getD k 0 * 8 ^ k ≤ 7 * 8 ^ k := Nat.mul_le_mul_right _ (by have := getD_lt hg k; omega)
    rw [pval, Nat.pow_succ]; omega
theorem step_arith (m k c x : Nat) (hk : k < m + 1) : x * 8 ^ (m + 1 - k) = 8 * (x * 8 ^ (m - k)) ∧ c * 8 ^ m + x * 8 ^ (m - k) = (x + c * 8 ^ k) * 8 ^ (m + 1 - (k + 1)) := by
  have e1 : 8 ^ (m + 1 - k) = 8 ^ (m - k) * 8 := by rw [← Nat.pow_succ]; congr 1; omega
  have e2 : 8 ^ m = 8 ^ k * 8 ^ (m - k) := by rw [← Nat.pow_add]; congr 1; omega
  constructor
  · rw [e1, ← Nat.mul_assoc, Nat.mul_comm]
  · rw [show m + 1 - (k + 1) = m - k by omega, Nat.add_mul, e2, ← Nat.mul_assoc, Nat.add_comm]
theorem le_arith (m k x : Nat) (hk : k < m + 1) (hx : x ≤ 8 ^ k) : x * 8 ^ (m - k) ≤ 8 ^ m := by
  have e2 : 8 ^ m = 8 ^ k * 8 ^ (m - k) := by rw [← Nat.pow_add]; congr 1; omega
  rw [e2]
  exact Nat.mul_le_mul_right _ hx
theorem Row.low (R : Row f m V ps) {g : List Nat} (hg : ∀ d ∈ g, d < 8) : ∀ k, k ≤ m + 1 → pstep V g 0 k = V.countP (· < pval g k * 8 ^ (m + 1 - k))
  | 0, _ => by
    simp [pstep, pval]
  | k + 1, h => by
    obtain ⟨e1, e2⟩ := step_arith m k (g.getD k 0) (pval g k) (by omega)
    rw [pstep, R.low hg k (by omega), e1, led_cnt R.sorted R.lt R.turn (le_arith m k _ (by omega) (Nat.le_of_lt (pval_lt hg k))), e2, pval]
theorem Row.high (R : Row f m V ps) {g : List Nat} (hg : ∀ d ∈ g, d < 8) : ∀ k, k ≤ m + 1 → pstep V g (m + 1) k = V.countP (· < (pval g k + 1) * 8 ^ (m + 1 - k))
  | 0, _ => by
    simp only [pstep, pval, Nat.zero_add, Nat.one_mul, Nat.sub_zero]
    rw [← R.len]
    symm
    rw [List.countP_eq_length]
    intro v hv
    have := R.lt v hv
    rw [R.len]
    simpa using this
  | k + 1, h => by
    obtain ⟨e1, e2⟩ := step_arith m k (g.getD k 0) (pval g k + 1) (by omega)
    have hp := pval_lt hg k
    rw [pstep, R.high hg k (by omega), e1, led_cnt R.sorted R.lt R.turn (le_arith m k _ (by omega) hp), e2, pval, Nat.add_right_comm]
theorem Row.between (R : Row f m V ps) (hf : ∀ d ∈ f, d < 8) (hn : f.length = m + 1) {g : List Nat} (hg : ∀ d ∈ g, d < 8) (k : Nat) (hk : k ≤ m + 1) :
    pstep V g (m + 1) k = pstep V g 0 k + (List.range (m + 1)).countP (fun j => val8 ((rot f j).take k) == pval g k) := by
  rw [R.high hg k hk, R.low hg k hk]
  have e : V.countP (fun v => v / 8 ^ (m + 1 - k) == pval g k) = (List.range (m + 1)).countP (fun j => val8 ((rot f j).take k) == pval g k) := by
    rw [R.rots.countP_eq, List.countP_map]
    refine List.countP_congr fun j hj => ?_
    simp only [Function.comp]
    have hj' := List.mem_range.mp hj
    have h1 := val8_take (rot f j) (fun d hd => hf d (rot_mem f j d hd)) k
    rw [rot_len f j (by omega), hn] at h1
    rw [h1]
  rw [← e]
  refine countP_or _ _ _ V (fun v _ => ?_) (fun v _ h => ?_)
  · have hp : 0 < 8 ^ (m + 1 - k) := Nat.pow_pos (by decide)
    rw [Bool.eq_iff_iff]
    simp only [decide_eq_true_eq, Bool.or_eq_true, beq_iff_eq]
    rw [Nat.div_eq_iff hp, Nat.add_mul]
    omega
  · have hp : 0 < 8 ^ (m + 1 - k) := Nat.pow_pos (by decide)
    simp only [decide_eq_true_eq] at h
    simp only [beq_eq_false_iff_ne, ne_eq]
    rw [Nat.div_eq_iff hp]
    omega
/-- the pattern's value, by its signs from the end -/
theorem pval_rev (g : List Nat) : ∀ k, k ≤ g.length → pval g k = val8 (g.take k).reverse
  | 0, _ => by simp [pval, val8]
  | k + 1, h => by
    rw [pval, pval_rev g k (by omega), List.take_succ_eq_append_getElem (by omega), List.reverse_append]
    have e : g.getD k 0 = g[k] := by simp [List.getD_eq_getElem?_getD, List.getElem?_eq_getElem (by omega : k < g.length)]
    rw [e]
    simp only [List.reverse_cons, List.reverse_nil, List.nil_append, List.cons_append, val8, List.length_reverse, List.length_take]
    rw [Nat.min_eq_left (by omega), Nat.add_comm]
theorem rot_ring (f : List Nat) (j k : Nat) (hj : j ≤ f.length) (hk : k ≤ f.length) : (rot f j).take k = ((f ++ f).drop j).take k := by
  rw [rot, List.drop_append_of_le_length hj, List.take_append, List.take_append, List.take_take]
  congr 2
  simp; omega
/-- on the ring -/
theorem Row.ring (R : Row f m V ps) (hf : ∀ d ∈ f, d < 8) (hn : f.length = m + 1) {pf : List Nat} (hg : ∀ d ∈ pf, d < 8) (k : Nat) (hk : k ≤ m + 1) (hkp : k ≤ pf.length) :
    pstep V pf.reverse (m + 1) k = pstep V pf.reverse 0 k + (List.range (m + 1)).countP (fun j => ((f ++ f).drop j).take k == pf.drop (pf.length - k)) := by
  have hgr : ∀ d ∈ pf.reverse, d < 8 := fun d hd => hg d (List.mem_reverse.mp hd)
  rw [R.between hf hn hgr k hk]
  congr 1
  refine List.countP_congr fun j hj => ?_
  have hj' := List.mem_range.mp hj
  rw [pval_rev _ k (by simpa using hkp), List.take_reverse, List.reverse_reverse, rot_ring f j k (by omega) (by omega), beq_iff_eq, beq_iff_eq]
  constructor
  · intro h
    refine val8_inj _ _ ?_ (fun d hd => ?_) (fun d hd => hg d (List.mem_of_mem_drop hd)) h
    · simp; omega
    · have := List.mem_of_mem_drop (List.mem_of_mem_take hd)
      rcases List.mem_append.mp this with h | h <;> exact hf d h
  · intro h; rw [h]
end
end
/-! part B16 -/
set_option maxRecDepth 100000
section
open PySem PySem.W PyProof.Rows PySem.Calls PySem.Spec

section facts
open PySem.F
theorem slot_pat_sub : Slot "re.Pattern" "sub" "re.Pattern.sub" :=
  .of (owner := "re.Pattern") (n := "sub") (by rw [typeLookup_type, builtinLookup_eq_fast]; kernel_rfl) (by decide +kernel) (by decide +kernel) (by decide +kernel)
    (by first | exact .inl (by decide +kernel) | exact .inr (by decide +kernel)) (by rw [isSubtype_type]; kernel_rfl)
theorem type_pat_sub : typeOf (.builtin "re.Pattern.sub") = pure (.type "method_descriptor") := by show builtinType _ = _; rw [builtinType_eq_fast]; kernel_rfl
theorem entry_pat_sub : entryFor table "re.Pattern.sub" = some Builtin.«re.Pattern.sub» := entryFor_of_tree (by kernel_rfl)
theorem entry_pat_loop : entryFor table "re.Pattern.sub.loop" = some Builtin.«re.Pattern.sub.loop» := entryFor_of_tree (by kernel_rfl)
theorem plain_pat_loop : plainId "re.Pattern.sub.loop" = true := by decide +kernel
theorem plainAttrs_pat : PlainAttrs "re.Pattern" :=
  ⟨⟨"object.__getattribute__", by rw [typeLookup_type, builtinLookup_eq_fast]; kernel_rfl, by decide +kernel⟩, by rw [typeLookup_type, builtinLookup_eq_fast]; kernel_rfl⟩
theorem owner_pat : Manifest.owners.lookup (String.ofList ['n', 'r', 'e', 't', 't', 'a', 'P', '.', 'e', 'r'].reverse) = some (Manifest.sig_re_Pattern) := by kernel_rfl
theorem args_pat_sub (a b c : Value) : argsOk "re.Pattern.sub" ⟨[a, b, c], []⟩ := by
  unfold argsOk; rw [signature?_of (id := "re.Pattern.sub") (n := ['b', 'u', 's']) (o := ['n', 'r', 'e', 't', 't', 'a', 'P', '.', 'e', 'r']) (by kernel_rfl) owner_pat]; kernel_rfl
theorem str_nocall : typeLookup (.type "str") "__call__" = pure none := by rw [typeLookup_type, builtinLookup_eq_fast]; kernel_rfl
end facts

section
variable {M : Model} {A : Around} {E : Value → Shared → Prop} {s : Shared}
theorem forIn_quiet {α : Type} {l : List α} {f : α → PUnit → Sem (ForInStep PUnit)} {Q : PUnit → Shared → Prop} (hf : ∀ i (Q : ForInStep PUnit → Shared → Prop), Q (ForInStep.yield ⟨⟩) s → wpAny M A (f i ⟨⟩) Q E s) (h : Q ⟨⟩ s) : wpAny M A (forIn l ⟨⟩ f) Q E s := by
  induction l with
  | nil => exact wpAny_pure h
  | cons a l ih =>
    rw [List.forIn_cons]
    exact wpAny_bind (hf a _ ih)
theorem drive {Q : Sre.M → Shared → Prop} : ∀ (turns k : Nat) (m m' : Sre.M), Sre.M.runFor k m = m' → m'.outcome.isSome = true → k < 4 * turns → Q m' s → wpAny M A (Builtin.Re.reDrive turns m) Q E s
  | 0, _, _, _, _, _, h, _ => by omega
  | t + 1, k, m, m', hr, ho, hk, hq => by
    rw [Builtin.Re.reDrive]
    show wpAny M A (if (Sre.M.runFor 4 m).outcome.isSome = true then pure (Sre.M.runFor 4 m) else (rule "sre.turn" >>= fun _ => Builtin.Re.reDrive t (Sre.M.runFor 4 m))) Q E s
    by_cases h4 : k ≤ 4
    · have e : Sre.M.runFor 4 m = m' := by
        rw [show 4 = k + (4 - k) by omega, runFor_add, hr, runFor_some _ _ ho]
      rw [e, if_pos ho]
      exact wpAny_pure hq
    · have e : Sre.M.runFor (k - 4) (Sre.M.runFor 4 m) = m' := by
        rw [← runFor_add, show 4 + (k - 4) = k by omega, hr]
      by_cases h5 : (Sre.M.runFor 4 m).outcome.isSome = true
      · rw [runFor_some _ _ h5] at e
        rw [if_pos h5, e]
        exact wpAny_pure hq
      · rw [if_neg h5]
        exact wpAny_bind (wpAny_rule (drive t (k - 4) _ m' e ho (by omega) hq))
theorem runEnd {k : Nat} {m : Sre.M} {P : Sre.M → Prop} {Q : Option Sre.M → Shared → Prop} (h : Runs k m P) (hk : k < 2 ^ 30)
    (hq : ∀ m', P m' → wpAny M A (match m'.outcome with
      | some .matched => pure (some m')
      | some .failed => pure none
      | some (.stuck why) => unsupported s!"_sre:{why}"
      | none => unsupported "internal:sre:no-outcome") Q E s) : wpAny M A (Builtin.Re.reRunToEnd m) Q E s := by
  obtain ⟨m', e, ho, hP⟩ := h
  unfold Builtin.Re.reRunToEnd
  refine wpAny_bind (drive (2 ^ 64) k m m' e ho (by omega) ?_)
  refine wpAny_bind (forIn_quiet (fun i Q h => ?_) (hq m' hP))
  split
  · exact wpAny_bind (wpAny_rule (wpAny_pure h))
  · exact wpAny_pure h
theorem runGot {k b e : Nat} {m : Sre.M} {Q : Option Sre.M → Shared → Prop} (h : Runs k m (Got b e)) (hk : k < 2 ^ 30) (hq : ∀ m', m'.start = b → m'.handed = e → Q (some m') s) : wpAny M A (Builtin.Re.reRunToEnd m) Q E s :=
  runEnd h hk fun m' ⟨h1, h2, h3⟩ => by rw [h1]; exact wpAny_pure (hq m' h2 h3)
theorem runLost {k : Nat} {m : Sre.M} {Q : Option Sre.M → Shared → Prop} (h : Runs k m Lost) (hk : k < 2 ^ 30) (hq : Q none s) : wpAny M A (Builtin.Re.reRunToEnd m) Q E s :=
  runEnd h hk fun m' h1 => by rw [show m'.outcome = _ from h1]; exact wpAny_pure hq
end

/-- a pattern that stands in the heap -/
def PatAt (h : Heap) (P : Addr) (code : Array Nat) : Prop :=
  ∃ (o : Obj) (c : Addr) (oc : Obj) (vs ws : Array Value) (n : Nat), h.get? P = some o ∧ o.cls = .type "re.Pattern" ∧ o.dict = none ∧ o.data = .fields vs ∧ vs.getD 2 .none = rawInt 0 ∧ vs.getD 5 .none = .ref c ∧ vs.getD 6 .none = rawInt 0 ∧ h.get? c = some oc ∧ oc.data = .seq ws n ∧ (ws.map Builtin.Re.reRawOf).map (·.toNat) = code
theorem PatAt.keeps {h h' : Heap} {P : Addr} {code : Array Nat} (x : PatAt h P code) (k : ∀ b o, h.get? b = some o → h'.get? b = some o) : PatAt h' P code := by
  obtain ⟨o, c, oc, vs, ws, n, h1, h2, h2', h3, h4, h5, h6, h7, h8⟩ := x
  exact ⟨o, c, oc, vs, ws, n, k _ _ h1, h2, h2', h3, h4, h5, h6, k _ _ h7, h8⟩
theorem pat1 {w : World} {mg mb : Str → Option Value} {h : Heap} (G : Gl w mg mb h) : PatAt h 105 code1 := ⟨_, 104, _, _, _, _, G.X 105 _ rfl, rfl, rfl, rfl, rfl, rfl, rfl, G.X 104 _ rfl, rfl, by simp [Builtin.Re.reRawOf]⟩
theorem pat2 {w : World} {mg mb : Str → Option Value} {h : Heap} (G : Gl w mg mb h) : PatAt h 110 code2 := ⟨_, 109, _, _, _, _, G.X 110 _ rfl, rfl, rfl, rfl, rfl, rfl, rfl, G.X 109 _ rfl, rfl, by simp [Builtin.Re.reRawOf]⟩

section
variable {M : Model} {A : Around} {E : Value → Shared → Prop} {s : Shared}
theorem wholeTarget {P : Addr} {code : Array Nat} {x : Str} {u : Tok} {Q : Builtin.Re.ReTarget → Shared → Prop} (hP : PatAt s.heap P code)
    (h : Q { pattern := .ref P, string := .str x u, code := code, text := x.cps, kind := 0, groups := 0, pos := 0, lim := x.cps.size } s) : wpAny M A (Builtin.Re.reWholeTarget (.ref P) (.str x u)) Q E s := by
  obtain ⟨o, c, oc, vs, ws, n, h1, h2, h2', h3, h4, h5, h6, h7, h8, h9⟩ := hP
  unfold Builtin.Re.reWholeTarget
  refine wpAny_bind (wpAny_fieldsOf h1 h3 ?_)
  rw [h4, h5, h6]
  unfold Builtin.Re.reTextOf
  simp only [asStr?]
  refine wpAny_bind (wpAny_bind (wpAny_pure ?_))
  refine wpAny_pure ?_
  simp only [rawInt, Builtin.Re.reRawNat, Builtin.Re.reNoCollectionInside]
  refine wpAny_bind (wpAny_pure ?_)
  unfold Builtin.Re.reRawItems
  refine wpAny_bind (wpAny_bind (wpAny_seqItems h7 h8 (wpAny_pure (wpAny_pure ?_))))
  simp only [Option.getD_some]
  rw [h9]
  exact h
end

/-- the texts in a ledger's list -/
theorem strsAre_append : ∀ {vs : List Value} {ys : List Str} {vs' : List Value} {ys' : List Str}, StrsAre vs ys → StrsAre vs' ys' → StrsAre (vs ++ vs') (ys ++ ys')
  | _, _, _, _, .nil, h => h
  | _, _, _, _, .cons y t h, h2 => .cons y t (strsAre_append h h2)
theorem strsAre_len : ∀ {vs : List Value} {ys : List Str}, StrsAre vs ys → vs.length = ys.length
  | _, _, .nil => rfl
  | _, _, .cons y t h => by rw [List.length_cons, List.length_cons, strsAre_len h]
def flat (ys : List Str) : List Nat := ys.flatMap fun y => y.cps.toList
theorem join_flat : ∀ ys : List Str, (Str.join ⟨#[]⟩ ys).cps.toList = flat ys
  | [] => rfl
  | [x] => by simp [Str.join, flat]
  | x :: y :: r => by
    have := join_flat (y :: r)
    show (x ++ ⟨#[]⟩ ++ Str.join ⟨#[]⟩ (y :: r)).cps.toList = _
    rw [Str.cps_append, Str.cps_append, Array.toList_append, Array.toList_append, this]
    simp [flat]
theorem flat_len (ys : List Str) : (flat ys).length = (ys.map (·.length)).sum := by
  induction ys with
  | nil => rfl
  | cons y r ih =>
    have : flat (y :: r) = y.cps.toList ++ flat r := rfl
    rw [this, List.length_append, ih]; simp [Str.length]

section
variable {prog : Program} {w : World} {A : Around} {E : Value → Shared → Prop} {s : Shared} {h₀ : Heap} {L : Addr} {m : Str → Option Value} {news : Led}

theorem push_K {D : Addr} {vs : List Value} {n : Nat} {v : Value} {Q : Unit → Shared → Prop} (F : Fr h₀ L s.heap m) (N : News h₀ L s.heap ((D, listOf vs.toArray n) :: news)) (hD : ∀ p ∈ news, p.1 ≠ D) (hz : vs.length < 1000000)
    (h : ∀ h', Fr h₀ L h' m → News h₀ L h' ((D, listOf (vs ++ [v]).toArray (n + 1)) :: news) → Q () { s with heap := h' }) : wpAny (model prog w) A (updateSeq D (·.push v)) Q E s := by
  have z := N _ (.head _)
  refine wpAny_updateSeq z.1 rfl (h _ (F.change (Heap.SameBut.update ..) z.2.1 z.2.2) (kl_turn (pre := []) _ N (fun _ h => nomatch h) hD (by simp) (by simp))) (by simp [sizeLine]; omega) (by simp [sizeLine]; omega)

theorem subLoop {P D : Addr} {code : Array Nat} {x rep : Str} {u v : Tok} {Q : Value → Shared → Prop} (hx : x.length < 1000) (hr : rep.length < 1000) (hP : PatAt h₀ P code) {i : Nat} {res : List Nat} (S : Subs code rep.cps.toList x.cps.toList i res) :
    ∀ (n : Int) (vs : List Value) (ys : List Str) (k : Nat) (s : Shared), Fr h₀ L s.heap m → News h₀ L s.heap ((D, listOf vs.toArray k) :: news) → (∀ p ∈ news, p.1 ≠ D) → StrsAre vs ys →
      vs.length + 2 * (x.length - i) < 100000 → (flat ys).length + 2000 * (x.length - i) < 10000000 →
      (∀ h' t' k' r, Fr h₀ L h' m → News h₀ L h' news → r.cps.toList = flat ys ++ res → Q (.str r t') { s with heap := h', toks := k' }) →
      wpAny (model prog w) A.in1 (Builtin.«re.Pattern.sub.loop» ⟨[.ref P, .str x u, .str rep v, rawInt 0, rawInt 0, rawInt n, rawInt i, rawInt i, .bool false, .ref D, .bool false], []⟩)
        (fun fin s' => match fin with | .done f => (wants Q E) (.ok f) s' | .again c' => c'.quiet = true ∧ codeAny (model prog w) A c' (wants Q E) s') (fun e s' => (wants Q E) (.error e) s') s := by
  have hxl : x.cps.toList.length = x.length := by simp [Str.length]
  have hxs : x.cps.size = x.length := rfl
  induction S with
  | @stop i hi hn =>
    intro n vs ys k s F N hD hs hlen hfl hQ
    unfold Builtin.«re.Pattern.sub.loop»
    simp only [rawInt]
    refine wpAny_bind (wholeTarget (hP.keeps F.keep) ?_)
    rw [if_pos (by decide)]
    unfold Builtin.Re.reLiteralCannotBeTurned
    simp only [asStr?]
    refine wpAny_bind (wpAny_bind (wpAny_pure ?_))
    simp only [Option.isNone_some, Bool.false_eq_true, if_false]
    refine wpAny_pure ?_
    rw [if_neg (by simp)]
    unfold NotFound at hn
    rw [Array.toArray_toList, Array.length_toList] at hn
    refine wpAny_bind (runLost hn (by decide) ?_)
    dsimp only
    rw [Int.toNat_natCast]
    have last : ∀ (vs : List Value) (ys : List Str) (k tk : Nat) (h : Heap), Fr h₀ L h m → News h₀ L h ((D, listOf vs.toArray k) :: news) → StrsAre vs ys → (flat ys).length < 10000000 →
        (∀ h' t' k' r, Fr h₀ L h' m → News h₀ L h' news → r.cps.toList = flat ys → Q (.str r t') { s with heap := h', toks := k' }) →
        wpAny (model prog w) A.in1 (do
          let joiner ← Builtin.Re.reSlice x.cps 0 0 0
          let its ← seqItems? (.ref D)
          if (its.getD #[]).isEmpty = true then do
            let text ← pure joiner
            ret text
          else do
            let text ← call (.builtin (if (0 == 0) = true then "str.join" else "bytes.join")) [joiner, .ref D]
            ret text)
          (fun fin s' => match fin with | .done f => (wants Q E) (.ok f) s' | .again c' => c'.quiet = true ∧ codeAny (model prog w) A c' (wants Q E) s') (fun e s' => (wants Q E) (.error e) s') { s with heap := h, toks := tk } := by
      intro vs ys k tk h F N hs hfl hQ
      have e0 : Builtin.Re.reSlice x.cps 0 0 0 = mkStr ⟨#[]⟩ := by
        show mkStr ⟨x.cps.extract 0 0⟩ = _
        congr 2
        simp
      rw [e0]
      refine wpAny_bind (wpAny_mkStr ?_ (by simp [Str.length]))
      refine wpAny_bind (wpAny_seqItems (N _ (.head _)).1 rfl ?_)
      have N' : News h₀ L h news := fun p hp => N p (.tail _ hp)
      by_cases hv : vs = []
      · subst hv
        cases hs
        rw [if_pos (by rfl)]
        exact wpAny_bind (wpAny_pure (wpAny_pure (hQ h _ _ ⟨#[]⟩ F N' rfl)))
      · rw [if_neg (by cases vs with
          | nil => exact absurd rfl hv
          | cons a r => simp [Array.isEmpty])]
        refine wpAny_bind (join_list (s := { s with heap := h, toks := _ }) (ys := ys) (news_lst N (.head _)) (by simpa using hs) ?_ ?_)
        · rw [← flat_len]
          show (flat ys).length + ys.length * 0 ≤ 16777216
          omega
        · intro t' k'
          refine wpAny_pure (hQ h t' k' _ F N' ?_)
          show (Builtin.Str.glued ⟨#[]⟩ ys).cps.toList = _
          rw [StrLaws.glued_eq_join, join_flat]
    have hD0 : Array.size x.cps = x.length := rfl
    by_cases hlt : i < x.cps.size
    · rw [if_pos hlt]
      refine wpAny_bind ?_
      show wpAny _ _ (mkStr ⟨x.cps.extract i x.cps.size⟩) _ _ _
      refine wpAny_mkStr ?_ (by simp [Str.length, sizeLine]; omega)
      refine wpAny_bind (push_K (s := { s with toks := s.toks + 1 }) F N hD (by omega) fun h' F' N' => ?_)
      refine last (vs ++ [_]) (ys ++ [⟨x.cps.extract i x.cps.size⟩]) _ _ h' F' N' (strsAre_append hs (.cons _ _ .nil)) ?_ ?_
      · simp [flat, Str.length] at hfl ⊢; omega
      · intro h'' t' k' r F'' N'' e
        refine hQ h'' t' k' r F'' N'' ?_
        rw [e]
        simp [flat]
        rw [List.take_of_length_le (by simp)]
    · rw [if_neg hlt]
      refine last vs ys k s.toks s.heap F N hs (by omega) ?_
      intro h'' t' k' r F'' N'' e
      refine hQ h'' t' k' r F'' N'' ?_
      rw [e, List.drop_of_length_le (by omega), List.append_nil]
  | @go i b e r hi hb he hf t ih =>
    intro n vs ys k s F N hD hs hlen hfl hQ
    unfold Builtin.«re.Pattern.sub.loop»
    simp only [rawInt]
    refine wpAny_bind (wholeTarget (hP.keeps F.keep) ?_)
    rw [if_pos (by decide)]
    unfold Builtin.Re.reLiteralCannotBeTurned
    simp only [asStr?]
    refine wpAny_bind (wpAny_bind (wpAny_pure ?_))
    simp only [Option.isNone_some, Bool.false_eq_true, if_false]
    refine wpAny_pure ?_
    rw [if_neg (by simp)]
    unfold Found at hf
    rw [Array.toArray_toList, Array.length_toList] at hf
    refine wpAny_bind (runGot hf (by decide) fun m' hm1 hm2 => ?_)
    dsimp only
    rw [hm1, hm2, Int.toNat_natCast]
    have hbe : (e == b) = false := by rw [beq_eq_false_iff_ne]; omega
    rw [hbe]
    have push : ∀ (vs : List Value) (ys : List Str) (k tk : Nat) (h : Heap), Fr h₀ L h m → News h₀ L h ((D, listOf vs.toArray k) :: news) → StrsAre vs ys → vs.length + 2 * (x.length - e) < 99999 → (flat ys).length + 1000 + 2000 * (x.length - e) < 10000000 →
        (∀ h' t' k' r', Fr h₀ L h' m → News h₀ L h' news → r'.cps.toList = flat ys ++ rep.cps.toList ++ r → Q (.str r' t') { s with heap := h', toks := k' }) →
        wpAny (model prog w) A.in1 (do
            updateSeq D fun x => x.push (.str rep v)
            again (Code.builtin "re.Pattern.sub.loop" ⟨[.ref P, .str x u, .str rep v, .int 0 0, .int 0 0, .int (n + 1) 0, .int e 0, .int e 0, .bool false, .ref D, .bool false], []⟩))
          (fun fin s' => match fin with | .done f => (wants Q E) (.ok f) s' | .again c' => c'.quiet = true ∧ codeAny (model prog w) A c' (wants Q E) s') (fun e s' => (wants Q E) (.error e) s') { s with heap := h, toks := tk } := by
      intro vs ys k tk h F N hs h1 h2 hQ
      refine wpAny_bind (push_K (s := { s with heap := h, toks := tk }) F N hD (by omega) fun h' F' N' => ?_)
      refine wpAny_pure ⟨plainId_quiet plain_pat_loop _, codeAny_builtin entry_pat_loop ?_⟩
      rw [Around.under_plainId plain_pat_loop]
      refine ih (n + 1) (vs ++ [.str rep v]) (ys ++ [rep]) _ { s with heap := h', toks := tk } F' N' hD (strsAre_append hs (.cons _ _ .nil)) ?_ ?_ ?_
      · simp; omega
      · have : (flat (ys ++ [rep])).length = (flat ys).length + rep.length := by simp [flat, Str.length]
        omega
      · intro h'' t' k' r' F'' N'' e'
        refine hQ h'' t' k' r' F'' N'' ?_
        rw [e']
        simp [flat]
    by_cases hlt : i < b
    · rw [if_pos hlt]
      refine wpAny_bind ?_
      show wpAny _ _ (mkStr ⟨x.cps.extract i b⟩) _ _ _
      refine wpAny_mkStr ?_ (by simp [Str.length, sizeLine]; omega)
      refine wpAny_bind (push_K (s := { s with toks := s.toks + 1 }) F N hD (by omega) fun h' F' N' => ?_)
      rw [if_pos (by decide)]
      refine wpAny_bind (wpAny_pure ?_)
      rw [if_pos (by rfl)]
      refine push (vs ++ [_]) (ys ++ [⟨x.cps.extract i b⟩]) _ _ h' F' N' (strsAre_append hs (.cons _ _ .nil)) ?_ ?_ ?_
      · simp; omega
      · have : (flat (ys ++ [⟨x.cps.extract i b⟩])).length ≤ (flat ys).length + 1000 := by
          simp [flat]; omega
        omega
      · intro h'' t' k' r' F'' N'' e'
        refine hQ h'' t' k' r' F'' N'' ?_
        rw [e']
        simp [flat]
    · rw [if_neg hlt]
      rw [if_pos (by decide)]
      refine wpAny_bind (wpAny_pure ?_)
      rw [if_pos (by rfl)]
      refine push vs ys k s.toks s.heap F N hs (by omega) (by omega) ?_
      intro h'' t' k' r' F'' N'' e'
      refine hQ h'' t' k' r' F'' N'' ?_
      rw [e', show b - i = 0 by omega]
      simp

theorem sub_K {P : Addr} {code : Array Nat} {x rep : Str} {u v : Tok} {res : List Nat} {Q : Value → Shared → Prop} (hx : x.length < 1000) (hr : rep.length < 1000) (hbs : rep.cps.contains 92 = false) (hP : PatAt h₀ P code) (S : Subs code rep.cps.toList x.cps.toList 0 res)
    (F : Fr h₀ L s.heap m) (N : News h₀ L s.heap news) (hQ : ∀ h' t' k' r, Fr h₀ L h' m → News h₀ L h' news → r.cps.toList = res → Q (.str r t') { s with heap := h', toks := k' }) :
    wpAny (model prog w) A (call (.builtin "re.Pattern.sub") [.ref P, .str rep v, .str x u]) Q E s := by
  have hP' := hP.keeps F.keep
  have hT : s.TypeIs (.ref P) "re.Pattern" := by
    obtain ⟨o, _, _, _, _, _, h1, h2, _⟩ := hP'
    exact ⟨o, h1, h2⟩
  refine wpAny_call (codeAny_call_builtin (R := wants Q E) slot_pat_sub.plain entry_pat_sub (slot_pat_sub.check _ _ _ _ _ _ _ _ hT (args_pat_sub _ _ _) ?_))
  unfold Builtin.«re.Pattern.sub» Builtin.Re.reSubstitute
  have e1 : ∀ id f, Builtin.Re.reNamed id f ["repl", "string", "count"] 2 [.str rep v, .str x u] [] = pure [some (.str rep v), some (.str x u), none] := fun _ _ => rfl
  simp only
  rw [e1]
  refine wpAny_bind (wpAny_pure ?_)
  simp only
  refine wpAny_bind (wpAny_pure ?_)
  refine wpAny_bind (wpAny_specialOf (typeIs_str _ _ _) str_nocall ?_)
  simp only [Option.isSome_none, Bool.false_eq_true, if_false, asStr?]
  refine wpAny_bind (wpAny_pure ?_)
  dsimp only
  rw [hbs]
  refine wpAny_bind (wpAny_pure ?_)
  rw [if_pos (by decide)]
  refine wpAny_bind (wpAny_pure ?_)
  refine wpAny_bind (wpAny_holding (wholeTarget hP' ?_))
  rw [if_neg (by simp)]
  refine wpAny_bind (newList_K F N ?_)
  intro D h' F' N' hD
  refine wpAny_pure ⟨plainId_quiet plain_pat_loop _, codeAny_builtin entry_pat_loop ?_⟩
  rw [Around.under_plainId plain_pat_loop]
  refine subLoop (i := 0) hx hr hP S 0 [] [] 0 { s with heap := h' } F' N' (fun p hp => Nat.ne_of_lt (hD p hp)) .nil (by show 0 + _ < _; omega) (by show 0 + _ < _; omega) ?_
  intro h'' t' k' r F'' N'' e
  exact hQ h'' t' k' r F'' N'' (by simpa [flat] using e)
end

end
/-! part B17 -/
set_option maxRecDepth 100000
section
open PySem PySem.W PyProof.Rows PySem.Calls PySem.Spec

section
variable {prog : Program} {w : World} {A : Around} {E : Value → Shared → Prop} {s : Shared} {value slice : Expr} {x : Str} {t : Tok} {h₀ hp : Heap} {tk : Nat} {L : Addr} {m : Str → Option Value} {news : Led} {Q : Value → Shared → Prop}
theorem slK2_ns {j : Int} {uj : Tok} (hF : Fr h₀ L hp m) (hN : News h₀ L hp news) (h : ∀ h' t' k, Fr h₀ L h' m → News h₀ L h' news → (∀ b o, hp.get? b = some o → h'.get? b = some o) → Q (.str (Txt.slice x none (some j)) t') { s with heap := h', toks := k })
    (hs : subscripted slice false (.str x t) (.ref hp.objs.size) = operate [.ref hp.objs.size, .str x t] (getItem (.str x t) (.ref hp.objs.size)) := by with_unfolding_all rfl)
    (ht : ∀ r, letTemporaryGo value (.str x t) r = pure () := by intro _; with_unfolding_all rfl) (hsz : x.length ≤ sizeLine := by size_fits) :
    wpAny (model prog w) A (subscriptTail value slice (.str x t) (.ref hp.objs.size)) Q E { s with heap := hp.push { cls := .type "slice", data := .fields #[.none, .int j uj, .none] }, toks := tk } :=
  slK_ns (s := { s with heap := hp, toks := tk }) hF hN h hs ht hsz
theorem slK2_ss {i j : Int} {ui uj : Tok} (hF : Fr h₀ L hp m) (hN : News h₀ L hp news) (h : ∀ h' t' k, Fr h₀ L h' m → News h₀ L h' news → (∀ b o, hp.get? b = some o → h'.get? b = some o) → Q (.str (Txt.slice x (some i) (some j)) t') { s with heap := h', toks := k })
    (hs : subscripted slice false (.str x t) (.ref hp.objs.size) = operate [.ref hp.objs.size, .str x t] (getItem (.str x t) (.ref hp.objs.size)) := by with_unfolding_all rfl)
    (ht : ∀ r, letTemporaryGo value (.str x t) r = pure () := by intro _; with_unfolding_all rfl) (hsz : x.length ≤ sizeLine := by size_fits) :
    wpAny (model prog w) A (subscriptTail value slice (.str x t) (.ref hp.objs.size)) Q E { s with heap := hp.push { cls := .type "slice", data := .fields #[.int i ui, .int j uj, .none] }, toks := tk } :=
  slK_ss (s := { s with heap := hp, toks := tk }) hF hN h hs ht hsz
end

def StrL (news : Led) (D : Addr) (ys : List Str) : Prop := ∃ vs n, (D, listOf (List.toArray vs) n) ∈ news ∧ StrsAre vs ys
theorem strsAre_split : ∀ {ys zs : List Str} {vs : List Value}, StrsAre vs (ys ++ zs) → ∃ as bs, vs = as ++ bs ∧ StrsAre as ys ∧ StrsAre bs zs
  | [], _, vs, h => ⟨[], vs, rfl, .nil, h⟩
  | _ :: _, _, _, .cons y t h => by
    obtain ⟨as, bs, rfl, h1, h2⟩ := strsAre_split h
    exact ⟨_ :: as, bs, rfl, .cons _ _ h1, h2⟩

section
variable {prog : Program} {w : World} {A : Around} {E : Value → Shared → Prop} {s : Shared} {h₀ : Heap} {L : Addr} {m : Str → Option Value} {news : Led}
theorem setItem_last {l : Addr} {vs : List Value} {x : Value} {n : Nat} {t : Tok} {v : Value} {Q : Unit → Shared → Prop} (ho : s.heap.get? l = some (listOf (vs ++ [x]).toArray n))
    (hQ : Q () { s with heap := s.heap.update l (Obj.mapSeq (·.setIfInBounds vs.length v)) }) : wpAny (model prog w) A (setItem (.ref l) (.int (-1) t) v) Q E s := by
  have hl : s.heap.IsList l (vs ++ [x]).toArray := PySem.IsL.isList (n := n) ho
  have hidx : seqIndex? (Int.negSucc 0) (vs ++ [x]).toArray.size = some vs.length := by
    rw [seqIndex_neg (by decide) (by simp; omega)]
    congr 1
    simp; omega
  have hx : (vs ++ [x]).toArray[vs.length]? = some x := by simp
  unfold setItem
  try with_reducible refine wpAny_holding ?_
  first | refine wpAny_bind (wpAny_pure ?_) | skip
  refine wpAny_bind (wpAny_sequenceKey hl.typeIs (by decide) ?_)
  refine wpAny_bind (wpAny_callSpecial?_slot (name := Str.ofString "__setitem__") hl.typeIs slot_list_setitem
    (wpAny_call_entry slot_list_setitem hl.typeIs entry_list_setitem ?_ (args_list_setitem _ _ _)))
  show wpAny _ _ (Builtin.List.listSubscript? (.int (-1) t) >>= _) _ _ s
  refine wpAny_bind (wpAny_listSubscript_int (fitsIndex_neg (by decide) (by decide)) ?_)
  show wpAny _ _ ((Builtin.List.listItems (.ref l) >>= fun xs => pure ((seqIndex? (Int.negSucc 0) xs.size).bind fun i => xs[i]?.map (i, ·))) >>= _) _ _ s
  refine wpAny_bind (wpAny_bind ?_)
  show wpAny _ _ (seqItems? (.ref l) >>= _) _ _ s
  refine wpAny_bind (wpAny_seqItems ho rfl (wpAny_pure (wpAny_pure ?_)))
  simp only [Option.getD_some]
  rw [hidx]
  simp only [Option.bind_some, hx, Option.map_some]
  show wpAny _ _ (setSeqItemAt l vs.length v >>= _) _ _ s
  refine wpAny_bind (wpAny_setSeqItemAt ho rfl ?_)
  first
    | exact wpAny_bind (wpAny_pure (wpAny_pure ⟨.none, rfl, wpAny_pure hQ⟩))
    | exact wpAny_pure ⟨.none, rfl, wpAny_pure hQ⟩
theorem setLast_K {D : Addr} {vs : List Value} {x v : Value} {n : Nat} {t : Tok} {Q : Unit → Shared → Prop} (F : Fr h₀ L s.heap m) (N : News h₀ L s.heap news) (hm : (D, listOf (vs ++ [x]).toArray n) ∈ news)
    (h : ∀ h', Fr h₀ L h' m → News h₀ L h' (upd news D (listOf (vs ++ [v]).toArray n)) → Q () { s with heap := h' }) : wpAny (model prog w) A (setItem (.ref D) (.int (-1) t) v) Q E s := by
  have z := N _ hm
  refine setItem_last z.1 (h _ (F.change (Heap.SameBut.update ..) z.2.1 z.2.2) ?_)
  refine ki_turn (pre := []) _ (news_pick N hm) (fun _ h => nomatch h) upd_ne ?_ ?_
  · apply Array.toList_inj.mp
    simp
  · simp
theorem getLast_K {D : Addr} {vs : List Value} {x : Value} {n : Nat} {t : Tok} {Q : Value → Shared → Prop} (N : News h₀ L s.heap news) (hm : (D, listOf (vs ++ [x]).toArray n) ∈ news) (h : Q x s) : wpAny (model prog w) A (getItem (.ref D) (.int (-1) t)) Q E s :=
  wpAny_getItem_list_neg (news_lst N hm) (by decide) (by simp; omega) (by decide) (by simp; rw [show (-1 + ((vs.length : Int) + 1)).toNat = vs.length by omega]; simp) h
end

theorem nb_t {P : Prop} [Decidable P] (h : (!decide P) = true) : ¬ P := by simpa using h
theorem nb_f {P : Prop} [Decidable P] (h : ¬ (!decide P) = true) : P := by simpa using h
theorem nl_go {ch : Nat} {t : List Nat} (hc : ch = 10 ∨ ch = 13) (h : (ch :: t).take 2 ≠ [13, 10]) : rowsR (ch :: t) = [] :: rowsR t := by
  rcases hc with rfl | rfl
  · simp [rowsR]
  · rw [rowsR, if_neg (by decide), if_pos rfl, if_neg]
    intro q
    cases t with
    | nil => simp at q
    | cons d r =>
      have : d = 10 := by simpa using q
      subst this
      exact h (by simp)
theorem nl_stay {ch : Nat} {t : List Nat} (h : (ch :: t).take 2 = [13, 10]) : rowsR (ch :: t) = rowsR t := by
  cases t with
  | nil => simp at h
  | cons d r =>
    simp at h
    obtain ⟨rfl, rfl⟩ := h
    simp [rowsR]
theorem crlf_ne (x : Str) (i : Nat) {ch : Nat} {t : List Nat} (h : (tx x).drop i = ch :: t) : (Txt.slice x (some ((0 : Int) + i)) (some ((0 : Int) + i + 2)) != Str.ofString "\x0d\n") = !decide ((ch :: t).take 2 = [13, 10]) := by
  rw [show (0 : Int) + i + 2 = ((i + 2 : Nat) : Int) by omega, show (0 : Int) + i = ((i : Nat) : Int) by omega]
  have e := tx_slice x i (i + 2)
  rw [h, show i + 2 - i = 2 by omega] at e
  rw [← e]
  by_cases q : Txt.slice x (some ((i : Nat) : Int)) (some ((i + 2 : Nat) : Int)) = Str.ofString "\x0d\n"
  · rw [q]; decide
  · have q2 : ¬ tx (Txt.slice x (some ((i : Nat) : Int)) (some ((i + 2 : Nat) : Int))) = [13, 10] := fun q3 => q (str_ext q3)
    rw [decide_eq_false q2, bne_iff_ne.mpr q]; rfl

theorem cr_in (c : Nat) : (!(!(Builtin.Str.occurrences (Str.ofString "\n\x0d") ⟨#[c]⟩ 0 (Str.ofString "\n\x0d").length 1).isEmpty)) = !decide (c = 10 ∨ c = 13) := by
  rw [StrLaws.found_one]
  congr 1
  rw [Bool.eq_iff_iff, decide_eq_true_eq, decide_eq_true_eq]
  show c ∈ [10, 13] ↔ _
  simp

set_option maxHeartbeats 4000000 in
theorem rowsS {w : World} {mg mb : Str → Option Value} {news : Led} {x : Str} {t : Tok} (hx : x.length < 200) :
    Sp w mg mb 124 [.str x t] 2 20 news (fun r news' => (∀ q ∈ news, q ∈ news') ∧ ∃ D ys, r = .ref D ∧ StrL news' D ys ∧ ys.map tx = rowsR (tx x)) := by
  unfold Sp
  intro A h₀ L m s Q E G F N hd hu hh hQ
  refine callK (args := ⟨[.str x t], []⟩) G F N (by k_is) (by k_is) (by omega) (fun _ => rfl) (locs rfl) (by decide) rfl rfl rfl hQ ?_
  clear F N G hQ
  intro g L h₁ tk G F N hlt
  repeat' walk_at "st"
  refine newList_K (by assumption) (by assumption) ?_
  intro D h₂ F₂ N₂ hD
  repeat' walk_at "st"
  refine len_str (by omega) ?_
  repeat' walk_at "st"
  refine iter_range (n := x.length) (fun i m nx => (∀ q ∈ news, ¬ isIt q.2 → q ∈ nx) ∧ (∃ vs v c ys y, (D, listOf (List.toArray (vs ++ [v])) c) ∈ nx ∧ StrsAre vs ys ∧ (∃ ty, v = Value.str y ty) ∧ vs.length ≤ i ∧ y.length ≤ i ∧ glue (ys.map tx) (tx y) (rowsR ((tx x).drop i)) = rowsR (tx x)) ∧
      AllB m [(Str.ofString "text", Value.str x t), (Str.ofString "rows", Value.ref D)])
    ?_ hh (by assumption) (small_one (by omega) (by omega) (by omega) (by omega)) (by omega) (by assumption) (by assumption) ⟨fun q hq _ => .tail _ hq, ⟨[], _, 0, [], Str.ofString "", .head _, .nil, ⟨_, rfl⟩, Nat.le_refl _, Nat.le_refl _, ?_⟩, al_cons rfl (al_cons rfl al_nil)⟩ (fun _ _ h => h) ?_ ?_
  · rintro i m nx nx' ⟨h1, ⟨vs, v, c, ys, y, h2, h3⟩, h4⟩ hs
    exact ⟨fun q hq hc => hs q (h1 q hq hc) hc, ⟨vs, v, c, ys, y, hs _ h2 (not_it (by simp)), h3⟩, h4⟩
  · obtain ⟨x', xs, e⟩ := rowsB_cons false (tx x)
    rw [List.drop_zero, rowsR_eq, e]; rfl
  · rintro i t' m₁ nx h tk hin ⟨hk, ⟨vs, v, c, ys, y, hDm, hys, ⟨ty, rfl⟩, hvl, hyl, hgl⟩, hmm⟩ hold F₁ N₁
    have F := fr_named _ F₁ hmm
    clear F₁ hmm
    have hdr := drop_getD (tx x) i (by rw [tx_len]; exact hin)
    repeat' walk_at "st"
    dsimp only
    refine item_str (by simp [fitsSsize]; omega) (by omega) (by omega) ?_
    intro _
    rw [show (0 : Int) + (i : Int) = (i : Int) by omega, tx_item x i hin]
    obtain ⟨ch, hch⟩ : ∃ ch, (tx x).getD i 0 = ch := ⟨_, rfl⟩
    rw [hch] at hdr ⊢
    repeat' walk_at "st"
    refine PyProof.Rows.notIn_str ?_
    rw [show ("\n\x0d" : String) = "\n\x0d" from rfl, cr_in]
    repeat' walk_at "st"
    refine if_split (fun hc => ?_) (fun hc => ?_)
    · have hc2 : ¬ (ch = 10 ∨ ch = 13) := nb_t hc
      repeat' walk_at "st"
      refine wpAny_AugAssign_SubscriptAny ?_
      repeat' walk_at "st"
      refine neg_int ?_
      repeat' walk_at "st"
      refine getLast_K (by assumption) hDm ?_
      repeat' walk_at "st"
      dsimp only
      refine item_str (by simp [fitsSsize]; omega) (by omega) (by omega) ?_
      intro _
      rw [show (0 : Int) + (i : Int) = (i : Int) by omega, tx_item x i hin, hch]
      repeat' walk_at "st"
      refine PyProof.Rows.iadd_str ?_ (by simp [sizeLine, Str.length] at hyl ⊢; omega)
      intro ta tka
      repeat' walk_at "st"
      refine setLast_K (by assumption) (by assumption) hDm ?_
      intro h₃ F₃ N₃
      repeat' walk_at "st"
      refine ⟨_, _, _, _, rfl, F₃, N₃, ItK.upd N₁ hDm (by simp), fun q hq hc => upd_mem (hk q hq hc) (Nat.ne_of_lt (hD q hq)), ⟨vs, _, c, ys, y ++ ⟨#[ch]⟩, upd_head, hys, ⟨_, rfl⟩, by omega, ?_, ?_⟩, al_cons rfl (al_cons rfl al_nil)⟩
      · rw [← tx_len, tx_append, List.length_append, tx_len]
        show y.length + 1 ≤ i + 1
        omega
      · rw [← hgl, hdr, glue_sign _ _ _ _ (fun q => hc2 (.inl q)) (fun q => hc2 (.inr q)), tx_append]
        rfl
    · have hc2 : ch = 10 ∨ ch = 13 := nb_f hc
      repeat' walk_at "st"
      dsimp only
      refine slK2_ss (by assumption) (by assumption) ?_ (hsz := by simp [sizeLine]; omega)
      intro h₃ t₃ k₃ F₃ N₃ K₃
      repeat' walk_at "st"
      refine PyProof.Rows.ne_str ?_
      repeat' walk_at "st"
      rw [crlf_ne x i hdr]
      refine if_split (fun hq => ?_) (fun hq => ?_)
      · have hq2 : (ch :: (tx x).drop (i + 1)).take 2 ≠ [13, 10] := nb_t hq
        repeat' walk_at "st"
        refine kl_method (by assumption) hDm PySem.F.slot_list_append PySem.F.type_list_append ?_
        repeat' walk_at "st"
        refine append_K (by assumption) (news_pick (by assumption) hDm) upd_Upd ?_ (by simp [sizeLine]; omega)
        intro h₄ F₄ N₄
        repeat' walk_at "st"
        rw [List.push_toArray] at N₄
        refine ⟨_, _, _, _, rfl, F₄, N₄, ItK.upd N₁ hDm (by simp), fun q hq hc => upd_mem (hk q hq hc) (Nat.ne_of_lt (hD q hq)), ⟨vs ++ [Value.str y ty], _, _, ys ++ [y], Str.ofString "", upd_head, strsAre_append hys (.cons _ _ .nil), ⟨_, rfl⟩, by simp; omega, Nat.zero_le _, ?_⟩, al_cons rfl (al_cons rfl al_nil)⟩
        rw [← hgl, hdr, nl_go hc2 hq2, glue_nl, List.map_append]
        rfl
      · have hq2 : (ch :: (tx x).drop (i + 1)).take 2 = [13, 10] := nb_f hq
        repeat' walk_at "st"
        refine ⟨_, _, _, _, rfl, F₃, N₃, ItK.of fun p hp => hp, hk, ⟨vs, _, c, ys, y, hDm, hys, ⟨_, rfl⟩, by omega, by omega, ?_⟩, al_cons rfl (al_cons rfl al_nil)⟩
        rw [← hgl, hdr, nl_stay hq2]
  · rintro m₁ nx h tk ⟨hk, ⟨vs, v, c, ys, y, hDm, hys, ⟨ty, rfl⟩, hvl, hyl, hgl⟩, hmm⟩ hold F₁ N₁
    have F := fr_named _ F₁ hmm
    clear F₁ hmm
    rw [List.drop_of_length_le (by rw [tx_len]; exact Nat.le_refl _), glue_end] at hgl
    repeat' walk_at "st"
    refine ⟨_, _, _, _, _, rfl, F, N₁, rfl, fun q hq => ?_, D, ys ++ [y], rfl, ⟨_, _, hDm, strsAre_append hys (.cons _ _ .nil)⟩, by rw [← hgl]; simp⟩
    by_cases hc : isIt q.2
    · exact hold q (.tail _ hq) hc
    · exact hk q hq hc
end
/-! part B18 -/
set_option maxRecDepth 100000
section
open PySem PySem.W PyProof.Rows PySem.Calls PySem.Spec

theorem pat_method {M : Model} {A : Around} {E : Value → Shared → Prop} {s : Shared} {P : Addr} {code : Array Nat} {pl : Sem Bool} {Q : Value × List Value → Shared → Prop} (hP : PatAt s.heap P code) (h : Q (.builtin "re.Pattern.sub", [.ref P]) s) :
    wpAny M A (getMethod (.ref P) "sub" pl) Q E s := by
  obtain ⟨o, _, _, _, _, _, h1, h2, h3, _⟩ := hP
  exact getMethod_builtin ⟨o, h1, h2⟩ plainAttrs_pat slot_pat_sub type_pat_sub (fun a e => by cases e; exact ⟨o, h1, h3⟩) h

set_option maxHeartbeats 4000000 in
theorem quoteS {w : World} {mg mb : Str → Option Value} {news : Led} {x : Str} {t : Tok} (hx : x.length < 200) :
    Sp w mg mb 117 [.str x t] 4 40 news (fun r news' => (∀ q ∈ news, q ∈ news') ∧ ∃ y ty, r = .str y ty ∧ tx y = quoted (tx x)) := by
  unfold Sp
  intro A h₀ L m s Q E G F N hd hu hh hQ
  refine callK (args := ⟨[.str x t], []⟩) G F N (by k_is) (by k_is) (by omega) (fun _ => rfl) (locs rfl) (by decide) rfl rfl rfl hQ ?_
  clear F N G hQ
  intro g L h₁ tk G F N hlt
  repeat' walk_at "st"
  refine pat_method ((pat1 G).keeps F.keep) ?_
  repeat' walk_at "st"
  refine pat_method ((pat2 G).keeps F.keep) ?_
  repeat' walk_at "st"
  dsimp only [List.cons_append, List.nil_append]
  have hS2 : Subs code2 (Str.ofString "\x0d\n").cps.toList x.cps.toList 0 (nlb false (tx x)) := subs_ends (tx x)
  refine sub_K (by omega) (by decide) (by decide +kernel) (pat2 G) hS2 F N ?_
  intro h₂ t₂ k₂ y F₂ N₂ hy
  have hyl : y.length < 1000 := by
    have h1 := nlb_le (tx x) false
    rw [← hy, tx_len] at h1
    simp [Str.length] at h1 ⊢
    simp [Str.length] at hx
    omega
  repeat' walk_at "st"
  dsimp only [List.cons_append, List.nil_append]
  have hS1 : Subs code1 (Str.ofString "..").cps.toList y.cps.toList 0 (dot true (nlb false (tx x))) := by
    rw [hy]
    refine subs_dots _ ?_
    rw [← hy, Array.length_toList]
    exact hyl
  refine sub_K hyl (by decide) (by decide +kernel) (pat1 G) hS1 (by assumption) (by assumption) ?_
  intro h₃ t₃ k₃ z F₃ N₃ hz
  exact ⟨_, _, _, _, _, rfl, F₃, N₃, rfl, fun q hq => hq, z, _, rfl, hz⟩
end
/-! part M5 -/
set_option Elab.async false
section
open PySem

def fig (c : Nat) : Nat := if c = 10 then 0 else if c = 13 then 1 else if c = 46 then 2 else if c = 97 then 3 else 4
def sgn : Str := Str.ofString "\n\x0d.ab"
theorem fig_lt (c : Nat) : fig c < 8 := by unfold fig; (repeat' split) <;> decide
theorem fig_inj {a b : Nat} (ha : Abc a) (hb : Abc b) (h : fig a = fig b) : a = b := by
  rcases ha with rfl | rfl | rfl | rfl | rfl <;> rcases hb with rfl | rfl | rfl | rfl | rfl <;> first | rfl | (exact absurd h (by decide))
theorem figs_inj : ∀ {a b : List Nat}, (∀ c ∈ a, Abc c) → (∀ c ∈ b, Abc c) → a.map fig = b.map fig → a = b
  | [], [], _, _, _ => rfl
  | [], _ :: _, _, _, h => by simp at h
  | _ :: _, [], _, _, h => by simp at h
  | x :: a, y :: b, ha, hb, h => by
    simp only [List.map_cons, List.cons.injEq] at h
    rw [fig_inj (ha x (.head _)) (hb y (.head _)) h.1, figs_inj (fun c hc => ha c (.tail _ hc)) (fun c hc => hb c (.tail _ hc)) h.2]
theorem find_sgn {c : Nat} (h : Abc c) : Txt.find sgn ⟨#[c]⟩ = (fig c : Nat) := by
  rcases h with rfl | rfl | rfl | rfl | rfl <;> decide +kernel

section
variable {f : List Nat} {m : Nat} {V : List Nat} {ps : List (Int × Int)} {W P : Str}
abbrev figs (x : Str) : List Nat := (tx x).map fig
theorem figs_len (x : Str) : (figs x).length = x.length := by simp [tx_len]
theorem figs_lt (x : Str) : ∀ d ∈ figs x, d < 8 := fun d hd => by
  obtain ⟨c, _, rfl⟩ := List.mem_map.mp hd
  exact fig_lt c
theorem fgP_eq (hP : ∀ c ∈ tx P, Abc c) (k : Nat) (hk : k < P.length) : fgP sgn P (k + 1) = (((figs P).reverse.getD k 0 : Nat) : Int) := by
  have hl := tx_len P
  unfold fgP
  rw [tx_item_last P (k + 1) (by omega) (by omega), List.getD_eq_getElem?_getD, List.getElem?_eq_getElem (by omega), Option.getD_some, find_sgn (hP _ (List.getElem_mem _)), List.getD_eq_getElem?_getD, List.getElem?_reverse (by rw [figs_len]; omega), figs_len, List.getElem?_map,
    List.getElem?_eq_getElem (by omega)]
  simp only [Option.map_some, Option.getD_some]
  congr 3
  omega
theorem stepP_eq (hP : ∀ c ∈ tx P, Abc c) (p : Nat) : ∀ k, k ≤ P.length → stepP (lastI V) sgn P p k = pstep V (figs P).reverse p k
  | 0, _ => rfl
  | k + 1, h => by rw [stepP, pstep, stepP_eq hP p k (by omega), fgP_eq hP k (by omega), lastI_countP, lastI_count]
theorem valP_eq (hP : ∀ c ∈ tx P, Abc c) : ∀ k, k ≤ P.length → valP sgn P k = ((pval (figs P).reverse k : Nat) : Int)
  | 0, _ => rfl
  | k + 1, h => by rw [valP, pval, valP_eq hP k (by omega), fgP_eq hP k (by omega)]; simp
theorem revs_lt (P : Str) : ∀ d ∈ (figs P).reverse, d < 8 := fun d hd => figs_lt P d (List.mem_reverse.mp hd)
theorem val_small (hP : ∀ c ∈ tx P, Abc c) (hl : P.length ≤ 10) (k : Nat) (hk : k < P.length) : (valP sgn P (k + 1)).natAbs < 2 ^ 40 := by
  rw [valP_eq hP _ (by omega), Int.natAbs_natCast]
  refine Nat.lt_of_lt_of_le (pval_lt (revs_lt P) (k + 1)) ?_
  have : 8 ^ (k + 1) ≤ 8 ^ 10 := Nat.pow_le_pow_right (by decide) (by omega)
  exact Nat.le_trans this (by decide)
theorem fg_small (hP : ∀ c ∈ tx P, Abc c) (k : Nat) (hk : k < P.length) : (fgP sgn P (k + 1)).natAbs < 2 ^ 40 := by
  rw [fgP_eq hP k hk, Int.natAbs_natCast]
  exact Nat.lt_trans (getD_lt (revs_lt P) k) (by decide)
theorem Row.lowP (R : Row f m V ps) (hP : ∀ c ∈ tx P, Abc c) (hl : P.length ≤ m + 1) (k : Nat) (hk : k < P.length) :
    stepP (lastI V) sgn P 0 (k + 1) = ps.countP (plt · (valP sgn P (k + 1) * 8 ^ ((lastI V).length - (k + 1)), 0)) := by
  rw [stepP_eq hP 0 _ (by omega), valP_eq hP _ (by omega), lastI_len, R.len, R.low (revs_lt P) (k + 1) (by omega), ← R.cnt]
  simp
theorem Row.highP (R : Row f m V ps) (hP : ∀ c ∈ tx P, Abc c) (hl : P.length ≤ m + 1) (k : Nat) (hk : k < P.length) :
    stepP (lastI V) sgn P (lastI V).length (k + 1) = ps.countP (plt · ((valP sgn P (k + 1) + 1) * 8 ^ ((lastI V).length - (k + 1)), 0)) := by
  rw [stepP_eq hP _ _ (by omega), valP_eq hP _ (by omega), lastI_len, R.len, R.high (revs_lt P) (k + 1) (by omega), ← R.cnt]
  simp
theorem ringB_eq (hW : ∀ c ∈ tx W, Abc c) (hP : ∀ c ∈ tx P, Abc c) (k j : Nat) (h0 : 0 < k) (hk : k ≤ P.length) :
    ringB (W ++ W) P k (j : Int) = ((((figs W) ++ (figs W)).drop j).take k == (figs P).drop ((figs P).length - k)) := by
  unfold ringB
  have e1 := tx_slice (W ++ W) j (j + k)
  have e2 := tx_slice_last P k h0 hk
  rw [tx_append, show j + k - j = k by omega] at e1
  have h1 : Txt.slice (W ++ W) (some (j : Int)) (some ((j : Int) + (k : Int))) = Txt.slice (W ++ W) (some (j : Int)) (some ((j + k : Nat) : Int)) := by simp
  rw [h1, figs_len, ← List.map_append, ← List.map_drop, ← List.map_take, ← List.map_drop, ← e1, ← e2, Bool.eq_iff_iff, beq_iff_eq, beq_iff_eq]
  constructor
  · intro h; rw [h]
  · intro h
    refine str_ext (figs_inj ?_ ?_ h)
    · rw [e1]
      intro c hc
      rcases List.mem_append.mp (List.mem_of_mem_drop (List.mem_of_mem_take hc)) with h | h <;> exact hW c h
    · rw [e2]
      intro c hc
      exact hP c (List.mem_of_mem_drop hc)
theorem Row.ringP (R : Row (figs W) m V ps) (hn : W.length = m + 1) (hW : ∀ c ∈ tx W, Abc c) (hP : ∀ c ∈ tx P, Abc c) (hl : P.length ≤ m + 1) (k : Nat) (hk : k < P.length) :
    (stepP (lastI V) sgn P (lastI V).length (k + 1) : Int) - stepP (lastI V) sgn P 0 (k + 1) = ((List.range (lastI V).length).countP (fun (j : Nat) => ringB (W ++ W) P (k + 1) (j : Int)) : Nat) := by
  have h := R.ring (figs_lt W) (by rw [figs_len, hn]) (figs_lt P) (k + 1) (by omega) (by rw [figs_len]; omega)
  rw [stepP_eq hP _ _ (by omega), stepP_eq hP _ _ (by omega), lastI_len, R.len, h]
  have e : (List.range (m + 1)).countP (fun (j : Nat) => ringB (W ++ W) P (k + 1) (j : Int)) = (List.range (m + 1)).countP (fun j => ((figs W ++ figs W).drop j).take (k + 1) == (figs P).drop ((figs P).length - (k + 1))) := by
    refine List.countP_congr fun j _ => ?_
    rw [ringB_eq hW hP (k + 1) j (by omega) (by omega)]
  rw [e]
  omega
theorem pre_take (p l : List Nat) : p.isPrefixOf l = (l.take p.length == p) := by
  rw [Bool.eq_iff_iff, List.isPrefixOf_iff_prefix, beq_iff_eq, List.prefix_iff_eq_take]
  exact ⟨fun h => h.symm, fun h => h.symm⟩
/-- what _law_often comes to -/
theorem Row.found (R : Row (figs W) m V ps) (hn : W.length = m + 1) (hW : ∀ c ∈ tx W, Abc c) (hP : ∀ c ∈ tx P, Abc c) (hl : P.length ≤ m + 1) (h0 : 0 < P.length) :
    (stepP (lastI V) sgn P (lastI V).length P.length : Int) - stepP (lastI V) sgn P 0 P.length = ((List.range (tx W).length).countP (fun j => (tx P).isPrefixOf ((tx W ++ tx W).drop j)) : Nat) := by
  have h := R.ringP hn hW hP hl (P.length - 1) (by omega)
  rw [show P.length - 1 + 1 = P.length by omega] at h
  rw [h, lastI_len, R.len, tx_len, hn]
  congr 1
  refine List.countP_congr fun j _ => ?_
  rw [pre_take, tx_len]
  unfold ringB
  have e1 := tx_slice (W ++ W) j (j + P.length)
  have e2 := tx_slice_last P P.length h0 (Nat.le_refl _)
  rw [tx_append, show j + P.length - j = P.length by omega] at e1
  rw [Nat.sub_self, List.drop_zero] at e2
  have h1 : Txt.slice (W ++ W) (some (j : Int)) (some ((j : Int) + (P.length : Int))) = Txt.slice (W ++ W) (some (j : Int)) (some ((j + P.length : Nat) : Int)) := by simp
  rw [h1, ← e1, beq_iff_eq, beq_iff_eq]
  constructor
  · intro h; rw [h, e2]
  · intro h; exact str_ext (h.trans e2.symm)
end
end
/-! part B20 -/
set_option maxRecDepth 100000
section
open PySem PySem.W PyProof.Rows PySem.Calls PySem.Spec

def sg (x : Int) : Nat := (tx sgn).getD (x.fmod 5).toNat 0
theorem fmod5 (x : Int) : 0 ≤ x.fmod 5 ∧ x.fmod 5 < 5 := by
  rw [Int.fmod_eq_emod_of_nonneg _ (by decide)]
  exact ⟨Int.emod_nonneg _ (by decide), Int.emod_lt_of_pos _ (by decide)⟩
theorem item_sg (x : Int) : Txt.item (Str.ofString "\n\x0d.ab") (x.fmod 5) = ⟨#[sg x]⟩ := by
  obtain ⟨h1, h2⟩ := fmod5 x
  have := tx_item sgn (x.fmod 5).toNat (by show _ < 5; omega)
  rw [Int.toNat_of_nonneg h1] at this
  exact this
theorem sg_abc (x : Int) : Abc (sg x) := by
  obtain ⟨h1, h2⟩ := fmod5 x
  unfold sg
  obtain ⟨k, hk⟩ : ∃ k, (x.fmod 5).toNat = k := ⟨_, rfl⟩
  have hk5 : k < 5 := by omega
  rw [hk]
  rcases (show k = 0 ∨ k = 1 ∨ k = 2 ∨ k = 3 ∨ k = 4 by omega) with rfl | rfl | rfl | rfl | rfl
  · exact .inl rfl
  · exact .inr (.inl rfl)
  · exact .inr (.inr (.inl rfl))
  · exact .inr (.inr (.inr (.inl rfl)))
  · exact .inr (.inr (.inr (.inr rfl)))

theorem filter_all (vs : List Value) : vs.filter (fun _ => true) = vs := List.filter_eq_self.mpr fun _ _ => rfl
theorem pd_int_str {G : Int → Str} : ∀ {vs ys : List Value} {xs : List Int}, IntsAre vs xs → Paired (fun v y => ∀ x t, v = Value.int x t → ∃ t', y = Value.str (G x) t') vs ys → StrsAre ys (xs.map G)
  | _, _, _, .nil, .nil => .nil
  | _, _, _, .cons x t h, .cons f p => by
    obtain ⟨t', rfl⟩ := f x t rfl
    exact .cons _ _ (pd_int_str h p)
theorem pd_str_str {G : Str → Str} : ∀ {vs ys : List Value} {xs : List Str}, StrsAre vs xs → Paired (fun v y => ∀ x t, v = Value.str x t → ∃ t', y = Value.str (G x) t') vs ys → StrsAre ys (xs.map G)
  | _, _, _, .nil, .nil => .nil
  | _, _, _, .cons x t h, .cons f p => by
    obtain ⟨t', rfl⟩ := f x t rfl
    exact .cons _ _ (pd_str_str h p)
theorem pd_str_int {G : Str → Int} : ∀ {vs ys : List Value} {xs : List Str}, StrsAre vs xs → Paired (fun v y => ∀ x t, v = Value.str x t → ∃ t', y = Value.int (G x) t') vs ys → IntsAre ys (xs.map G)
  | _, _, _, .nil, .nil => .nil
  | _, _, _, .cons x t h, .cons f p => by
    obtain ⟨t', rfl⟩ := f x t rfl
    exact .cons _ _ (pd_str_int h p)
theorem filter_strs (q : Str → Bool) : ∀ {vs : List Value} {xs : List Str}, StrsAre vs xs → (vs.filter fun v => match v with | .str x _ => q x | _ => false).length = xs.countP q
  | _, _, .nil => rfl
  | _, _, .cons x t h => by
    rw [List.countP_cons, ← filter_strs q h]
    by_cases hq : q x = true
    · rw [List.filter_cons_of_pos (by exact hq), if_pos hq]; rfl
    · rw [List.filter_cons_of_neg (by exact hq), if_neg hq]; rfl
theorem pairs_ints {news : Led} : ∀ {vs ys : List Value} {ps : List (Int × Int)}, PairsAre news vs ps → Paired (fun v y => ∀ p, PairAt news v p → ∃ t', y = Value.int p.2 t') vs ys → IntsAre ys (ps.map (·.2))
  | _, _, _, .nil, .nil => .nil
  | _, _, _, .cons hp h, .cons f p => by
    obtain ⟨t', rfl⟩ := f _ hp
    exact .cons _ _ (pairs_ints h p)

/-! the text, and what is made of it -/
theorem glued_tx (ys : List Str) : tx (Txt.join ⟨#[]⟩ ys) = ys.flatMap tx := by
  show (Builtin.Str.glued ⟨#[]⟩ ys).cps.toList = _
  rw [StrLaws.glued_eq_join, join_flat]; rfl
theorem glued_crlf : ∀ ys : List Str, tx (Str.join (Str.ofString "\x0d\n") ys) = joinC (ys.map tx)
  | [] => rfl
  | [x] => rfl
  | x :: y :: r => by
    have ih := glued_crlf (y :: r)
    show tx (x ++ Str.ofString "\x0d\n" ++ Str.join (Str.ofString "\x0d\n") (y :: r)) = tx x ++ 13 :: 10 :: joinC ((y :: r).map tx)
    rw [tx_append, tx_append, ih, List.append_assoc]; rfl
theorem join_crlf (ys : List Str) : tx (Txt.join (Str.ofString "\x0d\n") ys) = joinC (ys.map tx) := by
  rw [← glued_crlf]
  show tx (Builtin.Str.glued (Str.ofString "\x0d\n") ys) = _
  rw [StrLaws.glued_eq_join]
theorem sg_flat (xs : List Int) : (xs.map fun x => (⟨#[sg x]⟩ : Str)).flatMap tx = xs.map sg := by
  induction xs with
  | nil => rfl
  | cons x r ih => rw [List.map_cons, List.flatMap_cons, ih]; rfl
theorem sum_ones (xs : List Int) : ((xs.map fun x => (⟨#[sg x]⟩ : Str)).map (·.length)).sum = xs.length := by
  induction xs with
  | nil => rfl
  | cons x r ih =>
    rw [List.map_cons, List.map_cons, List.sum_cons, ih, List.length_cons]
    show 1 + r.length = _
    omega
/-- a row as it is sent -/
def stuffS (x : Str) : Str := if (tx x).head? = some 46 then Str.ofString "." ++ x else x
theorem tx_stuff (x : Str) : tx (stuffS x) = stuff (tx x) := by
  unfold stuffS stuff
  split
  · rw [tx_append]; rfl
  · rfl
theorem dot_head (x : Str) : (Txt.slice x none (some 1) == Str.ofString ".") = decide ((tx x).head? = some 46) := by
  have e := tx_slice_to x 1
  have e1 : tx (Txt.slice x none (some 1)) = (tx x).take 1 := e
  rw [Bool.eq_iff_iff, beq_iff_eq, decide_eq_true_eq]
  constructor
  · intro h
    rw [h] at e1
    cases hx : tx x with
    | nil => rw [hx] at e1; exact absurd e1 (by decide)
    | cons c r =>
      rw [hx] at e1
      have : (46 : Nat) = c := by
        have e2 : [46] = [c] := e1
        simpa using e2
      rw [← this]; rfl
  · intro h
    refine str_ext ?_
    rw [e1]
    cases hx : tx x with
    | nil => rw [hx] at h; cases h
    | cons c r =>
      rw [hx] at h
      have : c = 46 := by simpa using h
      rw [this]; rfl
theorem sum_stuff (ys : List Str) : ((ys.map stuffS).map (·.length)).sum ≤ (ys.map (·.length)).sum + ys.length := by
  induction ys with
  | nil => simp
  | cons y r ih =>
    simp only [List.map_cons, List.sum_cons, List.length_cons]
    have : (stuffS y).length ≤ y.length + 1 := by
      rw [← tx_len, tx_stuff, ← tx_len]
      unfold stuff
      split <;> simp
    omega
theorem rowsB_size : ∀ (t : List Nat) (b : Bool), ((rowsB b t).map List.length).sum ≤ t.length ∧ (rowsB b t).length ≤ t.length + 1
  | [], _ => by simp [rowsB]
  | c :: r, b => by
    have h1 := rowsB_size r false
    have h2 := rowsB_size r true
    rw [rowsB]
    split
    · split
      · simp only [List.length_cons]; omega
      · simp only [List.map_cons, List.sum_cons, List.length_cons, List.length_nil]; omega
    · split
      · simp only [List.map_cons, List.sum_cons, List.length_cons, List.length_nil]; omega
      · obtain ⟨x, xs, e⟩ := rowsB_cons false r
        rw [e] at h1 ⊢
        simp only [List.map_cons, List.sum_cons, List.length_cons] at h1 ⊢
        omega
theorem rows_size {ys : List Str} {t : List Nat} (h : ys.map tx = rowsR t) : (ys.map (·.length)).sum ≤ t.length ∧ ys.length ≤ t.length + 1 := by
  have h1 := rowsB_size t false
  rw [← rowsR_eq, ← h] at h1
  rw [List.length_map, List.map_map] at h1
  have e : (List.length ∘ tx) = (fun y : Str => y.length) := funext fun y => tx_len y
  rw [e] at h1
  exact h1
theorem sent_eq {ys : List Str} {t : List Nat} {wire : Str} (h : ys.map tx = rowsR t) (hw : tx wire = quoted t) : wire = Txt.join (Str.ofString "\x0d\n") (ys.map stuffS) := by
  refine str_ext ?_
  rw [hw, quoted_rows, join_crlf, ← h, List.map_map, List.map_map]
  congr 1
  exact List.map_congr_left fun y _ => (tx_stuff y).symm
theorem count_dots {ys : List Str} {t : List Nat} (h : ys.map tx = rowsR t) : ys.countP (fun x => decide ((tx x).head? = some 46)) = (rowsR t).countP hd46 := by
  rw [← h, List.countP_map]
  refine List.countP_congr fun y _ => ?_
  simp [hd46]

/-! figures -/
theorem dsum_rev : ∀ f : List Nat, dsum 3 (f.map fun (d : Nat) => (d : Int)).reverse = (val8 f : Nat)
  | [] => rfl
  | d :: r => by
    rw [List.map_cons, List.reverse_cons, dsum_append, dsum_rev r, val8]
    have : dsum 3 [(d : Int)] = d := by simp [dsum]
    rw [this]
    simp only [List.length_reverse, List.length_map]
    rw [show (2 : Int) ^ (3 * r.length) = ((8 ^ r.length : Nat) : Int) by rw [Int.pow_mul]; simp]
    rw [← Int.natCast_mul, ← Int.natCast_add, Nat.mul_comm, Nat.add_comm]
theorem signs_go : ∀ {cs : List Nat} {us : List Value}, us.length = cs.length → (∀ (j : Nat) v, us[j]? = some v → ∃ c u, cs[j]? = some c ∧ v = Value.str ⟨#[c]⟩ u) → StrsAre us (cs.map fun c => (⟨#[c]⟩ : Str))
  | [], [], _, _ => .nil
  | [], _ :: _, h, _ => by simp at h
  | _ :: _, [], h, _ => by simp at h
  | c :: cs, v :: us, hl, h => by
    obtain ⟨d, u, h1, rfl⟩ := h 0 v rfl
    have h2 : c = d := by simpa using h1
    subst h2
    exact .cons _ _ (signs_go (by simpa using hl) fun j v hv => h (j + 1) v hv)
theorem signs_list {y : Str} {us : List Value} (hl : us.length = y.cps.size) (h : ∀ j v, us[j]? = some v → SignAt y j v) : StrsAre us ((tx y).map fun c => (⟨#[c]⟩ : Str)) :=
  signs_go (by rw [tx_len]; exact hl) fun j v hv => by
    obtain ⟨c, u, h1, h2⟩ := h j v hv
    exact ⟨c, u, by rw [← tx_get]; exact h1, h2⟩
theorem figs_ints : ∀ {l : List Nat}, (∀ c ∈ l, Abc c) → (l.map fun c => (⟨#[c]⟩ : Str)).map (Txt.find sgn) = (l.map fig).map fun (d : Nat) => (d : Int)
  | [], _ => rfl
  | c :: r, h => by
    simp only [List.map_cons]
    rw [find_sgn (h c (.head _))]
    have := figs_ints fun c hc => h c (.tail _ hc)
    rw [this]
theorem pairs_at {news : Led} {vs : List Value} {ps : List (Int × Int)} (h : PairsAre news vs ps) {i : Nat} {v : Value} (hv : vs.toArray[i]? = some v) : ∃ p, PairAt news v p := by
  have hv2 : vs[i]? = some v := by simpa using hv
  clear hv
  induction h generalizing i with
  | nil => simp at hv2
  | cons hp r ih =>
    cases i with
    | zero =>
      obtain rfl := Option.some.inj hv2
      exact ⟨_, hp⟩
    | succ i => exact ih (i := i) (by simpa using hv2)
theorem pairAt_same {h₀ h : Heap} {L : Addr} {news : Led} {a : Addr} {p : Int × Int} {t u : Tok} {n : Nat} (N : News h₀ L h news) (hm : (a, tupOf [.int p.1 t, .int p.2 u] n) ∈ news) {q : Int × Int} (hq : PairAt news (.ref a) q) : ∃ t', Value.int p.2 u = Value.int q.2 t' := by
  obtain ⟨a', t', u', n', e, hm'⟩ := hq
  cases e
  have h1 := (N _ hm).1
  rw [(N _ hm').1] at h1
  simp only [Option.some.injEq, Obj.mk.injEq, Data.seq.injEq] at h1
  obtain ⟨_, _, ⟨h2, _⟩, _⟩ := h1
  have h3 := congrArg Array.toList h2
  simp at h3
  exact ⟨u', by rw [h3.2.1, h3.2.2]⟩
theorem begun_round (x : Str) : num x.length (val8 (figs x)) x.length = val8 (figs x) := by
  have := num8_round (figs x) (figs_lt x)
  rw [figs_len] at this
  rw [num_eq]; exact this
theorem begun_lt (x : Str) : val8 (figs x) < 8 ^ x.length := by
  have := val8_lt (figs x) (figs_lt x)
  rw [figs_len] at this
  exact this
theorem PairL.mono {news news' : Led} {l : Addr} {ps : List (Int × Int)} (h : PairL news l ps) (k : ∀ p ∈ news, p ∈ news') : PairL news' l ps := by
  obtain ⟨vs, n, h1, h2⟩ := h
  exact ⟨vs, n, k _ h1, h2.mono' fun a o ha _ => k _ ha⟩
/-- the text that is sent -/
structure TextOk (T : List Nat) : Prop where
  abc : ∀ c ∈ T, Abc c
  last : ∃ u, T = u ++ [10]
  le : T.length ≤ 13
  ge : 5 ≤ T.length
theorem text_ok (xs : List Int) (h : xs.length ≤ 8) : TextOk (xs.map sg ++ [46, 97, 10, 46, 10]) where
  abc := fun c hc => by
    rcases List.mem_append.mp hc with hc | hc
    · obtain ⟨x, _, rfl⟩ := List.mem_map.mp hc
      exact sg_abc x
    · simp only [List.mem_cons, List.not_mem_nil, or_false] at hc
      unfold Abc
      omega
  last := ⟨xs.map sg ++ [46, 97, 10, 46], by rw [List.append_assoc]; rfl⟩
  le := by simp; omega
  ge := by simp
section
variable {T : List Nat} {wire : Str}
theorem TextOk.sent (K : TextOk T) (hw : tx wire = quoted T) : (∀ c ∈ tx wire, Abc c) ∧ wire.length ≤ 52 ∧ 5 ≤ wire.length := by
  have h1 := quoted_le T
  have h2 := quoted_ge T
  have h3 := K.le
  have h4 := K.ge
  rw [← hw, tx_len] at h1 h2
  refine ⟨?_, by omega, by omega⟩
  rw [hw]
  exact quoted_abc K.abc
theorem TextOk.ring (K : TextOk T) (hw : tx wire = quoted T) :
    (List.range (tx wire).length).countP (fun j => [13, 10, 46, 46].isPrefixOf ((tx wire ++ tx wire).drop j)) = (rowsR T).countP hd46 ∧
    (List.range (tx wire).length).countP (fun j => [13, 10, 46, 13, 10].isPrefixOf ((tx wire ++ tx wire).drop j)) = 0 := by
  obtain ⟨u, rfl⟩ := K.last
  rw [hw]
  exact ⟨ring4 u, ring5 u⟩
end
theorem abc_drawn (a b c : Int) : ∀ x ∈ tx ((⟨#[sg a]⟩ : Str) ++ ⟨#[sg b]⟩ ++ ⟨#[sg c]⟩), Abc x := by
  have e : tx ((⟨#[sg a]⟩ : Str) ++ ⟨#[sg b]⟩ ++ ⟨#[sg c]⟩) = [sg a, sg b, sg c] := by rw [tx_append, tx_append]; rfl
  rw [e]
  intro x hx
  simp only [List.mem_cons, List.not_mem_nil, or_false] at hx
  rcases hx with rfl | rfl | rfl <;> exact sg_abc _
theorem len_drawn (a b c : Int) : ((⟨#[sg a]⟩ : Str) ++ ⟨#[sg b]⟩ ++ ⟨#[sg c]⟩).length = 3 := by
  rw [← tx_len, tx_append, tx_append]; rfl
theorem abc4 : ∀ x ∈ tx (Str.ofString "\x0d\n.."), Abc x := by
  intro x hx
  have : x ∈ [13, 10, 46, 46] := hx
  simp only [List.mem_cons, List.not_mem_nil, or_false] at this
  unfold Abc; omega
theorem abc5 : ∀ x ∈ tx (Str.ofString "\x0d\n.\x0d\n"), Abc x := by
  intro x hx
  have : x ∈ [13, 10, 46, 13, 10] := hx
  simp only [List.mem_cons, List.not_mem_nil, or_false] at this
  unfold Abc; omega
/-- _law_often, with its premises shown -/
theorem oftenR {w : World} {mg mb : Str → Option Value} {news : Led} {lt ll : Addr} {ps : List (Int × Int)} {V : List Nat} {m : Nat} {W P : Str} {t1 t2 t3 : Tok} (R : Row (figs W) m V ps) (hps : PairL news lt ps) (hri : Rising ps) (hpl : ps.length < 64) (hl : IntL news ll (lastI V))
    (hm : W.length = m + 1) (hWl : W.length ≤ 52) (hWa : ∀ c ∈ tx W, Abc c) (hPa : ∀ c ∈ tx P, Abc c) (hP0 : 0 < P.length) (hP5 : P.length ≤ 5) (hPW : P.length ≤ W.length) :
    Sp w mg mb 150 [.ref lt, .ref ll, .str W t1, .str P t2, .str sgn t3] 4 40 news (fun r news' => (∀ q ∈ news, q ∈ news') ∧ ∃ t', r = .int ((List.range (tx W).length).countP (fun j => (tx P).isPrefixOf ((tx W ++ tx W).drop j)) : Nat) t') := by
  have hll : (lastI V).length = W.length := by rw [lastI_len, R.len, hm]
  have h := often (w := w) (mg := mg) (mb := mb) (t1 := t1) (t2 := t2) (t3 := t3) hps hri hpl hl (by omega) (show W.length < 200 by omega) (show P.length ≤ (lastI V).length by omega) (fg_small hPa) (val_small hPa (by omega)) (R.lowP hPa (by omega)) (R.highP hPa (by omega)) (R.ringP hm hWa hPa (by omega))
  rw [R.found hm hWa hPa (by omega) hP0] at h
  exact h
end
/-! part B19 -/
set_option maxRecDepth 100000
section
open PySem PySem.W PyProof.Rows PySem.Calls PySem.Spec
local macro_rules | `(tactic| walk_at "st") => `(tactic| ((with_reducible show wpAny _ _ (eval (Expr.Name _ _) (compEnvC _ _ _ _)) _ _ _); first
      | refine nmCL (by assumption) (by assumption) ?_
      | refine nmCC (by assumption) rfl (by assumption) (by assumption) ?_))

theorem strs_at {vs : List Value} {xs : List Str} (h : StrsAre vs xs) {i : Nat} {v : Value} (hv : vs.toArray[i]? = some v) : ∃ y t, v = Value.str y t ∧ y ∈ xs := by
  have hv2 : vs[i]? = some v := by simpa using hv
  clear hv
  induction h generalizing i with
  | nil => simp at hv2
  | cons y t r ih =>
    cases i with
    | zero =>
      have : Value.str y t = v := by simpa using hv2
      exact ⟨y, t, this.symm, .head _⟩
    | succ i =>
      obtain ⟨y', t', e, m⟩ := ih (i := i) (by simpa using hv2)
      exact ⟨y', t', e, .tail _ m⟩
theorem str_in_sum {xs : List Str} {y : Str} (h : y ∈ xs) : y.length ≤ (xs.map (·.length)).sum := by
  induction xs with
  | nil => cases h
  | cons x r ih =>
    rw [List.map_cons, List.sum_cons]
    rcases List.mem_cons.mp h with rfl | h
    · omega
    · have := ih h; omega
theorem look_eq {α : Type} {x : Option α} {a b : α} {P : Prop} (h1 : x = some a) (h2 : x = some b) (h : a = b → P) : P := h (Option.some.inj (h1.symm.trans h2))

set_option maxHeartbeats 8000000 in
theorem lawB {w : World} {mg mb : Str → Option Value} {A : Around} {g h₁ : Heap} {L f l : Addr} {tk : Nat} {s : Shared} {o : Obj} {vs : List Value} {ns : List Int} {m₀ : Str → Option Value}
    {name qual : Str} {params : Arguments} {body : List Stmt} {scope : Scope} {dV kV doc pm cdv cdv2 ct oc : Value} {an od : Option Addr} {osl : Array (Option Value)}
    (ho : (hd.heap_39 w.params).lookup 155 = some ⟨oc, od, .func (fnX name qual params body scope [] dV kV doc pm an cdv ct), osl⟩)
    (hdp : A.depth + 200 < recursionLimit) (hu : A.units + 1200 < cLine) (hh : A.handled = none) (G : Gl w mg mb g) (F : Fr g L h₁ m₀) (hm₀ : m₀ "script" = some (.ref l))
    (N : News g L h₁ [(L + 1, o), (47, tabObj #[]), (54, tabObj #[])]) (hlt : @LT.lt Nat _ 54 L) (od : o.data = .cell none) (hl : g.IsList l vs.toArray) (hi : IntsAre vs ns) (hlen : ns.length ≤ 63) :
    wpAny (model PySem.Challenge.rw_pe0203_01.row.prog w) (A.deeper (envX qual scope L f cdv2 (cellsFrom (L + 1) scope.names []))) (execs body (envX qual scope L f cdv2 (cellsFrom (L + 1) scope.names [])))
      (Ret g L s (fun r news' => r = .bool true ∧ Tabs news')) (fun _ _ => False) { s with heap := h₁, toks := tk } := by
  refine look_eq ho (by k_is) fun e => ?_
  clear ho
  cases e
  have F₁ := fr_named [(Str.ofString "script", Value.ref l)] F (al_cons hm₀ al_nil)
  clear F
  repeat' walk_at "st"
  refine storeC F₁ N rfl (.head _) od rfl rfl ?_
  intro h₂ osg F₂ N₂ dsg
  have hsg : (L + 1, osg) ∈ upd [(L + 1, o), (47, tabObj #[]), (54, tabObj #[])] (L + 1) osg := .head _
  have hT : Tabs (upd [(L + 1, o), (47, tabObj #[]), (54, tabObj #[])] (L + 1) osg) :=
    ⟨⟨_, upd_mem (.tail _ (.head _)) (neN (by dsimp only; omega)), .inl rfl⟩, ⟨_, upd_mem (.tail _ (.tail _ (.head _))) (neN (by dsimp only; omega)), .inl rfl⟩⟩
  have hlt2 : ∀ p ∈ upd [(L + 1, o), (47, tabObj #[]), (54, tabObj #[])] (L + 1) osg, p.1 = L + 1 ∨ p.1 = 47 ∨ p.1 = 54 := fun p hp => by
    rcases List.mem_cons.mp hp with rfl | hp
    · exact .inl rfl
    · rcases List.mem_cons.mp (List.mem_filter.mp hp).1 with rfl | hp
      · exact .inl rfl
      · rcases List.mem_cons.mp hp with rfl | hp
        · exact .inr (.inl rfl)
        · rcases List.mem_cons.mp hp with rfl | hp
          · exact .inr (.inr rfl)
          · cases hp
  generalize upd [(L + 1, o), (47, tabObj #[]), (54, tabObj #[])] (L + 1) osg = LED at N₂ hsg hT hlt2
  clear N F₁
  dsimp only
  repeat' walk_at "st"
  refine GM.join ?_
  repeat' walk_at "st"
  refine listComp_K (h₀ := g) (L := L) (by assumption) (fun _ => true) (fun v y => ∀ x t, v = Value.int x t → ∃ t', y = Value.str ⟨#[sg x]⟩ t') (by rfl) (by decide +kernel) rfl (by decide +kernel) (by decide +kernel) ?_
  repeat' walk_at "st"
  dsimp only
  refine kmk_slice_ints (s := { s with heap := h₂, toks := _ }) F₂ N₂ (Fr.lst F₂ hl) .none (.int 8 _) hi (kmk_upto hi (by decide)) rfl ?_ (by with_unfolding_all rfl) (by intro _; with_unfolding_all rfl) (by simp [sizeLine, hi.length]; omega)
  intro D ws h₃ F₃ N₃ hD hws _ _
  repeat' walk_at "st"
  dsimp only
  refine compGo_list (its := ws.toArray) hh (.head _) (by simp [sizeLine, hws.length]; omega) F₃ N₃ ?_ ?_ ?_
  · intro C i v s₃ m₃ E' hv hmx F' N'
    exact tests_none (v := v) rfl
  · intro C i v s₃ m₃ E' hv _ hmx F' N'
    obtain ⟨x, hx⟩ : ∃ x, (ns.take (Int.toNat 8))[i]? = some x := by
      have h1 := (Array.getElem?_eq_some_iff.mp hv).1
      simp only [List.size_toArray, hws.length] at h1
      exact ⟨_, List.getElem?_eq_getElem h1⟩
    obtain ⟨tv, htv⟩ := hws.get i x hx
    have hv2 : ws[i]? = some v := by simpa using hv
    rw [hv2] at htv
    obtain rfl := Option.some.inj htv
    have hsg1 : (L + 1, osg) ∈ (D, listOf ws.toArray 0) :: LED := .tail _ hsg
    obtain ⟨hf0, hf5⟩ := fmod5 x
    repeat' walk_at "st"
    refine PyProof.Rows.mod_int (by decide) ?_
    repeat' walk_at "st"
    refine item_str (by simp [fitsSsize]; omega) (by show -(5 : Int) ≤ _; omega) (by show _ < (5 : Int); omega) ?_
    intro _
    rw [item_sg]
    refine ⟨fun x' t' e => ?_, s₃.heap, _, rfl, fun _ _ e => e⟩
    cases e
    exact ⟨_, rfl⟩
  · intro hp₁ D₁ h₄ tk₄ ys kk F₄ N₄ hne hpa
    rw [filter_all] at hpa
    have hst := pd_int_str hws hpa
    have hnl : (ns.take (Int.toNat 8)).length ≤ 8 := by rw [List.length_take]; exact Nat.min_le_left _ _
    obtain ⟨xs, hxs⟩ : ∃ xs, ns.take (Int.toNat 8) = xs := ⟨_, rfl⟩
    rw [hxs] at hst hnl hws
    have hsum := sum_ones xs
    repeat' walk_at "st"
    dsimp only [List.cons_append, List.nil_append]
    refine join_list (news_lst N₄ (.head _)) hst ?_ ?_
    · rw [sum_ones]
      show xs.length + _ * 0 ≤ _
      omega
    intro tt kt
    have htj : tx (Txt.join (Str.ofString "") (xs.map fun x => (⟨#[sg x]⟩ : Str))) = xs.map sg := by
      rw [← sg_flat]; exact glued_tx _
    repeat' walk_at "st"
    refine PyProof.Rows.add_str ?_ (by rw [← tx_len, htj, List.length_map]; show _ + 5 ≤ _; simp [sizeLine]; omega)
    intro tt2 kt2
    have htx : tx (Txt.join (Str.ofString "") (xs.map fun x => (⟨#[sg x]⟩ : Str)) ++ Str.ofString ".a\n.\n") = xs.map sg ++ [46, 97, 10, 46, 10] := by
      rw [tx_append, htj]; rfl
    have K := text_ok xs hnl
    rw [← htx] at K
    generalize Txt.join (Str.ofString "") (xs.map fun x => (⟨#[sg x]⟩ : Str)) ++ Str.ofString ".a\n.\n" = text at K htx
    have N₅ : News g L h₄ LED := fun p hp => N₄ p (.tail _ (.tail _ hp))
    clear N₄ hne hst hpa htj hsum
    repeat' walk_at "st"
    have hKl := K.le
    rw [tx_len] at hKl
    refine rowsS (by omega) _ _ _ _ _ _ _ G (by assumption) (by assumption) (by show A.depth + 1 + 2 < _; omega) (by show A.units + 3 + 20 < _; omega) hh ?_
    rintro rv news₆ h₆ tk₆ F₆ N₆ ⟨hs₆, DR, rows, rfl, hDR, hrows⟩
    repeat' walk_at "st"
    refine quoteS (by omega) _ _ _ _ _ _ _ G (by assumption) (by assumption) (by show A.depth + 1 + 4 < _; omega) (by show A.units + 3 + 40 < _; omega) hh ?_
    rintro rv news₇ h₇ tk₇ F₇ N₇ ⟨hs₇, wire, tw, rfl, hwire⟩
    have hsg₇ := hs₇ _ (hs₆ _ hsg)
    have hT₇ : Tabs news₇ := (hT.mono hs₆).mono hs₇
    have hDR₇ : StrL news₇ DR rows := let ⟨a, b, c, d⟩ := hDR; ⟨a, b, hs₇ _ c, d⟩
    repeat' walk_at "st"
    refine GM.join ?_
    repeat' walk_at "st"
    refine listComp_K (h₀ := g) (L := L) (by assumption) (fun _ => true) (fun v y => ∀ x t, v = Value.str x t → ∃ t', y = Value.str (stuffS x) t') (by rfl) (by decide +kernel) rfl (by decide +kernel) (by decide +kernel) ?_
    repeat' walk_at "st"
    dsimp only
    obtain ⟨rvs, rn, hRm, hRs⟩ := hDR₇
    have hrl := strsAre_len hRs
    obtain ⟨hz1, hz2⟩ := rows_size hrows
    rw [tx_len] at hz1 hz2
    refine compGo_list (its := rvs.toArray) hh hRm (by simp [sizeLine]; omega) (by assumption) (by assumption) ?_ ?_ ?_
    · intro C i v s₃ m₃ E' hv hmx F' N'
      exact tests_none (v := v) rfl
    · intro C i v s₃ m₃ E' hv _ hmx F' N'
      obtain ⟨y, ty, rfl, hy⟩ := strs_at hRs hv
      have hyl : y.length ≤ 13 := by
        have := str_in_sum hy
        omega
      repeat' walk_at "st"
      refine slK2_ns (by assumption) (by assumption) ?_ (hsz := by simp [sizeLine]; omega)
      intro h₈ t₈ k₈ F₈ N₈ K₈
      repeat' walk_at "st"
      refine PyProof.Rows.eq_str ?_
      rw [dot_head]
      repeat' walk_at "st"
      refine if_split (fun hq => ?_) (fun hq => ?_)
      · have hq2 := of_decide_eq_true hq
        repeat' walk_at "st"
        refine PyProof.Rows.add_str ?_ (by show 1 + _ ≤ _; simp [sizeLine]; omega)
        intro t₉ k₉
        refine ⟨fun x' t' e => ?_, h₈, _, rfl, K₈⟩
        cases e
        exact ⟨_, by unfold stuffS; rw [if_pos hq2]⟩
      · have hq2 : ¬ (tx y).head? = some 46 := fun q => hq (decide_eq_true q)
        repeat' walk_at "st"
        refine ⟨fun x' t' e => ?_, h₈, _, rfl, K₈⟩
        cases e
        exact ⟨_, by unfold stuffS; rw [if_neg hq2]⟩
    · intro hp₁ D₁ h₈ tk₈ ys kk F₈ N₈ hne hpa
      rw [filter_all] at hpa
      have hst := pd_str_str hRs hpa
      repeat' walk_at "st"
      dsimp only [List.cons_append, List.nil_append]
      refine join_list (news_lst N₈ (.head _)) hst ?_ ?_
      · have := sum_stuff rows
        rw [List.length_map]
        show _ + _ * 2 ≤ _
        omega
      intro tt kt
      repeat' walk_at "st"
      refine PyProof.Rows.ne_str ?_
      rw [← sent_eq hrows hwire, bne_self_eq_false]
      repeat' walk_at "st"
      have N₉ : News g L h₈ news₇ := fun p hp => N₈ p (.tail _ hp)
      clear N₈ hne hpa hst
      obtain ⟨hWa, hWl, hWg⟩ := K.sent hwire
      repeat' walk_at "st"
      refine assignComp_K (h₀ := g) (L := L) (by assumption) (fun _ => true) (fun v y => ∀ x t, v = Value.str x t → ∃ t', y = Value.int (Txt.find sgn x) t') rfl (by rfl) (by rfl) (by decide +kernel) rfl (by decide +kernel) (by decide +kernel) (by rfl) (by rfl) ?_
      repeat' walk_at "st"
      dsimp only
      have hWs : wire.cps.size ≤ 52 := hWl
      refine compGo_str hh (by simp [sizeLine]; omega) (by assumption) (by assumption) ?_ ?_ ?_
      · intro C i v s₃ m₃ E' hv hmx F' N'
        exact tests_none (v := v) rfl
      · intro C i v s₃ m₃ E' hv _ hmx F' N'
        obtain ⟨c, tc, hc, rfl⟩ := hv
        repeat' walk_at "st"
        refine GM.find ?_
        repeat' walk_at "st"
        refine SC.find ?_
        refine ⟨fun x' t' e => ?_, s₃.heap, _, rfl, fun _ _ e => e⟩
        cases e
        exact ⟨_, rfl⟩
      · intro hp₂ DF h₁₀ tk₁₀ fs kf us F₁₀ N₁₀ hne hul hus hpa
        rw [filter_all] at hpa
        have hfs := pd_str_int (signs_list hul hus) hpa
        rw [figs_ints hWa] at hfs
        have F := fr_named [(Str.ofString "script", Value.ref l), (Str.ofString "rows", Value.ref DR), (Str.ofString "wire", Value.str wire tw), (Str.ofString "figures", Value.ref DF)] F₁₀ (al_cons rfl (al_cons rfl (al_cons rfl (al_cons rfl al_nil))))
        clear F₁₀ hpa hus hul us
        dsimp only
        obtain ⟨fv, rfl⟩ : ∃ fv : List Value, fs = fv.toArray := ⟨fs.toList, by simp⟩
        rw [List.toList_toArray] at hfs
        obtain ⟨fi, hfi⟩ : ∃ fi, ((tx wire).map fig).map (fun (d : Nat) => (d : Int)) = fi := ⟨_, rfl⟩
        have hfl : fi.length = wire.length := by rw [← hfi, List.length_map, figs_len]
        rw [hfi] at hfs
        repeat' walk_at "st"
        refine neg_int ?_
        repeat' walk_at "st"
        dsimp only
        refine krv_ints (s := { s with heap := h₁₀, toks := _ }) F N₁₀ (news_lst N₁₀ (.head _)) (.int _ _) hfs ?_ (by with_unfolding_all rfl) (by intro _; with_unfolding_all rfl) (by simp [sizeLine, hfs.length]; omega)
        intro D' ws₂ h₁₁ F₁₁ N₁₁ hD' hws₂ _
        have hT₁₁ : Tabs ((D', listOf (List.toArray ws₂) 0) :: (DF, listOf fv.toArray kf) :: news₇) := hT₇.mono fun p hp => .tail _ (.tail _ hp)
        repeat' walk_at "st"
        refine d2i (n := 3) ⟨_, _, .head _, hws₂⟩ (by rw [List.length_reverse]; omega) (by decide) (fun d hd => ?_) hT₁₁.2 (tab_ne N₁₁ (.head _) hT₁₁.2 (by simp)) _ _ _ _ _ _ _ G (by assumption) (by assumption) (by show A.depth + 1 + 70 < _; omega) (by show A.units + 3 + 600 < _; omega) hh ?_
        · rw [List.mem_reverse, ← hfi] at hd
          obtain ⟨e, he, rfl⟩ := List.mem_map.mp hd
          have := figs_lt wire e he
          rw [Int.natAbs_natCast]
          exact Nat.lt_of_lt_of_le (Nat.lt_of_lt_of_le this (by decide : 8 ≤ 2 ^ 3)) (Nat.pow_le_pow_right (by decide) (by decide))
        rintro rv news₁₂ h₁₂ tk₁₂ F₁₂ N₁₂ ⟨hk₁₂, hT54, tb, rfl⟩
        have hT₁₂ : Tabs news₁₂ := ⟨hT₁₁.1.keep (P' := 54) (by decide) (Nat.le_refl _) hk₁₂, hT54⟩
        have hsg₁₂ := hk₁₂ _ (.tail _ (.tail _ hsg₇)) (neN (by dsimp only; omega))
        have hDF₁₂ := hk₁₂ _ (.tail _ (.head _)) (tab_ne N₁₁ (.tail _ (.head _)) hT₁₁.2 (by simp))
        have hDR₁₂ := hk₁₂ _ (.tail _ (.tail _ hRm)) (tab_ne N₁₁ (.tail _ (.tail _ hRm)) hT₁₁.2 (by simp))
        rw [← hfi, dsum_rev]
        repeat' walk_at "st"
        refine len_list (news_lst (by assumption) hDF₁₂) (by simp [hfs.length]; omega) ?_
        repeat' walk_at "st"
        rw [show fv.toArray.size = wire.length by rw [List.size_toArray, hfs.length, hfl]]
        refine turnsS (by omega) (by omega) (begun_lt wire) (begun_round wire) hT₁₂ _ _ _ _ _ _ _ G (by assumption) (by assumption) (by show A.depth + 1 + 100 < _; omega) (by show A.units + 3 + 800 < _; omega) hh ?_
        rintro rv news₁₃ h₁₃ tk₁₃ F₁₃ N₁₃ ⟨hk₁₃, hT₁₃, DT, ps, rfl, hps, hri, hperm⟩
        have hsg₁₃ := hk₁₃ _ hsg₁₂ (neN (by dsimp only; omega)) (neN (by dsimp only; omega))
        have hDF₁₃ := news_keepT N₁₂ hT₁₂ hk₁₃ hDF₁₂ (by simp)
        have hDR₁₃ := news_keepT N₁₂ hT₁₂ hk₁₃ hDR₁₂ (by simp)
        obtain ⟨m, hm⟩ : ∃ m, wire.length = m + 1 := ⟨wire.length - 1, by omega⟩
        have hfm : (figs wire).length = m + 1 := by rw [figs_len, hm]
        obtain ⟨V, R⟩ : ∃ V, Row (figs wire) m V ps := row_of (figs_lt wire) hfm hri (by rw [← hm]; exact hperm)
        have hpl : ps.length = wire.length := by rw [hperm.length_eq]; simp
        obtain ⟨pvs, pn, hPm, hPs⟩ := id hps
        have hpvl := hPs.length
        repeat' walk_at "st"
        refine assignComp_K (h₀ := g) (L := L) (by assumption) (fun _ => true) (fun v y => ∀ p, PairAt news₁₃ v p → ∃ t', y = Value.int p.2 t') rfl (by rfl) (by rfl) (by decide +kernel) rfl (by decide +kernel) (by decide +kernel) (by rfl) (by rfl) ?_
        repeat' walk_at "st"
        dsimp only
        refine compGo_list (its := pvs.toArray) hh hPm (by simp [sizeLine]; omega) (by assumption) (by assumption) ?_ ?_ ?_
        · intro C i v s₃ m₃ E' hv hmx F' N'
          exact tests_none (v := v) rfl
        · intro C i v s₃ m₃ E' hv _ hmx F' N'
          obtain ⟨p, a, tp, up, np, rfl, hap⟩ := pairs_at hPs hv
          repeat' walk_at "st"
          refine item_tupleL (j := 1) ⟨_, (N' _ hap).1, rfl, _, rfl⟩ (by decide) (by decide) (by rfl) (by rfl) ?_
          exact ⟨fun q hq => pairAt_same N' hap hq, s₃.heap, _, rfl, fun _ _ e => e⟩
        · intro hp₃ DL h₁₄ tk₁₄ lz kl F₁₄ N₁₄ hne₂ hpa
          rw [filter_all] at hpa
          have hls := pairs_ints hPs hpa
          rw [R.last] at hls
          have F₂ := fr_named [(Str.ofString "script", Value.ref l), (Str.ofString "rows", Value.ref DR), (Str.ofString "wire", Value.str wire tw), (Str.ofString "figures", Value.ref DF), (Str.ofString "begun", Value.int (val8 (figs wire) : Nat) tb), (Str.ofString "turns", Value.ref DT), (Str.ofString "last", Value.ref DL)] F₁₄ (al_cons rfl (al_cons rfl (al_cons rfl (al_cons rfl (al_cons rfl (al_cons rfl (al_cons rfl al_nil)))))))
          clear F₁₄ hpa
          dsimp only
          obtain ⟨lv, rfl⟩ : ∃ lv : List Value, lz = lv.toArray := ⟨lz.toList, by simp⟩
          rw [List.toList_toArray] at hls
          have hLl : (lastI V).length = wire.length := by rw [lastI_len, R.len, hm]
          have hsgL : (L + 1, osg) ∈ (DL, listOf lv.toArray kl) :: news₁₃ := .tail _ hsg₁₃
          have hDFL : (DF, listOf fv.toArray kf) ∈ (DL, listOf lv.toArray kl) :: news₁₃ := .tail _ hDF₁₃
          have hDRL : (DR, listOf rvs.toArray rn) ∈ (DL, listOf lv.toArray kl) :: news₁₃ := .tail _ hDR₁₃
          have hDLL : (DL, listOf lv.toArray kl) ∈ (DL, listOf lv.toArray kl) :: news₁₃ := .head _
          have hpsL : PairL ((DL, listOf lv.toArray kl) :: news₁₃) DT ps := hps.mono fun p hp => .tail _ hp
          have hTL : Tabs ((DL, listOf lv.toArray kl) :: news₁₃) := hT₁₃.mono fun p hp => .tail _ hp
          generalize (DL, listOf lv.toArray kl) :: news₁₃ = LD at N₁₄ hsgL hDFL hDRL hDLL hpsL hTL
          clear hps hPm hPs hT₁₃ hDR₁₃ hDF₁₃ hsg₁₃ hk₁₃ hk₁₂ hT₁₂ hsg₁₂ hDF₁₂ hDR₁₂ hT54 hT₁₁
          repeat' walk_at "st"
          refine isTrue_or ?_
          repeat' walk_at "st"
          refine len_list (news_lst (by assumption) hDLL) (by simp [hls.length]; omega) ?_
          repeat' walk_at "st"
          refine len_list (news_lst (by assumption) hDFL) (by simp [hfs.length]; omega) ?_
          repeat' walk_at "st"
          rw [List.size_toArray, List.size_toArray, hls.length, hfs.length, hLl, hfl]
          refine if_neg' (by simp) ?_
          refine isTrue_or ?_
          repeat' walk_at "st"
          refine newTuple_K (by assumption) (by assumption) ?_
          intro T h₁₅ F₁₅ N₁₅ hT₁₅
          repeat' walk_at "st"
          refine bl_pair (q := ((val8 (figs wire) : Nat), 0)) (hpsL.mono fun p hp => .tail _ hp) ⟨T, _, _, _, rfl, .head _⟩ hri (by omega) _ _ _ _ _ _ _ G (by assumption) (by assumption) (by show A.depth + 1 + 1 < _; omega) (by show A.units + 3 + 8 < _; omega) hh ?_
          rintro rv news₁₆ h₁₆ tk₁₆ F₁₆ N₁₆ ⟨rfl, t₁₆, rfl⟩
          have N₁₇ : News g L h₁₆ LD := fun p hp => N₁₆ p (.tail _ hp)
          clear N₁₆ N₁₅ F₁₅ hT₁₅
          repeat' walk_at "st"
          refine heard ⟨_, _, hDLL, hls⟩ (by omega) (fun i hi => R.goP_lt (figs_lt wire) hfm i hi) _ _ _ _ _ _ _ G (by assumption) (by assumption) (by show A.depth + 1 + 3 < _; omega) (by show A.units + 3 + 24 < _; omega) hh ?_
          rintro rv news₁₈ h₁₈ tk₁₈ F₁₈ N₁₈ ⟨hs₁₈, DH, rfl, hvs, hvn, hHm, hHi⟩
          rw [R.heard (figs_lt wire) hfm] at hHi
          repeat' walk_at "st"
          refine ne_intsK (news_lst (by assumption) hHm) hHi (news_lst (by assumption) (hs₁₈ _ hDFL)) hfs (by show A.units + 3 + 64 < _; omega) ?_
          rw [hfi]
          repeat' walk_at "st"
          refine if_neg' (by simp) ?_
          refine isTrue_or_nil ?_
          have hsg₁₈ := hs₁₈ _ hsgL
          have hps₁₈ := hpsL.mono hs₁₈
          have hDL₁₈ := hs₁₈ _ hDLL
          have hDR₁₈ := hs₁₈ _ hDRL
          have hT₁₈ := hTL.mono hs₁₈
          clear N₁₇ hsgL hpsL hDLL hDRL hTL hDFL hHm hHi
          repeat' walk_at "st"
          refine PyProof.Rows.LSm.sum_ints (by assumption) (by assumption) hh (Fr.lst (by assumption) hl) hi ?_
          intro h₁₉ tk₁₉ t₁₉ F₁₉ N₁₉
          obtain ⟨tot, htot⟩ : ∃ tot, ns.sum = tot := ⟨_, rfl⟩
          rw [htot]
          repeat' walk_at "st"
          refine PyProof.Rows.mod_int (by decide) ?_
          repeat' walk_at "st"
          try dsimp only
          have hf1 := fmod5 tot
          refine item_str (by simp [fitsSsize]; omega) (by show -(5 : Int) ≤ _; omega) (by show _ < (5 : Int); omega) ?_
          intro _
          try dsimp only
          rw [item_sg]
          repeat' walk_at "st"
          try dsimp only
          refine PyProof.Rows.floordiv_int (by decide) ?_
          repeat' walk_at "st"
          try dsimp only
          refine PyProof.Rows.mod_int (by decide) ?_
          repeat' walk_at "st"
          try dsimp only
          have hf2 := fmod5 (tot.fdiv 5)
          refine item_str (by simp [fitsSsize]; omega) (by show -(5 : Int) ≤ _; omega) (by show _ < (5 : Int); omega) ?_
          intro _
          try dsimp only
          rw [item_sg]
          repeat' walk_at "st"
          try dsimp only
          refine PyProof.Rows.add_str ?_ (by show 1 + 1 ≤ _; decide)
          intro ta ka
          repeat' walk_at "st"
          try dsimp only
          refine PyProof.Rows.floordiv_int (by decide) ?_
          repeat' walk_at "st"
          try dsimp only
          refine PyProof.Rows.mod_int (by decide) ?_
          repeat' walk_at "st"
          try dsimp only
          have hf3 := fmod5 (tot.fdiv 25)
          refine item_str (by simp [fitsSsize]; omega) (by show -(5 : Int) ≤ _; omega) (by show _ < (5 : Int); omega) ?_
          intro _
          try dsimp only
          rw [item_sg]
          repeat' walk_at "st"
          try dsimp only
          refine PyProof.Rows.add_str ?_ (by show 2 + 1 ≤ _; decide)
          intro tb2 kb2
          have hda := abc_drawn tot (tot.fdiv 5) (tot.fdiv 25)
          have hdl := len_drawn tot (tot.fdiv 5) (tot.fdiv 25)
          generalize (⟨#[sg tot]⟩ : Str) ++ ⟨#[sg (tot.fdiv 5)]⟩ ++ ⟨#[sg (tot.fdiv 25)]⟩ = drawn at hda hdl
          repeat' walk_at "st"
          try dsimp only
          --M1
          refine oftenR (W := wire) (P := drawn) R hps₁₈ hri (by omega) ⟨_, _, hDL₁₈, hls⟩ hm hWl hWa hda (by omega) (by omega) (by omega) _ _ _ _ _ _ _ G (by assumption) (by assumption) (by show A.depth + 1 + 4 < _; omega) (by show A.units + 3 + 40 < _; omega) hh ?_
          rintro rv news₂₀ h₂₀ tk₂₀ F₂₀ N₂₀ ⟨hs₂₀, t₂₀, rfl⟩
          have N₂₁ : News g L h₂₀ news₁₈ := fun p hp => N₂₀ p (hs₂₀ p hp)
          clear N₂₀ hs₂₀
          repeat' walk_at "st"
          try dsimp only
          refine if_neg' (by simp) ?_
          repeat' walk_at "st"
          try dsimp only
          --M2
          refine oftenR (W := wire) (P := Str.ofString "\x0d\n..") R hps₁₈ hri (by omega) ⟨_, _, hDL₁₈, hls⟩ hm hWl hWa abc4 (by decide) (by decide) (by show 4 ≤ _; omega) _ _ _ _ _ _ _ G (by assumption) (by assumption) (by show A.depth + 1 + 4 < _; omega) (by show A.units + 3 + 40 < _; omega) hh ?_
          rintro rv news₂₂ h₂₂ tk₂₂ F₂₂ N₂₂ ⟨hs₂₂, t₂₂, rfl⟩
          have N₂₃ : News g L h₂₂ news₁₈ := fun p hp => N₂₂ p (hs₂₂ p hp)
          clear N₂₂ hs₂₂
          obtain ⟨hr4, hr5⟩ := K.ring hwire
          rw [show tx (Str.ofString "\x0d\n..") = [13, 10, 46, 46] from rfl, hr4, ← count_dots hrows]
          repeat' walk_at "st"
          try dsimp only
          --M3
          refine listComp_K (h₀ := g) (L := L) (by assumption) (fun v => match v with | .str x _ => decide ((tx x).head? = some 46) | _ => false) (fun _ _ => True) (by rfl) (by decide +kernel) rfl (by decide +kernel) (by decide +kernel) ?_
          repeat' walk_at "st"
          try dsimp only
          refine compGo_list (its := rvs.toArray) hh hDR₁₈ (by simp [sizeLine]; omega) (by assumption) (by assumption) ?_ ?_ ?_
          · intro C i v s₃ m₃ E' hv hmx F' N'
            obtain ⟨y, ty, rfl, hy⟩ := strs_at hRs hv
            have hyl : y.length ≤ 13 := by
              have := str_in_sum hy
              omega
            refine tests_one ?_
            repeat' walk_at "st"
            refine slK2_ns (by assumption) (by assumption) ?_ (hsz := by simp [sizeLine]; omega)
            intro h₂₄ t₂₄ k₂₄ F₂₄ N₂₄ K₂₄
            repeat' walk_at "st"
            refine PyProof.Rows.eq_str ?_
            rw [dot_head]
            repeat' walk_at "st"
            exact ⟨rfl, h₂₄, _, rfl, K₂₄⟩
          · intro C i v s₃ m₃ E' hv _ hmx F' N'
            repeat' walk_at "st"
            exact ⟨trivial, s₃.heap, s₃.toks, rfl, fun _ _ e => e⟩
          · intro hp₄ DD h₂₅ tk₂₅ dz kd F₂₅ N₂₅ hne₃ hpa
            have hdz : dz.size = rows.countP (fun x => decide ((tx x).head? = some 46)) := Array.length_toList.symm.trans (hpa.length.symm.trans (filter_strs _ hRs))
            repeat' walk_at "st"
            refine len_list (news_lst N₂₅ (.head _)) ?_ ?_
            · rw [hdz]
              have := List.countP_le_length (p := fun x => decide ((tx x).head? = some 46)) (l := rows)
              omega
            rw [hdz]
            have N₂₆ : News g L h₂₅ news₁₈ := fun p hp => N₂₅ p (.tail _ hp)
            clear N₂₅ hne₃ hpa hdz
            repeat' walk_at "st"
            try dsimp only
            refine if_neg' (by simp) ?_
            repeat' walk_at "st"
            try dsimp only
            --M4
            refine oftenR (W := wire) (P := Str.ofString "\x0d\n.\x0d\n") R hps₁₈ hri (by omega) ⟨_, _, hDL₁₈, hls⟩ hm hWl hWa abc5 (by decide) (by decide) (by show 5 ≤ _; omega) _ _ _ _ _ _ _ G (by assumption) (by assumption) (by show A.depth + 1 + 4 < _; omega) (by show A.units + 3 + 40 < _; omega) hh ?_
            rintro rv news₂₇ h₂₇ tk₂₇ F₂₇ N₂₇ ⟨hs₂₇, t₂₇, rfl⟩
            rw [show tx (Str.ofString "\x0d\n.\x0d\n") = [13, 10, 46, 13, 10] from rfl, hr5]
            repeat' walk_at "st"
            --M5
            exact ⟨_, _, _, _, _, rfl, F₂₇, N₂₇, rfl, rfl, hT₁₈.mono hs₂₇⟩
end
end
end Mine
section
open PySem PySem.W PyProof.Rows PySem.Calls PySem.Spec
set_option maxHeartbeats 4000000 in
theorem PySem.Challenge.cw_pe0203_01_holds : PySem.Challenge.rw_pe0203_01.Holds := by
  refine Mine.hd ?_
  k_go0
  rename Top _ _ _ _ _ (ghostOf _ _) => TT
  rename Frag.In _ (ghostOf _ _) => XX
  rename CodeHd _ (Prod.fst (58, 54)) _ => cB
  rename CodeHd _ (Prod.fst (51, 47)) _ => cA
  rename Fr (ghostOf _ _) _ _ _ => FF
  rename News (ghostOf _ _) _ _ _ => NN
  rename IntsAre _ _ => hII
  rename Heap.IsList (ghostOf _ _) _ _ => hLL
  rename _ < _ ∧ _ < _ => l00
  rename ¬ (_ < _) => hcc
  rename Obj.data _ = Data.cell _ => hcell
  rename Shared.gens _ = #[] => hgens
  rename World => w
  have G : Mine.Gl w _ _ _ := ⟨XX, TT.g, TT.b, TT.nolimit, TT.builtins, TT.bmain, cA, cB⟩
  refine wpAny_mono (Mine.lawB (by k_is) (by decide +kernel) (by decide +kernel) rfl G FF ?_ NN l00.2 hcell hLL hII (by omega)) (fun fl s' hs => ?_) (fun _ _ hx => hx.elim)
  · rfl
  · obtain ⟨h', tk, m', news', v, rfl, F', N', hv, rfl, hT⟩ := hs
    refine ⟨⟨.inl ⟨.bool true, .bool true, [], ?_, fun _ => rfl, .bool true, ?_, fun _ => ⟨.nil, fun _ h => nomatch h⟩⟩, F'.keep, rfl, hgens⟩, ?_⟩
    · exact congrArg (fun v => (Except.ok (Flow.ret v) : Result)) hv
    · kc_post
    · exact ⟨let ⟨ps, a, _⟩ := hT.1; ⟨ps, (N' _ a).1⟩, let ⟨ps, a, _⟩ := hT.2; ⟨ps, (N' _ a).1⟩, trivial⟩
end
