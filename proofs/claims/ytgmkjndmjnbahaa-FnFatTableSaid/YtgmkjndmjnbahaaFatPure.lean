/- Tables of clusters as bytes. -/
import Derived.Test.YtgmkjndmjnbahaaLePure
namespace Go.Proofs.Ytgmkjndmjnbahaa.X
set_option linter.unusedVariables false
open Go
theorem pAt_gt {D xs : List UInt8} {o i : Nat} (h : o + xs.length ≤ D.length) : (pAt D o xs)[i]? = if o ≤ i ∧ i < o + xs.length then xs[i - o]? else D[i]? := by
  unfold pAt
  have ht : (D.take o).length = o := by simp; omega
  by_cases h1 : i < o
  · rw [if_neg (by omega), List.append_assoc, List.getElem?_append_left (by omega), List.getElem?_take, if_pos h1]
  · by_cases h2 : i < o + xs.length
    · rw [if_pos ⟨by omega, h2⟩, List.append_assoc, List.getElem?_append_right (by omega), List.getElem?_append_left (by omega), ht]
    · rw [if_neg (by omega), List.getElem?_append_right (by simp; omega), List.getElem?_drop]
      congr 1
      simp only [List.length_append, ht]; omega
/-- N words of k bytes each. -/
def wB (k N : Nat) (f : Nat → Int) : List UInt8 := (List.range N).flatMap fun j => leB k (f j)
theorem wB_succ (k N : Nat) (f : Nat → Int) : wB k (N + 1) f = wB k N f ++ leB k (f N) := by
  unfold wB
  rw [List.range_succ, List.flatMap_append]; simp
theorem wB_len (k : Nat) (f : Nat → Int) : ∀ N, (wB k N f).length = N * k
  | 0 => by simp [wB]
  | N + 1 => by rw [wB_succ, List.length_append, wB_len k f N, leB_len, Nat.succ_mul]
theorem wB_get {k : Nat} {f : Nat → Int} (hk : 0 < k) {p : Nat} : ∀ N, p < N * k → (wB k N f)[p]? = (leB k (f (p / k)))[p % k]?
  | 0, h => by omega
  | N + 1, h => by
    rw [wB_succ]
    rcases Nat.lt_or_ge p (N * k) with h1 | h1
    · rw [List.getElem?_append_left (by rw [wB_len]; exact h1)]
      exact wB_get hk N h1
    · rw [List.getElem?_append_right (by rw [wB_len]; exact h1), wB_len]
      rw [Nat.succ_mul] at h
      have e1 : p / k = N := by
        refine Nat.div_eq_of_lt_le ?_ ?_
        · exact h1
        · rw [Nat.succ_mul]; exact h
      have e2 : p % k = p - N * k := by
        have := Nat.div_add_mod p k
        rw [e1, Nat.mul_comm] at this; omega
      rw [e1, e2]
theorem wB_put {k N j : Nat} {f : Nat → Int} {v : Int} (hk : 0 < k) (hj : j < N) : pAt (wB k N f) (j * k) (leB k v) = wB k N (fun x => if x = j then v else f x) := by
  have hjk : j * k + k ≤ N * k := by
    have := Nat.mul_le_mul_right k (show j + 1 ≤ N by omega)
    rw [Nat.succ_mul] at this; exact this
  refine List.ext_getElem? fun p => ?_
  rw [pAt_gt (by rw [leB_len, wB_len]; exact hjk), leB_len]
  by_cases hp : p < N * k
  · rw [wB_get hk N hp, wB_get hk N hp]
    have hd := Nat.div_add_mod p k
    have hm := Nat.mod_lt p hk
    by_cases hc : j * k ≤ p ∧ p < j * k + k
    · have e1 : p / k = j := Nat.div_eq_of_lt_le hc.1 (by rw [Nat.succ_mul]; exact hc.2)
      rw [if_pos hc, e1, if_pos rfl]
      congr 1
      rw [e1, Nat.mul_comm] at hd; omega
    · rw [if_neg hc, if_neg]
      intro e
      apply hc
      rw [e, Nat.mul_comm] at hd
      omega
  · have h1 : (wB k N f)[p]? = none := List.getElem?_eq_none (by rw [wB_len]; omega)
    have h2 : (wB k N (fun x => if x = j then v else f x))[p]? = none := List.getElem?_eq_none (by rw [wB_len]; omega)
    rw [if_neg (by omega), h1, h2]
theorem leB_zero : ∀ k, leB k 0 = List.replicate k 0
  | 0 => rfl
  | k + 1 => by
    show b8 (0 % 256) :: leB k (0 / 256) = _
    rw [show (0 : Int) / 256 = 0 by decide, leB_zero k]; rfl
theorem wB_zero (k : Nat) : ∀ N, wB k N (fun _ => 0) = List.replicate (N * k) 0
  | 0 => by simp [wB]
  | N + 1 => by rw [wB_succ, wB_zero k N, leB_zero, List.replicate_append_replicate, Nat.succ_mul]
theorem wB_word {k N j : Nat} {f : Nat → Int} (hk : 0 < k) (hj : j < N) : ((wB k N f).drop (j * k)).take k = leB k (f j) := by
  refine List.ext_getElem? fun i => ?_
  rw [List.getElem?_take]
  by_cases hi : i < k
  · have hjk : j * k + k ≤ N * k := by
      have := Nat.mul_le_mul_right k (show j + 1 ≤ N by omega)
      rw [Nat.succ_mul] at this; exact this
    rw [if_pos hi, List.getElem?_drop, wB_get hk N (by omega)]
    have e1 : (j * k + i) / k = j := Nat.div_eq_of_lt_le (by omega) (by rw [Nat.succ_mul]; omega)
    have e2 : (j * k + i) % k = i := by
      have := Nat.div_add_mod (j * k + i) k
      rw [e1, Nat.mul_comm] at this; omega
    rw [e1, e2]
  · rw [if_neg hi, List.getElem?_eq_none (by rw [leB_len]; omega)]
/-- The words that have been laid when number i is to be laid. -/
def fI (h0 h1 : Int) (f : Nat → Int) (i j : Nat) : Int := if j = 0 then h0 else if j = 1 then h1 else if j < i then f j else 0
theorem fI_next {h0 h1 : Int} {f : Nat → Int} {i : Nat} (hi : 2 ≤ i) : (fun x => if x = i then f i else fI h0 h1 f i x) = fI h0 h1 f (i + 1) := by
  funext x
  unfold fI
  by_cases e : x = i
  · subst e; rw [if_pos rfl, if_neg (by omega), if_neg (by omega), if_pos (by omega)]
  · rw [if_neg e]
    by_cases h0' : x = 0
    · rw [if_pos h0', if_pos h0']
    · by_cases h1' : x = 1
      · rw [if_neg h0', if_pos h1', if_neg h0', if_pos h1']
      · rw [if_neg h0', if_neg h1', if_neg h0', if_neg h1']
        by_cases hl : x < i
        · rw [if_pos hl, if_pos (by omega)]
        · rw [if_neg hl, if_neg (by omega)]
theorem fI_head {h0 h1 : Int} {f : Nat → Int} {k N : Nat} (hk : 0 < k) (hN : 2 ≤ N) : pAt (pAt (List.replicate (N * k) 0) 0 (leB k h0)) k (leB k h1) = wB k N (fI h0 h1 f 2) := by
  rw [← wB_zero]
  have e1 := wB_put (k := k) (N := N) (j := 0) (f := fun _ => 0) (v := h0) hk (by omega)
  rw [Nat.zero_mul] at e1
  rw [e1]
  have e2 := wB_put (k := k) (N := N) (j := 1) (f := fun x => if x = 0 then h0 else 0) (v := h1) hk (by omega)
  rw [Nat.one_mul] at e2
  rw [e2]
  congr 1
  funext x
  unfold fI
  by_cases h0' : x = 0
  · subst h0'; rfl
  · by_cases h1' : x = 1
    · subst h1'; rfl
    · rw [if_neg h1', if_neg h0', if_neg h0', if_neg h1', if_neg (by omega)]
theorem fI_at {h0 h1 : Int} {f : Nat → Int} {i j : Nat} (hj : 2 ≤ j) (h : j < i) : fI h0 h1 f i j = f j := by
  unfold fI; rw [if_neg (by omega), if_neg (by omega), if_pos h]
/-! ### clusters in memory -/
/-- A row of numbers. -/
def clR (k : IntKind) (N : Nat) (f : Nat → Int) : List Value := (List.range N).map fun j => .int k (f j)
theorem clR_len (k : IntKind) (N : Nat) (f : Nat → Int) : (clR k N f).length = N := by simp [clR]
theorem clR_get {k : IntKind} {N : Nat} {f : Nat → Int} {j : Nat} (h : j < N) : (clR k N f)[j]? = some (.int k (f j)) := by
  unfold clR; rw [List.getElem?_map, List.getElem?_range h]; rfl
theorem clR_zero (k : IntKind) (N : Nat) : List.replicate N (Value.int k 0) = clR k N fun _ => 0 := by
  unfold clR
  rw [List.map_const', List.length_range]
theorem clR_set {k : IntKind} {N j : Nat} {f : Nat → Int} {v : Int} : (clR k N f).set j (.int k v) = clR k N (fun x => if x = j then v else f x) := by
  refine List.ext_getElem? fun i => ?_
  rw [List.getElem?_set]
  unfold clR
  simp only [List.getElem?_map, List.length_map, List.length_range]
  by_cases e : j = i
  · subst e
    rw [if_pos rfl]
    split
    · rename_i h; rw [List.getElem?_range h]; simp
    · rename_i h; rw [List.getElem?_eq_none (by simpa using h)]; rfl
  · rw [if_neg e]
    rcases Nat.lt_or_ge i N with h | h
    · rw [List.getElem?_range h]; simp [Ne.symm e]
    · rw [List.getElem?_eq_none (by simpa using h)]; rfl
/-- The clusters that have been set when number i is to be set. -/
def gI (f : Nat → Int) (i j : Nat) : Int := if 2 ≤ j ∧ j < i then f j else 0
theorem gI_zero (f : Nat → Int) : gI f 2 = fun _ => 0 := by
  funext j; unfold gI; rw [if_neg (by omega)]
theorem gI_next {f : Nat → Int} {i : Nat} (hi : 2 ≤ i) : (fun x => if x = i then f i else gI f i x) = gI f (i + 1) := by
  funext x
  unfold gI
  by_cases e : x = i
  · subst e; rw [if_pos rfl, if_pos (by omega)]
  · rw [if_neg e]
    by_cases h : 2 ≤ x ∧ x < i
    · rw [if_pos h, if_pos (by omega)]
    · rw [if_neg h, if_neg (by omega)]
theorem gI_same {f : Nat → Int} {i : Nat} (h : f i = 0) : gI f i = gI f (i + 1) := by
  funext x
  unfold gI
  by_cases e : x = i
  · subst e
    rw [if_neg (by omega)]
    split
    · exact h.symm
    · rfl
  · by_cases h : 2 ≤ x ∧ x < i
    · rw [if_pos h, if_pos (by omega)]
    · rw [if_neg h, if_neg (by omega)]
theorem gI_at {f : Nat → Int} {i j : Nat} (hj : 2 ≤ j ∧ j < i) : gI f i j = f j := if_pos hj
theorem gI_out {f : Nat → Int} {i j : Nat} (hj : ¬ (2 ≤ j ∧ j < i)) : gI f i j = 0 := if_neg hj
/-! ### twelve bits -/
/-- A half byte, when the entries below i have been laid. -/
def nibF (f : Nat → Int) (i j : Nat) : Int := if j < 6 then (if j = 0 then 8 else 15) else if j / 3 < i then (if j % 3 = 0 then f (j / 3) % 16 else if j % 3 = 1 then f (j / 3) / 16 % 16 else f (j / 3) / 256 % 16) else 0
theorem nib_rng (f : Nat → Int) (i j : Nat) : 0 ≤ nibF f i j ∧ nibF f i j ≤ 15 := by
  unfold nibF
  split
  · split <;> omega
  · split
    · split
      · omega
      · split <;> omega
    · omega
def b12 (sz : Nat) (f : Nat → Int) (i : Nat) : List UInt8 := (List.range sz).map fun p => b8 (nibF f i (2 * p) + 16 * nibF f i (2 * p + 1))
theorem b12_len (sz : Nat) (f : Nat → Int) (i : Nat) : (b12 sz f i).length = sz := by simp [b12]
theorem b8_nat {a : Int} (h : 0 ≤ a ∧ a ≤ 255) : ((b8 a).toNat : Int) = a := by
  have := u8v_b8 (a := a) h
  unfold u8v at this
  injection this
theorem b12_get {sz : Nat} {f : Nat → Int} {i p : Nat} (h : p < sz) : (((b12 sz f i).getD p 0).toNat : Int) = nibF f i (2 * p) + 16 * nibF f i (2 * p + 1) := by
  have h1 := nib_rng f i (2 * p)
  have h2 := nib_rng f i (2 * p + 1)
  unfold b12
  rw [List.getD_eq_getElem?_getD, List.getElem?_map, List.getElem?_range h]
  exact b8_nat (by omega)
theorem nib_keep {f : Nat → Int} {i j : Nat} (h : j / 3 ≠ i ∨ j < 6) : nibF f (i + 1) j = nibF f i j := by
  unfold nibF
  split
  · rfl
  · rcases h with h | h
    · by_cases hl : j / 3 < i
      · rw [if_pos hl, if_pos (by omega)]
      · rw [if_neg hl, if_neg (by omega)]
    · omega
theorem nib_none {f : Nat → Int} {i j : Nat} (h6 : 6 ≤ j) (h : i ≤ j / 3) : nibF f i j = 0 := by
  unfold nibF; rw [if_neg (by omega), if_neg (by omega)]
theorem nib_at {f : Nat → Int} {i j : Nat} (h6 : 6 ≤ j) (h : j / 3 < i) : nibF f i j = if j % 3 = 0 then f (j / 3) % 16 else if j % 3 = 1 then f (j / 3) / 16 % 16 else f (j / 3) / 256 % 16 := by
  unfold nibF; rw [if_neg (by omega), if_pos h]
theorem set2_map {N a b : Nat} {g g' : Nat → UInt8} {x y : UInt8} (hx : a < N → x = g' a) (hy : b < N → y = g' b) (h : ∀ p, p < N → p ≠ a → p ≠ b → g p = g' p) : (((List.range N).map g).set a x).set b y = (List.range N).map g' := by
  refine List.ext_getElem? fun i => ?_
  rcases Nat.lt_or_ge i N with hi | hi
  · rw [List.getElem?_map, List.getElem?_range hi, List.getElem?_set]
    by_cases e1 : b = i
    · subst e1
      rw [if_pos rfl, if_pos (by simpa using hi), hy hi]; rfl
    · rw [if_neg e1, List.getElem?_set]
      by_cases e2 : a = i
      · subst e2
        rw [if_pos rfl, if_pos (by simpa using hi), hx hi]; rfl
      · rw [if_neg e2, List.getElem?_map, List.getElem?_range hi]
        exact congrArg some (h i hi (Ne.symm e2) (Ne.symm e1))
  · rw [List.getElem?_eq_none (by simpa using hi), List.getElem?_eq_none (by simpa using hi)]
/-- An even entry is laid. -/
theorem b12_even {sz h : Nat} {f : Nat → Int} (hh : 1 ≤ h) (hv : 0 ≤ f (2 * h) ∧ f (2 * h) ≤ 4095) : ((b12 sz f (2 * h)).set (3 * h) (b8 (f (2 * h) % 256))).set (3 * h + 1) (b8 (f (2 * h) / 256)) = b12 sz f (2 * h + 1) := by
  refine set2_map (fun _ => ?_) (fun _ => ?_) fun p _ h1 h2 => ?_
  · rw [nib_at (i := 2 * h + 1) (by omega) (by omega), nib_at (i := 2 * h + 1) (by omega) (by omega), show 2 * (3 * h) / 3 = 2 * h by omega, show (2 * (3 * h) + 1) / 3 = 2 * h by omega, if_pos (by omega), if_neg (by omega), if_pos (by omega)]
    congr 1; omega
  · rw [nib_at (i := 2 * h + 1) (by omega) (by omega), nib_none (i := 2 * h + 1) (by omega) (by omega), show 2 * (3 * h + 1) / 3 = 2 * h by omega, if_neg (by omega), if_neg (by omega)]
    congr 1; omega
  · rw [nib_keep (by omega), nib_keep (by omega)]
/-- An odd one. -/
theorem b12_odd {sz h : Nat} {f : Nat → Int} (hh : 1 ≤ h) (hv : 0 ≤ f (2 * h + 1) ∧ f (2 * h + 1) ≤ 4095) {x : Int} (hx : x = nibF f (2 * h + 1) (2 * (3 * h + 1))) : ((b12 sz f (2 * h + 1)).set (3 * h + 1) (b8 (x + 16 * (f (2 * h + 1) % 16)))).set (3 * h + 2) (b8 (f (2 * h + 1) / 16)) = b12 sz f (2 * h + 1 + 1) := by
  subst hx
  refine set2_map (fun _ => ?_) (fun _ => ?_) fun p _ h1 h2 => ?_
  · rw [nib_keep (i := 2 * h + 1) (j := 2 * (3 * h + 1)) (by omega), nib_at (i := 2 * h + 1 + 1) (j := 2 * (3 * h + 1) + 1) (by omega) (by omega), show (2 * (3 * h + 1) + 1) / 3 = 2 * h + 1 by omega, if_pos (by omega)]
  · rw [nib_at (i := 2 * h + 1 + 1) (by omega) (by omega), nib_at (i := 2 * h + 1 + 1) (by omega) (by omega), show 2 * (3 * h + 2) / 3 = 2 * h + 1 by omega, show (2 * (3 * h + 2) + 1) / 3 = 2 * h + 1 by omega, if_neg (by omega), if_pos (by omega), if_neg (by omega), if_neg (by omega)]
    congr 1; omega
  · rw [nib_keep (i := 2 * h + 1) (by omega), nib_keep (i := 2 * h + 1) (by omega)]
theorem b12_same {sz i : Nat} {f : Nat → Int} (h : f i = 0) : b12 sz f (i + 1) = b12 sz f i := by
  unfold b12
  refine List.map_congr_left fun p _ => ?_
  have key : ∀ j, nibF f (i + 1) j = nibF f i j := fun j => by
    by_cases e : j / 3 = i ∧ 6 ≤ j
    · rw [nib_none (i := i) e.2 (by omega), nib_at (i := i + 1) e.2 (by omega), e.1, h]
      split
      · rfl
      · split <;> rfl
    · exact nib_keep (by omega)
  rw [key, key]
/-- What is read of a table that was laid. -/
theorem r12_even {sz h m : Nat} {f : Nat → Int} (hh : 1 ≤ h) (hm : 2 * h < m) (hz : 3 * h + 1 < sz) (hv : 0 ≤ f (2 * h) ∧ f (2 * h) ≤ 4095) : ((((b12 sz f m).getD (3 * h) 0).toNat : Int) + 256 * (((b12 sz f m).getD (3 * h + 1) 0).toNat : Int)) % 4096 = f (2 * h) := by
  rw [b12_get (by omega), b12_get (by omega)]
  have h1 := nib_rng f m (2 * (3 * h + 1) + 1)
  rw [nib_at (j := 2 * (3 * h)) (by omega) (by omega), nib_at (j := 2 * (3 * h) + 1) (by omega) (by omega), nib_at (j := 2 * (3 * h + 1)) (by omega) (by omega), show 2 * (3 * h) / 3 = 2 * h by omega, show (2 * (3 * h) + 1) / 3 = 2 * h by omega, show 2 * (3 * h + 1) / 3 = 2 * h by omega, if_pos (by omega), if_neg (by omega), if_pos (by omega), if_neg (by omega), if_neg (by omega)]
  omega
theorem r12_odd {sz h m : Nat} {f : Nat → Int} (hh : 1 ≤ h) (hm : 2 * h + 1 < m) (hz : 3 * h + 2 < sz) (hv : 0 ≤ f (2 * h + 1) ∧ f (2 * h + 1) ≤ 4095) : ((((b12 sz f m).getD (3 * h + 1) 0).toNat : Int) + 256 * (((b12 sz f m).getD (3 * h + 2) 0).toNat : Int)) / 16 = f (2 * h + 1) := by
  rw [b12_get (by omega), b12_get (by omega)]
  have h1 := nib_rng f m (2 * (3 * h + 1))
  rw [nib_at (j := 2 * (3 * h + 1) + 1) (by omega) (by omega), nib_at (j := 2 * (3 * h + 2)) (by omega) (by omega), nib_at (j := 2 * (3 * h + 2) + 1) (by omega) (by omega), show (2 * (3 * h + 1) + 1) / 3 = 2 * h + 1 by omega, show 2 * (3 * h + 2) / 3 = 2 * h + 1 by omega, show (2 * (3 * h + 2) + 1) / 3 = 2 * h + 1 by omega, if_pos (by omega), if_neg (by omega), if_pos (by omega), if_neg (by omega), if_neg (by omega)]
  omega
theorem b12_head {sz : Nat} (hz : 3 ≤ sz) (f : Nat → Int) : (((List.replicate sz (0 : UInt8)).set 0 (b8 248)).set 1 (b8 255)).set 2 (b8 255) = b12 sz f 2 := by
  refine List.ext_getElem? fun i => ?_
  rcases Nat.lt_or_ge i sz with hi | hi
  · unfold b12
    rw [List.getElem?_map, List.getElem?_range hi, List.getElem?_set, List.getElem?_set, List.getElem?_set]
    simp only [List.length_set, List.length_replicate]
    rcases i with _ | _ | _ | i
    · rw [if_neg (by omega), if_neg (by omega), if_pos rfl, if_pos hi]; rfl
    · rw [if_neg (by omega), if_pos rfl, if_pos hi]; rfl
    · rw [if_pos rfl, if_pos hi]; rfl
    · rw [if_neg (by omega), if_neg (by omega), if_neg (by omega), List.getElem?_replicate, if_pos hi]
      show some 0 = some (b8 (nibF f 2 (2 * (i + 3)) + 16 * nibF f 2 (2 * (i + 3) + 1)))
      rw [nib_none (by omega) (by omega), nib_none (by omega) (by omega)]; rfl
  · rw [List.getElem?_eq_none (by simpa using hi), List.getElem?_eq_none (by rw [b12_len]; exact hi)]
/-! ### bits -/
theorem or_w {x y : Nat} (hx : x < 256) (hy : y < 256) : bits .or .u32 (x : Int) ((y : Int) * 256) = (x : Int) + 256 * (y : Int) := by
  have e := bor_u32 (x := x) (y := y * 256) (by omega) (by omega)
  have e2 : x ||| y * 256 = x + y * 256 := or_shift (k := 8) (by omega)
  rw [e2] at e
  have e3 : ((y * 256 : Nat) : Int) = (y : Int) * 256 := by omega
  rw [e3] at e
  rw [e]; omega
theorem bor_i64 {x y : Nat} (hx : x < 9223372036854775808) (hy : y < 9223372036854775808) : bits .or .i64 (x : Int) (y : Int) = ((x ||| y : Nat) : Int) := by
  have e : bits .or .i64 (x : Int) (y : Int) = IntKind.i64.wrap ((BitVec.ofInt 64 (x : Int) ||| BitVec.ofInt 64 (y : Int)).toNat : Int) := rfl
  have hx' : (BitVec.ofInt 64 (x : Int)).toNat = x := by rw [BitVec.toNat_ofInt]; omega
  have hy' : (BitVec.ofInt 64 (y : Int)).toNat = y := by rw [BitVec.toNat_ofInt]; omega
  have hlt : x ||| y < 9223372036854775808 := Nat.or_lt_two_pow (n := 63) hx hy
  rw [e, BitVec.toNat_or, hx', hy', w_i64 (by omega)]
theorem or_wi {x y : Nat} (hx : x < 256) (hy : y < 256) : bits .or .i64 (x : Int) ((y : Int) * 256) = (x : Int) + 256 * (y : Int) := by
  have e := bor_i64 (x := x) (y := y * 256) (by omega) (by omega)
  have e2 : x ||| y * 256 = x + y * 256 := or_shift (k := 8) (by omega)
  rw [e2] at e
  have e3 : ((y * 256 : Nat) : Int) = (y : Int) * 256 := by omega
  rw [e3] at e
  rw [e]; omega
theorem or_wd {x y : Int} (hx : 0 ≤ x ∧ x < 65536) (hy : 0 ≤ y ∧ y < 65536) : bits .or .i64 x (y * 65536) = x + 65536 * y := by
  obtain ⟨a, rfl⟩ := Int.eq_ofNat_of_zero_le hx.1
  obtain ⟨b, rfl⟩ := Int.eq_ofNat_of_zero_le hy.1
  have e := bor_i64 (x := a) (y := b * 65536) (by omega) (by omega)
  have e2 : a ||| b * 65536 = a + b * 65536 := or_shift (k := 16) (by omega)
  rw [e2] at e
  have e3 : ((b * 65536 : Nat) : Int) = (b : Int) * 65536 := by omega
  rw [e3] at e
  rw [e]; omega
theorem and_i64 {x : Int} {k : Nat} {m : Int} (hk : k ≤ 62) (hm : m = ((2 ^ k - 1 : Nat) : Int)) (hx : 0 ≤ x ∧ x < 9223372036854775808) : bits .and .i64 x m = x % ((2 ^ k : Nat) : Int) := by
  obtain ⟨a, rfl⟩ := Int.eq_ofNat_of_zero_le hx.1
  have e : bits .and .i64 (a : Int) m = IntKind.i64.wrap ((BitVec.ofInt 64 (a : Int) &&& BitVec.ofInt 64 m).toNat : Int) := rfl
  have hp : 2 ^ k ≤ 2 ^ 62 := Nat.pow_le_pow_right (by decide) hk
  have hp0 : 0 < 2 ^ k := Nat.pow_pos (by decide)
  have h1 : (BitVec.ofInt 64 (a : Int)).toNat = a := by rw [BitVec.toNat_ofInt]; omega
  have h2 : (BitVec.ofInt 64 m).toNat = 2 ^ k - 1 := by rw [hm, BitVec.toNat_ofInt]; omega
  have h3 : a % 2 ^ k < 2 ^ k := Nat.mod_lt _ hp0
  rw [e, BitVec.toNat_and, h1, h2, Nat.and_two_pow_sub_one_eq_mod, w_i64 (by omega)]
  exact Int.natCast_emod a (2 ^ k)
theorem and_u32 {x : Int} {k : Nat} {m : Int} (hk : k ≤ 32) (hm : m = ((2 ^ k - 1 : Nat) : Int)) (hx : 0 ≤ x ∧ x ≤ 4294967295) : bits .and .u32 x m = x % ((2 ^ k : Nat) : Int) := by
  obtain ⟨a, rfl⟩ := Int.eq_ofNat_of_zero_le hx.1
  have e : bits .and .u32 (a : Int) m = IntKind.u32.wrap ((BitVec.ofInt 32 (a : Int) &&& BitVec.ofInt 32 m).toNat : Int) := rfl
  have hp : 2 ^ k ≤ 2 ^ 32 := Nat.pow_le_pow_right (by decide) hk
  have hp0 : 0 < 2 ^ k := Nat.pow_pos (by decide)
  have h1 : (BitVec.ofInt 32 (a : Int)).toNat = a := by rw [BitVec.toNat_ofInt]; omega
  have h2 : (BitVec.ofInt 32 m).toNat = 2 ^ k - 1 := by rw [hm, BitVec.toNat_ofInt]; omega
  have h3 : a % 2 ^ k < 2 ^ k := Nat.mod_lt _ hp0
  have h4 : a % 2 ^ k ≤ a := Nat.mod_le _ _
  rw [e, BitVec.toNat_and, h1, h2, Nat.and_two_pow_sub_one_eq_mod, w_u32 (by omega)]
  exact Int.natCast_emod a (2 ^ k)
theorem and_u8 {x : Int} (hx : 0 ≤ x ∧ x ≤ 255) : bits .and .u8 x 15 = x % 16 := by
  obtain ⟨a, rfl⟩ := Int.eq_ofNat_of_zero_le hx.1
  have e : bits .and .u8 (a : Int) 15 = IntKind.u8.wrap ((BitVec.ofInt 8 (a : Int) &&& BitVec.ofInt 8 15).toNat : Int) := rfl
  have h1 : (BitVec.ofInt 8 (a : Int)).toNat = a := by rw [BitVec.toNat_ofInt]; omega
  have h2 : (BitVec.ofInt 8 15).toNat = 2 ^ 4 - 1 := by decide
  have h3 : a % 2 ^ 4 < 2 ^ 4 := Nat.mod_lt _ (by decide)
  rw [e, BitVec.toNat_and, h1, h2, Nat.and_two_pow_sub_one_eq_mod, w_u8 (by omega)]
  omega
theorem or_u8 {x y : Int} (hx : 0 ≤ x ∧ x ≤ 15) (hy : 0 ≤ y ∧ y ≤ 15) : bits .or .u8 x (16 * y) = x + 16 * y := by
  obtain ⟨a, rfl⟩ := Int.eq_ofNat_of_zero_le hx.1
  obtain ⟨b, rfl⟩ := Int.eq_ofNat_of_zero_le hy.1
  have e : bits .or .u8 (a : Int) (16 * (b : Int)) = IntKind.u8.wrap ((BitVec.ofInt 8 (a : Int) ||| BitVec.ofInt 8 (16 * (b : Int))).toNat : Int) := rfl
  have h1 : (BitVec.ofInt 8 (a : Int)).toNat = a := by rw [BitVec.toNat_ofInt]; omega
  have h2 : (BitVec.ofInt 8 (16 * (b : Int))).toNat = b * 2 ^ 4 := by rw [BitVec.toNat_ofInt]; omega
  rw [e, BitVec.toNat_or, h1, h2, or_shift (by omega), w_u8 (by omega)]
  omega
theorem or0_u8 {y : Int} (hy : 0 ≤ y ∧ y ≤ 255) : bits .or .u8 (bits .and .u8 0 240) y = y := by
  obtain ⟨b, rfl⟩ := Int.eq_ofNat_of_zero_le hy.1
  have e0 : bits .and .u8 0 240 = 0 := by decide
  have e : bits .or .u8 0 (b : Int) = IntKind.u8.wrap ((BitVec.ofInt 8 0 ||| BitVec.ofInt 8 (b : Int)).toNat : Int) := rfl
  have h2 : (BitVec.ofInt 8 (b : Int)).toNat = b := by rw [BitVec.toNat_ofInt]; omega
  rw [e0, e, BitVec.toNat_or, h2, show (BitVec.ofInt 8 0).toNat = 0 by decide, Nat.zero_or, w_u8 (by omega)]
/-! ### what is read -/
theorem getD_app {D Z : List UInt8} {p : Nat} (h : p < D.length) : (D ++ Z).getD p 0 = D.getD p 0 := by
  simp only [List.getD_eq_getElem?_getD]
  rw [List.getElem?_append_left h]
theorem wB_getD {k N p : Nat} {f : Nat → Int} {j q : Nat} (hk : 0 < k) (hp : p < N * k) (hj : p / k = j) (hq : p % k = q) : (wB k N f).getD p 0 = ((leB k (f j))[q]?).getD 0 := by
  rw [List.getD_eq_getElem?_getD, wB_get hk N hp, hj, hq]
theorem word16 {N j : Nat} {f : Nat → Int} (hj : j < N) (hv : 0 ≤ f j ∧ f j < 65536) : (((wB 2 N f).getD (2 * j) 0).toNat : Int) + 256 * (((wB 2 N f).getD (2 * j + 1) 0).toNat : Int) = f j := by
  rw [wB_getD (j := j) (q := 0) (by decide) (by omega) (by omega) (by omega), wB_getD (j := j) (q := 1) (by decide) (by omega) (by omega) (by omega)]
  show ((b8 (f j % 256)).toNat : Int) + 256 * ((b8 (f j / 256 % 256)).toNat : Int) = f j
  rw [b8_nat (by omega), b8_nat (by omega)]; omega
theorem word32 {N j : Nat} {f : Nat → Int} (hj : j < N) (hv : 0 ≤ f j ∧ f j < 4294967296) : ((((wB 4 N f).getD (4 * j) 0).toNat : Int) + 256 * (((wB 4 N f).getD (4 * j + 1) 0).toNat : Int)) + 65536 * ((((wB 4 N f).getD (4 * j + 2) 0).toNat : Int) + 256 * (((wB 4 N f).getD (4 * j + 2 + 1) 0).toNat : Int)) = f j := by
  rw [wB_getD (j := j) (q := 0) (by decide) (by omega) (by omega) (by omega), wB_getD (j := j) (q := 1) (by decide) (by omega) (by omega) (by omega), wB_getD (j := j) (q := 2) (by decide) (by omega) (by omega) (by omega), wB_getD (j := j) (q := 3) (by decide) (by omega) (by omega) (by omega)]
  show (((b8 (f j % 256)).toNat : Int) + 256 * ((b8 (f j / 256 % 256)).toNat : Int)) + 65536 * (((b8 (f j / 256 / 256 % 256)).toNat : Int) + 256 * ((b8 (f j / 256 / 256 / 256 % 256)).toNat : Int)) = f j
  rw [b8_nat (by omega), b8_nat (by omega), b8_nat (by omega), b8_nat (by omega)]; omega
/-- A word that is read of a row that begins so. -/
theorem wB_read {k N j : Nat} {f : Nat → Int} {Z : List UInt8} (hk : 0 < k) (hj : j < N) (hv : 0 ≤ f j ∧ f j < 256 ^ k) : leV (((wB k N f ++ Z).drop (j * k)).take k) = f j := by
  have hjk : j * k + k ≤ N * k := by
    have := Nat.mul_le_mul_right k (show j + 1 ≤ N by omega)
    rw [Nat.succ_mul] at this; exact this
  rw [List.drop_append_of_le_length (by rw [wB_len]; omega), List.take_append_of_le_length (by rw [List.length_drop, wB_len]; omega), wB_word hk hj]
  exact leV_leB k hv.1 hv.2
theorem put2F (cur : List UInt8) (o : Nat) (x : Int) (h : 0 ≤ x ∧ x ≤ 65535) : setsL cur o (leB 2 x) = (cur.set (o + (0 : Int).toNat * 1) (b8 (x % 256))).set (o + (1 : Int).toNat * 1) (b8 (x / 256)) := by
  rw [show x / 256 = x / 256 % 256 by omega]
  rfl
theorem b12_head6 {sz : Nat} (hz : 3 ≤ sz) (f : Nat → Int) : ((((((List.replicate sz (0 : UInt8)).set 0 (b8 248)).set 1 (b8 255)).set 2 (b8 15)).set 0 (b8 248)).set 1 (b8 255)).set 2 (b8 255) = b12 sz f 2 := by
  rw [← b12_head hz f]
  refine List.ext_getElem? fun i => ?_
  simp only [List.getElem?_set, List.length_set, List.length_replicate]
  rcases i with _ | _ | _ | i
  · simp
  · simp
  · simp
  · simp
/-- The place behind an even entry is free yet. -/
theorem b12_free {sz h : Nat} {f : Nat → Int} {x : UInt8} (hh : 1 ≤ h) (hz : 3 * h + 1 < sz) : ((((b12 sz f (2 * h)).set (3 * h) x).getD (3 * h + 1) 0).toNat : Int) = 0 := by
  have e : ((b12 sz f (2 * h)).set (3 * h) x).getD (3 * h + 1) 0 = (b12 sz f (2 * h)).getD (3 * h + 1) 0 := by
    simp only [List.getD_eq_getElem?_getD]
    rw [List.getElem?_set, if_neg (by omega)]
  rw [e, b12_get hz, nib_none (by omega) (by omega), nib_none (by omega) (by omega)]; rfl
theorem b12_half {sz h : Nat} {f : Nat → Int} (hh : 1 ≤ h) (hz : 3 * h + 1 < sz) : bits .and .u8 (((b12 sz f (2 * h + 1)).getD (3 * h + 1) 0).toNat : Int) 15 = nibF f (2 * h + 1) (2 * (3 * h + 1)) := by
  have h1 := nib_rng f (2 * h + 1) (2 * (3 * h + 1))
  rw [b12_get hz, nib_none (j := 2 * (3 * h + 1) + 1) (by omega) (by omega)]
  rw [and_u8 (by omega)]; omega
end Go.Proofs.Ytgmkjndmjnbahaa.X
