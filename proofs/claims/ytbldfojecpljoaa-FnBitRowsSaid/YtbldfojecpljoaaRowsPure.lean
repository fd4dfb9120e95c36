/- Rows of free bits, as plain data: what the package's walk keeps, what the reference keeps. -/
import Derived.Test.YtbldfojecpljoaaBitPure
import Derived.Test.YtbldfojecpljoaaSteps4
import Derived.DataElems
namespace Go.Proofs.Ytbldfojecpljoaa.X
open Go
set_option linter.unusedVariables false
abbrev Rw := Nat × Nat
/-- The package's state: the rows that are closed, the one that is open. -/
def fStep (bs : List UInt8) (k : Nat) (s : List Rw × Option Rw) : List Rw × Option Rw :=
  if bitAt bs k = true then (match s.2 with
    | none => s
    | some r => (s.1 ++ [r], none))
  else (match s.2 with
    | none => (s.1, some (k, 1))
    | some (p, c) => (s.1, some (p, c + 1)))
def fSt (bs : List UInt8) : Nat → List Rw × Option Rw
  | 0 => ([], none)
  | k + 1 => fStep bs k (fSt bs k)
def flush (s : List Rw × Option Rw) : List Rw := s.1 ++ s.2.toList
/-- The reference's rows. -/
def rStep (bs : List UInt8) (k : Nat) (rs : List Rw) : List Rw :=
  if bitAt bs k = true then rs
  else match rs.getLast? with
    | none => rs ++ [(k, 1)]
    | some (p, c) => if p + c = k then rs.dropLast ++ [(p, c + 1)] else rs ++ [(k, 1)]
def rSt (bs : List UInt8) : Nat → List Rw
  | 0 => []
  | k + 1 => rStep bs k (rSt bs k)
theorem f_inv (bs : List UInt8) : ∀ k, rSt bs k = flush (fSt bs k) ∧ (∀ p c, (fSt bs k).2 = some (p, c) → p + c = k) ∧ (∀ p c, (fSt bs k).1.getLast? = some (p, c) → p + c < k) ∧ (fSt bs k).1.length ≤ k
  | 0 => by simp [rSt, fSt, flush]
  | k + 1 => by
    obtain ⟨h1, h2, h3, h4⟩ := f_inv bs k
    simp only [rSt, fSt, rStep, fStep]
    rw [h1]
    generalize fSt bs k = s at h1 h2 h3 h4
    obtain ⟨fl, cur⟩ := s
    simp only [flush] at *
    by_cases hb : bitAt bs k = true
    · simp only [hb, if_true]
      cases cur with
      | none => exact ⟨rfl, by simp, fun p c h => by have := h3 p c h; omega, by simp at h4 ⊢; omega⟩
      | some r =>
        refine ⟨by simp, by simp, fun p c h => ?_, by simp; omega⟩
        simp at h
        subst h
        have := h2 p c rfl
        omega
    · simp only [hb]
      cases cur with
      | none =>
        simp only [Option.toList_none, List.append_nil]
        refine ⟨?_, ?_, fun p c h => by have := h3 p c h; omega, by simp at h4 ⊢; omega⟩
        · cases hl : fl.getLast? with
          | none => simp
          | some r =>
            obtain ⟨p, c⟩ := r
            have := h3 p c hl
            simp only [if_neg (show ¬ p + c = k by omega)]
            simp
        · intro p c h
          simp at h
          omega
      | some r =>
        obtain ⟨p, c⟩ := r
        have hk := h2 p c rfl
        simp only [Option.toList_some, List.getLast?_concat, hk, if_true, List.dropLast_concat]
        refine ⟨by simp, ?_, fun p c h => by have := h3 p c h; omega, by simp at h4 ⊢; omega⟩
        intro p' c' h
        simp at h
        omega
def rowsV (rs : List Rw) : List Value := rs.flatMap fun r => [.int .i64 (r.1 : Int), .int .i64 (r.2 : Int)]
theorem rowsV_len (rs : List Rw) : (rowsV rs).length = rs.length * 2 := by
  unfold rowsV
  induction rs with
  | nil => rfl
  | cons r l ih => simp [List.flatMap_cons, ih]; omega
theorem rowsV_snoc (rs : List Rw) (r : Rw) : rowsV (rs ++ [r]) = rowsV rs ++ [.int .i64 (r.1 : Int), .int .i64 (r.2 : Int)] := by simp [rowsV]
theorem rowsV_get : ∀ (rs : List Rw) (i : Nat) (r : Rw), rs[i]? = some r → (rowsV rs)[2 * i]? = some (.int .i64 (r.1 : Int)) ∧ (rowsV rs)[2 * i + 1]? = some (.int .i64 (r.2 : Int))
  | [], i, r, h => by simp at h
  | q :: l, 0, r, h => by simp at h; subst h; simp [rowsV]
  | q :: l, i + 1, r, h => by
    have := rowsV_get l i r (by simpa using h)
    simp only [rowsV, List.flatMap_cons, List.cons_append, List.nil_append] at this ⊢
    rw [show 2 * (i + 1) = 2 * i + 2 by omega, show 2 * i + 2 + 1 = 2 * i + 1 + 2 by omega]
    simpa using this
theorem row_at {w : World} {A : Option Addr} {i : Nat} {rs : List Rw} {r : Rw} (hc : ∀ j u, (rowsV rs)[j]? = some u → ∃ ad, A = some ad ∧ w.cell? (ad.add j) = some u) (hr : rs[i]? = some r) : ∃ ad, A = some ad ∧ w.cell? ((ad.add (i * 2)).add 0) = some (.int .i64 (r.1 : Int)) ∧ w.cell? ((ad.add (i * 2)).add 1) = some (.int .i64 (r.2 : Int)) := by
  obtain ⟨h0, h1⟩ := rowsV_get rs i r hr
  obtain ⟨ad, rfl, c0⟩ := hc _ _ h0
  obtain ⟨ad', e', c1⟩ := hc _ _ h1
  obtain rfl := Option.some.inj e'
  refine ⟨ad, rfl, ?_, ?_⟩
  · rw [Addr.add_add, show i * 2 + 0 = 2 * i by omega]; exact c0
  · rw [Addr.add_add, show i * 2 + 1 = 2 * i + 1 by omega]; exact c1
theorem row_lw {w : World} {ad : Addr} {i : Nat} {r : Rw} (h0 : w.cell? ((ad.add (i * 2)).add 0) = some (.int .i64 (r.1 : Int))) (h1 : w.cell? ((ad.add (i * 2)).add 1) = some (.int .i64 (r.2 : Int))) : ∀ j v, [Value.int .i64 (r.1 : Int), .int .i64 (r.2 : Int)][j]? = some v → w.cell? ((ad.add (i * 2)).add j) = some v := by
  intro j v hj
  match j with
  | 0 => simp at hj; subst hj; exact h0
  | 1 => simp at hj; subst hj; exact h1
  | j + 2 => simp at hj
theorem own_get {cur : List Value} {n i : Nat} {rs : List Rw} {r : Rw} (h : cur.take (n * 2) = rowsV rs) (hr : rs[i]? = some r) : cur[i * 2 + 1]? = some (.int .i64 (r.2 : Int)) := by
  have := (rowsV_get rs i r hr).2
  rw [← h, List.getElem?_take] at this
  split at this
  · rw [show i * 2 + 1 = 2 * i + 1 by omega]; exact this
  · cases this
theorem r_len (bs : List UInt8) : ∀ k, (rSt bs k).length ≤ k
  | 0 => Nat.le_refl _
  | k + 1 => by
    have ih := r_len bs k
    simp only [rSt, rStep]
    split
    · omega
    · split
      · simp; omega
      · split
        · simp; omega
        · simp; omega
theorem r_mem (bs : List UInt8) : ∀ k, ∀ r ∈ rSt bs k, r.1 + r.2 ≤ k
  | 0, r, h => by simp [rSt] at h
  | k + 1, r, h => by
    have ih := r_mem bs k
    simp only [rSt, rStep] at h
    split at h
    · have := ih r h; omega
    · split at h
      · rcases List.mem_append.1 h with h | h
        · have := ih r h; omega
        · simp at h; subst h; simp
      · rename_i p c hl
        split at h
        · rcases List.mem_append.1 h with h | h
          · have := ih r (List.dropLast_subset _ h); omega
          · simp at h; subst h; simp; omega
        · rcases List.mem_append.1 h with h | h
          · have := ih r h; omega
          · simp at h; subst h; simp
theorem r_bound {bs : List UInt8} {k i : Nat} {rs : List Rw} {r : Rw} (h : rSt bs k = rs) (hr : rs[i]? = some r) : r.1 + r.2 ≤ k := r_mem bs k r (h ▸ List.mem_of_getElem? hr)
theorem r_set {bs : List UInt8} {k : Nat} {rs : List Rw} (h : rSt bs k = rs) (hb : bitAt bs k = true) : rSt bs (k + 1) = rs := by simp [rSt, rStep, h, hb]
theorem r_grow {bs : List UInt8} {k : Nat} {rs : List Rw} {r : Rw} (h : rSt bs k = rs) (hb : ¬ bitAt bs k = true) (hr : rs[rs.length - 1]? = some r) (he : r.1 + r.2 = k) : rSt bs (k + 1) = rs.dropLast ++ [(r.1, r.2 + 1)] := by
  have hl : rs.getLast? = some r := by rw [List.getLast?_eq_getElem?]; exact hr
  simp [rSt, rStep, h, hb, hl, he]
theorem r_new {bs : List UInt8} {k : Nat} {rs : List Rw} (h : rSt bs k = rs) (hb : ¬ bitAt bs k = true) (he : ∀ r, rs[rs.length - 1]? = some r → ¬ r.1 + r.2 = k) : rSt bs (k + 1) = rs ++ [(k, 1)] := by
  simp only [rSt, rStep, h, hb]
  cases hl : rs.getLast? with
  | none => rfl
  | some r =>
    have := he r (by rw [← hl, List.getLast?_eq_getElem?])
    simp [this]
theorem rowsV_upd {cur : List Value} {cap : Nat} {rs : List Rw} {r : Rw} {c : Int} (h : cur.take (rs.length * 2) = rowsV rs) (hl : cur.length = cap * 2) (hn : rs.length ≤ cap) (hr : rs[rs.length - 1]? = some r) (hc : c = ((r.2 + 1 : Nat) : Int)) : (cur.set ((rs.length - 1) * 2 + 1) (.int .i64 c)).take (rs.length * 2) = rowsV (rs.dropLast ++ [(r.1, r.2 + 1)]) := by
  subst hc
  have hp := (List.getElem?_eq_some_iff.1 hr).1
  have hrs : rs = rs.dropLast ++ [r] := by
    have hl : rs.getLast? = some r := by rw [List.getLast?_eq_getElem?]; exact hr
    obtain ⟨l, rfl⟩ := List.getLast?_eq_some_iff.1 hl
    simp
  rw [List.take_set, h]
  have hd : rs.dropLast.length = rs.length - 1 := by simp
  rw [hrs, rowsV_snoc, List.dropLast_concat, rowsV_snoc]
  have hv : (rowsV rs.dropLast).length = (rs.length - 1) * 2 := by rw [rowsV_len, hd]
  have e : (rs.dropLast ++ [r]).length - 1 = rs.length - 1 := by simp
  rw [e, List.set_append_right _ _ (by omega), hv, show (rs.length - 1) * 2 + 1 - (rs.length - 1) * 2 = 1 by omega]
  rfl
theorem OR_upd {e : TypeId} {w0 w : World} {S : List Nat} {L : List Ent} {b cap i : Nat} {cur : List Value} {rs : List Rw} {r : Rw} {c : Int} (H : SH w0 S w (⟨b, .cells (cur.set i (.int .i64 c)).toArray e (0, 0), true⟩ :: L)) (h : cur.take (rs.length * 2) = rowsV rs) (hl : cur.length = cap * 2) (hn : rs.length ≤ cap) (hm : cap ≤ maxLen) (hr : rs[rs.length - 1]? = some r) (hi : i = (rs.length - 1) * 2 + 1) (hc : c = ((r.2 + 1 : Nat) : Int)) :
    OR e 2 w0 S w L (some ⟨b, 0, none⟩) (rs.dropLast ++ [(r.1, r.2 + 1)]).length cap (rowsV (rs.dropLast ++ [(r.1, r.2 + 1)])) := by
  have hp := (List.getElem?_eq_some_iff.1 hr).1
  have e1 : (rs.dropLast ++ [(r.1, r.2 + 1)]).length = rs.length := by simp; omega
  refine ⟨rowsV_len _, H.drop, .inr ⟨b, _, rfl, by rw [e1]; exact hn, hm, by rw [List.length_set]; exact hl, ?_, H⟩⟩
  rw [e1, hi]
  exact rowsV_upd h hl hn hr hc
theorem cells_keep {w w' : World} {A : Option Addr} {xs : List Value} (F : Fr [] w w') (h : ∀ j u, xs[j]? = some u → ∃ ad, A = some ad ∧ w.cell? (ad.add j) = some u) : ∀ j u, xs[j]? = some u → ∃ ad, A = some ad ∧ w'.cell? (ad.add j) = some u := fun j u hu => by
  obtain ⟨ad, e, c⟩ := h j u hu
  exact ⟨ad, e, F.cell c (by simp)⟩
def locOf : Option Rw → Int
  | none => -1
  | some r => (r.1 : Int)
def cntOf : Option Rw → Int
  | none => 0
  | some r => (r.2 : Int)
@[simp] theorem locOf_some (r : Rw) : locOf (some r) = (r.1 : Int) := rfl
@[simp] theorem cntOf_some (r : Rw) : cntOf (some r) = (r.2 : Int) := rfl
@[simp] theorem locOf_none : locOf none = -1 := rfl
@[simp] theorem cntOf_none : cntOf none = 0 := rfl
theorem loc_none {c : Option Rw} (h : locOf c = -1) : c = none := by
  cases c with
  | none => rfl
  | some r => rw [locOf_some] at h; omega
theorem loc_some {c : Option Rw} (h : ¬ locOf c = -1) : ∃ r, c = some r := by
  cases c with
  | none => exact absurd rfl h
  | some r => exact ⟨r, rfl⟩
theorem cur_le {bs : List UInt8} {k : Nat} {fl : List Rw} {cur : Option Rw} (h : fSt bs k = (fl, cur)) : (0 ≤ cntOf cur ∧ cntOf cur ≤ k) ∧ (-1 ≤ locOf cur ∧ locOf cur ≤ k) ∧ fl.length ≤ k := by
  obtain ⟨_, h2, _, h4⟩ := f_inv bs k
  rw [h] at h2 h4
  refine ⟨?_, ?_, h4⟩
  · cases cur with
    | none => simp
    | some r => have := h2 r.1 r.2 rfl; simp; omega
  · cases cur with
    | none => simp
    | some r => have := h2 r.1 r.2 rfl; simp; omega
theorem fSt_set {bs : List UInt8} {k : Nat} {fl : List Rw} {cur : Option Rw} (h : fSt bs k = (fl, cur)) (hb : bitAt bs k = true) : fSt bs (k + 1) = (fl ++ cur.toList, none) := by
  simp only [fSt, h, fStep, hb, if_true]
  cases cur <;> simp
theorem fSt_new {bs : List UInt8} {k : Nat} {fl : List Rw} (h : fSt bs k = (fl, none)) (hb : ¬ bitAt bs k = true) : fSt bs (k + 1) = (fl, some (k, 1)) := by
  simp only [fSt, h, fStep, hb]; rfl
theorem fSt_more {bs : List UInt8} {k p c : Nat} {fl : List Rw} (h : fSt bs k = (fl, some (p, c))) (hb : ¬ bitAt bs k = true) : fSt bs (k + 1) = (fl, some (p, c + 1)) := by
  simp only [fSt, h, fStep, hb]; rfl
end Go.Proofs.Ytbldfojecpljoaa.X
