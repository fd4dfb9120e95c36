/- A table that is written. -/
import Derived.Test.YtdoiddkogigppaaMbrTab
namespace Go.Proofs.Ytdoiddkogigppaa.X
set_option linter.unusedVariables false
open Go Go.RowKit
/-- A partition's cells as an entry gives them. -/
def entCells (q : MP) : List Value := q.cells ++ [.int .i64 0, .int .i64 0, .string (str [])]
/-- A row of partitions made of entries. -/
def rowQ (qs : List MP) (l : PL) : Prop := ∀ (i : Nat) (x : Nat × List Value), l[i]? = some x → ∃ q, qs[i]? = some q ∧ x.2 = entCells q
theorem rowQ_nil (qs : List MP) : rowQ qs [] := fun i x h => by simp at h
theorem rowQ_snoc {qs : List MP} {l : PL} {p : Nat} {q : MP} (h : rowQ qs l) (hq : qs[l.length]? = some q) : rowQ qs (l ++ [(p, entCells q)]) := by
  intro i x hx
  by_cases hi : i < l.length
  · rw [List.getElem?_append_left hi] at hx; exact h i x hx
  · rw [List.getElem?_append_right (by omega)] at hx
    have : i - l.length = 0 := by have := (List.getElem?_eq_some_iff.1 hx).1; simp at this; omega
    rw [this] at hx
    simp at hx
    subst hx
    obtain rfl : i = l.length := by omega
    exact ⟨q, hq, rfl⟩
/-- A table of entries, to be read. -/
structure TabAt (TT PT : TypeId) (w : World) (t : Nat) (A : Option Addr) (k cap : Nat) (l : PL) (qs : List MP) : Prop where
  tab : w.heap[t]? = some (.cells [.slice A k cap, .int .i64 512, .int .i64 512, .string (str [])].toArray TT (0, 0))
  len : l.length = k ∧ qs.length = k
  row : ∀ (i : Nat) (x : Nat × List Value), l[i]? = some x → ∃ ad, A = some ad ∧ w.cell? (ad.add i) = some (.pointer (some ⟨x.1, 0, none⟩))
  blk : ∀ (i : Nat) (x : Nat × List Value), l[i]? = some x → w.heap[x.1]? = some (.cells x.2.toArray PT (0, 0))
  q : rowQ qs l
theorem TabAt.keep {TT PT : TypeId} {w w' : World} {t : Nat} {A : Option Addr} {k cap : Nat} {l : PL} {qs : List MP} (h : TabAt TT PT w t A k cap l qs) (f : Fr [] w w') : TabAt TT PT w' t A k cap l qs :=
  ⟨f.at h.tab (by simp), h.len, fun i x hx => let ⟨ad, e, hc⟩ := h.row i x hx; ⟨ad, e, f.cell hc (by simp)⟩, fun i x hx => f.at (h.blk i x hx) (by simp), h.q⟩
theorem TabAt.now {TT PT : TypeId} {w w' : World} {t : Nat} {A : Option Addr} {k cap : Nat} {l : PL} {qs : List MP} {S : List Nat} (h : TabAt TT PT w t A k cap l qs) (f : Fr S w w') (ht : t ∉ S) (hA : ∀ ad, A = some ad → ad.block ∉ S) (hl : ∀ (i : Nat) (x : Nat × List Value), l[i]? = some x → x.1 ∉ S) : TabAt TT PT w' t A k cap l qs :=
  ⟨f.at h.tab ht, h.len, fun i x hx => let ⟨ad, e, hc⟩ := h.row i x hx; ⟨ad, e, f.cell hc (by rw [addr_mul]; exact hA ad e)⟩, fun i x hx => f.at (h.blk i x hx) (hl i x hx), h.q⟩
/-- The sixteen bytes, as they are laid one by one. -/
theorem pt_bytes (q : MP) : pAt (pAt (setsL (List.replicate 16 0) 0 q.head) 8 (leB 4 q.st)) 12 (leB 4 q.sz) = q.bytes := by
  have h1 : q.head.length = 8 := rfl
  have h2 : (leB 4 q.st).length = 4 := leB_len _ _
  have h3 : (leB 4 q.sz).length = 4 := leB_len _ _
  have e : q.head ++ leB 4 q.st ++ leB 4 q.sz = q.bytes := rfl
  rw [setsL_eq (by simp [h1]), pAt_pAt (cur := List.replicate 16 0) (o := 0) (p := 8) (by rw [h1]) (by simp [h2]), pAt_pAt (cur := List.replicate 16 0) (o := 0) (p := 12) (by simp [h1, h2]) (by simp [h3]), e, pAt_all (by rw [MP.bytes_len]; simp)]
theorem zero_bytes : MP.zero.bytes = List.replicate 16 0 := by decide
theorem Bs_one {bs : List UInt8} : ∀ u ∈ Bs bs, u.oneCell' = true := by
  intro u hu
  obtain ⟨b, _, rfl⟩ := List.mem_map.1 hu
  rfl
theorem Bs_app (xs ys : List UInt8) : Bs xs ++ Bs ys = Bs (xs ++ ys) := by simp [Bs]
theorem arr4_old {qs : List MP} {i : Nat} {q : MP} (h : qs[i]? = some q) : (arr4 qs qs.length)[i]? = some q := by
  unfold arr4
  have hi := (List.getElem?_eq_some_iff.1 h).1
  rw [List.take_length, List.getElem?_append_left hi, h]
theorem arr4_new {qs : List MP} {i : Nat} (h : qs.length ≤ i) (h4 : i < 4) : (arr4 qs qs.length)[i]? = some MP.zero := by
  unfold arr4
  rw [List.take_length, List.getElem?_append_right h, List.getElem?_replicate, if_pos (by omega)]
theorem tb_step {e : TypeId} {w0 : World} {S : List Nat} {w : World} {L : List Ent} {A : Option Addr} {i cap : Nat} {fs : List MP} {q : MP} (h : fs[i]? = some q) (O : OR e 1 w0 S w L A (16 * i + 16) cap (Bs ((fs.take i).flatMap MP.bytes) ++ Bs q.bytes)) : OR e 1 w0 S w L A (16 * (i + 1)) cap (Bs ((fs.take (i + 1)).flatMap MP.bytes)) := by
  rw [Bs_app] at O
  have e : (fs.take (i + 1)).flatMap MP.bytes = (fs.take i).flatMap MP.bytes ++ q.bytes := by rw [take_succ_get h]; simp
  rw [e, show 16 * (i + 1) = 16 * i + 16 by omega]
  exact O
theorem pAt_app {ds r es : List UInt8} {o : Nat} (h : o + es.length ≤ ds.length) : pAt (ds ++ r) o es = pAt ds o es ++ r := by
  unfold pAt
  rw [List.take_append_of_le_length (by omega), List.drop_append_of_le_length (by omega)]
  simp [List.append_assoc]
theorem le4_rng (l : List UInt8) : 0 ≤ leV (l.take 4) ∧ leV (l.take 4) ≤ 4294967295 := by
  have h := leV_rng (l.take 4)
  have h2 : ((256 ^ (l.take 4).length : Nat) : Int) ≤ ((256 ^ 4 : Nat) : Int) := Int.ofNat_le.2 (Nat.pow_le_pow_right (by decide) (by simp; omega))
  rw [Int.natCast_pow, Int.natCast_pow, show ((256 : Nat) : Int) = 256 from rfl] at h2
  have h3 : (256 : Int) ^ 4 = 4294967296 := by decide
  omega
theorem set_same {α : Type} {xs : List α} {i : Nat} {p : α} (h : xs[i]? = some p) : xs.set i p = xs := by
  apply List.ext_getElem?
  intro j
  rw [List.getElem?_set]
  split
  · rename_i e; subst e
    split
    · exact h.symm
    · rename_i hl; exact (List.getElem?_eq_none (by omega)).symm
  · rfl
theorem arr4_put {xs : List MP} {i : Nat} {p : MP} (h : xs[i]? = some p) (h4 : i < 4) : ((arr4 xs i).flatMap MP.cells).take (i * 11) ++ p.cells ++ ((arr4 xs i).flatMap MP.cells).drop (i * 11 + 11) = (arr4 xs (i + 1)).flatMap MP.cells := by
  have hi := (List.getElem?_eq_some_iff.1 h).1
  have e := arr4_step (xs := xs) (p := p) hi h4
  rw [set_same h] at e
  rw [← e]
  exact flat_put0 (arr4_get (by omega) h4)
theorem RM.own {w : World} {b cap : Nat} {xs : List MP} {junk : List Value} {T : TypeId} {fr : Nat × Nat} (h : w.heap[b]? = some (.cells (xs.flatMap MP.cells ++ junk).toArray T fr)) (hc : xs.length ≤ cap ∧ cap ≤ maxLen) (ok : ∀ x ∈ xs, x.ok) : RM w (some ⟨b, 0, none⟩) xs.length cap xs :=
  ⟨rfl, hc, fun h => (by cases h), fun j u hu => ⟨_, rfl, by
    rw [Addr.add_lit, cell_at h, Nat.zero_add, List.getElem?_append_left (List.getElem?_eq_some_iff.1 hu).1]; exact hu⟩, ok⟩
theorem mbr_tail {ds r : List UInt8} {fs : List MP} {k : Nat} (h4 : fs.length = 4) (hk : ds.length = 512 + k) : ((mbrB ds fs ++ r).drop 512).take k = (ds.drop 512).take k := by
  have hl : (fs.flatMap MP.bytes).length = 64 := by rw [flat_len MP.bytes_len, h4]
  have e1 : (ds.take 446).length = 446 := by simp; omega
  have h6 : (fs.flatMap MP.bytes ++ [85, 170]).length = 66 := by rw [List.length_append, hl]; rfl
  unfold mbrB pAt
  generalize fs.flatMap MP.bytes ++ [85, 170] = es at h6
  rw [h6, List.append_assoc, List.append_assoc, List.drop_append, e1, List.drop_of_length_le (by omega), List.nil_append, List.drop_append, h6, List.drop_of_length_le (by omega), List.nil_append]
  rw [show 512 - 446 - 66 = 0 from rfl, List.drop_zero, List.take_append_of_le_length (by simp; omega)]
end Go.Proofs.Ytdoiddkogigppaa.X
