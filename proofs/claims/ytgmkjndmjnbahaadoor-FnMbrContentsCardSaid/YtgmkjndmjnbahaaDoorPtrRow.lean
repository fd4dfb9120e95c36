/- Rows of pointers, each to a block of its own. -/
import Derived.Test.YtgmkjndmjnbahaaDoorJoin
namespace Go.Proofs.YtgmkjndmjnbahaaDoor.X
set_option linter.unusedVariables false
open Go Go.RowKit
abbrev PL := List (Nat × List Value)
def ents (T : TypeId) (l : PL) : List Ent := l.map fun x => ⟨x.1, .cells x.2.toArray T (0, 0), true⟩
def ptrs (l : PL) : List Value := l.map fun x => .pointer (some ⟨x.1, 0, none⟩)
theorem ptrs_len (l : PL) : (ptrs l).length = l.length := by simp [ptrs]
theorem ptrs_get {l : PL} {i : Nat} {x : Nat × List Value} (h : l[i]? = some x) : (ptrs l)[i]? = some (.pointer (some ⟨x.1, 0, none⟩)) := by simp [ptrs, h]
theorem ptrs_snoc (l : PL) (x : Nat × List Value) : ptrs (l ++ [x]) = ptrs l ++ [.pointer (some ⟨x.1, 0, none⟩)] := by simp [ptrs]
theorem ptrs_one {l : PL} : ∀ u ∈ ptrs l, u.oneCell' = true := by
  intro u hu
  obtain ⟨x, _, rfl⟩ := List.mem_map.1 hu
  rfl
theorem ents_snoc (T : TypeId) (l : PL) (x : Nat × List Value) : ents T (l ++ [x]) = ents T l ++ [⟨x.1, .cells x.2.toArray T (0, 0), true⟩] := by simp [ents]
theorem ents_m {T : TypeId} {l : PL} : ∀ x ∈ ents T l, x.m = true := by
  intro u hu
  obtain ⟨x, _, rfl⟩ := List.mem_map.1 hu
  rfl
theorem ents_mem {T : TypeId} {l : PL} {i : Nat} {x : Nat × List Value} (h : l[i]? = some x) : (⟨x.1, .cells x.2.toArray T (0, 0), true⟩ : Ent) ∈ ents T l :=
  List.mem_map.2 ⟨x, List.mem_of_getElem? h, rfl⟩
/-- A block of the row's. -/
theorem SH.ptr {w0 w : World} {S : List Nat} {L : List Ent} {T : TypeId} {l : PL} (H : SH w0 S w L) (hs : ∀ e ∈ ents T l, e ∈ L) {i : Nat} {x : Nat × List Value} (h : l[i]? = some x) : w.heap[x.1]? = some (.cells x.2.toArray T (0, 0)) :=
  H.get _ (hs _ (ents_mem h))
theorem OR.perm {e : TypeId} {sz : Nat} {w0 : World} {S : List Nat} {w : World} {L L' : List Ent} {A : Option Addr} {n cap : Nat} {xs : List Value} (O : OR e sz w0 S w L A n cap xs) (h : L.Perm L') : OR e sz w0 S w L' A n cap xs :=
  ⟨O.len, O.sh.perm h, O.own.imp id fun ⟨b, cur, h1, h2, h3, h4, h5, h6⟩ => ⟨b, cur, h1, h2, h3, h4, h5, h6.perm (List.Perm.cons _ h)⟩⟩
theorem OR.sub {e : TypeId} {sz : Nat} {w0 : World} {S : List Nat} {w : World} {L L' : List Ent} {A : Option Addr} {n cap : Nat} {xs : List Value} (O : OR e sz w0 S w L A n cap xs) (h : List.Sublist L' L) : OR e sz w0 S w L' A n cap xs :=
  ⟨O.len, O.sh.sub h, O.own.imp id fun ⟨b, cur, h1, h2, h3, h4, h5, h6⟩ => ⟨b, cur, h1, h2, h3, h4, h5, h6.sub (h.cons_cons _)⟩⟩
theorem OR.drew {e : TypeId} {sz : Nat} {w0 : World} {S : List Nat} {w : World} {L : List Ent} {A : Option Addr} {n cap : Nat} {xs : List Value} (O : OR e sz w0 S w L A n cap xs) : OR e sz w0 S w.drew L A n cap xs := O.keep (Fr.drew _ _)
/-- A new block goes to the row's end. -/
theorem perm_snoc {T : TypeId} {l : PL} {x : Nat × List Value} (L : List Ent) : ((⟨x.1, .cells x.2.toArray T (0, 0), true⟩ : Ent) :: (L ++ ents T l)).Perm (L ++ ents T (l ++ [x])) := by
  rw [ents_snoc, ← List.append_assoc]
  exact (List.perm_append_comm (l₁ := [(⟨x.1, .cells x.2.toArray T (0, 0), true⟩ : Ent)]) (l₂ := L ++ ents T l))
theorem perm_snoc1 {T : TypeId} {l : PL} {p : Nat} {cs : List Value} (e : Ent) : ((⟨p, .cells cs.toArray T (0, 0), true⟩ : Ent) :: e :: ents T l).Perm (e :: ents T (l ++ [(p, cs)])) := perm_snoc (x := (p, cs)) [e]
/-- What was in the row's block. -/
theorem row_ptr {l : PL} {junk : List Value} {i : Nat} {x : Nat × List Value} (h : l[i]? = some x) : (ptrs l ++ junk)[i]? = some (.pointer (some ⟨x.1, 0, none⟩)) := by
  have hi := (List.getElem?_eq_some_iff.1 h).1
  rw [List.getElem?_append_left (by rw [ptrs_len]; exact hi)]
  exact ptrs_get h
theorem row_ptr' {l : PL} {junk : List Value} {i k : Nat} {x : Nat × List Value} (h : l[i]? = some x) (e : k = i) : (ptrs l ++ junk)[k]? = some (.pointer (some ⟨x.1, 0, none⟩)) := e ▸ row_ptr h
theorem sh_cells1 {w0 w : World} {S : List Nat} {b c : Nat} {T T' : TypeId} {L : List Ent} {cs cs' ds : List Value} {m m' : Bool} {fr fr' : Nat × Nat} (H : SH w0 S w (⟨c, .cells ds.toArray T' fr', m'⟩ :: ⟨b, .cells cs.toArray T fr, m⟩ :: L)) (e : cs = cs') : SH w0 S w (⟨c, .cells ds.toArray T' fr', m'⟩ :: ⟨b, .cells cs'.toArray T fr, m⟩ :: L) := e ▸ H
theorem Bs_one {bs : List UInt8} : ∀ u ∈ Bs bs, u.oneCell' = true := by
  intro u hu
  obtain ⟨b, _, rfl⟩ := List.mem_map.1 hu
  rfl
theorem Bs_app (xs ys : List UInt8) : Bs xs ++ Bs ys = Bs (xs ++ ys) := by simp [Bs]
/-- A row that a call has made. -/
theorem OR.join {e : TypeId} {sz : Nat} {w0 w w' : World} {S : List Nat} {L : List Ent} {A : Option Addr} {n cap : Nat} {xs : List Value} (O : OR e sz w [] w' [] A n cap xs) (H : SH w0 S w L) : OR e sz w0 S w' L A n cap xs :=
  ⟨O.len, H.keep O.sh.fr, O.own.imp id fun ⟨b, cur, h1, h2, h3, h4, h5, h6⟩ => ⟨b, cur, h1, h2, h3, h4, h5, H.join h6 (by simp)⟩⟩
/-- .. seen from further back. -/
theorem OR.back {e : TypeId} {sz : Nat} {w w1 w' : World} {A : Option Addr} {n cap : Nat} {xs : List Value} (F : Fr [] w w1) (O : OR e sz w1 [] w' [] A n cap xs) : OR e sz w [] w' [] A n cap xs :=
  ⟨O.len, SH.back F O.sh, O.own.imp id fun ⟨b, cur, h1, h2, h3, h4, h5, h6⟩ => ⟨b, cur, h1, h2, h3, h4, h5, SH.back F h6⟩⟩
theorem OR.some_of {e : TypeId} {sz : Nat} {w0 : World} {S : List Nat} {w : World} {L : List Ent} {A : Option Addr} {n cap : Nat} {xs : List Value} (O : OR e sz w0 S w L A n cap xs) (h : 0 < n) : ∃ ad, A = some ad := by
  rcases O.own with ⟨_, rfl, _⟩ | ⟨b, cur, rfl, _⟩
  · omega
  · exact ⟨_, rfl⟩
/-- An element of one cell. -/
theorem OR.one {e : TypeId} {w0 : World} {S : List Nat} {w : World} {L : List Ent} {ad : Addr} {n cap i : Nat} {xs : List Value} {v : Value} (O : OR e 1 w0 S w L (some ad) n cap xs) (h : xs[i]? = some v) : w.cell? (ad.add i) = some v := by
  obtain ⟨ad', he, hc⟩ := O.cells i v h
  obtain rfl := Option.some.inj he
  exact hc
/-- Bytes, and what lies behind them. -/
theorem BJ_len {xs : List UInt8} {junk : List Value} : (Bs xs ++ junk).length = xs.length + junk.length := by simp
theorem BJ_get {xs : List UInt8} {junk : List Value} {i : Nat} (h : i < xs.length) : (Bs xs ++ junk)[i]? = some (.int .u8 ((xs.getD i 0).toNat : Int)) := by
  rw [List.getElem?_append_left (by simpa using h)]; exact Bs_get h
theorem BJ_set {xs : List UInt8} {junk : List Value} {i : Nat} {u : UInt8} (h : i < xs.length) : (Bs xs ++ junk).set i (.int .u8 (u.toNat : Int)) = Bs (xs.set i u) ++ junk := by
  rw [List.set_append_left _ _ (by simpa using h)]
  rw [← Bs_set]; rfl
theorem sh_cells0 {w0 w : World} {S : List Nat} {b : Nat} {T : TypeId} {L : List Ent} {cs cs' : List Value} {m : Bool} {fr : Nat × Nat} (H : SH w0 S w (⟨b, .cells cs.toArray T fr, m⟩ :: L)) (e : cs = cs') : SH w0 S w (⟨b, .cells cs'.toArray T fr, m⟩ :: L) := e ▸ H
theorem RB.cells {w : World} {B : Option Addr} {n : Nat} {b : List UInt8} (h : RB w B n b) : ∀ j u, (Bs b)[j]? = some u → ∃ ad, B = some ad ∧ w.cell? (ad.add j) = some u := by
  intro j u hu
  have hj : j < b.length := by simpa using (List.getElem?_eq_some_iff.1 hu).1
  rw [Bs_get hj] at hu
  obtain rfl := Option.some.inj hu
  exact h.2 j (by rw [← h.1]; exact hj)
/-- Bytes ahead of what lies behind them. -/
theorem RB.bj {w0 w : World} {S : List Nat} {L : List Ent} {b m : Nat} {xs : List UInt8} {junk : List Value} {T : TypeId} {fr : Nat × Nat} (H : SH w0 S w L) [k : Look L b (.cells (Bs xs ++ junk).toArray T fr)] (e : xs.length = m) : RB w (some ⟨b, 0, none⟩) m xs := by
  have hb := H.look (b := b) (o := .cells (Bs xs ++ junk).toArray T fr)
  refine ⟨e, fun i hi => ⟨_, rfl, ?_⟩⟩
  rw [Addr.add_lit, cell_at hb, Nat.zero_add]
  exact BJ_get (by omega)
theorem RB.at {w : World} {ad : Addr} {n : Nat} {xs : List UInt8} (h : RB w (some ad) n xs) (i : Nat) (hi : i < n) : w.cell? (ad.add i) = some (.int .u8 ((xs.getD i 0).toNat : Int)) := by
  obtain ⟨ad', e, hx⟩ := h.2 i hi
  cases e; exact hx
theorem take_split {cur l : List Value} {n : Nat} (h : cur.take n = l) : ∃ junk, cur = l ++ junk := ⟨cur.drop n, by rw [← h, List.take_append_drop]⟩
end Go.Proofs.YtgmkjndmjnbahaaDoor.X
