/- Rows of pointers, each to a block of its own. -/
import Derived.Test.YtdoiddkogigppaaJoin
namespace Go.Proofs.Ytdoiddkogigppaa.X
set_option linter.unusedVariables false
open Go Go.RowKit
abbrev PL := List (Nat × List Value)
def ents (T : TypeId) (l : PL) : List Ent := l.map fun x => ⟨x.1, .cells x.2.toArray T (0, 0), true⟩
def ptrs (l : PL) : List Value := l.map fun x => .pointer (some ⟨x.1, 0, none⟩)
theorem ptrs_len (l : PL) : (ptrs l).length = l.length := by simp [ptrs]
theorem ptrs_get {l : PL} {i : Nat} {x : Nat × List Value} (h : l[i]? = some x) : (ptrs l)[i]? = some (.pointer (some ⟨x.1, 0, none⟩)) := by simp [ptrs, h]
theorem ptrs_snoc (l : PL) (x : Nat × List Value) : ptrs (l ++ [x]) = ptrs l ++ [.pointer (some ⟨x.1, 0, none⟩)] := by simp [ptrs]
theorem ptrs_one {l : PL} : ∀ u ∈ ptrs l, u.oneCell' = true := by
  intro u hu
  obtain ⟨x, _, rfl⟩ := List.mem_map.1 hu
  rfl
theorem ents_snoc (T : TypeId) (l : PL) (x : Nat × List Value) : ents T (l ++ [x]) = ents T l ++ [⟨x.1, .cells x.2.toArray T (0, 0), true⟩] := by simp [ents]
theorem ents_m {T : TypeId} {l : PL} : ∀ x ∈ ents T l, x.m = true := by
  intro u hu
  obtain ⟨x, _, rfl⟩ := List.mem_map.1 hu
  rfl
theorem ents_mem {T : TypeId} {l : PL} {i : Nat} {x : Nat × List Value} (h : l[i]? = some x) : (⟨x.1, .cells x.2.toArray T (0, 0), true⟩ : Ent) ∈ ents T l :=
  List.mem_map.2 ⟨x, List.mem_of_getElem? h, rfl⟩
/-- A block of the row's. -/
theorem SH.ptr {w0 w : World} {S : List Nat} {L : List Ent} {T : TypeId} {l : PL} (H : SH w0 S w L) (hs : ∀ e ∈ ents T l, e ∈ L) {i : Nat} {x : Nat × List Value} (h : l[i]? = some x) : w.heap[x.1]? = some (.cells x.2.toArray T (0, 0)) :=
  H.get _ (hs _ (ents_mem h))
theorem OR.perm {e : TypeId} {sz : Nat} {w0 : World} {S : List Nat} {w : World} {L L' : List Ent} {A : Option Addr} {n cap : Nat} {xs : List Value} (O : OR e sz w0 S w L A n cap xs) (h : L.Perm L') : OR e sz w0 S w L' A n cap xs :=
  ⟨O.len, O.sh.perm h, O.own.imp id fun ⟨b, cur, h1, h2, h3, h4, h5, h6⟩ => ⟨b, cur, h1, h2, h3, h4, h5, h6.perm (List.Perm.cons _ h)⟩⟩
theorem OR.sub {e : TypeId} {sz : Nat} {w0 : World} {S : List Nat} {w : World} {L L' : List Ent} {A : Option Addr} {n cap : Nat} {xs : List Value} (O : OR e sz w0 S w L A n cap xs) (h : List.Sublist L' L) : OR e sz w0 S w L' A n cap xs :=
  ⟨O.len, O.sh.sub h, O.own.imp id fun ⟨b, cur, h1, h2, h3, h4, h5, h6⟩ => ⟨b, cur, h1, h2, h3, h4, h5, h6.sub (h.cons_cons _)⟩⟩
theorem OR.drew {e : TypeId} {sz : Nat} {w0 : World} {S : List Nat} {w : World} {L : List Ent} {A : Option Addr} {n cap : Nat} {xs : List Value} (O : OR e sz w0 S w L A n cap xs) : OR e sz w0 S w.drew L A n cap xs := O.keep (Fr.drew _ _)
/-- A new block goes to the row's end. -/
theorem perm_snoc {T : TypeId} {l : PL} {x : Nat × List Value} (L : List Ent) : ((⟨x.1, .cells x.2.toArray T (0, 0), true⟩ : Ent) :: (L ++ ents T l)).Perm (L ++ ents T (l ++ [x])) := by
  rw [ents_snoc, ← List.append_assoc]
  exact (List.perm_append_comm (l₁ := [(⟨x.1, .cells x.2.toArray T (0, 0), true⟩ : Ent)]) (l₂ := L ++ ents T l))
theorem perm_snoc1 {T : TypeId} {l : PL} {p : Nat} {cs : List Value} (e : Ent) : ((⟨p, .cells cs.toArray T (0, 0), true⟩ : Ent) :: e :: ents T l).Perm (e :: ents T (l ++ [(p, cs)])) := perm_snoc (x := (p, cs)) [e]
/-- What was in the row's block. -/
theorem row_ptr {l : PL} {junk : List Value} {i : Nat} {x : Nat × List Value} (h : l[i]? = some x) : (ptrs l ++ junk)[i]? = some (.pointer (some ⟨x.1, 0, none⟩)) := by
  have hi := (List.getElem?_eq_some_iff.1 h).1
  rw [List.getElem?_append_left (by rw [ptrs_len]; exact hi)]
  exact ptrs_get h
theorem row_ptr' {l : PL} {junk : List Value} {i k : Nat} {x : Nat × List Value} (h : l[i]? = some x) (e : k = i) : (ptrs l ++ junk)[k]? = some (.pointer (some ⟨x.1, 0, none⟩)) := e ▸ row_ptr h
end Go.Proofs.Ytdoiddkogigppaa.X
