/- Symbolic heaps: what is known of a world's blocks, and what a call may have changed. -/
import Derived.Test.YtgmkjndmjnbahaaDoorCore
namespace Go.Proofs.YtgmkjndmjnbahaaDoor.X
open Go Go.RowKit

/-- Of the blocks that were there, those outside S are as they were; the streams too. -/
structure Fr (S : List Nat) (w w' : World) : Prop where
  os : w'.os = w.os
  tape : w'.tape = w.tape
  output : w'.output = w.output
  size : w.heap.size ≤ w'.heap.size
  keep : ∀ b, b < w.heap.size → b ∉ S → w'.heap[b]? = w.heap[b]?
theorem Fr.refl (S : List Nat) (w : World) : Fr S w w := ⟨rfl, rfl, rfl, Nat.le_refl _, fun _ _ _ => rfl⟩
theorem Fr.below {w w' : World} (h : Fr [] w w') : Below w.heap.size w w' := ⟨h.os, h.tape, h.output, h.size, fun b hb => h.keep b hb (by simp)⟩
theorem lt_of_at {w : World} {b : Nat} {o : Obj} (h : w.heap[b]? = some o) : b < w.heap.size := (Array.getElem?_eq_some_iff.1 h).1
theorem Fr.at {S : List Nat} {w w' : World} (h : Fr S w w') {b : Nat} {o : Obj} (ho : w.heap[b]? = some o) (hb : b ∉ S) : w'.heap[b]? = some o := by
  rw [h.keep b (lt_of_at ho) hb, ho]
theorem Fr.trans {S : List Nat} {a b c : World} (h : Fr S a b) (k : Fr S b c) : Fr S a c :=
  ⟨k.os.trans h.os, k.tape.trans h.tape, k.output.trans h.output, Nat.le_trans h.size k.size, fun i hi hS => (k.keep i (Nat.lt_of_lt_of_le hi h.size) hS).trans (h.keep i hi hS)⟩
/-- A later change may touch blocks that are new. -/
theorem Fr.then {S T : List Nat} {a b c : World} (h : Fr S a b) (k : Fr T b c) (hT : ∀ t ∈ T, t ∈ S ∨ a.heap.size ≤ t) : Fr S a c :=
  ⟨k.os.trans h.os, k.tape.trans h.tape, k.output.trans h.output, Nat.le_trans h.size k.size, fun i hi hS =>
    (k.keep i (Nat.lt_of_lt_of_le hi h.size) (fun hm => (hT i hm).elim hS (fun hle => by omega))).trans (h.keep i hi hS)⟩
theorem Fr.mono {S T : List Nat} {a b : World} (h : Fr S a b) (hS : ∀ t ∈ S, t ∈ T) : Fr T a b :=
  ⟨h.os, h.tape, h.output, h.size, fun i hi hT => h.keep i hi (fun hm => hT (hS i hm))⟩
theorem Fr.cell {S : List Nat} {w w' : World} (h : Fr S w w') {a : Addr} {v : Value} (hc : w.cell? a = some v) (hb : a.block ∉ S) : w'.cell? a = some v := by
  have hlt : a.block < w.heap.size := World.block_lt_of_cell? w a hc
  rw [World.cell?_of_block (w := w) (h.keep a.block hlt hb)]; exact hc
theorem Fr.drew (S : List Nat) (w : World) : Fr S w w.drew := ⟨rfl, rfl, rfl, Nat.le_refl _, fun _ _ _ => rfl⟩
theorem Fr.alloc (w : World) (o : Obj) : Fr [] w (w.alloc o) :=
  ⟨rfl, rfl, rfl, by simp, fun b hb _ => by show (w.heap.push o)[b]? = _; rw [Array.getElem?_push, if_neg (by omega)]⟩

/-- An entry of a symbolic heap: a block, what it holds, and whether it may be written. -/
structure Ent where
  b : Nat
  o : Obj
  m : Bool
/-- From w0 on, of the blocks that were there those in S alone may have been written; now the blocks of L hold what L says. -/
structure SH (w0 : World) (S : List Nat) (w : World) (L : List Ent) : Prop where
  fr : Fr S w0 w
  get : ∀ x ∈ L, w.heap[x.b]? = some x.o
  ap : L.Pairwise fun x y => (x.m || y.m) = true → x.b ≠ y.b
  mu : ∀ x ∈ L, x.m = true → x.b ∈ S ∨ w0.heap.size ≤ x.b

class Look (L : List Ent) (b : Nat) (o : outParam Obj) : Prop where
  mem : ∃ x ∈ L, x.b = b ∧ x.o = o
instance (priority := low) {x : Ent} {L : List Ent} {b : Nat} {o : Obj} [h : Look L b o] : Look (x :: L) b o :=
  ⟨let ⟨y, hy, e⟩ := h.mem; ⟨y, .tail _ hy, e⟩⟩
instance {L : List Ent} {b : Nat} {o : Obj} {m : Bool} : Look (⟨b, o, m⟩ :: L) b o := ⟨⟨⟨b, o, m⟩, .head _, rfl, rfl⟩⟩
theorem SH.look {w0 w : World} {S : List Nat} {L : List Ent} {b : Nat} {o : Obj} (h : SH w0 S w L) [k : Look L b o] : w.heap[b]? = some o := by
  obtain ⟨x, hx, rfl, rfl⟩ := k.mem
  exact h.get x hx

/-- L' is L with what block b holds turned. -/
class Turn (L : List Ent) (b : Nat) (o' : Obj) (L' : outParam (List Ent)) : Prop where
  at' : ∃ l r o, L = l ++ ⟨b, o, true⟩ :: r ∧ L' = l ++ ⟨b, o', true⟩ :: r
instance (priority := low) {x : Ent} {L L' : List Ent} {b : Nat} {o' : Obj} [h : Turn L b o' L'] : Turn (x :: L) b o' (x :: L') :=
  ⟨let ⟨l, r, o, e, e'⟩ := h.at'; ⟨x :: l, r, o, by rw [e]; rfl, by rw [e']; rfl⟩⟩
instance {L : List Ent} {b : Nat} {o o' : Obj} : Turn (⟨b, o, true⟩ :: L) b o' (⟨b, o', true⟩ :: L) := ⟨⟨[], L, o, rfl, rfl⟩⟩

theorem SH.init {w : World} (S : List Nat) (L : List Ent) (hg : ∀ x ∈ L, w.heap[x.b]? = some x.o) (ha : L.Pairwise fun x y => (x.m || y.m) = true → x.b ≠ y.b) (hm : ∀ x ∈ L, x.m = true → x.b ∈ S) : SH w S w L :=
  ⟨Fr.refl _ _, hg, ha, fun x hx h => .inl (hm x hx h)⟩
theorem SH.nil (w : World) : SH w [] w [] := ⟨Fr.refl _ _, by simp, .nil, by simp⟩
theorem SH.size {w0 w : World} {S : List Nat} {L : List Ent} (h : SH w0 S w L) : w0.heap.size ≤ w.heap.size := h.fr.size
/-- Nothing that was there has changed. -/
theorem SH.keep {w0 w w' : World} {S : List Nat} {L : List Ent} (h : SH w0 S w L) (f : Fr [] w w') : SH w0 S w' L :=
  ⟨h.fr.then f (by simp), fun x hx => f.at (h.get x hx) (by simp), h.ap, h.mu⟩
/-- .. and there is a new block. -/
theorem SH.new {w0 w w' : World} {S : List Nat} {L : List Ent} {b : Nat} {o : Obj} (h : SH w0 S w L) (f : Fr [] w w') (hb : w.heap.size ≤ b) (ho : w'.heap[b]? = some o) : SH w0 S w' (⟨b, o, true⟩ :: L) := by
  have k := h.keep f
  refine ⟨k.fr, ?_, ?_, ?_⟩
  · intro x hx
    rcases List.mem_cons.1 hx with rfl | hx
    · exact ho
    · exact k.get x hx
  · refine List.Pairwise.cons (fun y hy _ => ?_) h.ap
    have := lt_of_at (h.get y hy)
    simp only
    omega
  · intro x hx hm
    rcases List.mem_cons.1 hx with rfl | hx
    · exact .inr (Nat.le_trans h.size hb)
    · exact k.mu x hx hm
/-- .. and there are two new blocks. -/
theorem SH.new2 {w0 w w' : World} {S : List Nat} {L : List Ent} {b1 b2 : Nat} {o1 o2 : Obj} (h : SH w0 S w L) (f : Fr [] w w') (hb1 : w.heap.size ≤ b1) (hb2 : w.heap.size ≤ b2) (hne : b1 ≠ b2) (h1 : w'.heap[b1]? = some o1) (h2 : w'.heap[b2]? = some o2) : SH w0 S w' (⟨b1, o1, true⟩ :: ⟨b2, o2, true⟩ :: L) := by
  have k := h.new f hb2 h2
  refine ⟨k.fr, ?_, ?_, ?_⟩
  · intro x hx
    rcases List.mem_cons.1 hx with rfl | hx
    · exact h1
    · exact k.get x hx
  · refine List.Pairwise.cons (fun y hy _ => ?_) k.ap
    rcases List.mem_cons.1 hy with rfl | hy
    · exact hne
    · have := lt_of_at (h.get y hy)
      simp only
      omega
  · intro x hx hm
    rcases List.mem_cons.1 hx with rfl | hx
    · exact .inr (Nat.le_trans h.size hb1)
    · exact k.mu x hx hm
/-- A further block of the same change: known to be new when the change began. -/
theorem SH.more {w0 w w' : World} {S : List Nat} {L : List Ent} {b : Nat} {o : Obj} (h : SH w0 S w' L) (hb : w.heap.size ≤ b) (hs : w0.heap.size ≤ w.heap.size) (ho : w'.heap[b]? = some o) (hne : ∀ x ∈ L, x.b ≠ b) : SH w0 S w' (⟨b, o, true⟩ :: L) := by
  refine ⟨h.fr, ?_, ?_, ?_⟩
  · intro x hx
    rcases List.mem_cons.1 hx with rfl | hx
    · exact ho
    · exact h.get x hx
  · exact List.Pairwise.cons (fun y hy _ => (hne y hy).symm) h.ap
  · intro x hx hm
    rcases List.mem_cons.1 hx with rfl | hx
    · exact .inr (Nat.le_trans hs hb)
    · exact h.mu x hx hm
/-- One block has been written. -/
theorem SH.put {w0 w w' : World} {S : List Nat} {L L' : List Ent} {b : Nat} {o' : Obj} (h : SH w0 S w L) [t : Turn L b o' L'] (f : Fr [b] w w') (ho : w'.heap[b]? = some o') : SH w0 S w' L' := by
  obtain ⟨l, r, o, rfl, rfl⟩ := t.at'
  have hap := h.ap
  rw [List.pairwise_append] at hap
  obtain ⟨a1, a2, a3⟩ := hap
  rw [List.pairwise_cons] at a2
  have hmb := h.mu ⟨b, o, true⟩ (by simp) rfl
  refine ⟨h.fr.then f (by simpa using hmb), ?_, ?_, ?_⟩
  · intro x hx
    rcases List.mem_append.1 hx with hx | hx
    · refine f.at (h.get x (List.mem_append.2 (.inl hx))) ?_
      have := a3 x hx ⟨b, o, true⟩ (by simp) (by simp)
      simpa using this
    · rcases List.mem_cons.1 hx with rfl | hx
      · exact ho
      · refine f.at (h.get x (List.mem_append.2 (.inr (.tail _ hx)))) ?_
        have := a2.1 x hx (by simp)
        simp only [List.mem_singleton]
        exact fun e => this e.symm
  · rw [List.pairwise_append]
    refine ⟨a1, ?_, ?_⟩
    · rw [List.pairwise_cons]
      exact ⟨fun y hy hm => a2.1 y hy (by simp), a2.2⟩
    · intro x hx y hy hm
      rcases List.mem_cons.1 hy with rfl | hy
      · exact a3 x hx ⟨b, o, true⟩ (by simp) (by simp)
      · exact a3 x hx y (.tail _ hy) hm
  · intro x hx hm
    rcases List.mem_append.1 hx with hx | hx
    · exact h.mu x (List.mem_append.2 (.inl hx)) hm
    · rcases List.mem_cons.1 hx with rfl | hx
      · exact hmb
      · exact h.mu x (List.mem_append.2 (.inr (.tail _ hx))) hm
class LookM (L : List Ent) (b : Nat) : Prop where
  mem : ∃ x ∈ L, x.b = b ∧ x.m = true
instance (priority := low) {x : Ent} {L : List Ent} {b : Nat} [h : LookM L b] : LookM (x :: L) b :=
  ⟨let ⟨y, hy, e⟩ := h.mem; ⟨y, .tail _ hy, e⟩⟩
instance {L : List Ent} {b : Nat} {o : Obj} : LookM (⟨b, o, true⟩ :: L) b := ⟨⟨⟨b, o, true⟩, .head _, rfl, rfl⟩⟩
theorem SH.ge {w0 w : World} {S : List Nat} {L : List Ent} {b : Nat} (h : SH w0 S w L) [k : LookM L b] (hb : b ∉ S := by simp) : w0.heap.size ≤ b := by
  obtain ⟨x, hx, rfl, hm⟩ := k.mem
  exact (h.mu x hx hm).resolve_left hb
theorem SH.ro1 {w : World} {b : Nat} {o : Obj} (h : w.heap[b]? = some o) : SH w [] w [⟨b, o, false⟩] :=
  SH.init [] _ (by simpa using h) (by simp) (by simp)
theorem SH.ro2 {w : World} {b c : Nat} {o p : Obj} (h : w.heap[b]? = some o) (k : w.heap[c]? = some p) : SH w [] w [⟨b, o, false⟩, ⟨c, p, false⟩] :=
  SH.init [] _ (by simp [h, k]) (by simp) (by simp)
theorem SH.rw1 {w : World} {b : Nat} {o : Obj} (h : w.heap[b]? = some o) : SH w [b] w [⟨b, o, true⟩] :=
  SH.init [b] _ (by simpa using h) (by simp) (by simp)
theorem SH.row {w : World} {b c : Nat} {o p : Obj} (h : w.heap[b]? = some o) (k : w.heap[c]? = some p) (hne : b ≠ c) : SH w [c] w [⟨b, o, false⟩, ⟨c, p, true⟩] :=
  SH.init [c] _ (by simp [h, k]) (by simpa using hne) (by simp)
/-- Forget an entry. -/
theorem SH.drop {w0 w : World} {S : List Nat} {x : Ent} {L : List Ent} (h : SH w0 S w (x :: L)) : SH w0 S w L :=
  ⟨h.fr, fun y hy => h.get y (.tail _ hy), (List.pairwise_cons.1 h.ap).2, fun y hy => h.mu y (.tail _ hy)⟩
/-- The first entry goes behind others. -/
theorem SH.sub {w0 w : World} {S : List Nat} {L L' : List Ent} (h : SH w0 S w L) (hs : List.Sublist L' L) : SH w0 S w L' :=
  ⟨h.fr, fun y hy => h.get y (hs.subset hy), h.ap.sublist hs, fun y hy => h.mu y (hs.subset hy)⟩
theorem SH.world {w0 w w' : World} {S : List Nat} {L : List Ent} (h : SH w0 S w L) (e : w'.heap = w.heap) (h1 : w'.os = w.os) (h2 : w'.tape = w.tape) (h3 : w'.output = w.output) : SH w0 S w' L :=
  h.keep ⟨h1, h2, h3, by rw [e]; exact Nat.le_refl _, fun _ _ _ => by rw [e]⟩
theorem SH.drew {w0 w : World} {S : List Nat} {L : List Ent} (h : SH w0 S w L) : SH w0 S w.drew L := h.keep (Fr.drew _ _)
/-- What L says of a block that is not written was so from the first. -/
theorem SH.lt {w0 w : World} {S : List Nat} {L : List Ent} {b : Nat} {o : Obj} (h : SH w0 S w L) [Look L b o] : b < w.heap.size := lt_of_at h.look

end Go.Proofs.YtgmkjndmjnbahaaDoor.X
