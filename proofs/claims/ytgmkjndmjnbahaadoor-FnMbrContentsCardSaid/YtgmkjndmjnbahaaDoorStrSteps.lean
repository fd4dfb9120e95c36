/- The laws of single operations: a number as a string of one rune, below 128. -/
import Derived.Test.YtgmkjndmjnbahaaDoorSteps4
import Derived.Laws.Runes
import Derived.Laws.IdiomStrings
import Derived.Laws.Cover4
import Derived.Laws.AppendOwn
namespace Go.Proofs.YtgmkjndmjnbahaaDoor.X
set_option linter.unusedVariables false
open Go Go.RowKit
theorem utf8_ascii : ∀ a : Fin 128, Utf8.encode (a.val : Int) = str [UInt8.ofNat a.val] := by decide +kernel
section steps
variable {P : Program} {n : Nat} {ops : Array Oper} {Q : Post} {rest : List Oper} {ρ : Env} {w : World} {ty : TypeId} {pos : String} {af : Array Edge} {d : Nat}
theorem cvIS {s t : TypeId} {x : Operand} {k : IntKind} {a : Int} (hx : ev ρ x = .int k a) (hs : (P.underlying s).isSome = true) (ht : P.underlying t = some .string) (ha : 0 ≤ a ∧ a < 128) (hn : Nat.blt d n = true) (kk : wl P n ops Q rest (upd ρ d (.string (str [b8 a]))) w) : wl P n ops Q (⟨some d, .convert s t x, ty, pos, af, none⟩ :: rest) ρ w :=
  val rfl rfl hn (by
    obtain ⟨j, rfl⟩ := Int.eq_ofNat_of_zero_le ha.1
    have hj : j < 128 := by omega
    have h := utf8_ascii ⟨j, hj⟩
    have e : str [b8 (j : Int)] = Utf8.encode (j : Int) := by rw [h]; simp [b8]
    rw [e]
    simp [execOp, hx, run_convert_int_string w s t k (j : Int) hs ht]) kk
end steps
theorem runes_ints (s : ByteArray) : ∀ (bound i : Nat) (acc : Array Value) (rs : List Int), acc.toList = rs.map (Value.int .i32) → ∃ rs' : List Int, (Conv.runesFrom s bound i acc).toList = rs'.map (Value.int .i32) ∧ rs'.length ≤ rs.length + bound
  | 0, _, acc, rs, h => ⟨rs, by simpa [Conv.runesFrom] using h, by omega⟩
  | bound + 1, i, acc, rs, h => by
    unfold Conv.runesFrom
    split
    · obtain ⟨rs', h1, h2⟩ := runes_ints s bound (i + (Utf8.decode s i).2) (acc.push (.int .i32 (Int.ofNat (Utf8.decode s i).1))) (rs ++ [Int.ofNat (Utf8.decode s i).1]) (by simp [h])
      refine ⟨rs', h1, ?_⟩
      simp at h2; omega
    · exact ⟨rs, h, by omega⟩
/-- A string's runes. -/
noncomputable def rOf (bs : List UInt8) : List Int := Classical.choose (runes_ints (str bs) (str bs).size 0 #[] [] rfl)
theorem rOf_spec (bs : List UInt8) : (Conv.runesFrom (str bs) (str bs).size 0 #[]).toList = (rOf bs).map (Value.int .i32) ∧ (rOf bs).length ≤ ([] : List Int).length + (str bs).size := Classical.choose_spec (runes_ints (str bs) (str bs).size 0 #[] [] rfl)
theorem rOf_le (bs : List UInt8) : (rOf bs).length ≤ bs.length := by
  have := (rOf_spec bs).2
  rw [size_str] at this
  simpa using this
section steps
variable {P : Program} {n : Nat} {ops : Array Oper} {Q : Post} {rest : List Oper} {ρ : Env} {w : World} {ty : TypeId} {pos : String} {af : Array Edge} {d : Nat}
theorem cvSR {w0 : World} {S : List Nat} {L : List Ent} {s t e : TypeId} {x : Operand} {bs : List UInt8} (H : SH w0 S w L) (hx : ev ρ x = .string (str bs)) (hs : P.underlying s = some .string) (ht : P.underlying t = some (.slice e)) (he : P.underlying e = some (.int .i32)) (hl : bs.length ≤ 70368744177664) (hn : Nat.blt d n = true)
    (kk : ∀ b c w', w.heap.size ≤ b → (rOf bs).length ≤ c → SH w0 S w' (⟨b, .cells ((rOf bs ++ List.replicate (c - (rOf bs).length) 0).map (Value.int .i32)).toArray e (0, 0), true⟩ :: L) → Fr [] w w' → wl P n ops Q rest (upd ρ d (.slice (some ⟨b, 0, none⟩) (rOf bs).length c)) w') : wl P n ops Q (⟨some d, .convert s t x, ty, pos, af, none⟩ :: rest) ρ w := by
  obtain ⟨h1, h2⟩ := rOf_spec bs
  generalize hrs : rOf bs = rs at h1 h2 kk
  have hsz : (Conv.runesFrom (str bs) (str bs).size 0 #[]).size = rs.length := by rw [← Array.length_toList, h1]; simp
  rw [size_str] at h2
  have hr := run_runes_of_string (P := P) w s t e (str bs) hs ht he (by rw [hsz]; simp at h2; omega)
  rw [hsz] at hr
  have hge := grownCap_ge w rs.length 0 e
  have e1 : Conv.runesFrom (str bs) (str bs).size 0 #[] ++ Array.replicate (grownCap w rs.length 0 e - rs.length) (.int .i32 0) = ((rs ++ List.replicate (grownCap w rs.length 0 e - rs.length) 0).map (Value.int .i32)).toArray := by
    apply Array.ext'
    rw [Array.toList_append, h1]
    simp
  rw [e1] at hr
  refine val rfl rfl hn (by simp [execOp, hx, hr]) (kk w.heap.size _ _ (Nat.le_refl _) hge (H.new ((Fr.drew [] w).trans (Fr.alloc w.drew _)) (Nat.le_refl _) (heap_alloc_new w.drew _)) ((Fr.drew [] w).trans (Fr.alloc w.drew _)))
/-- Runes as a string. -/
def rBytes (ns : List Int) (l : Nat) : List UInt8 := (runesBytes (ns.take l)).data.toList
theorem rBytes_le (ns : List Int) (l : Nat) : (rBytes ns l).length ≤ 4 * l := by
  unfold rBytes
  rw [Array.length_toList]
  have h : (runesBytes (ns.take l)).size ≤ ByteArray.empty.size + 4 * (ns.take l).length := foldl_size_le (ns.take l) ByteArray.empty
  have e0 : ByteArray.empty.size = 0 := rfl
  rw [e0, List.length_take] at h
  have : (runesBytes (ns.take l)).data.size = (runesBytes (ns.take l)).size := rfl
  omega
theorem r_catT {t u : TypeId} {x y : Operand} {a b : List UInt8} {dd : Option Nat} {gg : Option (Nat × Bool)} (hx : ev ρ x = .string (str a)) (hy : ev ρ y = .string (str b)) (hl : a.length + b.length ≤ 9223372036854775807) : (execOp (ev ρ) ⟨dd, .binOp .add t x y u, ty, pos, af, gg⟩).run P w = .ok (.value (.string (str (a ++ b)))) w := by
  have h := run_string_add_sum (P := P) (w := w) (str a) (str b) (by simpa using hl)
  have e : str a ++ str b = str (a ++ b) := ByteArray.mk_append_mk a b
  rw [e] at h
  simp [execOp, hx, hy, eqGuard_at_string, binOp_string_add, h]
theorem r_cvRS {w0 : World} {S : List Nat} {L : List Ent} {s t e T : TypeId} {x : Operand} {b l c : Nat} {fr : Nat × Nat} {ns : List Int} {dd : Option Nat} {gg : Option (Nat × Bool)} (H : SH w0 S w L) (hx : ev ρ x = .slice (some ⟨b, 0, none⟩) l c) [Look L b (.cells (ns.map (Value.int .i32)).toArray T fr)] (hs : P.underlying s = some (.slice e)) (he : P.underlying e = some (.int .i32)) (ht : P.underlying t = some .string) (hl : l ≤ ns.length) :
    (execOp (ev ρ) ⟨dd, .convert s t x, ty, pos, af, gg⟩).run P w = .ok (.value (.string (str (rBytes ns l)))) w := by
  have hL := H.look (b := b) (o := .cells (ns.map (Value.int .i32)).toArray T fr)
  have hload : (loadCells ⟨b, 0, none⟩ l).run P w = .ok ((ns.take l).map (Value.int .i32)).toArray w := by
    have := run_loadCells_list (P := P) w ⟨b, 0, none⟩ ((ns.take l).map (Value.int .i32)) (fun j v hj => by
      rw [Addr.add_lit, cell_at hL]
      rw [List.getElem?_map, List.getElem?_take] at hj
      split at hj
      · simpa using hj
      · simp at hj)
    rw [List.length_map, List.length_take, Nat.min_eq_left hl] at this
    exact this
  have hr := run_runesToString (P := P) w ⟨b, 0, none⟩ l c (ns.take l) hload
  have hc := run_convert_runes_string (P := P) w s t e (some ⟨b, 0, none⟩) l c hs he ht
  unfold rBytes
  rw [str_data]
  simp [execOp, hx, hc, hr]
theorem cvRS {w0 : World} {S : List Nat} {L : List Ent} {s t e T : TypeId} {x : Operand} {b l c : Nat} {fr : Nat × Nat} {ns : List Int} (H : SH w0 S w L) (hx : ev ρ x = .slice (some ⟨b, 0, none⟩) l c) [Look L b (.cells (ns.map (Value.int .i32)).toArray T fr)] (hs : P.underlying s = some (.slice e)) (he : P.underlying e = some (.int .i32)) (ht : P.underlying t = some .string) (hl : l ≤ ns.length) (hn : Nat.blt d n = true)
    (kk : wl P n ops Q rest (upd ρ d (.string (str (rBytes ns l)))) w) : wl P n ops Q (⟨some d, .convert s t x, ty, pos, af, none⟩ :: rest) ρ w :=
  val rfl rfl hn (r_cvRS H hx hs he ht hl) kk
end steps
end Go.Proofs.YtgmkjndmjnbahaaDoor.X
