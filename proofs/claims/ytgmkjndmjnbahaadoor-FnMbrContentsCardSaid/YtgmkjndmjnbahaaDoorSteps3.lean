/- The laws of single operations: builtins, slices that are written out, appending, copying. -/
import Derived.Test.YtgmkjndmjnbahaaDoorSteps2
namespace Go.Proofs.YtgmkjndmjnbahaaDoor.X
set_option linter.unusedVariables false
open Go Go.RowKit
section steps
variable {P : Program} {n : Nat} {ops : Array Oper} {Q : Post} {rest : List Oper} {ρ : Env} {w : World} {ty : TypeId} {pos : String} {af : Array Edge} {d : Nat}
theorem min2 {ts : Array TypeId} {x y : Operand} {k : IntKind} {a b : Int} (hx : ev ρ x = .int k a) (hy : ev ρ y = .int k b) (hn : Nat.blt d n = true) (kk : wl P n ops Q rest (upd ρ d (.int k (min a b))) w) : wl P n ops Q (⟨some d, .call { callee := .builtin .min, args := #[x, y], argTypes := ts }, ty, pos, af, none⟩ :: rest) ρ w :=
  val rfl rfl hn (by
    have e : (if b < a then b else a) = min a b := by omega
    simp [execOp, resolve, invoke, builtin, hx, hy, Builtin.min_, Builtin.min2, e]) kk
theorem max2 {ts : Array TypeId} {x y : Operand} {k : IntKind} {a b : Int} (hx : ev ρ x = .int k a) (hy : ev ρ y = .int k b) (hn : Nat.blt d n = true) (kk : wl P n ops Q rest (upd ρ d (.int k (max a b))) w) : wl P n ops Q (⟨some d, .call { callee := .builtin .max, args := #[x, y], argTypes := ts }, ty, pos, af, none⟩ :: rest) ρ w :=
  val rfl rfl hn (by
    have e : (if a < b then b else a) = max a b := by omega
    simp [execOp, resolve, invoke, builtin, hx, hy, Builtin.max_, Builtin.max2, e]) kk
theorem cpS {t e : TypeId} {x : Operand} {A : Option Addr} {l c : Nat} (hx : ev ρ x = .slice A l c) (hu : P.underlying t = some (.slice e)) (hn : Nat.blt d n = true) (k : wl P n ops Q rest (upd ρ d (.int .i64 (c : Int))) w) : wl P n ops Q (⟨some d, .call { callee := .builtin .cap, args := #[x], argTypes := #[t] }, ty, pos, af, none⟩ :: rest) ρ w :=
  val rfl rfl hn (by simp [execOp, resolve, invoke, builtin, hx, Builtin.cap_, run_underlying hu, goInt]) k

/-! #### a slice that is written out -/
/-- Its parts, one behind the other, each of sz cells. -/
inductive FS (ρ : Env) (sz : Nat) : List Value → List (Nat × Operand) → List Value → Prop where
  | nil {cs : List Value} : FS ρ sz cs [] cs
  | one {cs cs' : List Value} {i : Nat} {x : Operand} {v : Value} {r : List (Nat × Operand)} (hx : ev ρ x = v) (hs : sz = 1) (h1 : v.oneCell' = true) (ho : i < cs.length) (h : FS ρ sz (cs.set i v) r cs') : FS ρ sz cs ((i, x) :: r) cs'
  | agg {cs cs' vs : List Value} {i : Nat} {x : Operand} {r : List (Nat × Operand)} (hx : ev ρ x = .agg vs.toArray) (hm : vs.length = sz) (ho : i * sz + sz ≤ cs.length) (h : FS ρ sz (cs.take (i * sz) ++ vs ++ cs.drop (i * sz + sz)) r cs') : FS ρ sz cs ((i, x) :: r) cs'
theorem fill_FS {ρ : Env} {sz : Nat} : ∀ {cs : List Value} {ps : List (Nat × Operand)} {out : List Value}, FS ρ sz cs ps out →
    Instr.fill (fun i => some (i * sz, sz)) cs.toArray (ps.map fun p => (p.1, ev ρ p.2)) = some out.toArray := by
  intro cs ps out h
  induction h with
  | nil => simp [Instr.fill]
  | one hx hs h1 ho h ih =>
    rename_i cs cs' i x v r
    subst hs
    simp only [List.map_cons, Instr.fill, hx, cells_one h1]
    rw [if_neg (by simp; omega)]
    rw [← ih]
    congr 1
    simp
  | agg hx hm ho h ih =>
    rename_i cs cs' vs i x r
    simp only [List.map_cons, Instr.fill, hx]
    have e0 : (Value.agg vs.toArray).cells = vs.toArray := rfl
    rw [e0, if_neg (by simp; omega)]
    rw [← ih]
    congr 1
    have := foldl_set vs cs.toArray (i * sz) 0 (by simp; omega)
    simp only [Nat.add_zero] at this
    subst hm
    rw [← this]
    simp
/-- The zero cells of so many elements. -/
def zerosOf (P : Program) (e : TypeId) (m : Nat) : Option (List Value) := (zeroL P e).map fun zs => (List.replicate m zs).flatten
section mem
variable {w0 : World} {S : List Nat} {L L' : List Ent}
theorem bs_run {t e : TypeId} {m sz : Nat} {ps : List (Nat × Operand)} {zs out : List Value} {dd : Option Nat} {gg : Option (Nat × Bool)} (hu : P.underlying t = some (.slice e)) (hz : zeroL P e = some zs) (hs : sizeB P e sz = true) (hzs : zs.length = sz ∧ 0 < sz ∧ m * sz ≤ 1000000) (hf : FS ρ sz ((List.replicate m zs).flatten) ps out) :
    (execOp (ev ρ) ⟨dd, .buildSlice t m ps.toArray, ty, pos, af, gg⟩).run P w = .ok (.value (.slice (some ⟨w.heap.size, 0, none⟩) m m)) (w.alloc (.cells out.toArray e)) := by
  obtain ⟨z, hz', hc⟩ := zeroL_some hz
  have hfill := fill_FS hf
  have hcells : (Array.range (m * sz)).map (zs.toArray[· % zs.toArray.size]!) = ((List.replicate m zs).flatten).toArray := by
    apply Array.ext'
    simp only [Array.toList_map, Array.toList_range, List.size_toArray]
    apply List.ext_getElem?
    intro j
    by_cases hj : j < m * sz
    · rw [List.getElem?_map, List.getElem?_range hj]
      have hm : j % zs.length < zs.length := Nat.mod_lt _ (by omega)
      have hflat : ∀ (m j : Nat), j < m * zs.length → ((List.replicate m zs).flatten)[j]? = zs[j % zs.length]? := by
        intro m
        induction m with
        | zero => intro j hj; omega
        | succ m ih =>
          intro j hj
          rw [List.replicate_succ, List.flatten_cons]
          by_cases h1 : j < zs.length
          · rw [List.getElem?_append_left h1, Nat.mod_eq_of_lt h1]
          · rw [List.getElem?_append_right (by omega), ih (j - zs.length) (by rw [Nat.add_mul, Nat.one_mul] at hj; omega)]
            congr 1
            conv => rhs; rw [show j = (j - zs.length) + zs.length by omega, Nat.add_mod_right]
      rw [hflat m j (by rw [hzs.1]; exact hj)]
      simp [hm]
    · rw [List.getElem?_eq_none (by simp; omega), List.getElem?_eq_none]
      simp [hzs.1]; omega
  have hlim : ¬ (m * sz > 2 ^ 24) := by omega
  simp only [execOp, Instr.buildSlice, Sem.run_bind, run_underlying hu, Result.andThen_ok, run_sizeOf hs, Sem.run_ite, hlim, if_false]
  by_cases h0 : m * sz = 0
  · have : m = 0 := by
      rcases Nat.mul_eq_zero.1 h0 with h | h
      · exact h
      · omega
    subst this
    simp only [List.replicate_zero, List.flatten_nil] at hf
    have hout : out = [] := by
      cases hf with
      | nil => rfl
      | one _ _ _ ho _ => simp at ho
      | agg _ _ ho _ => simp at ho; omega
    have hps : ps = [] := by
      cases hf with
      | nil => rfl
      | one _ _ _ ho _ => simp at ho
      | agg _ _ ho _ => simp at ho; omega
    subst hout; subst hps
    simp [Instr.fill, newRow, show Array.range 0 = #[] from rfl]
  · simp only [h0, if_false, run_zeroValue hz', Result.andThen_ok]
    have e1 : (Array.range (m * sz)).map (z.cells[· % z.cells.size]!) = ((List.replicate m zs).flatten).toArray := by rw [hc]; exact hcells
    simp only [Sem.run_pure, Result.andThen_ok, e1]
    have e2 : (Array.map (fun x => (x.1, ev ρ x.2)) ps.toArray).toList = ps.map fun p => (p.1, ev ρ p.2) := by simp
    rw [e2, hfill]
    simp [newRow]
theorem bsl {t e : TypeId} {m sz : Nat} {ps : List (Nat × Operand)} {zs out : List Value} (H : SH w0 S w L) (hu : P.underlying t = some (.slice e)) (hz : zeroL P e = some zs) (hs : sizeB P e sz = true) (hzs : zs.length = sz ∧ 0 < sz ∧ m * sz ≤ 1000000) (hf : FS ρ sz ((List.replicate m zs).flatten) ps out) (hn : Nat.blt d n = true)
    (kk : ∀ b w', w.heap.size ≤ b → SH w0 S w' (⟨b, .cells out.toArray e (0, 0), true⟩ :: L) → Fr [] w w' → wl P n ops Q rest (upd ρ d (.slice (some ⟨b, 0, none⟩) m m)) w') : wl P n ops Q (⟨some d, .buildSlice t m ps.toArray, ty, pos, af, none⟩ :: rest) ρ w :=
  val rfl rfl hn (bs_run hu hz hs hzs hf) (kk _ _ (Nat.le_refl _) (H.new (Fr.alloc _ _) (Nat.le_refl _) (heap_alloc_new _ _)) (Fr.alloc _ _))
/-- []byte("..") of a constant: the new bytes are marked as a string's. -/
theorem cvM {t e T : TypeId} {x : Operand} {b len cap : Nat} {cs : List Value} (H : SH w0 S w L) (hx : ev ρ x = .slice (some ⟨b, 0, none⟩) len cap) (hu : P.underlying t = some (.slice e)) (he : P.underlying e = some (.int .u8)) [lk : Look L b (.cells cs.toArray T (0, 0))] [tn : Turn L b (.cells cs.toArray T (cs.length, cs.length + 1)) L'] (hn : Nat.blt d n = true)
    (kk : ∀ w', SH w0 S w' L' → Fr [b] w w' → wl P n ops Q rest (upd ρ d (.slice (some ⟨b, 0, none⟩) len cap)) w') : wl P n ops Q (⟨some d, .convert t t x, ty, pos, af, none⟩ :: rest) ρ w := by
  have hL := H.look (b := b) (o := .cells cs.toArray T (0, 0))
  have h2 : (w.freeze ⟨b, cs.length, none⟩ 1).heap[b]? = some (.cells cs.toArray T (cs.length, cs.length + 1)) := by
    simp [World.freeze, Array.getElem?_modify, hL]
  have f2 : Fr [b] w (w.freeze ⟨b, cs.length, none⟩ 1) := by
    refine ⟨by simp [World.freeze], by simp [World.freeze], by simp [World.freeze], by simp [World.freeze], fun k _ hk => ?_⟩
    simp only [World.freeze, Nat.one_ne_zero, if_false, Array.getElem?_modify]
    rw [if_neg (by simp at hk; omega)]
  refine val rfl rfl hn (w' := w.freeze ⟨b, cs.length, none⟩ 1) (v := .slice (some ⟨b, 0, none⟩) len cap) ?_ (kk _ (H.put (b := b) (o' := .cells cs.toArray T (cs.length, cs.length + 1)) f2 h2) f2)
  have hsh : w.shape? b = some (T, cs.length) := by simp [World.shape?, hL]
  simp [execOp, hx, convert, run_underlying hu, run_underlying he, markStringish, hsh]
/-- make([]byte, n). -/
theorem mkB {t e : TypeId} {x y : Operand} {by_ : Nat} {m c : Int} {k1 k2 : IntKind} (H : SH w0 S w L) (hx : ev ρ x = .int k1 m) (hy : ev ρ y = .int k2 c) (hu : P.underlying t = some (.slice e)) (he : elemInfo P e = some (.int .u8 0, by_))
    (h0 : 0 ≤ m) (hmc : m ≤ c) (hb : (by_ : Int) * c ≤ 140737488355328) (hc : c ≤ 9223372036854775807) (hn : Nat.blt d n = true)
    (kk : ∀ b w', w.heap.size ≤ b → SH w0 S w' (⟨b, .cells (Bs (List.replicate c.toNat 0)).toArray e (0, 0), true⟩ :: L) → Fr [] w w' → wl P n ops Q rest (upd ρ d (.slice (some ⟨b, 0, none⟩) m.toNat c.toNat)) w') : wl P n ops Q (⟨some d, .makeSlice t x y, ty, pos, af, none⟩ :: rest) ρ w :=
  mk H hx hy hu he h0 hmc hb hc hn (fun b w' h1 h2 h3 => kk b w' h1 (by rw [← Bs_replicate]; exact h2) h3)
/-- copy(dst, src) of bytes. -/
theorem cpB {t e T : TypeId} {x y : Operand} {b o dl dc sl sc f1 f2 : Nat} {A : Option Addr} {ds bs : List UInt8} (H : SH w0 S w L) (hx : ev ρ x = .slice (some ⟨b, o, none⟩) dl dc) (hy : ev ρ y = .slice A sl sc) (hu : P.underlying t = some (.slice e)) (hs : sizeB P e 1 = true)
    [lk : Look L b (.cells (Bs ds).toArray T (f1, f2))] (hr : RB w A sl bs) (ho : o + dl ≤ ds.length) (hf : f2 ≤ o ∨ o + dl ≤ f1)
    [tn : Turn L b (.cells (Bs (ds.take o ++ bs.take (min sl dl) ++ ds.drop (o + min sl dl))).toArray T (f1, f2)) L'] (hn : Nat.blt d n = true)
    (kk : ∀ w', SH w0 S w' L' → Fr [b] w w' → wl P n ops Q rest (upd ρ d (.int .i64 ((min sl dl : Nat) : Int))) w') : wl P n ops Q (⟨some d, .call { callee := .builtin .copy, args := #[x, y], argTypes := #[t, t] }, ty, pos, af, none⟩ :: rest) ρ w := by
  have hL := H.look (b := b) (o := .cells (Bs ds).toArray T (f1, f2))
  have hlen : (Bs (bs.take (min sl dl))).length = min sl dl := by rw [Bs_length, List.length_take, hr.1]; omega
  obtain ⟨h2, f2'⟩ := heap_setCells (Bs (bs.take (min sl dl))) o w b (Bs ds) T (f1, f2) hL (by rw [hlen]; simp; omega)
  rw [hlen] at h2
  have hfirst : ∀ sz, sz = 1 → (Builtin.firstCells sz (min sl dl) (.slice A sl sc)).run P w = .ok (Bs (bs.take (min sl dl))).toArray w := by
    intro sz hsz
    subst hsz
    cases A with
    | none =>
      have h0 : sl = 0 := by
        rcases Nat.eq_zero_or_pos sl with h0 | h0
        · exact h0
        · obtain ⟨_, e, _⟩ := hr.2 0 h0; cases e
      subst h0
      simp [Builtin.firstCells, Bs]
    | some ad =>
      have := run_loadCells_list (P := P) w ad (Bs (bs.take (min sl dl))) (fun j v hj => by
        have hjl : j < min sl dl := by
          have := (List.getElem?_eq_some_iff.1 hj).1
          rw [hlen] at this; exact this
        obtain ⟨ad', e', hc⟩ := hr.2 j (by omega)
        obtain rfl := Option.some.inj e'
        rw [hc, ← hj, Bs_get (by rw [List.length_take, hr.1]; omega)]
        rw [List.getD_eq_getElem?_getD, List.getD_eq_getElem?_getD, List.getElem?_take, if_pos hjl])
      rw [hlen] at this
      simpa [Builtin.firstCells] using this
  have hst := run_storeCells_at' (P := P) (o := o) (Bs (bs.take (min sl dl))) hL (by rw [hlen]; simp; omega) (by rw [hlen]; omega) (by intro v hv; obtain ⟨_, _, rfl⟩ := List.mem_map.1 hv; rfl)
  refine val rfl rfl hn (w' := w.setCells b o (Bs (bs.take (min sl dl)))) (v := .int .i64 ((min sl dl : Nat) : Int)) ?_ (kk _ (H.put (b := b) (o' := .cells (Bs (ds.take o ++ bs.take (min sl dl) ++ ds.drop (o + min sl dl))).toArray T (f1, f2)) f2' ?_) f2')
  · have hmin : Nat.min sl dl = min sl dl := rfl
    simp [execOp, resolve, invoke, builtin, hx, hy, Builtin.copy_, run_underlying hu, Builtin.lenOf, run_sizeOf hs, hmin, hfirst 1 rfl, hst, goInt]
  · rw [h2]; simp [Bs]
end mem
section iface
theorem run_eqI_nn {t : TypeId} {ms : Array (String × TypeId)} (hu : P.underlying t = some (.interface ms)) : (Op.equal t .nilIface .nilIface).run P w = .ok true w := by
  unfold Op.equal
  rw [show Op.maxDepth = 9999 + 1 from rfl, Op.equalIn]
  simp [run_underlying hu]
theorem run_eqI_in {t s : TypeId} {v : Value} {ms : Array (String × TypeId)} (hu : P.underlying t = some (.interface ms)) : (Op.equal t (.iface s v) .nilIface).run P w = .ok false w := by
  unfold Op.equal
  rw [show Op.maxDepth = 9999 + 1 from rfl, Op.equalIn]
  simp [run_underlying hu]
/-- x == nil, x nil. -/
theorem eqlI0 {t u : TypeId} {ms : Array (String × TypeId)} {x : Operand} (hx : ev ρ x = .nilIface) (hu : P.underlying t = some (.interface ms)) (hn : Nat.blt d n = true) (kk : wl P n ops Q rest (upd ρ d (.bool true)) w) : wl P n ops Q (⟨some d, .binOp .eql t x (.const .nilIface) u, ty, pos, af, none⟩ :: rest) ρ w :=
  val rfl rfl hn (by
    have e : ev ρ (.const .nilIface) = .nilIface := rfl
    simp only [execOp, hx, e, eqGuard_nil_constR, binOp]
    simp [run_eqI_nn hu]) kk
theorem eqlI1 {t u s : TypeId} {v : Value} {ms : Array (String × TypeId)} {x : Operand} (hx : ev ρ x = .iface s v) (hu : P.underlying t = some (.interface ms)) (hn : Nat.blt d n = true) (kk : wl P n ops Q rest (upd ρ d (.bool false)) w) : wl P n ops Q (⟨some d, .binOp .eql t x (.const .nilIface) u, ty, pos, af, none⟩ :: rest) ρ w :=
  val rfl rfl hn (by
    have e : ev ρ (.const .nilIface) = .nilIface := rfl
    simp only [execOp, hx, e, eqGuard_at_iface, binOp]
    simp [run_eqI_in hu]) kk
theorem neqI0 {t u : TypeId} {ms : Array (String × TypeId)} {x : Operand} (hx : ev ρ x = .nilIface) (hu : P.underlying t = some (.interface ms)) (hn : Nat.blt d n = true) (kk : wl P n ops Q rest (upd ρ d (.bool false)) w) : wl P n ops Q (⟨some d, .binOp .neq t x (.const .nilIface) u, ty, pos, af, none⟩ :: rest) ρ w :=
  val rfl rfl hn (by
    have e : ev ρ (.const .nilIface) = .nilIface := rfl
    simp only [execOp, hx, e, eqGuard_nil_constR, binOp]
    simp [run_eqI_nn hu]) kk
theorem neqI1 {t u s : TypeId} {v : Value} {ms : Array (String × TypeId)} {x : Operand} (hx : ev ρ x = .iface s v) (hu : P.underlying t = some (.interface ms)) (hn : Nat.blt d n = true) (kk : wl P n ops Q rest (upd ρ d (.bool true)) w) : wl P n ops Q (⟨some d, .binOp .neq t x (.const .nilIface) u, ty, pos, af, none⟩ :: rest) ρ w :=
  val rfl rfl hn (by
    have e : ev ρ (.const .nilIface) = .nilIface := rfl
    simp only [execOp, hx, e, eqGuard_at_iface, binOp]
    simp [run_eqI_in hu]) kk
end iface
end steps
end Go.Proofs.YtgmkjndmjnbahaaDoor.X
