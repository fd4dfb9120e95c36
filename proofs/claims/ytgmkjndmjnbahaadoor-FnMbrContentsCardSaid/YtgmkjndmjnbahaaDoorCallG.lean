/- Calls that turn some of the blocks that are known; a method's value; a listed error in memory, and comparing with it. -/
import Derived.Test.YtgmkjndmjnbahaaDoorSteps7
import Derived.Test.YtgmkjndmjnbahaaDoorPtrRow
import Derived.LaidEql
namespace Go.Proofs.YtgmkjndmjnbahaaDoor.X
set_option linter.unusedVariables false
open Go Go.RowKit
theorem SH.call {w0 w1 w2 : World} {S0 S : List Nat} {A M M' : List Ent} (H : SH w0 S0 w1 (A ++ M)) (K : SH w1 S w2 M') (hS : ∀ s ∈ S, ∃ x ∈ M, x.b = s ∧ x.m = true) (hm : ∀ y ∈ M', y.m = true) : SH w0 S0 w2 (A ++ M') := by
  have hp := List.pairwise_append.1 H.ap
  have hA : ∀ x ∈ A, x.b ∉ S := fun x hx h => by
    obtain ⟨y, hy, e, hym⟩ := hS _ h
    exact hp.2.2 x hx y hy (by simp [hym]) e.symm
  refine ⟨H.fr.then K.fr ?_, ?_, ?_, ?_⟩
  · intro t ht
    obtain ⟨y, hy, e, hym⟩ := hS _ ht
    rw [← e]
    exact H.mu y (List.mem_append.2 (.inr hy)) hym
  · intro x hx
    rcases List.mem_append.1 hx with hx | hx
    · exact K.fr.at (H.get x (List.mem_append.2 (.inl hx))) (hA x hx)
    · exact K.get x hx
  · rw [List.pairwise_append]
    refine ⟨hp.1, K.ap, fun x hx y hy _ e => ?_⟩
    rcases K.mu y hy (hm y hy) with h | h
    · exact hA x hx (e ▸ h)
    · have h2 := lt_of_at (H.get x (List.mem_append.2 (.inl hx)))
      omega
  · intro x hx hxm
    rcases List.mem_append.1 hx with hx | hx
    · exact H.mu x (List.mem_append.2 (.inl hx)) hxm
    · rcases K.mu x hx hxm with h | h
      · obtain ⟨y, hy, e, hym⟩ := hS _ h
        rw [← e]
        exact H.mu y (List.mem_append.2 (.inr hy)) hym
      · exact .inr (Nat.le_trans H.size h)
theorem SH.base {w0 w1 : World} {S0 : List Nat} {A M : List Ent} (H : SH w0 S0 w1 (A ++ M)) : SH w1 (M.map Ent.b) w1 M :=
  SH.init _ _ (fun x hx => H.get x (List.mem_append.2 (.inr hx))) (List.pairwise_append.1 H.ap).2.1 (fun x hx _ => List.mem_map.2 ⟨x, hx, rfl⟩)
/-- The block of a row. -/
def blkOf : Option Addr → List Nat
  | none => []
  | some ad => [ad.block]
def SD (M : List Ent) (D : Option Addr) : List Nat := M.map Ent.b ++ blkOf D
theorem OR.base {e : TypeId} {sz : Nat} {w0 w1 : World} {S0 : List Nat} {A M : List Ent} {D : Option Addr} {n cap : Nat} {xs : List Value} (O : OR e sz w0 S0 w1 (A ++ M) D n cap xs) : OR e sz w1 (SD M D) w1 M D n cap xs := by
  have hsub : ∀ s ∈ M.map Ent.b, s ∈ SD M D := fun s hs => List.mem_append.2 (.inl hs)
  have hB := O.sh.base
  refine ⟨O.len, ⟨Fr.refl _ _, hB.get, hB.ap, fun x hx hm => .inl (hsub _ (List.mem_map.2 ⟨x, hx, rfl⟩))⟩, ?_⟩
  rcases O.own with h | ⟨b, cur, rfl, h2, h3, h4, h5, h6⟩
  · exact .inl h
  · refine .inr ⟨b, cur, rfl, h2, h3, h4, h5, ?_⟩
    have hp := List.pairwise_cons.1 h6.ap
    refine ⟨Fr.refl _ _, ?_, ?_, ?_⟩
    · intro x hx
      rcases List.mem_cons.1 hx with rfl | hx
      · exact h6.get _ (.head _)
      · exact hB.get x hx
    · exact List.Pairwise.cons (fun y hy hm => hp.1 y (List.mem_append.2 (.inr hy)) hm) hB.ap
    · intro x hx _
      rcases List.mem_cons.1 hx with rfl | hx
      · exact .inl (List.mem_append.2 (.inr (by simp [blkOf])))
      · exact .inl (hsub _ (List.mem_map.2 ⟨x, hx, rfl⟩))
theorem OR.call {e : TypeId} {sz : Nat} {w0 w1 w2 : World} {S0 : List Nat} {A M M' : List Ent} {D D' : Option Addr} {n cap n' cap' : Nat} {xs xs' : List Value} (O : OR e sz w0 S0 w1 (A ++ M) D n cap xs) (hM : ∀ y ∈ M, y.m = true) (K : OR e sz w1 (SD M D) w2 M' D' n' cap' xs') (hm : ∀ y ∈ M', y.m = true) : OR e sz w0 S0 w2 (A ++ M') D' n' cap' xs' := by
  have key : ∀ N' : List Ent, (∀ y ∈ N', y.m = true) → SH w1 (SD M D) w2 N' → SH w0 S0 w2 (A ++ N') := by
    intro N' hN K'
    rcases O.own with ⟨rfl, _⟩ | ⟨b, cur, rfl, _, _, _, _, h6⟩
    · refine O.sh.call K' (fun s hs => ?_) hN
      simp only [SD, blkOf, List.append_nil] at hs
      obtain ⟨x, hx, rfl⟩ := List.mem_map.1 hs
      exact ⟨x, hx, rfl, hM x hx⟩
    · have h7 : SH w0 S0 w1 (A ++ (⟨b, .cells cur.toArray e (0, 0), true⟩ :: M)) := h6.perm List.perm_middle.symm
      refine h7.call K' (fun s hs => ?_) hN
      rcases List.mem_append.1 hs with hs | hs
      · obtain ⟨x, hx, rfl⟩ := List.mem_map.1 hs
        exact ⟨x, .tail _ hx, rfl, hM x hx⟩
      · simp [blkOf] at hs
        exact ⟨_, .head _, hs.symm, rfl⟩
  refine ⟨K.len, key M' hm K.sh, ?_⟩
  rcases K.own with h | ⟨b, cur, h1, h2, h3, h4, h5, h6⟩
  · exact .inl h
  · refine .inr ⟨b, cur, h1, h2, h3, h4, h5, ?_⟩
    have h8 := key (⟨b, .cells cur.toArray e (0, 0), true⟩ :: M') (fun y hy => by
      rcases List.mem_cons.1 hy with rfl | hy
      · rfl
      · exact hm y hy) h6
    exact h8.perm List.perm_middle
section steps
variable {P : Program} {n : Nat} {ops : Array Oper} {Q : Post} {rest : List Oper} {ρ : Env} {w : World} {ty : TypeId} {pos : String} {af : Array Edge} {d : Nat}
theorem r_mkM {fn : Fn} {fs : List Operand} {dd : Option Nat} {gg : Option (Nat × Bool)} (vs : List Value) (hv : fs.map (ev ρ) = vs) : (execOp (ev ρ) ⟨dd, .makeFunc fn fs.toArray #[], ty, pos, af, gg⟩).run P w = .ok (.value (.func fn vs.toArray #[])) w := by
  subst hv; simp [execOp, Instr.makeFunc]
theorem mkM {fn : Fn} {fs : List Operand} (vs : List Value) (hv : fs.map (ev ρ) = vs) (hn : Nat.blt d n = true) (k : wl P n ops Q rest (upd ρ d (.func fn vs.toArray #[])) w) : wl P n ops Q (⟨some d, .makeFunc fn fs.toArray #[], ty, pos, af, none⟩ :: rest) ρ w :=
  val rfl rfl hn (r_mkM vs hv) k
theorem r_ncm {x : Operand} {name : String} {t : TypeId} {v : Value} {dd : Option Nat} {gg : Option (Nat × Bool)} (hx : ev ρ x = .func (.method name) #[.iface t v] #[]) (ha : ∀ w, (nilAhead (P.types.size + Made.depth) t v name).run P w = .ok (some false) w) : (execOp (ev ρ) ⟨dd, .nilCheck x, ty, pos, af, gg⟩).run P w = .ok (.value (.func (.method name) #[.iface t v] #[])) w := by
  simp [execOp, hx, ha, run_program]
theorem ncm {x : Operand} {name : String} {t : TypeId} {v : Value} (hx : ev ρ x = .func (.method name) #[.iface t v] #[]) (ha : ∀ w, (nilAhead (P.types.size + Made.depth) t v name).run P w = .ok (some false) w) (hn : Nat.blt d n = true) (k : wl P n ops Q rest (upd ρ d (.func (.method name) #[.iface t v] #[])) w) : wl P n ops Q (⟨some d, .nilCheck x, ty, pos, af, none⟩ :: rest) ρ w :=
  val rfl rfl hn (r_ncm hx ha) k
theorem run_eqW {t tp te : TypeId} {ms : Array (String × TypeId)} {i j : TypeInfo} (a : Addr) (hi : P.underlying t = some (.interface ms)) (hp : P.underlying tp = some (.pointer te)) (hinfo : P.info? tp = some i) (hcomp : i.comparable = true) (hte : P.info? te = some j) : (Op.equal t (.iface tp (.pointer (some a))) (.iface tp (.pointer (some a)))).run P w = .ok true w := by
  unfold Op.equal
  exact run_equalIn_iface_ptr_same w 9998 a hi hp hinfo hcomp hte
theorem run_eqV {t tp : TypeId} {v : Value} {ms : Array (String × TypeId)} (hi : P.underlying t = some (.interface ms)) : (Op.equal t .nilIface (.iface tp v)).run P w = .ok false w := by
  unfold Op.equal
  rw [show Op.maxDepth = 9999 + 1 from rfl, Op.equalIn]
  simp [run_underlying hi]
/-- An error compared with the listed one: the same. -/
theorem r_eqW {t u tp te : TypeId} {ms : Array (String × TypeId)} {i j : TypeInfo} {x y : Operand} {a : Addr} {dd : Option Nat} {gg : Option (Nat × Bool)} (hx : ev ρ x = .iface tp (.pointer (some a))) (hy : ev ρ y = .iface tp (.pointer (some a))) (hi : P.underlying t = some (.interface ms)) (hp : P.underlying tp = some (.pointer te)) (hinfo : P.info? tp = some i) (hcomp : i.comparable = true) (hte : P.info? te = some j) : (execOp (ev ρ) ⟨dd, .binOp .eql t x y u, ty, pos, af, gg⟩).run P w = .ok (.value (.bool true)) w := by
  simp only [execOp, hx, hy, eqGuard, binOp]
  simp [run_eqW a hi hp hinfo hcomp hte]
theorem r_neW {t u tp te : TypeId} {ms : Array (String × TypeId)} {i j : TypeInfo} {x y : Operand} {a : Addr} {dd : Option Nat} {gg : Option (Nat × Bool)} (hx : ev ρ x = .iface tp (.pointer (some a))) (hy : ev ρ y = .iface tp (.pointer (some a))) (hi : P.underlying t = some (.interface ms)) (hp : P.underlying tp = some (.pointer te)) (hinfo : P.info? tp = some i) (hcomp : i.comparable = true) (hte : P.info? te = some j) : (execOp (ev ρ) ⟨dd, .binOp .neq t x y u, ty, pos, af, gg⟩).run P w = .ok (.value (.bool false)) w := by
  simp only [execOp, hx, hy, eqGuard, binOp]
  simp [run_eqW a hi hp hinfo hcomp hte]
theorem r_eqV {t u tp : TypeId} {v : Value} {ms : Array (String × TypeId)} {x y : Operand} {dd : Option Nat} {gg : Option (Nat × Bool)} (hx : ev ρ x = .nilIface) (hy : ev ρ y = .iface tp v) (hi : P.underlying t = some (.interface ms)) : (execOp (ev ρ) ⟨dd, .binOp .eql t x y u, ty, pos, af, gg⟩).run P w = .ok (.value (.bool false)) w := by
  simp only [execOp, hx, hy, eqGuard, binOp]
  simp [run_eqV hi]
theorem r_neV {t u tp : TypeId} {v : Value} {ms : Array (String × TypeId)} {x y : Operand} {dd : Option Nat} {gg : Option (Nat × Bool)} (hx : ev ρ x = .nilIface) (hy : ev ρ y = .iface tp v) (hi : P.underlying t = some (.interface ms)) : (execOp (ev ρ) ⟨dd, .binOp .neq t x y u, ty, pos, af, gg⟩).run P w = .ok (.value (.bool true)) w := by
  simp only [execOp, hx, hy, eqGuard, binOp]
  simp [run_eqV hi]
theorem eqW {t u tp te : TypeId} {ms : Array (String × TypeId)} {i j : TypeInfo} {x y : Operand} {a : Addr} (hx : ev ρ x = .iface tp (.pointer (some a))) (hy : ev ρ y = .iface tp (.pointer (some a))) (hi : P.underlying t = some (.interface ms)) (hp : P.underlying tp = some (.pointer te)) (hinfo : P.info? tp = some i) (hcomp : i.comparable = true) (hte : P.info? te = some j) (hn : Nat.blt d n = true) (k : wl P n ops Q rest (upd ρ d (.bool true)) w) : wl P n ops Q (⟨some d, .binOp .eql t x y u, ty, pos, af, none⟩ :: rest) ρ w :=
  val rfl rfl hn (r_eqW hx hy hi hp hinfo hcomp hte) k
theorem eqV {t u tp : TypeId} {v : Value} {ms : Array (String × TypeId)} {x y : Operand} (hx : ev ρ x = .nilIface) (hy : ev ρ y = .iface tp v) (hi : P.underlying t = some (.interface ms)) (hn : Nat.blt d n = true) (k : wl P n ops Q rest (upd ρ d (.bool false)) w) : wl P n ops Q (⟨some d, .binOp .eql t x y u, ty, pos, af, none⟩ :: rest) ρ w :=
  val rfl rfl hn (r_eqV hx hy hi) k
theorem neW {t u tp te : TypeId} {ms : Array (String × TypeId)} {i j : TypeInfo} {x y : Operand} {a : Addr} (hx : ev ρ x = .iface tp (.pointer (some a))) (hy : ev ρ y = .iface tp (.pointer (some a))) (hi : P.underlying t = some (.interface ms)) (hp : P.underlying tp = some (.pointer te)) (hinfo : P.info? tp = some i) (hcomp : i.comparable = true) (hte : P.info? te = some j) (hn : Nat.blt d n = true) (k : wl P n ops Q rest (upd ρ d (.bool false)) w) : wl P n ops Q (⟨some d, .binOp .neq t x y u, ty, pos, af, none⟩ :: rest) ρ w :=
  val rfl rfl hn (r_neW hx hy hi hp hinfo hcomp hte) k
theorem neV {t u tp : TypeId} {v : Value} {ms : Array (String × TypeId)} {x y : Operand} (hx : ev ρ x = .nilIface) (hy : ev ρ y = .iface tp v) (hi : P.underlying t = some (.interface ms)) (hn : Nat.blt d n = true) (k : wl P n ops Q rest (upd ρ d (.bool true)) w) : wl P n ops Q (⟨some d, .binOp .neq t x y u, ty, pos, af, none⟩ :: rest) ρ w :=
  val rfl rfl hn (r_neV hx hy hi) k
end steps
section copy
variable {P : Program} {n : Nat} {ops : Array Oper} {Q : Post} {rest : List Oper} {ρ : Env} {w : World} {ty : TypeId} {pos : String} {af : Array Edge} {d : Nat} {w0 : World} {S : List Nat} {L L' : List Ent}
/-- copy(dst, text), of a text that is as long, or longer. -/
theorem cpTM {t e T tq : TypeId} {x y : Operand} {b o dl dc f1 f2 : Nat} {ds bs : List UInt8} (H : SH w0 S w L) (hx : ev ρ x = .slice (some ⟨b, o, none⟩) dl dc) (hy : ev ρ y = .string (str bs)) (hu : P.underlying t = some (.slice e)) (hs : sizeB P e 1 = true)
    [lk : Look L b (.cells (Bs ds).toArray T (f1, f2))] (hle : dl ≤ bs.length) (ho : o + dl ≤ ds.length) (hf : f2 ≤ o ∨ o + dl ≤ f1)
    [tn : Turn L b (.cells (Bs (pAt ds o (bs.take dl))).toArray T (f1, f2)) L'] (hn : Nat.blt d n = true)
    (kk : ∀ w', SH w0 S w' L' → Fr [b] w w' → (pAt ds o (bs.take dl)).length = ds.length → wl P n ops Q rest (upd ρ d (.int .i64 (dl : Int))) w') : wl P n ops Q (⟨some d, .call { callee := .builtin .copy, args := #[x, y], argTypes := #[t, tq] }, ty, pos, af, none⟩ :: rest) ρ w := by
  have hL := H.look (b := b) (o := .cells (Bs ds).toArray T (f1, f2))
  have hl : (bs.take dl).length = dl := by rw [List.length_take]; omega
  obtain ⟨h2, f2'⟩ := heap_setCells (Bs (bs.take dl)) o w b (Bs ds) T (f1, f2) hL (by simp; omega)
  have hst := run_storeCells_at' (P := P) (o := o) (Bs (bs.take dl)) hL (by simp; omega) (by simp; omega) (by intro v hv; obtain ⟨_, _, rfl⟩ := List.mem_map.1 hv; rfl)
  have hex : List.take dl (List.map (fun b : UInt8 => Value.int .u8 (b.toNat : Int)) (str bs).data.toList) = Bs (bs.take dl) := by
    rw [← List.map_take]
    rfl
  refine val rfl rfl hn (w' := w.setCells b o (Bs (bs.take dl))) (v := .int .i64 (dl : Int)) ?_ (kk _ (H.put (b := b) (o' := .cells (Bs (pAt ds o (bs.take dl))).toArray T (f1, f2)) f2' ?_) f2' (pAt_len (by omega)))
  · have hmin : Nat.min bs.length dl = dl := Nat.min_eq_right hle
    simp only [execOp, resolve, invoke, builtin, Sem.run_bind, Sem.run_pure, Result.andThen_ok, List.map_toArray, List.map_cons, List.map_nil, hx, hy]
    simp [Builtin.copy_, run_underlying hu, Builtin.lenOf, run_sizeOf hs, hmin, Builtin.firstCells, hex, hst, goInt]
  · rw [h2]; clear hex kk hst h2 f2' tn; generalize bs.take dl = es at hl ⊢; subst hl; simp [Bs, pAt]
end copy
theorem take_step (s : List UInt8) (o k m : Nat) : (s.drop o).take k ++ (s.drop (o + k)).take m = (s.drop o).take (k + m) := by
  rw [List.take_add, List.drop_drop]
/-- The listed error stands in memory: a pointer to ad, of type E, in the variable g. -/
def EofW (g : Nat) (E : TypeId) (ad : Addr) (w : World) : Prop := w.cell? ⟨g, 0, none⟩ = some (.iface E (.pointer (some ad)))
theorem EofW.keep {g : Nat} {E : TypeId} {ad : Addr} {w w' : World} (h : EofW g E ad w) (f : Fr [] w w') : EofW g E ad w' := f.cell h (by simp)
theorem EofW.fr {g : Nat} {E : TypeId} {ad : Addr} {w w' : World} {S : List Nat} (h : EofW g E ad w) (f : Fr S w w') (hg : g ∉ S) : EofW g E ad w' := f.cell h hg
theorem EofW.lt {g : Nat} {E : TypeId} {ad : Addr} {w : World} (h : EofW g E ad w) : g < w.heap.size := by
  unfold EofW World.cell? at h
  rcases Nat.lt_or_ge g w.heap.size with h1 | h1
  · exact h1
  · simp [h1] at h
end Go.Proofs.YtgmkjndmjnbahaaDoor.X
