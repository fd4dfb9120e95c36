/- Laws and walks on the road to the statement: GptBack, GptProt, P29, P30, GptSpoil, GptGood. -/
import Derived.Test.YthcaejaaalkglaaGreatDoorM6
/- What was laid is read back as it was. -/
namespace Go.Proofs.YthcaejaaalkglaaGreatDoor.X
set_option linter.unusedVariables false
set_option linter.unusedSimpArgs false
open Go
/-- A text whose letters are neither 0 nor U+FFFD. -/
def okN (s : List UInt8) : Prop := ∀ c ∈ runes s, c ≠ 0 ∧ c ≠ 65533
theorem runes_val : ∀ (n : Nat) (s : List UInt8), s.length ≤ n → ∀ c ∈ runes s, c < 55296 ∨ (57343 < c ∧ c ≤ 1114111)
  | 0, s, h => by
    have : s = [] := List.eq_nil_of_length_eq_zero (by omega)
    subst this; intro c hc; rw [runes_nil] at hc; exact absurd hc (by simp)
  | n + 1, s, h => by
    by_cases he : s = []
    · subst he; intro c hc; rw [runes_nil] at hc; exact absurd hc (by simp)
    · have h1 := rune1_ok he
      obtain ⟨a1, a2, a3, a4, a5, a6, a7⟩ := h1
      intro c hc
      rw [runes_cons he] at hc
      rcases List.mem_cons.1 hc with rfl | hc
      · omega
      · exact runes_val n (s.drop (rune1 s).2) (by rw [List.length_drop]; omega) c hc
/-- A partition that may stand on a disk of n sectors. -/
structure GP.good (n : Nat) (p : GP) : Prop where
  ty : gOk p.ty = true
  gu : gOk p.gu = true
  tz : sameG p.ty zG = false
  gz : sameG p.gu zG = false
  un : (utf16 p.nm).length ≤ 36
  nm : okN p.nm
  ix : 1 ≤ p.ix ∧ p.ix ≤ 128
  st : 34 ≤ p.st
  en : p.st ≤ p.en
  la : p.en ≤ (n : Int) - 34
  sz : p.sz = (p.en - p.st + 1) * 512
theorem GP.good.fits {n : Nat} {p : GP} (h : p.good n) : p.fits := ⟨h.ix.1, h.ix.2, h.un⟩
theorem GP.good.ok {n : Nat} {p : GP} (h : p.good n) (hn : n ≤ 1000000) (ha : 0 ≤ p.att ∧ p.att ≤ 18446744073709551615) : p.ok := by
  have h1 := h.ix; have h2 := h.st; have h3 := h.en; have h4 := h.la; have h5 := h.sz
  exact ⟨by omega, by omega, by omega, by omega, ha⟩
/-- A row of such, in the order of their places. -/
def goodL (n : Nat) (ps : List GP) : Prop := (∀ p ∈ ps, p.good n) ∧ ps.Pairwise (fun x y => x.ix < y.ix)
theorem gB_zG : gB zG = List.replicate 16 0 := by decide +kernel
theorem gOk_zG : gOk zG = true := by decide +kernel
theorem sameG_z {s : List UInt8} (h : gOk s = true) (hz : sameG s zG = false) : gB s ≠ List.replicate 16 0 := by
  intro e
  unfold sameG at hz
  rw [h, gOk_zG, gB_zG, decide_eq_true e] at hz
  exact Bool.noConfusion hz
theorem sameG_gTz {s : List UInt8} (h : gOk s = true) (hz : sameG s zG = false) : sameG (gT (gB s)) zG = false := by
  unfold sameG
  rw [gB_gT (gB_len s), decide_eq_false (p := gB s = gB zG) (by rw [gB_zG]; exact sameG_z h hz)]
  simp
/-- What is told of a partition that was laid. -/
def gpP (p : GP) : GP := gpE p.ix (padE p)
theorem gpP_sz {n : Nat} {p : GP} (h : p.good n) (ho : p.ok) (hn : n ≤ 1000000) : szE (padE p) = p.sz := by
  obtain ⟨f1, f2, f3, f4, f5⟩ := pad_fields ho
  unfold szE
  rw [f3, f4, h.sz]
  have h2 := h.st; have h3 := h.en; have h4 := h.la
  rw [Int.emod_eq_of_lt (a := p.en - p.st) (by omega) (by omega), Int.emod_eq_of_lt (a := p.en - p.st + 1) (by omega) (by omega), Int.emod_eq_of_lt (by omega) (by omega)]
theorem gpP_ok {n : Nat} {p : GP} (h : p.good n) (ho : p.ok) (hn : n ≤ 1000000) : (gpP p).ok := by
  obtain ⟨f1, f2, f3, f4, f5⟩ := pad_fields ho
  have e4 : (gpP p).sz = p.sz := gpP_sz h ho hn
  have e2 : (gpP p).st = p.st := f3
  have e3 : (gpP p).en = p.en := f4
  have e8 : (gpP p).att = p.att := f5
  exact ⟨ho.ix, by rw [e2]; exact ho.st, by rw [e3]; exact ho.en, by rw [e4]; exact ho.sz, by rw [e8]; exact ho.att⟩
theorem ok_laid {ps : List GP} {n : Nat} (hg : goodL n ps) (ho : ∀ p ∈ ps, p.ok) (hn : n ≤ 1000000) : ∀ p ∈ ps.map gpP, p.ok := fun q hq => by
  obtain ⟨p, hp, rfl⟩ := List.mem_map.1 hq
  exact gpP_ok (hg.1 p hp) (ho p hp) hn
end Go.Proofs.YthcaejaaalkglaaGreatDoor.X

/- Walks of functions, printed by a program of this claim. -/
namespace Go.Proofs.YthcaejaaalkglaaGreatDoor.X
set_option linter.unusedVariables false
set_option linter.unusedSimpArgs false
open Go Go.RowKit

namespace PF
theorem ca20 : callable Tryz.prog 20 = true := by kernel_rfl
theorem ca39 : callable Tryz.prog 39 = true := by kernel_rfl
end PF
open PF

set_option maxRecDepth 100000 in
set_option maxHeartbeats 1000000 in
theorem c_fits7 (w : World) (p : GP) : Calls Tryz.prog 39 #[.agg p.cells.toArray] w (Ret fun v w' => ∃ b, v = .bool b ∧ (b = true → p.fit) ∧ Fr [] w w') := by
 refine enter (fun ρ => ρ 2) Tryz.func39 rfl rfl rfl (res1 rfl) ?_
 have H := SH.nil w
 have s1 := size_str p.ty
 have s2 := size_str p.nm
 have s3 := size_str p.gu
 refine sq ?_
 refine rg ?_
 refine bx (v := .agg _) H rfl rfl rfl ?_
 clear H; intro b1 w1 hb1 H _
 refine asg (v := .bool _) rfl rfl ?_
 refine nl ?_
 refine then_n ?_
 refine sq ?_
 refine sq ?_
 refine rg ?_
 refine fa rfl fo54_4 rfl ?_
 refine ld H rfl sc9 rfl rfl ?_
 refine lnT rfl Tryz.underlying9 rfl ?_
 refine gtr rfl rfl rfl ?_
 refine nl ?_
 refine then_n ?_
 refine cd rfl (fun hc1 => ?_) (fun hc1 => ?_)
 ·refine sq ?_
  refine rg ?_
  refine asg (v := .bool _) rfl rfl ?_
  refine nl ?_
  refine then_n ?_
  refine rt ?_
  refine then_r ?_
  refine fin_r ?_
  exact ⟨false, rfl, fun h => by exact Bool.noConfusion h, H.fr⟩
 ·refine sk ?_
  refine then_n ?_
  refine sq ?_
  refine sq ?_
  refine rg ?_
  refine fa rfl fo54_5 rfl ?_
  refine ld H rfl sc9 rfl rfl ?_
  refine lnT rfl Tryz.underlying9 rfl ?_
  refine gtr rfl rfl rfl ?_
  refine nl ?_
  refine then_n ?_
  refine cd rfl (fun hc2 => ?_) (fun hc2 => ?_)
  ·refine sq ?_
   refine rg ?_
   refine asg (v := .bool _) rfl rfl ?_
   refine nl ?_
   refine then_n ?_
   refine rt ?_
   refine then_r ?_
   refine fin_r ?_
   exact ⟨false, rfl, fun h => by exact Bool.noConfusion h, H.fr⟩
  ·refine sk ?_
   refine then_n ?_
   refine sq ?_
   refine sq ?_
   refine rg ?_
   refine fa rfl fo54_6 rfl ?_
   refine ld H rfl sc9 rfl rfl ?_
   refine lnT rfl Tryz.underlying9 rfl ?_
   refine gtr rfl rfl rfl ?_
   refine nl ?_
   refine then_n ?_
   refine cd rfl (fun hc3 => ?_) (fun hc3 => ?_)
   ·refine sq ?_
    refine rg ?_
    refine asg (v := .bool _) rfl rfl ?_
    refine nl ?_
    refine then_n ?_
    refine rt ?_
    refine then_r ?_
    refine fin_r ?_
    exact ⟨false, rfl, fun h => by exact Bool.noConfusion h, H.fr⟩
   ·refine sk ?_
    refine then_n ?_
    refine sq ?_
    refine rg ?_
    refine asg (v := .bool _) rfl rfl ?_
    refine nl ?_
    refine then_n ?_
    refine rt ?_
    refine fin_r ?_
    exact ⟨true, rfl, fun _ => ⟨by omega, by omega, by omega⟩, H.fr⟩

set_option maxRecDepth 100000 in
set_option maxHeartbeats 1000000 in
theorem c_fits6 (w : World) (D : Option Addr) (m c : Nat) (ps : List GP) (hq : RG w D m c ps) : Calls Tryz.prog 20 #[.slice D m c] w (Ret fun v w' => ∃ b, v = .bool b ∧ (b = true → m ≤ 2147483647 ∧ ∀ p ∈ ps, p.fit) ∧ Fr [] w w') := by
 refine enter (fun ρ => ρ 2) Tryz.func20 rfl rfl rfl (res1 rfl) ?_
 have H := SH.nil w
 have hql := hq.len
 have hcap : c ≤ 9223372036854775807 := by have := hq.cap.2; unfold maxLen at this; omega
 have hcap1 := hq.cap.1
 refine sq ?_
 refine rg ?_
 refine asg (v := .bool _) rfl rfl ?_
 refine nl ?_
 refine then_n ?_
 refine sq ?_
 refine sq ?_
 refine rg ?_
 refine mv (v := .slice _ _ _) rfl rfl ?_
 refine lnS rfl Tryz.underlying22 rfl ?_
 refine gtr rfl rfl rfl ?_
 refine nl ?_
 refine then_n ?_
 refine cd rfl (fun hc1 => ?_) (fun hc1 => ?_)
 ·refine sq ?_
  refine rg ?_
  refine asg (v := .bool _) rfl rfl ?_
  refine nl ?_
  refine then_n ?_
  refine rt ?_
  refine then_r ?_
  refine fin_r ?_
  exact ⟨false, rfl, fun h => by exact Bool.noConfusion h, H.fr⟩
 ·refine sk ?_
  refine then_n ?_
  refine sq ?_
  refine sq ?_
  refine rg ?_
  refine mv (v := .slice _ _ _) rfl rfl ?_
  refine lnS rfl Tryz.underlying22 rfl ?_
  refine mv (v := .int .i64 _) rfl rfl ?_
  refine nl ?_
  refine then_n ?_
  refine bk ?_
  refine lpM (α := Nat) [2, 4, 10, 11, 12, 13, 14, 15, 16, 17] (fun i => [(10, .int .i64 (i : Int))]) (fun i w' => i ≤ m ∧ (∀ j p, j < i → ps[j]? = some p → p.fit) ∧ SH w [] w' []) (fun i => m - i) 0 ?_ (fC (by first | rfl | exact congrArg (Value.int _) (by first | omega | assumption | (symm; assumption) | (simp; done) | (simp; omega)) | exact congrArg (fun n => Value.slice _ n _) (by first | omega | (simp; done) | (simp; omega))) (fN _)) ?_
  ·exact ⟨by omega, fun j p hj => by omega, H⟩
  ·rintro i ρx w1 ⟨hi, hs, H⟩
   refine sq ?_
   refine rg ?_
   refine lss rfl rfl rfl ?_
   refine nl ?_
   refine then_n ?_
   refine sq ?_
   refine cd rfl (fun hc2 => ?_) (fun hc2 => ?_)
   ·obtain ⟨p, hpi⟩ : ∃ p, ps[i]? = some p := ⟨_, List.getElem?_eq_getElem (by omega)⟩
    obtain ⟨ad, rfl⟩ := hq.some_of (by omega)
    refine sk ?_
    refine then_n ?_
    refine sq ?_
    refine bk ?_
    refine sq ?_
    refine rg ?_
    refine iBN (ad.add (i * 8)) rfl rfl Tryz.underlying22 sz54_8 (by omega) (by simp) rfl ?_
    refine lw (vs := p.cells) rfl ag54_8 rfl (fun j v h => H.fr.cell (hq.elem hpi j v h) (by simp)) rfl ?_
    refine al H ze54 rfl ?_
    clear H; intro b1 w2 hb1 H _
    refine sa (cs' := p.cells) H rfl rfl ag54_8 rfl rfl (by decide) (by omega) rfl ?_
    clear H; intro w35 H _
    refine nl ?_
    refine then_n ?_
    refine sq ?_
    refine rg ?_
    refine la (vs := p.cells) H rfl ag54_8 rfl rfl rfl ?_
    refine cl ca39 (c_fits7 _ p) rfl ?_
    rintro _ w3 ⟨g7, rfl, g7h, F⟩
    replace H := H.keep F; clear F
    refine unot rfl rfl ?_
    refine nl ?_
    refine then_n ?_
    refine cn rfl (fun hc3 => ?_) (fun hc3 => ?_)
    ·refine sq ?_
     refine rg ?_
     refine asg (v := .bool _) rfl rfl ?_
     refine nl ?_
     refine then_n ?_
     refine rt ?_
     refine in_r ?_
     refine then_r ?_
     refine loop_r ?_
     refine in_r ?_
     refine then_r ?_
     refine fin_r ?_
     exact ⟨false, rfl, fun h => by exact Bool.noConfusion h, H.fr⟩
    ·refine sk ?_
     refine in_n ?_
     refine then_n ?_
     refine rg ?_
     refine add rfl rfl (by first | exact w_i64 (by omega) | exact w_i64 (rng_i64 _) | rfl) rfl ?_
     refine mv (v := .int .i64 _) rfl rfl ?_
     refine nl ?_
     refine loop_n ?_
     exact ⟨i + 1, (by (try dsimp only); omega), ⟨by omega, all_next hs hpi (g7h (by simpa using hc3)), H.sub (by repeat (first | exact List.Sublist.refl _ | exact List.nil_sublist _ | apply List.Sublist.cons_cons | apply List.Sublist.cons))⟩, (fC (by first | rfl | exact congrArg (Value.int _) (by first | omega | assumption | (symm; assumption) | (simp; done) | (simp; omega)) | exact congrArg (fun n => Value.slice _ n _) (by first | omega | (simp; done) | (simp; omega))) (fN _)), (by repeat (first | exact Agree.setL rfl Agree.mask | exact Agree.self _ _ | refine Agree.upd rfl ?_ | refine Agree.setL rfl ?_ | refine Agree.mask2 rfl ?_))⟩
   ·refine ex ?_
    refine then_e ?_
    refine loop_e ?_
    refine in_hit rfl ?_
    refine then_n ?_
    refine sq ?_
    refine rg ?_
    refine asg (v := .bool _) rfl rfl ?_
    refine nl ?_
    refine then_n ?_
    refine rt ?_
    refine fin_r ?_
    obtain rfl : i = m := by omega
    exact ⟨true, rfl, fun _ => ⟨by omega, all_mem (by omega) hs⟩, H.fr⟩

set_option maxRecDepth 100000 in
set_option maxHeartbeats 1000000 in
theorem c_fits5 (w : World) (D : Option Addr) (m c : Nat) (sec : Int) (g : List UInt8) (pr rc : Bool) (ps : List GP) (hq : RG w D m c ps) : Calls Tryz.prog 8 #[.agg (gtCells D m c sec g pr rc).toArray] w (Ret fun v w' => ∃ b, v = .bool b ∧ (b = true → m ≤ 2147483647 ∧ g.length ≤ 2147483647 ∧ ∀ p ∈ ps, p.fit) ∧ Fr [] w w') := by
 refine enter (fun ρ => ρ 2) Tryz.func8 rfl rfl rfl (res1 rfl) ?_
 have H := SH.nil w
 have s1 := size_str g
 refine sq ?_
 refine rg ?_
 refine bx (v := .agg _) H rfl rfl rfl ?_
 clear H; intro b1 w1 hb1 H _
 refine asg (v := .bool _) rfl rfl ?_
 refine nl ?_
 refine then_n ?_
 refine sq ?_
 refine sq ?_
 refine rg ?_
 refine fa rfl fo24_0 rfl ?_
 refine ld H rfl sc22 rfl rfl ?_
 refine cl ca20 (c_fits6 _ D m c ps (hq.keep H.fr)) rfl ?_
 rintro _ w2 ⟨g6, rfl, g6h, F⟩
 replace H := H.keep F; clear F
 refine unot rfl rfl ?_
 refine nl ?_
 refine then_n ?_
 refine cn rfl (fun hc1 => ?_) (fun hc1 => ?_)
 ·refine sq ?_
  refine rg ?_
  refine asg (v := .bool _) rfl rfl ?_
  refine nl ?_
  refine then_n ?_
  refine rt ?_
  refine then_r ?_
  refine fin_r ?_
  exact ⟨false, rfl, fun h => by exact Bool.noConfusion h, H.fr⟩
 ·refine sk ?_
  refine then_n ?_
  refine sq ?_
  refine sq ?_
  refine rg ?_
  refine fa rfl fo24_2 rfl ?_
  refine ld H rfl sc9 rfl rfl ?_
  refine lnT rfl Tryz.underlying9 rfl ?_
  refine gtr rfl rfl rfl ?_
  refine nl ?_
  refine then_n ?_
  refine cd rfl (fun hc2 => ?_) (fun hc2 => ?_)
  ·refine sq ?_
   refine rg ?_
   refine asg (v := .bool _) rfl rfl ?_
   refine nl ?_
   refine then_n ?_
   refine rt ?_
   refine then_r ?_
   refine fin_r ?_
   exact ⟨false, rfl, fun h => by exact Bool.noConfusion h, H.fr⟩
  ·refine sk ?_
   refine then_n ?_
   refine sq ?_
   refine rg ?_
   refine asg (v := .bool _) rfl rfl ?_
   refine nl ?_
   refine then_n ?_
   refine rt ?_
   refine fin_r ?_
   have h6 := g6h (by simpa using hc1)
   exact ⟨true, rfl, fun _ => ⟨h6.1, by omega, h6.2⟩, H.fr⟩

end Go.Proofs.YthcaejaaalkglaaGreatDoor.X

/- Walks of functions, printed by a program of this claim. -/
namespace Go.Proofs.YthcaejaaalkglaaGreatDoor.X
set_option linter.unusedVariables false
set_option linter.unusedSimpArgs false
open Go Go.RowKit

namespace PF
theorem ag95_2 : aggB Tryz.prog 95 2 = true := by kernel_rfl
theorem ca43 : callable Tryz.prog 43 = true := by kernel_rfl
theorem fo95_0 : fieldOff Tryz.prog 95 0 = some 0 := by kernel_rfl
theorem fo95_1 : fieldOff Tryz.prog 95 1 = some 1 := by kernel_rfl
theorem sz95_2 : sizeB Tryz.prog 95 2 = true := by kernel_rfl
theorem ze95 : zeroL Tryz.prog 95 = some [.int .u8 0, .int .u8 0] := by kernel_rfl
end PF
open PF

set_option maxRecDepth 100000 in
set_option maxHeartbeats 1000000 in
theorem c_word (w : World) (s : List UInt8) (hs : 8 ≤ s.length) : Calls Tryz.prog 43 #[.string (str s)] w (Ret fun v w' => ∃ x, v = .int .u64 x ∧ Fr [] w w') := by
 refine enter (fun ρ => ρ 2) Tryz.func43 rfl rfl rfl (res1 rfl) ?_
 have H := SH.nil w
 refine sq ?_
 refine rg ?_
 refine asg (v := .int .u64 _) rfl rfl ?_
 refine nl ?_
 refine then_n ?_
 refine sq ?_
 refine cbF rfl rfl ?_
 refine sk ?_
 refine then_n ?_
 refine sq ?_
 refine dr (by kernel_rfl) ?_
 have H := H.drew
 refine hold (fun _ => True) [] ?_
 refine tk (i := 0) rfl (by kernel_rfl) rfl trivial (fun _ _ => r_mv (v := .string _) rfl) ?_
 refine tk (i := 1) rfl (by kernel_rfl) rfl trivial (fun _ _ => r_ixS rfl rfl Tryz.underlying9 (by first | omega | (constructor <;> simp <;> omega))) ?_
 refine tk (i := 2) rfl (by kernel_rfl) rfl trivial (fun _ _ => r_cvi rfl rfl Tryz.underlying28 (by first | exact w_u64 (by omega) | exact w_u64 (rng_u64 _) | exact m_u64 _)) ?_
 refine tk (i := 3) rfl (by kernel_rfl) rfl trivial (fun _ _ => r_mv (v := .string _) rfl) ?_
 refine tk (i := 4) rfl (by kernel_rfl) rfl trivial (fun _ _ => r_ixS rfl rfl Tryz.underlying9 (by first | omega | (constructor <;> simp <;> omega))) ?_
 refine tk (i := 5) rfl (by kernel_rfl) rfl trivial (fun _ _ => r_cvi rfl rfl Tryz.underlying28 (by first | exact w_u64 (by omega) | exact w_u64 (rng_u64 _) | exact m_u64 _)) ?_
 refine tk (i := 6) rfl (by kernel_rfl) rfl trivial (fun _ _ => r_shlK (s := 8) (p := 256) rfl rfl (by decide) (by decide) (by first | exact w_u64 (by omega) | exact w_u64 (rng_u64 _) | exact m_u64 _)) ?_
 refine tk (i := 7) rfl (by kernel_rfl) rfl trivial (fun _ _ => r_bor rfl rfl rfl) ?_
 refine tk (i := 8) rfl (by kernel_rfl) rfl trivial (fun _ _ => r_mv (v := .string _) rfl) ?_
 refine tk (i := 9) rfl (by kernel_rfl) rfl trivial (fun _ _ => r_ixS rfl rfl Tryz.underlying9 (by first | omega | (constructor <;> simp <;> omega))) ?_
 refine tk (i := 10) rfl (by kernel_rfl) rfl trivial (fun _ _ => r_cvi rfl rfl Tryz.underlying28 (by first | exact w_u64 (by omega) | exact w_u64 (rng_u64 _) | exact m_u64 _)) ?_
 refine tk (i := 11) rfl (by kernel_rfl) rfl trivial (fun _ _ => r_shlK (s := 16) (p := 65536) rfl rfl (by decide) (by decide) (by first | exact w_u64 (by omega) | exact w_u64 (rng_u64 _) | exact m_u64 _)) ?_
 refine tk (i := 12) rfl (by kernel_rfl) rfl trivial (fun _ _ => r_bor rfl rfl rfl) ?_
 refine tk (i := 13) rfl (by kernel_rfl) rfl trivial (fun _ _ => r_mv (v := .string _) rfl) ?_
 refine tk (i := 14) rfl (by kernel_rfl) rfl trivial (fun _ _ => r_ixS rfl rfl Tryz.underlying9 (by first | omega | (constructor <;> simp <;> omega))) ?_
 refine tk (i := 15) rfl (by kernel_rfl) rfl trivial (fun _ _ => r_cvi rfl rfl Tryz.underlying28 (by first | exact w_u64 (by omega) | exact w_u64 (rng_u64 _) | exact m_u64 _)) ?_
 refine tk (i := 16) rfl (by kernel_rfl) rfl trivial (fun _ _ => r_shlK (s := 24) (p := 16777216) rfl rfl (by decide) (by decide) (by first | exact w_u64 (by omega) | exact w_u64 (rng_u64 _) | exact m_u64 _)) ?_
 refine tk (i := 17) rfl (by kernel_rfl) rfl trivial (fun _ _ => r_bor rfl rfl rfl) ?_
 refine tk (i := 18) rfl (by kernel_rfl) rfl trivial (fun _ _ => r_mv (v := .string _) rfl) ?_
 refine tk (i := 19) rfl (by kernel_rfl) rfl trivial (fun _ _ => r_ixS rfl rfl Tryz.underlying9 (by first | omega | (constructor <;> simp <;> omega))) ?_
 refine tk (i := 20) rfl (by kernel_rfl) rfl trivial (fun _ _ => r_cvi rfl rfl Tryz.underlying28 (by first | exact w_u64 (by omega) | exact w_u64 (rng_u64 _) | exact m_u64 _)) ?_
 refine tk (i := 21) rfl (by kernel_rfl) rfl trivial (fun _ _ => r_shlK (s := 32) (p := 4294967296) rfl rfl (by decide) (by decide) (by first | exact w_u64 (by omega) | exact w_u64 (rng_u64 _) | exact m_u64 _)) ?_
 refine tk (i := 22) rfl (by kernel_rfl) rfl trivial (fun _ _ => r_bor rfl rfl rfl) ?_
 refine tk (i := 23) rfl (by kernel_rfl) rfl trivial (fun _ _ => r_mv (v := .string _) rfl) ?_
 refine tk (i := 24) rfl (by kernel_rfl) rfl trivial (fun _ _ => r_ixS rfl rfl Tryz.underlying9 (by first | omega | (constructor <;> simp <;> omega))) ?_
 refine tk (i := 25) rfl (by kernel_rfl) rfl trivial (fun _ _ => r_cvi rfl rfl Tryz.underlying28 (by first | exact w_u64 (by omega) | exact w_u64 (rng_u64 _) | exact m_u64 _)) ?_
 refine tk (i := 26) rfl (by kernel_rfl) rfl trivial (fun _ _ => r_shlK (s := 40) (p := 1099511627776) rfl rfl (by decide) (by decide) (by first | exact w_u64 (by omega) | exact w_u64 (rng_u64 _) | exact m_u64 _)) ?_
 refine tk (i := 27) rfl (by kernel_rfl) rfl trivial (fun _ _ => r_bor rfl rfl rfl) ?_
 refine tk (i := 28) rfl (by kernel_rfl) rfl trivial (fun _ _ => r_mv (v := .string _) rfl) ?_
 refine tk (i := 29) rfl (by kernel_rfl) rfl trivial (fun _ _ => r_ixS rfl rfl Tryz.underlying9 (by first | omega | (constructor <;> simp <;> omega))) ?_
 refine tk (i := 30) rfl (by kernel_rfl) rfl trivial (fun _ _ => r_cvi rfl rfl Tryz.underlying28 (by first | exact w_u64 (by omega) | exact w_u64 (rng_u64 _) | exact m_u64 _)) ?_
 refine tk (i := 31) rfl (by kernel_rfl) rfl trivial (fun _ _ => r_shlK (s := 48) (p := 281474976710656) rfl rfl (by decide) (by decide) (by first | exact w_u64 (by omega) | exact w_u64 (rng_u64 _) | exact m_u64 _)) ?_
 refine tk (i := 32) rfl (by kernel_rfl) rfl trivial (fun _ _ => r_bor rfl rfl rfl) ?_
 refine tk (i := 33) rfl (by kernel_rfl) rfl trivial (fun _ _ => r_mv (v := .string _) rfl) ?_
 refine tk (i := 34) rfl (by kernel_rfl) rfl trivial (fun _ _ => r_ixS rfl rfl Tryz.underlying9 (by first | omega | (constructor <;> simp <;> omega))) ?_
 refine tk (i := 35) rfl (by kernel_rfl) rfl trivial (fun _ _ => r_cvi rfl rfl Tryz.underlying28 (by first | exact w_u64 (by omega) | exact w_u64 (rng_u64 _) | exact m_u64 _)) ?_
 refine tk (i := 36) rfl (by kernel_rfl) rfl trivial (fun _ _ => r_shlK (s := 56) (p := 72057594037927936) rfl rfl (by decide) (by decide) (by first | exact w_u64 (by omega) | exact w_u64 (rng_u64 _) | exact m_u64 _)) ?_
 refine tk (i := 37) rfl (by kernel_rfl) rfl trivial (fun _ _ => r_bor rfl rfl rfl) ?_
 refine tk (i := 38) rfl (by kernel_rfl) rfl trivial (fun _ _ => r_asg (v := .int .u64 _) rfl) ?_
 refine unfree ?_
 refine dn (by kernel_rfl) ?_
 refine then_n ?_
 refine rt ?_
 refine fin_r ?_
 exact ⟨_, rfl, H.fr⟩

set_option maxRecDepth 100000 in
set_option maxHeartbeats 2000000 in
theorem c_valid (w : World) (s : List UInt8) (hU : Utf8W w) (hs : s.length ≤ 2147483647) : Calls Tryz.prog 25 #[.string (str s)] w (Ret fun v w' => ∃ b, v = .bool b ∧ Fr [] w w') := by
 refine enter (fun ρ => ρ 2) Tryz.func25 rfl rfl rfl (res1 rfl) ?_
 have H := SH.nil w
 refine sq ?_
 refine rg ?_
 refine asg (v := .bool _) rfl rfl ?_
 refine nl ?_
 refine then_n ?_
 refine sq ?_
 refine bk ?_
 refine lpM (α := List UInt8) [0, 2, 3, 4, 5, 6, 7, 8, 9, 10, 11, 12, 13, 14, 15, 16, 17, 18, 19, 20, 21, 22, 23, 24, 25, 26, 27, 28, 29, 30, 31, 32, 33, 34, 35, 36, 37, 38, 39, 40, 41, 42, 43, 44, 45, 46, 47, 48, 49, 50, 51, 52, 53, 54, 55, 56, 57, 58, 59, 60, 61, 62, 63, 64, 65, 66, 67, 68, 69, 70, 71, 72, 73, 74, 75, 76, 77, 78, 79, 80, 81, 82, 83, 84, 85, 86, 87, 88, 89, 90, 91, 92, 93, 94, 95, 96, 97, 98, 99, 100, 101, 102, 103, 104, 105, 106, 107, 108, 109, 110, 111, 112, 113, 114, 115, 116, 117, 118, 119, 120, 121, 122, 123, 124, 125, 126, 127, 128, 129, 130, 131, 132, 133, 134, 135, 136, 137, 138, 139, 140, 141, 142, 143, 144, 145, 146, 147, 148, 149, 150, 151, 152, 153, 154, 155, 156, 157, 158, 159, 160, 161, 162, 163, 164, 165, 166, 167, 168] (fun l => [(0, .string (str l))]) (fun l w' => l.length ≤ s.length ∧ SH w [] w' []) (fun l => l.length) s ?_ (fC (by first | rfl | exact congrArg (Value.int _) (by first | omega | assumption | (symm; assumption) | (simp; done) | (simp; omega)) | exact congrArg (fun n => Value.slice _ n _) (by first | omega | (simp; done) | (simp; omega))) (fN _)) ?_
 ·exact ⟨by omega, H⟩
 ·rintro l ρx w1 ⟨hl, H⟩
  have hz := size_str l
  refine sq ?_
  refine sq ?_
  refine rg ?_
  refine mv (v := .string _) rfl rfl ?_
  refine lnT rfl Tryz.underlying9 rfl ?_
  refine gtr rfl rfl rfl ?_
  refine nl ?_
  refine then_n ?_
  refine cd rfl (fun hc1 => ?_) (fun hc1 => ?_)
  ·refine sk ?_
   refine then_n ?_
   refine bk ?_
   refine sq ?_
   refine rg ?_
   refine mv (v := .string _) rfl rfl ?_
   refine ixS rfl rfl Tryz.underlying9 (by first | omega | (constructor <;> simp <;> omega)) rfl ?_; intro hu1
   refine asg (v := .int .u8 _) rfl rfl ?_
   refine nl ?_
   refine then_n ?_
   refine sq ?_
   refine sq ?_
   refine rg ?_
   refine mv (v := .int .u8 _) rfl rfl ?_
   refine lss rfl rfl rfl ?_
   refine nl ?_
   refine then_n ?_
   refine cd rfl (fun hc2 => ?_) (fun hc2 => ?_)
   ·have hz1 : (str (List.drop (Int.toNat 1) l)).size = l.length - 1 := by rw [size_str, List.length_drop]; rfl
    have hz9 : (str (List.drop (Int.toNat 8) (List.drop (Int.toNat 1) l))).size = l.length - 1 - 8 := by rw [size_str, List.length_drop, List.length_drop]; rfl
    refine sq ?_
    refine rg ?_
    refine mv (v := .string _) rfl rfl ?_
    refine slTl rfl rfl Tryz.underlying9 (by first | trivial | omega | (simp; omega)) rfl ?_
    refine asg (v := .string _) rfl rfl ?_
    refine nl ?_
    refine then_n ?_
    refine sq ?_
    refine sq ?_
    refine rg ?_
    refine mv (v := .string _) rfl rfl ?_
    refine lnT rfl Tryz.underlying9 rfl ?_
    refine gtr rfl rfl rfl ?_
    refine mv (v := .bool _) rfl rfl ?_
    refine spd (t := 19) rfl (fun hg1 => ?_) (fun hg1 => ?_)
    ·refine gy rfl ?_
     refine mv (v := .string _) rfl rfl ?_
     refine gy rfl ?_
     refine cl ca43 (c_word _ _ (by first | omega | (simp <;> omega))) rfl ?_
     rintro _ w2 ⟨x1, rfl, F⟩
     replace H := H.keep F; clear F
     refine gy rfl ?_
     refine band rfl rfl rfl rfl ?_
     refine gy rfl ?_
     refine eql rfl rfl rfl ?_
     refine pkT (v := .bool _) rfl rfl rfl ?_
     refine nl ?_
     refine then_n ?_
     refine cd rfl (fun hc3 => ?_) (fun hc3 => ?_)
     ·refine sq ?_
      refine rg ?_
      refine mv (v := .string _) rfl rfl ?_
      refine slTl rfl rfl Tryz.underlying9 (by first | trivial | omega | (simp; omega)) rfl ?_
      refine asg (v := .string _) rfl rfl ?_
      refine nl ?_
      refine then_n ?_
      refine sq ?_
      refine dr (by kernel_rfl) ?_
      have H := H.drew
      refine holdH H [] ?_
      refine tk (i := 0) rfl (by kernel_rfl) rfl H (fun w' H => r_mv (v := .string _) rfl) ?_
      refine tk (i := 1) rfl (by kernel_rfl) rfl H (fun w' H => r_lnT rfl Tryz.underlying9) ?_
      refine tk (i := 2) rfl (by kernel_rfl) rfl H (fun w' H => r_gtr rfl rfl) ?_
      refine tk (i := 3) rfl (by kernel_rfl) rfl H (fun w' H => r_mv (v := .bool _) rfl) ?_
      refine spad (t := 30) rfl (fun hg2 => ?_) (fun hg2 => ?_)
      ·refine tkg (i := 4) rfl (by kernel_rfl) rfl H rfl (fun w' H => r_mv (v := .string _) rfl) ?_
       refine tkg (i := 6) rfl (by kernel_rfl) rfl H rfl (fun w' H => r_mv (v := .string _) rfl) ?_
       refine tkg (i := 7) rfl (by kernel_rfl) rfl H rfl (fun w' H => r_slTl rfl rfl Tryz.underlying9 (by first | trivial | omega | (simp; omega))) ?_
       refine fk (i := 5) (by kernel_rfl) rfl rfl rfl ?_
       refine gy rfl ?_
       refine cl ca43 (c_word _ _ (by first | omega | (simp <;> omega))) rfl ?_
       rintro _ w3 ⟨x2, rfl, F⟩
       replace H := H.keep F; clear F
       refine nl ?_
       refine then_n ?_
       refine ⟨H, ?_⟩
       refine fk (i := 8) (by kernel_rfl) rfl rfl rfl ?_
       refine gy rfl ?_
       refine cl ca43 (c_word _ _ (by first | omega | (simp <;> omega))) rfl ?_
       rintro _ w4 ⟨x3, rfl, F⟩
       replace H := H.keep F; clear F
       refine nl ?_
       refine then_n ?_
       refine ⟨H, ?_⟩
       refine tkg (i := 9) rfl (by kernel_rfl) rfl H rfl (fun w' H => r_bor rfl rfl rfl) ?_
       refine tkg (i := 10) rfl (by kernel_rfl) rfl H rfl (fun w' H => r_band rfl rfl rfl) ?_
       refine tkg (i := 11) rfl (by kernel_rfl) rfl H rfl (fun w' H => r_eql rfl rfl) ?_
       refine tk (i := 12) rfl (by kernel_rfl) rfl H (fun w' H => r_pkT (v := .bool _) rfl rfl) ?_
       refine da (by kernel_rfl) ?_
       refine then_n ?_
       refine cd rfl (fun hc4 => ?_) (fun hc4 => ?_)
       ·refine sq ?_
        refine rg ?_
        refine mv (v := .string _) rfl rfl ?_
        refine slTl rfl rfl Tryz.underlying9 (by first | trivial | omega | (simp; omega)) rfl ?_
        refine asg (v := .string _) rfl rfl ?_
        refine nl ?_
        refine then_n ?_
        refine bk ?_
        refine lpM (α := List UInt8) [0, 42, 43, 44, 45, 46, 47, 48, 49, 50, 51, 52, 53, 54, 55, 56, 57, 58, 59, 60, 61, 62, 63, 64] (fun k => [(0, .string (str k))]) (fun k w' => k.length < l.length ∧ SH w [] w' []) (fun k => k.length) (List.drop (Int.toNat 16) (List.drop (Int.toNat 8) (List.drop (Int.toNat 1) l))) ?_ (fC (by first | rfl | exact congrArg (Value.int _) (by first | omega | assumption | (symm; assumption) | (simp; done) | (simp; omega)) | exact congrArg (fun n => Value.slice _ n _) (by first | omega | (simp; done) | (simp; omega))) (fN _)) ?_
        ·exact ⟨by simp <;> omega, H⟩
        ·rintro k ρx w5 ⟨hk, H⟩
         have hzk := size_str k
         refine sq ?_
         refine sq ?_
         refine dr (by kernel_rfl) ?_
         have H := H.drew
         refine holdH H [] ?_
         refine tk (i := 0) rfl (by kernel_rfl) rfl H (fun w' H => r_mv (v := .string _) rfl) ?_
         refine tk (i := 1) rfl (by kernel_rfl) rfl H (fun w' H => r_lnT rfl Tryz.underlying9) ?_
         refine tk (i := 2) rfl (by kernel_rfl) rfl H (fun w' H => r_gtr rfl rfl) ?_
         refine tk (i := 3) rfl (by kernel_rfl) rfl H (fun w' H => r_mv (v := .bool _) rfl) ?_
         refine spad (t := 45) rfl (fun hg3 => ?_) (fun hg3 => ?_)
         ·refine tkg (i := 4) rfl (by kernel_rfl) rfl H rfl (fun w' H => r_mv (v := .string _) rfl) ?_
          refine tkg (i := 6) rfl (by kernel_rfl) rfl H rfl (fun w' H => r_mv (v := .string _) rfl) ?_
          refine tkg (i := 7) rfl (by kernel_rfl) rfl H rfl (fun w' H => r_slTl rfl rfl Tryz.underlying9 (by first | trivial | omega | (simp; omega))) ?_
          refine tkg (i := 10) rfl (by kernel_rfl) rfl H rfl (fun w' H => r_mv (v := .string _) rfl) ?_
          refine tkg (i := 11) rfl (by kernel_rfl) rfl H rfl (fun w' H => r_slTl rfl rfl Tryz.underlying9 (by first | trivial | omega | (simp; omega))) ?_
          refine tkg (i := 13) rfl (by kernel_rfl) rfl H rfl (fun w' H => r_mv (v := .string _) rfl) ?_
          refine tkg (i := 14) rfl (by kernel_rfl) rfl H rfl (fun w' H => r_slTl rfl rfl Tryz.underlying9 (by first | trivial | omega | (simp; omega))) ?_
          refine fk (i := 5) (by kernel_rfl) rfl rfl rfl ?_
          refine gy rfl ?_
          refine cl ca43 (c_word _ _ (by first | omega | (simp <;> omega))) rfl ?_
          rintro _ w6 ⟨x4, rfl, F⟩
          replace H := H.keep F; clear F
          refine nl ?_
          refine then_n ?_
          refine ⟨H, ?_⟩
          refine fk (i := 8) (by kernel_rfl) rfl rfl rfl ?_
          refine gy rfl ?_
          refine cl ca43 (c_word _ _ (by first | omega | (simp <;> omega))) rfl ?_
          rintro _ w7 ⟨x5, rfl, F⟩
          replace H := H.keep F; clear F
          refine nl ?_
          refine then_n ?_
          refine ⟨H, ?_⟩
          refine tkg (i := 9) rfl (by kernel_rfl) rfl H rfl (fun w' H => r_bor rfl rfl rfl) ?_
          refine fk (i := 12) (by kernel_rfl) rfl rfl rfl ?_
          refine gy rfl ?_
          refine cl ca43 (c_word _ _ (by first | omega | (simp <;> omega))) rfl ?_
          rintro _ w8 ⟨x6, rfl, F⟩
          replace H := H.keep F; clear F
          refine nl ?_
          refine then_n ?_
          refine ⟨H, ?_⟩
          refine fk (i := 15) (by kernel_rfl) rfl rfl rfl ?_
          refine gy rfl ?_
          refine cl ca43 (c_word _ _ (by first | omega | (simp <;> omega))) rfl ?_
          rintro _ w9 ⟨x7, rfl, F⟩
          replace H := H.keep F; clear F
          refine nl ?_
          refine then_n ?_
          refine ⟨H, ?_⟩
          refine tkg (i := 16) rfl (by kernel_rfl) rfl H rfl (fun w' H => r_bor rfl rfl rfl) ?_
          refine tkg (i := 17) rfl (by kernel_rfl) rfl H rfl (fun w' H => r_bor rfl rfl rfl) ?_
          refine tkg (i := 18) rfl (by kernel_rfl) rfl H rfl (fun w' H => r_band rfl rfl rfl) ?_
          refine tkg (i := 19) rfl (by kernel_rfl) rfl H rfl (fun w' H => r_eql rfl rfl) ?_
          refine tk (i := 20) rfl (by kernel_rfl) rfl H (fun w' H => r_pkT (v := .bool _) rfl rfl) ?_
          refine da (by kernel_rfl) ?_
          refine then_n ?_
          refine cd rfl (fun hc5 => ?_) (fun hc5 => ?_)
          ·refine sk ?_
           refine then_n ?_
           refine bk ?_
           refine rg ?_
           refine mv (v := .string _) rfl rfl ?_
           refine slTl rfl rfl Tryz.underlying9 (by first | trivial | omega | (simp; omega)) rfl ?_
           refine asg (v := .string _) rfl rfl ?_
           refine nl ?_
           refine in_n ?_
           refine loop_n ?_
           exact ⟨List.drop (Int.toNat 32) k, (by (try dsimp only); simp <;> omega), ⟨by simp <;> omega, H⟩, (fC (by first | rfl | exact congrArg (Value.int _) (by first | omega | assumption | (symm; assumption) | (simp; done) | (simp; omega)) | exact congrArg (fun n => Value.slice _ n _) (by first | omega | (simp; done) | (simp; omega))) (fN _)), (by repeat (first | exact Agree.setL rfl Agree.mask | exact Agree.self _ _ | refine Agree.upd rfl ?_ | refine Agree.setL rfl ?_ | refine Agree.mask2 rfl ?_))⟩
          ·refine ex ?_
           refine then_e ?_
           refine loop_e ?_
           refine in_hit rfl ?_
           refine then_n ?_
           refine ex ?_
           refine then_e ?_
           refine in_hit rfl ?_
           refine loop_n ?_
           exact ⟨k, (by (try dsimp only); omega), ⟨by omega, H⟩, (fC (by first | rfl | exact congrArg (Value.int _) (by first | omega | assumption | (symm; assumption) | (simp; done) | (simp; omega)) | exact congrArg (fun n => Value.slice _ n _) (by first | omega | (simp; done) | (simp; omega))) (fN _)), (by repeat (first | exact Agree.setL rfl Agree.mask | exact Agree.self _ _ | refine Agree.upd rfl ?_ | refine Agree.setL rfl ?_ | refine Agree.mask2 rfl ?_))⟩
         ·refine tkn (i := 4) rfl (by kernel_rfl) rfl H rfl ?_
          refine tkn (i := 5) rfl (by kernel_rfl) rfl H rfl ?_
          refine tkn (i := 6) rfl (by kernel_rfl) rfl H rfl ?_
          refine tkn (i := 7) rfl (by kernel_rfl) rfl H rfl ?_
          refine tkn (i := 8) rfl (by kernel_rfl) rfl H rfl ?_
          refine tkn (i := 9) rfl (by kernel_rfl) rfl H rfl ?_
          refine tkn (i := 10) rfl (by kernel_rfl) rfl H rfl ?_
          refine tkn (i := 11) rfl (by kernel_rfl) rfl H rfl ?_
          refine tkn (i := 12) rfl (by kernel_rfl) rfl H rfl ?_
          refine tkn (i := 13) rfl (by kernel_rfl) rfl H rfl ?_
          refine tkn (i := 14) rfl (by kernel_rfl) rfl H rfl ?_
          refine tkn (i := 15) rfl (by kernel_rfl) rfl H rfl ?_
          refine tkn (i := 16) rfl (by kernel_rfl) rfl H rfl ?_
          refine tkn (i := 17) rfl (by kernel_rfl) rfl H rfl ?_
          refine tkn (i := 18) rfl (by kernel_rfl) rfl H rfl ?_
          refine tkn (i := 19) rfl (by kernel_rfl) rfl H rfl ?_
          refine tk (i := 20) rfl (by kernel_rfl) rfl H (fun w' H => r_pkF (v := .bool _) rfl rfl) ?_
          refine da (by kernel_rfl) ?_
          refine then_n ?_
          refine cbF rfl rfl ?_
          refine ex ?_
          refine then_e ?_
          refine loop_e ?_
          refine in_hit rfl ?_
          refine then_n ?_
          refine ex ?_
          refine then_e ?_
          refine in_hit rfl ?_
          refine loop_n ?_
          exact ⟨k, (by (try dsimp only); omega), ⟨by omega, H⟩, (fC (by first | rfl | exact congrArg (Value.int _) (by first | omega | assumption | (symm; assumption) | (simp; done) | (simp; omega)) | exact congrArg (fun n => Value.slice _ n _) (by first | omega | (simp; done) | (simp; omega))) (fN _)), (by repeat (first | exact Agree.setL rfl Agree.mask | exact Agree.self _ _ | refine Agree.upd rfl ?_ | refine Agree.setL rfl ?_ | refine Agree.mask2 rfl ?_))⟩
       ·refine sk ?_
        refine then_n ?_
        refine ex ?_
        refine then_e ?_
        refine in_hit rfl ?_
        refine loop_n ?_
        exact ⟨List.drop (Int.toNat 8) (List.drop (Int.toNat 1) l), (by (try dsimp only); simp <;> omega), ⟨by simp <;> omega, H⟩, (fC (by first | rfl | exact congrArg (Value.int _) (by first | omega | assumption | (symm; assumption) | (simp; done) | (simp; omega)) | exact congrArg (fun n => Value.slice _ n _) (by first | omega | (simp; done) | (simp; omega))) (fN _)), (by repeat (first | exact Agree.setL rfl Agree.mask | exact Agree.self _ _ | refine Agree.upd rfl ?_ | refine Agree.setL rfl ?_ | refine Agree.mask2 rfl ?_))⟩
      ·refine tkn (i := 4) rfl (by kernel_rfl) rfl H rfl ?_
       refine tkn (i := 5) rfl (by kernel_rfl) rfl H rfl ?_
       refine tkn (i := 6) rfl (by kernel_rfl) rfl H rfl ?_
       refine tkn (i := 7) rfl (by kernel_rfl) rfl H rfl ?_
       refine tkn (i := 8) rfl (by kernel_rfl) rfl H rfl ?_
       refine tkn (i := 9) rfl (by kernel_rfl) rfl H rfl ?_
       refine tkn (i := 10) rfl (by kernel_rfl) rfl H rfl ?_
       refine tkn (i := 11) rfl (by kernel_rfl) rfl H rfl ?_
       refine tk (i := 12) rfl (by kernel_rfl) rfl H (fun w' H => r_pkF (v := .bool _) rfl rfl) ?_
       refine da (by kernel_rfl) ?_
       refine then_n ?_
       refine cbF rfl rfl ?_
       refine sk ?_
       refine then_n ?_
       refine ex ?_
       refine then_e ?_
       refine in_hit rfl ?_
       refine loop_n ?_
       exact ⟨List.drop (Int.toNat 8) (List.drop (Int.toNat 1) l), (by (try dsimp only); simp <;> omega), ⟨by simp <;> omega, H⟩, (fC (by first | rfl | exact congrArg (Value.int _) (by first | omega | assumption | (symm; assumption) | (simp; done) | (simp; omega)) | exact congrArg (fun n => Value.slice _ n _) (by first | omega | (simp; done) | (simp; omega))) (fN _)), (by repeat (first | exact Agree.setL rfl Agree.mask | exact Agree.self _ _ | refine Agree.upd rfl ?_ | refine Agree.setL rfl ?_ | refine Agree.mask2 rfl ?_))⟩
     ·refine sk ?_
      refine then_n ?_
      refine ex ?_
      refine then_e ?_
      refine in_hit rfl ?_
      refine loop_n ?_
      exact ⟨List.drop (Int.toNat 1) l, (by (try dsimp only); simp <;> omega), ⟨by simp <;> omega, H⟩, (fC (by first | rfl | exact congrArg (Value.int _) (by first | omega | assumption | (symm; assumption) | (simp; done) | (simp; omega)) | exact congrArg (fun n => Value.slice _ n _) (by first | omega | (simp; done) | (simp; omega))) (fN _)), (by repeat (first | exact Agree.setL rfl Agree.mask | exact Agree.self _ _ | refine Agree.upd rfl ?_ | refine Agree.setL rfl ?_ | refine Agree.mask2 rfl ?_))⟩
    ·refine gn rfl rfl ?_
     refine gn rfl rfl ?_
     refine gn rfl rfl ?_
     refine gn rfl rfl ?_
     refine pkF (v := .bool _) rfl rfl rfl ?_
     refine nl ?_
     refine then_n ?_
     refine cbF rfl rfl ?_
     refine sk ?_
     refine then_n ?_
     refine ex ?_
     refine then_e ?_
     refine in_hit rfl ?_
     refine loop_n ?_
     exact ⟨List.drop (Int.toNat 1) l, (by (try dsimp only); simp <;> omega), ⟨by simp <;> omega, H⟩, (fC (by first | rfl | exact congrArg (Value.int _) (by first | omega | assumption | (symm; assumption) | (simp; done) | (simp; omega)) | exact congrArg (fun n => Value.slice _ n _) (by first | omega | (simp; done) | (simp; omega))) (fN _)), (by repeat (first | exact Agree.setL rfl Agree.mask | exact Agree.self _ _ | refine Agree.upd rfl ?_ | refine Agree.setL rfl ?_ | refine Agree.mask2 rfl ?_))⟩
   ·refine sk ?_
    refine then_n ?_
    refine sq ?_
    refine rg ?_
    refine mv (v := .int .u8 _) rfl rfl ?_
    refine iyN ((l.getD (Int.toNat 0) 0).toNat) rfl rfl Tryz.underlying93 sz5_1 (by omega) (by omega) rfl ?_
    obtain ⟨fc, hfr, hfc⟩ := hU.1 (l.getD (Int.toNat 0) 0).toNat (by omega)
    refine lc (v := .int .u8 fc) rfl (H.fr.cell hfc (by simp)) sc5 rfl ?_
    refine asg (v := .int .u8 _) rfl rfl ?_
    refine nl ?_
    refine then_n ?_
    refine sq ?_
    refine rg ?_
    refine mv (v := .int .u8 _) rfl rfl ?_
    refine band rfl rfl rfl rfl ?_
    refine cvi rfl rfl Tryz.underlying3 (by first | exact w_i64 (by omega) | exact w_i64 (rng_i64 _) | rfl) rfl ?_
    refine asg (v := .int .i64 _) rfl rfl ?_
    refine nl ?_
    refine then_n ?_
    refine sq ?_
    refine rg ?_
    refine mv (v := .int .u8 _) rfl rfl ?_
    refine shrK (s := 4) (p := 16) rfl rfl (by decide) (by decide) rfl rfl ?_
    refine iyN ((fc / 16).toNat * 2) rfl rfl Tryz.underlying96 sz95_2 (by omega) (by omega) rfl ?_
    obtain ⟨ra, rb, hrr, hrc⟩ := hU.two (i := (fc / 16).toNat) (by omega)
    refine lw (vs := [.int .u8 ra, .int .u8 rb]) rfl ag95_2 rfl (fun j v h => H.fr.cell (hrc j v h) (by simp)) rfl ?_
    refine al H ze95 rfl ?_
    clear H; intro b8 w10 hb8 H _
    refine sa H rfl rfl ag95_2 rfl rfl (by decide) (by omega) rfl ?_
    clear H; intro w11 H _
    refine nl ?_
    refine then_n ?_
    refine sq ?_
    refine rg ?_
    refine mv (v := .int .i64 _) rfl rfl ?_
    refine nl ?_
    refine then_n ?_
    refine bk ?_
    refine sq ?_
    refine rg ?_
    refine eql rfl rfl rfl ?_
    refine asg (v := .bool _) rfl rfl ?_
    refine nl ?_
    refine then_n ?_
    refine cd rfl (fun hc6 => ?_) (fun hc6 => ?_)
    ·refine sq ?_
     refine sq ?_
     refine dr (by kernel_rfl) ?_
     have H := H.drew
     refine holdH H [] ?_
     refine tk (i := 0) rfl (by kernel_rfl) rfl H (fun w' H => r_mv (v := .string _) rfl) ?_
     refine tk (i := 1) rfl (by kernel_rfl) rfl H (fun w' H => r_lnT rfl Tryz.underlying9) ?_
     refine tk (i := 2) rfl (by kernel_rfl) rfl H (fun w' H => r_lss rfl rfl) ?_
     refine tk (i := 3) rfl (by kernel_rfl) rfl H (fun w' H => r_mv (v := .bool _) rfl) ?_
     refine spad (t := 81) rfl (fun hg4 => ?_) (fun hg4 => ?_)
     ·refine tkn (i := 4) rfl (by kernel_rfl) rfl H rfl ?_
      refine tkn (i := 5) rfl (by kernel_rfl) rfl H rfl ?_
      refine tkn (i := 6) rfl (by kernel_rfl) rfl H rfl ?_
      refine tkn (i := 7) rfl (by kernel_rfl) rfl H rfl ?_
      refine tkn (i := 8) rfl (by kernel_rfl) rfl H rfl ?_
      refine tk (i := 9) rfl (by kernel_rfl) rfl H (fun w' H => r_pkT (v := .bool _) rfl rfl) ?_
      refine tk (i := 10) rfl (by kernel_rfl) rfl H (fun w' H => r_mv (v := .bool _) rfl) ?_
      refine tkn (i := 11) rfl (by kernel_rfl) rfl H rfl ?_
      refine tkn (i := 12) rfl (by kernel_rfl) rfl H rfl ?_
      refine tkn (i := 13) rfl (by kernel_rfl) rfl H rfl ?_
      refine tkn (i := 14) rfl (by kernel_rfl) rfl H rfl ?_
      refine tkn (i := 15) rfl (by kernel_rfl) rfl H rfl ?_
      refine tk (i := 16) rfl (by kernel_rfl) rfl H (fun w' H => r_pkT (v := .bool _) rfl rfl) ?_
      refine da (by kernel_rfl) ?_
      refine then_n ?_
      refine cbT rfl rfl ?_
      refine sq ?_
      refine rg ?_
      refine asg (v := .bool _) rfl rfl ?_
      refine nl ?_
      refine then_n ?_
      refine rt ?_
      refine then_r ?_
      refine in_r ?_
      refine in_r ?_
      refine loop_r ?_
      refine in_r ?_
      refine then_r ?_
      refine fin_r ?_
      exact ⟨_, rfl, H.fr⟩
     ·refine tkg (i := 4) rfl (by kernel_rfl) rfl H rfl (fun w' H => r_mv (v := .string _) rfl) ?_
      refine tkg (i := 5) rfl (by kernel_rfl) rfl H rfl (fun w' H => r_ixS rfl rfl Tryz.underlying9 (by first | omega | (constructor <;> simp <;> omega))) ?_
      refine tkg (i := 6) rfl (by kernel_rfl) rfl H rfl (fun w' H => r_fa rfl fo95_0) ?_
      refine tkg (i := 7) rfl (by kernel_rfl) rfl H rfl (fun w' H => r_ld H rfl sc5 rfl) ?_
      refine tkg (i := 8) rfl (by kernel_rfl) rfl H rfl (fun w' H => r_lss rfl rfl) ?_
      refine tk (i := 9) rfl (by kernel_rfl) rfl H (fun w' H => r_pkF (v := .bool _) rfl rfl) ?_
      refine tk (i := 10) rfl (by kernel_rfl) rfl H (fun w' H => r_mv (v := .bool _) rfl) ?_
      refine spad (t := 88) rfl (fun hg5 => ?_) (fun hg5 => ?_)
      ·refine tkn (i := 11) rfl (by kernel_rfl) rfl H rfl ?_
       refine tkn (i := 12) rfl (by kernel_rfl) rfl H rfl ?_
       refine tkn (i := 13) rfl (by kernel_rfl) rfl H rfl ?_
       refine tkn (i := 14) rfl (by kernel_rfl) rfl H rfl ?_
       refine tkn (i := 15) rfl (by kernel_rfl) rfl H rfl ?_
       refine tk (i := 16) rfl (by kernel_rfl) rfl H (fun w' H => r_pkT (v := .bool _) rfl rfl) ?_
       refine da (by kernel_rfl) ?_
       refine then_n ?_
       refine cbT rfl rfl ?_
       refine sq ?_
       refine rg ?_
       refine asg (v := .bool _) rfl rfl ?_
       refine nl ?_
       refine then_n ?_
       refine rt ?_
       refine then_r ?_
       refine in_r ?_
       refine in_r ?_
       refine loop_r ?_
       refine in_r ?_
       refine then_r ?_
       refine fin_r ?_
       exact ⟨_, rfl, H.fr⟩
      ·refine tkg (i := 11) rfl (by kernel_rfl) rfl H rfl (fun w' H => r_fa rfl fo95_1) ?_
       refine tkg (i := 12) rfl (by kernel_rfl) rfl H rfl (fun w' H => r_ld H rfl sc5 rfl) ?_
       refine tkg (i := 13) rfl (by kernel_rfl) rfl H rfl (fun w' H => r_mv (v := .string _) rfl) ?_
       refine tkg (i := 14) rfl (by kernel_rfl) rfl H rfl (fun w' H => r_ixS rfl rfl Tryz.underlying9 (by first | omega | (constructor <;> simp <;> omega))) ?_
       refine tkg (i := 15) rfl (by kernel_rfl) rfl H rfl (fun w' H => r_lss rfl rfl) ?_
       refine tk (i := 16) rfl (by kernel_rfl) rfl H (fun w' H => r_pkF (v := .bool _) rfl rfl) ?_
       refine da (by kernel_rfl) ?_
       refine then_n ?_
       refine cd rfl (fun hc7 => ?_) (fun hc7 => ?_)
       ·refine sq ?_
        refine rg ?_
        refine asg (v := .bool _) rfl rfl ?_
        refine nl ?_
        refine then_n ?_
        refine rt ?_
        refine then_r ?_
        refine in_r ?_
        refine in_r ?_
        refine loop_r ?_
        refine in_r ?_
        refine then_r ?_
        refine fin_r ?_
        exact ⟨_, rfl, H.fr⟩
       ·refine sk ?_
        refine then_n ?_
        refine rg ?_
        refine mv (v := .string _) rfl rfl ?_
        refine slTl rfl rfl Tryz.underlying9 (by first | trivial | omega | (simp; omega)) rfl ?_
        refine asg (v := .string _) rfl rfl ?_
        refine nl ?_
        refine in_n ?_
        refine in_n ?_
        refine loop_n ?_
        exact ⟨List.drop (Int.toNat 2) l, (by (try dsimp only); simp <;> omega), ⟨by simp <;> omega, H.sub (by repeat (first | exact List.Sublist.refl _ | exact List.nil_sublist _ | apply List.Sublist.cons_cons | apply List.Sublist.cons))⟩, (fC (by first | rfl | exact congrArg (Value.int _) (by first | omega | assumption | (symm; assumption) | (simp; done) | (simp; omega)) | exact congrArg (fun n => Value.slice _ n _) (by first | omega | (simp; done) | (simp; omega))) (fN _)), (by repeat (first | exact Agree.setL rfl Agree.mask | exact Agree.self _ _ | refine Agree.upd rfl ?_ | refine Agree.setL rfl ?_ | refine Agree.mask2 rfl ?_))⟩
    ·refine sq ?_
     refine rg ?_
     refine eql rfl rfl rfl ?_
     refine asg (v := .bool _) rfl rfl ?_
     refine nl ?_
     refine then_n ?_
     refine cd rfl (fun hc8 => ?_) (fun hc8 => ?_)
     ·refine sq ?_
      refine sq ?_
      refine dr (by kernel_rfl) ?_
      have H := H.drew
      refine holdH H [] ?_
      refine tk (i := 0) rfl (by kernel_rfl) rfl H (fun w' H => r_mv (v := .string _) rfl) ?_
      refine tk (i := 1) rfl (by kernel_rfl) rfl H (fun w' H => r_lnT rfl Tryz.underlying9) ?_
      refine tk (i := 2) rfl (by kernel_rfl) rfl H (fun w' H => r_lss rfl rfl) ?_
      refine tk (i := 3) rfl (by kernel_rfl) rfl H (fun w' H => r_mv (v := .bool _) rfl) ?_
      refine spad (t := 102) rfl (fun hg6 => ?_) (fun hg6 => ?_)
      ·refine tkn (i := 4) rfl (by kernel_rfl) rfl H rfl ?_
       refine tkn (i := 5) rfl (by kernel_rfl) rfl H rfl ?_
       refine tkn (i := 6) rfl (by kernel_rfl) rfl H rfl ?_
       refine tkn (i := 7) rfl (by kernel_rfl) rfl H rfl ?_
       refine tkn (i := 8) rfl (by kernel_rfl) rfl H rfl ?_
       refine tk (i := 9) rfl (by kernel_rfl) rfl H (fun w' H => r_pkT (v := .bool _) rfl rfl) ?_
       refine tk (i := 10) rfl (by kernel_rfl) rfl H (fun w' H => r_mv (v := .bool _) rfl) ?_
       refine tkn (i := 11) rfl (by kernel_rfl) rfl H rfl ?_
       refine tkn (i := 12) rfl (by kernel_rfl) rfl H rfl ?_
       refine tkn (i := 13) rfl (by kernel_rfl) rfl H rfl ?_
       refine tkn (i := 14) rfl (by kernel_rfl) rfl H rfl ?_
       refine tkn (i := 15) rfl (by kernel_rfl) rfl H rfl ?_
       refine tk (i := 16) rfl (by kernel_rfl) rfl H (fun w' H => r_pkT (v := .bool _) rfl rfl) ?_
       refine tk (i := 17) rfl (by kernel_rfl) rfl H (fun w' H => r_mv (v := .bool _) rfl) ?_
       refine tkn (i := 18) rfl (by kernel_rfl) rfl H rfl ?_
       refine tkn (i := 19) rfl (by kernel_rfl) rfl H rfl ?_
       refine tkn (i := 20) rfl (by kernel_rfl) rfl H rfl ?_
       refine tk (i := 21) rfl (by kernel_rfl) rfl H (fun w' H => r_pkT (v := .bool _) rfl rfl) ?_
       refine tk (i := 22) rfl (by kernel_rfl) rfl H (fun w' H => r_mv (v := .bool _) rfl) ?_
       refine tkn (i := 23) rfl (by kernel_rfl) rfl H rfl ?_
       refine tkn (i := 24) rfl (by kernel_rfl) rfl H rfl ?_
       refine tkn (i := 25) rfl (by kernel_rfl) rfl H rfl ?_
       refine tk (i := 26) rfl (by kernel_rfl) rfl H (fun w' H => r_pkT (v := .bool _) rfl rfl) ?_
       refine da (by kernel_rfl) ?_
       refine then_n ?_
       refine cbT rfl rfl ?_
       refine sq ?_
       refine rg ?_
       refine asg (v := .bool _) rfl rfl ?_
       refine nl ?_
       refine then_n ?_
       refine rt ?_
       refine then_r ?_
       refine in_r ?_
       refine in_r ?_
       refine loop_r ?_
       refine in_r ?_
       refine then_r ?_
       refine fin_r ?_
       exact ⟨_, rfl, H.fr⟩
      ·refine tkg (i := 4) rfl (by kernel_rfl) rfl H rfl (fun w' H => r_mv (v := .string _) rfl) ?_
       refine tkg (i := 5) rfl (by kernel_rfl) rfl H rfl (fun w' H => r_ixS rfl rfl Tryz.underlying9 (by first | omega | (constructor <;> simp <;> omega))) ?_
       refine tkg (i := 6) rfl (by kernel_rfl) rfl H rfl (fun w' H => r_fa rfl fo95_0) ?_
       refine tkg (i := 7) rfl (by kernel_rfl) rfl H rfl (fun w' H => r_ld H rfl sc5 rfl) ?_
       refine tkg (i := 8) rfl (by kernel_rfl) rfl H rfl (fun w' H => r_lss rfl rfl) ?_
       refine tk (i := 9) rfl (by kernel_rfl) rfl H (fun w' H => r_pkF (v := .bool _) rfl rfl) ?_
       refine tk (i := 10) rfl (by kernel_rfl) rfl H (fun w' H => r_mv (v := .bool _) rfl) ?_
       refine spad (t := 109) rfl (fun hg7 => ?_) (fun hg7 => ?_)
       ·refine tkn (i := 11) rfl (by kernel_rfl) rfl H rfl ?_
        refine tkn (i := 12) rfl (by kernel_rfl) rfl H rfl ?_
        refine tkn (i := 13) rfl (by kernel_rfl) rfl H rfl ?_
        refine tkn (i := 14) rfl (by kernel_rfl) rfl H rfl ?_
        refine tkn (i := 15) rfl (by kernel_rfl) rfl H rfl ?_
        refine tk (i := 16) rfl (by kernel_rfl) rfl H (fun w' H => r_pkT (v := .bool _) rfl rfl) ?_
        refine tk (i := 17) rfl (by kernel_rfl) rfl H (fun w' H => r_mv (v := .bool _) rfl) ?_
        refine tkn (i := 18) rfl (by kernel_rfl) rfl H rfl ?_
        refine tkn (i := 19) rfl (by kernel_rfl) rfl H rfl ?_
        refine tkn (i := 20) rfl (by kernel_rfl) rfl H rfl ?_
        refine tk (i := 21) rfl (by kernel_rfl) rfl H (fun w' H => r_pkT (v := .bool _) rfl rfl) ?_
        refine tk (i := 22) rfl (by kernel_rfl) rfl H (fun w' H => r_mv (v := .bool _) rfl) ?_
        refine tkn (i := 23) rfl (by kernel_rfl) rfl H rfl ?_
        refine tkn (i := 24) rfl (by kernel_rfl) rfl H rfl ?_
        refine tkn (i := 25) rfl (by kernel_rfl) rfl H rfl ?_
        refine tk (i := 26) rfl (by kernel_rfl) rfl H (fun w' H => r_pkT (v := .bool _) rfl rfl) ?_
        refine da (by kernel_rfl) ?_
        refine then_n ?_
        refine cbT rfl rfl ?_
        refine sq ?_
        refine rg ?_
        refine asg (v := .bool _) rfl rfl ?_
        refine nl ?_
        refine then_n ?_
        refine rt ?_
        refine then_r ?_
        refine in_r ?_
        refine in_r ?_
        refine loop_r ?_
        refine in_r ?_
        refine then_r ?_
        refine fin_r ?_
        exact ⟨_, rfl, H.fr⟩
       ·refine tkg (i := 11) rfl (by kernel_rfl) rfl H rfl (fun w' H => r_fa rfl fo95_1) ?_
        refine tkg (i := 12) rfl (by kernel_rfl) rfl H rfl (fun w' H => r_ld H rfl sc5 rfl) ?_
        refine tkg (i := 13) rfl (by kernel_rfl) rfl H rfl (fun w' H => r_mv (v := .string _) rfl) ?_
        refine tkg (i := 14) rfl (by kernel_rfl) rfl H rfl (fun w' H => r_ixS rfl rfl Tryz.underlying9 (by first | omega | (constructor <;> simp <;> omega))) ?_
        refine tkg (i := 15) rfl (by kernel_rfl) rfl H rfl (fun w' H => r_lss rfl rfl) ?_
        refine tk (i := 16) rfl (by kernel_rfl) rfl H (fun w' H => r_pkF (v := .bool _) rfl rfl) ?_
        refine tk (i := 17) rfl (by kernel_rfl) rfl H (fun w' H => r_mv (v := .bool _) rfl) ?_
        refine spad (t := 116) rfl (fun hg8 => ?_) (fun hg8 => ?_)
        ·refine tkn (i := 18) rfl (by kernel_rfl) rfl H rfl ?_
         refine tkn (i := 19) rfl (by kernel_rfl) rfl H rfl ?_
         refine tkn (i := 20) rfl (by kernel_rfl) rfl H rfl ?_
         refine tk (i := 21) rfl (by kernel_rfl) rfl H (fun w' H => r_pkT (v := .bool _) rfl rfl) ?_
         refine tk (i := 22) rfl (by kernel_rfl) rfl H (fun w' H => r_mv (v := .bool _) rfl) ?_
         refine tkn (i := 23) rfl (by kernel_rfl) rfl H rfl ?_
         refine tkn (i := 24) rfl (by kernel_rfl) rfl H rfl ?_
         refine tkn (i := 25) rfl (by kernel_rfl) rfl H rfl ?_
         refine tk (i := 26) rfl (by kernel_rfl) rfl H (fun w' H => r_pkT (v := .bool _) rfl rfl) ?_
         refine da (by kernel_rfl) ?_
         refine then_n ?_
         refine cbT rfl rfl ?_
         refine sq ?_
         refine rg ?_
         refine asg (v := .bool _) rfl rfl ?_
         refine nl ?_
         refine then_n ?_
         refine rt ?_
         refine then_r ?_
         refine in_r ?_
         refine in_r ?_
         refine loop_r ?_
         refine in_r ?_
         refine then_r ?_
         refine fin_r ?_
         exact ⟨_, rfl, H.fr⟩
        ·refine tkg (i := 18) rfl (by kernel_rfl) rfl H rfl (fun w' H => r_mv (v := .string _) rfl) ?_
         refine tkg (i := 19) rfl (by kernel_rfl) rfl H rfl (fun w' H => r_ixS rfl rfl Tryz.underlying9 (by first | omega | (constructor <;> simp <;> omega))) ?_
         refine tkg (i := 20) rfl (by kernel_rfl) rfl H rfl (fun w' H => r_lss rfl rfl) ?_
         refine tk (i := 21) rfl (by kernel_rfl) rfl H (fun w' H => r_pkF (v := .bool _) rfl rfl) ?_
         refine tk (i := 22) rfl (by kernel_rfl) rfl H (fun w' H => r_mv (v := .bool _) rfl) ?_
         refine spad (t := 121) rfl (fun hg9 => ?_) (fun hg9 => ?_)
         ·refine tkn (i := 23) rfl (by kernel_rfl) rfl H rfl ?_
          refine tkn (i := 24) rfl (by kernel_rfl) rfl H rfl ?_
          refine tkn (i := 25) rfl (by kernel_rfl) rfl H rfl ?_
          refine tk (i := 26) rfl (by kernel_rfl) rfl H (fun w' H => r_pkT (v := .bool _) rfl rfl) ?_
          refine da (by kernel_rfl) ?_
          refine then_n ?_
          refine cbT rfl rfl ?_
          refine sq ?_
          refine rg ?_
          refine asg (v := .bool _) rfl rfl ?_
          refine nl ?_
          refine then_n ?_
          refine rt ?_
          refine then_r ?_
          refine in_r ?_
          refine in_r ?_
          refine loop_r ?_
          refine in_r ?_
          refine then_r ?_
          refine fin_r ?_
          exact ⟨_, rfl, H.fr⟩
         ·refine tkg (i := 23) rfl (by kernel_rfl) rfl H rfl (fun w' H => r_mv (v := .string _) rfl) ?_
          refine tkg (i := 24) rfl (by kernel_rfl) rfl H rfl (fun w' H => r_ixS rfl rfl Tryz.underlying9 (by first | omega | (constructor <;> simp <;> omega))) ?_
          refine tkg (i := 25) rfl (by kernel_rfl) rfl H rfl (fun w' H => r_lss rfl rfl) ?_
          refine tk (i := 26) rfl (by kernel_rfl) rfl H (fun w' H => r_pkF (v := .bool _) rfl rfl) ?_
          refine da (by kernel_rfl) ?_
          refine then_n ?_
          refine cd rfl (fun hc9 => ?_) (fun hc9 => ?_)
          ·refine sq ?_
           refine rg ?_
           refine asg (v := .bool _) rfl rfl ?_
           refine nl ?_
           refine then_n ?_
           refine rt ?_
           refine then_r ?_
           refine in_r ?_
           refine in_r ?_
           refine loop_r ?_
           refine in_r ?_
           refine then_r ?_
           refine fin_r ?_
           exact ⟨_, rfl, H.fr⟩
          ·refine sk ?_
           refine then_n ?_
           refine rg ?_
           refine mv (v := .string _) rfl rfl ?_
           refine slTl rfl rfl Tryz.underlying9 (by first | trivial | omega | (simp; omega)) rfl ?_
           refine asg (v := .string _) rfl rfl ?_
           refine nl ?_
           refine in_n ?_
           refine in_n ?_
           refine loop_n ?_
           exact ⟨List.drop (Int.toNat 3) l, (by (try dsimp only); simp <;> omega), ⟨by simp <;> omega, H.sub (by repeat (first | exact List.Sublist.refl _ | exact List.nil_sublist _ | apply List.Sublist.cons_cons | apply List.Sublist.cons))⟩, (fC (by first | rfl | exact congrArg (Value.int _) (by first | omega | assumption | (symm; assumption) | (simp; done) | (simp; omega)) | exact congrArg (fun n => Value.slice _ n _) (by first | omega | (simp; done) | (simp; omega))) (fN _)), (by repeat (first | exact Agree.setL rfl Agree.mask | exact Agree.self _ _ | refine Agree.upd rfl ?_ | refine Agree.setL rfl ?_ | refine Agree.mask2 rfl ?_))⟩
     ·refine sq ?_
      refine rg ?_
      refine eql rfl rfl rfl ?_
      refine asg (v := .bool _) rfl rfl ?_
      refine nl ?_
      refine then_n ?_
      refine cd rfl (fun hc10 => ?_) (fun hc10 => ?_)
      ·refine sq ?_
       refine sq ?_
       refine dr (by kernel_rfl) ?_
       have H := H.drew
       refine holdH H [] ?_
       refine tk (i := 0) rfl (by kernel_rfl) rfl H (fun w' H => r_mv (v := .string _) rfl) ?_
       refine tk (i := 1) rfl (by kernel_rfl) rfl H (fun w' H => r_lnT rfl Tryz.underlying9) ?_
       refine tk (i := 2) rfl (by kernel_rfl) rfl H (fun w' H => r_lss rfl rfl) ?_
       refine tk (i := 3) rfl (by kernel_rfl) rfl H (fun w' H => r_mv (v := .bool _) rfl) ?_
       refine spad (t := 133) rfl (fun hg10 => ?_) (fun hg10 => ?_)
       ·refine tkn (i := 4) rfl (by kernel_rfl) rfl H rfl ?_
        refine tkn (i := 5) rfl (by kernel_rfl) rfl H rfl ?_
        refine tkn (i := 6) rfl (by kernel_rfl) rfl H rfl ?_
        refine tkn (i := 7) rfl (by kernel_rfl) rfl H rfl ?_
        refine tkn (i := 8) rfl (by kernel_rfl) rfl H rfl ?_
        refine tk (i := 9) rfl (by kernel_rfl) rfl H (fun w' H => r_pkT (v := .bool _) rfl rfl) ?_
        refine tk (i := 10) rfl (by kernel_rfl) rfl H (fun w' H => r_mv (v := .bool _) rfl) ?_
        refine tkn (i := 11) rfl (by kernel_rfl) rfl H rfl ?_
        refine tkn (i := 12) rfl (by kernel_rfl) rfl H rfl ?_
        refine tkn (i := 13) rfl (by kernel_rfl) rfl H rfl ?_
        refine tkn (i := 14) rfl (by kernel_rfl) rfl H rfl ?_
        refine tkn (i := 15) rfl (by kernel_rfl) rfl H rfl ?_
        refine tk (i := 16) rfl (by kernel_rfl) rfl H (fun w' H => r_pkT (v := .bool _) rfl rfl) ?_
        refine tk (i := 17) rfl (by kernel_rfl) rfl H (fun w' H => r_mv (v := .bool _) rfl) ?_
        refine tkn (i := 18) rfl (by kernel_rfl) rfl H rfl ?_
        refine tkn (i := 19) rfl (by kernel_rfl) rfl H rfl ?_
        refine tkn (i := 20) rfl (by kernel_rfl) rfl H rfl ?_
        refine tk (i := 21) rfl (by kernel_rfl) rfl H (fun w' H => r_pkT (v := .bool _) rfl rfl) ?_
        refine tk (i := 22) rfl (by kernel_rfl) rfl H (fun w' H => r_mv (v := .bool _) rfl) ?_
        refine tkn (i := 23) rfl (by kernel_rfl) rfl H rfl ?_
        refine tkn (i := 24) rfl (by kernel_rfl) rfl H rfl ?_
        refine tkn (i := 25) rfl (by kernel_rfl) rfl H rfl ?_
        refine tk (i := 26) rfl (by kernel_rfl) rfl H (fun w' H => r_pkT (v := .bool _) rfl rfl) ?_
        refine tk (i := 27) rfl (by kernel_rfl) rfl H (fun w' H => r_mv (v := .bool _) rfl) ?_
        refine tkn (i := 28) rfl (by kernel_rfl) rfl H rfl ?_
        refine tkn (i := 29) rfl (by kernel_rfl) rfl H rfl ?_
        refine tkn (i := 30) rfl (by kernel_rfl) rfl H rfl ?_
        refine tk (i := 31) rfl (by kernel_rfl) rfl H (fun w' H => r_pkT (v := .bool _) rfl rfl) ?_
        refine tk (i := 32) rfl (by kernel_rfl) rfl H (fun w' H => r_mv (v := .bool _) rfl) ?_
        refine tkn (i := 33) rfl (by kernel_rfl) rfl H rfl ?_
        refine tkn (i := 34) rfl (by kernel_rfl) rfl H rfl ?_
        refine tkn (i := 35) rfl (by kernel_rfl) rfl H rfl ?_
        refine tk (i := 36) rfl (by kernel_rfl) rfl H (fun w' H => r_pkT (v := .bool _) rfl rfl) ?_
        refine da (by kernel_rfl) ?_
        refine then_n ?_
        refine cbT rfl rfl ?_
        refine sq ?_
        refine rg ?_
        refine asg (v := .bool _) rfl rfl ?_
        refine nl ?_
        refine then_n ?_
        refine rt ?_
        refine then_r ?_
        refine in_r ?_
        refine in_r ?_
        refine loop_r ?_
        refine in_r ?_
        refine then_r ?_
        refine fin_r ?_
        exact ⟨_, rfl, H.fr⟩
       ·refine tkg (i := 4) rfl (by kernel_rfl) rfl H rfl (fun w' H => r_mv (v := .string _) rfl) ?_
        refine tkg (i := 5) rfl (by kernel_rfl) rfl H rfl (fun w' H => r_ixS rfl rfl Tryz.underlying9 (by first | omega | (constructor <;> simp <;> omega))) ?_
        refine tkg (i := 6) rfl (by kernel_rfl) rfl H rfl (fun w' H => r_fa rfl fo95_0) ?_
        refine tkg (i := 7) rfl (by kernel_rfl) rfl H rfl (fun w' H => r_ld H rfl sc5 rfl) ?_
        refine tkg (i := 8) rfl (by kernel_rfl) rfl H rfl (fun w' H => r_lss rfl rfl) ?_
        refine tk (i := 9) rfl (by kernel_rfl) rfl H (fun w' H => r_pkF (v := .bool _) rfl rfl) ?_
        refine tk (i := 10) rfl (by kernel_rfl) rfl H (fun w' H => r_mv (v := .bool _) rfl) ?_
        refine spad (t := 140) rfl (fun hg11 => ?_) (fun hg11 => ?_)
        ·refine tkn (i := 11) rfl (by kernel_rfl) rfl H rfl ?_
         refine tkn (i := 12) rfl (by kernel_rfl) rfl H rfl ?_
         refine tkn (i := 13) rfl (by kernel_rfl) rfl H rfl ?_
         refine tkn (i := 14) rfl (by kernel_rfl) rfl H rfl ?_
         refine tkn (i := 15) rfl (by kernel_rfl) rfl H rfl ?_
         refine tk (i := 16) rfl (by kernel_rfl) rfl H (fun w' H => r_pkT (v := .bool _) rfl rfl) ?_
         refine tk (i := 17) rfl (by kernel_rfl) rfl H (fun w' H => r_mv (v := .bool _) rfl) ?_
         refine tkn (i := 18) rfl (by kernel_rfl) rfl H rfl ?_
         refine tkn (i := 19) rfl (by kernel_rfl) rfl H rfl ?_
         refine tkn (i := 20) rfl (by kernel_rfl) rfl H rfl ?_
         refine tk (i := 21) rfl (by kernel_rfl) rfl H (fun w' H => r_pkT (v := .bool _) rfl rfl) ?_
         refine tk (i := 22) rfl (by kernel_rfl) rfl H (fun w' H => r_mv (v := .bool _) rfl) ?_
         refine tkn (i := 23) rfl (by kernel_rfl) rfl H rfl ?_
         refine tkn (i := 24) rfl (by kernel_rfl) rfl H rfl ?_
         refine tkn (i := 25) rfl (by kernel_rfl) rfl H rfl ?_
         refine tk (i := 26) rfl (by kernel_rfl) rfl H (fun w' H => r_pkT (v := .bool _) rfl rfl) ?_
         refine tk (i := 27) rfl (by kernel_rfl) rfl H (fun w' H => r_mv (v := .bool _) rfl) ?_
         refine tkn (i := 28) rfl (by kernel_rfl) rfl H rfl ?_
         refine tkn (i := 29) rfl (by kernel_rfl) rfl H rfl ?_
         refine tkn (i := 30) rfl (by kernel_rfl) rfl H rfl ?_
         refine tk (i := 31) rfl (by kernel_rfl) rfl H (fun w' H => r_pkT (v := .bool _) rfl rfl) ?_
         refine tk (i := 32) rfl (by kernel_rfl) rfl H (fun w' H => r_mv (v := .bool _) rfl) ?_
         refine tkn (i := 33) rfl (by kernel_rfl) rfl H rfl ?_
         refine tkn (i := 34) rfl (by kernel_rfl) rfl H rfl ?_
         refine tkn (i := 35) rfl (by kernel_rfl) rfl H rfl ?_
         refine tk (i := 36) rfl (by kernel_rfl) rfl H (fun w' H => r_pkT (v := .bool _) rfl rfl) ?_
         refine da (by kernel_rfl) ?_
         refine then_n ?_
         refine cbT rfl rfl ?_
         refine sq ?_
         refine rg ?_
         refine asg (v := .bool _) rfl rfl ?_
         refine nl ?_
         refine then_n ?_
         refine rt ?_
         refine then_r ?_
         refine in_r ?_
         refine in_r ?_
         refine loop_r ?_
         refine in_r ?_
         refine then_r ?_
         refine fin_r ?_
         exact ⟨_, rfl, H.fr⟩
        ·refine tkg (i := 11) rfl (by kernel_rfl) rfl H rfl (fun w' H => r_fa rfl fo95_1) ?_
         refine tkg (i := 12) rfl (by kernel_rfl) rfl H rfl (fun w' H => r_ld H rfl sc5 rfl) ?_
         refine tkg (i := 13) rfl (by kernel_rfl) rfl H rfl (fun w' H => r_mv (v := .string _) rfl) ?_
         refine tkg (i := 14) rfl (by kernel_rfl) rfl H rfl (fun w' H => r_ixS rfl rfl Tryz.underlying9 (by first | omega | (constructor <;> simp <;> omega))) ?_
         refine tkg (i := 15) rfl (by kernel_rfl) rfl H rfl (fun w' H => r_lss rfl rfl) ?_
         refine tk (i := 16) rfl (by kernel_rfl) rfl H (fun w' H => r_pkF (v := .bool _) rfl rfl) ?_
         refine tk (i := 17) rfl (by kernel_rfl) rfl H (fun w' H => r_mv (v := .bool _) rfl) ?_
         refine spad (t := 147) rfl (fun hg12 => ?_) (fun hg12 => ?_)
         ·refine tkn (i := 18) rfl (by kernel_rfl) rfl H rfl ?_
          refine tkn (i := 19) rfl (by kernel_rfl) rfl H rfl ?_
          refine tkn (i := 20) rfl (by kernel_rfl) rfl H rfl ?_
          refine tk (i := 21) rfl (by kernel_rfl) rfl H (fun w' H => r_pkT (v := .bool _) rfl rfl) ?_
          refine tk (i := 22) rfl (by kernel_rfl) rfl H (fun w' H => r_mv (v := .bool _) rfl) ?_
          refine tkn (i := 23) rfl (by kernel_rfl) rfl H rfl ?_
          refine tkn (i := 24) rfl (by kernel_rfl) rfl H rfl ?_
          refine tkn (i := 25) rfl (by kernel_rfl) rfl H rfl ?_
          refine tk (i := 26) rfl (by kernel_rfl) rfl H (fun w' H => r_pkT (v := .bool _) rfl rfl) ?_
          refine tk (i := 27) rfl (by kernel_rfl) rfl H (fun w' H => r_mv (v := .bool _) rfl) ?_
          refine tkn (i := 28) rfl (by kernel_rfl) rfl H rfl ?_
          refine tkn (i := 29) rfl (by kernel_rfl) rfl H rfl ?_
          refine tkn (i := 30) rfl (by kernel_rfl) rfl H rfl ?_
          refine tk (i := 31) rfl (by kernel_rfl) rfl H (fun w' H => r_pkT (v := .bool _) rfl rfl) ?_
          refine tk (i := 32) rfl (by kernel_rfl) rfl H (fun w' H => r_mv (v := .bool _) rfl) ?_
          refine tkn (i := 33) rfl (by kernel_rfl) rfl H rfl ?_
          refine tkn (i := 34) rfl (by kernel_rfl) rfl H rfl ?_
          refine tkn (i := 35) rfl (by kernel_rfl) rfl H rfl ?_
          refine tk (i := 36) rfl (by kernel_rfl) rfl H (fun w' H => r_pkT (v := .bool _) rfl rfl) ?_
          refine da (by kernel_rfl) ?_
          refine then_n ?_
          refine cbT rfl rfl ?_
          refine sq ?_
          refine rg ?_
          refine asg (v := .bool _) rfl rfl ?_
          refine nl ?_
          refine then_n ?_
          refine rt ?_
          refine then_r ?_
          refine in_r ?_
          refine in_r ?_
          refine loop_r ?_
          refine in_r ?_
          refine then_r ?_
          refine fin_r ?_
          exact ⟨_, rfl, H.fr⟩
         ·refine tkg (i := 18) rfl (by kernel_rfl) rfl H rfl (fun w' H => r_mv (v := .string _) rfl) ?_
          refine tkg (i := 19) rfl (by kernel_rfl) rfl H rfl (fun w' H => r_ixS rfl rfl Tryz.underlying9 (by first | omega | (constructor <;> simp <;> omega))) ?_
          refine tkg (i := 20) rfl (by kernel_rfl) rfl H rfl (fun w' H => r_lss rfl rfl) ?_
          refine tk (i := 21) rfl (by kernel_rfl) rfl H (fun w' H => r_pkF (v := .bool _) rfl rfl) ?_
          refine tk (i := 22) rfl (by kernel_rfl) rfl H (fun w' H => r_mv (v := .bool _) rfl) ?_
          refine spad (t := 152) rfl (fun hg13 => ?_) (fun hg13 => ?_)
          ·refine tkn (i := 23) rfl (by kernel_rfl) rfl H rfl ?_
           refine tkn (i := 24) rfl (by kernel_rfl) rfl H rfl ?_
           refine tkn (i := 25) rfl (by kernel_rfl) rfl H rfl ?_
           refine tk (i := 26) rfl (by kernel_rfl) rfl H (fun w' H => r_pkT (v := .bool _) rfl rfl) ?_
           refine tk (i := 27) rfl (by kernel_rfl) rfl H (fun w' H => r_mv (v := .bool _) rfl) ?_
           refine tkn (i := 28) rfl (by kernel_rfl) rfl H rfl ?_
           refine tkn (i := 29) rfl (by kernel_rfl) rfl H rfl ?_
           refine tkn (i := 30) rfl (by kernel_rfl) rfl H rfl ?_
           refine tk (i := 31) rfl (by kernel_rfl) rfl H (fun w' H => r_pkT (v := .bool _) rfl rfl) ?_
           refine tk (i := 32) rfl (by kernel_rfl) rfl H (fun w' H => r_mv (v := .bool _) rfl) ?_
           refine tkn (i := 33) rfl (by kernel_rfl) rfl H rfl ?_
           refine tkn (i := 34) rfl (by kernel_rfl) rfl H rfl ?_
           refine tkn (i := 35) rfl (by kernel_rfl) rfl H rfl ?_
           refine tk (i := 36) rfl (by kernel_rfl) rfl H (fun w' H => r_pkT (v := .bool _) rfl rfl) ?_
           refine da (by kernel_rfl) ?_
           refine then_n ?_
           refine cbT rfl rfl ?_
           refine sq ?_
           refine rg ?_
           refine asg (v := .bool _) rfl rfl ?_
           refine nl ?_
           refine then_n ?_
           refine rt ?_
           refine then_r ?_
           refine in_r ?_
           refine in_r ?_
           refine loop_r ?_
           refine in_r ?_
           refine then_r ?_
           refine fin_r ?_
           exact ⟨_, rfl, H.fr⟩
          ·refine tkg (i := 23) rfl (by kernel_rfl) rfl H rfl (fun w' H => r_mv (v := .string _) rfl) ?_
           refine tkg (i := 24) rfl (by kernel_rfl) rfl H rfl (fun w' H => r_ixS rfl rfl Tryz.underlying9 (by first | omega | (constructor <;> simp <;> omega))) ?_
           refine tkg (i := 25) rfl (by kernel_rfl) rfl H rfl (fun w' H => r_lss rfl rfl) ?_
           refine tk (i := 26) rfl (by kernel_rfl) rfl H (fun w' H => r_pkF (v := .bool _) rfl rfl) ?_
           refine tk (i := 27) rfl (by kernel_rfl) rfl H (fun w' H => r_mv (v := .bool _) rfl) ?_
           refine spad (t := 157) rfl (fun hg14 => ?_) (fun hg14 => ?_)
           ·refine tkn (i := 28) rfl (by kernel_rfl) rfl H rfl ?_
            refine tkn (i := 29) rfl (by kernel_rfl) rfl H rfl ?_
            refine tkn (i := 30) rfl (by kernel_rfl) rfl H rfl ?_
            refine tk (i := 31) rfl (by kernel_rfl) rfl H (fun w' H => r_pkT (v := .bool _) rfl rfl) ?_
            refine tk (i := 32) rfl (by kernel_rfl) rfl H (fun w' H => r_mv (v := .bool _) rfl) ?_
            refine tkn (i := 33) rfl (by kernel_rfl) rfl H rfl ?_
            refine tkn (i := 34) rfl (by kernel_rfl) rfl H rfl ?_
            refine tkn (i := 35) rfl (by kernel_rfl) rfl H rfl ?_
            refine tk (i := 36) rfl (by kernel_rfl) rfl H (fun w' H => r_pkT (v := .bool _) rfl rfl) ?_
            refine da (by kernel_rfl) ?_
            refine then_n ?_
            refine cbT rfl rfl ?_
            refine sq ?_
            refine rg ?_
            refine asg (v := .bool _) rfl rfl ?_
            refine nl ?_
            refine then_n ?_
            refine rt ?_
            refine then_r ?_
            refine in_r ?_
            refine in_r ?_
            refine loop_r ?_
            refine in_r ?_
            refine then_r ?_
            refine fin_r ?_
            exact ⟨_, rfl, H.fr⟩
           ·refine tkg (i := 28) rfl (by kernel_rfl) rfl H rfl (fun w' H => r_mv (v := .string _) rfl) ?_
            refine tkg (i := 29) rfl (by kernel_rfl) rfl H rfl (fun w' H => r_ixS rfl rfl Tryz.underlying9 (by first | omega | (constructor <;> simp <;> omega))) ?_
            refine tkg (i := 30) rfl (by kernel_rfl) rfl H rfl (fun w' H => r_lss rfl rfl) ?_
            refine tk (i := 31) rfl (by kernel_rfl) rfl H (fun w' H => r_pkF (v := .bool _) rfl rfl) ?_
            refine tk (i := 32) rfl (by kernel_rfl) rfl H (fun w' H => r_mv (v := .bool _) rfl) ?_
            refine spad (t := 162) rfl (fun hg15 => ?_) (fun hg15 => ?_)
            ·refine tkn (i := 33) rfl (by kernel_rfl) rfl H rfl ?_
             refine tkn (i := 34) rfl (by kernel_rfl) rfl H rfl ?_
             refine tkn (i := 35) rfl (by kernel_rfl) rfl H rfl ?_
             refine tk (i := 36) rfl (by kernel_rfl) rfl H (fun w' H => r_pkT (v := .bool _) rfl rfl) ?_
             refine da (by kernel_rfl) ?_
             refine then_n ?_
             refine cbT rfl rfl ?_
             refine sq ?_
             refine rg ?_
             refine asg (v := .bool _) rfl rfl ?_
             refine nl ?_
             refine then_n ?_
             refine rt ?_
             refine then_r ?_
             refine in_r ?_
             refine in_r ?_
             refine loop_r ?_
             refine in_r ?_
             refine then_r ?_
             refine fin_r ?_
             exact ⟨_, rfl, H.fr⟩
            ·refine tkg (i := 33) rfl (by kernel_rfl) rfl H rfl (fun w' H => r_mv (v := .string _) rfl) ?_
             refine tkg (i := 34) rfl (by kernel_rfl) rfl H rfl (fun w' H => r_ixS rfl rfl Tryz.underlying9 (by first | omega | (constructor <;> simp <;> omega))) ?_
             refine tkg (i := 35) rfl (by kernel_rfl) rfl H rfl (fun w' H => r_lss rfl rfl) ?_
             refine tk (i := 36) rfl (by kernel_rfl) rfl H (fun w' H => r_pkF (v := .bool _) rfl rfl) ?_
             refine da (by kernel_rfl) ?_
             refine then_n ?_
             refine cd rfl (fun hc11 => ?_) (fun hc11 => ?_)
             ·refine sq ?_
              refine rg ?_
              refine asg (v := .bool _) rfl rfl ?_
              refine nl ?_
              refine then_n ?_
              refine rt ?_
              refine then_r ?_
              refine in_r ?_
              refine in_r ?_
              refine loop_r ?_
              refine in_r ?_
              refine then_r ?_
              refine fin_r ?_
              exact ⟨_, rfl, H.fr⟩
             ·refine sk ?_
              refine then_n ?_
              refine rg ?_
              refine mv (v := .string _) rfl rfl ?_
              refine slTl rfl rfl Tryz.underlying9 (by first | trivial | omega | (simp; omega)) rfl ?_
              refine asg (v := .string _) rfl rfl ?_
              refine nl ?_
              refine in_n ?_
              refine in_n ?_
              refine loop_n ?_
              exact ⟨List.drop (Int.toNat 4) l, (by (try dsimp only); simp <;> omega), ⟨by simp <;> omega, H.sub (by repeat (first | exact List.Sublist.refl _ | exact List.nil_sublist _ | apply List.Sublist.cons_cons | apply List.Sublist.cons))⟩, (fC (by first | rfl | exact congrArg (Value.int _) (by first | omega | assumption | (symm; assumption) | (simp; done) | (simp; omega)) | exact congrArg (fun n => Value.slice _ n _) (by first | omega | (simp; done) | (simp; omega))) (fN _)), (by repeat (first | exact Agree.setL rfl Agree.mask | exact Agree.self _ _ | refine Agree.upd rfl ?_ | refine Agree.setL rfl ?_ | refine Agree.mask2 rfl ?_))⟩
      ·refine sq ?_
       refine rg ?_
       refine asg (v := .bool _) rfl rfl ?_
       refine nl ?_
       refine then_n ?_
       refine rt ?_
       refine in_r ?_
       refine in_r ?_
       refine loop_r ?_
       refine in_r ?_
       refine then_r ?_
       refine fin_r ?_
       exact ⟨_, rfl, H.fr⟩
  ·refine ex ?_
   refine then_e ?_
   refine loop_e ?_
   refine in_hit rfl ?_
   refine then_n ?_
   refine sq ?_
   refine rg ?_
   refine asg (v := .bool _) rfl rfl ?_
   refine nl ?_
   refine then_n ?_
   refine rt ?_
   refine fin_r ?_
   exact ⟨_, rfl, H.fr⟩

end Go.Proofs.YthcaejaaalkglaaGreatDoor.X

/- A byte of a table that stands on a disk is spoilt. -/
namespace Go.Proofs.YthcaejaaalkglaaGreatDoor.X
set_option linter.unusedVariables false
set_option linter.unusedSimpArgs false
open Go
theorem pcs_set_out {ds : List UInt8} {q p k : Nat} {c : UInt8} (h : q < p ∨ p + k ≤ q) : pcs (ds.set q c) p k = pcs ds p k := by
  refine List.ext_getElem? fun i => ?_
  simp only [pcs, List.getElem?_take, List.getElem?_drop]
  split
  · rw [List.getElem?_set_ne (by omega)]
  · rfl
theorem pcs_set_in {ds : List UInt8} {q p k : Nat} {c : UInt8} (h : p ≤ q) : pcs (ds.set q c) p k = (pcs ds p k).set (q - p) c := by
  unfold pcs
  rw [List.drop_set, if_neg (by omega), List.take_set]
theorem fld_set_out {ds : List UInt8} {q p k : Nat} {c : UInt8} (h : q < p ∨ p + k ≤ q) : fld (ds.set q c) p k = fld ds p k := by
  unfold fld; rw [pcs_set_out h]
theorem leV_inj : ∀ {a b : List UInt8}, a.length = b.length → leV a = leV b → a = b
  | [], [], _, _ => rfl
  | [], y :: s, h, _ => by simp at h
  | x :: r, [], h, _ => by simp at h
  | x :: r, y :: s, h, e => by
    have h1 : leV (x :: r) = (x.toNat : Int) + 256 * leV r := rfl
    have h2 : leV (y :: s) = (y.toNat : Int) + 256 * leV s := rfl
    have hx := x.toNat_lt
    have hy := y.toNat_lt
    rw [h1, h2] at e
    have e1 : x.toNat = y.toNat := by omega
    have e2 : leV r = leV s := by omega
    rw [UInt8.toNat_inj.1 e1, leV_inj (by simpa using h) e2]
theorem set_ne {l : List UInt8} {i : Nat} {c : UInt8} (hi : i < l.length) (hc : l[i]? ≠ some c) : l.set i c ≠ l := by
  intro e
  have := congrArg (fun m => m[i]?) e
  simp only [List.getElem?_set_self hi] at this
  exact hc this.symm
theorem pcs_at {ds : List UInt8} {p k i : Nat} (h : i < k) : (pcs ds p k)[i]? = ds[p + i]? := by
  simp [pcs, List.getElem?_take, List.getElem?_drop, h]
theorem zHdr_set_in {l : List UInt8} {i : Nat} {c : UInt8} (hl : l.length = 92) (h : 16 ≤ i ∧ i < 20) : zHdr (l.set i c) = zHdr l := by
  unfold zHdr pAt
  rw [List.take_set_of_le (by omega), List.drop_set, if_pos (by simp; omega)]
theorem zHdr_set_out {l : List UInt8} {i : Nat} {c : UInt8} (hl : l.length = 92) (hi : i < 92) (h : i < 16 ∨ 20 ≤ i) : zHdr (l.set i c) = (zHdr l).set i c ∧ (zHdr l)[i]? = l[i]? := by
  have e : zHdr l = l.take 16 ++ ([0, 0, 0, 0] ++ l.drop 20) := by unfold zHdr pAt; simp only [List.append_assoc, List.length_cons, List.length_nil]
  have e2 : zHdr (l.set i c) = (l.set i c).take 16 ++ ([0, 0, 0, 0] ++ (l.set i c).drop 20) := by unfold zHdr pAt; simp only [List.append_assoc, List.length_cons, List.length_nil]
  rw [e, e2]
  rcases h with h | h
  · refine ⟨?_, ?_⟩
    · rw [List.take_set, List.drop_set, if_pos (by omega), List.set_append_left _ _ (by simp; omega)]
    · rw [List.getElem?_append_left (by simp; omega), List.getElem?_take, if_pos h]
  · refine ⟨?_, ?_⟩
    · rw [List.take_set_of_le (by omega), List.drop_set, if_neg (by omega), List.set_append_right _ _ (by simp; omega), List.set_append_right _ _ (by simp; omega)]
      congr 3
      simp only [List.length_take, List.length_cons, List.length_nil]; omega
    · rw [List.getElem?_append_right (by simp; omega), List.getElem?_append_right (by simp; omega), List.getElem?_drop]
      congr 1
      simp only [List.length_take, List.length_cons, List.length_nil]; omega
/-- A header's byte. -/
theorem hdr_spoil {ds : List UInt8} {A q : Nat} {c : UInt8} (hA : A + 92 ≤ ds.length) (hq : A ≤ q ∧ q < A + 92) (hc : ds[q]? ≠ some c) (hk : crcOk ds A = true) : crcOk (ds.set q c) A = false := by
  have hl : (pcs ds A 92).length = 92 := pcs_len hA
  have hk' : crc32 (zHdr (pcs ds A 92)) = fld ds (A + 16) 4 := of_decide_eq_true hk
  have hat : (pcs ds A 92)[q - A]? ≠ some c := by rw [pcs_at (by omega), show A + (q - A) = q by omega]; exact hc
  unfold crcOk
  rw [pcs_set_in hq.1]
  refine decide_eq_false fun e => ?_
  by_cases h : 16 ≤ q - A ∧ q - A < 20
  · rw [zHdr_set_in hl h, hk'] at e
    unfold fld at e
    have h4 : (pcs ds (A + 16) 4).length = 4 := pcs_len (by omega)
    have e2 := leV_inj (by rw [h4, pcs_set_in (by omega), List.length_set, h4]) e
    rw [pcs_set_in (by omega)] at e2
    refine set_ne (i := q - (A + 16)) (c := c) (by rw [h4]; omega) ?_ e2.symm
    rw [pcs_at (by omega), show A + 16 + (q - (A + 16)) = q by omega]; exact hc
  · obtain ⟨z1, z2⟩ := zHdr_set_out (c := c) hl (i := q - A) (by omega) (by omega)
    rw [z1, fld_set_out (by omega), ← hk'] at e
    exact crc32_set (by rw [zHdr_len hl]; omega) (by rw [z2]; exact hat) e
/-- The array's byte. -/
theorem arr_spoil {ds : List UInt8} {R k q : Nat} {c : UInt8} (hR : R + k ≤ ds.length) (hq : R ≤ q ∧ q < R + k) (hc : ds[q]? ≠ some c) : crc32 (pcs (ds.set q c) R k) ≠ crc32 (pcs ds R k) := by
  rw [pcs_set_in hq.1]
  exact crc32_set (by rw [pcs_len hR]; omega) (by rw [pcs_at (by omega), show R + (q - R) = q by omega]; exact hc)
theorem hdr_out {ds : List UInt8} {A q : Nat} {c : UInt8} (h : q < A ∨ A + 92 ≤ q) : hdrGood (ds.set q c) A = hdrGood ds A ∧ sigOk (ds.set q c) A = sigOk ds A ∧ crcOk (ds.set q c) A = crcOk ds A := by
  have h1 : sigOk (ds.set q c) A = sigOk ds A := by unfold sigOk; rw [pcs_set_out (by omega)]
  have h2 : crcOk (ds.set q c) A = crcOk ds A := by unfold crcOk; rw [pcs_set_out (by omega), fld_set_out (by omega)]
  refine ⟨?_, h1, h2⟩
  unfold hdrGood
  rw [h1, h2, pcs_set_out (by omega), pcs_set_out (by omega), pcs_set_out (by omega)]
theorem fits_out {ds : List UInt8} {A q : Nat} {c : UInt8} (h : q < A ∨ A + 92 ≤ q) : fitsB (ds.set q c) 512 A = fitsB ds 512 A := by
  obtain ⟨h1, h2, h3⟩ := hdr_out (ds := ds) (c := c) h
  unfold fitsB
  rw [h2, h3, fld_set_out (by omega), fld_set_out (by omega), fld_set_out (by omega)]
/-- What is left of a table of which a byte is spoilt. -/
theorem spoil {ds : List UInt8} {A R q : Nat} {c : UInt8} (hA : A + 92 ≤ ds.length) (hR : R + 16384 ≤ ds.length) (hd : A + 92 ≤ R ∨ R + 16384 ≤ A) (hq : (A ≤ q ∧ q < A + 92) ∨ (R ≤ q ∧ q < R + 16384)) (hc : ds[q]? ≠ some c) (hk : crcOk ds A = true) (hs : fld ds (A + 88) 4 = crc32 (pcs ds R 16384)) :
    (hdrGood (ds.set q c) A = false ∨ fld (ds.set q c) (A + 88) 4 ≠ crc32 (pcs (ds.set q c) R 16384)) ∧
    (hdrGood (ds.set q c) A = true → hdrGood ds A = true ∧ (∀ p k, A ≤ p → p + k ≤ A + 92 → fld (ds.set q c) p k = fld ds p k)) ∧
    (fitsB ds 512 A = true → fitsB (ds.set q c) 512 A = true) := by
  rcases hq with hq | hq
  · have h1 := hdr_spoil hA hq hc hk
    have h2 : hdrGood (ds.set q c) A = false := by unfold hdrGood; rw [h1, Bool.and_false]
    refine ⟨.inl h2, fun h => by rw [h2] at h; exact Bool.noConfusion h, fun _ => ?_⟩
    unfold fitsB; rw [h1]; simp
  · have ho : q < A ∨ A + 92 ≤ q := by omega
    refine ⟨.inr ?_, fun h => ⟨by rw [← (hdr_out ho).1]; exact h, fun p k h1 h2 => fld_set_out (by omega)⟩, fun h => by rw [fits_out ho]; exact h⟩
    rw [fld_set_out (by omega), hs]
    exact fun e => arr_spoil hR hq hc e.symm
end Go.Proofs.YthcaejaaalkglaaGreatDoor.X

/- The conditions under which a table may stand on a disk. -/
namespace Go.Proofs.YthcaejaaalkglaaGreatDoor.X
set_option linter.unusedVariables false
open Go
theorem pair_of_next {ps : List GP} (h : ∀ j q r, ps[j]? = some q → ps[j + 1]? = some r → q.ix < r.ix) : ps.Pairwise (fun x y => x.ix < y.ix) := by
  have key : ∀ (k j : Nat) (q r : GP), ps[j]? = some q → ps[j + 1 + k]? = some r → q.ix < r.ix := by
    intro k
    induction k with
    | zero => intro j q r h1 h2; exact h j q r h1 h2
    | succ k ih =>
      intro j q r h1 h2
      have hl := (List.getElem?_eq_some_iff.1 h2).1
      obtain ⟨x, hx⟩ : ∃ x, ps[j + 1 + k]? = some x := ⟨_, List.getElem?_eq_getElem (by omega)⟩
      exact Int.lt_trans (ih j q x h1 hx) (h _ x r hx h2)
  rw [List.pairwise_iff_getElem]
  intro i j hi hj hij
  exact key (j - (i + 1)) i _ _ (List.getElem?_eq_getElem hi) (by rw [show i + 1 + (j - (i + 1)) = j by omega]; exact List.getElem?_eq_getElem hj)
/-- The order of the places, as far as it has been seen. -/
def ordTo (ps : List GP) (i : Nat) : Prop := ∀ j q r, j + 1 < i → ps[j]? = some q → ps[j + 1]? = some r → q.ix < r.ix
theorem ordTo_next {ps : List GP} {i : Nat} {p : GP} (h : ordTo ps i) (hp : ps[i]? = some p) (hl : ∀ q, 0 < i → ps[i - 1]? = some q → q.ix < p.ix) : ordTo ps (i + 1) := fun j q r hj h1 h2 => by
  rcases Nat.lt_or_ge (j + 1) i with h3 | h3
  · exact h j q r h3 h1 h2
  · obtain rfl : i = j + 1 := by omega
    rw [hp] at h2; cases h2
    exact hl q (by omega) (by simpa using h1)
theorem ordTo_all {ps : List GP} {i : Nat} (hl : ps.length ≤ i) (h : ordTo ps i) : ps.Pairwise (fun x y => x.ix < y.ix) := pair_of_next fun j q r h1 h2 => h j q r (by have := (List.getElem?_eq_some_iff.1 h2).1; omega) h1 h2
theorem okN_nil : okN [] := fun c hc => by rw [runes_nil] at hc; exact absurd hc (by simp)
theorem okN_step {bs : List UInt8} {pos : Nat} (h : pos < bs.length) (h0 : (rune1 (bs.drop pos)).1 ≠ 0) (h1 : (rune1 (bs.drop pos)).1 ≠ 65533) (hk : okN (bs.drop (pos + (rune1 (bs.drop pos)).2))) : okN (bs.drop pos) := fun c hc => by
  rw [runes_at h] at hc
  rcases List.mem_cons.1 hc with rfl | hc
  · exact ⟨h0, h1⟩
  · exact hk c hc
theorem okN_end {bs : List UInt8} {pos : Nat} (h : ¬ pos < bs.length) (hk : okN (bs.drop pos) → okN bs) : okN bs := hk (by rw [List.drop_of_length_le (by omega)]; exact okN_nil)
end Go.Proofs.YthcaejaaalkglaaGreatDoor.X

