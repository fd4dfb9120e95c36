/- Walks of functions, printed by a program of this claim. -/
import Derived.Test.YtgmkjndmjnbahaaDoorA9
import Derived.Test.YtgmkjndmjnbahaaDoorMbrTab
import Derived.Test.YtgmkjndmjnbahaaDoorSteps5
namespace Go.Proofs.YtgmkjndmjnbahaaDoor.X
set_option linter.unusedVariables false
set_option linter.unusedSimpArgs false
open Go Go.RowKit

namespace A10
theorem bo67 : buildOK Tryd.prog 67 = true := by kernel_rfl
theorem ca18 : callable Tryd.prog 18 = true := by kernel_rfl
theorem ca23 : callable Tryd.prog 23 = true := by kernel_rfl
theorem ca24 : callable Tryd.prog 24 = true := by kernel_rfl
theorem ca25 : callable Tryd.prog 25 = true := by kernel_rfl
theorem ca26 : callable Tryd.prog 26 = true := by kernel_rfl
theorem ca27 : callable Tryd.prog 27 = true := by kernel_rfl
theorem fo76_13 : fieldOff Tryd.prog 76 13 = some 13 := by kernel_rfl
theorem mi42 : elemInfo Tryd.prog 42 = some (.pointer none, 8) := by kernel_rfl
theorem pl67_0 : placeOf Tryd.prog 67 0 = some (0, 1) := by kernel_rfl
theorem pl67_1 : placeOf Tryd.prog 67 1 = some (1, 1) := by kernel_rfl
theorem pl67_2 : placeOf Tryd.prog 67 2 = some (2, 1) := by kernel_rfl
theorem pl67_3 : placeOf Tryd.prog 67 3 = some (3, 1) := by kernel_rfl
theorem ri42 : rowInfo Tryd.prog 42 = some ([.pointer none], 8) := by kernel_rfl
theorem sc9 : scalarB Tryd.prog 9 = true := by kernel_rfl
theorem sz42_1 : sizeB Tryd.prog 42 1 = true := by kernel_rfl
theorem sz5_1 : sizeB Tryd.prog 5 1 = true := by kernel_rfl
theorem ze42 : zeroL Tryd.prog 42 = some [.pointer none] := by kernel_rfl
theorem ze5 : zeroL Tryd.prog 5 = some [.int .u8 0] := by kernel_rfl
theorem ze67 : zeroL Tryd.prog 67 = some [.slice none 0 0, .int .i64 0, .int .i64 0, .string ⟨#[]⟩] := by kernel_rfl

end A10
open A10

set_option maxRecDepth 100000 in
set_option maxHeartbeats 1000000 in
theorem c_mbrSig (w : World)  : Calls Tryd.prog 24 #[] w (Ret fun v w' => ∃ b, v = .slice (some ⟨b, 0, none⟩) 2 2 ∧ w.heap.size ≤ b ∧ w'.heap[b]? = some (.cells (Bs [85, 170]).toArray 5 (0, 0)) ∧ Fr [] w w') := by
  refine enter (fun ρ => ρ 0) Tryd.func24 rfl rfl rfl (res1 rfl) ?_
  have H := SH.nil w
  refine sq ?_
  refine rg ?_
  refine asg (v := .slice _ _ _) rfl rfl ?_
  refine nl ?_
  refine then_n ?_
  refine sq ?_
  refine rg ?_
  refine bsl (sz := 1) (out := ?o1) H Tryd.underlying23 ze5 sz5_1 (by decide) ?f1 rfl ?_
  case f1 =>
    refine FS.one (v := .int .u8 _) rfl rfl rfl (by first | decide | simp) ?_
    refine FS.one (v := .int .u8 _) rfl rfl rfl (by first | decide | simp) ?_
    exact FS.nil
  clear H; intro b1 w1 hb1 H F
  refine asg (v := .slice _ _ _) rfl rfl ?_
  refine nl ?_
  refine then_n ?_
  refine rt ?_
  refine fin_r ?_
  exact ⟨_, rfl, H.ge, H.look, H.fr⟩

theorem c_partFrom' (w : World) (k b o c : Nat) (T : TypeId) (fr : Nat × Nat) (cur : List UInt8) (hb : w.heap[b]? = some (.cells (Bs cur).toArray T fr)) (hc : 16 ≤ c) (ho : o + 16 ≤ cur.length) (h0 : ((cur.getD o 0).toNat : Int) = 0 ∨ ((cur.getD o 0).toNat : Int) = 128) : Calls Tryd.prog 26 #[.int .i64 (k : Int), .slice (some ⟨b, o, none⟩) 16 c, .int .i64 512, .int .i64 512] w (Ret fun v w' => ∃ p, v = .tuple #[.pointer (some ⟨p, 0, none⟩), .nilIface] ∧ w.heap.size ≤ p ∧ w'.heap[p]? = some (.cells (ptCells (mpAt cur o k) []).toArray 76 (0, 0)) ∧ Fr [] w w') :=
  Ret.mono (c_partFrom w k b o c T fr cur hb hc ho h0) fun v w' ⟨⟨p, h1, h2, h3⟩, h4⟩ => ⟨p, h1, h2, h3, h4⟩

set_option maxRecDepth 100000 in
set_option maxHeartbeats 1000000 in
theorem c_tableFrom (w : World) (b c : Nat) (T : TypeId) (cur : List UInt8) (hb : w.heap[b]? = some (.cells (Bs cur).toArray T (0, 0))) (hc : 512 ≤ c) (hl : cur.length = 512) (hf : flagsB cur) : Calls Tryd.prog 22 #[.slice (some ⟨b, 0, none⟩) 512 c] w (Ret fun v w' => ∃ a e, v = .tuple #[.pointer a, e] ∧ Ifc e ∧ Fr [] w w' ∧ isIf e = !sigB cur ∧ (sigB cur = true → MadeTab 67 42 76 w w' cur (.pointer a))) := by
  refine enter (fun ρ => .tuple #[ρ 2, ρ 3]) Tryd.func22 rfl rfl rfl (res2 rfl) ?_
  have H := SH.ro1 hb
  refine sq ?_
  refine rg ?_
  refine asg (v := .pointer _) rfl rfl ?_
  refine asg (v := .nilIface) rfl rfl ?_
  refine nl ?_
  refine then_n ?_
  refine sq ?_
  refine sq ?_
  refine rg ?_
  refine mv (v := .slice _ _ _) rfl rfl ?_
  refine lnS rfl Tryd.underlying23 rfl ?_
  refine neq rfl rfl rfl ?_
  refine nl ?_
  refine then_n ?_
  first | refine cF rfl (by omega) ?_ | refine cbF rfl (by omega) ?_   -- test 1
  refine sk ?_
  refine then_n ?_
  refine sq ?_
  refine rg ?_
  refine mv (v := .slice _ _ _) rfl rfl ?_
  refine sll rfl rfl Tryd.underlying23 sz5_1 (by first | trivial | omega | (simp; omega)) rfl ?_
  refine asg (v := .slice _ _ _) rfl rfl ?_
  refine nl ?_
  refine then_n ?_
  refine sq ?_
  refine sq ?_
  refine rg ?_
  refine mv (v := .slice _ _ _) rfl rfl ?_
  refine cl ca24 (c_mbrSig _) rfl ?_
  rintro _ w1 ⟨b1, rfl, hb1, ho1, F⟩
  replace H := H.new F hb1 ho1; clear F ho1
  refine cl ca23 (c_bytesEqual _ _ _ _ _ _ _ _ _ (RB.of H (by omega)) (RB.allL [85, 170] H rfl)) rfl ?_
  rintro _ w2 ⟨rfl, F⟩
  replace H := H.keep F; clear F
  refine unot rfl rfl ?_
  refine nl ?_
  refine then_n ?_
  first | refine cd rfl (fun hc2 => ?_) (fun hc2 => ?_) | refine cn rfl (fun hc2 => ?_) (fun hc2 => ?_)   -- test 2
  · refine sq ?_
    refine rg ?_
    refine cl ca18 (c_errNew _ _) rfl ?_
    rintro _ w3 ⟨⟨b2, rfl⟩, F⟩
    replace H := H.keep F; clear F
    refine asg (v := .pointer _) rfl rfl ?_
    first | refine asg (v := .nilIface) rfl rfl ?_ | refine asg (v := .iface _ _) rfl rfl ?_ | refine asg rfl rfl ?_
    refine nl ?_
    refine then_n ?_
    refine rt ?_
    refine then_r ?_
    refine fin_r ?_
    have hs : sigB cur = false := decide_eq_false (by simpa using hc2)
    exact ⟨_, _, rfl, .inr ⟨_, _, rfl⟩, H.fr, by rw [hs]; rfl, fun h => by rw [hs] at h; cases h⟩
  · refine sk ?_
    refine then_n ?_
    refine sq ?_
    refine rg ?_
    refine mv (v := .slice _ _ _) rfl rfl ?_
    refine cl ca25 (c_readUUID _ _ _ _ _ _ H.look (by omega) (by omega)) rfl ?_
    rintro _ w4 ⟨⟨uu, rfl, huu⟩, F⟩
    replace H := H.keep F; clear F
    refine asg (v := .string _) rfl rfl ?_
    refine nl ?_
    refine then_n ?_
    refine sq ?_
    refine rg ?_
    refine mk H rfl rfl Tryd.underlying65 mi42 (by omega) (by omega) (by omega) (by omega) rfl ?_
    clear H; intro b3 w5 hb3 H _
    refine asg (v := .slice _ _ _) rfl rfl ?_
    refine nl ?_
    refine then_n ?_
    refine sq ?_
    refine rg ?_
    refine asg (v := .int .i64 _) rfl rfl ?_
    refine nl ?_
    refine then_n ?_
    refine sq ?_
    refine sq ?_
    refine rg ?_
    refine asg (v := .int .i64 _) rfl rfl ?_
    refine nl ?_
    refine then_n ?_
    refine bk ?_
    replace H := H.swap.drop
    refine lpM (α := Nat × Addr × Nat × PL) [2, 3, 6, 8, 9, 10, 11, 12, 28, 29, 30, 31, 32, 33, 34, 35, 36, 37, 38, 39, 40, 41, 42, 43, 44, 45, 46, 47, 48, 49, 50, 51, 52, 53, 54, 55, 56, 57, 58, 59, 60, 61] (fun (i, a, cap, l) => [(6, .slice (some a) i cap), (8, .int .i64 (i : Int))]) (fun (i, a, cap, l) w' => i ≤ 4 ∧ l.length = i ∧ rowOk cur l ∧ OR 42 1 w [] w' (⟨b, .cells (Bs cur).toArray T (0, 0), false⟩ :: ents 76 l) (some a) i cap (ptrs l)) (fun (i, a, cap, l) => 4 - i) (0, ⟨b3, 0, none⟩, 4, []) ?_ (fC (by first | rfl | exact congrArg (Value.int _) (by first | omega | assumption | (symm; assumption) | (simp; done) | (simp; omega)) | exact congrArg (fun n => Value.slice _ n _) (by first | omega | (simp; done) | (simp; omega))) (fC (by first | rfl | exact congrArg (Value.int _) (by first | omega | assumption | (symm; assumption) | (simp; done) | (simp; omega)) | exact congrArg (fun n => Value.slice _ n _) (by first | omega | (simp; done) | (simp; omega))) (fN _))) ?_   -- loop 1
    · exact ⟨by omega, rfl, rowOk_nil _, OR.made (n := 0) H (by decide) (by decide) rfl⟩
    · rintro ⟨i, a, cap, l⟩ ρx w6 ⟨hi, hll, hro, O⟩
      have H := O.sh
      refine sq ?_
      refine sq ?_
      refine rg ?_
      refine mv (v := .int .i64 _) rfl rfl ?_
      refine mv (v := .int .i64 _) rfl rfl ?_
      refine lss rfl rfl rfl ?_
      refine nl ?_
      refine then_n ?_
      first | refine cd rfl (fun hc3 => ?_) (fun hc3 => ?_) | refine cn rfl (fun hc3 => ?_) (fun hc3 => ?_)   -- test 3
      · refine sk ?_
        refine then_n ?_
        refine sq ?_
        refine bk ?_
        refine sq ?_
        refine rg ?_
        refine mv (v := .int .i64 _) rfl rfl ?_
        refine mul rfl rfl (by first | exact w_i64 (by omega) | exact w_i64 (rng_i64 _) | rfl) rfl ?_
        refine add rfl rfl (by first | exact w_i64 (by omega) | exact w_i64 (rng_i64 _) | rfl) rfl ?_
        refine asg (v := .int .i64 _) rfl rfl ?_
        refine nl ?_
        refine then_n ?_
        refine sq ?_
        refine rg ?_
        refine mv (v := .int .i64 _) rfl rfl ?_
        refine add rfl rfl (by first | exact w_i64 (by omega) | exact w_i64 (rng_i64 _) | rfl) rfl ?_
        refine asg (v := .int .i64 _) rfl rfl ?_
        refine nl ?_
        refine then_n ?_
        refine sq ?_
        refine rg ?_
        refine mv (v := .int .i64 _) rfl rfl ?_
        refine add (c := ((i + 1 : Nat) : Int)) rfl rfl (by rw [w_i64 (by omega)]; omega) rfl ?_
        refine mv (v := .slice _ _ _) rfl rfl ?_
        refine mv (v := .int .i64 _) rfl rfl ?_
        refine mv (v := .int .i64 _) rfl rfl ?_
        refine sllhN (446 + 16 * i) (16) (c - (446 + 16 * i)) rfl rfl rfl Tryd.underlying23 sz5_1 (by omega) (by omega) rfl ?_
        refine cl ca26 (c_partFrom' _ (i + 1) _ _ _ _ _ _ H.look (by omega) (by omega) (hf i (by omega))) rfl ?_
        rintro _ w7 ⟨b4, rfl, hb4, ho4, F⟩
        replace O := O.new F hb4 ho4
        replace H := O.sh; clear F ho4
        refine mv (v := .tuple _) rfl rfl ?_
        refine xt rfl rfl rfl ?_
        refine xt rfl rfl rfl ?_
        refine asg (v := .pointer _) rfl rfl ?_
        first | refine asg (v := .nilIface) rfl rfl ?_ | refine asg (v := .iface _ _) rfl rfl ?_ | refine asg rfl rfl ?_
        refine nl ?_
        refine then_n ?_
        refine sq ?_
        refine sq ?_
        refine rg ?_
        first | refine mv (v := .nilIface) rfl rfl ?_ | refine mv (v := .iface _ _) rfl rfl ?_ | refine mv rfl rfl ?_
        first | refine neqI1 rfl Tryd.underlying48 rfl ?_ | refine neqI0 rfl Tryd.underlying48 rfl ?_
        refine nl ?_
        refine then_n ?_
        first | refine cF rfl rfl ?_ | refine cbF rfl rfl ?_   -- test 4
        refine sk ?_
        refine then_n ?_
        refine sq ?_
        refine rg ?_
        refine mv (v := .pointer _) rfl rfl ?_
        refine mv (v := .string _) rfl rfl ?_
        refine mv (v := .int .i64 _) rfl rfl ?_
        refine add rfl rfl (by first | exact w_i64 (by omega) | exact w_i64 (rng_i64 _) | rfl) rfl ?_
        refine cl ca27 (c_fmtUUID _ _ _ (by omega) (by omega)) rfl ?_
        rintro _ w8 ⟨⟨u5, rfl⟩, F⟩
        replace H := H.keep F; replace O := O.keep F; clear F
        first | refine nc rfl rfl ?_ | refine nci rfl rfl ?_
        refine fa rfl fo76_13 rfl ?_
        refine st (v := .string _) H rfl rfl sc9 rfl (by show 0 + 13 < 14; decide) (by omega) ?_
        intro w91 H91 F
        replace O := O.put F H91.look
        clear H H91 F; have H := O.sh
        refine nl ?_
        refine then_n ?_
        refine rg ?_
        refine mv (v := .slice _ _ _) rfl rfl ?_
        refine mv (v := .pointer _) rfl rfl ?_
        refine bsl (sz := 1) (out := ?o1) H Tryd.underlying65 ze42 sz42_1 (by decide) ?f1 rfl ?_
        case f1 =>
          refine FS.one (v := .pointer _) rfl rfl rfl (by first | decide | simp) ?_
          exact FS.nil
        clear H; intro b6 w9 hb6 H F
        replace O := O.new F (by assumption) H.look
        refine apS (zs := [.pointer none]) [.pointer (some ⟨_, 0, none⟩)] O rfl rfl Tryd.underlying65 ri42 rfl (cells_look H.look) (by simp [Value.oneCell']) (by simp) (by omega) (by unfold maxLen; omega) rfl ?_
        clear O H F; intro a9 cp9 w10 O
        replace O := O.drop
        refine asg (v := .slice _ _ _) rfl rfl ?_
        refine nl ?_
        refine in_n ?_
        refine then_n ?_
        refine rg ?_
        refine mv (v := .int .i64 _) rfl rfl ?_
        refine add rfl rfl (by first | exact w_i64 (by omega) | exact w_i64 (rng_i64 _) | rfl) rfl ?_
        refine asg (v := .int .i64 _) rfl rfl ?_
        refine nl ?_
        refine loop_n ?_
        exact ⟨(i + 1, a9, cp9, l ++ [(_, _)]), (by (try dsimp only); omega), ⟨by omega, by simp [hll], rowOk_snoc hro (by rw [hll]), by rw [ptrs_snoc]; exact O.perm (perm_snoc1 _)⟩, (fC (by first | rfl | exact congrArg (Value.int _) (by first | omega | assumption | (symm; assumption) | (simp; done) | (simp; omega)) | exact congrArg (fun n => Value.slice _ n _) (by first | omega | (simp; done) | (simp; omega))) (fC (by first | rfl | exact congrArg (Value.int _) (by first | omega | assumption | (symm; assumption) | (simp; done) | (simp; omega)) | exact congrArg (fun n => Value.slice _ n _) (by first | omega | (simp; done) | (simp; omega))) (fN _))), (by repeat (first | exact Agree.setL rfl Agree.mask | exact Agree.self _ _ | refine Agree.upd rfl ?_ | refine Agree.setL rfl ?_ | refine Agree.mask2 rfl ?_))⟩
      · refine ex ?_
        refine then_e ?_
        refine loop_e ?_
        refine in_hit rfl ?_
        refine then_n ?_
        refine sq ?_
        refine rg ?_
        refine mv (v := .slice _ _ _) rfl rfl ?_
        refine mv (v := .string _) rfl rfl ?_
        refine bu (out := ?o2) ze67 bo67 ?f2 rfl ?_
        case f2 =>
          refine FL.one (v := .slice _ _ _) rfl pl67_0 rfl (by first | decide | simp) ?_
          refine FL.one (v := .int .i64 _) rfl pl67_1 rfl (by first | decide | simp) ?_
          refine FL.one (v := .int .i64 _) rfl pl67_2 rfl (by first | decide | simp) ?_
          refine FL.one (v := .string _) rfl pl67_3 rfl (by first | decide | simp) ?_
          exact FL.nil
        refine bx (v := .agg _) H rfl rfl rfl ?_
        clear H; intro b19 w19 hb19 H F
        replace O := O.new F hb19 H.look
        clear H F; have H := O.sh
        refine asg (v := .pointer _) rfl rfl ?_
        refine nl ?_
        refine then_n ?_
        refine sq ?_
        refine rg ?_
        refine mv (v := .pointer _) rfl rfl ?_
        refine asg (v := .pointer _) rfl rfl ?_
        refine asg (v := .nilIface) rfl rfl ?_
        refine nl ?_
        refine then_n ?_
        refine rt ?_
        refine fin_r ?_
        obtain ⟨r, cur2, hr, h1, h2, h3, h4, H⟩ := O.blk
        obtain ⟨junk, rfl⟩ := take_split h4
        cases hr
        obtain rfl : i = 4 := by omega
        have hs : sigB cur = true := decide_eq_true (by simpa using hc2)
        refine ⟨some ⟨b19, 0, none⟩, .nilIface, rfl, .inl rfl, H.fr, by rw [hs]; rfl, fun _ => ⟨b19, r, cap, junk, l, uu, rfl, hll, hro, ?_⟩⟩
        exact H.swap.sub (List.Sublist.cons_cons _ (List.Sublist.cons_cons _ (List.Sublist.cons _ (List.Sublist.refl _))))

end Go.Proofs.YtgmkjndmjnbahaaDoor.X
