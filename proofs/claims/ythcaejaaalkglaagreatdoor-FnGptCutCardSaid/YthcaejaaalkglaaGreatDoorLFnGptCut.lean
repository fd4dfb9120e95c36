/- FnGptCut: wherever the writes of a new table end, also within one, a disk that had a table has the old one or the new one, by the format, and by Read (unless what is neither has right sums by chance). No condition but its own (the listed tables of package utf8, tied by the card). -/
import Derived.Test.YthcaejaaalkglaaGreatDoorRows
import Derived.WalkKit
import Derived.ProofKit
import Derived.OpenShut
import Derived.ShutString
import Derived.ChangeOld
import Derived.Below
import Derived.Test.YthcaejaaalkglaaGreatDoorCards
import Derived.Test.YthcaejaaalkglaaGreatDoorTie
import Derived.LaidMore
import Derived.Lay
import Derived.SevenTiedAt
import Derived.Stop.Joined
import Derived.Test.YthcaejaaalkglaaGreatDoorM11
namespace Go.Proofs.YthcaejaaalkglaaGreatDoor.fnGptCut
open Go.ChangeShapes Go.WideShapes Go.ChangeAt Go.RowKit Go.Proofs.YthcaejaaalkglaaGreatDoor.X
open Go.ChangeMaps (open_string shut_string)
set_option linter.unusedVariables false
theorem own : ownKnob Tryz.prog.godebug = none := by kernel_rfl
theorem laidOut : laidOutB Tryz.prog = true := by kernel_rfl
set_option maxHeartbeats 4000000 in
set_option maxRecDepth 100000 in
theorem lifted (os : Os) (started : os.Started) (H : Type) (enc : TypeId × Value → H) :
    ReturnsInHanded {} Tryz.checked os 5 .any (fun w args => (Rows.fnGptCutSpec.pre enc Tryz.prog Tryz.f5 Rows.fnGptCutRow.domain false w args ∧ laidMetH Tryz.prog laidU w) ∧ sizedMet enc Tryz.prog Tryz.f5 (OpenSpec.ofChange Rows.fnGptCutSpec) false w args) (Rows.fnGptCutSpec.post enc Tryz.prog Tryz.f5 false true false false) := by
  refine returnsInHanded_of_change_and (C := Tryz.checked) (X := fun w _ => laidMetH Tryz.prog laidU w) (fun _ _ _ hh h => h.of_heap hh) own started (by kernel_rfl) Tryz.func5
    (ChangeSpec.witness_shaped (enc := enc) (C := Tryz.checked) (os := os) (X := fun w _ => laidMetH Tryz.prog laidU w) false (World.laidAll Tryz.prog os laidU) #[.agg #[.slice none 0 0, .int .i64 0, .string ByteArray.empty, .bool false, .bool false], .agg #[.slice none 0 0, .int .i64 0, .string ByteArray.empty, .bool false, .bool false], .int .u16 0, .int .u16 0, .int .u16 0] 8 (World.laidAll_os _ _ _)
      (World.shaped_of_ZipB (by kernel_rfl) (by kernel_rfl)) (by kernel_rfl) (by kernel_rfl) (by kernel_rfl)
      (by rw [MakeChecks.laidMetH_plain _ _ _ (by kernel_rfl)]; exact laidMet_laidAll _ (by kernel_rfl) (by kernel_rfl))) ?_
  intro W base args ds gs before hval0 hW hcnd _ hL _
  have hU := utf8_of_laid hL
  have hval : ∀ (j : Nat) t v, Tryz.f5.params[j]? = some t → args[j]? = some v → Value.okWide Tryz.prog W .any base t v := hval0
  have hW' := hW
  obtain ⟨p, q, hA0, hV, rfl, hfz, hnd⟩ := hW
  have hA : DataW.TrodAll enc Tryz.prog W 0 (fun _ => true) true Tryz.f5.params.toList args.toList ds p := hA0
  rw [Tryz.params5] at hA hval
  obtain ⟨v0, vs0, d0, ds0, p0, q0, hargs, rfl, rfl, h0, r0⟩ := trodAll_cons hA
  obtain ⟨v1, vs1, d1, ds1, p1, q1, rfl, rfl, rfl, h1, r1⟩ := trodAll_cons r0
  obtain ⟨v2, vs2, d2, ds2, p2, q2, rfl, rfl, rfl, h2, r2⟩ := trodAll_cons r1
  obtain ⟨v3, vs3, d3, ds3, p3, q3, rfl, rfl, rfl, h3, r3⟩ := trodAll_cons r2
  obtain ⟨v4, vs4, d4, ds4, p4, q4, rfl, rfl, rfl, h4, r4⟩ := trodAll_cons r3
  obtain ⟨rfl, rfl, rfl⟩ := trodAll_nil r4
  obtain rfl : args = #[v0, v1, v2, v3, v4] := by cases args; simp_all
  obtain ⟨rfl, rfl⟩ := trodVars_none hV
  have k0 := h0
  have lt0 : ∀ x ∈ p0, x.block < W.heap.size := by obtain ⟨m, hm⟩ := k0; exact DataW.trod_lt m _ _ _ hm
  obtain ⟨c0, rfl, i0⟩ := open_agg 8 (s := shpGT) (by kernel_rfl) (.inl ⟨_, Tryz.underlying24⟩) (hval 0 24 v0 rfl rfl) h0
  obtain ⟨DD0, mm0, ee0, ss0, gg0, uu0, rr0, ll0, rfl, qq0, _⟩ := gt_of i0
  have k1 := h1
  have lt1 : ∀ x ∈ p1, x.block < W.heap.size := by obtain ⟨m, hm⟩ := k1; exact DataW.trod_lt m _ _ _ hm
  obtain ⟨c1, rfl, i1⟩ := open_agg 8 (s := shpGT) (by kernel_rfl) (.inl ⟨_, Tryz.underlying24⟩) (hval 1 24 v1 rfl rfl) h1
  obtain ⟨DD1, mm1, ee1, ss1, gg1, uu1, rr1, ll1, rfl, qq1, _⟩ := gt_of i1
  obtain ⟨a2, rfl, rfl, rfl, w2⟩ := open_int Tryz.underlying25 (hval 2 25 v2 rfl rfl) h2
  obtain ⟨a3, rfl, rfl, rfl, w3⟩ := open_int Tryz.underlying25 (hval 3 25 v3 rfl rfl) h3
  obtain ⟨a4, rfl, rfl, rfl, w4⟩ := open_int Tryz.underlying25 (hval 4 25 v4 rfl rfl) h4
  clear hA0 hval0
  refine (law_of (c_FnGptCut W DD0 DD1 mm0 ee0 mm1 ee1 ss0 ss1 gg0 gg1 uu0 rr0 uu1 rr1 ll0 ll1 qq0 qq1 hU a2 a3 a4 (wf_u16 w2) (wf_u16 w3) (wf_u16 w4))).mono fun e W' ⟨he, bel⟩ => ?_
  subst he
  exact ⟨_, rfl, _, _, _, [], _, [], hW', trodAll_mk1 (shut_bool Tryz.underlying4 _), (trodAll_cons_mk (Below.trod laidOut (by kernel_rfl) (of_decide_eq_true (by kernel_rfl)) k0 bel lt0) (trodAll_cons_mk (Below.trod laidOut (by kernel_rfl) (of_decide_eq_true (by kernel_rfl)) k1 bel lt1) (trodAll_cons_mk (shut_int Tryz.underlying25 w2) (trodAll_cons_mk (shut_int Tryz.underlying25 w3) (trodAll_cons_mk (shut_int Tryz.underlying25 w4) trodAll_mk0))))), rfl, bel.frame _, fun h => by cases h⟩
theorem over : Rows.fnGptCutRow.holds Tryz.pinned (OpenSpec.ofChange Rows.fnGptCutSpec) :=
  OpenClaim.holds_of_wide 5 Tryz.f5 rfl rfl rfl rfl rfl rfl rfl ⟨rfl, rfl, rfl, rfl, rfl⟩ rfl rfl rfl rfl rfl (by kernel_rfl) Tryz.func5 (by kernel_rfl)
    (of_decide_eq_true (by kernel_rfl)) (by unfold Func.isWrapper; first | (rw [if_pos (by decide +kernel)]; kernel_rfl) | (rw [if_neg (by decide +kernel)]; exact ⟨rfl, rfl⟩))
    (fun os started H enc _ => lifted os started H enc)
end Go.Proofs.YthcaejaaalkglaaGreatDoor.fnGptCut
namespace Go.Proofs.YthcaejaaalkglaaGreatDoor
theorem fnGptCut_holds : Rows.FnGptCutCardSaid :=
  Claim7.holds_tied_plain_at .later [] [.data, .pinned] true (true, "51c347355b049a355e857fdd237ac1632b1607452805e5b23dfef7c8c64416af") true fnGptCut.over (fun _ h => by cases h) (by kernel_rfl) (fun _ h => by cases h) fnGptCut_row_tie rfl ⟨rfl, rfl⟩ (by kernel_rfl) rfl
    (fun f fn hf hfn => by
      obtain rfl : f = 5 := Option.some.inj ((show Tryz.prog.funcNamed "given.example/pub-garboard/laws.FnGptCut" = some 5 by kernel_rfl).symm.trans hf) |>.symm
      obtain rfl : fn = Tryz.f5 := (Option.some.inj (Tryz.func5.symm.trans hfn)).symm
      exact ⟨by kernel_rfl, fun j t ht => by
        rw [Tryz.params5] at ht
        have hm : t ∈ [24, 24, 25, 25, 25] := by simpa using Array.mem_of_getElem? ht
        have hall : ([24, 24, 25, 25, 25].all fun u => !Tryz.prog.wantsStandIn u) = true := by kernel_rfl
        exact (show Tryz.prog.wantsStandIn t = false by simpa using List.all_eq_true.1 hall t hm)⟩)
    (by kernel_rfl)
#print axioms fnGptCut_holds
end Go.Proofs.YthcaejaaalkglaaGreatDoor
