/- Laws and walks on the road to the statement: P37, P38, WritePure2, P39, P40, MapOk, PartArr, P41, HdrPut, P42. -/
import Derived.Test.YthcaejaaalkglaaGreatDoorM7
/- Walks of functions, printed by a program of this claim. -/
namespace Go.Proofs.YthcaejaaalkglaaGreatDoor.X
set_option linter.unusedVariables false
set_option linter.unusedSimpArgs false
open Go Go.RowKit
namespace PF
theorem ca84 : callable Tryz.prog 84 = true := by kernel_rfl
end PF
open PF
set_option maxRecDepth 100000 in
set_option maxHeartbeats 1000000 in
theorem c_digit (w : World) (c : UInt8) : Calls Tryz.prog 84 #[.int .u8 (c.toNat : Int)] w (Ret fun v w' => v = .int .i64 (hexN (c.toNat : Int)) ∧ Fr [] w w') := by
 refine enter (fun ρ => ρ 2) Tryz.func84 rfl rfl rfl (res1 rfl) ?_
 have H := SH.nil w
 have hx := u8_lt c
 refine sq ?_
 refine rg ?_
 refine asg (v := .int .i64 _) rfl rfl ?_
 refine nl ?_
 refine then_n ?_
 refine sq ?_
 refine bk ?_
 refine sq ?_
 refine rg ?_
 refine mv (v := .int .u8 _) rfl rfl ?_
 refine geq rfl rfl rfl ?_
 refine mv (v := .bool _) rfl rfl ?_
 refine spd (t := 6) rfl (fun hg1 => ?_) (fun hg1 => ?_)
 ·refine gy rfl ?_
  refine mv (v := .int .u8 _) rfl rfl ?_
  refine gy rfl ?_
  refine leq rfl rfl rfl ?_
  refine pkT (v := .bool _) rfl rfl rfl ?_
  refine asg (v := .bool _) rfl rfl ?_
  refine nl ?_
  refine then_n ?_
  refine cd rfl (fun hc1 => ?_) (fun hc1 => ?_)
  ·refine sq ?_
   refine rg ?_
   refine mv (v := .int .u8 _) rfl rfl ?_
   refine sub rfl rfl (by first | exact w_u8 (by omega) | exact w_u8 (rng_u8 _) | exact m_u8 _) rfl ?_
   refine cvi rfl rfl Tryz.underlying3 (by first | exact w_i64 (by omega) | exact w_i64 (rng_i64 _) | rfl) rfl ?_
   refine asg (v := .int .i64 _) rfl rfl ?_
   refine nl ?_
   refine then_n ?_
   refine rt ?_
   refine in_r ?_
   refine then_r ?_
   refine fin_r ?_
   refine ⟨congrArg (Value.int .i64) ?_, H.fr⟩
   unfold hexN; omega
  ·refine sq ?_
   refine rg ?_
   refine mv (v := .int .u8 _) rfl rfl ?_
   refine geq rfl rfl rfl ?_
   refine mv (v := .bool _) rfl rfl ?_
   refine spd (t := 16) rfl (fun hg2 => ?_) (fun hg2 => ?_)
   ·refine gy rfl ?_
    refine mv (v := .int .u8 _) rfl rfl ?_
    refine gy rfl ?_
    refine leq rfl rfl rfl ?_
    refine pkT (v := .bool _) rfl rfl rfl ?_
    refine asg (v := .bool _) rfl rfl ?_
    refine nl ?_
    refine then_n ?_
    refine cd rfl (fun hc2 => ?_) (fun hc2 => ?_)
    ·refine sq ?_
     refine rg ?_
     refine mv (v := .int .u8 _) rfl rfl ?_
     refine sub rfl rfl (by first | exact w_u8 (by omega) | exact w_u8 (rng_u8 _) | exact m_u8 _) rfl ?_
     refine cvi rfl rfl Tryz.underlying3 (by first | exact w_i64 (by omega) | exact w_i64 (rng_i64 _) | rfl) rfl ?_
     refine add rfl rfl (by first | exact w_i64 (by omega) | exact w_i64 (rng_i64 _) | rfl) rfl ?_
     refine asg (v := .int .i64 _) rfl rfl ?_
     refine nl ?_
     refine then_n ?_
     refine rt ?_
     refine in_r ?_
     refine then_r ?_
     refine fin_r ?_
     refine ⟨congrArg (Value.int .i64) ?_, H.fr⟩
     unfold hexN; omega
    ·refine sq ?_
     refine rg ?_
     refine mv (v := .int .u8 _) rfl rfl ?_
     refine geq rfl rfl rfl ?_
     refine mv (v := .bool _) rfl rfl ?_
     refine spd (t := 27) rfl (fun hg3 => ?_) (fun hg3 => ?_)
     ·refine gy rfl ?_
      refine mv (v := .int .u8 _) rfl rfl ?_
      refine gy rfl ?_
      refine leq rfl rfl rfl ?_
      refine pkT (v := .bool _) rfl rfl rfl ?_
      refine asg (v := .bool _) rfl rfl ?_
      refine nl ?_
      refine then_n ?_
      refine cd rfl (fun hc3 => ?_) (fun hc3 => ?_)
      ·refine sq ?_
       refine rg ?_
       refine mv (v := .int .u8 _) rfl rfl ?_
       refine sub rfl rfl (by first | exact w_u8 (by omega) | exact w_u8 (rng_u8 _) | exact m_u8 _) rfl ?_
       refine cvi rfl rfl Tryz.underlying3 (by first | exact w_i64 (by omega) | exact w_i64 (rng_i64 _) | rfl) rfl ?_
       refine add rfl rfl (by first | exact w_i64 (by omega) | exact w_i64 (rng_i64 _) | rfl) rfl ?_
       refine asg (v := .int .i64 _) rfl rfl ?_
       refine nl ?_
       refine then_n ?_
       refine rt ?_
       refine in_r ?_
       refine then_r ?_
       refine fin_r ?_
       refine ⟨congrArg (Value.int .i64) ?_, H.fr⟩
       unfold hexN; omega
      ·refine sk ?_
       refine in_n ?_
       refine then_n ?_
       refine sq ?_
       refine rg ?_
       refine asg (v := .int .i64 _) rfl rfl ?_
       refine nl ?_
       refine then_n ?_
       refine rt ?_
       refine fin_r ?_
       refine ⟨congrArg (Value.int .i64) ?_, H.fr⟩
       unfold hexN; omega
     ·refine gn rfl rfl ?_
      refine gn rfl rfl ?_
      refine pkF (v := .bool _) rfl rfl rfl ?_
      refine asg (v := .bool _) rfl rfl ?_
      refine nl ?_
      refine then_n ?_
      refine cbF rfl rfl ?_
      refine sk ?_
      refine in_n ?_
      refine then_n ?_
      refine sq ?_
      refine rg ?_
      refine asg (v := .int .i64 _) rfl rfl ?_
      refine nl ?_
      refine then_n ?_
      refine rt ?_
      refine fin_r ?_
      refine ⟨congrArg (Value.int .i64) ?_, H.fr⟩
      unfold hexN; omega
   ·refine gn rfl rfl ?_
    refine gn rfl rfl ?_
    refine pkF (v := .bool _) rfl rfl rfl ?_
    refine asg (v := .bool _) rfl rfl ?_
    refine nl ?_
    refine then_n ?_
    refine cbF rfl rfl ?_
    refine sq ?_
    refine rg ?_
    refine mv (v := .int .u8 _) rfl rfl ?_
    refine geq rfl rfl rfl ?_
    refine mv (v := .bool _) rfl rfl ?_
    refine spd (t := 27) rfl (fun hg4 => ?_) (fun hg4 => ?_)
    ·refine gy rfl ?_
     refine mv (v := .int .u8 _) rfl rfl ?_
     refine gy rfl ?_
     refine leq rfl rfl rfl ?_
     refine pkT (v := .bool _) rfl rfl rfl ?_
     refine asg (v := .bool _) rfl rfl ?_
     refine nl ?_
     refine then_n ?_
     refine cd rfl (fun hc4 => ?_) (fun hc4 => ?_)
     ·refine sq ?_
      refine rg ?_
      refine mv (v := .int .u8 _) rfl rfl ?_
      refine sub rfl rfl (by first | exact w_u8 (by omega) | exact w_u8 (rng_u8 _) | exact m_u8 _) rfl ?_
      refine cvi rfl rfl Tryz.underlying3 (by first | exact w_i64 (by omega) | exact w_i64 (rng_i64 _) | rfl) rfl ?_
      refine add rfl rfl (by first | exact w_i64 (by omega) | exact w_i64 (rng_i64 _) | rfl) rfl ?_
      refine asg (v := .int .i64 _) rfl rfl ?_
      refine nl ?_
      refine then_n ?_
      refine rt ?_
      refine in_r ?_
      refine then_r ?_
      refine fin_r ?_
      refine ⟨congrArg (Value.int .i64) ?_, H.fr⟩
      unfold hexN; omega
     ·refine sk ?_
      refine in_n ?_
      refine then_n ?_
      refine sq ?_
      refine rg ?_
      refine asg (v := .int .i64 _) rfl rfl ?_
      refine nl ?_
      refine then_n ?_
      refine rt ?_
      refine fin_r ?_
      refine ⟨congrArg (Value.int .i64) ?_, H.fr⟩
      unfold hexN; omega
    ·refine gn rfl rfl ?_
     refine gn rfl rfl ?_
     refine pkF (v := .bool _) rfl rfl rfl ?_
     refine asg (v := .bool _) rfl rfl ?_
     refine nl ?_
     refine then_n ?_
     refine cbF rfl rfl ?_
     refine sk ?_
     refine in_n ?_
     refine then_n ?_
     refine sq ?_
     refine rg ?_
     refine asg (v := .int .i64 _) rfl rfl ?_
     refine nl ?_
     refine then_n ?_
     refine rt ?_
     refine fin_r ?_
     refine ⟨congrArg (Value.int .i64) ?_, H.fr⟩
     unfold hexN; omega
 ·refine gn rfl rfl ?_
  refine gn rfl rfl ?_
  refine pkF (v := .bool _) rfl rfl rfl ?_
  refine asg (v := .bool _) rfl rfl ?_
  refine nl ?_
  refine then_n ?_
  refine cbF rfl rfl ?_
  refine sq ?_
  refine rg ?_
  refine mv (v := .int .u8 _) rfl rfl ?_
  refine geq rfl rfl rfl ?_
  refine mv (v := .bool _) rfl rfl ?_
  refine spd (t := 16) rfl (fun hg5 => ?_) (fun hg5 => ?_)
  ·refine gy rfl ?_
   refine mv (v := .int .u8 _) rfl rfl ?_
   refine gy rfl ?_
   refine leq rfl rfl rfl ?_
   refine pkT (v := .bool _) rfl rfl rfl ?_
   refine asg (v := .bool _) rfl rfl ?_
   refine nl ?_
   refine then_n ?_
   refine cd rfl (fun hc5 => ?_) (fun hc5 => ?_)
   ·refine sq ?_
    refine rg ?_
    refine mv (v := .int .u8 _) rfl rfl ?_
    refine sub rfl rfl (by first | exact w_u8 (by omega) | exact w_u8 (rng_u8 _) | exact m_u8 _) rfl ?_
    refine cvi rfl rfl Tryz.underlying3 (by first | exact w_i64 (by omega) | exact w_i64 (rng_i64 _) | rfl) rfl ?_
    refine add rfl rfl (by first | exact w_i64 (by omega) | exact w_i64 (rng_i64 _) | rfl) rfl ?_
    refine asg (v := .int .i64 _) rfl rfl ?_
    refine nl ?_
    refine then_n ?_
    refine rt ?_
    refine in_r ?_
    refine then_r ?_
    refine fin_r ?_
    refine ⟨congrArg (Value.int .i64) ?_, H.fr⟩
    unfold hexN; omega
   ·refine sq ?_
    refine rg ?_
    refine mv (v := .int .u8 _) rfl rfl ?_
    refine geq rfl rfl rfl ?_
    refine mv (v := .bool _) rfl rfl ?_
    refine spd (t := 27) rfl (fun hg6 => ?_) (fun hg6 => ?_)
    ·refine gy rfl ?_
     refine mv (v := .int .u8 _) rfl rfl ?_
     refine gy rfl ?_
     refine leq rfl rfl rfl ?_
     refine pkT (v := .bool _) rfl rfl rfl ?_
     refine asg (v := .bool _) rfl rfl ?_
     refine nl ?_
     refine then_n ?_
     refine cd rfl (fun hc6 => ?_) (fun hc6 => ?_)
     ·refine sq ?_
      refine rg ?_
      refine mv (v := .int .u8 _) rfl rfl ?_
      refine sub rfl rfl (by first | exact w_u8 (by omega) | exact w_u8 (rng_u8 _) | exact m_u8 _) rfl ?_
      refine cvi rfl rfl Tryz.underlying3 (by first | exact w_i64 (by omega) | exact w_i64 (rng_i64 _) | rfl) rfl ?_
      refine add rfl rfl (by first | exact w_i64 (by omega) | exact w_i64 (rng_i64 _) | rfl) rfl ?_
      refine asg (v := .int .i64 _) rfl rfl ?_
      refine nl ?_
      refine then_n ?_
      refine rt ?_
      refine in_r ?_
      refine then_r ?_
      refine fin_r ?_
      refine ⟨congrArg (Value.int .i64) ?_, H.fr⟩
      unfold hexN; omega
     ·refine sk ?_
      refine in_n ?_
      refine then_n ?_
      refine sq ?_
      refine rg ?_
      refine asg (v := .int .i64 _) rfl rfl ?_
      refine nl ?_
      refine then_n ?_
      refine rt ?_
      refine fin_r ?_
      refine ⟨congrArg (Value.int .i64) ?_, H.fr⟩
      unfold hexN; omega
    ·refine gn rfl rfl ?_
     refine gn rfl rfl ?_
     refine pkF (v := .bool _) rfl rfl rfl ?_
     refine asg (v := .bool _) rfl rfl ?_
     refine nl ?_
     refine then_n ?_
     refine cbF rfl rfl ?_
     refine sk ?_
     refine in_n ?_
     refine then_n ?_
     refine sq ?_
     refine rg ?_
     refine asg (v := .int .i64 _) rfl rfl ?_
     refine nl ?_
     refine then_n ?_
     refine rt ?_
     refine fin_r ?_
     refine ⟨congrArg (Value.int .i64) ?_, H.fr⟩
     unfold hexN; omega
  ·refine gn rfl rfl ?_
   refine gn rfl rfl ?_
   refine pkF (v := .bool _) rfl rfl rfl ?_
   refine asg (v := .bool _) rfl rfl ?_
   refine nl ?_
   refine then_n ?_
   refine cbF rfl rfl ?_
   refine sq ?_
   refine rg ?_
   refine mv (v := .int .u8 _) rfl rfl ?_
   refine geq rfl rfl rfl ?_
   refine mv (v := .bool _) rfl rfl ?_
   refine spd (t := 27) rfl (fun hg7 => ?_) (fun hg7 => ?_)
   ·refine gy rfl ?_
    refine mv (v := .int .u8 _) rfl rfl ?_
    refine gy rfl ?_
    refine leq rfl rfl rfl ?_
    refine pkT (v := .bool _) rfl rfl rfl ?_
    refine asg (v := .bool _) rfl rfl ?_
    refine nl ?_
    refine then_n ?_
    refine cd rfl (fun hc7 => ?_) (fun hc7 => ?_)
    ·refine sq ?_
     refine rg ?_
     refine mv (v := .int .u8 _) rfl rfl ?_
     refine sub rfl rfl (by first | exact w_u8 (by omega) | exact w_u8 (rng_u8 _) | exact m_u8 _) rfl ?_
     refine cvi rfl rfl Tryz.underlying3 (by first | exact w_i64 (by omega) | exact w_i64 (rng_i64 _) | rfl) rfl ?_
     refine add rfl rfl (by first | exact w_i64 (by omega) | exact w_i64 (rng_i64 _) | rfl) rfl ?_
     refine asg (v := .int .i64 _) rfl rfl ?_
     refine nl ?_
     refine then_n ?_
     refine rt ?_
     refine in_r ?_
     refine then_r ?_
     refine fin_r ?_
     refine ⟨congrArg (Value.int .i64) ?_, H.fr⟩
     unfold hexN; omega
    ·refine sk ?_
     refine in_n ?_
     refine then_n ?_
     refine sq ?_
     refine rg ?_
     refine asg (v := .int .i64 _) rfl rfl ?_
     refine nl ?_
     refine then_n ?_
     refine rt ?_
     refine fin_r ?_
     refine ⟨congrArg (Value.int .i64) ?_, H.fr⟩
     unfold hexN; omega
   ·refine gn rfl rfl ?_
    refine gn rfl rfl ?_
    refine pkF (v := .bool _) rfl rfl rfl ?_
    refine asg (v := .bool _) rfl rfl ?_
    refine nl ?_
    refine then_n ?_
    refine cbF rfl rfl ?_
    refine sk ?_
    refine in_n ?_
    refine then_n ?_
    refine sq ?_
    refine rg ?_
    refine asg (v := .int .i64 _) rfl rfl ?_
    refine nl ?_
    refine then_n ?_
    refine rt ?_
    refine fin_r ?_
    refine ⟨congrArg (Value.int .i64) ?_, H.fr⟩
    unfold hexN; omega
set_option maxRecDepth 100000 in
set_option maxHeartbeats 2000000 in
theorem c_parse (w : World) (s : List UInt8) (hs : gOk s = true) : Calls Tryz.prog 72 #[.string (str s)] w (Ret fun v w' => v = .tuple #[.agg (Bs (parB s)).toArray, .nilIface] ∧ Fr [] w w') := by
 refine enterR [.cell 2 138, .tmp 3] Tryz.func72 rfl rfl rfl rfl ?_
 have H := SH.nil w
 have hsl := (gOk_at hs).1
 have hsz := size_str s
 have d8 : ((s.getD (Int.toNat 8) 0).toNat : Int) = 45 := dash_at hs (j := 8) (by decide) rfl
 have d13 : ((s.getD (Int.toNat 13) 0).toNat : Int) = 45 := dash_at hs (j := 13) (by decide) rfl
 have d18 : ((s.getD (Int.toNat 18) 0).toNat : Int) = 45 := dash_at hs (j := 18) (by decide) rfl
 have d23 : ((s.getD (Int.toNat 23) 0).toNat : Int) = 45 := dash_at hs (j := 23) (by decide) rfl
 refine sq ?_
 refine rg ?_
 refine al H ze138 rfl ?_
 clear H; intro b1 w1 hb1 H _
 refine asg (v := .nilIface) rfl rfl ?_
 refine nl ?_
 refine then_n ?_
 refine sq ?_
 refine sq ?_
 refine rg ?_
 refine mv (v := .string _) rfl rfl ?_
 refine lnT rfl Tryz.underlying9 rfl ?_
 refine nl ?_
 refine then_n ?_
 refine bk ?_
 refine sq ?_
 refine rg ?_
 refine eql rfl rfl rfl ?_
 refine asg (v := .bool _) rfl rfl ?_
 refine nl ?_
 refine then_n ?_
 refine cT rfl (by omega) ?_
 refine sk ?_
 refine in_n ?_
 refine then_n ?_
 refine sq ?_
 refine sq ?_
 refine rg ?_
 refine mv (v := .string _) rfl rfl ?_
 refine ixS rfl rfl Tryz.underlying9 (by first | omega | (constructor <;> simp <;> omega)) rfl ?_; intro hu1
 refine neq rfl rfl rfl ?_
 refine mv (v := .bool _) rfl rfl ?_
 refine spF (t := 82) rfl (by omega) ?_
 refine gy rfl ?_
 refine mv (v := .string _) rfl rfl ?_
 refine gy rfl ?_
 refine ixS rfl rfl Tryz.underlying9 (by first | omega | (constructor <;> simp <;> omega)) rfl ?_; intro hu2
 refine gy rfl ?_
 refine neq rfl rfl rfl ?_
 refine pkF (v := .bool _) rfl rfl rfl ?_
 refine mv (v := .bool _) rfl rfl ?_
 refine spF (t := 87) rfl (by omega) ?_
 refine gy rfl ?_
 refine mv (v := .string _) rfl rfl ?_
 refine gy rfl ?_
 refine ixS rfl rfl Tryz.underlying9 (by first | omega | (constructor <;> simp <;> omega)) rfl ?_; intro hu3
 refine gy rfl ?_
 refine neq rfl rfl rfl ?_
 refine pkF (v := .bool _) rfl rfl rfl ?_
 refine mv (v := .bool _) rfl rfl ?_
 refine spF (t := 92) rfl (by omega) ?_
 refine gy rfl ?_
 refine mv (v := .string _) rfl rfl ?_
 refine gy rfl ?_
 refine ixS rfl rfl Tryz.underlying9 (by first | omega | (constructor <;> simp <;> omega)) rfl ?_; intro hu4
 refine gy rfl ?_
 refine neq rfl rfl rfl ?_
 refine pkF (v := .bool _) rfl rfl rfl ?_
 refine nl ?_
 refine then_n ?_
 refine cF rfl (by omega) ?_
 refine sk ?_
 refine then_n ?_
 refine sq ?_
 refine sq ?_
 refine rg ?_
 refine bu (out := ?o5) ze87 bo87 ?f5 rfl ?_
 case f5 =>
  refine FL.one (v := .int .i64 _) rfl pl87_0 rfl (by first | decide | simp) ?_
  refine FL.one (v := .int .i64 _) rfl pl87_1 rfl (by first | decide | simp) ?_
  refine FL.one (v := .int .i64 _) rfl pl87_2 rfl (by first | decide | simp) ?_
  refine FL.one (v := .int .i64 _) rfl pl87_3 rfl (by first | decide | simp) ?_
  refine FL.one (v := .int .i64 _) rfl pl87_4 rfl (by first | decide | simp) ?_
  refine FL.one (v := .int .i64 _) rfl pl87_5 rfl (by first | decide | simp) ?_
  refine FL.one (v := .int .i64 _) rfl pl87_6 rfl (by first | decide | simp) ?_
  refine FL.one (v := .int .i64 _) rfl pl87_7 rfl (by first | decide | simp) ?_
  refine FL.one (v := .int .i64 _) rfl pl87_8 rfl (by first | decide | simp) ?_
  refine FL.one (v := .int .i64 _) rfl pl87_9 rfl (by first | decide | simp) ?_
  refine FL.one (v := .int .i64 _) rfl pl87_10 rfl (by first | decide | simp) ?_
  refine FL.one (v := .int .i64 _) rfl pl87_11 rfl (by first | decide | simp) ?_
  refine FL.one (v := .int .i64 _) rfl pl87_12 rfl (by first | decide | simp) ?_
  refine FL.one (v := .int .i64 _) rfl pl87_13 rfl (by first | decide | simp) ?_
  refine FL.one (v := .int .i64 _) rfl pl87_14 rfl (by first | decide | simp) ?_
  refine FL.one (v := .int .i64 _) rfl pl87_15 rfl (by first | decide | simp) ?_
  exact FL.nil
 refine mv (v := .int .i64 _) rfl rfl ?_
 refine nl ?_
 refine then_n ?_
 refine bk ?_
 refine lpM (α := Nat) [3, 7, 8, 9, 10, 100, 101, 102, 103, 104, 105, 106, 107, 108, 109, 110, 111, 112, 113, 114, 115, 116, 117, 118, 119, 120, 121, 122, 123, 124, 125, 126, 127, 128] (fun i => [(100, .int .i64 (i : Int))]) (fun i w' => i ≤ 16 ∧ SH w [] w' [⟨b1, .cells (Bs (parP s i)).toArray 138 (0, 0), true⟩]) (fun i => 16 - i) 0 ?_ (fCX (fN _)) ?_
 ·exact ⟨by omega, sh_cells0 H rfl⟩
 ·rintro i ρx w2 ⟨hi, H⟩
  refine sq ?_
  refine rg ?_
  refine lss rfl rfl rfl ?_
  refine nl ?_
  refine then_n ?_
  refine sq ?_
  refine cd rfl (fun hc3 => ?_) (fun hc3 => ?_)
  ·obtain ⟨k1, k2, k3⟩ := tpos_lt ⟨i, by omega⟩
   simp only at k1 k2 k3
   have n1 := nib_rng hs (j := tPos.getD i 0) (by omega) k2
   have n2 := nib_rng hs (j := tPos.getD i 0 + 1) (by omega) k3
   have hpl := parP_len s (i := i) (by omega)
   refine sk ?_
   refine then_n ?_
   refine sq ?_
   refine bk ?_
   refine sq ?_
   refine rg ?_
   refine mv (v := .int .i64 _) rfl rfl ?_
   refine ixV (cs := (tPos.map fun (k : Nat) => Value.int .i64 (k : Int))) (v := .int .i64 ((tPos.getD i 0 : Nat) : Int)) rfl rfl Tryz.underlying87 sc3 sz3_1 (by omega) (tpos_get (by omega)) rfl ?_
   refine asg (v := .int .i64 _) rfl rfl ?_
   refine asg (v := .int .i64 _) rfl rfl ?_
   refine nl ?_
   refine then_n ?_
   refine sq ?_
   refine dr (by kernel_rfl) ?_
   have H := H.drew
   refine hold (fun _ => True) [] ?_
   refine tk (i := 0) rfl (by kernel_rfl) rfl trivial (fun _ _ => r_mv (v := .string _) rfl) ?_
   refine tk (i := 1) rfl (by kernel_rfl) rfl trivial (fun _ _ => r_mv (v := .int .i64 _) rfl) ?_
   refine tk (i := 2) rfl (by kernel_rfl) rfl trivial (fun _ _ => r_ixS rfl rfl Tryz.underlying9 (by first | omega | (constructor <;> simp <;> omega))) ?_
   refine tk (i := 4) rfl (by kernel_rfl) rfl trivial (fun _ _ => r_mv (v := .string _) rfl) ?_
   refine tk (i := 5) rfl (by kernel_rfl) rfl trivial (fun _ _ => r_mv (v := .int .i64 _) rfl) ?_
   refine tk (i := 6) rfl (by kernel_rfl) rfl trivial (fun _ _ => r_add (c := ((tPos.getD i 0 + 1 : Nat) : Int)) rfl rfl (by rw [w_i64 (by omega)]; omega)) ?_
   refine tk (i := 7) rfl (by kernel_rfl) rfl trivial (fun _ _ => r_ixS rfl rfl Tryz.underlying9 (by first | omega | (constructor <;> simp <;> omega))) ?_
   refine unfree ?_
   refine fo (i := 3) (by kernel_rfl) rfl rfl ?_
   refine cl ca84 (c_digit _ (s.getD (tPos.getD i 0) 0)) rfl ?_
   rintro _ w3 ⟨hv1, F⟩
   obtain rfl : _ = Value.int .i64 (nib s (tPos.getD i 0)) := hv1
   replace H := H.keep F; clear F
   refine nl ?_
   refine then_n ?_
   refine fo (i := 8) (by kernel_rfl) rfl rfl ?_
   refine cl ca84 (c_digit _ (s.getD (tPos.getD i 0 + 1) 0)) rfl ?_
   rintro _ w4 ⟨hv1, F⟩
   obtain rfl : _ = Value.int .i64 (nib s (tPos.getD i 0 + 1)) := hv1
   replace H := H.keep F; clear F
   refine nl ?_
   refine then_n ?_
   refine holdH H [] ?_
   refine tk (i := 9) rfl (by kernel_rfl) rfl H (fun w' H => r_asg (v := .int .i64 _) rfl) ?_
   refine tk (i := 10) rfl (by kernel_rfl) rfl H (fun w' H => r_asg (v := .int .i64 _) rfl) ?_
   refine da (by kernel_rfl) ?_
   refine then_n ?_
   refine sq ?_
   refine sq ?_
   refine rg ?_
   refine mv (v := .int .i64 _) rfl rfl ?_
   refine lss rfl rfl rfl ?_
   refine mv (v := .bool _) rfl rfl ?_
   refine spF (t := 115) rfl (by omega) ?_
   refine gy rfl ?_
   refine mv (v := .int .i64 _) rfl rfl ?_
   refine gy rfl ?_
   refine lss rfl rfl rfl ?_
   refine pkF (v := .bool _) rfl rfl rfl ?_
   refine nl ?_
   refine then_n ?_
   refine cF rfl (by omega) ?_
   refine sk ?_
   refine then_n ?_
   refine rg ?_
   refine mv (v := .int .i64 _) rfl rfl ?_
   refine mv (v := .int .i64 _) rfl rfl ?_
   refine shlK (s := 4) (p := 16) rfl rfl (by decide) (by decide) (by first | exact w_i64 (by omega) | exact w_i64 (rng_i64 _) | rfl) rfl ?_
   refine mv (v := .int .i64 _) rfl rfl ?_
   refine bor (c := nib s (tPos.getD i 0) * 16 + nib s (tPos.getD i 0 + 1)) rfl rfl (or_i64 n1 n2) rfl ?_
   refine cvi rfl rfl Tryz.underlying5 (by first | exact w_u8 (by omega) | exact w_u8 (rng_u8 _) | exact m_u8 _) rfl ?_
   refine iyN (i) rfl rfl Tryz.underlying138 sz5_1 (by omega) (by omega) rfl ?_
   refine stb H rfl rfl sc5 (by omega) (by first | decide | (simp only [List.length_set, List.length_cons, List.length_nil, List.length_replicate, List.length_append, Bs_length]; omega) | omega) (by omega) ?_
   clear H; intro w5 H _
   refine nl ?_
   refine in_n ?_
   refine then_n ?_
   refine rg ?_
   refine add rfl rfl (by first | exact w_i64 (by omega) | exact w_i64 (rng_i64 _) | rfl) rfl ?_
   refine mv (v := .int .i64 _) rfl rfl ?_
   refine nl ?_
   refine loop_n ?_
   exact ⟨i + 1, (by (try dsimp only); omega), ⟨by omega, sh_cells0 H (congrArg Bs (parP_step s (by omega)))⟩, (fCX (fN _)), agX⟩
  ·obtain rfl : i = 16 := by omega
   rw [parP_end] at H
   refine ex ?_
   refine then_e ?_
   refine loop_e ?_
   refine in_hit rfl ?_
   refine then_n ?_
   refine sq ?_
   refine rg ?_
   refine la (vs := Bs (parB s)) H rfl ag138_16 rfl rfl rfl ?_
   refine sa (cs' := Bs (parB s)) H rfl rfl ag138_16 rfl (List.all_eq_true.2 Bs_one) (by show 0 + 16 ≤ 16; decide) (by omega) (List.append_nil _) ?_
   clear H; intro w93 H _
   refine asg (v := .nilIface) rfl rfl ?_
   refine nl ?_
   refine then_n ?_
   refine rt ?_
   refine finR_r ?_
   exact ⟨[_, _], ⟨finC rfl (H.look (b := b1)) ag138_16, rfl, trivial⟩, rfl, H.fr⟩
end Go.Proofs.YthcaejaaalkglaaGreatDoor.X
/- Walks of functions, printed by a program of this claim. -/
namespace Go.Proofs.YthcaejaaalkglaaGreatDoor.X
set_option linter.unusedVariables false
set_option linter.unusedSimpArgs false
open Go Go.RowKit
namespace PF
theorem ca72 : callable Tryz.prog 72 = true := by kernel_rfl
end PF
open PF
set_option maxRecDepth 100000 in
set_option maxHeartbeats 2000000 in
theorem c_initEntry (w : World) (b n : Nat) (p : GP) (y1 y2 : Value) (hp : w.heap[b]? = some (.cells (p.cells ++ [y1, y2]).toArray 126 (0, 0))) (hg : p.good n) (hn : n ≤ 1000000) : Calls Tryz.prog 76 #[.pointer (some ⟨b, 0, none⟩), .int .u64 512] w (Ret fun v w' => v = .nilIface ∧ Fr [b] w w' ∧ w'.heap[b]? = some (.cells ((upG p).cells ++ [y1, y2]).toArray 126 (0, 0))) := by
 refine enter (fun ρ => ρ 4) Tryz.func76 rfl rfl rfl (res1 rfl) ?_
 have H := SH.rw1 hp
 have e1 := hg.st
 have e2 := hg.en
 have e3 := hg.la
 have e4 := hg.sz
 refine sq ?_
 refine rg ?_
 refine asg (v := .nilIface) rfl rfl ?_
 refine nl ?_
 refine then_n ?_
 refine sq ?_
 refine rg ?_
 refine mv (v := .pointer _) rfl rfl ?_
 refine asg (v := .pointer _) rfl rfl ?_
 refine nl ?_
 refine then_n ?_
 refine sq ?_
 refine sq ?_
 refine rg ?_
 refine mv (v := .pointer _) rfl rfl ?_
 refine nc rfl rfl ?_
 refine fa rfl fo126_4 rfl ?_
 refine ld H rfl sc124 rfl rfl ?_
 refine eqlT rfl rfl rfl ?_
 refine nl ?_
 refine then_n ?_
 refine cF rfl (ty_ne hg.ty hg.tz) ?_
 refine sk ?_
 refine then_n ?_
 refine sq ?_
 refine rg ?_
 refine al H ze138 rfl ?_
 clear H; intro b1 w1 hb1 H _
 refine nl ?_
 refine then_n ?_
 refine sq ?_
 refine sq ?_
 refine rg ?_
 refine mv (v := .pointer _) rfl rfl ?_
 refine nc rfl rfl ?_
 refine fa rfl fo126_6 rfl ?_
 refine ld H rfl sc9 rfl rfl ?_
 refine eqlT rfl rfl rfl ?_
 refine nl ?_
 refine then_n ?_
 refine cF rfl (gu_ne hg.gu) ?_
 refine sq ?_
 refine rg ?_
 refine asg (v := .nilIface) rfl rfl ?_
 refine nl ?_
 refine then_n ?_
 refine sq ?_
 refine rg ?_
 refine mv (v := .pointer _) rfl rfl ?_
 refine nc rfl rfl ?_
 refine fa rfl fo126_6 rfl ?_
 refine ld H rfl sc9 rfl rfl ?_
 refine cl ca72 (c_parse _ p.gu hg.gu) rfl ?_
 rintro _ w2 ⟨rfl, F⟩
 replace H := H.keep F; clear F
 refine mv (v := .tuple _) rfl rfl ?_
 refine xt rfl rfl rfl ?_
 refine xt rfl rfl rfl ?_
 refine sa (cs' := Bs (parB p.gu)) H rfl rfl ag138_16 rfl (List.all_eq_true.2 Bs_one) (by show 0 + 16 ≤ 16; decide) (by omega) (List.append_nil _) ?_
 clear H; intro w91 H _
 refine asg (v := .nilIface) rfl rfl ?_
 refine nl ?_
 refine then_n ?_
 refine sq ?_
 refine rg ?_
 refine mv (v := .nilIface) rfl rfl ?_
 refine neqI0 rfl Tryz.underlying73 rfl ?_
 refine nl ?_
 refine then_n ?_
 refine cbF rfl rfl ?_
 refine sk ?_
 refine then_n ?_
 refine sq ?_
 refine rg ?_
 refine mv (v := .pointer _) rfl rfl ?_
 refine la (vs := Bs (parB p.gu)) H rfl ag138_16 rfl rfl rfl ?_
 refine cl ca66 (c_uuString _ (parB p.gu) rfl) rfl ?_
 rintro _ w3 ⟨rfl, F⟩
 replace H := H.keep F; clear F
 refine cl ca86 (c_upper _ (sT (parB p.gu)) (by have := sTp_len (parB p.gu) 16; unfold sT; omega)) rfl ?_
 rintro _ w4 ⟨rfl, F⟩
 replace H := H.keep F; clear F
 rw [spelt hg.gu]
 refine nc rfl rfl ?_
 refine fa rfl fo126_6 rfl ?_
 refine st (v := .string _) H rfl rfl sc9 rfl (by show 0 + 6 < 10; decide) (by omega) ?_
 clear H; intro w92 H _
 refine nl ?_
 refine then_n ?_
 refine sq ?_
 refine dr (by kernel_rfl) ?_
 have H := H.drew
 refine hold (fun _ => True) [] ?_
 refine tk (i := 0) rfl (by kernel_rfl) rfl trivial (fun _ _ => r_mv (v := .pointer _) rfl) ?_
 refine tk (i := 1) rfl (by kernel_rfl) rfl trivial (fun _ _ => r_nc rfl) ?_
 refine tk (i := 2) rfl (by kernel_rfl) rfl trivial (fun _ _ => r_fa rfl fo126_3) ?_
 refine tk (i := 4) rfl (by kernel_rfl) rfl trivial (fun _ _ => r_mv (v := .pointer _) rfl) ?_
 refine tk (i := 5) rfl (by kernel_rfl) rfl trivial (fun _ _ => r_nc rfl) ?_
 refine tk (i := 6) rfl (by kernel_rfl) rfl trivial (fun _ _ => r_fa rfl fo126_1) ?_
 refine tk (i := 8) rfl (by kernel_rfl) rfl trivial (fun _ _ => r_mv (v := .pointer _) rfl) ?_
 refine tk (i := 9) rfl (by kernel_rfl) rfl trivial (fun _ _ => r_nc rfl) ?_
 refine tk (i := 10) rfl (by kernel_rfl) rfl trivial (fun _ _ => r_fa rfl fo126_2) ?_
 refine unfree ?_
 refine holdH H [] ?_
 refine tk (i := 3) rfl (by kernel_rfl) rfl H (fun w' H => r_ld H rfl sc28 rfl) ?_
 refine tk (i := 7) rfl (by kernel_rfl) rfl H (fun w' H => r_ld H rfl sc28 rfl) ?_
 refine tk (i := 11) rfl (by kernel_rfl) rfl H (fun w' H => r_ld H rfl sc28 rfl) ?_
 refine tk (i := 12) rfl (by kernel_rfl) rfl H (fun w' H => r_asg (v := .int .u64 _) rfl) ?_
 refine tk (i := 13) rfl (by kernel_rfl) rfl H (fun w' H => r_asg (v := .int .u64 _) rfl) ?_
 refine tk (i := 14) rfl (by kernel_rfl) rfl H (fun w' H => r_asg (v := .int .u64 _) rfl) ?_
 refine da (by kernel_rfl) ?_
 refine then_n ?_
 refine sq ?_
 refine rg ?_
 refine mv (v := .int .u64 _) rfl rfl ?_
 refine mv (v := .int .u64 _) rfl rfl ?_
 refine sub rfl rfl (by first | exact w_u64 (by omega) | exact w_u64 (rng_u64 _) | exact m_u64 _) rfl ?_
 refine add rfl rfl (by first | exact w_u64 (by omega) | exact w_u64 (rng_u64 _) | exact m_u64 _) rfl ?_
 refine mv (v := .int .u64 _) rfl rfl ?_
 refine mul rfl rfl (by first | exact w_u64 (by omega) | exact w_u64 (rng_u64 _) | exact m_u64 _) rfl ?_
 refine asg (v := .int .u64 _) rfl rfl ?_
 refine nl ?_
 refine then_n ?_
 refine sq ?_
 refine bk ?_
 refine sq ?_
 refine rg ?_
 refine mv (v := .int .u64 _) rfl rfl ?_
 refine eql rfl rfl rfl ?_
 refine asg (v := .bool _) rfl rfl ?_
 refine nl ?_
 refine then_n ?_
 refine cF rfl (by omega) ?_
 refine sq ?_
 refine rg ?_
 refine mv (v := .int .u64 _) rfl rfl ?_
 refine mv (v := .int .u64 _) rfl rfl ?_
 refine geq rfl rfl rfl ?_
 refine mv (v := .bool _) rfl rfl ?_
 refine spT (t := 71) rfl (by omega) ?_
 refine gy rfl ?_
 refine mv (v := .int .u64 _) rfl rfl ?_
 refine gy rfl ?_
 refine mv (v := .int .u64 _) rfl rfl ?_
 refine gy rfl ?_
 refine eql rfl rfl rfl ?_
 refine pkT (v := .bool _) rfl rfl rfl ?_
 refine asg (v := .bool _) rfl rfl ?_
 refine nl ?_
 refine then_n ?_
 refine cT rfl (by omega) ?_
 refine sk ?_
 refine in_n ?_
 refine then_n ?_
 refine sq ?_
 refine rg ?_
 refine asg (v := .nilIface) rfl rfl ?_
 refine nl ?_
 refine then_n ?_
 refine rt ?_
 refine fin_r ?_
 exact ⟨rfl, H.fr, H.look (b := b)⟩
end Go.Proofs.YthcaejaaalkglaaGreatDoor.X
/- Numbers put into bytes; units of runes. -/
namespace Go.Proofs.YthcaejaaalkglaaGreatDoor.X
set_option linter.unusedVariables false
set_option linter.unusedSimpArgs false
open Go Go.RowKit
theorem put2 (cur : List UInt8) (o : Nat) (x : Int) (h : 0 ≤ x ∧ x ≤ 65535) : setsL cur o (leB 2 x) = (cur.set (o + (0 : Int).toNat * 1) (b8 (x % 256))).set (o + (1 : Int).toNat * 1) (b8 (x / 256)) := by
 rw [show x / 256 = x / 256 % 256 by omega]
 rfl
theorem put8 (cur : List UInt8) (o : Nat) (x : Int) (h : 0 ≤ x ∧ x ≤ 18446744073709551615) : setsL cur o (leB 8 x) = (((((((cur.set (o + (0 : Int).toNat * 1) (b8 (x % 256))).set (o + (1 : Int).toNat * 1) (b8 (x / 256 % 256))).set (o + (2 : Int).toNat * 1) (b8 (x / 65536 % 256))).set (o + (3 : Int).toNat * 1) (b8 (x / 16777216 % 256))).set (o + (4 : Int).toNat * 1) (b8 (x / 4294967296 % 256))).set (o + (5 : Int).toNat * 1) (b8 (x / 1099511627776 % 256))).set (o + (6 : Int).toNat * 1) (b8 (x / 281474976710656 % 256))).set (o + (7 : Int).toNat * 1) (b8 (x / 72057594037927936)) := by
 rw [show x / 65536 = x / 256 / 256 by omega, show x / 16777216 = x / 256 / 256 / 256 by omega, show x / 4294967296 = x / 256 / 256 / 256 / 256 by omega, show x / 1099511627776 = x / 256 / 256 / 256 / 256 / 256 by omega, show x / 281474976710656 = x / 256 / 256 / 256 / 256 / 256 / 256 by omega, show x / 72057594037927936 = x / 256 / 256 / 256 / 256 / 256 / 256 / 256 % 256 by omega]
 rfl
def R32 (w : World) (A : Option Addr) (n : Nat) (cs : List Nat) : Prop := cs.length = n ∧ ∀ (i : Nat) (c : Nat), cs[i]? = some c → ∃ ad, A = some ad ∧ w.cell? (ad.add i) = some (.int .i32 (c : Int))
theorem R32.keep {w w' : World} {A : Option Addr} {n : Nat} {cs : List Nat} (h : R32 w A n cs) (f : Fr [] w w') : R32 w' A n cs :=
 ⟨h.1, fun i c hc => by obtain ⟨ad, e, h2⟩ := h.2 i c hc; exact ⟨ad, e, f.cell h2 (by simp)⟩⟩
theorem OR.r32 {e : TypeId} {w0 : World} {S : List Nat} {w : World} {L : List Ent} {A : Option Addr} {n cap : Nat} {cs : List Nat} (O : OR e 1 w0 S w L A n cap (cs.map fun (c : Nat) => Value.int .i32 (c : Int))) : R32 w A n cs := by
 have hl : cs.length = n := by have := O.len; simpa using this
 refine ⟨hl, fun i c hc => ?_⟩
 have hi := (List.getElem?_eq_some_iff.1 hc).1
 obtain ⟨ad, rfl⟩ := O.some_of (by omega)
 exact ⟨ad, rfl, O.one (by rw [List.getElem?_map, hc]; rfl)⟩
def UZ (us : List Int) (n : Nat) : List Value := (us ++ List.replicate (n - us.length) 0).map (Value.int .u16)
theorem UZ_set {us : List Int} {n : Nat} {v : Int} {k : Nat} (hk : k = us.length) (h : us.length < n) : (UZ us n).set k (.int .u16 v) = UZ (us ++ [v]) n := by
 subst hk
 unfold UZ
 rw [← List.map_set, List.set_append_right _ _ (Nat.le_refl _), Nat.sub_self, show n - us.length = (n - (us ++ [v]).length) + 1 by simp; omega, List.replicate_succ, List.set_cons_zero, List.append_assoc]
 rfl
theorem UZ_len {us : List Int} {n : Nat} (h : us.length ≤ n) : (UZ us n).length = n := by
 unfold UZ; rw [List.length_map, List.length_append, List.length_replicate]; omega
theorem UZ_zero (n : Nat) : UZ [] n = List.replicate n (.int .u16 0) := by unfold UZ; simp
theorem UZ_full {us : List Int} {n : Nat} (h : us.length = n) : UZ us n = us.map (Value.int .u16) := by unfold UZ; simp [h]
theorem flat_take {cs : List Nat} {i : Nat} {c : Nat} (h : cs[i]? = some c) : (cs.take (i + 1)).flatMap u16 = (cs.take i).flatMap u16 ++ u16 c := by
 rw [take_succ_get h, List.flatMap_append]; simp
theorem flat_le {cs : List Nat} {i : Nat} {c : Nat} (h : cs[i]? = some c) : ((cs.take i).flatMap u16).length + (u16 c).length ≤ (cs.flatMap u16).length := by
 have e : cs.flatMap u16 = (cs.take (i + 1)).flatMap u16 ++ (cs.drop (i + 1)).flatMap u16 := by rw [← List.flatMap_append, List.take_append_drop]
 rw [e, flat_take h, List.length_append, List.length_append]; omega
theorem u16_big {c : Nat} (h : 65536 ≤ c) : u16 c = [55296 + ((c : Int) - 65536) / 1024, 56320 + ((c : Int) - 65536) % 1024] := by
 unfold u16; rw [if_pos h]
 congr 1
 ·omega
 ·congr 1; omega
theorem u16_small {c : Nat} (h : ¬ 65536 ≤ c) : u16 c = [(c : Int)] := by unfold u16; rw [if_neg h]
theorem runes_len : ∀ (n : Nat) (s : List UInt8), s.length ≤ n → (runes s).length ≤ (utf16 s).length ∧ (runes s).length ≤ s.length
 | 0, s, h => by
  have : s = [] := List.eq_nil_of_length_eq_zero (by omega)
  subst this; simp [runes_nil]
 | n + 1, s, h => by
  by_cases he : s = []
  ·subst he; simp [runes_nil]
  ·have h1 := rune1_ok he
   have ih := runes_len n (s.drop (rune1 s).2) (by rw [List.length_drop]; have := h1.1; omega)
   have hu : utf16 s = u16 (rune1 s).1 ++ utf16 (s.drop (rune1 s).2) := by
    unfold utf16; rw [runes_cons he, List.flatMap_cons]
   have hl : 1 ≤ (u16 (rune1 s).1).length := by unfold u16; split <;> simp
   rw [runes_cons he, hu, List.length_append, List.length_cons]
   rw [List.length_drop] at ih
   have := h1.1; have := h1.2.1
   omega
theorem pad_at {p : GP} (h : p.fits) : pAt (List.replicate 128 0) 0 (entH p ++ (utf16 p.nm).flatMap (leB 2)) = padE p := by
 have hl := entB_le h
 have e : entH p ++ (utf16 p.nm).flatMap (leB 2) = entB p := rfl
 rw [e]
 unfold pAt padE
 rw [List.take_zero, List.nil_append, Nat.zero_add, List.drop_replicate]
theorem rune_next {bs : List UInt8} {us : List Nat} {pos : Nat} (h : runes bs = us ++ runes (bs.drop pos)) (hlt : pos < bs.length) : runes bs = (us ++ [(rune1 (bs.drop pos)).1]) ++ runes (bs.drop (pos + (rune1 (bs.drop pos)).2)) := by
 rw [h, runes_at hlt, List.append_assoc]; rfl
end Go.Proofs.YthcaejaaalkglaaGreatDoor.X
/- Walks of functions, printed by a program of this claim. -/
namespace Go.Proofs.YthcaejaaalkglaaGreatDoor.X
set_option linter.unusedVariables false
set_option linter.unusedSimpArgs false
open Go Go.RowKit
namespace PF
theorem ca96 : callable Tryz.prog 96 = true := by kernel_rfl
theorem ca97 : callable Tryz.prog 97 = true := by kernel_rfl
theorem sc21 : scalarB Tryz.prog 21 = true := by kernel_rfl
end PF
open PF
set_option maxRecDepth 100000 in
set_option maxHeartbeats 2000000 in
theorem c_PutUint16 (w : World) (b o n c : Nat) (x : Int) (T : TypeId) (cur : List UInt8) (hb : w.heap[b]? = some (.cells (Bs cur).toArray T (0, 0))) (hn : 2 ≤ n) (ho : o + n ≤ cur.length) (hx : 0 ≤ x ∧ x ≤ 65535) : Calls Tryz.prog 88 #[.agg #[], .slice (some ⟨b, o, none⟩) n c, .int .u16 x] w (Ret fun v w' => v = .tuple #[] ∧ (pAt cur o (leB 2 x)).length = cur.length ∧ Fr [b] w w' ∧ w'.heap[b]? = some (.cells (Bs (pAt cur o (leB 2 x))).toArray T (0, 0))) := by
 refine enter (fun _ => .tuple #[]) Tryz.func88 rfl rfl rfl (res0 rfl) ?_
 have H := SH.rw1 hb
 refine sq ?_
 refine rg ?_
 refine bx (v := .agg _) H rfl rfl rfl ?_
 clear H; intro b1 w1 hb1 H _
 refine nl ?_
 refine then_n ?_
 refine sq ?_
 refine rg ?_
 refine mv (v := .slice _ _ _) rfl rfl ?_
 refine ia rfl rfl Tryz.underlying30 sz5_1 (by omega) rfl ?_
 (refine ldb H rfl sc5 (by omega) rfl ?_; intro hu1)
 refine nl ?_
 refine then_n ?_
 refine sq ?_
 refine rg ?_
 refine mv (v := .slice _ _ _) rfl rfl ?_
 refine mv (v := .int .u16 _) rfl rfl ?_
 refine cvi rfl rfl Tryz.underlying5 (by first | exact w_u8 (by omega) | exact w_u8 (rng_u8 _) | exact m_u8 _) rfl ?_
 refine ia rfl rfl Tryz.underlying30 sz5_1 (by omega) rfl ?_
 refine stb H rfl rfl sc5 (by omega) (by first | decide | (simp only [List.length_set, List.length_cons, List.length_nil, List.length_replicate, List.length_append, Bs_length]; omega) | omega) (by omega) ?_
 clear H; intro w2 H _
 refine nl ?_
 refine then_n ?_
 refine rg ?_
 refine mv (v := .slice _ _ _) rfl rfl ?_
 refine mv (v := .int .u16 _) rfl rfl ?_
 refine shrK (s := 8) (p := 256) rfl rfl (by decide) (by decide) rfl rfl ?_
 refine cvi rfl rfl Tryz.underlying5 (by first | exact w_u8 (by omega) | exact w_u8 (rng_u8 _) | exact m_u8 _) rfl ?_
 refine ia rfl rfl Tryz.underlying30 sz5_1 (by omega) rfl ?_
 refine stb H rfl rfl sc5 (by omega) (by first | decide | (simp only [List.length_set, List.length_cons, List.length_nil, List.length_replicate, List.length_append, Bs_length]; omega) | omega) (by omega) ?_
 clear H; intro w3 H _
 refine nl ?_
 refine fin_n ?_
 refine ⟨rfl, pAt_len (by rw [leB_len]; omega), H.fr, ?_⟩
 have e := H.look (b := b)
 have e1 := setsL_eq (cur := cur) (es := leB 2 x) (o := o) (by rw [leB_len]; omega)
 rw [← e1, put2 _ _ _ hx]
 exact e
set_option maxRecDepth 100000 in
set_option maxHeartbeats 2000000 in
theorem c_PutUint32 (w : World) (b o n c : Nat) (x : Int) (T : TypeId) (cur : List UInt8) (hb : w.heap[b]? = some (.cells (Bs cur).toArray T (0, 0))) (hn : 4 ≤ n) (ho : o + n ≤ cur.length) (hx : 0 ≤ x ∧ x ≤ 4294967295) : Calls Tryz.prog 74 #[.agg #[], .slice (some ⟨b, o, none⟩) n c, .int .u32 x] w (Ret fun v w' => v = .tuple #[] ∧ (pAt cur o (leB 4 x)).length = cur.length ∧ Fr [b] w w' ∧ w'.heap[b]? = some (.cells (Bs (pAt cur o (leB 4 x))).toArray T (0, 0))) := by
 refine enter (fun _ => .tuple #[]) Tryz.func74 rfl rfl rfl (res0 rfl) ?_
 have H := SH.rw1 hb
 refine sq ?_
 refine rg ?_
 refine bx (v := .agg _) H rfl rfl rfl ?_
 clear H; intro b1 w1 hb1 H _
 refine nl ?_
 refine then_n ?_
 refine sq ?_
 refine rg ?_
 refine mv (v := .slice _ _ _) rfl rfl ?_
 refine ia rfl rfl Tryz.underlying30 sz5_1 (by omega) rfl ?_
 (refine ldb H rfl sc5 (by omega) rfl ?_; intro hu1)
 refine nl ?_
 refine then_n ?_
 refine sq ?_
 refine rg ?_
 refine mv (v := .slice _ _ _) rfl rfl ?_
 refine mv (v := .int .u32 _) rfl rfl ?_
 refine cvi rfl rfl Tryz.underlying5 (by first | exact w_u8 (by omega) | exact w_u8 (rng_u8 _) | exact m_u8 _) rfl ?_
 refine ia rfl rfl Tryz.underlying30 sz5_1 (by omega) rfl ?_
 refine stb H rfl rfl sc5 (by omega) (by first | decide | (simp only [List.length_set, List.length_cons, List.length_nil, List.length_replicate, List.length_append, Bs_length]; omega) | omega) (by omega) ?_
 clear H; intro w2 H _
 refine nl ?_
 refine then_n ?_
 refine sq ?_
 refine rg ?_
 refine mv (v := .slice _ _ _) rfl rfl ?_
 refine mv (v := .int .u32 _) rfl rfl ?_
 refine shrK (s := 8) (p := 256) rfl rfl (by decide) (by decide) rfl rfl ?_
 refine cvi rfl rfl Tryz.underlying5 (by first | exact w_u8 (by omega) | exact w_u8 (rng_u8 _) | exact m_u8 _) rfl ?_
 refine ia rfl rfl Tryz.underlying30 sz5_1 (by omega) rfl ?_
 refine stb H rfl rfl sc5 (by omega) (by first | decide | (simp only [List.length_set, List.length_cons, List.length_nil, List.length_replicate, List.length_append, Bs_length]; omega) | omega) (by omega) ?_
 clear H; intro w3 H _
 refine nl ?_
 refine then_n ?_
 refine sq ?_
 refine rg ?_
 refine mv (v := .slice _ _ _) rfl rfl ?_
 refine mv (v := .int .u32 _) rfl rfl ?_
 refine shrK (s := 16) (p := 65536) rfl rfl (by decide) (by decide) rfl rfl ?_
 refine cvi rfl rfl Tryz.underlying5 (by first | exact w_u8 (by omega) | exact w_u8 (rng_u8 _) | exact m_u8 _) rfl ?_
 refine ia rfl rfl Tryz.underlying30 sz5_1 (by omega) rfl ?_
 refine stb H rfl rfl sc5 (by omega) (by first | decide | (simp only [List.length_set, List.length_cons, List.length_nil, List.length_replicate, List.length_append, Bs_length]; omega) | omega) (by omega) ?_
 clear H; intro w4 H _
 refine nl ?_
 refine then_n ?_
 refine rg ?_
 refine mv (v := .slice _ _ _) rfl rfl ?_
 refine mv (v := .int .u32 _) rfl rfl ?_
 refine shrK (s := 24) (p := 16777216) rfl rfl (by decide) (by decide) rfl rfl ?_
 refine cvi rfl rfl Tryz.underlying5 (by first | exact w_u8 (by omega) | exact w_u8 (rng_u8 _) | exact m_u8 _) rfl ?_
 refine ia rfl rfl Tryz.underlying30 sz5_1 (by omega) rfl ?_
 refine stb H rfl rfl sc5 (by omega) (by first | decide | (simp only [List.length_set, List.length_cons, List.length_nil, List.length_replicate, List.length_append, Bs_length]; omega) | omega) (by omega) ?_
 clear H; intro w5 H _
 refine nl ?_
 refine fin_n ?_
 refine ⟨rfl, pAt_len (by rw [leB_len]; omega), H.fr, ?_⟩
 have e := H.look (b := b)
 have e1 := setsL_eq (cur := cur) (es := leB 4 x) (o := o) (by rw [leB_len]; omega)
 rw [← e1, put4 _ _ _ hx]
 exact e
set_option maxRecDepth 100000 in
set_option maxHeartbeats 2000000 in
theorem c_PutUint64 (w : World) (b o n c : Nat) (x : Int) (T : TypeId) (cur : List UInt8) (hb : w.heap[b]? = some (.cells (Bs cur).toArray T (0, 0))) (hn : 8 ≤ n) (ho : o + n ≤ cur.length) (hx : 0 ≤ x ∧ x ≤ 18446744073709551615) : Calls Tryz.prog 71 #[.agg #[], .slice (some ⟨b, o, none⟩) n c, .int .u64 x] w (Ret fun v w' => v = .tuple #[] ∧ (pAt cur o (leB 8 x)).length = cur.length ∧ Fr [b] w w' ∧ w'.heap[b]? = some (.cells (Bs (pAt cur o (leB 8 x))).toArray T (0, 0))) := by
 refine enter (fun _ => .tuple #[]) Tryz.func71 rfl rfl rfl (res0 rfl) ?_
 have H := SH.rw1 hb
 refine sq ?_
 refine rg ?_
 refine bx (v := .agg _) H rfl rfl rfl ?_
 clear H; intro b1 w1 hb1 H _
 refine nl ?_
 refine then_n ?_
 refine sq ?_
 refine rg ?_
 refine mv (v := .slice _ _ _) rfl rfl ?_
 refine ia rfl rfl Tryz.underlying30 sz5_1 (by omega) rfl ?_
 (refine ldb H rfl sc5 (by omega) rfl ?_; intro hu1)
 refine nl ?_
 refine then_n ?_
 refine sq ?_
 refine rg ?_
 refine mv (v := .slice _ _ _) rfl rfl ?_
 refine mv (v := .int .u64 _) rfl rfl ?_
 refine cvi rfl rfl Tryz.underlying5 (by first | exact w_u8 (by omega) | exact w_u8 (rng_u8 _) | exact m_u8 _) rfl ?_
 refine ia rfl rfl Tryz.underlying30 sz5_1 (by omega) rfl ?_
 refine stb H rfl rfl sc5 (by omega) (by first | decide | (simp only [List.length_set, List.length_cons, List.length_nil, List.length_replicate, List.length_append, Bs_length]; omega) | omega) (by omega) ?_
 clear H; intro w2 H _
 refine nl ?_
 refine then_n ?_
 refine sq ?_
 refine rg ?_
 refine mv (v := .slice _ _ _) rfl rfl ?_
 refine mv (v := .int .u64 _) rfl rfl ?_
 refine shrK (s := 8) (p := 256) rfl rfl (by decide) (by decide) rfl rfl ?_
 refine cvi rfl rfl Tryz.underlying5 (by first | exact w_u8 (by omega) | exact w_u8 (rng_u8 _) | exact m_u8 _) rfl ?_
 refine ia rfl rfl Tryz.underlying30 sz5_1 (by omega) rfl ?_
 refine stb H rfl rfl sc5 (by omega) (by first | decide | (simp only [List.length_set, List.length_cons, List.length_nil, List.length_replicate, List.length_append, Bs_length]; omega) | omega) (by omega) ?_
 clear H; intro w3 H _
 refine nl ?_
 refine then_n ?_
 refine sq ?_
 refine rg ?_
 refine mv (v := .slice _ _ _) rfl rfl ?_
 refine mv (v := .int .u64 _) rfl rfl ?_
 refine shrK (s := 16) (p := 65536) rfl rfl (by decide) (by decide) rfl rfl ?_
 refine cvi rfl rfl Tryz.underlying5 (by first | exact w_u8 (by omega) | exact w_u8 (rng_u8 _) | exact m_u8 _) rfl ?_
 refine ia rfl rfl Tryz.underlying30 sz5_1 (by omega) rfl ?_
 refine stb H rfl rfl sc5 (by omega) (by first | decide | (simp only [List.length_set, List.length_cons, List.length_nil, List.length_replicate, List.length_append, Bs_length]; omega) | omega) (by omega) ?_
 clear H; intro w4 H _
 refine nl ?_
 refine then_n ?_
 refine sq ?_
 refine rg ?_
 refine mv (v := .slice _ _ _) rfl rfl ?_
 refine mv (v := .int .u64 _) rfl rfl ?_
 refine shrK (s := 24) (p := 16777216) rfl rfl (by decide) (by decide) rfl rfl ?_
 refine cvi rfl rfl Tryz.underlying5 (by first | exact w_u8 (by omega) | exact w_u8 (rng_u8 _) | exact m_u8 _) rfl ?_
 refine ia rfl rfl Tryz.underlying30 sz5_1 (by omega) rfl ?_
 refine stb H rfl rfl sc5 (by omega) (by first | decide | (simp only [List.length_set, List.length_cons, List.length_nil, List.length_replicate, List.length_append, Bs_length]; omega) | omega) (by omega) ?_
 clear H; intro w5 H _
 refine nl ?_
 refine then_n ?_
 refine sq ?_
 refine rg ?_
 refine mv (v := .slice _ _ _) rfl rfl ?_
 refine mv (v := .int .u64 _) rfl rfl ?_
 refine shrK (s := 32) (p := 4294967296) rfl rfl (by decide) (by decide) rfl rfl ?_
 refine cvi rfl rfl Tryz.underlying5 (by first | exact w_u8 (by omega) | exact w_u8 (rng_u8 _) | exact m_u8 _) rfl ?_
 refine ia rfl rfl Tryz.underlying30 sz5_1 (by omega) rfl ?_
 refine stb H rfl rfl sc5 (by omega) (by first | decide | (simp only [List.length_set, List.length_cons, List.length_nil, List.length_replicate, List.length_append, Bs_length]; omega) | omega) (by omega) ?_
 clear H; intro w6 H _
 refine nl ?_
 refine then_n ?_
 refine sq ?_
 refine rg ?_
 refine mv (v := .slice _ _ _) rfl rfl ?_
 refine mv (v := .int .u64 _) rfl rfl ?_
 refine shrK (s := 40) (p := 1099511627776) rfl rfl (by decide) (by decide) rfl rfl ?_
 refine cvi rfl rfl Tryz.underlying5 (by first | exact w_u8 (by omega) | exact w_u8 (rng_u8 _) | exact m_u8 _) rfl ?_
 refine ia rfl rfl Tryz.underlying30 sz5_1 (by omega) rfl ?_
 refine stb H rfl rfl sc5 (by omega) (by first | decide | (simp only [List.length_set, List.length_cons, List.length_nil, List.length_replicate, List.length_append, Bs_length]; omega) | omega) (by omega) ?_
 clear H; intro w7 H _
 refine nl ?_
 refine then_n ?_
 refine sq ?_
 refine rg ?_
 refine mv (v := .slice _ _ _) rfl rfl ?_
 refine mv (v := .int .u64 _) rfl rfl ?_
 refine shrK (s := 48) (p := 281474976710656) rfl rfl (by decide) (by decide) rfl rfl ?_
 refine cvi rfl rfl Tryz.underlying5 (by first | exact w_u8 (by omega) | exact w_u8 (rng_u8 _) | exact m_u8 _) rfl ?_
 refine ia rfl rfl Tryz.underlying30 sz5_1 (by omega) rfl ?_
 refine stb H rfl rfl sc5 (by omega) (by first | decide | (simp only [List.length_set, List.length_cons, List.length_nil, List.length_replicate, List.length_append, Bs_length]; omega) | omega) (by omega) ?_
 clear H; intro w8 H _
 refine nl ?_
 refine then_n ?_
 refine rg ?_
 refine mv (v := .slice _ _ _) rfl rfl ?_
 refine mv (v := .int .u64 _) rfl rfl ?_
 refine shrK (s := 56) (p := 72057594037927936) rfl rfl (by decide) (by decide) rfl rfl ?_
 refine cvi rfl rfl Tryz.underlying5 (by first | exact w_u8 (by omega) | exact w_u8 (rng_u8 _) | exact m_u8 _) rfl ?_
 refine ia rfl rfl Tryz.underlying30 sz5_1 (by omega) rfl ?_
 refine stb H rfl rfl sc5 (by omega) (by first | decide | (simp only [List.length_set, List.length_cons, List.length_nil, List.length_replicate, List.length_append, Bs_length]; omega) | omega) (by omega) ?_
 clear H; intro w9 H _
 refine nl ?_
 refine fin_n ?_
 refine ⟨rfl, pAt_len (by rw [leB_len]; omega), H.fr, ?_⟩
 have e := H.look (b := b)
 have e1 := setsL_eq (cur := cur) (es := leB 8 x) (o := o) (by rw [leB_len]; omega)
 rw [← e1, put8 _ _ _ hx]
 exact e
set_option maxRecDepth 100000 in
set_option maxHeartbeats 1000000 in
theorem c_runeLen (w : World) (c : Nat) (hc : c < 55296 ∨ (57343 < c ∧ c ≤ 1114111)) : Calls Tryz.prog 96 #[.int .i32 (c : Int)] w (Ret fun v w' => v = .int .i64 ((u16 c).length : Int) ∧ Fr [] w w') := by
 refine enter (fun ρ => ρ 2) Tryz.func96 rfl rfl rfl (res1 rfl) ?_
 have H := SH.nil w
 refine sq ?_
 refine rg ?_
 refine asg (v := .int .i64 _) rfl rfl ?_
 refine nl ?_
 refine then_n ?_
 refine bk ?_
 refine sq ?_
 refine sq ?_
 refine rg ?_
 refine mv (v := .int .i32 _) rfl rfl ?_
 refine leq rfl rfl rfl ?_
 refine mv (v := .bool _) rfl rfl ?_
 refine spd (t := 6) rfl (fun hg1 => ?_) (fun hg1 => ?_)
 ·refine gy rfl ?_
  refine mv (v := .int .i32 _) rfl rfl ?_
  refine gy rfl ?_
  refine lss rfl rfl rfl ?_
  refine pkT (v := .bool _) rfl rfl rfl ?_
  refine asg (v := .bool _) rfl rfl ?_
  refine nl ?_
  refine then_n ?_
  refine cd rfl (fun hc1 => ?_) (fun hc1 => ?_)
  ·refine sk ?_
   refine then_n ?_
   refine cd rfl (fun hc2 => ?_) (fun hc2 => ?_)
   ·refine sq ?_
    refine rg ?_
    refine asg (v := .int .i64 _) rfl rfl ?_
    refine nl ?_
    refine then_n ?_
    refine rt ?_
    refine in_r ?_
    refine fin_r ?_
    refine ⟨congrArg (Value.int .i64) ?_, H.fr⟩
    unfold u16; split <;> simp <;> omega
   ·refine sq ?_
    refine rg ?_
    refine mv (v := .int .i32 _) rfl rfl ?_
    refine leq rfl rfl rfl ?_
    refine mv (v := .bool _) rfl rfl ?_
    refine spd (t := 19) rfl (fun hg2 => ?_) (fun hg2 => ?_)
    ·refine gy rfl ?_
     refine mv (v := .int .i32 _) rfl rfl ?_
     refine gy rfl ?_
     refine leq rfl rfl rfl ?_
     refine pkT (v := .bool _) rfl rfl rfl ?_
     refine asg (v := .bool _) rfl rfl ?_
     refine nl ?_
     refine then_n ?_
     refine cd rfl (fun hc3 => ?_) (fun hc3 => ?_)
     ·refine sq ?_
      refine rg ?_
      refine asg (v := .int .i64 _) rfl rfl ?_
      refine nl ?_
      refine then_n ?_
      refine rt ?_
      refine in_r ?_
      refine fin_r ?_
      refine ⟨congrArg (Value.int .i64) ?_, H.fr⟩
      unfold u16; split <;> simp <;> omega
     ·refine sq ?_
      refine rg ?_
      refine asg (v := .int .i64 _) rfl rfl ?_
      refine nl ?_
      refine then_n ?_
      refine rt ?_
      refine in_r ?_
      refine fin_r ?_
      refine ⟨congrArg (Value.int .i64) ?_, H.fr⟩
      unfold u16; split <;> simp <;> omega
    ·refine gn rfl rfl ?_
     refine gn rfl rfl ?_
     refine pkF (v := .bool _) rfl rfl rfl ?_
     refine asg (v := .bool _) rfl rfl ?_
     refine nl ?_
     refine then_n ?_
     refine cbF rfl rfl ?_
     refine sq ?_
     refine rg ?_
     refine asg (v := .int .i64 _) rfl rfl ?_
     refine nl ?_
     refine then_n ?_
     refine rt ?_
     refine in_r ?_
     refine fin_r ?_
     refine ⟨congrArg (Value.int .i64) ?_, H.fr⟩
     unfold u16; split <;> simp <;> omega
  ·refine rg ?_
   refine mv (v := .int .i32 _) rfl rfl ?_
   refine leq rfl rfl rfl ?_
   refine mv (v := .bool _) rfl rfl ?_
   refine spd (t := 12) rfl (fun hg3 => ?_) (fun hg3 => ?_)
   ·refine gy rfl ?_
    refine mv (v := .int .i32 _) rfl rfl ?_
    refine gy rfl ?_
    refine lss rfl rfl rfl ?_
    refine pkT (v := .bool _) rfl rfl rfl ?_
    refine asg (v := .bool _) rfl rfl ?_
    refine nl ?_
    refine then_n ?_
    refine cd rfl (fun hc4 => ?_) (fun hc4 => ?_)
    ·refine sq ?_
     refine rg ?_
     refine asg (v := .int .i64 _) rfl rfl ?_
     refine nl ?_
     refine then_n ?_
     refine rt ?_
     refine in_r ?_
     refine fin_r ?_
     refine ⟨congrArg (Value.int .i64) ?_, H.fr⟩
     unfold u16; split <;> simp <;> omega
    ·refine sq ?_
     refine rg ?_
     refine mv (v := .int .i32 _) rfl rfl ?_
     refine leq rfl rfl rfl ?_
     refine mv (v := .bool _) rfl rfl ?_
     refine spd (t := 19) rfl (fun hg4 => ?_) (fun hg4 => ?_)
     ·refine gy rfl ?_
      refine mv (v := .int .i32 _) rfl rfl ?_
      refine gy rfl ?_
      refine leq rfl rfl rfl ?_
      refine pkT (v := .bool _) rfl rfl rfl ?_
      refine asg (v := .bool _) rfl rfl ?_
      refine nl ?_
      refine then_n ?_
      refine cd rfl (fun hc5 => ?_) (fun hc5 => ?_)
      ·refine sq ?_
       refine rg ?_
       refine asg (v := .int .i64 _) rfl rfl ?_
       refine nl ?_
       refine then_n ?_
       refine rt ?_
       refine in_r ?_
       refine fin_r ?_
       refine ⟨congrArg (Value.int .i64) ?_, H.fr⟩
       unfold u16; split <;> simp <;> omega
      ·refine sq ?_
       refine rg ?_
       refine asg (v := .int .i64 _) rfl rfl ?_
       refine nl ?_
       refine then_n ?_
       refine rt ?_
       refine in_r ?_
       refine fin_r ?_
       refine ⟨congrArg (Value.int .i64) ?_, H.fr⟩
       unfold u16; split <;> simp <;> omega
     ·refine gn rfl rfl ?_
      refine gn rfl rfl ?_
      refine pkF (v := .bool _) rfl rfl rfl ?_
      refine asg (v := .bool _) rfl rfl ?_
      refine nl ?_
      refine then_n ?_
      refine cbF rfl rfl ?_
      refine sq ?_
      refine rg ?_
      refine asg (v := .int .i64 _) rfl rfl ?_
      refine nl ?_
      refine then_n ?_
      refine rt ?_
      refine in_r ?_
      refine fin_r ?_
      refine ⟨congrArg (Value.int .i64) ?_, H.fr⟩
      unfold u16; split <;> simp <;> omega
   ·refine gn rfl rfl ?_
    refine gn rfl rfl ?_
    refine pkF (v := .bool _) rfl rfl rfl ?_
    refine asg (v := .bool _) rfl rfl ?_
    refine nl ?_
    refine then_n ?_
    refine cbF rfl rfl ?_
    refine sq ?_
    refine rg ?_
    refine mv (v := .int .i32 _) rfl rfl ?_
    refine leq rfl rfl rfl ?_
    refine mv (v := .bool _) rfl rfl ?_
    refine spd (t := 19) rfl (fun hg5 => ?_) (fun hg5 => ?_)
    ·refine gy rfl ?_
     refine mv (v := .int .i32 _) rfl rfl ?_
     refine gy rfl ?_
     refine leq rfl rfl rfl ?_
     refine pkT (v := .bool _) rfl rfl rfl ?_
     refine asg (v := .bool _) rfl rfl ?_
     refine nl ?_
     refine then_n ?_
     refine cd rfl (fun hc6 => ?_) (fun hc6 => ?_)
     ·refine sq ?_
      refine rg ?_
      refine asg (v := .int .i64 _) rfl rfl ?_
      refine nl ?_
      refine then_n ?_
      refine rt ?_
      refine in_r ?_
      refine fin_r ?_
      refine ⟨congrArg (Value.int .i64) ?_, H.fr⟩
      unfold u16; split <;> simp <;> omega
     ·refine sq ?_
      refine rg ?_
      refine asg (v := .int .i64 _) rfl rfl ?_
      refine nl ?_
      refine then_n ?_
      refine rt ?_
      refine in_r ?_
      refine fin_r ?_
      refine ⟨congrArg (Value.int .i64) ?_, H.fr⟩
      unfold u16; split <;> simp <;> omega
    ·refine gn rfl rfl ?_
     refine gn rfl rfl ?_
     refine pkF (v := .bool _) rfl rfl rfl ?_
     refine asg (v := .bool _) rfl rfl ?_
     refine nl ?_
     refine then_n ?_
     refine cbF rfl rfl ?_
     refine sq ?_
     refine rg ?_
     refine asg (v := .int .i64 _) rfl rfl ?_
     refine nl ?_
     refine then_n ?_
     refine rt ?_
     refine in_r ?_
     refine fin_r ?_
     refine ⟨congrArg (Value.int .i64) ?_, H.fr⟩
     unfold u16; split <;> simp <;> omega
 ·refine gn rfl rfl ?_
  refine gn rfl rfl ?_
  refine pkF (v := .bool _) rfl rfl rfl ?_
  refine asg (v := .bool _) rfl rfl ?_
  refine nl ?_
  refine then_n ?_
  refine cbF rfl rfl ?_
  refine rg ?_
  refine mv (v := .int .i32 _) rfl rfl ?_
  refine leq rfl rfl rfl ?_
  refine mv (v := .bool _) rfl rfl ?_
  refine spd (t := 12) rfl (fun hg6 => ?_) (fun hg6 => ?_)
  ·refine gy rfl ?_
   refine mv (v := .int .i32 _) rfl rfl ?_
   refine gy rfl ?_
   refine lss rfl rfl rfl ?_
   refine pkT (v := .bool _) rfl rfl rfl ?_
   refine asg (v := .bool _) rfl rfl ?_
   refine nl ?_
   refine then_n ?_
   refine cd rfl (fun hc7 => ?_) (fun hc7 => ?_)
   ·refine sq ?_
    refine rg ?_
    refine asg (v := .int .i64 _) rfl rfl ?_
    refine nl ?_
    refine then_n ?_
    refine rt ?_
    refine in_r ?_
    refine fin_r ?_
    refine ⟨congrArg (Value.int .i64) ?_, H.fr⟩
    unfold u16; split <;> simp <;> omega
   ·refine sq ?_
    refine rg ?_
    refine mv (v := .int .i32 _) rfl rfl ?_
    refine leq rfl rfl rfl ?_
    refine mv (v := .bool _) rfl rfl ?_
    refine spd (t := 19) rfl (fun hg7 => ?_) (fun hg7 => ?_)
    ·refine gy rfl ?_
     refine mv (v := .int .i32 _) rfl rfl ?_
     refine gy rfl ?_
     refine leq rfl rfl rfl ?_
     refine pkT (v := .bool _) rfl rfl rfl ?_
     refine asg (v := .bool _) rfl rfl ?_
     refine nl ?_
     refine then_n ?_
     refine cd rfl (fun hc8 => ?_) (fun hc8 => ?_)
     ·refine sq ?_
      refine rg ?_
      refine asg (v := .int .i64 _) rfl rfl ?_
      refine nl ?_
      refine then_n ?_
      refine rt ?_
      refine in_r ?_
      refine fin_r ?_
      refine ⟨congrArg (Value.int .i64) ?_, H.fr⟩
      unfold u16; split <;> simp <;> omega
     ·refine sq ?_
      refine rg ?_
      refine asg (v := .int .i64 _) rfl rfl ?_
      refine nl ?_
      refine then_n ?_
      refine rt ?_
      refine in_r ?_
      refine fin_r ?_
      refine ⟨congrArg (Value.int .i64) ?_, H.fr⟩
      unfold u16; split <;> simp <;> omega
    ·refine gn rfl rfl ?_
     refine gn rfl rfl ?_
     refine pkF (v := .bool _) rfl rfl rfl ?_
     refine asg (v := .bool _) rfl rfl ?_
     refine nl ?_
     refine then_n ?_
     refine cbF rfl rfl ?_
     refine sq ?_
     refine rg ?_
     refine asg (v := .int .i64 _) rfl rfl ?_
     refine nl ?_
     refine then_n ?_
     refine rt ?_
     refine in_r ?_
     refine fin_r ?_
     refine ⟨congrArg (Value.int .i64) ?_, H.fr⟩
     unfold u16; split <;> simp <;> omega
  ·refine gn rfl rfl ?_
   refine gn rfl rfl ?_
   refine pkF (v := .bool _) rfl rfl rfl ?_
   refine asg (v := .bool _) rfl rfl ?_
   refine nl ?_
   refine then_n ?_
   refine cbF rfl rfl ?_
   refine sq ?_
   refine rg ?_
   refine mv (v := .int .i32 _) rfl rfl ?_
   refine leq rfl rfl rfl ?_
   refine mv (v := .bool _) rfl rfl ?_
   refine spd (t := 19) rfl (fun hg8 => ?_) (fun hg8 => ?_)
   ·refine gy rfl ?_
    refine mv (v := .int .i32 _) rfl rfl ?_
    refine gy rfl ?_
    refine leq rfl rfl rfl ?_
    refine pkT (v := .bool _) rfl rfl rfl ?_
    refine asg (v := .bool _) rfl rfl ?_
    refine nl ?_
    refine then_n ?_
    refine cd rfl (fun hc9 => ?_) (fun hc9 => ?_)
    ·refine sq ?_
     refine rg ?_
     refine asg (v := .int .i64 _) rfl rfl ?_
     refine nl ?_
     refine then_n ?_
     refine rt ?_
     refine in_r ?_
     refine fin_r ?_
     refine ⟨congrArg (Value.int .i64) ?_, H.fr⟩
     unfold u16; split <;> simp <;> omega
    ·refine sq ?_
     refine rg ?_
     refine asg (v := .int .i64 _) rfl rfl ?_
     refine nl ?_
     refine then_n ?_
     refine rt ?_
     refine in_r ?_
     refine fin_r ?_
     refine ⟨congrArg (Value.int .i64) ?_, H.fr⟩
     unfold u16; split <;> simp <;> omega
   ·refine gn rfl rfl ?_
    refine gn rfl rfl ?_
    refine pkF (v := .bool _) rfl rfl rfl ?_
    refine asg (v := .bool _) rfl rfl ?_
    refine nl ?_
    refine then_n ?_
    refine cbF rfl rfl ?_
    refine sq ?_
    refine rg ?_
    refine asg (v := .int .i64 _) rfl rfl ?_
    refine nl ?_
    refine then_n ?_
    refine rt ?_
    refine in_r ?_
    refine fin_r ?_
    refine ⟨congrArg (Value.int .i64) ?_, H.fr⟩
    unfold u16; split <;> simp <;> omega
set_option maxRecDepth 100000 in
set_option maxHeartbeats 1000000 in
theorem c_encRune (w : World) (c : Nat) (hc : 65536 ≤ c ∧ c ≤ 1114111) : Calls Tryz.prog 97 #[.int .i32 (c : Int)] w (Ret fun v w' => v = .tuple #[.int .i32 (55296 + ((c : Int) - 65536) / 1024), .int .i32 (56320 + ((c : Int) - 65536) % 1024)] ∧ Fr [] w w') := by
 refine enter (fun ρ => .tuple #[ρ 2, ρ 3]) Tryz.func97 rfl rfl rfl (res2 rfl) ?_
 have H := SH.nil w
 refine sq ?_
 refine rg ?_
 refine asg (v := .int .i32 _) rfl rfl ?_
 refine asg (v := .int .i32 _) rfl rfl ?_
 refine nl ?_
 refine then_n ?_
 refine sq ?_
 refine sq ?_
 refine rg ?_
 refine mv (v := .int .i32 _) rfl rfl ?_
 refine lss rfl rfl rfl ?_
 refine mv (v := .bool _) rfl rfl ?_
 refine spd (t := 6) rfl (fun hg1 => ?_) (fun hg1 => ?_)
 ·exact absurd hg1 (by omega)
 ·refine gy rfl ?_
  refine mv (v := .int .i32 _) rfl rfl ?_
  refine gy rfl ?_
  refine gtr rfl rfl rfl ?_
  refine pkF (v := .bool _) rfl rfl rfl ?_
  refine nl ?_
  refine then_n ?_
  refine cd rfl (fun hc1 => ?_) (fun hc1 => ?_)
  ·exact absurd hc1 (by omega)
  ·refine sk ?_
   refine then_n ?_
   refine sq ?_
   refine rg ?_
   refine mv (v := .int .i32 _) rfl rfl ?_
   refine sub rfl rfl (by first | exact w_i32 (by omega) | exact w_i32 (rng_i32 _) | rfl) rfl ?_
   refine asg (v := .int .i32 _) rfl rfl ?_
   refine nl ?_
   refine then_n ?_
   refine sq ?_
   refine rg ?_
   refine mv (v := .int .i32 _) rfl rfl ?_
   refine shrK (s := 10) (p := 1024) rfl rfl (by decide) (by decide) rfl rfl ?_
   refine band (c := ((c : Int) - 65536) / 1024) rfl rfl (by rw [and1023 (by omega)]; omega) rfl ?_
   refine add rfl rfl (by first | exact w_i32 (by omega) | exact w_i32 (rng_i32 _) | rfl) rfl ?_
   refine mv (v := .int .i32 _) rfl rfl ?_
   refine band (c := ((c : Int) - 65536) % 1024) rfl rfl (and1023 (by omega)) rfl ?_
   refine add rfl rfl (by first | exact w_i32 (by omega) | exact w_i32 (rng_i32 _) | rfl) rfl ?_
   refine asg (v := .int .i32 _) rfl rfl ?_
   refine asg (v := .int .i32 _) rfl rfl ?_
   refine nl ?_
   refine then_n ?_
   refine rt ?_
   refine fin_r ?_
   exact ⟨rfl, H.fr⟩
set_option maxRecDepth 100000 in
set_option maxHeartbeats 4000000 in
theorem c_encode (w : World) (A : Option Addr) (k cap : Nat) (cs : List Nat) (hR : R32 w A k cs) (hk : k ≤ 100000) (hv : ∀ c ∈ cs, c < 55296 ∨ (57343 < c ∧ c ≤ 1114111)) : Calls Tryz.prog 87 #[.slice A k cap] w (Ret fun v w' => ∃ D cp, v = .slice D (cs.flatMap u16).length cp ∧ OR 25 1 w [] w' [] D (cs.flatMap u16).length cp ((cs.flatMap u16).map (Value.int .u16))) := by
 refine enter (fun ρ => ρ 2) Tryz.func87 rfl rfl rfl (res1 rfl) ?_
 have H := SH.nil w
 have hrl := hR.1
 refine sq ?_
 refine rg ?_
 refine asg (v := .slice _ _ _) rfl rfl ?_
 refine nl ?_
 refine then_n ?_
 refine sq ?_
 refine rg ?_
 refine mv (v := .slice _ _ _) rfl rfl ?_
 refine lnS rfl Tryz.underlying152 rfl ?_
 refine asg (v := .int .i64 _) rfl rfl ?_
 refine nl ?_
 refine then_n ?_
 refine sq ?_
 refine sq ?_
 refine rg ?_
 refine mv (v := .slice _ _ _) rfl rfl ?_
 refine lnS rfl Tryz.underlying152 rfl ?_
 refine mv (v := .int .i64 _) rfl rfl ?_
 refine nl ?_
 refine then_n ?_
 refine bk ?_
 refine lpM (α := Nat) [3, 5, 15, 16, 17, 18, 19, 20, 21, 22, 23] (fun i => [(3, .int .i64 ((cs.length - i : Nat) + ((cs.take i).flatMap u16).length : Int)), (15, .int .i64 (i : Int))]) (fun i w' => i ≤ k ∧ ((cs.take i).flatMap u16).length ≤ 2 * i ∧ SH w [] w' []) (fun i => k - i) 0 ?_ (fCX (fCX (fN _))) ?_
 ·exact ⟨by omega, by simp, H⟩
 ·rintro i ρx w1 ⟨hi, h2, H⟩
  refine sq ?_
  refine rg ?_
  refine lss rfl rfl rfl ?_
  refine nl ?_
  refine then_n ?_
  refine sq ?_
  refine cd rfl (fun hc1 => ?_) (fun hc1 => ?_)
  ·obtain ⟨c, hci⟩ : ∃ c, cs[i]? = some c := ⟨_, List.getElem?_eq_getElem (by omega)⟩
   obtain ⟨ad, rfl, hcell⟩ := hR.2 i c hci
   have hcv := hv c (List.mem_of_getElem? hci)
   have hcell := H.fr.cell hcell (by simp)
   have hft := flat_take hci
   have hfl := flat_le hci
   have hftl : ((cs.take (i + 1)).flatMap u16).length = ((cs.take i).flatMap u16).length + (u16 c).length := by rw [hft, List.length_append]
   have hl12 : (u16 c).length = 1 ∨ (u16 c).length = 2 := by unfold u16; split <;> simp
   refine sk ?_
   refine then_n ?_
   refine sq ?_
   refine bk ?_
   refine sq ?_
   refine rg ?_
   refine iA rfl rfl Tryz.underlying152 sz21_1 (by omega) rfl ?_
   refine lc rfl (by first | assumption | exact H.fr.cell (by assumption) (by simp)) sc21 rfl ?_
   refine asg (v := .int .i32 _) rfl rfl ?_
   refine nl ?_
   refine then_n ?_
   refine sq ?_
   refine rg ?_
   refine mv (v := .int .i32 _) rfl rfl ?_
   refine geq rfl rfl rfl ?_
   refine nl ?_
   refine then_n ?_
   refine cd rfl (fun hc2 => ?_) (fun hc2 => ?_)
   ·have hu2 : (u16 c).length = 2 := by rw [u16_big (by omega)]; rfl
    refine rg ?_
    refine mv (v := .int .i64 _) rfl rfl ?_
    refine add rfl rfl (by first | exact w_i64 (by omega) | exact w_i64 (rng_i64 _) | rfl) rfl ?_
    refine asg (v := .int .i64 _) rfl rfl ?_
    refine nl ?_
    refine in_n ?_
    refine then_n ?_
    refine rg ?_
    refine add rfl rfl (by first | exact w_i64 (by omega) | exact w_i64 (rng_i64 _) | rfl) rfl ?_
    refine mv (v := .int .i64 _) rfl rfl ?_
    refine nl ?_
    refine loop_n ?_
    exact ⟨i + 1, (by (try dsimp only); omega), ⟨by omega, by omega, H⟩, (fCX (fCX (fN _))), agX⟩
   ·have hu1 : (u16 c).length = 1 := by rw [u16_small (by omega)]; rfl
    refine sk ?_
    refine in_n ?_
    refine then_n ?_
    refine rg ?_
    refine add rfl rfl (by first | exact w_i64 (by omega) | exact w_i64 (rng_i64 _) | rfl) rfl ?_
    refine mv (v := .int .i64 _) rfl rfl ?_
    refine nl ?_
    refine loop_n ?_
    exact ⟨i + 1, (by (try dsimp only); omega), ⟨by omega, by omega, H⟩, (fCX (fCX (fN _))), agX⟩
  ·have h9 : ((cs.length - i : Nat) : Int) + (((cs.take i).flatMap u16).length : Int) = ((cs.flatMap u16).length : Int) := by rw [show i = cs.length by omega, List.take_length]; simp
   have hNl : (cs.flatMap u16).length ≤ 2 * cs.length := by rw [show i = cs.length by omega, List.take_length] at h2; exact h2
   refine ex ?_
   refine then_e ?_
   refine loop_e ?_
   refine in_hit rfl ?_
   refine then_n ?_
   refine sq ?_
   refine rg ?_
   refine mv (v := .int .i64 ((cs.flatMap u16).length : Int)) (congrArg (Value.int .i64) h9) rfl ?_
   refine mk H rfl rfl Tryz.underlying90 mi25 (by omega) (by omega) (by omega) (by omega) rfl ?_
   clear H; intro b1 w2 hb1 H _
   refine asg (v := .slice _ _ _) rfl rfl ?_
   refine nl ?_
   refine then_n ?_
   refine sq ?_
   refine rg ?_
   refine asg (v := .int .i64 _) rfl rfl ?_
   refine nl ?_
   refine then_n ?_
   refine sq ?_
   refine sq ?_
   refine rg ?_
   refine mv (v := .slice _ _ _) rfl rfl ?_
   refine lnS rfl Tryz.underlying152 rfl ?_
   refine mv (v := .int .i64 _) rfl rfl ?_
   refine nl ?_
   refine then_n ?_
   refine bk ?_
   refine lpM (α := Nat) [3, 8, 9, 10, 28, 29, 30, 31, 32, 33, 34, 35, 36, 37, 38, 39, 40, 41, 42, 43, 44, 45, 46, 47, 48, 49, 50, 51, 52, 53, 54, 55, 56, 57, 58, 59, 60, 61, 62, 63, 64, 65, 66, 67, 68] (fun i => [(3, .int .i64 (((cs.take i).flatMap u16).length : Int)), (28, .int .i64 (i : Int))]) (fun i w' => i ≤ k ∧ SH w [] w' [⟨b1, .cells (UZ ((cs.take i).flatMap u16) (cs.flatMap u16).length).toArray 25 (0, 0), true⟩]) (fun i => k - i) 0 ?_ (fCX (fCX (fN _))) ?_
   ·exact ⟨by omega, sh_cells0 H (UZ_zero _).symm⟩
   ·rintro i ρx w3 ⟨hi, H⟩
    have hul : ((cs.take i).flatMap u16).length ≤ (cs.flatMap u16).length := by
     have e : cs.flatMap u16 = (cs.take i).flatMap u16 ++ (cs.drop i).flatMap u16 := by rw [← List.flatMap_append, List.take_append_drop]
     rw [e, List.length_append]; omega
    have huz := UZ_len hul
    refine sq ?_
    refine rg ?_
    refine lss rfl rfl rfl ?_
    refine nl ?_
    refine then_n ?_
    refine sq ?_
    refine cd rfl (fun hc3 => ?_) (fun hc3 => ?_)
    ·obtain ⟨c, hci⟩ : ∃ c, cs[i]? = some c := ⟨_, List.getElem?_eq_getElem (by omega)⟩
     obtain ⟨ad, rfl, hcell⟩ := hR.2 i c hci
     have hcv := hv c (List.mem_of_getElem? hci)
     have hcell := H.fr.cell hcell (by simp)
     have hft := flat_take hci
     have hfl := flat_le hci
     have hftl : ((cs.take (i + 1)).flatMap u16).length = ((cs.take i).flatMap u16).length + (u16 c).length := by rw [hft, List.length_append]
     have hl12 : (u16 c).length = 1 ∨ (u16 c).length = 2 := by unfold u16; split <;> simp
     refine sk ?_
     refine then_n ?_
     refine sq ?_
     refine bk ?_
     refine sq ?_
     refine rg ?_
     refine iA rfl rfl Tryz.underlying152 sz21_1 (by omega) rfl ?_
     refine lc rfl (by first | assumption | exact H.fr.cell (by assumption) (by simp)) sc21 rfl ?_
     refine asg (v := .int .i32 _) rfl rfl ?_
     refine nl ?_
     refine then_n ?_
     refine sq ?_
     refine rg ?_
     refine mv (v := .int .i32 _) rfl rfl ?_
     refine cl ca96 (c_runeLen _ c hcv) rfl ?_
     rintro _ w4 ⟨rfl, F⟩
     replace H := H.keep F; clear F
     refine nl ?_
     refine then_n ?_
     refine bk ?_
     refine sq ?_
     refine rg ?_
     refine eql rfl rfl rfl ?_
     refine asg (v := .bool _) rfl rfl ?_
     refine nl ?_
     refine then_n ?_
     refine cd rfl (fun hc4 => ?_) (fun hc4 => ?_)
     ·have hbg : ¬ 65536 ≤ c := fun h => by rw [u16_big h] at hc4; simp at hc4
      have hu1 := u16_small hbg
      have hu1l : (u16 c).length = 1 := by rw [hu1]; rfl
      refine sq ?_
      refine rg ?_
      refine mv (v := .slice _ _ _) rfl rfl ?_
      refine mv (v := .int .i64 _) rfl rfl ?_
      refine mv (v := .int .i32 _) rfl rfl ?_
      refine cvi rfl rfl Tryz.underlying25 (by first | exact w_u16 (by omega) | exact w_u16 (rng_u16 _) | exact m_u16 _) rfl ?_
      refine ia rfl rfl Tryz.underlying90 sz25_1 (by omega) rfl ?_
      refine st (v := .int .u16 _) H rfl rfl sc25 rfl (by first | decide | (simp only [List.length_set, List.length_cons, List.length_nil, List.length_replicate, List.length_append, Bs_length]; omega) | omega) (by omega) ?_
      clear H; intro w5 H _
      refine nl ?_
      refine then_n ?_
      refine rg ?_
      refine mv (v := .int .i64 _) rfl rfl ?_
      refine add rfl rfl (by first | exact w_i64 (by omega) | exact w_i64 (rng_i64 _) | rfl) rfl ?_
      refine asg (v := .int .i64 _) rfl rfl ?_
      refine nl ?_
      refine in_n ?_
      refine in_n ?_
      refine then_n ?_
      refine rg ?_
      refine add rfl rfl (by first | exact w_i64 (by omega) | exact w_i64 (rng_i64 _) | rfl) rfl ?_
      refine mv (v := .int .i64 _) rfl rfl ?_
      refine nl ?_
      refine loop_n ?_
      exact ⟨i + 1, (by (try dsimp only); omega), ⟨by omega, by rw [hft, hu1]; exact sh_cells0 H (UZ_set (by omega) (by omega))⟩, (fCX (fCX (fN _))), agX⟩
     ·refine sq ?_
      refine rg ?_
      refine eql rfl rfl rfl ?_
      refine asg (v := .bool _) rfl rfl ?_
      refine nl ?_
      refine then_n ?_
      refine cd rfl (fun hc5 => ?_) (fun hc5 => ?_)
      ·have hbg : 65536 ≤ c := Classical.byContradiction fun h => by rw [u16_small h] at hc5; simp at hc5
       have hu2 := u16_big hbg
       have hu2l : (u16 c).length = 2 := by rw [hu2]; rfl
       refine sq ?_
       refine rg ?_
       refine mv (v := .int .i32 _) rfl rfl ?_
       refine cl ca97 (c_encRune _ c (by omega)) rfl ?_
       rintro _ w6 ⟨rfl, F⟩
       replace H := H.keep F; clear F
       refine mv (v := .tuple _) rfl rfl ?_
       refine xt rfl rfl rfl ?_
       refine xt rfl rfl rfl ?_
       refine asg (v := .int .i32 _) rfl rfl ?_
       refine asg (v := .int .i32 _) rfl rfl ?_
       refine nl ?_
       refine then_n ?_
       refine sq ?_
       refine rg ?_
       refine mv (v := .slice _ _ _) rfl rfl ?_
       refine mv (v := .int .i64 _) rfl rfl ?_
       refine mv (v := .int .i32 _) rfl rfl ?_
       refine cvi rfl rfl Tryz.underlying25 (by first | exact w_u16 (by omega) | exact w_u16 (rng_u16 _) | exact m_u16 _) rfl ?_
       refine ia rfl rfl Tryz.underlying90 sz25_1 (by omega) rfl ?_
       refine st (v := .int .u16 _) H rfl rfl sc25 rfl (by first | decide | (simp only [List.length_set, List.length_cons, List.length_nil, List.length_replicate, List.length_append, Bs_length]; omega) | omega) (by omega) ?_
       clear H; intro w7 H _
       refine nl ?_
       refine then_n ?_
       refine sq ?_
       refine rg ?_
       refine mv (v := .slice _ _ _) rfl rfl ?_
       refine mv (v := .int .i64 _) rfl rfl ?_
       refine add rfl rfl (by first | exact w_i64 (by omega) | exact w_i64 (rng_i64 _) | rfl) rfl ?_
       refine mv (v := .int .i32 _) rfl rfl ?_
       refine cvi rfl rfl Tryz.underlying25 (by first | exact w_u16 (by omega) | exact w_u16 (rng_u16 _) | exact m_u16 _) rfl ?_
       refine ia rfl rfl Tryz.underlying90 sz25_1 (by omega) rfl ?_
       refine st (v := .int .u16 _) H rfl rfl sc25 rfl (by first | decide | (simp only [List.length_set, List.length_cons, List.length_nil, List.length_replicate, List.length_append, Bs_length]; omega) | omega) (by omega) ?_
       clear H; intro w8 H _
       refine nl ?_
       refine then_n ?_
       refine rg ?_
       refine mv (v := .int .i64 _) rfl rfl ?_
       refine add rfl rfl (by first | exact w_i64 (by omega) | exact w_i64 (rng_i64 _) | rfl) rfl ?_
       refine asg (v := .int .i64 _) rfl rfl ?_
       refine nl ?_
       refine in_n ?_
       refine in_n ?_
       refine then_n ?_
       refine rg ?_
       refine add rfl rfl (by first | exact w_i64 (by omega) | exact w_i64 (rng_i64 _) | rfl) rfl ?_
       refine mv (v := .int .i64 _) rfl rfl ?_
       refine nl ?_
       refine loop_n ?_
       exact ⟨i + 1, (by (try dsimp only); omega), ⟨by omega, by rw [hft, hu2, show (cs.take i).flatMap u16 ++ [55296 + ((c : Int) - 65536) / 1024, 56320 + ((c : Int) - 65536) % 1024] = ((cs.take i).flatMap u16 ++ [55296 + ((c : Int) - 65536) / 1024]) ++ [56320 + ((c : Int) - 65536) % 1024] by simp]; exact sh_cells0 H ((congrArg (fun l => List.set l _ _) (UZ_set (by omega) (by omega))).trans (UZ_set (by rw [List.length_append]; simp only [List.length_cons, List.length_nil]; omega) (by rw [List.length_append]; simp only [List.length_cons, List.length_nil]; omega)))⟩, (fCX (fCX (fN _))), agX⟩
      ·omega
    ·obtain rfl : i = cs.length := by omega
     refine ex ?_
     refine then_e ?_
     refine loop_e ?_
     refine in_hit rfl ?_
     refine then_n ?_
     refine sq ?_
     refine rg ?_
     refine mv (v := .slice _ _ _) rfl rfl ?_
     refine mv (v := .int .i64 _) rfl rfl ?_
     refine slh rfl rfl Tryz.underlying90 sz25_1 (by first | trivial | omega | (simp; omega)) rfl ?_
     refine asg (v := .slice _ _ _) rfl rfl ?_
     refine nl ?_
     refine then_n ?_
     refine rt ?_
     refine fin_r ?_
     rw [List.take_length] at H
     rw [UZ_full rfl] at H
     have O := OR.made (sz := 1) (n := (cs.flatMap u16).length) (cap := (cs.flatMap u16).length) H (Nat.le_refl _) (by unfold maxLen; omega) (by rw [List.length_map, Nat.mul_one])
     rw [Nat.mul_one, List.take_of_length_le (by rw [List.length_map]; exact Nat.le_refl _)] at O
     refine ⟨some ⟨b1, 0, none⟩, (cs.flatMap u16).length, ?_, O⟩
     simp only [List.take_length]
     rfl
end Go.Proofs.YthcaejaaalkglaaGreatDoor.X
/- Walks of functions, printed by a program of this claim. -/
namespace Go.Proofs.YthcaejaaalkglaaGreatDoor.X
set_option linter.unusedVariables false
set_option linter.unusedSimpArgs false
open Go Go.RowKit
namespace PF
theorem ca71 : callable Tryz.prog 71 = true := by kernel_rfl
theorem ca87 : callable Tryz.prog 87 = true := by kernel_rfl
theorem ca88 : callable Tryz.prog 88 = true := by kernel_rfl
end PF
open PF
set_option maxRecDepth 100000 in
set_option maxHeartbeats 4000000 in
theorem c_ptBytes (w : World) (b n : Nat) (p : GP) (y1 y2 : Value) (hp : w.heap[b]? = some (.cells (p.cells ++ [y1, y2]).toArray 126 (0, 0))) (hg : p.good n) (hn : n ≤ 1000000) (ho : p.ok) (hnm : p.nm.length ≤ 2147483647) : Calls Tryz.prog 77 #[.pointer (some ⟨b, 0, none⟩)] w (Ret fun v w' => ∃ q, v = .tuple #[.slice (some ⟨q, 0, none⟩) 128 128, .nilIface] ∧ w.heap.size ≤ q ∧ w'.heap[q]? = some (.cells (Bs (padE p)).toArray 5 (0, 0)) ∧ Fr [] w w') := by
 refine enter (fun ρ => .tuple #[ρ 2, ρ 3]) Tryz.func77 rfl rfl rfl (res2 rfl) ?_
 have H := SH.ro1 hp
 have hst := ho.st; have hen := ho.en; have hat := ho.att; have h36 := hg.un
 have h0 : (List.replicate 128 (0 : UInt8)).length = 128 := List.length_replicate
 have hel := entH_len p
 have hsz := size_str p.nm
 have hrl := runes_len _ p.nm (Nat.le_refl _)
 refine sq ?_
 refine rg ?_
 refine asg (v := .slice _ _ _) rfl rfl ?_
 refine asg (v := .nilIface) rfl rfl ?_
 refine nl ?_
 refine then_n ?_
 refine sq ?_
 refine rg ?_
 refine mkB H rfl rfl Tryz.underlying30 mi5 (by omega) (by omega) (by omega) (by omega) rfl ?_
 clear H; intro b1 w1 hb1 H _
 replace H := sh_cells0 (cs' := Bs (List.replicate 128 0)) H rfl
 refine asg (v := .slice _ _ _) rfl rfl ?_
 refine nl ?_
 refine then_n ?_
 refine sq ?_
 refine sq ?_
 refine rg ?_
 refine mv (v := .pointer _) rfl rfl ?_
 refine nc rfl rfl ?_
 refine fa rfl fo126_4 rfl ?_
 refine ld H rfl sc124 rfl rfl ?_
 refine eqlT rfl rfl rfl ?_
 refine nl ?_
 refine then_n ?_
 refine cF rfl (ty_ne hg.ty hg.tz) ?_
 refine sk ?_
 refine then_n ?_
 refine sq ?_
 refine rg ?_
 refine mv (v := .pointer _) rfl rfl ?_
 refine nc rfl rfl ?_
 refine fa rfl fo126_4 rfl ?_
 refine ld H rfl sc124 rfl rfl ?_
 refine cl ca72 (c_parse _ p.ty hg.ty) rfl ?_
 rintro _ w2 ⟨rfl, F⟩
 replace H := H.keep F; clear F
 refine mv (v := .tuple _) rfl rfl ?_
 refine xt rfl rfl rfl ?_
 refine xt rfl rfl rfl ?_
 refine al H ze138 rfl ?_
 clear H; intro b2 w3 hb2 H _
 refine sa (cs' := Bs (parB p.ty)) H rfl rfl ag138_16 rfl (List.all_eq_true.2 Bs_one) (by show 0 + 16 ≤ 16; decide) (by omega) (List.append_nil _) ?_
 clear H; intro w91 H _
 refine asg (v := .nilIface) rfl rfl ?_
 refine nl ?_
 refine then_n ?_
 refine sq ?_
 refine sq ?_
 refine rg ?_
 refine mv (v := .nilIface) rfl rfl ?_
 refine neqI0 rfl Tryz.underlying73 rfl ?_
 refine nl ?_
 refine then_n ?_
 refine cbF rfl rfl ?_
 refine sk ?_
 refine then_n ?_
 refine sq ?_
 refine dr (by kernel_rfl) ?_
 have H := H.drew
 refine hold (fun _ => True) [] ?_
 refine tk (i := 0) rfl (by kernel_rfl) rfl trivial (fun _ _ => r_mv (v := .slice _ _ _) rfl) ?_
 refine tk (i := 1) rfl (by kernel_rfl) rfl trivial (fun _ _ => r_sllhN (0) (16) (128) rfl rfl rfl Tryz.underlying30 sz5_1 (by omega) (by omega)) ?_
 refine tk (i := 2) rfl (by kernel_rfl) rfl trivial (fun _ _ => r_slYlh rfl rfl rfl Tryz.underlying138 sz5_1 (by first | trivial | omega | (simp; omega))) ?_
 refine unfree ?_
 refine fo (i := 3) (by kernel_rfl) rfl rfl ?_
 refine cl ca73 (c_toUUID _ (some ⟨b2, 0, none⟩) 16 16 (parB p.ty) (RB.allm (b := b2) H rfl) rfl (by decide) ⟨_, _, rfl⟩) rfl ?_
 rintro _ w4 ⟨b3, cq3, jk3, rfl, hb3, ho3, F⟩
 replace H := H.new F hb3 ho3; clear F ho3
 refine nl ?_
 refine then_n ?_
 refine fo (i := 4) (by kernel_rfl) rfl rfl ?_
 refine cpP (bs := gB p.ty) H rfl rfl Tryz.underlying30 sz5_1 (by rw [gB_ok hg.ty, ← perm_par]; exact RB.bj H (permB_len _)) (by decide) (by omega) (by omega) rfl ?_
 clear H; intro w5 H _ hlty
 refine nl ?_
 refine then_n ?_
 refine dn (by kernel_rfl) ?_
 refine then_n ?_
 refine sq ?_
 refine rg ?_
 refine mv (v := .pointer _) rfl rfl ?_
 refine nc rfl rfl ?_
 refine fa rfl fo126_6 rfl ?_
 refine ld H rfl sc9 rfl rfl ?_
 refine cl ca72 (c_parse _ p.gu hg.gu) rfl ?_
 rintro _ w6 ⟨rfl, F⟩
 replace H := H.keep F; clear F
 refine mv (v := .tuple _) rfl rfl ?_
 refine xt rfl rfl rfl ?_
 refine xt rfl rfl rfl ?_
 refine al H ze138 rfl ?_
 clear H; intro b4 w7 hb4 H _
 refine sa (cs' := Bs (parB p.gu)) H rfl rfl ag138_16 rfl (List.all_eq_true.2 Bs_one) (by show 0 + 16 ≤ 16; decide) (by omega) (List.append_nil _) ?_
 clear H; intro w92 H _
 refine asg (v := .nilIface) rfl rfl ?_
 refine nl ?_
 refine then_n ?_
 refine sq ?_
 refine sq ?_
 refine rg ?_
 refine mv (v := .nilIface) rfl rfl ?_
 refine neqI0 rfl Tryz.underlying73 rfl ?_
 refine nl ?_
 refine then_n ?_
 refine cbF rfl rfl ?_
 refine sk ?_
 refine then_n ?_
 refine sq ?_
 refine dr (by kernel_rfl) ?_
 have H := H.drew
 refine hold (fun _ => True) [] ?_
 refine tk (i := 0) rfl (by kernel_rfl) rfl trivial (fun _ _ => r_mv (v := .slice _ _ _) rfl) ?_
 refine tk (i := 1) rfl (by kernel_rfl) rfl trivial (fun _ _ => r_sllhN (16) (16) (112) rfl rfl rfl Tryz.underlying30 sz5_1 (by omega) (by omega)) ?_
 refine tk (i := 2) rfl (by kernel_rfl) rfl trivial (fun _ _ => r_slYlh rfl rfl rfl Tryz.underlying138 sz5_1 (by first | trivial | omega | (simp; omega))) ?_
 refine unfree ?_
 refine fo (i := 3) (by kernel_rfl) rfl rfl ?_
 refine cl ca73 (c_toUUID _ (some ⟨b4, 0, none⟩) 16 16 (parB p.gu) (RB.allm (b := b4) H rfl) rfl (by decide) ⟨_, _, rfl⟩) rfl ?_
 rintro _ w8 ⟨b5, cq5, jk5, rfl, hb5, ho5, F⟩
 replace H := H.new F hb5 ho5; clear F ho5
 refine nl ?_
 refine then_n ?_
 refine fo (i := 4) (by kernel_rfl) rfl rfl ?_
 refine cpP (bs := gB p.gu) H rfl rfl Tryz.underlying30 sz5_1 (by rw [gB_ok hg.gu, ← perm_par]; exact RB.bj H (permB_len _)) (by decide) (by omega) (by omega) rfl ?_
 clear H; intro w9 H _ hlgu
 refine nl ?_
 refine then_n ?_
 refine dn (by kernel_rfl) ?_
 refine then_n ?_
 refine sq ?_
 refine dr (by kernel_rfl) ?_
 have H := H.drew
 refine hold (fun _ => True) [] ?_
 refine tk (i := 1) rfl (by kernel_rfl) rfl trivial (fun _ _ => r_mv (v := .slice _ _ _) rfl) ?_
 refine tk (i := 2) rfl (by kernel_rfl) rfl trivial (fun _ _ => r_sllhN (32) (8) (96) rfl rfl rfl Tryz.underlying30 sz5_1 (by omega) (by omega)) ?_
 refine tk (i := 3) rfl (by kernel_rfl) rfl trivial (fun _ _ => r_mv (v := .pointer _) rfl) ?_
 refine tk (i := 4) rfl (by kernel_rfl) rfl trivial (fun _ _ => r_nc rfl) ?_
 refine tk (i := 5) rfl (by kernel_rfl) rfl trivial (fun _ _ => r_fa rfl fo126_1) ?_
 refine unfree ?_
 refine holdH H [7] ?_
 refine tk (i := 0) rfl (by kernel_rfl) rfl H (fun w' H => r_lw (vs := []) rfl ag143_0 rfl (by simp)) ?_
 refine tk (i := 6) rfl (by kernel_rfl) rfl H (fun w' H => r_ld H rfl sc28 rfl) ?_
 refine fb (i := 7) (by kernel_rfl) rfl rfl rfl ?_
 refine cl ca71 (c_PutUint64 _ b1 _ _ _ _ _ _ (H.look (b := b1)) (by omega) (by omega) (by omega)) rfl ?_
 rintro _ w10 ⟨rfl, hlen6, F, hnew⟩
 replace H := H.put (b := b1) F hnew; clear F hnew
 refine nl ?_
 refine then_n ?_
 refine dn (by kernel_rfl) ?_
 refine then_n ?_
 refine sq ?_
 refine dr (by kernel_rfl) ?_
 have H := H.drew
 refine hold (fun _ => True) [] ?_
 refine tk (i := 1) rfl (by kernel_rfl) rfl trivial (fun _ _ => r_mv (v := .slice _ _ _) rfl) ?_
 refine tk (i := 2) rfl (by kernel_rfl) rfl trivial (fun _ _ => r_sllhN (40) (8) (88) rfl rfl rfl Tryz.underlying30 sz5_1 (by omega) (by omega)) ?_
 refine tk (i := 3) rfl (by kernel_rfl) rfl trivial (fun _ _ => r_mv (v := .pointer _) rfl) ?_
 refine tk (i := 4) rfl (by kernel_rfl) rfl trivial (fun _ _ => r_nc rfl) ?_
 refine tk (i := 5) rfl (by kernel_rfl) rfl trivial (fun _ _ => r_fa rfl fo126_2) ?_
 refine unfree ?_
 refine holdH H [7] ?_
 refine tk (i := 0) rfl (by kernel_rfl) rfl H (fun w' H => r_lw (vs := []) rfl ag143_0 rfl (by simp)) ?_
 refine tk (i := 6) rfl (by kernel_rfl) rfl H (fun w' H => r_ld H rfl sc28 rfl) ?_
 refine fb (i := 7) (by kernel_rfl) rfl rfl rfl ?_
 refine cl ca71 (c_PutUint64 _ b1 _ _ _ _ _ _ (H.look (b := b1)) (by omega) (by omega) (by omega)) rfl ?_
 rintro _ w11 ⟨rfl, hlen7, F, hnew⟩
 replace H := H.put (b := b1) F hnew; clear F hnew
 refine nl ?_
 refine then_n ?_
 refine dn (by kernel_rfl) ?_
 refine then_n ?_
 refine sq ?_
 refine dr (by kernel_rfl) ?_
 have H := H.drew
 refine hold (fun _ => True) [] ?_
 refine tk (i := 1) rfl (by kernel_rfl) rfl trivial (fun _ _ => r_mv (v := .slice _ _ _) rfl) ?_
 refine tk (i := 2) rfl (by kernel_rfl) rfl trivial (fun _ _ => r_sllhN (48) (8) (80) rfl rfl rfl Tryz.underlying30 sz5_1 (by omega) (by omega)) ?_
 refine tk (i := 3) rfl (by kernel_rfl) rfl trivial (fun _ _ => r_mv (v := .pointer _) rfl) ?_
 refine tk (i := 4) rfl (by kernel_rfl) rfl trivial (fun _ _ => r_nc rfl) ?_
 refine tk (i := 5) rfl (by kernel_rfl) rfl trivial (fun _ _ => r_fa rfl fo126_7) ?_
 refine unfree ?_
 refine holdH H [7] ?_
 refine tk (i := 0) rfl (by kernel_rfl) rfl H (fun w' H => r_lw (vs := []) rfl ag143_0 rfl (by simp)) ?_
 refine tk (i := 6) rfl (by kernel_rfl) rfl H (fun w' H => r_ld H rfl sc28 rfl) ?_
 refine fb (i := 7) (by kernel_rfl) rfl rfl rfl ?_
 refine cl ca71 (c_PutUint64 _ b1 _ _ _ _ _ _ (H.look (b := b1)) (by omega) (by omega) (by omega)) rfl ?_
 rintro _ w12 ⟨rfl, hlen8, F, hnew⟩
 replace H := H.put (b := b1) F hnew; clear F hnew
 refine nl ?_
 refine then_n ?_
 refine dn (by kernel_rfl) ?_
 refine then_n ?_
 refine sq ?_
 refine rg ?_
 rw [ent_head (by omega)] at H
 refine mv (v := .pointer _) rfl rfl ?_
 refine nc rfl rfl ?_
 refine fa rfl fo126_5 rfl ?_
 refine ld H rfl sc9 rfl rfl ?_
 refine lnT rfl Tryz.underlying9 rfl ?_
 refine mk H rfl rfl Tryz.underlying152 mi21 (by omega) (by omega) (by omega) (by omega) rfl ?_
 clear H; intro b9 w13 hb9 H _
 refine asg (v := .slice _ _ _) rfl rfl ?_
 refine nl ?_
 refine then_n ?_
 refine sq ?_
 refine sq ?_
 refine rg ?_
 refine mv (v := .pointer _) rfl rfl ?_
 refine nc rfl rfl ?_
 refine fa rfl fo126_5 rfl ?_
 refine ld H rfl sc9 rfl rfl ?_
 refine rngS H rfl Tryz.underlying9 rfl ?_
 clear H; intro b10 w14 hb10 H _
 refine nl ?_
 refine then_n ?_
 refine bk ?_
 refine lpM (α := Nat × Option Addr × Nat × List Nat) [8, 10, 89, 90, 91, 92, 93, 94, 95] (fun (q, D, cap, cs) => [(8, .slice D cs.length cap)]) (fun (q, D, cap, cs) w' => q ≤ p.nm.length ∧ cs.length ≤ q ∧ runes p.nm = cs ++ runes (p.nm.drop q) ∧ OR 21 1 w [] w' [⟨b10, .stringIter (str p.nm) q, true⟩, ⟨b1, .cells (Bs (pAt (List.replicate 128 0) 0 (entH p))).toArray 5 (0, 0), true⟩, ⟨b, .cells (p.cells ++ [y1, y2]).toArray 126 (0, 0), false⟩] D cs.length cap (cs.map fun (c : Nat) => Value.int .i32 (c : Int))) (fun (q, D, cap, cs) => p.nm.length - q) (0, some ⟨b9, 0, none⟩, (str p.nm).size, []) ?_ (fCX (fN _)) ?_
 ·exact ⟨by omega, by simp, rfl, (OR.made (sz := 1) (n := 0) (cap := (str p.nm).size) H.swap (by omega) (by unfold maxLen; omega) (by simp)).subX⟩
 ·rintro ⟨q, D, cap, cs⟩ ρx w15 ⟨hqq, hcl9, hcs, O⟩
  have H := O.sh
  refine sq ?_
  refine rg ?_
  refine nxt H rfl rfl ?_
  intro w16 H1 F; replace O := O.put F H1.look; clear H H1 F; have H := O.sh
  refine xt rfl (next0 _ _) rfl ?_
  refine nl ?_
  refine then_n ?_
  refine sq ?_
  refine cd rfl (fun hc4 => ?_) (fun hc4 => ?_)
  ·have hlt : q < p.nm.length := by assumption
   rw [nextP_of hlt] at O H
   obtain ⟨r1, r2, r3, r4, r5, r6, _⟩ := rune_at hlt
   rw [List.length_drop] at r2
   refine sk ?_
   refine then_n ?_
   refine bk ?_
   refine sq ?_
   refine rg ?_
   refine xt rfl (next2 (by omega)) rfl ?_
   refine asg (v := .int .i32 _) rfl rfl ?_
   refine nl ?_
   refine then_n ?_
   refine rg ?_
   refine mv (v := .slice _ _ _) rfl rfl ?_
   refine mv (v := .int .i32 _) rfl rfl ?_
   refine bsl (sz := 1) (out := ?o1) H Tryz.underlying152 ze21 sz21_1 (by decide) ?f1 rfl ?_
   case f1 =>
    refine FS.one (v := .int .i32 _) rfl rfl rfl (by first | decide | simp) ?_
    exact FS.nil
   intro b11 w17 hb11 H1 F; replace O := O.new F hb11 H1.look; clear H H1 F; have H := O.sh
   refine apO (zs := [.int .i32 0]) ([.int .i32 ((rune1 (p.nm.drop q)).1 : Int)]) O rfl rfl Tryz.underlying152 ri21 (by first | rfl | simp) (cells_look H.look) (by simp [Value.oneCell']) (by simp) (by omega) (by unfold maxLen; omega) rfl ?_
   clear O H; intro D9 cp9 w18 O
   have H := O.sh
   refine asg (v := .slice _ _ _) rfl rfl ?_
   refine nl ?_
   refine in_n ?_
   refine loop_n ?_
   exact ⟨(q + (rune1 (p.nm.drop q)).2, D9, cp9, cs ++ [(rune1 (p.nm.drop q)).1]), (by (try dsimp only); omega), ⟨by omega, by simp; omega, rune_next hcs hlt, by rw [List.length_append, List.map_append]; exact O.subX⟩, (fCX (fN _)), agX⟩
  ·rw [nextP_end (by assumption)] at O H
   rw [show List.drop q p.nm = [] from List.drop_of_length_le (by omega), runes_nil, List.append_nil] at hcs
   have hcl2 : cs.length ≤ 36 := by rw [← hcs]; omega
   subst hcs
   refine ex ?_
   refine then_e ?_
   refine loop_e ?_
   refine in_hit rfl ?_
   refine then_n ?_
   refine sq ?_
   refine sq ?_
   refine rg ?_
   refine mv (v := .slice _ _ _) rfl rfl ?_
   refine lnS rfl Tryz.underlying152 rfl ?_
   refine gtr rfl rfl rfl ?_
   refine nl ?_
   refine then_n ?_
   refine cF rfl (by omega) ?_
   refine sk ?_
   refine then_n ?_
   refine sq ?_
   refine rg ?_
   refine mv (v := .slice _ _ _) rfl rfl ?_
   refine cl ca87 (c_encode _ D (runes p.nm).length cap (runes p.nm) O.r32 (by omega) (runes_val _ p.nm (Nat.le_refl _))) rfl ?_
   rintro _ w19 ⟨DU, capU, rfl, O2⟩
   have e9 : (runes p.nm).flatMap u16 = utf16 p.nm := rfl
   rw [e9] at O2
   rw [e9]
   replace O := O2.join H; clear H O2; have H := O.sh
   refine asg (v := .slice _ _ _) rfl rfl ?_
   refine nl ?_
   refine then_n ?_
   refine sq ?_
   refine sq ?_
   refine rg ?_
   refine mv (v := .slice _ _ _) rfl rfl ?_
   refine lnS rfl Tryz.underlying90 rfl ?_
   refine mv (v := .int .i64 _) rfl rfl ?_
   refine nl ?_
   refine then_n ?_
   refine bk ?_
   refine lpM (α := Nat) [12, 13, 14, 104, 105, 106, 107, 108, 109, 110, 111, 112, 113, 114, 115, 116, 117, 118, 119, 120] (fun i => [(104, .int .i64 (i : Int))]) (fun i w' => i ≤ (utf16 p.nm).length ∧ OR 25 1 w [] w' [⟨b1, .cells (Bs (pAt (List.replicate 128 0) 0 (entH p ++ ((utf16 p.nm).take i).flatMap (leB 2)))).toArray 5 (0, 0), true⟩, ⟨b, .cells (p.cells ++ [y1, y2]).toArray 126 (0, 0), false⟩] DU (utf16 p.nm).length capU ((utf16 p.nm).map (Value.int .u16))) (fun i => (utf16 p.nm).length - i) 0 ?_ (fCX (fN _)) ?_
   ·exact ⟨by omega, by rw [List.take_zero, List.flatMap_nil, List.append_nil]; exact O.subX⟩
   ·rintro i ρx w20 ⟨hi, O⟩
    have H := O.sh
    refine sq ?_
    refine rg ?_
    refine lss rfl rfl rfl ?_
    refine nl ?_
    refine then_n ?_
    refine sq ?_
    refine cd rfl (fun hc6 => ?_) (fun hc6 => ?_)
    ·obtain ⟨u, hu⟩ : ∃ u, (utf16 p.nm)[i]? = some u := ⟨_, List.getElem?_eq_getElem (by omega)⟩
     have hur := utf16_rng _ _ (Nat.le_refl _) u (List.mem_of_getElem? hu)
     obtain ⟨ad, rfl⟩ := O.some_of (by omega)
     have hcell := O.one (v := .int .u16 u) (by rw [List.getElem?_map, hu]; rfl)
     have hcl : (pAt (List.replicate 128 0) 0 (entH p ++ ((utf16 p.nm).take i).flatMap (leB 2))).length = 128 := by
      have h9 : (((utf16 p.nm).take i).flatMap (leB 2)).length = 2 * i := by rw [flat_len (leB_len 2), List.length_take]; omega
      rw [pAt_len (by rw [List.length_append, h9]; omega)]; exact h0
     refine sk ?_
     refine then_n ?_
     refine sq ?_
     refine bk ?_
     refine sq ?_
     refine rg ?_
     refine mv (v := .int .i64 _) rfl rfl ?_
     refine iBN (ad.add i) rfl rfl Tryz.underlying90 sz25_1 (by omega) (by simp) rfl ?_
     refine lc rfl (by first | assumption | exact H.fr.cell (by assumption) (by simp)) sc25 rfl ?_
     refine asg (v := .int .i64 _) rfl rfl ?_
     refine asg (v := .int .u16 _) rfl rfl ?_
     refine nl ?_
     refine then_n ?_
     refine sq ?_
     refine rg ?_
     refine mv (v := .int .i64 _) rfl rfl ?_
     refine mul rfl rfl (by first | exact w_i64 (by omega) | exact w_i64 (rng_i64 _) | rfl) rfl ?_
     refine add rfl rfl (by first | exact w_i64 (by omega) | exact w_i64 (rng_i64 _) | rfl) rfl ?_
     refine asg (v := .int .i64 _) rfl rfl ?_
     refine nl ?_
     refine then_n ?_
     refine dr (by kernel_rfl) ?_
     have H := H.drew
     replace O := O.drew
     refine hold (fun _ => True) [] ?_
     refine tk (i := 1) rfl (by kernel_rfl) rfl trivial (fun _ _ => r_mv (v := .slice _ _ _) rfl) ?_
     refine tk (i := 2) rfl (by kernel_rfl) rfl trivial (fun _ _ => r_mv (v := .int .i64 _) rfl) ?_
     refine tk (i := 3) rfl (by kernel_rfl) rfl trivial (fun _ _ => r_mv (v := .int .i64 _) rfl) ?_
     refine tk (i := 4) rfl (by kernel_rfl) rfl trivial (fun _ _ => r_add rfl rfl (by first | exact w_i64 (by omega) | exact w_i64 (rng_i64 _) | rfl)) ?_
     refine tk (i := 5) rfl (by kernel_rfl) rfl trivial (fun _ _ => r_sllhN (56 + 2 * i) (2) (128 - (56 + 2 * i)) rfl rfl rfl Tryz.underlying30 sz5_1 (by omega) (by omega)) ?_
     refine tk (i := 6) rfl (by kernel_rfl) rfl trivial (fun _ _ => r_mv (v := .int .u16 _) rfl) ?_
     refine unfree ?_
     refine holdH H [7] ?_
     refine tk (i := 0) rfl (by kernel_rfl) rfl H (fun w' H => r_lw (vs := []) rfl ag143_0 rfl (by simp)) ?_
     refine fb (i := 7) (by kernel_rfl) rfl rfl rfl ?_
     refine cl ca88 (c_PutUint16 _ b1 _ _ _ _ _ _ (H.look (b := b1)) (by omega) (by rw [hcl]; omega) (by omega)) rfl ?_
     rintro _ w21 ⟨rfl, hlen12, F, hnew⟩
     replace H := H.put (b := b1) F hnew; replace O := O.put F hnew; clear F hnew
     refine nl ?_
     refine then_n ?_
     refine dn (by kernel_rfl) ?_
     refine in_n ?_
     refine then_n ?_
     refine rg ?_
     refine add rfl rfl (by first | exact w_i64 (by omega) | exact w_i64 (rng_i64 _) | rfl) rfl ?_
     refine mv (v := .int .i64 _) rfl rfl ?_
     refine nl ?_
     refine loop_n ?_
     exact ⟨i + 1, (by (try dsimp only); omega), ⟨by omega, by rw [← ent_unit (by omega) h36 hu, Nat.zero_add]; exact O⟩, (fCX (fN _)), agX⟩
    ·refine ex ?_
     refine then_e ?_
     refine loop_e ?_
     refine in_hit rfl ?_
     refine then_n ?_
     refine sq ?_
     refine rg ?_
     refine mv (v := .slice _ _ _) rfl rfl ?_
     refine asg (v := .slice _ _ _) rfl rfl ?_
     refine asg (v := .nilIface) rfl rfl ?_
     refine nl ?_
     refine then_n ?_
     refine rt ?_
     refine fin_r ?_
     obtain rfl : i = (utf16 p.nm).length := by omega
     have e := O.sh.look (b := b1)
     rw [List.take_length, pad_at hg.fits] at e
     exact ⟨b1, rfl, O.sh.ge, e, O.sh.fr⟩
end Go.Proofs.YthcaejaaalkglaaGreatDoor.X
/- Maps of numbers to pointers; rows of partitions that a call may turn; the array of entries, slot by slot. -/
namespace Go.Proofs.YthcaejaaalkglaaGreatDoor.X
set_option linter.unusedVariables false
set_option linter.unusedSimpArgs false
open Go Go.RowKit
def mEs : Nat → List (Int × Nat) → List MapEntry
 | _, [] => []
 | c, x :: r => MapEntry.mk (.int .i64 x.1) (.pointer (some ⟨x.2, 0, none⟩)) c :: mEs (c + 1) r
theorem mEs_snoc : ∀ (c : Nat) (l : List (Int × Nat)) (x : Int × Nat), mEs c (l ++ [x]) = mEs c l ++ [MapEntry.mk (.int .i64 x.1) (.pointer (some ⟨x.2, 0, none⟩)) (c + l.length)]
 | c, [], x => by simp [mEs]
 | c, y :: r, x => by
  rw [List.cons_append, mEs, mEs_snoc (c + 1) r x, mEs, List.cons_append, List.length_cons, show c + 1 + r.length = c + (r.length + 1) by omega]
def mGet (l : List (Int × Nat)) (z : Int) : Option Nat := (l.find? fun x => decide (x.1 = z)).map Prod.snd
theorem find_mEs : ∀ (l : List (Int × Nat)) (c i : Nat) (z : Int), ∃ j, Instr.findNow (.int .i64) (.int .i64 z) (mEs c l) i = some ((mGet l z).map fun b => (j, .pointer (some ⟨b, 0, none⟩)))
 | [], c, i, z => ⟨0, rfl⟩
 | x :: r, c, i, z => by
  obtain ⟨j, hj⟩ := find_mEs r (c + 1) (i + 1) z
  by_cases h : z = x.1
  ·refine ⟨i, ?_⟩
   subst h
   simp [mEs, Instr.findNow, Instr.sameNow, mGet]
  ·refine ⟨j, ?_⟩
   have h' : ¬ x.1 = z := fun e => h e.symm
   have hb : (z == x.1) = false := by simpa using h
   simp only [mEs, Instr.findNow, Instr.sameNow, if_true, hb]
   rw [hj]
   simp [mGet, List.find?_cons, h']
section steps
variable {P : Program} {n : Nat} {ops : Array Oper} {Q : Post} {rest : List Oper} {ρ : Env} {w : World} {ty : TypeId} {pos : String} {af : Array Edge} {d : Nat}
variable {w0 : World} {S : List Nat} {L L' : List Ent}
theorem lkC {t kt et : TypeId} {m k : Operand} {b clock : Nat} {l : List (Int × Nat)} {z : Int} (H : SH w0 S w L) (hm : ev ρ m = .map (some b)) (hk : ev ρ k = .int .i64 z) (hu : P.underlying t = some (.map kt et)) (hkt : P.underlying kt = some (.int .i64)) (hzi : (P.info? et).bind (·.zero) = some (.pointer none)) [Look L b (.map (mEs 0 l).toArray clock)]
  (hn : Nat.blt d n = true) (kk : wl P n ops Q rest (upd ρ d (.tuple #[.pointer ((mGet l z).map fun b => ⟨b, 0, none⟩), .bool (mGet l z).isSome])) w) : wl P n ops Q (⟨some d, .lookup t m k true, ty, pos, af, none⟩ :: rest) ρ w := by
 have hL := H.look (b := b) (o := .map (mEs 0 l).toArray clock)
 have hze := run_zeroValue (P := P) (w := w) hzi
 have hg := getMap (P := P) hL
 have hc : (Instr.checkKey (mEs 0 l).isEmpty 10000 kt (.int .i64 z)).run P w = .ok () w := by
  rw [show (10000 : Nat) = 9999 + 1 from rfl, Instr.checkKey]
  simp [run_underlying hkt]
 obtain ⟨j, hf⟩ := find_mEs l 0 0 z
 refine val rfl rfl hn ?_ kk
 simp only [execOp, hm, hk]
 cases hr : mGet l z with
 | none =>
  rw [hr] at hf
  simp [Instr.lookup, run_underlying hu, hg, hc, Instr.findKey, run_underlying hkt, hf, hze]
 | some q =>
  rw [hr] at hf
  simp [Instr.lookup, run_underlying hu, hg, hc, Instr.findKey, run_underlying hkt, hf]
theorem mup {t kt et : TypeId} {m k x : Operand} {b : Nat} {l : List (Int × Nat)} {z : Int} {q : Nat} (H : SH w0 S w L) (hm : ev ρ m = .map (some b)) (hk : ev ρ k = .int .i64 z) (hx : ev ρ x = .pointer (some ⟨q, 0, none⟩)) (hu : P.underlying t = some (.map kt et)) (hkt : P.underlying kt = some (.int .i64)) [Look L b (.map (mEs 0 l).toArray l.length)] (hf : mGet l z = none)
  [tn : Turn L b (.map (mEs 0 (l ++ [(z, q)])).toArray (l ++ [(z, q)]).length) L'] (kk : ∀ w', SH w0 S w' L' → Fr [b] w w' → wl P n ops Q rest ρ w') : wl P n ops Q (⟨none, .mapUpdate t m k x, ty, pos, af, none⟩ :: rest) ρ w := by
 have hL := H.look (b := b) (o := .map (mEs 0 l).toArray l.length)
 have hg := getMap (P := P) hL
 have e0 : mEs 0 (l ++ [(z, q)]) = mEs 0 l ++ [MapEntry.mk (.int .i64 z) (.pointer (some ⟨q, 0, none⟩)) l.length] := by rw [mEs_snoc, Nat.zero_add]
 have hs := setMap (P := P) (.map (mEs 0 l ++ [(MapEntry.mk (.int .i64 z) (.pointer (some ⟨q, 0, none⟩)) l.length)]).toArray (l.length + 1)) hL
 have hlt := lt_of_at hL
 have hfr : Fr [b] w { w with heap := w.heap.setIfInBounds b (.map (mEs 0 l ++ [(MapEntry.mk (.int .i64 z) (.pointer (some ⟨q, 0, none⟩)) l.length)]).toArray (l.length + 1)) } :=
  ⟨rfl, rfl, rfl, by simp, fun i _ hi => by
   have : b ≠ i := fun e => hi (by simp [e])
   simp [this]⟩
 have e3 : Obj.map (mEs 0 (l ++ [(z, q)])).toArray (l ++ [(z, q)]).length = .map (mEs 0 l ++ [(MapEntry.mk (.int .i64 z) (.pointer (some ⟨q, 0, none⟩)) l.length)]).toArray (l.length + 1) := by rw [e0, List.length_append]; rfl
 refine unt rfl rfl (w' := { w with heap := w.heap.setIfInBounds b (.map (mEs 0 l ++ [(MapEntry.mk (.int .i64 z) (.pointer (some ⟨q, 0, none⟩)) l.length)]).toArray (l.length + 1)) }) ?_ (kk _ (H.put (b := b) (o' := .map (mEs 0 (l ++ [(z, q)])).toArray (l ++ [(z, q)]).length) hfr (by rw [e3]; simp [hlt])) hfr)
 have hc : (Instr.checkKey false 10000 kt (.int .i64 z)).run P w = .ok () w := by
  rw [show (10000 : Nat) = 9999 + 1 from rfl, Instr.checkKey]
  simp [run_underlying hkt]
 obtain ⟨j, hfn⟩ := find_mEs l 0 0 z
 rw [hf] at hfn
 have e1 : (mEs 0 l).toArray.push (MapEntry.mk (.int .i64 z) (.pointer (some ⟨q, 0, none⟩)) l.length) = (mEs 0 l ++ [(MapEntry.mk (.int .i64 z) (.pointer (some ⟨q, 0, none⟩)) l.length)]).toArray := by simp
 simp only [execOp, hm, hk, hx]
 simp [Instr.mapUpdate, run_underlying hu, hg, hc, Instr.findKey, run_underlying hkt, hfn, hs]
end steps
theorem ents_b {T : TypeId} {l : PL} {x : Ent} (h : x ∈ ents T l) : x.b ∈ l.map Prod.fst := by
 obtain ⟨y, hy, rfl⟩ := List.mem_map.1 h
 exact List.mem_map.2 ⟨y, hy, rfl⟩
theorem b_ents {T : TypeId} {l : PL} {b : Nat} (h : b ∈ l.map Prod.fst) : ∃ x ∈ ents T l, x.b = b ∧ x.m = true := by
 obtain ⟨y, hy, rfl⟩ := List.mem_map.1 h
 exact ⟨_, List.mem_map.2 ⟨y, hy, rfl⟩, rfl, rfl⟩
theorem SH.apart {w0 w : World} {S : List Nat} {A : List Ent} {T : TypeId} {l : PL} (H : SH w0 S w (A ++ ents T l)) {x : Ent} (hx : x ∈ A) : x.b ∉ l.map Prod.fst := by
 intro h
 obtain ⟨y, hy, e, hm⟩ := b_ents (T := T) h
 exact (List.pairwise_append.1 H.ap).2.2 x hx y hy (by simp [hm]) e.symm
theorem SH.joinE {w0 w1 w2 : World} {S : List Nat} {A Y : List Ent} {T : TypeId} {l l' : PL} (H : SH w0 S w1 (A ++ ents T l)) (K : SH w1 (l.map Prod.fst) w2 (Y ++ ents T l')) (hl : l'.map Prod.fst = l.map Prod.fst) (hY : ∀ y ∈ Y, y.m = true) : SH w0 S w2 (Y ++ (A ++ ents T l')) := by
 have hYn : ∀ y ∈ Y, w1.heap.size ≤ y.b := fun y hy => (K.mu y (List.mem_append.2 (.inl hy)) (hY y hy)).resolve_left (by rw [← hl]; exact K.apart hy)
 have hA := (List.pairwise_append.1 H.ap)
 have hK := (List.pairwise_append.1 K.ap)
 refine ⟨H.fr.then K.fr ?_, ?_, ?_, ?_⟩
 ·intro t ht
  obtain ⟨x, hx, e, hm⟩ := b_ents (T := T) ht
  rw [← e]
  exact H.mu x (List.mem_append.2 (.inr hx)) hm
 ·intro x hx
  rcases List.mem_append.1 hx with hx | hx
  ·exact K.get x (List.mem_append.2 (.inl hx))
  ·rcases List.mem_append.1 hx with hx | hx
   ·exact K.fr.at (H.get x (List.mem_append.2 (.inl hx))) (H.apart hx)
   ·exact K.get x (List.mem_append.2 (.inr hx))
 ·rw [List.pairwise_append]
  refine ⟨hK.1, ?_, fun y hy x hx hm => ?_⟩
  ·rw [List.pairwise_append]
   refine ⟨hA.1, hK.2.1, fun x hx z hz hm e => ?_⟩
   exact H.apart hx (by rw [← hl, e]; exact ents_b hz)
  ·rcases List.mem_append.1 hx with hx | hx
   ·have h1 := hYn y hy
    have h2 := lt_of_at (H.get x (List.mem_append.2 (.inl hx)))
    omega
   ·exact hK.2.2 y hy x hx hm
 ·intro x hx hm
  rcases List.mem_append.1 hx with hx | hx
  ·exact .inr (Nat.le_trans H.size (hYn x hx))
  ·rcases List.mem_append.1 hx with hx | hx
   ·exact H.mu x (List.mem_append.2 (.inl hx)) hm
   ·have hb := ents_b hx
    rw [hl] at hb
    obtain ⟨y, hy, e, hm2⟩ := b_ents (T := T) hb
    rw [← e]
    exact H.mu y (List.mem_append.2 (.inr hy)) hm2
theorem SH.putE {w0 w1 w2 : World} {S : List Nat} {A : List Ent} {T : TypeId} {l : PL} {i : Nat} {x : Nat × List Value} {cs : List Value} (H : SH w0 S w1 (A ++ ents T l)) (hx : l[i]? = some x) (F : Fr [x.1] w1 w2) (hnew : w2.heap[x.1]? = some (.cells cs.toArray T (0, 0))) : SH w0 S w2 (A ++ ents T (l.set i (x.1, cs))) := by
 have hi := (List.getElem?_eq_some_iff.1 hx).1
 have e : l = l.take i ++ x :: l.drop (i + 1) := by
  have h1 := List.take_append_drop i l
  have h2 := List.drop_eq_getElem_cons hi
  have h3 := (List.getElem?_eq_some_iff.1 hx).2
  rw [h3] at h2
  rw [← h2, h1]
 have e2 : l.set i (x.1, cs) = l.take i ++ (x.1, cs) :: l.drop (i + 1) := by
  conv => lhs; rw [e]
  rw [List.set_append_right _ _ (by simp; omega)]
  congr 1
  simp [Nat.min_eq_left (Nat.le_of_lt hi)]
 have p1 : (A ++ ents T l).Perm (⟨x.1, .cells x.2.toArray T (0, 0), true⟩ :: (A ++ (ents T (l.take i) ++ ents T (l.drop (i + 1))))) := by
  conv => lhs; rw [e]
  have : ents T (l.take i ++ x :: l.drop (i + 1)) = ents T (l.take i) ++ ⟨x.1, .cells x.2.toArray T (0, 0), true⟩ :: ents T (l.drop (i + 1)) := by simp [ents]
  rw [this, ← List.append_assoc, ← List.append_assoc]
  exact List.perm_middle
 have p2 : (⟨x.1, .cells cs.toArray T (0, 0), true⟩ :: (A ++ (ents T (l.take i) ++ ents T (l.drop (i + 1)))) : List Ent).Perm (A ++ ents T (l.set i (x.1, cs))) := by
  rw [e2]
  have : ents T (l.take i ++ (x.1, cs) :: l.drop (i + 1)) = ents T (l.take i) ++ ⟨x.1, .cells cs.toArray T (0, 0), true⟩ :: ents T (l.drop (i + 1)) := by simp [ents]
  rw [this, ← List.append_assoc, ← List.append_assoc]
  exact List.perm_middle.symm
 exact ((H.perm p1).put (b := x.1) F hnew).perm p2
def arrT (ps : List GP) (i : Nat) : List UInt8 := (arrB ps).take (128 * i) ++ List.replicate (16384 - 128 * i) 0
theorem arrT_zero (ps : List GP) : arrT ps 0 = List.replicate 16384 0 := by unfold arrT; rw [Nat.mul_zero, List.take_zero, List.nil_append, Nat.sub_zero]
theorem arrT_end {ps : List GP} (h : (arrB ps).length = 16384) : arrT ps 128 = arrB ps := by
 unfold arrT
 rw [List.take_of_length_le (by omega)]; simp
theorem arrT_len {ps : List GP} {i : Nat} (h : (arrB ps).length = 16384) (hi : i ≤ 128) : (arrT ps i).length = 16384 := by
 unfold arrT
 rw [List.length_append, List.length_take, List.length_replicate]; omega
theorem arrT_step {ps : List GP} {i : Nat} (h : (arrB ps).length = 16384) (hi : i < 128) : pAt (arrT ps i) (128 * i) (entA (arrB ps) i) = arrT ps (i + 1) := by
 have hl : ((arrB ps).take (128 * i)).length = 128 * i := by rw [List.length_take]; omega
 have he : (entA (arrB ps) i).length = 128 := pcs_len (by omega)
 have e1 : arrT ps i = (arrB ps).take (128 * i) ++ (List.replicate 128 0 ++ List.replicate (16384 - 128 * (i + 1)) 0) := by
  unfold arrT
  rw [List.replicate_append_replicate, show 128 + (16384 - 128 * (i + 1)) = 16384 - 128 * i by omega]
 rw [e1, pAt_mid hl (by rw [he, List.length_replicate])]
 unfold arrT
 rw [← List.append_assoc]
 congr 1
 unfold entA pcs
 rw [← List.take_add, show 128 * i + 128 = 128 * (i + 1) by omega]
theorem arrT_skip {ps : List GP} {i : Nat} (h : (arrB ps).length = 16384) (hi : i < 128) (hz : entA (arrB ps) i = List.replicate 128 0) : arrT ps i = arrT ps (i + 1) := by
 have hl : ((arrB ps).take (128 * i)).length = 128 * i := by rw [List.length_take]; omega
 have e1 : arrT ps i = (arrB ps).take (128 * i) ++ (List.replicate 128 0 ++ List.replicate (16384 - 128 * (i + 1)) 0) := by
  unfold arrT
  rw [List.replicate_append_replicate, show 128 + (16384 - 128 * (i + 1)) = 16384 - 128 * i by omega]
 rw [← arrT_step h hi, hz]
 conv => rhs; rw [e1]
 rw [pAt_mid hl rfl, ← e1]
end Go.Proofs.YthcaejaaalkglaaGreatDoor.X
/- The map of partitions by their places. -/
namespace Go.Proofs.YthcaejaaalkglaaGreatDoor.X
set_option linter.unusedVariables false
open Go Go.RowKit
def pcY (y1 y2 : Value) (p : GP) : List Value := p.cells ++ [y1, y2]
def kvL (l : PL) (ps : List GP) (i : Nat) : List (Int × Nat) := ((ps.zip l).take i).map fun x => (x.1.ix, x.2.1)
theorem kvL_next {l : PL} {ps : List GP} {i : Nat} {p : GP} {x : Nat × List Value} (hp : ps[i]? = some p) (hx : l[i]? = some x) : kvL l ps (i + 1) = kvL l ps i ++ [(p.ix, x.1)] := by
 unfold kvL
 have h : (ps.zip l)[i]? = some (p, x) := by
  rw [List.getElem?_zip_eq_some]; exact ⟨hp, hx⟩
 rw [take_succ_get h, List.map_append]; rfl
theorem mem_kvL {l : PL} {ps : List GP} {i : Nat} {e : Int × Nat} (h : e ∈ kvL l ps i) : ∃ j p x, j < i ∧ ps[j]? = some p ∧ l[j]? = some x ∧ e = (p.ix, x.1) := by
 unfold kvL at h
 obtain ⟨y, hy, rfl⟩ := List.mem_map.1 h
 obtain ⟨j, hj⟩ := List.getElem?_of_mem hy
 rw [List.getElem?_take] at hj
 split at hj
 ·rename_i hji
  have h2 := List.getElem?_zip_eq_some.1 hj
  exact ⟨j, y.1, y.2, hji, h2.1, h2.2, rfl⟩
 ·cases hj
theorem pw_get {ps : List GP} (h : ps.Pairwise (fun x y => x.ix < y.ix)) {i j : Nat} {p q : GP} (hi : ps[i]? = some p) (hj : ps[j]? = some q) (hij : i < j) : p.ix < q.ix := by
 rw [List.pairwise_iff_getElem] at h
 obtain ⟨a1, a2⟩ := List.getElem?_eq_some_iff.1 hi
 obtain ⟨b1, b2⟩ := List.getElem?_eq_some_iff.1 hj
 rw [← a2, ← b2]; exact h i j a1 b1 hij
theorem kv_new {l : PL} {ps : List GP} (h : ps.Pairwise (fun x y => x.ix < y.ix)) {i : Nat} {p : GP} (hp : ps[i]? = some p) : mGet (kvL l ps i) p.ix = none := by
 unfold mGet
 rw [Option.map_eq_none_iff, List.find?_eq_none]
 intro e he
 obtain ⟨j, q, x, hj, hq, _, rfl⟩ := mem_kvL he
 have := pw_get h hq hp hj
 simp; omega
theorem kv_none {l : PL} {ps : List GP} {m : Nat} {z : Int} (h : mGet (kvL l ps m) z = none) (hl : l.length = m) (hp : ps.length = m) : ∀ p ∈ ps, p.ix ≠ z := by
 intro p hpm e
 unfold mGet at h
 rw [Option.map_eq_none_iff, List.find?_eq_none] at h
 obtain ⟨j, hj⟩ := List.getElem?_of_mem hpm
 have hjl := (List.getElem?_eq_some_iff.1 hj).1
 obtain ⟨x, hx⟩ : ∃ x, l[j]? = some x := ⟨_, List.getElem?_eq_getElem (by omega)⟩
 have hm : (p.ix, x.1) ∈ kvL l ps m := by
  unfold kvL
  refine List.mem_map.2 ⟨(p, x), ?_, rfl⟩
  refine List.mem_of_getElem? (i := j) ?_
  rw [List.getElem?_take, if_pos (by omega), List.getElem?_zip_eq_some]
  exact ⟨hj, hx⟩
 have := h _ hm
 simp at this
 exact this e
theorem kv_some {l : PL} {ps : List GP} {m : Nat} {z : Int} {b : Nat} (h : mGet (kvL l ps m) z = some b) : ∃ (j : Nat) (p : GP) (x : Nat × List Value), ps[j]? = some p ∧ l[j]? = some x ∧ p.ix = z ∧ b = x.1 := by
 unfold mGet at h
 rw [Option.map_eq_some_iff] at h
 obtain ⟨e, he, rfl⟩ := h
 have hm := List.mem_of_find?_eq_some he
 have hz := List.find?_some he
 obtain ⟨j, p, x, _, hp, hx, rfl⟩ := mem_kvL hm
 exact ⟨j, p, x, hp, hx, by simpa using hz, rfl⟩
structure Upd (l li : PL) (ps : List GP) (y1 y2 : Value) (i : Nat) : Prop where
 b : li.map Prod.fst = l.map Prod.fst
 c : li.map Prod.snd = ((ps.take i).map upG ++ ps.drop i).map (pcY y1 y2)
theorem Upd.zero {l : PL} {ps : List GP} {y1 y2 : Value} (h : l.map Prod.snd = ps.map (pcY y1 y2)) : Upd l l ps y1 y2 0 := ⟨rfl, by simpa using h⟩
theorem Upd.get {l li : PL} {ps : List GP} {y1 y2 : Value} {i : Nat} (h : Upd l li ps y1 y2 i) {p : GP} (hp : ps[i]? = some p) {x : Nat × List Value} (hx : l[i]? = some x) : li[i]? = some (x.1, pcY y1 y2 p) := by
 have hi := (List.getElem?_eq_some_iff.1 hp).1
 have e1 := congrArg (fun m => m[i]?) h.b
 have e2 := congrArg (fun m => m[i]?) h.c
 have e3 : ((ps.take i).map upG ++ ps.drop i)[i]? = some p := by
  rw [List.getElem?_append_right (by simp; omega), List.length_map, List.length_take, List.getElem?_drop, Nat.min_eq_left (Nat.le_of_lt hi), Nat.sub_self, Nat.add_zero, hp]
 simp only [List.getElem?_map, hx, Option.map_some] at e1
 rw [List.getElem?_map, List.getElem?_map, e3] at e2
 cases hy : li[i]? with
 | none => rw [hy] at e1; simp at e1
 | some y =>
  rw [hy] at e1 e2
  simp at e1 e2
  rw [← e1, ← e2]
theorem Upd.next {l li : PL} {ps : List GP} {y1 y2 : Value} {i : Nat} (h : Upd l li ps y1 y2 i) {p : GP} (hp : ps[i]? = some p) {x : Nat × List Value} (hx : l[i]? = some x) : Upd l (li.set i (x.1, pcY y1 y2 (upG p))) ps y1 y2 (i + 1) := by
 have hi := (List.getElem?_eq_some_iff.1 hp).1
 have hg := h.get hp hx
 refine ⟨?_, ?_⟩
 ·rw [List.map_set, ← h.b]
  refine List.ext_getElem? fun k => ?_
  by_cases hk : i = k
  ·subst hk
   rw [List.getElem?_set_self' ]
   simp [hg]
  ·rw [List.getElem?_set_ne hk]
 ·rw [List.map_set, h.c, ← List.map_set]
  congr 1
  have hd : ps.drop i = p :: ps.drop (i + 1) := by
   rw [List.drop_eq_getElem_cons hi, (List.getElem?_eq_some_iff.1 hp).2]
  rw [take_succ_get hp, List.map_append, List.set_append_right _ _ (by simp; omega), List.length_map, List.length_take, Nat.min_eq_left (Nat.le_of_lt hi), Nat.sub_self, hd, List.append_assoc]
  rfl
theorem Upd.all {l li : PL} {ps : List GP} {y1 y2 : Value} {i : Nat} (h : Upd l li ps y1 y2 i) (hi : ps.length ≤ i) : li.map Prod.snd = (ps.map upG).map (pcY y1 y2) := by
 rw [h.c, List.take_of_length_le hi, List.drop_of_length_le hi, List.append_nil]
theorem Upd.at {l li : PL} {ps : List GP} {y1 y2 : Value} {i j : Nat} (h : Upd l li ps y1 y2 i) (hi : ps.length ≤ i) {p : GP} (hp : ps[j]? = some p) {x : Nat × List Value} (hx : l[j]? = some x) : li[j]? = some (x.1, pcY y1 y2 (upG p)) := by
 have e1 := congrArg (fun m => m[j]?) h.b
 have e2 := congrArg (fun m => m[j]?) (h.all hi)
 simp only [List.getElem?_map, hx, hp, Option.map_some] at e1 e2
 cases hy : li[j]? with
 | none => rw [hy] at e1; simp at e1
 | some y =>
  rw [hy] at e1 e2
  simp at e1 e2
  rw [← e1, ← e2]
theorem ent_up {ps : List GP} {n : Nat} (hg : goodL n ps) {p : GP} (hp : p ∈ ps) : entA (arrB ps) (p.ix - 1).toNat = padE (upG p) := by
 have hf : ∀ p ∈ ps, p.fits := fun p hp => (hg.1 p hp).fits
 have h1 := (hg.1 p hp).ix
 have := entA_at ps (List.replicate 16384 0) p List.length_replicate hf hp (hg.2.imp fun h => by omega) (entA_zero (by omega))
 unfold padE
 rw [upG_entB]
 exact this
theorem SH.fld {w0 w : World} {S : List Nat} {L : List Ent} {T : TypeId} {l : PL} (H : SH w0 S w L) (hs : ∀ e ∈ ents T l, e ∈ L) {i k b : Nat} {cs : List Value} {v : Value} (h : l[i]? = some (b, cs)) (hv : cs[k]? = some v) : w.cell? ⟨b, k, none⟩ = some v := (cell_at (H.ptr hs h)).trans hv
theorem upd_get {li : PL} {i : Nat} {x y : Nat × List Value} (h : li[i]? = some x) : (li.set i y)[i]? = some y := by
 rw [List.getElem?_set_self (List.getElem?_eq_some_iff.1 h).1]
end Go.Proofs.YthcaejaaalkglaaGreatDoor.X
/- Walks of functions, printed by a program of this claim. -/
namespace Go.Proofs.YthcaejaaalkglaaGreatDoor.X
set_option linter.unusedVariables false
set_option linter.unusedSimpArgs false
open Go Go.RowKit
namespace PF
theorem ca76 : callable Tryz.prog 76 = true := by kernel_rfl
theorem ca77 : callable Tryz.prog 77 = true := by kernel_rfl
end PF
open PF
theorem zpPP : (Tryz.prog.info? 123).bind (·.zero) = some (.pointer none) := by kernel_rfl
set_option maxRecDepth 100000 in
set_option maxHeartbeats 8000000 in
theorem c_partArr (w : World) (t : Nat) (D : Option Addr) (m cap : Nat) (g : List UInt8) (pr rb ini : Bool) (frm crc my oth fi lx : Int) (l : PL) (ps : List GP) (y1 y2 : Value) (hsnd : l.map Prod.snd = ps.map (pcY y1 y2)) (hlen : l.length = m) (hrow : ∀ j x, l[j]? = some x → ∃ ad, D = some ad ∧ w.cell? (ad.add j) = some (.pointer (some ⟨x.1, 0, none⟩))) (hDn : ∀ ad, D = some ad → ad.block ∉ l.map Prod.fst) (n : Nat) (hg : goodL n ps) (hn : 80 ≤ n ∧ n ≤ 1000000) (hok : ∀ p ∈ ps, p.ok) (hft : ∀ p ∈ ps, p.fit) (hm : m ≤ 200) (H0 : SH w (l.map Prod.fst) w (⟨t, .cells (tbC D m cap 512 512 g pr rb 128 128 frm crc my oth fi lx ini).toArray 106 (0, 0), false⟩ :: ents 126 l)) : Calls Tryz.prog 53 #[.pointer (some ⟨t, 0, none⟩)] w (Ret fun v w' => ∃ q l', v = .tuple #[.slice (some ⟨q, 0, none⟩) 16384 16384, .nilIface] ∧ l'.map Prod.fst = l.map Prod.fst ∧ l'.map Prod.snd = (ps.map upG).map (pcY y1 y2) ∧ SH w (l.map Prod.fst) w' (⟨q, .cells (Bs (arrB ps)).toArray 5 (0, 0), true⟩ :: ents 126 l')) := by
 refine enter (fun ρ => .tuple #[ρ 2, ρ 3]) Tryz.func53 rfl rfl rfl (res2 rfl) ?_
 have H := H0
 have hpl : ps.length = m := by have := congrArg List.length hsnd; simp at this; omega
 have hfs : ∀ p ∈ ps, p.fits := fun p hp => (hg.1 p hp).fits
 have hal := arrB_len hfs
 refine sq ?_
 refine rg ?_
 refine asg (v := .slice _ _ _) rfl rfl ?_
 refine asg (v := .nilIface) rfl rfl ?_
 refine nl ?_
 refine then_n ?_
 refine sq ?_
 refine rg ?_
 refine mv (v := .pointer _) rfl rfl ?_
 refine nc rfl rfl ?_
 refine fa rfl fo106_1 rfl ?_
 refine ld H rfl sc3 rfl rfl ?_
 refine cvi rfl rfl Tryz.underlying28 (by first | exact w_u64 (by omega) | exact w_u64 (rng_u64 _) | exact m_u64 _) rfl ?_
 refine asg (v := .int .u64 _) rfl rfl ?_
 refine nl ?_
 refine then_n ?_
 refine sq ?_
 refine rg ?_
 refine mkm H rfl ?_
 clear H; intro b1 w1 hb1 H F
 refine asg (v := .map _) rfl rfl ?_
 refine nl ?_
 refine then_n ?_
 refine sq ?_
 refine sq ?_
 refine rg ?_
 refine mv (v := .pointer _) rfl rfl ?_
 refine nc rfl rfl ?_
 refine fa rfl fo106_0 rfl ?_
 refine ld H rfl sc104 rfl rfl ?_
 refine lnS rfl Tryz.underlying104 rfl ?_
 refine mv (v := .int .i64 _) rfl rfl ?_
 refine nl ?_
 refine then_n ?_
 refine bk ?_
 refine lpM (α := Nat × PL) [2, 3, 7, 8, 9, 10, 31, 32, 33, 34, 35, 36, 37, 38, 39, 40, 41, 42, 43, 44, 45, 46, 47, 48, 49, 50, 51, 52, 53, 54, 55, 56, 57, 58, 59, 60, 61, 62, 63, 64, 65, 66, 67, 68, 69, 70, 71, 72, 73, 74, 75] (fun (i, li) => [(31, .int .i64 (i : Int))]) (fun (i, li) w' => i ≤ m ∧ Upd l li ps y1 y2 i ∧ SH w (l.map Prod.fst) w' (⟨b1, .map (mEs 0 (kvL l ps i)).toArray (kvL l ps i).length, true⟩ :: ⟨t, .cells (tbC D m cap 512 512 g pr rb 128 128 frm crc my oth fi lx ini).toArray 106 (0, 0), false⟩ :: ents 126 li)) (fun (i, li) => m - i) (0, l) ?_ (fCX (fN _)) ?_
 ·exact ⟨by omega, Upd.zero hsnd, H⟩
 ·rintro ⟨i, li⟩ ρx w2 ⟨hi, hup, H⟩
  refine sq ?_
  refine rg ?_
  refine lss rfl rfl rfl ?_
  refine nl ?_
  refine then_n ?_
  refine sq ?_
  refine cd rfl (fun hc1 => ?_) (fun hc1 => ?_)
  ·obtain ⟨p, hpi⟩ : ∃ p, ps[i]? = some p := ⟨_, List.getElem?_eq_getElem (by omega)⟩
   obtain ⟨x, hx⟩ : ∃ x, l[i]? = some x := ⟨_, List.getElem?_eq_getElem (by omega)⟩
   obtain ⟨ad, rfl, hcell⟩ := hrow i x hx
   have hpm := List.mem_of_getElem? hpi
   have hli := hup.get hpi hx
   have hpx := (hg.1 p hpm).ix
   refine sk ?_
   refine then_n ?_
   refine sq ?_
   refine bk ?_
   refine sq ?_
   refine rg ?_
   refine iBN (ad.add i) rfl rfl Tryz.underlying104 sz123_1 (by omega) (by simp) rfl ?_
   refine lc (v := .pointer (some ⟨x.1, 0, none⟩)) rfl (H.fr.cell hcell (by rw [add_block]; exact hDn _ rfl)) sc123 rfl ?_
   refine asg (v := .pointer _) rfl rfl ?_
   refine nl ?_
   refine then_n ?_
   refine sq ?_
   refine rg ?_
   refine mv (v := .pointer _) rfl rfl ?_
   refine mv (v := .int .u64 _) rfl rfl ?_
   refine cl ca76 (c_initEntry _ x.1 n p y1 y2 (H.ptr (fun e he => by simp [he]) hli) (hg.1 p hpm) hn.2) rfl ?_
   rintro _ w3 ⟨rfl, F, hnew⟩
   replace H : SH w (l.map Prod.fst) w3 (_ :: _ :: ents 126 _) := H.putE (A := [_, _]) hli F hnew
   clear F hnew
   have hli2 := upd_get (y := (x.1, pcY y1 y2 (upG p))) hli
   refine asg (v := .nilIface) rfl rfl ?_
   refine nl ?_
   refine then_n ?_
   refine sq ?_
   refine sq ?_
   refine rg ?_
   refine mv (v := .nilIface) rfl rfl ?_
   refine neqI0 rfl Tryz.underlying73 rfl ?_
   refine nl ?_
   refine then_n ?_
   refine cbF rfl rfl ?_
   refine sk ?_
   refine then_n ?_
   refine sq ?_
   refine sq ?_
   refine dr (by kernel_rfl) ?_
   have H := H.drew
   refine holdH H [] ?_
   refine tk (i := 0) rfl (by kernel_rfl) rfl H (fun w' H => r_mv (v := .pointer _) rfl) ?_
   refine tk (i := 1) rfl (by kernel_rfl) rfl H (fun w' H => r_nc rfl) ?_
   refine tk (i := 2) rfl (by kernel_rfl) rfl H (fun w' H => r_fa rfl fo126_0) ?_
   refine tk (i := 3) rfl (by kernel_rfl) rfl H (fun w' H => r_lc (v := .int .i64 p.ix) rfl (H.fld (fun e he => .tail _ (.tail _ he)) hli2 (k := 0) rfl) sc3) ?_
   refine tk (i := 4) rfl (by kernel_rfl) rfl H (fun w' H => r_lss rfl rfl) ?_
   refine tk (i := 5) rfl (by kernel_rfl) rfl H (fun w' H => r_mv (v := .bool _) rfl) ?_
   refine spaF (t := 46) rfl (by omega) ?_
   refine tkg (i := 6) rfl (by kernel_rfl) rfl H rfl (fun w' H => r_mv (v := .pointer _) rfl) ?_
   refine tkg (i := 7) rfl (by kernel_rfl) rfl H rfl (fun w' H => r_nc rfl) ?_
   refine tkg (i := 8) rfl (by kernel_rfl) rfl H rfl (fun w' H => r_fa rfl fo126_0) ?_
   refine tkg (i := 9) rfl (by kernel_rfl) rfl H rfl (fun w' H => r_lc (v := .int .i64 p.ix) rfl (H.fld (fun e he => .tail _ (.tail _ he)) hli2 (k := 0) rfl) sc3) ?_
   refine tkg (i := 10) rfl (by kernel_rfl) rfl H rfl (fun w' H => r_mv (v := .pointer _) rfl) ?_
   refine tkg (i := 11) rfl (by kernel_rfl) rfl H rfl (fun w' H => r_nc rfl) ?_
   refine tkg (i := 12) rfl (by kernel_rfl) rfl H rfl (fun w' H => r_fa rfl fo106_6) ?_
   refine tkg (i := 13) rfl (by kernel_rfl) rfl H rfl (fun w' H => r_ld H rfl sc3 rfl) ?_
   refine tkg (i := 14) rfl (by kernel_rfl) rfl H rfl (fun w' H => r_gtr rfl rfl) ?_
   refine tk (i := 15) rfl (by kernel_rfl) rfl H (fun w' H => r_pkF (v := .bool _) rfl rfl) ?_
   refine da (by kernel_rfl) ?_
   refine then_n ?_
   refine cF rfl (by omega) ?_
   refine sk ?_
   refine then_n ?_
   refine sq ?_
   refine sq ?_
   refine rg ?_
   refine mv (v := .map _) rfl rfl ?_
   refine mv (v := .pointer _) rfl rfl ?_
   refine nc rfl rfl ?_
   refine fa rfl fo126_0 rfl ?_
   refine lc (v := .int .i64 p.ix) rfl (H.fld (fun e he => .tail _ (.tail _ he)) hli2 (k := 0) rfl) sc3 rfl ?_
   refine lkC (l := kvL l ps i) (clock := _) H rfl rfl Tryz.underlying147 Tryz.underlying3 zpPP rfl ?_
   refine mv (v := .tuple _) rfl rfl ?_
   refine xt rfl rfl rfl ?_
   refine xt rfl rfl rfl ?_
   refine asg (v := .pointer _) rfl rfl ?_
   refine asg (v := .bool _) rfl rfl ?_
   refine nl ?_
   refine then_n ?_
   refine sq ?_
   refine rg ?_
   refine mv (v := .bool _) rfl rfl ?_
   refine nl ?_
   refine then_n ?_
   refine cbF rfl (by rw [kv_new hg.2 hpi]; rfl) ?_
   refine sk ?_
   refine then_n ?_
   refine rg ?_
   refine mv (v := .map _) rfl rfl ?_
   refine mv (v := .pointer _) rfl rfl ?_
   refine nc rfl rfl ?_
   refine fa rfl fo126_0 rfl ?_
   refine lc (v := .int .i64 p.ix) rfl (H.fld (fun e he => .tail _ (.tail _ he)) hli2 (k := 0) rfl) sc3 rfl ?_
   refine mv (v := .pointer _) rfl rfl ?_
   refine mup (l := kvL l ps i) H rfl rfl rfl Tryz.underlying147 Tryz.underlying3 (kv_new hg.2 hpi) ?_
   clear H; intro w97 H _
   refine nl ?_
   refine in_n ?_
   refine then_n ?_
   refine rg ?_
   refine add rfl rfl (by first | exact w_i64 (by omega) | exact w_i64 (rng_i64 _) | rfl) rfl ?_
   refine mv (v := .int .i64 _) rfl rfl ?_
   refine nl ?_
   refine loop_n ?_
   exact ⟨(i + 1, li.set i (x.1, pcY y1 y2 (upG p))), (by (try dsimp only); omega), ⟨by omega, hup.next hpi hx, by rw [kvL_next hpi hx]; exact H⟩, (fCX (fN _)), agX⟩
  ·have him : i = m := by omega
   rw [him] at hup H
   refine ex ?_
   refine then_e ?_
   refine loop_e ?_
   refine in_hit rfl ?_
   refine then_n ?_
   refine sq ?_
   refine dr (by kernel_rfl) ?_
   have H := H.drew
   refine hold (fun _ => True) [] ?_
   refine tk (i := 0) rfl (by kernel_rfl) rfl trivial (fun _ _ => r_mv (v := .pointer _) rfl) ?_
   refine tk (i := 1) rfl (by kernel_rfl) rfl trivial (fun _ _ => r_nc rfl) ?_
   refine tk (i := 2) rfl (by kernel_rfl) rfl trivial (fun _ _ => r_fa rfl fo106_7) ?_
   refine tk (i := 4) rfl (by kernel_rfl) rfl trivial (fun _ _ => r_mv (v := .pointer _) rfl) ?_
   refine tk (i := 5) rfl (by kernel_rfl) rfl trivial (fun _ _ => r_nc rfl) ?_
   refine tk (i := 6) rfl (by kernel_rfl) rfl trivial (fun _ _ => r_fa rfl fo106_6) ?_
   refine unfree ?_
   refine holdH H [] ?_
   refine tk (i := 3) rfl (by kernel_rfl) rfl H (fun w' H => r_ld H rfl sc58 rfl) ?_
   refine tk (i := 7) rfl (by kernel_rfl) rfl H (fun w' H => r_ld H rfl sc3 rfl) ?_
   refine tk (i := 8) rfl (by kernel_rfl) rfl H (fun w' H => r_cvi rfl rfl Tryz.underlying58 (by first | exact w_u32 (by omega) | exact w_u32 (rng_u32 _) | exact m_u32 _)) ?_
   refine tk (i := 9) rfl (by kernel_rfl) rfl H (fun w' H => r_mul rfl rfl (by first | exact w_u32 (by omega) | exact w_u32 (rng_u32 _) | exact m_u32 _)) ?_
   refine tk (i := 10) rfl (by kernel_rfl) rfl H (fun w' H => r_asg (v := .int .u32 _) rfl) ?_
   refine da (by kernel_rfl) ?_
   refine then_n ?_
   refine sq ?_
   refine rg ?_
   refine mv (v := .int .u32 _) rfl rfl ?_
   refine mkB H rfl rfl Tryz.underlying30 mi5 (by omega) (by omega) (by omega) (by omega) rfl ?_
   clear H; intro b2 w4 hb2 H _
   refine asg (v := .slice _ _ _) rfl rfl ?_
   refine nl ?_
   refine then_n ?_
   refine sq ?_
   refine sq ?_
   refine rg ?_
   replace H := sh_cells0 (cs' := Bs (arrT ps 0)) H (by rw [arrT_zero]; rfl)
   refine asg (v := .int .i64 _) rfl rfl ?_
   refine nl ?_
   refine then_n ?_
   refine bk ?_
   refine lpM (α := Nat) [2, 3, 13, 14, 15, 16, 17, 18, 19, 88, 89, 90, 91, 92, 93, 94, 95, 96, 97, 98, 99, 100, 101, 102, 103, 104, 105, 106, 107, 108, 109, 110, 111, 112, 113, 114, 115, 116, 117, 118, 119, 120, 121, 122, 123, 124, 125, 126, 127, 128, 129, 130, 131, 132] (fun j => [(13, .int .i64 (j : Int))]) (fun j w' => j ≤ 128 ∧ SH w (l.map Prod.fst) w' (⟨b2, .cells (Bs (arrT ps j)).toArray 5 (0, 0), true⟩ :: ⟨b1, .map (mEs 0 (kvL l ps m)).toArray (kvL l ps m).length, true⟩ :: ⟨t, .cells (tbC D m cap 512 512 g pr rb 128 128 frm crc my oth fi lx ini).toArray 106 (0, 0), false⟩ :: ents 126 li)) (fun j => 128 - j) 0 ?_ (fCX (fN _)) ?_
   ·exact ⟨by omega, H⟩
   ·rintro j ρx w5 ⟨hj, H⟩
    have hjl := arrT_len (i := j) hal hj
    refine sq ?_
    refine sq ?_
    refine rg ?_
    refine mv (v := .int .i64 _) rfl rfl ?_
    refine mv (v := .pointer _) rfl rfl ?_
    refine nc rfl rfl ?_
    refine fa rfl fo106_6 rfl ?_
    refine ld H rfl sc3 rfl rfl ?_
    refine lss rfl rfl rfl ?_
    refine nl ?_
    refine then_n ?_
    refine cd rfl (fun hc5 => ?_) (fun hc5 => ?_)
    ·refine sk ?_
     refine then_n ?_
     refine sq ?_
     refine bk ?_
     refine sq ?_
     refine rg ?_
     refine mv (v := .map _) rfl rfl ?_
     refine mv (v := .int .i64 _) rfl rfl ?_
     refine add rfl rfl (by first | exact w_i64 (by omega) | exact w_i64 (rng_i64 _) | rfl) rfl ?_
     refine lkC (l := kvL l ps m) (clock := _) H rfl rfl Tryz.underlying147 Tryz.underlying3 zpPP rfl ?_
     refine mv (v := .tuple _) rfl rfl ?_
     refine xt rfl rfl rfl ?_
     refine xt rfl rfl rfl ?_
     refine asg (v := .pointer _) rfl rfl ?_
     refine asg (v := .bool _) rfl rfl ?_
     refine nl ?_
     refine then_n ?_
     refine sq ?_
     refine sq ?_
     refine rg ?_
     refine mv (v := .bool _) rfl rfl ?_
     refine unot rfl rfl ?_
     refine nl ?_
     refine then_n ?_
     refine cn rfl (fun hc6 => ?_) (fun hc6 => ?_)
     ·have hno : mGet (kvL l ps m) ((j : Int) + 1) = none := by simpa using hc6
      refine ex ?_
      refine then_e ?_
      refine in_hit rfl ?_
      refine then_n ?_
      refine rg ?_
      refine mv (v := .int .i64 _) rfl rfl ?_
      refine add rfl rfl (by first | exact w_i64 (by omega) | exact w_i64 (rng_i64 _) | rfl) rfl ?_
      refine asg (v := .int .i64 _) rfl rfl ?_
      refine nl ?_
      refine loop_n ?_
      exact ⟨j + 1, (by (try dsimp only); omega), ⟨by omega, by rw [← arrT_skip hal (by omega) (entA_free hfs (by omega) (fun p hp e => kv_none hno hlen hpl p hp (by have := (hg.1 p hp).ix; omega)))]; exact H⟩, (fCX (fN _)), agX⟩
     ·obtain ⟨bq, hbq⟩ : ∃ b, mGet (kvL l ps m) ((j : Int) + 1) = some b := Option.isSome_iff_exists.1 (by simpa using hc6)
      rw [hbq]
      obtain ⟨k, p, x, hpk, hxk, hpz, rfl⟩ := kv_some hbq
      have hpm := List.mem_of_getElem? hpk
      have hent : entA (arrB ps) j = padE (upG p) := by have := ent_up hg hpm; rwa [show (p.ix - 1).toNat = j by omega] at this
      refine sk ?_
      refine then_n ?_
      refine sq ?_
      refine rg ?_
      refine mv (v := .pointer _) rfl rfl ?_
      refine cl ca77 (c_ptBytes _ x.1 n (upG p) y1 y2 (H.ptr (fun e he => by simp [he]) (hup.at (by omega) hpk hxk)) (upG_good (hg.1 p hpm)) hn.2 ⟨(hok p hpm).ix, (hok p hpm).st, (hok p hpm).en, (hok p hpm).sz, (hok p hpm).att⟩ (hft p hpm).nm) rfl ?_
      rintro _ w6 ⟨q3, rfl, hq3, hn3, F⟩
      replace H := H.new F hq3 hn3; clear F hn3
      refine mv (v := .tuple _) rfl rfl ?_
      refine xt rfl rfl rfl ?_
      refine xt rfl rfl rfl ?_
      refine asg (v := .slice _ _ _) rfl rfl ?_
      refine asg (v := .nilIface) rfl rfl ?_
      refine nl ?_
      refine then_n ?_
      refine sq ?_
      refine sq ?_
      refine rg ?_
      refine mv (v := .nilIface) rfl rfl ?_
      refine neqI0 rfl Tryz.underlying73 rfl ?_
      refine nl ?_
      refine then_n ?_
      refine cbF rfl rfl ?_
      refine sk ?_
      refine then_n ?_
      refine sq ?_
      refine rg ?_
      refine mv (v := .int .i64 _) rfl rfl ?_
      refine mv (v := .pointer _) rfl rfl ?_
      refine nc rfl rfl ?_
      refine fa rfl fo106_7 rfl ?_
      refine ld H rfl sc58 rfl rfl ?_
      refine cvi rfl rfl Tryz.underlying3 (by first | exact w_i64 (by omega) | exact w_i64 (rng_i64 _) | rfl) rfl ?_
      refine mul rfl rfl (by first | exact w_i64 (by omega) | exact w_i64 (rng_i64 _) | rfl) rfl ?_
      refine asg (v := .int .i64 _) rfl rfl ?_
      refine nl ?_
      refine then_n ?_
      refine sq ?_
      refine rg ?_
      refine mv (v := .int .i64 _) rfl rfl ?_
      refine mv (v := .pointer _) rfl rfl ?_
      refine nc rfl rfl ?_
      refine fa rfl fo106_7 rfl ?_
      refine ld H rfl sc58 rfl rfl ?_
      refine cvi rfl rfl Tryz.underlying3 (by first | exact w_i64 (by omega) | exact w_i64 (rng_i64 _) | rfl) rfl ?_
      refine add rfl rfl (by first | exact w_i64 (by omega) | exact w_i64 (rng_i64 _) | rfl) rfl ?_
      refine asg (v := .int .i64 _) rfl rfl ?_
      refine nl ?_
      refine then_n ?_
      refine rg ?_
      refine mv (v := .slice _ _ _) rfl rfl ?_
      refine mv (v := .int .i64 _) rfl rfl ?_
      refine mv (v := .int .i64 _) rfl rfl ?_
      refine sllhN (128 * j) (128) (16384 - 128 * j) rfl rfl rfl Tryz.underlying30 sz5_1 (by omega) (by omega) rfl ?_
      refine mv (v := .slice _ _ _) rfl rfl ?_
      refine cpP (bs := padE (upG p)) H rfl rfl Tryz.underlying30 sz5_1 (RB.allm (b := q3) H (padE_len (upG_good (hg.1 p hpm)).fits)) (by decide) (by omega) (by omega) rfl ?_
      clear H; intro w7 H _ hlq
      refine nl ?_
      refine in_n ?_
      refine then_n ?_
      refine rg ?_
      refine mv (v := .int .i64 _) rfl rfl ?_
      refine add rfl rfl (by first | exact w_i64 (by omega) | exact w_i64 (rng_i64 _) | rfl) rfl ?_
      refine asg (v := .int .i64 _) rfl rfl ?_
      refine nl ?_
      refine loop_n ?_
      exact ⟨j + 1, (by (try dsimp only); omega), ⟨by omega, by rw [← arrT_step hal (by omega), hent]; exact H.subX⟩, (fCX (fN _)), agX⟩
    ·refine ex ?_
     refine then_e ?_
     refine loop_e ?_
     refine in_hit rfl ?_
     refine then_n ?_
     refine sq ?_
     refine rg ?_
     refine mv (v := .slice _ _ _) rfl rfl ?_
     refine asg (v := .slice _ _ _) rfl rfl ?_
     refine asg (v := .nilIface) rfl rfl ?_
     refine nl ?_
     refine then_n ?_
     refine rt ?_
     refine fin_r ?_
     obtain rfl : j = 128 := by omega
     rw [arrT_end hal] at H
     exact ⟨b2, li, rfl, hup.b, hup.all (by omega), H.subX⟩
end Go.Proofs.YthcaejaaalkglaaGreatDoor.X
/- A header, field by field; a call's own heap. -/
namespace Go.Proofs.YthcaejaaalkglaaGreatDoor.X
set_option linter.unusedVariables false
set_option linter.unusedSimpArgs false
open Go Go.RowKit
theorem hdr_put2 {a o e n c : Int} {gu : List UInt8} (h : gu.length = 16) :
  pAt (pAt (pAt (pAt (pAt (pAt (pAt (pAt (pAt (pAt (pAt (pAt (pAt (pAt (List.replicate 512 0) 0 efiL) 8 [0, 0, 1, 0]) 12 [92, 0, 0, 0]) 16 [0, 0, 0, 0]) 20 [0, 0, 0, 0]) 24 (leB 8 a)) 32 (leB 8 o)) 40 (leB 8 34)) 48 (leB 8 (n - 34))) 56 gu) 72 (leB 8 e)) 80 (leB 4 128)) 84 (leB 4 128)) 88 (leB 4 c) = hdrS 0 a o e n gu c ++ List.replicate 420 0 := by
 have e0 : pAt (List.replicate 512 0) 0 efiL = pz efiL := rfl
 have l0 : efiL.length = 8 := rfl
 rw [e0, pz_app (p := 8) (by simp [l0]) (by simp), pz_app (p := 12) (by simp [l0]) (by simp), pz_app (p := 16) (by simp [l0]) (by simp), pz_app (p := 20) (by simp [l0]) (by simp),
  pz_app (p := 24) (by simp [l0]) (by rw [leB_len]; omega), pz_app (p := 32) (by simp [l0, leB_len]) (by rw [leB_len]; omega), pz_app (p := 40) (by simp [l0, leB_len]) (by rw [leB_len]; omega), pz_app (p := 48) (by simp [l0, leB_len]) (by rw [leB_len]; omega),
  pz_app (p := 56) (by simp [l0, leB_len]) (by rw [h]; omega), pz_app (p := 72) (by simp [l0, leB_len, h]) (by rw [leB_len]; omega), pz_app (p := 80) (by simp [l0, leB_len, h]) (by rw [leB_len]; omega), pz_app (p := 84) (by simp [l0, leB_len, h]) (by rw [leB_len]; omega), pz_app (p := 88) (by simp [l0, leB_len, h]) (by rw [leB_len]; omega)]
 have hs : efiL ++ [0, 0, 1, 0] ++ [92, 0, 0, 0] ++ [0, 0, 0, 0] ++ [0, 0, 0, 0] ++ leB 8 a ++ leB 8 o ++ leB 8 34 ++ leB 8 (n - 34) ++ gu ++ leB 8 e ++ leB 4 128 ++ leB 4 128 ++ leB 4 c = hdrS 0 a o e n gu c := by
  have e1 : leB 4 65536 = [0, 0, 1, 0] := by decide
  have e2 : leB 4 92 = [92, 0, 0, 0] := by decide
  have e3 : leB 4 0 = [0, 0, 0, 0] := by decide
  unfold hdrS
  rw [e1, e2, e3]
 rw [hs, pz_eq (by rw [hdrS_len h]; omega), hdrS_len h]
theorem set_sameH {l : List UInt8} {i : Nat} {v : UInt8} (h : l[i]? = some v) : l.set i v = l := by
 refine List.ext_getElem? fun k => ?_
 by_cases hk : i = k
 ·subst hk
  have hi := (List.getElem?_eq_some_iff.1 h).1
  rw [List.getElem?_set_self hi, h]
 ·rw [List.getElem?_set_ne hk]
theorem hdr_zero {a o e n c : Int} {gu : List UInt8} {i : Nat} (h : gu.length = 16) (hi : 92 ≤ i ∧ i < 512) : (hdrB a o e n gu c).set i (b8 0) = hdrB a o e n gu c := by
 refine set_sameH ?_
 unfold hdrB
 rw [List.getElem?_append_right (by rw [hdrS_len h]; omega), hdrS_len h, List.getElem?_replicate, if_pos (by omega)]
 rfl
theorem SH.rebase {w0 w1 : World} {S : List Nat} {A : List Ent} {te : Ent} {T : TypeId} {l : PL} (H : SH w0 S w1 (A ++ (te :: ents T l))) (hm : te.m = false) : SH w1 (l.map Prod.fst) w1 (te :: ents T l) :=
 SH.init _ _ (fun x hx => H.get x (List.mem_append.2 (.inr hx))) (List.pairwise_append.1 H.ap).2.1 (fun x hx h => by
  rcases List.mem_cons.1 hx with rfl | hx
  ·rw [hm] at h; cases h
  ·exact ents_b hx)
def genP (oth : Int) : List UInt8 := pAt (pAt (((pAt (List.replicate 512 0) 510 [85, 170]).set 446 (b8 0)).set 450 (b8 238)) 454 (leB 4 1)) 458 (leB 4 oth)
theorem genP_len (oth : Int) : (genP oth).length = 512 := by
 have h0 : (List.replicate 512 (0 : UInt8)).length = 512 := List.length_replicate
 have h1 : (pAt (List.replicate 512 0) 510 [85, 170]).length = 512 := by rw [pAt_len (by rw [h0]; decide), h0]
 have h2 : (((pAt (List.replicate 512 0) 510 [85, 170]).set 446 (b8 0)).set 450 (b8 238)).length = 512 := by rw [List.length_set, List.length_set, h1]
 have h3 : (pAt (((pAt (List.replicate 512 0) 510 [85, 170]).set 446 (b8 0)).set 450 (b8 238)) 454 (leB 4 1)).length = 512 := by rw [pAt_len (by rw [leB_len, h2]; decide), h2]
 unfold genP
 rw [pAt_len (by rw [leB_len, h3]; decide), h3]
end Go.Proofs.YthcaejaaalkglaaGreatDoor.X
/- Walks of functions, printed by a program of this claim. -/
namespace Go.Proofs.YthcaejaaalkglaaGreatDoor.X
set_option linter.unusedVariables false
set_option linter.unusedSimpArgs false
open Go Go.RowKit
namespace PF
theorem ca74 : callable Tryz.prog 74 = true := by kernel_rfl
theorem fo106_12 : fieldOff Tryz.prog 106 12 = some 12 := by kernel_rfl
theorem fo106_13 : fieldOff Tryz.prog 106 13 = some 13 := by kernel_rfl
end PF
open PF
set_option maxRecDepth 100000 in
set_option maxHeartbeats 2000000 in
theorem c_pas (w : World) (t : Nat) (D : Option Addr) (m cap : Nat) (g : List UInt8) (pr rb : Bool) (frm crc : Int) (n : Nat) (hn : 80 ≤ n ∧ n ≤ 1000000) (pb : Bool) (hp : w.heap[t]? = some (.cells (tbC D m cap 512 512 g pr rb 128 128 frm crc 1 ((n : Int) - 1) 34 ((n : Int) - 34) true).toArray 106 (0, 0))) : Calls Tryz.prog 54 #[.pointer (some ⟨t, 0, none⟩), .bool pb] w (Ret fun v w' => v = .int .u64 (if pb then 2 else (n : Int) - 33) ∧ Fr [] w w') := by
 refine enter (fun ρ => ρ 4) Tryz.func54 rfl rfl rfl (res1 rfl) ?_
 have H := SH.ro1 hp
 refine sq ?_
 refine rg ?_
 refine asg (v := .int .u64 _) rfl rfl ?_
 refine nl ?_
 refine then_n ?_
 refine sq ?_
 refine sq ?_
 refine rg ?_
 refine mv (v := .bool _) rfl rfl ?_
 refine nl ?_
 refine then_n ?_
 refine cn rfl (fun hc1 => ?_) (fun hc1 => ?_)
 ·refine sq ?_
  refine rg ?_
  refine mv (v := .pointer _) rfl rfl ?_
  refine nc rfl rfl ?_
  refine fa rfl fo106_10 rfl ?_
  refine ld H rfl sc28 rfl rfl ?_
  refine add (c := 2) rfl rfl rfl rfl ?_
  refine asg (v := .int .u64 _) rfl rfl ?_
  refine nl ?_
  refine then_n ?_
  refine rt ?_
  refine then_r ?_
  refine fin_r ?_
  exact ⟨by rw [hc1]; rfl, H.fr⟩
 ·refine sk ?_
  refine then_n ?_
  refine sq ?_
  refine dr (by kernel_rfl) ?_
  have H := H.drew
  refine hold (fun _ => True) [] ?_
  refine tk (i := 0) rfl (by kernel_rfl) rfl trivial (fun _ _ => r_mv (v := .pointer _) rfl) ?_
  refine tk (i := 1) rfl (by kernel_rfl) rfl trivial (fun _ _ => r_nc rfl) ?_
  refine tk (i := 2) rfl (by kernel_rfl) rfl trivial (fun _ _ => r_fa rfl fo106_11) ?_
  refine tk (i := 4) rfl (by kernel_rfl) rfl trivial (fun _ _ => r_mv (v := .pointer _) rfl) ?_
  refine tk (i := 5) rfl (by kernel_rfl) rfl trivial (fun _ _ => r_nc rfl) ?_
  refine tk (i := 6) rfl (by kernel_rfl) rfl trivial (fun _ _ => r_fa rfl fo106_6) ?_
  refine tk (i := 9) rfl (by kernel_rfl) rfl trivial (fun _ _ => r_mv (v := .pointer _) rfl) ?_
  refine tk (i := 10) rfl (by kernel_rfl) rfl trivial (fun _ _ => r_nc rfl) ?_
  refine tk (i := 11) rfl (by kernel_rfl) rfl trivial (fun _ _ => r_fa rfl fo106_7) ?_
  refine tk (i := 15) rfl (by kernel_rfl) rfl trivial (fun _ _ => r_mv (v := .pointer _) rfl) ?_
  refine tk (i := 16) rfl (by kernel_rfl) rfl trivial (fun _ _ => r_nc rfl) ?_
  refine tk (i := 17) rfl (by kernel_rfl) rfl trivial (fun _ _ => r_fa rfl fo106_1) ?_
  refine unfree ?_
  refine holdH H [] ?_
  refine tk (i := 3) rfl (by kernel_rfl) rfl H (fun w' H => r_ld H rfl sc28 rfl) ?_
  refine tk (i := 7) rfl (by kernel_rfl) rfl H (fun w' H => r_ld H rfl sc3 rfl) ?_
  refine tk (i := 8) rfl (by kernel_rfl) rfl H (fun w' H => r_cvi rfl rfl Tryz.underlying28 (by first | exact w_u64 (by omega) | exact w_u64 (rng_u64 _) | exact m_u64 _)) ?_
  refine tk (i := 12) rfl (by kernel_rfl) rfl H (fun w' H => r_ld H rfl sc58 rfl) ?_
  refine tk (i := 13) rfl (by kernel_rfl) rfl H (fun w' H => r_cvi rfl rfl Tryz.underlying28 (by first | exact w_u64 (by omega) | exact w_u64 (rng_u64 _) | exact m_u64 _)) ?_
  refine tk (i := 14) rfl (by kernel_rfl) rfl H (fun w' H => r_mul rfl rfl (by first | exact w_u64 (by omega) | exact w_u64 (rng_u64 _) | exact m_u64 _)) ?_
  refine tk (i := 18) rfl (by kernel_rfl) rfl H (fun w' H => r_ld H rfl sc3 rfl) ?_
  refine tk (i := 19) rfl (by kernel_rfl) rfl H (fun w' H => r_cvi rfl rfl Tryz.underlying28 (by first | exact w_u64 (by omega) | exact w_u64 (rng_u64 _) | exact m_u64 _)) ?_
  refine tk (i := 20) rfl (by kernel_rfl) rfl H (fun w' H => r_quo (c := 32) rfl rfl (by decide) (by decide) rfl) ?_
  refine tk (i := 21) rfl (by kernel_rfl) rfl H (fun w' H => r_sub (c := (n : Int) - 33) rfl rfl (by rw [w_u64 (by omega)]; omega)) ?_
  refine tk (i := 22) rfl (by kernel_rfl) rfl H (fun w' H => r_asg (v := .int .u64 _) rfl) ?_
  refine da (by kernel_rfl) ?_
  refine then_n ?_
  refine rt ?_
  refine fin_r ?_
  exact ⟨by rw [hc1]; rfl, H.fr⟩
set_option maxRecDepth 100000 in
set_option maxHeartbeats 4000000 in
theorem c_genProt (w : World) (t : Nat) (D : Option Addr) (m cap : Nat) (g : List UInt8) (pr rb : Bool) (frm crc : Int) (n : Nat) (hn : 80 ≤ n ∧ n ≤ 1000000) (hp : w.heap[t]? = some (.cells (tbC D m cap 512 512 g pr rb 128 128 frm crc 1 ((n : Int) - 1) 34 ((n : Int) - 34) true).toArray 106 (0, 0))) : Calls Tryz.prog 57 #[.pointer (some ⟨t, 0, none⟩)] w (Ret fun v w' => ∃ b, v = .slice (some ⟨b, 0, none⟩) 512 512 ∧ w.heap.size ≤ b ∧ w'.heap[b]? = some (.cells (Bs (genP ((n : Int) - 1))).toArray 5 (0, 0)) ∧ Fr [] w w') := by
 refine enter (fun ρ => ρ 2) Tryz.func57 rfl rfl rfl (res1 rfl) ?_
 have H := SH.ro1 hp
 have h0 : (List.replicate 512 (0 : UInt8)).length = 512 := List.length_replicate
 refine sq ?_
 refine rg ?_
 refine asg (v := .slice _ _ _) rfl rfl ?_
 refine nl ?_
 refine then_n ?_
 refine sq ?_
 refine rg ?_
 refine mkB H rfl rfl Tryz.underlying30 mi5 (by omega) (by omega) (by omega) (by omega) rfl ?_
 clear H; intro b1 w1 hb1 H _
 replace H := sh_cells0 (cs' := Bs (List.replicate 512 0)) H rfl
 refine asg (v := .slice _ _ _) rfl rfl ?_
 refine nl ?_
 refine then_n ?_
 refine sq ?_
 refine dr (by kernel_rfl) ?_
 have H := H.drew
 refine hold (fun _ => True) [] ?_
 refine tk (i := 0) rfl (by kernel_rfl) rfl trivial (fun _ _ => r_mv (v := .slice _ _ _) rfl) ?_
 refine tk (i := 1) rfl (by kernel_rfl) rfl trivial (fun _ _ => r_sllN (510) (2) (2) rfl rfl Tryz.underlying30 sz5_1 (by omega) (by omega)) ?_
 refine unfree ?_
 refine fo (i := 2) (by kernel_rfl) rfl rfl ?_
 refine cl ca78 (c_getMs _) rfl ?_
 rintro _ w2 ⟨b2, rfl, hb2, ho2, F⟩
 replace H := H.new F hb2 ho2; clear F ho2
 refine nl ?_
 refine then_n ?_
 refine fo (i := 3) (by kernel_rfl) rfl rfl ?_
 refine cpP (bs := [85, 170]) H rfl rfl Tryz.underlying30 sz5_1 (RB.allL [85, 170] H rfl) (by decide) (by omega) (by omega) rfl ?_
 clear H; intro w3 H _ hl1
 refine nl ?_
 refine then_n ?_
 refine dn (by kernel_rfl) ?_
 refine then_n ?_
 refine sq ?_
 refine rg ?_
 refine mv (v := .slice _ _ _) rfl rfl ?_
 refine sllhN (446) (16) (66) rfl rfl rfl Tryz.underlying30 sz5_1 (by omega) (by omega) rfl ?_
 refine asg (v := .slice _ _ _) rfl rfl ?_
 refine nl ?_
 refine then_n ?_
 refine sq ?_
 refine rg ?_
 refine mv (v := .slice _ _ _) rfl rfl ?_
 refine iaN (446) rfl rfl Tryz.underlying30 sz5_1 (by omega) (by omega) rfl ?_
 refine stb H rfl rfl sc5 (by decide) (by omega) (by omega) ?_
 clear H; intro w91 H _
 refine nl ?_
 refine then_n ?_
 refine sq ?_
 refine rg ?_
 refine mv (v := .slice _ _ _) rfl rfl ?_
 refine iaN (450) rfl rfl Tryz.underlying30 sz5_1 (by omega) (by omega) rfl ?_
 refine stb H rfl rfl sc5 (by decide) (by simp only [List.length_set]; omega) (by omega) ?_
 clear H; intro w92 H _
 refine nl ?_
 refine then_n ?_
 refine sq ?_
 refine dr (by kernel_rfl) ?_
 have H := H.drew
 refine hold (fun _ => True) [] ?_
 refine tk (i := 1) rfl (by kernel_rfl) rfl trivial (fun _ _ => r_mv (v := .slice _ _ _) rfl) ?_
 refine tk (i := 2) rfl (by kernel_rfl) rfl trivial (fun _ _ => r_sllhN (454) (4) (58) rfl rfl rfl Tryz.underlying30 sz5_1 (by omega) (by omega)) ?_
 refine unfree ?_
 refine holdH H [3] ?_
 refine tk (i := 0) rfl (by kernel_rfl) rfl H (fun w' H => r_lw (vs := []) rfl ag143_0 rfl (by simp)) ?_
 refine fb (i := 3) (by kernel_rfl) rfl rfl rfl ?_
 refine cl ca74 (c_PutUint32 _ b1 _ _ _ _ _ _ (H.look (b := b1)) (by omega) (by simp only [List.length_set] at *; omega) (by omega)) rfl ?_
 rintro _ w4 ⟨rfl, hpl9, F, hnew⟩
 replace H := H.put (b := b1) F hnew; clear F hnew
 refine nl ?_
 refine then_n ?_
 refine dn (by kernel_rfl) ?_
 refine then_n ?_
 refine sq ?_
 refine dr (by kernel_rfl) ?_
 have H := H.drew
 refine hold (fun _ => True) [] ?_
 refine tk (i := 1) rfl (by kernel_rfl) rfl trivial (fun _ _ => r_mv (v := .slice _ _ _) rfl) ?_
 refine tk (i := 2) rfl (by kernel_rfl) rfl trivial (fun _ _ => r_sllhN (458) (4) (54) rfl rfl rfl Tryz.underlying30 sz5_1 (by omega) (by omega)) ?_
 refine tk (i := 3) rfl (by kernel_rfl) rfl trivial (fun _ _ => r_mv (v := .pointer _) rfl) ?_
 refine tk (i := 4) rfl (by kernel_rfl) rfl trivial (fun _ _ => r_nc rfl) ?_
 refine tk (i := 5) rfl (by kernel_rfl) rfl trivial (fun _ _ => r_fa rfl fo106_11) ?_
 refine unfree ?_
 refine holdH H [8] ?_
 refine tk (i := 0) rfl (by kernel_rfl) rfl H (fun w' H => r_lw (vs := []) rfl ag143_0 rfl (by simp)) ?_
 refine fk (i := 6) (by kernel_rfl) rfl rfl rfl ?_
 refine ld H rfl sc28 rfl rfl ?_
 refine nl ?_
 refine then_n ?_
 refine ⟨H, ?_⟩
 refine tk (i := 7) rfl (by kernel_rfl) rfl H (fun w' H => r_cvi rfl rfl Tryz.underlying58 (by first | exact w_u32 (by omega) | exact w_u32 (rng_u32 _) | exact m_u32 _)) ?_
 refine fb (i := 8) (by kernel_rfl) rfl rfl rfl ?_
 refine cl ca74 (c_PutUint32 _ b1 _ _ _ _ _ _ (H.look (b := b1)) (by omega) (by simp only [List.length_set] at *; omega) (by omega)) rfl ?_
 rintro _ w5 ⟨rfl, hpl9, F, hnew⟩
 replace H := H.put (b := b1) F hnew; clear F hnew
 refine nl ?_
 refine then_n ?_
 refine dn (by kernel_rfl) ?_
 refine then_n ?_
 refine sq ?_
 refine rg ?_
 refine mv (v := .slice _ _ _) rfl rfl ?_
 refine asg (v := .slice _ _ _) rfl rfl ?_
 refine nl ?_
 refine then_n ?_
 refine rt ?_
 refine fin_r ?_
 exact ⟨b1, rfl, H.ge, H.look (b := b1), H.fr⟩
end Go.Proofs.YthcaejaaalkglaaGreatDoor.X
