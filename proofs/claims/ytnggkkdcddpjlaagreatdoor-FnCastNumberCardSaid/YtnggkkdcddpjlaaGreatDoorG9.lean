/- internal/strconv.atof64exact: total, without conditions. -/
import Derived.Test.YtnggkkdcddpjlaaGreatDoorG8
import Derived.Test.YtnggkkdcddpjlaaGreatDoorGF
namespace Go.Proofs.YtnggkkdcddpjlaaGreatDoor
open Go.RowKit
set_option maxRecDepth 100000
set_option linter.unusedVariables false
set_option linter.unusedSimpArgs false
/-- The powers of ten as floats of 64 bits. -/
def fpList : List Nat := [4607182418800017408, 4621819117588971520, 4636737291354636288, 4652007308841189376, 4666723172467343360, 4681608360884174848, 4696837146684686336, 4711630319722168320, 4726483295884279808, 4741671816366391296, 4756540486875873280, 4771362005757984768, 4786511204640096256, 4801453603149578240, 4816244402031689728, 4831355200913801216, 4846369599423283200, 4861130398305394688, 4876203697187506176, 4891288408196988160, 4906019910204099648, 4921056587992461136, 4936209963552724370]
def fpTab (k : Nat) : Nat := fpList.getD k 0
def numB (k : FloatKind) (x : Nat) : Bool := match k.format.read x with
  | .number _ m _ => m != 0
  | _ => false
theorem notNought_of {k : FloatKind} {x : Nat} (h : numB k x = true) : NotNought k x := by
  unfold numB at h
  unfold NotNought
  cases hr : k.format.read x with
  | number s m e => rw [hr] at h; exact ⟨s, m, e, rfl, by simpa using h⟩
  | infinity s => rw [hr] at h; cases h
  | nan s f => rw [hr] at h; cases h
theorem fpTab_num : ∀ k, k < 23 → numB .f64 (fpTab k) = true := by decide
theorem exact_big (m e : Int) (ng : Bool) (hm0 : 0 ≤ m) (hm1 : m < 18446744073709551616) (hdv : (m / 4503599627370496 == 0) = false) (tab : Nat → Nat) (w : World) (h : FPow tab w) :
    Calls Tryz.prog 250 #[.int .u64 m, .int .i64 e, .bool ng] w fun r w' => r = .returned (.tuple #[.float .f64 0, .bool false]) ∧ w' = w := by
  have hmb := h.mb
  clear h
  go_enter Tryz.func250, Tryz.ntmps250
  go_wp2_with fail
  all_goals go_ret2
  all_goals exact ⟨rfl, rfl⟩
/-- atof64exact: total; its answers hang on its arguments alone. -/
theorem exact_any (m e : Int) (ng : Bool) (hm0 : 0 ≤ m) (hm1 : m < 18446744073709551616) :
    ∃ (f : Nat) (ok : Bool), ∀ w, FPow fpTab w → Calls Tryz.prog 250 #[.int .u64 m, .int .i64 e, .bool ng] w fun r w' => r = .returned (.tuple #[.float .f64 f, .bool ok]) ∧ w' = w := by
  cases hdv : (m / 4503599627370496 == 0) with
  | false => exact ⟨0, false, fun w h => exact_big m e ng hm0 hm1 hdv fpTab w h⟩
  | true =>
    have hnn : ∀ k, k < 23 → NotNought .f64 (fpTab k) := fun k hk => notNought_of (fpTab_num k hk)
    have key : ∀ x, NoNan .f64 x → (∀ k, k < 23 → ∃ r, FloatKind.f64.format.mul x (fpTab k) = some r) ∧ (∀ k, k < 23 → ∃ r, FloatKind.f64.format.div x (fpTab k) = some r) ∧
        (∀ k r, k < 23 → FloatKind.f64.format.mul x (fpTab k) = some r → ∃ r2, FloatKind.f64.format.mul r (fpTab 22) = some r2) := fun x hx => by
      refine ⟨fun k hk => ?_, fun k hk => ?_, fun k r hk hr => ?_⟩
      · obtain ⟨r, h1, _⟩ := mul_some .f64 x (fpTab k) hx (hnn k hk)
        exact ⟨r, h1⟩
      · obtain ⟨r, h1, _⟩ := div_some .f64 x (fpTab k) hx (hnn k hk)
        exact ⟨r, h1⟩
      · obtain ⟨r', h1, h2⟩ := mul_some .f64 x (fpTab k) hx (hnn k hk)
        rw [hr] at h1
        injection h1 with h1
        subst h1
        obtain ⟨r2, h3, _⟩ := mul_some .f64 r (fpTab 22) h2 (hnn 22 (by omega))
        exact ⟨r2, h3⟩
    cases ng with
    | false =>
      obtain ⟨k1, k2, k3⟩ := key _ (ofInt_nn .f64 m)
      exact exact_false fpTab m e hm0 hm1 hdv k1 k2 (fun k r hk hr _ _ => k3 k r hk hr)
    | true =>
      obtain ⟨k1, k2, k3⟩ := key _ (neg_nn .f64 _ (ofInt_nn .f64 m))
      exact exact_true fpTab m e hm0 hm1 hdv k1 k2 (fun k r hk hr _ _ => k3 k r hk hr)
end Go.Proofs.YtnggkkdcddpjlaaGreatDoor
