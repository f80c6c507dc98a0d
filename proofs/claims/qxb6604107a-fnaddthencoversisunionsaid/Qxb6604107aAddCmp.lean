import Derived.Test.Qxb6604107aCmp
import Derived.Test.Qxb6604107aCovers
import Derived.Deep.RegionWith
namespace Go.Proofs.Qxb6604107a
open Go.ChangeShapes Go.WideShapes Go.ChangeAt Go.RowKit
set_option linter.unusedVariables false

/-- What Add's comparison says of entry a against e. -/
def cmpA (e a : En) : Int := if cmpB a.key e.key ≠ 0 then cmpB a.key e.key else if a.mx + 1 < e.mn then -1 else 1

theorem two_new (w : World) (x y : Array Value) : Below w.heap.size w ((w.alloc (.cells x 30)).alloc (.cells y 30)) :=
  ((Below.refl _ _).alloc (Nat.le_refl _) _).alloc (by simp) _

set_option maxHeartbeats 800000 in
theorem add1 (ak : ByteArray) (amn amx : Int) (ek : ByteArray) (emn emx : Int) (w : World) (ba : -9223372036854775808 ≤ amx ∧ amx ≤ 9223372036854775807) (be : -9223372036854775808 ≤ emn ∧ emn ≤ 9223372036854775807) :
    Calls Try.prog 26 #[.agg #[.string ak, .int .i64 amn, .int .i64 amx], .agg #[.string ek, .int .i64 emn, .int .i64 emx]] w fun e' w' => e' = .returned (.int .i64 (cmpA ⟨ek, emn, emx⟩ ⟨ak, amn, amx⟩)) ∧ Below w.heap.size w w' := by
  have hcmp := fun W => compare ak ek W
  generalize hv : cmpA ⟨ek, emn, emx⟩ ⟨ak, amn, amx⟩ = v
  have hv' : v = if cmpB ak ek ≠ 0 then cmpB ak ek else if amx + 1 < emn then -1 else 1 := hv.symm
  generalize cmpB ak ek = c at hcmp hv'
  have HV := hide hv'
  have HC := hide hcmp
  clear hv hv' hcmp
  by_cases hc : c = 0
  · subst hc
    by_cases h1 : amx < emn
    · by_cases h2 : amx + 1 < emn
      · have HW : Hid (v = -1) := by have h := HV.out; simp [h2] at h; exact h
        go_enter Try.func26, Try.ntmps26
        go_wp2_with (go_at_call 27; refine (HC.out _).mono ?_; rintro e w' ⟨rfl, rfl⟩)
        go_ret
        exact ⟨ret_int HW.out.symm, two_new _ _ _⟩
      · have HW : Hid (v = 1) := by have h := HV.out; simp [h2] at h; exact h
        go_enter Try.func26, Try.ntmps26
        go_wp2_with (go_at_call 27; refine (HC.out _).mono ?_; rintro e w' ⟨rfl, rfl⟩)
        go_ret
        exact ⟨ret_int HW.out.symm, two_new _ _ _⟩
    · have HW : Hid (v = 1) := by have h := HV.out; rw [if_neg (by simp), if_neg (by omega)] at h; exact h
      go_enter Try.func26, Try.ntmps26
      go_wp2_with (go_at_call 27; refine (HC.out _).mono ?_; rintro e w' ⟨rfl, rfl⟩)
      go_ret
      exact ⟨ret_int HW.out.symm, two_new _ _ _⟩
  · have HW : Hid (v = c) := by have h := HV.out; rw [if_pos hc] at h; exact h
    have hc' : (c != 0) = true := by simpa using hc
    clear hc
    go_enter Try.func26, Try.ntmps26
    go_wp2_with (go_at_call 27; refine (HC.out _).mono ?_; rintro e w' ⟨rfl, rfl⟩)
    go_ret
    exact ⟨ret_int HW.out.symm, two_new _ _ _⟩

end Go.Proofs.Qxb6604107a
