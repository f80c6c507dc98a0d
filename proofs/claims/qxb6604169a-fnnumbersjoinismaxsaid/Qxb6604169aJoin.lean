import Derived.Test.Qxb6604169aRows
import Derived.WalkKit
import Derived.ProofKit
import Derived.OpenShut
import Derived.ShutString
import Derived.ChangeOld
import Derived.Below
import Derived.WalkLawsBesides
import Derived.Deep.QuietTactic
import Derived.BigQuiet
namespace Go.Proofs.Qxb6604169a
open Go.ChangeShapes Go.WideShapes Go.ChangeAt Go.RowKit
set_option linter.unusedVariables false

theorem hide {p : Prop} (h : p) : Hid p := h
theorem ret_bool {a b : Bool} (h : a = b) : Ending.returned (.bool a) = .returned (.bool b) := by rw [h]

/-- The bigger of two numbers, none below all. -/
def join (x : Int × Bool) (y : Int × Bool) : Int × Bool := if !x.2 || (y.2 && decide (x.1 < y.1)) then y else x
def numLE (x : Int × Bool) (y : Int × Bool) : Bool := !x.2 || (y.2 && decide (x.1 ≤ y.1))
def numEq (x : Int × Bool) (y : Int × Bool) : Bool := x.2 == y.2 && (!x.2 || x.1 == y.1)

theorem below_drewN' {B : Nat} {a w : World} (h : Below B a w) (n : Nat) : Below B a (w.drewN n) := h.trans ⟨rfl, rfl, rfl, Nat.le_refl _, fun _ _ => rfl⟩

/-- ZZMakeNumber. -/
theorem make (n : Int) (s : Bool) (w : World) :
    Calls Try.prog 31 #[.int .u64 n, .bool s] w fun e w' => e = .returned (.agg #[.int .u64 n, .bool s]) ∧ Below w.heap.size w w' := by
  go_enter Try.func31, Try.ntmps31
  go_wp2
  exact bodyPost_ret (v := .agg #[.int .u64 n, .bool s]) (by simp [results, Try.results31, go_sem]) rfl ⟨rfl, (Below.refl _ _).alloc (Nat.le_refl _) _⟩

theorem four_new (w : World) (a b c d : Obj) : Below w.heap.size w ((((w.alloc a).alloc b).alloc c).alloc d) :=
  ((((Below.refl _ _).alloc (Nat.le_refl _) _).alloc (by simp) _).alloc (by simp; omega) _).alloc (by simp; omega) _

/-- Numbers.Join. -/
theorem meth (xn : Int) (xs : Bool) (yn : Int) (ys : Bool) (w : World) :
    Calls Try.prog 30 #[.agg #[], .agg #[.int .u64 xn, .bool xs], .agg #[.int .u64 yn, .bool ys]] w fun e w' => e = .returned (.agg #[.int .u64 (join (xn, xs) (yn, ys)).1, .bool (join (xn, xs) (yn, ys)).2]) ∧ Below w.heap.size w w' := by
  cases xs
  · go_enter Try.func30, Try.ntmps30
    go_wp2
    exact bodyPost_ret (v := .agg #[.int .u64 yn, .bool ys]) (by simp [results, Try.results30, go_sem]) rfl ⟨by simp [join], four_new _ _ _ _ _⟩
  · cases ys
    · go_enter Try.func30, Try.ntmps30
      go_wp2
      exact bodyPost_ret (v := .agg #[.int .u64 xn, .bool true]) (by simp [results, Try.results30, go_sem]) rfl ⟨by simp [join], four_new _ _ _ _ _⟩
    · by_cases h : xn < yn
      · go_enter Try.func30, Try.ntmps30
        go_wp2
        exact bodyPost_ret (v := .agg #[.int .u64 yn, .bool true]) (by simp [results, Try.results30, go_sem]) rfl ⟨by simp [join, h], four_new _ _ _ _ _⟩
      · go_enter Try.func30, Try.ntmps30
        go_wp2
        exact bodyPost_ret (v := .agg #[.int .u64 xn, .bool true]) (by simp [results, Try.results30, go_sem]) rfl ⟨by simp [join, Int.not_lt.2 h], four_new _ _ _ _ _⟩

/-- ZZNumberParts. -/
theorem parts (n : Int) (s : Bool) (w : World) :
    Calls Try.prog 29 #[.agg #[.int .u64 n, .bool s]] w fun e w' => e = .returned (.tuple #[.int .u64 n, .bool s]) ∧ Below w.heap.size w w' := by
  go_enter Try.func29, Try.ntmps29
  go_wp2
  go_quiet (fail)
  go_wp2
  go_ret2
  exact ⟨rfl, below_drewN' ((Below.refl _ _).alloc (Nat.le_refl _) _) _⟩

/-- b1NumJoin. -/
theorem num (xn : Int) (xs : Bool) (yn : Int) (ys : Bool) (w : World) :
    Calls Try.prog 22 #[.int .u64 xn, .bool xs, .int .u64 yn, .bool ys] w fun e w' => e = .returned (.tuple #[.int .u64 (join (xn, xs) (yn, ys)).1, .bool (join (xn, xs) (yn, ys)).2]) ∧ Below w.heap.size w w' := by
  have H30 := hide (meth xn xs yn ys)
  have H31 := hide make
  have H29 := hide (parts (join (xn, xs) (yn, ys)).1 (join (xn, xs) (yn, ys)).2)
  generalize (join (xn, xs) (yn, ys)).1 = rn at *
  generalize (join (xn, xs) (yn, ys)).2 = rs at *
  go_enter Try.func22, Try.ntmps22
  go_wp2_with (fail)
  refine (H31.out _ _ _).mono ?_
  rintro e w1 ⟨rfl, b1⟩
  go_wp2_with (fail)
  refine (H31.out _ _ _).mono ?_
  rintro e w2 ⟨rfl, b2⟩
  go_wp2_with (fail)
  refine (H30.out _).mono ?_
  rintro e w3 ⟨rfl, b3⟩
  go_wp2_with (fail)
  refine (H29.out _).mono ?_
  rintro e w4 ⟨rfl, b4⟩
  go_wp2
  go_ret2
  exact ⟨rfl, b1.trans ((b2.mono b1.size).trans ((b3.mono (Nat.le_trans b1.size b2.size)).trans (b4.mono (Nat.le_trans b1.size (Nat.le_trans b2.size b3.size)))))⟩

theorem le (xn : Int) (xs : Bool) (yn : Int) (ys : Bool) (w : World) :
    Calls Try.prog 23 #[.int .u64 xn, .bool xs, .int .u64 yn, .bool ys] w fun e w' => e = .returned (.bool (numLE (xn, xs) (yn, ys))) ∧ w' = w := by
  cases xs
  · go_enter Try.func23, Try.ntmps23
    go_wp2
    go_ret
    exact ⟨ret_bool (by simp [numLE]), rfl⟩
  · cases ys
    · go_enter Try.func23, Try.ntmps23
      go_wp2
      go_ret
      exact ⟨ret_bool (by simp [numLE]), rfl⟩
    · go_enter Try.func23, Try.ntmps23
      go_wp2
      go_ret
      exact ⟨ret_bool (by simp [numLE]), rfl⟩

theorem eq (xn : Int) (xs : Bool) (yn : Int) (ys : Bool) (w : World) :
    Calls Try.prog 24 #[.int .u64 xn, .bool xs, .int .u64 yn, .bool ys] w fun e w' => e = .returned (.bool (numEq (xn, xs) (yn, ys))) ∧ w' = w := by
  cases xs
  · cases ys
    · go_enter Try.func24, Try.ntmps24
      go_wp2
      go_ret
      exact ⟨ret_bool (by simp [numEq]), rfl⟩
    · go_enter Try.func24, Try.ntmps24
      go_wp2
      go_ret
      exact ⟨ret_bool (by simp [numEq]), rfl⟩
  · cases ys
    · go_enter Try.func24, Try.ntmps24
      go_wp2
      go_ret
      exact ⟨ret_bool (by simp [numEq]), rfl⟩
    · go_enter Try.func24, Try.ntmps24
      go_wp2
      go_ret
      exact ⟨ret_bool (by simp [numEq]), rfl⟩

end Go.Proofs.Qxb6604169a
