import Derived.Test.Qxb6604147aRows
import Derived.WalkKit
import Derived.ProofKit
import Derived.OpenShut
import Derived.ShutString
import Derived.Below
import Derived.WalkLawsBesides
namespace Go.Proofs.Qxb6604147a
open Go.ChangeShapes Go.WideShapes Go.ChangeAt Go.RowKit
open Go.ChangeMaps (open_string shut_string)
set_option linter.unusedVariables false

theorem own : ownKnob Try.prog.godebug = none := by kernel_rfl
theorem ret_int {k : IntKind} {a b : Int} (h : a = b) : Ending.returned (.int k a) = .returned (.int k b) := by rw [h]
theorem ret_bool {a b : Bool} (h : a = b) : Ending.returned (.bool a) = .returned (.bool b) := by rw [h]
theorem hide {p : Prop} (h : p) : Hid p := h

/-- The value of a hex digit; 16 where it is none. -/
def dv (c : Int) : Int := if 48 ≤ c ∧ c ≤ 57 then c - 48 else if 97 ≤ c ∧ c ≤ 102 then c - 87 else if 65 ≤ c ∧ c ≤ 70 then c - 55 else 16

theorem dv_cases (c : Int) : (48 ≤ c ∧ c ≤ 57 ∧ dv c = c - 48) ∨ (97 ≤ c ∧ c ≤ 102 ∧ dv c = c - 97 + 10) ∨ (65 ≤ c ∧ c ≤ 70 ∧ dv c = c - 65 + 10) ∨ ((c < 48 ∨ (57 < c ∧ c < 65) ∨ (70 < c ∧ c < 97) ∨ 102 < c) ∧ dv c = 16) := by
  unfold dv
  by_cases h1 : 48 ≤ c ∧ c ≤ 57
  · rw [if_pos h1]; omega
  · rw [if_neg h1]
    by_cases h2 : 97 ≤ c ∧ c ≤ 102
    · rw [if_pos h2]; omega
    · rw [if_neg h2]
      by_cases h3 : 65 ≤ c ∧ c ≤ 70
      · rw [if_pos h3]; omega
      · rw [if_neg h3]; omega

theorem digitValue (c : Int) (h0 : 0 ≤ c) (h1 : c ≤ 255) (w : World) :
    Calls Try.prog 12 #[.int .u8 c] w fun e w' => e = .returned (.int .i64 (dv c)) ∧ w' = w := by
  have hd := dv_cases c
  generalize dv c = v at hd
  rcases hd with ⟨a, b, hv⟩ | ⟨a, b, hv⟩ | ⟨a, b, hv⟩ | ⟨a | a | a | a, hv⟩
  all_goals
    have HV := hide hv
    clear hv
    go_enter Try.func12, Try.ntmps12
    go_wp2
    go_ret
    exact ⟨ret_int (by rw [HV.out]), rfl⟩

theorem zzDigitValue (c : Int) (h0 : 0 ≤ c) (h1 : c ≤ 255) (w : World) :
    Calls Try.prog 6 #[.int .u8 c] w fun e w' => e = .returned (.int .i64 (dv c)) ∧ w' = w := by
  have HC := hide (digitValue c h0 h1 w)
  go_enter Try.func6, Try.ntmps6
  go_wp2_with (go_at_call 12; refine HC.out.mono ?_; rintro e w' ⟨rfl, rfl⟩)
  go_ret
  exact ⟨rfl, rfl⟩

def lo (k : Nat) : Nat := if k < 10 then 48 + k else 87 + k
def up (k : Nat) : Nat := if k < 10 then 48 + k else 55 + k

theorem lo_at : ∀ k (h : k < (ByteArray.mk #[48, 49, 50, 51, 52, 53, 54, 55, 56, 57, 97, 98, 99, 100, 101, 102]).size), ((ByteArray.mk #[48, 49, 50, 51, 52, 53, 54, 55, 56, 57, 97, 98, 99, 100, 101, 102])[k]).toNat = lo k := by
  show ∀ k (h : k < 16), _
  decide
theorem up_at : ∀ k (h : k < (ByteArray.mk #[48, 49, 50, 51, 52, 53, 54, 55, 56, 57, 65, 66, 67, 68, 69, 70]).size), ((ByteArray.mk #[48, 49, 50, 51, 52, 53, 54, 55, 56, 57, 65, 66, 67, 68, 69, 70])[k]).toNat = up k := by
  show ∀ k (h : k < 16), _
  decide

theorem dv_hit (c : Int) (k : Nat) (hk : k < 16) (h : c = (lo k : Int) ∨ c = (up k : Int)) : dv c = k := by
  have hd := dv_cases c
  unfold lo up at h
  split at h <;> omega

theorem dv_miss (c : Int) (h : ∀ k, k < 16 → c ≠ (lo k : Int) ∧ c ≠ (up k : Int)) : dv c = 16 := by
  rcases dv_cases c with ⟨a, b, _⟩ | ⟨a, b, _⟩ | ⟨a, b, _⟩ | ⟨_, hv⟩
  · have := (h (c - 48).toNat (by omega)).1
    unfold lo at this
    rw [if_pos (by omega)] at this
    omega
  · have := (h (c - 87).toNat (by omega)).1
    unfold lo at this
    rw [if_neg (by omega)] at this
    omega
  · have := (h (c - 55).toNat (by omega)).2
    unfold up at this
    rw [if_neg (by omega)] at this
    omega
  · exact hv

set_option maxHeartbeats 400000 in
theorem hexTable (c : Int) (h0 : 0 ≤ c) (h1 : c ≤ 255) (w : World) :
    Calls Try.prog 7 #[.int .u8 c] w fun e w' => e = .returned (.int .i64 (dv c)) ∧ w' = w := by
  have HH := hide (dv_hit c)
  have HM := hide (dv_miss c)
  generalize dv c = v at HH HM
  go_enter Try.func7, Try.ntmps7
  go_wp2
  go_loop [3] (fun i => ∃ k : Nat, k ≤ 16 ∧ i = .int .i64 k ∧ Hid (∀ j, j < k → c ≠ (lo j : Int) ∧ c ≠ (up j : Int))) (fun i => 16 - (intOf i).toNat)
  case atStart => exact ⟨0, Nat.zero_le _, rfl, fun j h => by omega⟩
  case round =>
    obtain ⟨k, hk, rfl, HJ⟩ := hrel
    by_cases hlt : k < 16
    · have hlo := lo_at k hlt
      have hup := up_at k hlt
      generalize hx : lo k = x at hlo
      generalize hy : up k = y at hup
      have HX := hide hx
      have HY := hide hy
      clear hx hy
      by_cases c1 : c = (x : Int)
      · have e1 : (c == (x : Int)) = true := by simpa using c1
        have HV : Hid (v = k) := HH.out k hlt (.inl (by rw [HX.out]; exact c1))
        clear c1
        go_wp2
        go_ret
        exact ⟨ret_int HV.out.symm, rfl⟩
      · have e1 : (c == (x : Int)) = false := by simpa using c1
        by_cases c2 : c = (y : Int)
        · have e2 : (c == (y : Int)) = true := by simpa using c2
          have HV : Hid (v = k) := HH.out k hlt (.inr (by rw [HY.out]; exact c2))
          clear c1 c2
          go_wp2
          go_ret
          exact ⟨ret_int HV.out.symm, rfl⟩
        · have e2 : (c == (y : Int)) = false := by simpa using c2
          have HJ2 : Hid (∀ j, j < k + 1 → c ≠ (lo j : Int) ∧ c ≠ (up j : Int)) := by
            intro j hj
            by_cases hjk : j < k
            · exact HJ.out j hjk
            · obtain rfl : j = k := by omega
              rw [HX.out, HY.out]; exact ⟨c1, c2⟩
          clear c1 c2
          go_wp2
          go_round
          case rel => exact ⟨k + 1, by omega, by go_num, HJ2⟩
          case measure => simp [intOf]; omega
    · have HV : Hid (v = 16) := HM.out (fun j hj => HJ.out j (by omega))
      go_wp2
      go_ret
      exact ⟨ret_int HV.out.symm, rfl⟩

end Go.Proofs.Qxb6604147a
