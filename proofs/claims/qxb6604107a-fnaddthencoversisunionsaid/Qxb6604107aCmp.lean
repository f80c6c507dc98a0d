import Derived.Test.Qxb6604107aBase
import Derived.Lib.Bytealg
namespace Go.Proofs.Qxb6604107a
open Go.ChangeShapes Go.WideShapes Go.ChangeAt Go.RowKit
set_option linter.unusedVariables false

/-- The order of the keys. -/
def cmpB (a b : ByteArray) : Int := Lib.compareBytes a.data.toList b.data.toList

set_option maxHeartbeats 1000000 in
set_option maxRecDepth 100000 in
theorem compareString (a b : ByteArray) (w : World) :
    Calls Try.prog 33 #[.string a, .string b] w fun e w' => e = .returned (.int .i64 (cmpB a b)) ∧ w' = w := by
  unfold cmpB
  go_enter Try.func33, Try.ntmps33
  go_wp2
  rw [run_callFunc_extern Try.func35 (by kernel_rfl) (by kernel_rfl) (by kernel_rfl) (e := Extern.BytealgCompare.compare) (by kernel_rfl), Lib.run_compareString]
  simp only [Result.andThen]
  rw [Oper.upon_value]
  go_wp2
  go_ret
  exact ⟨rfl, rfl⟩

theorem compare (a b : ByteArray) (w : World) :
    Calls Try.prog 27 #[.string a, .string b] w fun e w' => e = .returned (.int .i64 (cmpB a b)) ∧ w' = w := by
  have HC := hide (compareString a b w)
  go_enter Try.func27, Try.ntmps27
  go_wp2_with (go_at_call 33; refine HC.out.mono ?_; rintro e w' ⟨rfl, rfl⟩)
  go_ret
  exact ⟨rfl, rfl⟩

/-! ### tbCmp -/
theorem cmp_step (a b : ByteArray) (k : Nat) (ha : k < a.size) (hb : k < b.size) :
    Lib.compareBytes (a.data.toList.drop k) (b.data.toList.drop k) = if a[k] < b[k] then -1 else if b[k] < a[k] then 1 else Lib.compareBytes (a.data.toList.drop (k + 1)) (b.data.toList.drop (k + 1)) := by
  have h1 : a.data.toList.drop k = a[k] :: a.data.toList.drop (k + 1) := List.drop_eq_getElem_cons (by simpa using ha)
  have h2 : b.data.toList.drop k = b[k] :: b.data.toList.drop (k + 1) := List.drop_eq_getElem_cons (by simpa using hb)
  rw [h1, h2, Lib.compareBytes]

theorem cmp_end (a b : ByteArray) (k : Nat) (ha : k ≤ a.size) (hb : k ≤ b.size) (h : k = a.size ∨ k = b.size) :
    Lib.compareBytes (a.data.toList.drop k) (b.data.toList.drop k) = if a.size < b.size then -1 else if b.size < a.size then 1 else 0 := by
  rcases Nat.lt_trichotomy a.size b.size with h' | h' | h'
  · have hk : k = a.size := by omega
    subst hk
    rw [if_pos h']
    have h1 : a.data.toList.drop a.size = [] := by simp
    have h2 : b.data.toList.drop a.size = b[a.size] :: b.data.toList.drop (a.size + 1) := List.drop_eq_getElem_cons (by simpa using h')
    rw [h1, h2, Lib.compareBytes]
  · have hk : k = a.size := by omega
    subst hk
    rw [if_neg (by omega), if_neg (by omega)]
    have h1 : a.data.toList.drop a.size = [] := by simp
    have h2 : b.data.toList.drop a.size = [] := by rw [h']; simp
    rw [h1, h2, Lib.compareBytes]
  · have hk : k = b.size := by omega
    subst hk
    rw [if_neg (by omega), if_pos h']
    have h1 : b.data.toList.drop b.size = [] := by simp
    have h2 : a.data.toList.drop b.size = a[b.size] :: a.data.toList.drop (b.size + 1) := List.drop_eq_getElem_cons (by simpa using h')
    rw [h1, h2, Lib.compareBytes]

theorem cmp_lt {a b : ByteArray} {k : Nat} {ha : k < a.size} {hb : k < b.size} (H : cmpB a b = Lib.compareBytes (a.data.toList.drop k) (b.data.toList.drop k)) (h : (a[k].toNat : Int) < b[k].toNat) : cmpB a b = -1 := by
  rw [H, cmp_step a b k ha hb, if_pos]
  rw [UInt8.lt_iff_toNat_lt]; omega
theorem cmp_gt {a b : ByteArray} {k : Nat} {ha : k < a.size} {hb : k < b.size} (H : cmpB a b = Lib.compareBytes (a.data.toList.drop k) (b.data.toList.drop k)) (h : (b[k].toNat : Int) < a[k].toNat) : cmpB a b = 1 := by
  rw [H, cmp_step a b k ha hb, if_neg, if_pos]
  · rw [UInt8.lt_iff_toNat_lt]; omega
  · rw [UInt8.lt_iff_toNat_lt]; omega
theorem cmp_eq {a b : ByteArray} {k : Nat} {ha : k < a.size} {hb : k < b.size} (H : cmpB a b = Lib.compareBytes (a.data.toList.drop k) (b.data.toList.drop k)) (h : (a[k].toNat : Int) = b[k].toNat) : cmpB a b = Lib.compareBytes (a.data.toList.drop (k + 1)) (b.data.toList.drop (k + 1)) := by
  rw [H, cmp_step a b k ha hb, if_neg, if_neg]
  · rw [UInt8.lt_iff_toNat_lt]; omega
  · rw [UInt8.lt_iff_toNat_lt]; omega

set_option maxHeartbeats 1000000 in
theorem tbCmp (a b : ByteArray) (w : World) (ha : a.size ≤ maxLen) (hb : b.size ≤ maxLen) :
    Calls Try.prog 23 #[.string a, .string b] w fun e w' => e = .returned (.int .i64 (cmpB a b)) ∧ ∃ m, w' = w.drewN m := by
  unfold maxLen at ha hb
  generalize hcv : cmpB a b = cv
  have HC : Hid (cmpB a b = cv) := hcv
  clear hcv
  by_cases hba : b.size < a.size
  · go_enter Try.func23, Try.ntmps23
    go_wp2
    go_loopw [6] (fun i wr => ∃ k m : Nat, k ≤ b.size ∧ i = .int .i64 k ∧ wr = w.drewN m ∧ Hid (cmpB a b = Lib.compareBytes (a.data.toList.drop k) (b.data.toList.drop k))) (fun i _ => b.size - (intOf i).toNat)
    case atStart => exact ⟨0, 0, Nat.zero_le _, rfl, rfl, rfl⟩
    case round =>
      obtain ⟨k, m, hk, rfl, rfl, HD⟩ := hrel
      by_cases hlt : k < b.size
      · have ka : k < a.size := by omega
        have kb : k < b.size := by omega
        have ka' : (k : Int) < (a.size : Int) := by omega
        have kb' : (k : Int) < (b.size : Int) := by omega
        go_wp2
        go_quiet (fail)
        go_wp2
        · have hne : ((a[k].toNat : Int) != b[k].toNat) = true := by assumption
          go_quiet (fail)
          go_wp2
          · have hl : a[k].toNat < b[k].toNat := by assumption
            go_ret
            exact ⟨ret_int (HC.out.symm.trans (cmp_lt HD.out (by omega))).symm, dr2 (dr2 ⟨_, rfl⟩ _) _⟩
          · have hl : ¬ a[k].toNat < b[k].toNat := by assumption
            have hg : (b[k].toNat : Int) < a[k].toNat := by rw [bne_iff_ne] at hne; omega
            go_ret
            exact ⟨ret_int (HC.out.symm.trans (cmp_gt HD.out hg)).symm, dr2 (dr2 ⟨_, rfl⟩ _) _⟩
        · have he : ((a[k].toNat : Int) != b[k].toNat) = false := by assumption
          go_roundw
          case rel => exact ⟨k + 1, _, by omega, by go_num, rfl, cmp_eq HD.out (by simpa using he)⟩
          case measure => simp [intOf]; omega
      · have hend := HD.out.trans (cmp_end a b k (by omega) (by omega) (by omega))
        rw [HC.out] at hend
        have HE := hide hend
        clear hend
        go_wp2
        all_goals
          go_ret
          exact ⟨ret_int (by rw [HE.out]; first | rw [if_pos (by omega)] | (rw [if_neg (by omega)]; first | rw [if_pos (by omega)] | rw [if_neg (by omega)])), _, rfl⟩
  · go_enter Try.func23, Try.ntmps23
    go_wp2
    go_loopw [6] (fun i wr => ∃ k m : Nat, k ≤ a.size ∧ i = .int .i64 k ∧ wr = w.drewN m ∧ Hid (cmpB a b = Lib.compareBytes (a.data.toList.drop k) (b.data.toList.drop k))) (fun i _ => a.size - (intOf i).toNat)
    case atStart => exact ⟨0, 0, Nat.zero_le _, rfl, rfl, rfl⟩
    case round =>
      obtain ⟨k, m, hk, rfl, rfl, HD⟩ := hrel
      by_cases hlt : k < a.size
      · have ka : k < a.size := by omega
        have kb : k < b.size := by omega
        have ka' : (k : Int) < (a.size : Int) := by omega
        have kb' : (k : Int) < (b.size : Int) := by omega
        go_wp2
        go_quiet (fail)
        go_wp2
        · have hne : ((a[k].toNat : Int) != b[k].toNat) = true := by assumption
          go_quiet (fail)
          go_wp2
          · have hl : a[k].toNat < b[k].toNat := by assumption
            go_ret
            exact ⟨ret_int (HC.out.symm.trans (cmp_lt HD.out (by omega))).symm, dr2 (dr2 ⟨_, rfl⟩ _) _⟩
          · have hl : ¬ a[k].toNat < b[k].toNat := by assumption
            have hg : (b[k].toNat : Int) < a[k].toNat := by rw [bne_iff_ne] at hne; omega
            go_ret
            exact ⟨ret_int (HC.out.symm.trans (cmp_gt HD.out hg)).symm, dr2 (dr2 ⟨_, rfl⟩ _) _⟩
        · have he : ((a[k].toNat : Int) != b[k].toNat) = false := by assumption
          go_roundw
          case rel => exact ⟨k + 1, _, by omega, by go_num, rfl, cmp_eq HD.out (by simpa using he)⟩
          case measure => simp [intOf]; omega
      · have hend := HD.out.trans (cmp_end a b k (by omega) (by omega) (by omega))
        rw [HC.out] at hend
        have HE := hide hend
        clear hend
        go_wp2
        all_goals
          go_ret
          exact ⟨ret_int (by rw [HE.out]; first | rw [if_pos (by omega)] | (rw [if_neg (by omega)]; first | rw [if_pos (by omega)] | rw [if_neg (by omega)])), _, rfl⟩

end Go.Proofs.Qxb6604107a
