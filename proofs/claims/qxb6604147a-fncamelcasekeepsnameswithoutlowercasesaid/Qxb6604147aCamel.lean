import Derived.Test.Qxb6604147aDigit
import Derived.Laws.BytesArg
namespace Go.Proofs.Qxb6604147a
open Go.ChangeShapes Go.WideShapes Go.ChangeAt Go.RowKit
open Go.ChangeMaps (open_string shut_string)
set_option linter.unusedVariables false

theorem Try.info5 : (Try.prog.info? 5).map (fun i => (i.zero, i.size, i.bytes)) = some (some (.int .u8 0), 1, 1) := by kernel_rfl

/-- The call hands back some bool; where it is false, P. -/
def RF (P : Prop) (e : Ending) : Prop := ∃ r : Bool, e = .returned (.bool r) ∧ (r = false → P)
theorem RF.no {P : Prop} : RF P (.returned (.bool true)) := ⟨true, rfl, fun h => by cases h⟩
theorem RF.mk {P : Prop} (r : Bool) (h : P) : RF P (.returned (.bool r)) := ⟨r, rfl, fun _ => h⟩

/-- c is no lower-case letter. -/
theorem isLower_no (c : Nat) (h1 : c < 256) (hn : c < 97 ∨ 122 < c) (w : World) :
    Calls Try.prog 14 #[.int .u8 c] w fun e w' => e = .returned (.bool false) ∧ w' = w := by
  rcases hn with hn | hn
  · go_enter Try.func14, Try.ntmps14
    go_wp2
    go_ret
    exact ⟨rfl, rfl⟩
  · go_enter Try.func14, Try.ntmps14
    go_wp2
    go_ret
    exact ⟨ret_bool (by simp; omega), rfl⟩

theorem zzIsLower (c : Nat) (h1 : c < 256) (w : World) :
    Calls Try.prog 10 #[.int .u8 c] w fun e w' => RF (c < 97 ∨ 122 < c) e ∧ w' = w := by
  generalize hP : (c < 97 ∨ 122 < c) = P
  have HP := hide hP
  clear hP
  rcases (by omega : c < 97 ∨ 122 < c ∨ (97 ≤ c ∧ c ≤ 122)) with hn | hn | ⟨hn, hn2⟩
  · have hp : Hid P := by rw [← HP.out]; exact .inl hn
    clear HP
    go_enter Try.func10, Try.ntmps10
    go_wp2
    go_ret
    exact ⟨RF.mk _ hp.out, rfl⟩
  · have hp : Hid P := by rw [← HP.out]; exact .inr hn
    clear HP
    go_enter Try.func10, Try.ntmps10
    go_wp2
    go_ret
    exact ⟨RF.mk _ hp.out, rfl⟩
  · have hd : decide ((c : Int) ≤ 122) = true := by simp; omega
    clear HP
    go_enter Try.func10, Try.ntmps10
    go_wp2
    go_ret
    exact ⟨RF.no, rfl⟩

/-- The bytes of a string as numbers. -/
def nums (s : ByteArray) : List Int := s.data.toList.map fun b => (b.toNat : Int)
theorem nums_length (s : ByteArray) : (nums s).length = s.size := by simp [nums]
theorem nums_at (s : ByteArray) (k : Nat) (h : k < s.size) : (nums s).take (k + 1) = (nums s).take k ++ [(s[k].toNat : Int)] := by
  rw [List.take_succ_eq_append_getElem (by rw [nums_length]; exact h)]
  congr 2
  simp [nums]
  rfl
theorem nums_str (s : ByteArray) : strOfNums (nums s) = s := by
  obtain ⟨⟨l⟩⟩ := s
  simp only [strOfNums, nums, List.map_map]
  have h : ∀ b ∈ l, ((fun n : Int => UInt8.ofNat n.toNat) ∘ fun b : UInt8 => (b.toNat : Int)) b = b := fun b _ => by simp
  rw [List.map_congr_left h]
  simp

theorem one_new (w : World) (a : Value) : ∀ j u, [a][j]? = some u → (w.alloc (.cells #[a] 5)).cell? ((⟨w.heap.size, 0, none⟩ : Addr).add j) = some u := by
  intro j u hu
  have hj : j = 0 := by have := (List.getElem?_eq_some_iff.1 hu).1; simpa using this
  subst hj
  simp at hu
  subst hu
  rw [Addr.add_lit]
  simp
theorem one_one (c : Int) : ∀ u ∈ [Value.int .u8 c], u.oneCell' = true := by
  intro u hu
  simp at hu
  rw [hu]; rfl
theorem below_app1 {w w' : World} {o : Obj} {g B : Nat} (hg : (w.alloc o).grownBy w' (some g)) (hB : B ≤ w.heap.size) (hgB : B ≤ g) : Below B w w' :=
  ((Below.refl _ _).alloc hB o).grown hg (by simp; omega) (fun q e => by cases e; exact hgB)

set_option maxHeartbeats 1000000 in
theorem camelCase (s : ByteArray) (w : World) (hs : s.size ≤ 1048576) (hl : ∀ k (h : k < s.size), s[k].toNat < 97 ∨ 122 < s[k].toNat) (h0 : ∀ h : 0 < s.size, s[0].toNat ≠ 95) :
    Calls Try.prog 13 #[.string s] w fun e w' => e = .returned (.string s) ∧ Below w.heap.size w w' := by
  have HL := hide hl
  have H0 := hide h0
  clear hl h0
  obtain ⟨i0, hi, hz0, hz1, hz2⟩ := info_parts Try.info5
  go_enter Try.func13, Try.ntmps13
  go_wp2_with (at_make; refine wpList_make_own _ rfl _ _ 29 rfl w.heap.size 5 i0 _ 1 Try.underlying29 hi hz0 hz1 .i64 .i64 _ (s.size + 1) rfl rfl (by omega) (by rw [hz2]; omega) (by unfold maxLen; omega) (Nat.le_refl _) ?_; intro w1 hown hgrow)
  go_loopw [3, 4] (fun v i wr => ∃ k : Nat, k ≤ s.size ∧ i = .int .i64 k ∧ v = .slice (some ⟨w.heap.size, 0, none⟩) k (s.size + 1) ∧ Hid (wr.ownsRow w.heap.size 5 1 (.slice (some ⟨w.heap.size, 0, none⟩) k (s.size + 1)) k (((nums s).take k).map (Value.int .u8))) ∧ Hid (Below w.heap.size w wr)) (fun _ i _ => s.size - (intOf i).toNat)
  case atStart => exact ⟨0, Nat.zero_le _, rfl, rfl, (by simpa [Hid] using hown), (Below.refl _ _).grown hgrow (Nat.le_refl _) (fun k h => by cases h)⟩
  case round =>
    obtain ⟨k, hk, rfl, rfl, HO, HB⟩ := hrel
    clear hown hgrow
    by_cases hlt : k < s.size
    · have hnl := HL.out k hlt
      have hb : s[k].toNat < 256 := s[k].toNat_lt
      have HN := hide (nums_at s k hlt)
      have HZ : Hid (k = 0 → s[k].toNat ≠ 95) := fun e => by subst e; exact H0.out hlt
      generalize hck : s[k].toNat = c at hnl hb HN HZ
      have HC := hide (isLower_no c hb hnl)
      by_cases h95 : c = 95
      · have hk0 : ((k : Int) == 0) = false := by
          have := HZ.out
          simp
          omega
        have e95 : ((c : Int) == 95) = true := by simp; omega
        clear h95 HZ
        by_cases hk1 : k + 1 < s.size
        · have hnl2 := HL.out (k + 1) hk1
          have hb2 : s[k + 1].toNat < 256 := s[k + 1].toNat_lt
          generalize hck2 : s[k + 1].toNat = d at hnl2 hb2
          have HC2 := hide (isLower_no d hb2 hnl2)
          have hk1' : (k : Int) + 1 < (s.size : Int) := by omega
          clear hnl hnl2
          go_wp2_with fail
          refine (HC2.out _).mono ?_
          rintro e w' ⟨rfl, hw⟩
          obtain rfl := hw.symm
          clear hw
          go_wp2_with fail
          refine (HC.out _).mono ?_
          rintro e w' ⟨rfl, hw⟩
          obtain rfl := hw.symm
          clear hw
          go_wp2_with (at_builtin; refine wpList_append_fits _ rfl (.tmp 19) (.tmp 21) 29 rfl w.heap.size 5 i0 1 Try.underlying29 hi hz1 w.heap.size k (s.size + 1) _ rfl (HO.out.alloc _) ⟨wr.heap.size, 0, none⟩ 1 1 [.int .u8 c] rfl rfl (one_new _ _) (one_one _) (by omega) ?_; intro w3 hown3 hgrow3)
          go_roundw
          case rel => exact ⟨k + 1, by omega, by go_num, rfl, by rw [HN.out, List.map_append]; exact hown3, HB.out.trans (below_app1 hgrow3 HB.out.size (Nat.le_refl _))⟩
          case measure => simp [intOf]; omega
        · have hd1 : decide ((k : Int) + 1 < (s.size : Int)) = false := by simp; omega
          clear hnl
          go_wp2_with fail
          refine (HC.out _).mono ?_
          rintro e w' ⟨rfl, hw⟩
          obtain rfl := hw.symm
          clear hw
          go_wp2_with (at_builtin; refine wpList_append_fits _ rfl (.tmp 19) (.tmp 21) 29 rfl w.heap.size 5 i0 1 Try.underlying29 hi hz1 w.heap.size k (s.size + 1) _ rfl (HO.out.alloc _) ⟨wr.heap.size, 0, none⟩ 1 1 [.int .u8 c] rfl rfl (one_new _ _) (one_one _) (by omega) ?_; intro w3 hown3 hgrow3)
          go_roundw
          case rel => exact ⟨k + 1, by omega, by go_num, rfl, by rw [HN.out, List.map_append]; exact hown3, HB.out.trans (below_app1 hgrow3 HB.out.size (Nat.le_refl _))⟩
          case measure => simp [intOf]; omega
      · have e95 : ((c : Int) == 95) = false := by simp; omega
        clear h95 HZ hnl
        go_wp2_with fail
        refine (HC.out _).mono ?_
        rintro e w' ⟨rfl, hw⟩
        obtain rfl := hw.symm
        clear hw
        go_wp2_with (at_builtin; refine wpList_append_fits _ rfl (.tmp 19) (.tmp 21) 29 rfl w.heap.size 5 i0 1 Try.underlying29 hi hz1 w.heap.size k (s.size + 1) _ rfl (HO.out.alloc _) ⟨wr.heap.size, 0, none⟩ 1 1 [.int .u8 c] rfl rfl (one_new _ _) (one_one _) (by omega) ?_; intro w3 hown3 hgrow3)
        go_roundw
        case rel => exact ⟨k + 1, by omega, by go_num, rfl, by rw [HN.out, List.map_append]; exact hown3, HB.out.trans (below_app1 hgrow3 HB.out.size (Nat.le_refl _))⟩
        case measure => simp [intOf]; omega
    · obtain rfl : k = s.size := by omega
      have hfull : (nums s).take s.size = nums s := List.take_of_length_le (by rw [nums_length]; exact Nat.le_refl _)
      have hcell : ∀ i, i < s.size → wr.cell? ⟨w.heap.size, 0 + i, none⟩ = some (.int .u8 ((nums s).getD i 0)) := by
        intro i hi
        have h := HO.out
        rw [hfull] at h
        rw [Nat.zero_add, h.cellAt i (by omega)]
        have hl := nums_length s
        simp [List.getD, show i < (nums s).length by omega]
      have hcv := run_convert_bytes_arg (P := Try.prog) wr 29 5 Try.underlying29 Try.underlying5 w.heap.size 0 s.size (s.size + 1) (nums s) (nums_length s) hcell 9 Try.underlying9
      rw [nums_str] at hcv
      clear hcell hfull
      go_wp2
      go_ret
      exact ⟨rfl, HB.out⟩

theorem zzCamelCase (s : ByteArray) (w : World) (hs : s.size ≤ 1048576) (hl : ∀ k (h : k < s.size), s[k].toNat < 97 ∨ 122 < s[k].toNat) (h0 : ∀ h : 0 < s.size, s[0].toNat ≠ 95) :
    Calls Try.prog 11 #[.string s] w fun e w' => e = .returned (.string s) ∧ Below w.heap.size w w' := by
  have HC := hide (camelCase s w hs hl h0)
  clear hl h0
  go_enter Try.func11, Try.ntmps11
  go_wp2_with (go_at_call 13; refine HC.out.mono ?_; rintro e w' ⟨rfl, hb⟩)
  go_ret
  exact ⟨rfl, hb⟩

end Go.Proofs.Qxb6604147a
