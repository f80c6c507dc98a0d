import Derived.Test.Qxb6604107aOfKeySearch
namespace Go.Proofs.Qxb6604107a
open Go.ChangeShapes Go.WideShapes Go.ChangeAt Go.RowKit
set_option linter.unusedVariables false

theorem Mono.drop {c : En → Int} {l : List En} (h : Mono c l) (i : Nat) : Mono c (l.drop i) := by
  intro a b hab hb hlt
  rw [List.getElem_drop] at *
  exact h (i + a) (i + b) (by omega) (by simp at hb; omega) hlt

theorem ret_slice {x : Option Addr} {a b c : Nat} (h : a = b) : Ending.returned (.slice x a c) = .returned (.slice x b c) := by rw [h]

/-- key followed by a zero byte. -/
abbrev key0 (key : ByteArray) : ByteArray := key ++ { data := #[0] }

def OfKeySaid (key : ByteArray) (b : Nat) (l : List En) (w w' : World) (e : Ending) : Prop :=
  ∃ i j r1 r2 o c, Found (cmpK key) l i r1 ∧ Found (cmpK (key0 key)) (l.drop i) j r2 ∧ e = .returned (.slice (some ⟨b, o, none⟩) j c) ∧ Ents w' b o ((l.drop i).take j) ∧ Below w.heap.size w w'

set_option maxHeartbeats 1000000 in
theorem ofKey (key : ByteArray) (b cap : Nat) (l : List En) (w : World) (hE : Ents w b 0 l) (hb : b < w.heap.size) (hn : l.length ≤ 65537) (hcap : l.length ≤ cap) (hk : key.size ≤ 1048576) (hM : Mono (cmpK key) l) (hM2 : Mono (cmpK (key0 key)) l) :
    Calls Try.prog 18 #[.slice (some ⟨b, 0, none⟩) l.length cap, .string key] w fun e w' => OfKeySaid key b l w w' e := by
  have HS := hide (search32 key b 0 cap l w hE hb hn hM)
  have HE := hide hE
  have HM2 := hide hM2
  clear hE hM hM2
  generalize hP : OfKeySaid key b l w = P
  have HP := hide hP
  clear hP
  generalize hnn : l.length = n at *
  have HN := hide hnn
  clear hnn
  go_enter Try.func18, Try.ntmps18
  go_wp2_with fail
  refine HS.out.mono ?_
  rintro e w1 ⟨i, r, rfl, hf, hb1⟩
  have HF := hide hf
  have hin : i ≤ n := by rw [← HN.out]; exact hf.le
  clear hf
  have HB1 := hide hb1
  have HDL : Hid ((l.drop i).length = n - i) := by show List.length _ = _; rw [List.length_drop, HN.out]
  have hb' : b < w1.heap.size := by have := hb1.size; omega
  clear hb1 HS
  by_cases hci : cap = i
  · subst hci
    have h0 : n - cap = 0 := by omega
    have hnil : l.drop cap = [] := List.length_eq_zero_iff.1 (HDL.out.trans h0)
    have hs2 := search32 (key0 key) b 0 0 (l.drop cap) w1 (by rw [hnil]; intro j hj; simp at hj) hb' (by rw [HDL.out]; omega) (HM2.out.drop cap)
    rw [HDL.out, h0] at hs2
    have HS2 := hide hs2
    have HNIL := hide hnil
    clear hs2 hnil h0
    go_wp2_with fail
    refine HS2.out.mono ?_
    rintro e w2 ⟨j, r2, rfl, hf2, hb2⟩
    have HF2 := hide hf2
    have hj0 : j = 0 := by have := hf2.le; rw [HNIL.out] at this; simpa using this
    have HB2 := hide hb2
    subst hj0
    clear hf2 hb2 HS2
    go_wp2
    rw [← HP.out]
    exact ⟨cap, 0, r, r2, 0, 0, HF.out, HF2.out, rfl, by rw [HNIL.out]; intro q hq; simp at hq, HB1.out.trans (HB2.out.mono HB1.out.size)⟩
  · have hs2 := search32 (key0 key) b (i * 3) (cap - i) (l.drop i) w1 (by have := (HE.out.below HB1.out hb).drop i; simpa using this) hb' (by rw [HDL.out]; omega) (HM2.out.drop i)
    rw [HDL.out] at hs2
    have HS2 := hide hs2
    clear hs2
    go_wp2_with fail
    refine HS2.out.mono ?_
    rintro e w2 ⟨j, r2, rfl, hf2, hb2⟩
    have HF2 := hide hf2
    have hjn : j ≤ n - i := by have := hf2.le; rw [HDL.out] at this; exact this
    have HB2 := hide hb2
    clear hf2 hb2 HS2
    go_wp2
    rw [← HP.out]
    refine ⟨i, j, r, r2, i * 3, cap - i, HF.out, HF2.out, ret_slice (by omega), ?_, HB1.out.trans (HB2.out.mono HB1.out.size)⟩
    have h := (((HE.out.below HB1.out hb).below HB2.out hb').drop i).take j
    simpa using h

end Go.Proofs.Qxb6604107a
