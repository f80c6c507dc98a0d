import Derived.Test.Qxb6604107aAddSearch
import Derived.Test.Qxb6604107aConcat
import Derived.Test.Qxb6604107aOrder
import Derived.Deep.DeepCutAuto
import Derived.Deep.CutBlock
namespace Go.Proofs.Qxb6604107a
open Go.ChangeShapes Go.WideShapes Go.ChangeAt Go.RowKit
set_option linter.unusedVariables false

/-- Entry a overlaps or touches e, and is of its key. -/
def Touch (e a : En) : Prop := a.key = e.key ∧ (a.mn ≤ e.mx ∨ a.mn - 1 = e.mx)

/-- The entries from i to j touch e, that at j does not. -/
structure Run (l : List En) (e : En) (i j : Nat) : Prop where
  ij : i ≤ j
  jl : j ≤ l.length
  all : ∀ q (h : q < l.length), i ≤ q → q < j → Touch e l[q]
  stop : ∀ h : j < l.length, ¬ Touch e l[j]

/-- One entry, at i, holds e already. -/
def Held (l : List En) (e : En) (i j : Nat) : Prop := j = i + 1 ∧ ∃ h : i < l.length, l[i].mn ≤ e.mn ∧ e.mx ≤ l[i].mx

def d0 : En := ⟨ByteArray.empty, 0, 0⟩

/-- What e becomes. -/
def mrg (l : List En) (e : En) (i j : Nat) : En := if i < j then ⟨e.key, min e.mn (l.getD i d0).mn, max e.mx (l.getD (j - 1) d0).mx⟩ else e

/-- The list that Add hands back. -/
def addOut (l : List En) (e : En) (i j : Nat) : List En := l.take i ++ [mrg l e i j] ++ l.drop j

def AddSaid (l : List En) (e : En) (b : Nat) (w w' : World) (e' : Ending) : Prop :=
  Below w.heap.size w w' ∧ ∃ i j r, Found (cmpA e) l i r ∧ Run l e i j ∧
    ((Held l e i j ∧ e' = .returned (.tuple #[.slice (some ⟨b, 0, none⟩) l.length l.length, .bool false])) ∨
     (¬ Held l e i j ∧ ∃ g c, e' = .returned (.tuple #[.slice (some ⟨g, 0, none⟩) (addOut l e i j).length c, .bool true]) ∧ Ents w' g 0 (addOut l e i j) ∧ w.heap.size ≤ g ∧ g < w'.heap.size ∧ (addOut l e i j).length ≤ c))

theorem Run.step {l : List En} {e : En} {i j : Nat} (h : ∀ q (h : q < l.length), i ≤ q → q < j → Touch e l[q]) (ht : ∀ h : j < l.length, Touch e l[j]) : ∀ q (h : q < l.length), i ≤ q → q < j + 1 → Touch e l[q] := by
  intro q hq h1 h2
  by_cases e : q < j
  · exact h q hq h1 e
  · obtain rfl : q = j := by omega
    exact ht hq

theorem box_goal {w w1 : World} {k : Nat} {v0 : Value} {a c m0 m1 o1 o2 : Int} (hB : Below w.heap.size w w1) (hs : w.heap.size < w1.heap.size) (h0 : w1.cell? ⟨w.heap.size, 0, none⟩ = some v0) (h1 : w1.cell? ⟨w.heap.size, 1, none⟩ = some (.int .i64 o1)) (h2 : w1.cell? ⟨w.heap.size, 2, none⟩ = some (.int .i64 o2))
    (ha : a = m0) (hc : c = m1) :
    Hid (Below w.heap.size w ((((w1.drewN k).setCell ⟨w.heap.size, 1, none⟩ (.int .i64 a)).setCell ⟨w.heap.size, 2, none⟩ (.int .i64 c)).drew)) ∧
    w.heap.size < ((((w1.drewN k).setCell ⟨w.heap.size, 1, none⟩ (.int .i64 a)).setCell ⟨w.heap.size, 2, none⟩ (.int .i64 c)).drew).heap.size ∧
    ((((w1.drewN k).setCell ⟨w.heap.size, 1, none⟩ (.int .i64 a)).setCell ⟨w.heap.size, 2, none⟩ (.int .i64 c)).drew).cell? ⟨w.heap.size, 0, none⟩ = some v0 ∧
    ((((w1.drewN k).setCell ⟨w.heap.size, 1, none⟩ (.int .i64 a)).setCell ⟨w.heap.size, 2, none⟩ (.int .i64 c)).drew).cell? ⟨w.heap.size, 1, none⟩ = some (.int .i64 m0) ∧
    ((((w1.drewN k).setCell ⟨w.heap.size, 1, none⟩ (.int .i64 a)).setCell ⟨w.heap.size, 2, none⟩ (.int .i64 c)).drew).cell? ⟨w.heap.size, 2, none⟩ = some (.int .i64 m1) := by
  subst ha hc
  refine ⟨(((below_drewN hB _).setCell (Nat.le_refl _) _).setCell (Nat.le_refl _) _).drew, ?_, ?_, ?_, ?_⟩
  · simp [World.setCell]; exact hs
  · show (((w1.drewN k).setCell _ _).setCell _ _).cell? _ = _
    rw [World.cell?_setCell_other _ _ _ _ (by simp), World.cell?_setCell_other _ _ _ _ (by simp)]
    exact h0
  · show (((w1.drewN k).setCell _ _).setCell _ _).cell? _ = _
    rw [World.cell?_setCell_other _ _ _ _ (by simp)]
    exact World.cell?_setCell_same _ _ _ (u := .int .i64 o1) h1
  · show (((w1.drewN k).setCell _ _).setCell _ _).cell? _ = _
    refine World.cell?_setCell_same _ _ _ (u := .int .i64 o2) ?_
    rw [World.cell?_setCell_other _ _ _ _ (by simp)]
    exact h2

theorem three_below {w w' : World} {c : Nat} {v0 v1 v2 : Value} (h : Below w.heap.size w w')
    (x0 : w.cell? ⟨c, 0, none⟩ = some v0) (x1 : w.cell? ⟨c, 1, none⟩ = some v1) (x2 : w.cell? ⟨c, 2, none⟩ = some v2) :
    w'.cell? ⟨c, 0, none⟩ = some v0 ∧ w'.cell? ⟨c, 1, none⟩ = some v1 ∧ w'.cell? ⟨c, 2, none⟩ = some v2 := by
  have l := fun {a v} (e : w.cell? a = some v) => (h.cell (World.block_lt_of_cell? w a e)).trans e
  exact ⟨l x0, l x1, l x2⟩

theorem ret_tup {x : Option Addr} {a b c : Nat} {t : Bool} (h : a = b) : Ending.returned (.tuple #[.slice x a c, .bool t]) = .returned (.tuple #[.slice x b c, .bool t]) := by rw [h]

def pick3 {α : Type} (x y z : α) : Nat → α
  | 0 => x
  | 1 => y
  | _ => z

theorem lt3 {k : Nat} (h : k < 3) : k = 0 ∨ k = 1 ∨ k = 2 := by omega

/-- slices.Concat as Add calls it. -/
theorem addConcat (wc : World) (b i j n : Nat) (l : List En) (mr : En) (ek : ByteArray) (hkey : mr.key = ek) (a2 : Addr) (k2 c2 : Nat) (hl : l.length = n) (hE : Ents wc b 0 l) (hb : b < wc.heap.size) (hn : n ≤ 65536) (hij : i ≤ j) (hjn : j ≤ n) (hk2 : k2 = n - j) (ha2 : j < n → a2 = ⟨b, j * 3, none⟩) :
    Calls Try.prog 28 #[.slice (some ⟨wc.heap.size + 1, 0, none⟩) 3 3]
      (((wc.alloc (.cells #[.string ek, .int .i64 mr.mn, .int .i64 mr.mx] 30)).alloc (.cells #[.slice (some ⟨b, 0, none⟩) i n, .slice (some ⟨wc.heap.size, 0, none⟩) 1 1, .slice (some a2) k2 c2] 27)).drew) fun e w' =>
      ∃ cap, e = .returned (.slice (some ⟨wc.heap.size + 2, 0, none⟩) (l.take i ++ [mr] ++ l.drop j).length cap) ∧ Ents w' (wc.heap.size + 2) 0 (l.take i ++ [mr] ++ l.drop j) ∧ wc.heap.size + 2 < w'.heap.size ∧ (l.take i ++ [mr] ++ l.drop j).length ≤ cap ∧ Below wc.heap.size wc w' := by
  subst hkey
  generalize hW : (((wc.alloc (.cells #[.string mr.key, .int .i64 mr.mn, .int .i64 mr.mx] 30)).alloc (.cells #[.slice (some ⟨b, 0, none⟩) i n, .slice (some ⟨wc.heap.size, 0, none⟩) 1 1, .slice (some a2) k2 c2] 27)).drew) = W
  have hBW : Below wc.heap.size wc W := by
    rw [← hW]
    exact (((Below.refl _ _).alloc (Nat.le_refl _) _).alloc (by simp) _).drew
  have hsz : W.heap.size = wc.heap.size + 2 := by rw [← hW]; simp
  have hEW := hE.below hBW hb
  have hc : ∀ k, k < 3 → W.cell? ⟨wc.heap.size + 1, k, none⟩ = some (.slice (some (pick3 ⟨b, 0, none⟩ ⟨wc.heap.size, 0, none⟩ a2 k)) (pick3 (l.take i) [mr] (l.drop j) k).length (pick3 n 1 c2 k)) := by
    intro k hk
    rcases lt3 hk with rfl | rfl | rfl
    · rw [← hW]; simp [pick3]; omega
    · rw [← hW]; simp [pick3]
    · rw [← hW]; simp [pick3]; omega
  have hL : ∀ k, k < 3 → ∀ q u, (ecells (pick3 (l.take i) [mr] (l.drop j) k))[q]? = some u → W.cell? ((pick3 ⟨b, 0, none⟩ ⟨wc.heap.size, 0, none⟩ a2 k).add q) = some u := by
    intro k hk q u hu
    rcases lt3 hk with rfl | rfl | rfl
    · have := cells_of_ents (hEW.take i) q u hu
      show W.cell? ((⟨b, 0, none⟩ : Addr).add q) = _
      rw [Addr.add_lit]
      exact this
    · have hq : q < 3 := by have := (List.getElem?_eq_some_iff.1 hu).1; simpa [pick3, ecells] using this
      rcases lt3 hq with rfl | rfl | rfl
      · simp [pick3, ecells] at hu; rw [← hW, ← hu]; simp [pick3, Addr.add]
      · simp [pick3, ecells] at hu; rw [← hW, ← hu]; simp [pick3, Addr.add]
      · simp [pick3, ecells] at hu; rw [← hW, ← hu]; simp [pick3, Addr.add]
    · have hjlt : j < n := by
        have := (List.getElem?_eq_some_iff.1 hu).1
        rw [ecells_length] at this
        simp [pick3] at this
        omega
      have := cells_of_ents (hEW.drop j) q u hu
      show W.cell? (a2.add q) = _
      rw [ha2 hjlt, Addr.add_lit]
      simpa using this
  have e3 : totL (pick3 (l.take i) [mr] (l.drop j)) 3 = (l.take i ++ [mr] ++ l.drop j).length := by simp [totL, pick3]; omega
  have ec : catL (pick3 (l.take i) [mr] (l.drop j)) 3 = l.take i ++ [mr] ++ l.drop j := by simp [catL, pick3]
  have hlen : (l.take i ++ [mr] ++ l.drop j).length = i + 1 + (n - j) := by simp [hl]; omega
  have h := concat (wc.heap.size + 1) (pick3 ⟨b, 0, none⟩ ⟨wc.heap.size, 0, none⟩ a2) (pick3 n 1 c2) (pick3 (l.take i) [mr] (l.drop j)) W hc hL (by rw [e3, hlen]; omega) (by rw [e3, hlen]; omega)
  rw [e3, ec, hsz] at h
  refine h.mono ?_
  rintro e w' ⟨cap, rfl, hown, hb2⟩
  refine ⟨cap, rfl, ents_of_own hown rfl, (hown.lt _ rfl).2, ?_, hBW.trans (hb2.mono (by omega))⟩
  rcases hown.2 with ⟨h1, _⟩ | ⟨g, c, cur, h1, _, _, h2, _⟩
  · cases h1
  · cases h1; exact h2

end Go.Proofs.Qxb6604107a
