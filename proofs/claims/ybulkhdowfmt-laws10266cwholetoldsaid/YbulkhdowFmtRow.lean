import Derived.Test.YbulkhdowFmtSym
import Derived.Deep.QuietTactic
import Derived.BigQuiet
import Derived.RegionTactic
import Derived.BigRegion
namespace Go.Proofs.YbulkhdowFmt.Law
open Go.RowKit Go.Extern.Stop Go.Stop Go.Extern

/-- Block g is a row of n attributes of the call's own, of which the first k are filled. -/
def Fill (w : World) (g n k : Nat) (sp L va : Nat → ByteArray) : Prop :=
  ∃ c : Array Value, w.heap[g]? = some (.cells c 48 (0, 0)) ∧ c.size = n * 3 ∧
    ∀ j, j < k → c[j * 3]? = some (.string (sp j)) ∧ c[j * 3 + 1]? = some (.string (L j)) ∧ c[j * 3 + 2]? = some (.string (va j))

section
variable {w w' : World} {g n k : Nat} {sp L va : Nat → ByteArray}

theorem Fill.lt (h : Fill w g n k sp L va) : g < w.heap.size := by
  obtain ⟨c, hc, _⟩ := h
  exact (Array.getElem?_eq_some_iff.1 hc).1

theorem Fill.made {base : Nat} {xs : List Value} (h : w.ownsRow base 48 3 (.slice (some ⟨g, 0, none⟩) n n) n xs) : Fill w g n 0 sp L va := by
  rcases h.2 with ⟨h2, _⟩ | ⟨g', cap, cur, h2, _, h3, _, _, h4, _⟩
  · simp at h2
  · simp at h2
    obtain ⟨rfl, rfl⟩ := h2
    exact ⟨cur, h3, h4, fun j hj => absurd hj (by omega)⟩

theorem Fill.block (h : Fill w g n k sp L va) (e : w'.heap[g]? = w.heap[g]?) : Fill w' g n k sp L va := by
  obtain ⟨c, hc, h2⟩ := h
  exact ⟨c, e.trans hc, h2⟩

theorem Fill.grown {row : Option Nat} (h : Fill w g n k sp L va) (hg : w.grownBy w' row) (hne : some g ≠ row) : Fill w' g n k sp L va :=
  h.block (hg.block g h.lt hne)

theorem Fill.alloc (h : Fill w g n k sp L va) (o : Obj) : Fill (w.alloc o) g n k sp L va :=
  h.block (Below.heap_alloc _ _ _ h.lt)

theorem Fill.drewN (h : Fill w g n k sp L va) (m : Nat) : Fill (w.drewN m) g n k sp L va := h.block rfl
theorem Fill.drew (h : Fill w g n k sp L va) : Fill w.drew g n k sp L va := h.block rfl

theorem Fill.other (h : Fill w g n k sp L va) {a : Addr} (ha : g ≠ a.block) (u : Value) : Fill (w.setCell a u) g n k sp L va :=
  h.block (heap_setCell_other w a g u ha)

theorem Fill.any (h : Fill w g n k sp L va) {i : Nat} (hi : i < n * 3) : ∃ v, w.cell? ⟨g, i, none⟩ = some v := by
  obtain ⟨c, hc, hs, _⟩ := h
  exact ⟨c[i], by simp [World.cell?, hc, show i < c.size by omega]⟩

theorem Fill.free (h : Fill w g n k sp L va) (i : Nat) : w.frozen? ⟨g, i, none⟩ = false := by
  obtain ⟨c, hc, hs, _⟩ := h
  simp [World.frozen?, hc]

theorem Fill.row (h : Fill w g n n sp L va) : Row3 w g n sp L va := by
  obtain ⟨c, hc, hs, hf⟩ := h
  intro j hj
  obtain ⟨h0, h1, h2⟩ := hf j hj
  refine ⟨?_, ?_, ?_⟩ <;> simp only [World.cell?, hc] <;> simp_all

theorem Fill.store (h : Fill w g n k sp L va) (hk : k < n) :
    Fill (((w.setCell ⟨g, k * 3, none⟩ (.string (sp k))).setCell ⟨g, k * 3 + 1, none⟩ (.string (L k))).setCell ⟨g, k * 3 + 2, none⟩ (.string (va k))) g n (k + 1) sp L va := by
  obtain ⟨c, hc, hs, hf⟩ := h
  have e1 := heap_setCell_same w g (k * 3) c 48 (.string (sp k)) hc
  have e2 := heap_setCell_same _ g (k * 3 + 1) _ 48 (.string (L k)) e1
  have e3 := heap_setCell_same _ g (k * 3 + 2) _ 48 (.string (va k)) e2
  refine ⟨_, e3, by simp [hs], fun j hj => ?_⟩
  by_cases e : j = k
  · subst e
    refine ⟨?_, ?_, ?_⟩ <;> simp [Array.getElem?_setIfInBounds] <;> omega
  · obtain ⟨h0, h1, h2⟩ := hf j (by omega)
    refine ⟨?_, ?_, ?_⟩
    · simp only [Array.getElem?_setIfInBounds]; rw [if_neg (by omega), if_neg (by omega), if_neg (by omega)]; exact h0
    · simp only [Array.getElem?_setIfInBounds]; rw [if_neg (by omega), if_neg (by omega), if_neg (by omega)]; exact h1
    · simp only [Array.getElem?_setIfInBounds]; rw [if_neg (by omega), if_neg (by omega), if_neg (by omega)]; exact h2
end
end Go.Proofs.YbulkhdowFmt.Law
