import Derived.Test.YbulkhexiRows
import Derived.WalkKit
import Derived.ProofKit
import Derived.WalkSpells
import Derived.Outline
import Derived.Below
import Derived.Handy
import Derived.Laws.BytesArg
import Derived.Deep.QuietTactic
import Derived.BigQuiet
import Derived.RegionTactic
import Derived.BigRegion
namespace Go.Proofs.Ybulkhexi.Law
open Go.RowKit

/-! ### Slices of bytes -/
/-- The slice (p, n) reads as the numbers xs. -/
structure Bs (w : World) (p : Option Addr) (n : Nat) (xs : List Int) : Prop where
  len : xs.length = n
  cells : 0 < n → ∃ b o, p = some ⟨b, o, none⟩ ∧ ∀ i, i < n → w.cell? ⟨b, o + i, none⟩ = some (.int .u8 (xs.getD i 0))

theorem Bs.lt {w : World} {p : Option Addr} {n : Nat} {xs : List Int} (h : Bs w p n xs) : ∀ a, p = some a → 0 < n → a.block < w.heap.size := by
  intro a ha hn
  obtain ⟨b, o, e, hc⟩ := h.cells hn
  rw [e] at ha
  obtain rfl := Option.some.inj ha
  have := block_lt_of_cell (hc 0 hn)
  exact this

theorem Bs.below {B : Nat} {w w' : World} {p : Option Addr} {n : Nat} {xs : List Int} (h : Bs w p n xs) (hb : Below B w w') (hp : ∀ a, p = some a → 0 < n → a.block < B) : Bs w' p n xs :=
  ⟨h.len, fun hn => by
    obtain ⟨b, o, e, hc⟩ := h.cells hn
    exact ⟨b, o, e, fun i hi => (hb.cell (by have := hp _ e hn; exact this)).trans (hc i hi)⟩⟩

theorem Bs.after {w w' : World} {p : Option Addr} {n : Nat} {xs : List Int} (h : Bs w p n xs) (hb : Below w.heap.size w w') : Bs w' p n xs := h.below hb h.lt

theorem Bs.convert {w : World} {p : Option Addr} {n : Nat} {xs : List Int} (h : Bs w p n xs) (c : Nat) : (convert 24 9 (.slice p n c)).run Yba.prog w = .ok (.string (strOfNums xs)) w := by
  have hl := h.len
  rcases Nat.eq_zero_or_pos n with hn | hn
  · subst hn
    obtain rfl : xs = [] := List.eq_nil_of_length_eq_zero hl
    rw [run_convert_bytes_string w 24 9 5 _ 0 c Yba.underlying24 Yba.underlying5 Yba.underlying9]
    cases p <;> simp [Conv.bytesToString, loadCells] <;> rfl
  · obtain ⟨b, o, rfl, hc⟩ := h.cells hn
    exact run_convert_bytes_arg w 24 5 Yba.underlying24 Yba.underlying5 b o n c xs hl hc 9 Yba.underlying9

theorem equal_same (p1 p2 : Option Addr) (n c1 c2 : Nat) (xs : List Int) (w : World) (h1 : Bs w p1 n xs) (h2 : Bs w p2 n xs) :
    Calls Yba.prog 7 #[.slice p1 n c1, .slice p2 n c2] w fun e w' => e = .returned (.bool true) ∧ w' = w := by
  have k1 := h1.convert c1
  have k2 := h2.convert c2
  clear h1 h2
  go_enter Yba.func7, Yba.ntmps7
  go_wp2
  go_ret
  exact ⟨by simp, rfl⟩

theorem q24 (w : World) (a : Option Addr) (n c n' c' : Nat) : (binOp .eql 24 (.slice a n c) (.slice none n' c')).run Yba.prog w = .ok (.bool a.isNone) w := Lib.run_eql_slice_nil w _ _ a n c n' c' Yba.underlying24
theorem q22 (w : World) (a : Option Addr) (n c n' c' : Nat) : (binOp .eql 22 (.slice a n c) (.slice none n' c')).run Yba.prog w = .ok (.bool a.isNone) w := Lib.run_eql_slice_nil w _ _ a n c n' c' Yba.underlying22
theorem n24 (w : World) (a : Option Addr) (n c n' c' : Nat) : (binOp .neq 24 (.slice a n c) (.slice none n' c')).run Yba.prog w = .ok (.bool (!a.isNone)) w := run_neq_slice_nil_any w _ _ a n c n' c' Yba.underlying24

theorem same_any (p1 p2 : Option Addr) (n c1 c2 : Nat) (xs : List Int) (w : World) (h1 : Bs w p1 n xs) (h2 : Bs w p2 n xs) (hn : p1.isNone = p2.isNone) :
    Calls Yba.prog 6 #[.slice p1 n c1, .slice p2 n c2] w fun e w' => e = .returned (.bool true) ∧ w' = w := by
  have H1 : Hid (Bs w p1 n xs ∧ Bs w p2 n xs) := ⟨h1, h2⟩
  have e24 := q24
  cases hp : p2.isNone with
  | true =>
    rw [hp] at hn
    clear h1 h2
    go_enter Yba.func6, Yba.ntmps6
    go_wp2_with fail
    refine (equal_same p1 p2 n c1 c2 xs w H1.out.1 H1.out.2).mono ?_
    rintro e w1 ⟨rfl, rfl⟩
    go_wp2
    go_ret
    exact ⟨rfl, rfl⟩
  | false =>
    rw [hp] at hn
    clear h1 h2
    go_enter Yba.func6, Yba.ntmps6
    go_wp2_with fail
    refine (equal_same p1 p2 n c1 c2 xs w H1.out.1 H1.out.2).mono ?_
    rintro e w1 ⟨rfl, rfl⟩
    go_wp2
    go_ret
    exact ⟨rfl, rfl⟩
end Go.Proofs.Ybulkhexi.Law
