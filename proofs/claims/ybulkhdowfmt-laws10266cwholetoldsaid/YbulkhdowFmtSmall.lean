import Derived.Test.YbulkhdowFmtCards
import Derived.WalkKit
import Derived.ProofKit
import Derived.WalkSpells
import Derived.Outline
import Derived.Below
import Derived.Stop.CallBack
import Derived.Stop.IfaceNil
import Derived.Stop.Texts
namespace Go.Proofs.YbulkhdowFmt.Law
open Go.RowKit Go.Extern.Stop Go.Stop Go.Extern

/-! ### The closed facts for the stopped functions of fmt (functions 29 and 33 of this dump) -/
theorem call29 (args : Array Value) (w : World) : (callFunc 29 args).run Ybaf.prog w = (FmtCalls.sprintf #[9, 66] #[9] args).run Ybaf.prog w :=
  run_callFunc_next Ybaf.func29 (by kernel_rfl) (by kernel_rfl) (by kernel_rfl) args w
theorem call33 (args : Array Value) (w : World) : (callFunc 33 args).run Ybaf.prog w = ((FmtStop.errorf #[9, 66] #[29] args).run Ybaf.prog w).andThen fun v w' => .ok (.value v) w' :=
  run_callFunc_extern Ybaf.func33 (by kernel_rfl) (by kernel_rfl) (by kernel_rfl) (by kernel_rfl) args w
theorem guardOk (name : String) (w : World) : (FmtStop.guard name).run Ybaf.prog w = .ok () w := by kernel_rfl
theorem nextTurns : Extern.next FmtCalls.turnsRow = some (FmtCalls.begun #[] #[]) := by kernel_rfl
theorem fmtS : FmtStop.printed? ⟨#[104, 111, 108, 100, 115, 32, 116, 104, 101, 32, 98, 121, 116, 101, 32, 48, 120, 37, 48, 50, 120]⟩ 1 = some [(0, 120, false)] := by kernel_rfl
theorem fmtSr (w : World) : (FmtDoors.printed ⟨#[104, 111, 108, 100, 115, 32, 116, 104, 101, 32, 98, 121, 116, 101, 32, 48, 120, 37, 48, 50, 120]⟩ 1).run Ybaf.prog w = .ok [(0, 120, false)] w := by kernel_rfl
theorem fmtE : FmtStop.printed? ⟨#[116, 104, 101, 32, 110, 97, 109, 101, 32, 111, 102, 32, 116, 104, 101, 32, 101, 108, 102, 45, 115, 121, 109, 98, 111, 108, 32, 37, 113, 32, 37, 115]⟩ 2 = some [(0, 113, false), (1, 115, false)] := by kernel_rfl
theorem fmtEr (w : World) : (FmtDoors.printed ⟨#[116, 104, 101, 32, 110, 97, 109, 101, 32, 111, 102, 32, 116, 104, 101, 32, 101, 108, 102, 45, 115, 121, 109, 98, 111, 108, 32, 37, 113, 32, 37, 115]⟩ 2).run Ybaf.prog w = .ok [(0, 113, false), (1, 115, false)] w := by kernel_rfl
def shape5 : List UInt8 := [6, 5, 0, 0, 0, 0, 0, 0, 0, 117, 105, 110, 116, 56]
def shape9 : List UInt8 := [12, 6, 0, 0, 0, 0, 0, 0, 0, 115, 116, 114, 105, 110, 103]
theorem act5 (name : String) (x : Value) (w : World) : (FmtCalls.act name false 120 false (.iface 5 x)).run Ybaf.prog w = .ok (.closed false) w := by kernel_rfl
theorem op5 (name : String) (x : Int) (w : World) : (FmtStop.operand name false 120 false (.iface 5 (.int .u8 x))).run Ybaf.prog w = .ok (shape5, Go.Extern.Stop.digits 8 (x % 2 ^ 64).toNat) w := by kernel_rfl
theorem op9q (name : String) (x : ByteArray) (w : World) : (FmtStop.operand name true 113 false (.iface 9 (.string x))).run Ybaf.prog w = .ok (shape9, FmtStop.pack x.data.toList) w := by kernel_rfl
theorem op9s (name : String) (x : ByteArray) (w : World) : (FmtStop.operand name true 115 false (.iface 9 (.string x))).run Ybaf.prog w = .ok (shape9, FmtStop.pack x.data.toList) w := by kernel_rfl
theorem ptr72 (w : World) : (FmtStop.ptrTo "errors.errorString").run Ybaf.prog w = .ok 72 w := by kernel_rfl
theorem elem72 (w : World) : (elemOf 72).run Ybaf.prog w = .ok 74 w := by kernel_rfl
attribute [local go_sem] call29 call33 guardOk fmtS fmtSr fmtE fmtEr act5 op5 op9q op9s ptr72 elem72

/-! ### The small functions -/
/-- The closure: the second cell of the attribute is "name". -/
theorem isName_any (a b c : ByteArray) (w : World) :
    Calls Ybaf.prog 25 #[.agg #[.string a, .string b, .string c]] w fun e w' => e = .returned (.bool (b.toList == [110, 97, 109, 101])) ∧ Below w.heap.size w w' := by
  go_enter Ybaf.func25, Ybaf.ntmps25
  go_wp2
  go_ret
  exact ⟨rfl, (Below.refl _ _).alloc (Nat.le_refl _) _⟩

theorem new_any (s : ByteArray) (w : World) :
    Calls Ybaf.prog 26 #[.string s] w fun e w' => e = .returned (.iface 72 (.pointer (some ⟨w.heap.size, 0, none⟩))) ∧ Below w.heap.size w w' := by
  go_enter Ybaf.func26, Ybaf.ntmps26
  go_wp2
  go_ret
  exact ⟨rfl, (Below.refl _ _).alloc (Nat.le_refl _) _⟩

set_option maxHeartbeats 800000 in
theorem errorf_any (F : Interp) (s t : ByteArray) (g : Nat) (w : World) (hF : F.answers w.tape) (c0 : w.cell? ⟨g, 0, none⟩ = some (.iface 9 (.string s))) (c1 : w.cell? ⟨g, 1, none⟩ = some (.iface 9 (.string t))) :
    Calls Ybaf.prog 28 #[.string ⟨#[116, 104, 101, 32, 110, 97, 109, 101, 32, 111, 102, 32, 116, 104, 101, 32, 101, 108, 102, 45, 115, 121, 109, 98, 111, 108, 32, 37, 113, 32, 37, 115]⟩, .slice (some ⟨g, 0, none⟩) 2 2] w
      fun e w' => (∃ x, e = .returned (.iface 72 x)) ∧ Below w.heap.size w w' := by
  have hF' := answers_open hF
  go_enter Ybaf.func28, Ybaf.ntmps28
  go_wp2
  go_ret
  exact ⟨⟨_, rfl⟩, ((Below.refl _ _).alloc (Nat.le_refl _) _).drew⟩

/-- A byte that no symbol's name may hold. -/
def badC (c : Int) : Prop := c ≤ 32 ∨ c = 127

theorem notBad {c : Int} (h1 : 32 < c) (h2 : (c == 127) = false) : ¬ badC c := by
  unfold badC; simp at h2; omega
theorem ofNotBad {c : Int} (h : ¬ badC c) : 32 < c ∧ (c == 127) = false := by
  unfold badC at h; simp; omega
theorem good_step {s : ByteArray} {k : Nat} (hk : k < s.size) (h : ∀ j, j < k → ∀ hj : j < s.size, ¬ badC (s[j].toNat : Int)) (hb : ¬ badC (s[k].toNat : Int)) :
    ∀ j, j < k + 1 → ∀ hj : j < s.size, ¬ badC (s[j].toNat : Int) := by
  intro j hj hj'
  by_cases e : j = k
  · subst e; exact hb
  · exact h j (by omega) hj'
theorem isEmpty_eq (s : ByteArray) : s.toList.isEmpty = decide (s.size = 0) := by
  rw [← decide_eq_emptyBytes]
  by_cases h : s.size = 0
  · have : s = ByteArray.empty := by
      cases s with
      | mk d => simp [ByteArray.size] at h; subst h; rfl
    simp [this]
  · have : s ≠ ByteArray.empty := fun e => h (by rw [e]; rfl)
    simp [h, this]
theorem notEmpty {s : ByteArray} (h : s.size ≠ 0) : s.toList.isEmpty = false := by
  rw [isEmpty_eq]; simp [h]
theorem isEmpty_of {s : ByteArray} (h : s.size = 0) : s.toList.isEmpty = true := by
  rw [isEmpty_eq]; simp [h]
/-- A text that is not empty (a name of its own, so that the walk leaves it standing). -/
def NE (t : ByteArray) : Prop := t.size ≠ 0

set_option maxHeartbeats 800000 in
theorem bad_yes (s : ByteArray) (w : World) (hs : s.size ≤ maxLen) (h : s.size = 0 ∨ ∃ k, ∃ hk : k < s.size, badC (s[k].toNat : Int)) :
    Calls Ybaf.prog 12 #[.string s] w fun e w' => e = .returned (.bool true) ∧ w = w' := by
  unfold maxLen at hs
  by_cases h0 : s.size = 0
  · have h0' : ((s.size : Int) == 0) = true := by simp [h0]
    clear h
    go_enter Ybaf.func12, Ybaf.ntmps12
    go_wp2
    go_ret
    exact ⟨rfl, rfl⟩
  · have HB : Hid (∃ k, ∃ hk : k < s.size, badC (s[k].toNat : Int)) := h.resolve_left h0
    have h0' : ((s.size : Int) == 0) = false := by simp [h0]
    clear h
    go_enter Ybaf.func12, Ybaf.ntmps12
    go_wp2
    go_loop [3] (fun i => ∃ k : Nat, k ≤ s.size ∧ i = .int .i64 k ∧ Hid (∀ j, j < k → ∀ hj : j < s.size, ¬ badC (s[j].toNat : Int))) (fun i => s.size - (intOf i).toNat)
    case atStart => exact ⟨0, Nat.zero_le _, rfl, fun j hj => absurd hj (by omega)⟩
    case round =>
      obtain ⟨k, hk, rfl, HN⟩ := hrel
      by_cases hlt : k < s.size
      · go_wp2
        all_goals first
          | (go_ret; exact ⟨rfl, rfl⟩)
          | (have h1 : 32 < (s[k].toNat : Int) ∧ ((s[k].toNat : Int) == 127) = false := by assumption
             go_round
             case rel => exact ⟨k + 1, by omega, by go_num, good_step hlt HN.out (notBad h1.1 h1.2)⟩
             case measure => simp [intOf]; omega)
      · exfalso
        obtain ⟨q, hq, hb⟩ := HB.out
        exact HN.out q (by omega) hq hb

set_option maxHeartbeats 800000 in
theorem bad_no (s : ByteArray) (w : World) (hs : s.size ≤ maxLen) (h0 : s.size ≠ 0) (h : ∀ k, ∀ hk : k < s.size, ¬ badC (s[k].toNat : Int)) :
    Calls Ybaf.prog 12 #[.string s] w fun e w' => e = .returned (.bool false) ∧ w = w' := by
  unfold maxLen at hs
  have HB : Hid (∀ k, ∀ hk : k < s.size, ¬ badC (s[k].toNat : Int)) := h
  have h0' : ((s.size : Int) == 0) = false := by simp [h0]
  clear h
  go_enter Ybaf.func12, Ybaf.ntmps12
  go_wp2
  go_loop [3] (fun i => ∃ k : Nat, k ≤ s.size ∧ i = .int .i64 k) (fun i => s.size - (intOf i).toNat)
  case atStart => exact ⟨0, Nat.zero_le _, rfl⟩
  case round =>
    obtain ⟨k, hk, rfl⟩ := hrel
    by_cases hlt : k < s.size
    · have hn : 32 < (s[k].toNat : Int) ∧ ((s[k].toNat : Int) == 127) = false := ofNotBad (HB.out k hlt)
      obtain ⟨hn1, hn2⟩ := hn
      go_wp2
      go_round
      case rel => exact ⟨k + 1, by omega, by go_num⟩
      case measure => simp [intOf]; omega
    · go_wp2
      go_ret
      exact ⟨rfl, rfl⟩

/-! ### nameFault -/
def readS (c : Int) : List (List UInt8) := [[104, 111, 108, 100, 115, 32, 116, 104, 101, 32, 98, 121, 116, 101, 32, 48, 120, 37, 48, 50, 120], shape5, Go.Extern.Stop.digits 8 (c % 18446744073709551616).toNat]

set_option maxHeartbeats 800000 in
theorem fault_good (s : ByteArray) (w : World) (hs : s.size ≤ maxLen) (h0 : s.size ≠ 0) (h : ∀ k, ∀ hk : k < s.size, ¬ badC (s[k].toNat : Int)) :
    Calls Ybaf.prog 27 #[.string s] w fun e w' => e = .returned (.tuple #[.int .i64 (-1), .string ⟨#[]⟩]) ∧ w = w' := by
  unfold maxLen at hs
  have HB : Hid (∀ k, ∀ hk : k < s.size, ¬ badC (s[k].toNat : Int)) := h
  have h0' : s.toList.isEmpty = false := notEmpty h0
  clear h
  go_enter Ybaf.func27, Ybaf.ntmps27
  go_wp2
  go_loop [4] (fun i => ∃ k : Nat, k ≤ s.size ∧ i = .int .i64 k) (fun i => s.size - (intOf i).toNat)
  case atStart => exact ⟨0, Nat.zero_le _, rfl⟩
  case round =>
    obtain ⟨k, hk, rfl⟩ := hrel
    by_cases hlt : k < s.size
    · obtain ⟨hn1, hn2⟩ := ofNotBad (HB.out k hlt)
      have hn3 : ((s[k].toNat : Int) == 32) = false := by simp; omega
      have hn4 : ((s[k].toNat : Int) == 9) = false := by simp; omega
      go_wp2
      go_round
      case rel => exact ⟨k + 1, by omega, by go_num⟩
      case measure => simp [intOf]; omega
    · go_wp2
      go_ret2
      exact ⟨rfl, rfl⟩

set_option maxHeartbeats 1600000 in
theorem fault_bad (F : Interp) (s : ByteArray) (w : World) (hF : F.answers w.tape) (hT : ∀ c : Int, 0 ≤ c → c ≤ 255 → NE (FmtStop.textOf (F "fmt.Sprintf" (readS c) 0)))
    (hs : s.size ≤ maxLen) (h : s.size = 0 ∨ ∃ k, ∃ hk : k < s.size, badC (s[k].toNat : Int)) :
    Calls Ybaf.prog 27 #[.string s] w fun e w' => (∃ i t, e = .returned (.tuple #[.int .i64 i, .string t]) ∧ NE t) ∧ Below w.heap.size w w' := by
  unfold maxLen at hs
  have HT : Hid (∀ c : Int, 0 ≤ c → c ≤ 255 → NE (FmtStop.textOf (F "fmt.Sprintf" (readS c) 0))) := hT
  clear hT
  by_cases h0 : s.size = 0
  · have h0' : s.toList.isEmpty = true := isEmpty_of h0
    clear h
    go_enter Ybaf.func27, Ybaf.ntmps27
    go_wp2
    go_ret2
    exact ⟨⟨_, _, rfl, by unfold NE; decide⟩, Below.refl _ _⟩
  · have HB : Hid (∃ k, ∃ hk : k < s.size, badC (s[k].toNat : Int)) := h.resolve_left h0
    have h0' : s.toList.isEmpty = false := notEmpty h0
    have hF' := answers_open hF
    clear h
    go_enter Ybaf.func27, Ybaf.ntmps27
    go_wp2
    go_loop [4] (fun i => ∃ k : Nat, k ≤ s.size ∧ i = .int .i64 k ∧ Hid (∀ j, j < k → ∀ hj : j < s.size, ¬ badC (s[j].toNat : Int))) (fun i => s.size - (intOf i).toNat)
    case atStart => exact ⟨0, Nat.zero_le _, rfl, fun j hj => absurd hj (by omega)⟩
    case round =>
      obtain ⟨k, hk, rfl, HN⟩ := hrel
      by_cases hlt : k < s.size
      · go_wp2
        all_goals first
          | (go_ret2; exact ⟨⟨_, _, rfl, by unfold NE; decide⟩, Below.refl _ _⟩)
          | (apply rows_value nextTurns
             case hr => go_simp; exact ⟨rfl, rfl⟩
             case h =>
               go_wp2
               go_ret2
               exact ⟨⟨_, _, rfl, HT.out _ (by omega) (by have := s[k].toNat_lt; omega)⟩, ((Below.refl _ _).alloc (Nat.le_refl _) _).drew⟩)
          | (have h1 : 32 ≤ (s[k].toNat : Int) ∧ ((s[k].toNat : Int) == 127) = false := by assumption
             have h2 : ((s[k].toNat : Int) == 32) = false ∧ ((s[k].toNat : Int) == 9) = false := by assumption
             go_round
             case rel => exact ⟨k + 1, by omega, by go_num, good_step hlt HN.out (notBad (by have := h2.1; simp at this; omega) h1.2)⟩
             case measure => simp [intOf]; omega)
      · exfalso
        obtain ⟨q, hq, hb⟩ := HB.out
        exact HN.out q (by omega) hq hb
end Go.Proofs.YbulkhdowFmt.Law
