import Derived.Test.YbulkhdowFmtSmall
import Derived.Handy
namespace Go.Proofs.YbulkhdowFmt.Law
open Go.RowKit Go.Extern.Stop Go.Stop Go.Extern

/-- A row of attributes (three strings each) at the head of block g. -/
def Row3 (w : World) (g n : Nat) (sp lo va : Nat → ByteArray) : Prop :=
  ∀ j, j < n → w.cell? ⟨g, j * 3, none⟩ = some (.string (sp j)) ∧ w.cell? ⟨g, j * 3 + 1, none⟩ = some (.string (lo j)) ∧ w.cell? ⟨g, j * 3 + 2, none⟩ = some (.string (va j))

theorem Row3.below {B : Nat} {w w' : World} {g n : Nat} {sp lo va : Nat → ByteArray} (h : Row3 w g n sp lo va) (hb : Below B w w') (hg : g < B) : Row3 w' g n sp lo va :=
  fun j hj => ⟨(hb.cell (by exact hg)).trans (h j hj).1, (hb.cell (by exact hg)).trans (h j hj).2.1, (hb.cell (by exact hg)).trans (h j hj).2.2⟩

set_option maxHeartbeats 800000 in
theorem idx_none (sp lo va : Nat → ByteArray) (n g : Nat) (w : World) (hn : n ≤ 1048576) (hg : g < w.heap.size) (hc : Row3 w g n sp lo va) (h : ∀ j, j < n → ((lo j).toList == [110, 97, 109, 101]) = false) :
    Calls Ybaf.prog 24 #[.slice (some ⟨g, 0, none⟩) n n, .func (.func 25) #[] #[]] w fun e w' => e = .returned (.int .i64 (-1)) ∧ Below w.heap.size w w' := by
  have HC : Hid (Row3 w g n sp lo va) := hc
  have HN : Hid (∀ j, j < n → ((lo j).toList == [110, 97, 109, 101]) = false) := h
  clear hc h
  go_enter Ybaf.func24, Ybaf.ntmps24
  go_wp2
  go_loopw [8] (fun i wr => ∃ k : Nat, k ≤ n ∧ i = .int .i64 k ∧ Below w.heap.size w wr) (fun i _ => n - (intOf i).toNat)
  case atStart => exact ⟨0, Nat.zero_le _, rfl, Below.refl _ _⟩
  case round =>
    obtain ⟨k, hk, rfl, hb⟩ := hrel
    by_cases hlt : k < n
    · obtain ⟨c0, c1, c2⟩ := HC.out.below hb hg k hlt
      have hki : (k : Int) < (n : Int) := by omega
      have hnm := HN.out k hlt
      go_wp2_with (go_at_call 25; refine (isName_any _ _ _ _).mono ?_; rintro e w1 ⟨rfl, hb1⟩)
      go_roundw
      case rel => exact ⟨k + 1, by omega, by go_num, hb.trans (hb1.mono hb.size)⟩
      case measure => simp [intOf]; omega
    · go_wp2
      go_ret
      exact ⟨rfl, hb⟩

set_option maxHeartbeats 800000 in
theorem idx_some (sp lo va : Nat → ByteArray) (n g q : Nat) (w : World) (hn : n ≤ 1048576) (hg : g < w.heap.size) (hc : Row3 w g n sp lo va) (hq : q < n) (hqn : ((lo q).toList == [110, 97, 109, 101]) = true)
    (h : ∀ j, j < q → ((lo j).toList == [110, 97, 109, 101]) = false) :
    Calls Ybaf.prog 24 #[.slice (some ⟨g, 0, none⟩) n n, .func (.func 25) #[] #[]] w fun e w' => e = .returned (.int .i64 q) ∧ Below w.heap.size w w' := by
  have HC : Hid (Row3 w g n sp lo va) := hc
  have HN : Hid (∀ j, j < q → ((lo j).toList == [110, 97, 109, 101]) = false) := h
  have HQ : Hid (((lo q).toList == [110, 97, 109, 101]) = true) := hqn
  clear hc h hqn
  go_enter Ybaf.func24, Ybaf.ntmps24
  go_wp2
  go_loopw [8] (fun i wr => ∃ k : Nat, k ≤ q ∧ i = .int .i64 k ∧ Below w.heap.size w wr) (fun i _ => n - (intOf i).toNat)
  case atStart => exact ⟨0, Nat.zero_le _, rfl, Below.refl _ _⟩
  case round =>
    obtain ⟨k, hk, rfl, hb⟩ := hrel
    obtain ⟨c0, c1, c2⟩ := HC.out.below hb hg k (by omega)
    have hki : (k : Int) < (n : Int) := by omega
    by_cases hlt : k < q
    · have hnm := HN.out k hlt
      go_wp2_with (go_at_call 25; refine (isName_any _ _ _ _).mono ?_; rintro e w1 ⟨rfl, hb1⟩)
      go_roundw
      case rel => exact ⟨k + 1, by omega, by go_num, hb.trans (hb1.mono hb.size)⟩
      case measure => simp [intOf]; omega
    · obtain rfl : k = q := by omega
      have hnm := HQ.out
      go_wp2_with (go_at_call 25; refine (isName_any _ _ _ _).mono ?_; rintro e w1 ⟨rfl, hb1⟩)
      go_ret
      exact ⟨rfl, hb.trans (hb1.mono hb.size)⟩

/-! ### symbolName -/
set_option maxHeartbeats 800000 in
theorem sym_none (a b : ByteArray) (sp lo va : Nat → ByteArray) (n g : Nat) (w : World) (hn : n ≤ 1048576) (hg : g < w.heap.size) (hc : Row3 w g n sp lo va) (h : ∀ j, j < n → ((lo j).toList == [110, 97, 109, 101]) = false) :
    Calls Ybaf.prog 11 #[.agg #[.string a, .string b, .slice (some ⟨g, 0, none⟩) n n]] w fun e w' => (∃ x, e = .returned (.tuple #[.string ⟨#[]⟩, .iface 72 x])) ∧ Below w.heap.size w w' := by
  have HC : Hid (Row3 w g n sp lo va) := hc
  have HN : Hid (∀ j, j < n → ((lo j).toList == [110, 97, 109, 101]) = false) := h
  clear hc h
  go_enter Ybaf.func11, Ybaf.ntmps11
  go_wp2_with fail
  have hb0 : Below w.heap.size w (w.alloc (.cells #[.string a, .string b, .slice (some ⟨g, 0, none⟩) n n] 50)) := (Below.refl _ _).alloc (Nat.le_refl _) _
  refine (idx_none sp lo va n g _ hn (by simp; omega) (HC.out.below hb0 hg) HN.out).mono ?_
  rintro e w1 ⟨rfl, hb1⟩
  have hb2 : Below w.heap.size w w1 := hb0.trans (hb1.mono (by simp))
  go_wp2_with (go_at_call 26; refine (new_any _ _).mono ?_; rintro e w2 ⟨rfl, hb3⟩)
  go_ret2
  exact ⟨⟨_, rfl⟩, hb2.trans (hb3.mono hb2.size)⟩

set_option maxHeartbeats 800000 in
theorem sym_good (a b : ByteArray) (sp lo va : Nat → ByteArray) (n g q : Nat) (w : World) (hn : n ≤ 1048576) (hg : g < w.heap.size) (hc : Row3 w g n sp lo va) (hq : q < n) (hqn : ((lo q).toList == [110, 97, 109, 101]) = true)
    (h : ∀ j, j < q → ((lo j).toList == [110, 97, 109, 101]) = false) (hs : (va q).size ≤ maxLen) (h0 : (va q).size ≠ 0) (hgood : ∀ k, ∀ hk : k < (va q).size, ¬ badC ((va q)[k].toNat : Int)) :
    Calls Ybaf.prog 11 #[.agg #[.string a, .string b, .slice (some ⟨g, 0, none⟩) n n]] w fun e w' => e = .returned (.tuple #[.string (va q), .nilIface]) ∧ Below w.heap.size w w' := by
  have HC : Hid (Row3 w g n sp lo va) := hc
  have HN : Hid (∀ j, j < q → ((lo j).toList == [110, 97, 109, 101]) = false) := h
  have HQ : Hid (((lo q).toList == [110, 97, 109, 101]) = true) := hqn
  have HG : Hid (∀ k, ∀ hk : k < (va q).size, ¬ badC ((va q)[k].toNat : Int)) := hgood
  have HV : Hid ((va q).size ≤ maxLen ∧ (va q).size ≠ 0) := ⟨hs, h0⟩
  clear hc h hqn hgood hs h0
  go_enter Ybaf.func11, Ybaf.ntmps11
  go_wp2_with fail
  have hb0 : Below w.heap.size w (w.alloc (.cells #[.string a, .string b, .slice (some ⟨g, 0, none⟩) n n] 50)) := (Below.refl _ _).alloc (Nat.le_refl _) _
  refine (idx_some sp lo va n g q _ hn (by simp; omega) (HC.out.below hb0 hg) hq HQ.out HN.out).mono ?_
  rintro e w1 ⟨rfl, hb1⟩
  have hb2 : Below w.heap.size w w1 := hb0.trans (hb1.mono (by simp))
  have c2 := (HC.out.below hb2 hg q hq).2.2
  have cb : w1.cell? ⟨w.heap.size, 2, none⟩ = some (.slice (some ⟨g, 0, none⟩) n n) := (hb1.cell (by simp)).trans (by go_simp)
  have hqi : (q : Int) < (n : Int) := by omega
  go_wp2_with (go_at_call 27; refine (fault_good _ _ HV.out.1 HV.out.2 HG.out).mono ?_; rintro e w2 ⟨rfl, rfl⟩)
  go_ret2
  exact ⟨rfl, hb2⟩

set_option maxHeartbeats 800000 in
theorem sym_bad (F : Interp) (a b : ByteArray) (sp lo va : Nat → ByteArray) (n g q : Nat) (w : World) (hF : F.answers w.tape) (hT : ∀ c : Int, 0 ≤ c → c ≤ 255 → NE (FmtStop.textOf (F "fmt.Sprintf" (readS c) 0)))
    (hn : n ≤ 1048576) (hg : g < w.heap.size) (hc : Row3 w g n sp lo va) (hq : q < n) (hqn : ((lo q).toList == [110, 97, 109, 101]) = true)
    (h : ∀ j, j < q → ((lo j).toList == [110, 97, 109, 101]) = false) (hs : (va q).size ≤ maxLen) (hbad : (va q).size = 0 ∨ ∃ k, ∃ hk : k < (va q).size, badC ((va q)[k].toNat : Int)) :
    Calls Ybaf.prog 11 #[.agg #[.string a, .string b, .slice (some ⟨g, 0, none⟩) n n]] w fun e w' => (∃ x, e = .returned (.tuple #[.string ⟨#[]⟩, .iface 72 x])) ∧ Below w.heap.size w w' := by
  have HC : Hid (Row3 w g n sp lo va) := hc
  have HN : Hid (∀ j, j < q → ((lo j).toList == [110, 97, 109, 101]) = false) := h
  have HQ : Hid (((lo q).toList == [110, 97, 109, 101]) = true) := hqn
  have HG : Hid ((va q).size = 0 ∨ ∃ k, ∃ hk : k < (va q).size, badC ((va q)[k].toNat : Int)) := hbad
  have HV : Hid ((va q).size ≤ maxLen) := hs
  have HT : Hid (∀ c : Int, 0 ≤ c → c ≤ 255 → NE (FmtStop.textOf (F "fmt.Sprintf" (readS c) 0))) := hT
  have HF : Hid (F.answers w.tape) := hF
  clear hc h hqn hbad hs hT hF
  go_enter Ybaf.func11, Ybaf.ntmps11
  go_wp2_with fail
  have hb0 : Below w.heap.size w (w.alloc (.cells #[.string a, .string b, .slice (some ⟨g, 0, none⟩) n n] 50)) := (Below.refl _ _).alloc (Nat.le_refl _) _
  refine (idx_some sp lo va n g q _ hn (by simp; omega) (HC.out.below hb0 hg) hq HQ.out HN.out).mono ?_
  rintro e w1 ⟨rfl, hb1⟩
  have hb2 : Below w.heap.size w w1 := hb0.trans (hb1.mono (by simp))
  have c2 := (HC.out.below hb2 hg q hq).2.2
  have cb : w1.cell? ⟨w.heap.size, 2, none⟩ = some (.slice (some ⟨g, 0, none⟩) n n) := (hb1.cell (by simp)).trans (by go_simp)
  have hqi : (q : Int) < (n : Int) := by omega
  have HF1 : Hid (F.answers w1.tape) := by rw [hb2.tape]; exact HF
  go_wp2_with fail
  refine (fault_bad F _ _ HF1.out HT.out HV.out HG.out).mono ?_
  rintro e w2 ⟨⟨i, t, rfl, hne⟩, hb3⟩
  have ht : t.toList.isEmpty = false := notEmpty hne
  have HF2 : Hid (F.answers w2.tape) := by rw [hb3.tape]; exact HF1
  clear hne
  go_wp2_with fail
  refine (errorf_any F (va q) t _ _ (by exact HF2.out) (by go_simp) (by go_simp)).mono ?_
  rintro e w3 ⟨⟨x, rfl⟩, hb4⟩
  have hb5 : Below w.heap.size w w2 := hb2.trans (hb3.mono hb2.size)
  have hb6 : Below w.heap.size w w3 := (hb5.alloc hb5.size _).trans (hb4.mono (by have := hb5.size; simp; omega))
  go_wp2
  go_ret2
  exact ⟨⟨_, rfl⟩, hb6⟩
end Go.Proofs.YbulkhdowFmt.Law
