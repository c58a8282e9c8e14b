import Derived.Test.YbulkhdowFmtRow
namespace Go.Proofs.YbulkhdowFmt.Law
open Go.RowKit Go.Extern.Stop Go.Stop Go.Extern

theorem info48 : (Ybaf.prog.info? 48).map (fun i => (i.zero, i.size, i.bytes)) = some (some (.agg #[.string ⟨#[]⟩, .string ⟨#[]⟩, .string ⟨#[]⟩]), 3, 48) := by kernel_rfl

def nameB : ByteArray := ⟨#[110, 97, 109, 101]⟩
/-- The local name that the law gives attribute j. -/
def loc (lo : Nat → ByteArray) (nm : Nat → Bool) (j : Nat) : ByteArray := if nm j then ⟨#[110, 97, 109, 101]⟩ else lo j

/-- What the arguments' cells hold. -/
def Arg4 (w : World) (a : Option Addr) (n : Nat) (sp lo va : Nat → ByteArray) (nm : Nat → Bool) : Prop :=
  ∀ ad, a = some ad → ∀ j, j < n → ad.block < w.heap.size ∧ ad.spot = none ∧ w.cell? ⟨ad.block, ad.off + j * 4, none⟩ = some (.string (sp j)) ∧ w.cell? ⟨ad.block, ad.off + j * 4 + 1, none⟩ = some (.string (lo j)) ∧
    w.cell? ⟨ad.block, ad.off + j * 4 + 2, none⟩ = some (.string (va j)) ∧ w.cell? ⟨ad.block, ad.off + j * 4 + 3, none⟩ = some (.bool (nm j))

/-- What idx says after k rounds. -/
def Idx (L : Nat → ByteArray) (k : Nat) (m : Int) : Prop :=
  (m = -1 ∧ ∀ j, j < k → ((L j).toList == [110, 97, 109, 101]) = false) ∨
  (∃ q : Nat, m = q ∧ q < k ∧ ((L q).toList == [110, 97, 109, 101]) = true ∧ ∀ j, j < q → ((L j).toList == [110, 97, 109, 101]) = false)

structure Inv (w wr : World) (g1 g2 n k : Nat) (sp L va : Nat → ByteArray) : Prop where
  bel : Below w.heap.size w wr
  f1 : Fill wr g1 n k sp L va
  f2 : Fill wr g2 n k sp L va

theorem name_is : ((⟨#[110, 97, 109, 101]⟩ : ByteArray).toList == [110, 97, 109, 101]) = true := by decide +kernel

def BadS (s : ByteArray) : Prop := s.size = 0 ∨ ∃ k, ∃ hk : k < s.size, badC (s[k].toNat : Int)

/-- What symbolName hands back. -/
def Out (va : Nat → ByteArray) (n : Nat) (m : Int) (v : ByteArray) (x : Value) : Prop :=
  (m = -1 ∧ v = ⟨#[]⟩ ∧ ∃ y, x = .iface 72 y) ∨ (∃ q : Nat, m = q ∧ q < n ∧ BadS (va q) ∧ v = ⟨#[]⟩ ∧ ∃ y, x = .iface 72 y) ∨ (∃ q : Nat, m = q ∧ q < n ∧ ¬ BadS (va q) ∧ v = va q ∧ x = .nilIface)

structure Keep (w wq : World) (g1 g2 G n : Nat) (sp L va : Nat → ByteArray) : Prop where
  bel : Below w.heap.size w wq
  r1 : Row3 wq g1 n sp L va
  r2 : Row3 wq g2 n sp L va
  hd : wq.cell? ⟨G, 2, none⟩ = some (.slice (some ⟨g1, 0, none⟩) n n)

theorem Keep.drewN {w wq : World} {g1 g2 G n : Nat} {sp L va : Nat → ByteArray} (h : Keep w wq g1 g2 G n sp L va) (m : Nat) : Keep w (wq.drewN m) g1 g2 G n sp L va :=
  ⟨⟨h.bel.os, h.bel.tape, h.bel.output, h.bel.size, h.bel.block⟩, h.r1, h.r2, h.hd⟩

theorem sym_all (F : Interp) (a b : ByteArray) (sp L va : Nat → ByteArray) (n g : Nat) (m : Int) (w : World) (hF : F.answers w.tape) (hT : ∀ c : Int, 0 ≤ c → c ≤ 255 → NE (FmtStop.textOf (F "fmt.Sprintf" (readS c) 0)))
    (hn : n ≤ 1048576) (hg : g < w.heap.size) (hc : Row3 w g n sp L va) (hx : Idx L n m) (hv : ∀ j, j < n → (va j).size ≤ maxLen) :
    Calls Ybaf.prog 11 #[.agg #[.string a, .string b, .slice (some ⟨g, 0, none⟩) n n]] w fun e w' => (∃ v x, e = .returned (.tuple #[.string v, x]) ∧ Out va n m v x) ∧ Below w.heap.size w w' := by
  rcases hx with ⟨rfl, h⟩ | ⟨q, rfl, hq, hqn, h⟩
  · refine (sym_none a b sp L va n g w hn hg hc h).mono ?_
    rintro e w' ⟨⟨x, rfl⟩, hb⟩
    exact ⟨⟨_, _, rfl, Or.inl ⟨rfl, rfl, _, rfl⟩⟩, hb⟩
  · by_cases hb : BadS (va q)
    · refine (sym_bad F a b sp L va n g q w hF hT hn hg hc hq hqn h (hv q hq) hb).mono ?_
      rintro e w' ⟨⟨x, rfl⟩, hb'⟩
      exact ⟨⟨_, _, rfl, Or.inr (Or.inl ⟨q, rfl, hq, hb, rfl, _, rfl⟩)⟩, hb'⟩
    · have hb' := hb
      unfold BadS at hb'
      refine (sym_good a b sp L va n g q w hn hg hc hq hqn h (hv q hq) (fun e => hb' (Or.inl e)) (fun k hk hbk => hb' (Or.inr ⟨k, hk, hbk⟩))).mono ?_
      rintro e w' ⟨rfl, hb2⟩
      exact ⟨⟨_, _, rfl, Or.inr (Or.inr ⟨q, rfl, hq, hb, rfl, rfl⟩)⟩, hb2⟩

theorem Inv.step {w wr : World} {g1 g2 n k : Nat} {sp L va : Nat → ByteArray} (h : Inv w wr g1 g2 n k sp L va) (hk : k < n) (hne : w.heap.size ≤ g1 ∧ g1 < g2) {l : ByteArray} (hl : L k = l) (o : Obj) :
    Inv w (((((((wr.setCell ⟨g1, k * 3, none⟩ (.string (sp k))).setCell ⟨g1, k * 3 + 1, none⟩ (.string l)).setCell ⟨g1, k * 3 + 2, none⟩ (.string (va k))).setCell ⟨g2, k * 3, none⟩ (.string (sp k))).setCell ⟨g2, k * 3 + 1, none⟩ (.string l)).setCell ⟨g2, k * 3 + 2, none⟩ (.string (va k))).alloc o).drew g1 g2 n (k + 1) sp L va := by
  subst hl
  have hs := h.bel.size
  refine ⟨?_, ?_, ?_⟩
  · refine Below.drew (Below.alloc ?_ (by simpa using hs) o)
    exact (((((h.bel.setCell (by simp; omega) _).setCell (by simp; omega) _).setCell (by simp; omega) _).setCell (by simp; omega) _).setCell (by simp; omega) _).setCell (by simp; omega) _
  · exact (((((h.f1.store hk).other (by simp; omega) _).other (by simp; omega) _).other (by simp; omega) _).alloc o).drew
  · exact ((((h.f2.other (by simp; omega) _).other (by simp; omega) _).other (by simp; omega) _).store hk |>.alloc o).drew

theorem idx_hit {L : Nat → ByteArray} {k : Nat} {m : Int} (h : Idx L k m) (hm : m < 0) (hl : ((L k).toList == [110, 97, 109, 101]) = true) : Idx L (k + 1) k := by
  rcases h with ⟨_, h⟩ | ⟨q, rfl, _⟩
  · exact Or.inr ⟨k, rfl, by omega, hl, h⟩
  · omega

theorem idx_miss {L : Nat → ByteArray} {k : Nat} {m : Int} (h : Idx L k m) (hl : ((L k).toList == [110, 97, 109, 101]) = false) : Idx L (k + 1) m := by
  rcases h with ⟨e, h⟩ | ⟨q, e, hq, h1, h2⟩
  · refine Or.inl ⟨e, fun j hj => ?_⟩
    by_cases ej : j = k
    · subst ej; exact hl
    · exact h j (by omega)
  · exact Or.inr ⟨q, e, by omega, h1, h2⟩

theorem idx_past {L : Nat → ByteArray} {k : Nat} {m : Int} (h : Idx L k m) (hm : ¬ m < 0) : Idx L (k + 1) m := by
  rcases h with ⟨e, h⟩ | ⟨q, e, hq, h1, h2⟩
  · omega
  · exact Or.inr ⟨q, e, by omega, h1, h2⟩

theorem arg_at {w wr : World} {a : Option Addr} {n k : Nat} {sp lo va : Nat → ByteArray} {nm : Nat → Bool} (hnil : a = none → n = 0) (hc : Arg4 w a n sp lo va nm) (hb : Below w.heap.size w wr) (hk : k < n) :
    ∃ b off, a = some ⟨b, off, none⟩ ∧ b < w.heap.size ∧ wr.cell? ⟨b, off + k * 4, none⟩ = some (.string (sp k)) ∧ wr.cell? ⟨b, off + k * 4 + 1, none⟩ = some (.string (lo k)) ∧
      wr.cell? ⟨b, off + k * 4 + 2, none⟩ = some (.string (va k)) ∧ wr.cell? ⟨b, off + k * 4 + 3, none⟩ = some (.bool (nm k)) := by
  cases ha : a with
  | none => have := hnil ha; omega
  | some ad =>
    obtain ⟨hbk, hs, h0, h1, h2, h3⟩ := hc ad ha k hk
    obtain ⟨b, off, spt⟩ := ad
    simp only at hs hbk h0 h1 h2 h3
    subst hs
    exact ⟨b, off, rfl, hbk, (hb.cell (by exact hbk)).trans h0, (hb.cell (by exact hbk)).trans h1, (hb.cell (by exact hbk)).trans h2, (hb.cell (by exact hbk)).trans h3⟩

set_option maxHeartbeats 1600000 in
set_option maxRecDepth 100000 in
theorem walk (F : Interp) (s1 s2 : ByteArray) (a : Option Addr) (n cap : Nat) (sp lo va : Nat → ByteArray) (nm : Nat → Bool) (w : World) (hF : F.answers w.tape)
    (hT : ∀ c : Int, 0 ≤ c → c ≤ 255 → NE (FmtStop.textOf (F "fmt.Sprintf" (readS c) 0))) (hn : n ≤ 1048576) (hnil : a = none → n = 0) (hc : Arg4 w a n sp lo va nm) (hv : ∀ j, j < n → (va j).size ≤ maxLen) :
    Calls Ybaf.prog 4 #[.string s1, .string s2, .slice a n cap] w fun e w' => e = .returned (.bool true) ∧ Below w.heap.size w w' := by
  obtain ⟨i0, hi, hz0, hz1, hz2⟩ := info_parts info48
  have hlt : ¬ (1048576 : Int) < (n : Int) := by omega
  have HT : Hid (∀ c : Int, 0 ≤ c → c ≤ 255 → NE (FmtStop.textOf (F "fmt.Sprintf" (readS c) 0))) := hT
  have HF : Hid (F.answers w.tape) := hF
  have HA : Hid (Arg4 w a n sp lo va nm) := hc
  have HN : Hid (a = none → n = 0) := hnil
  have HV : Hid (∀ j, j < n → (va j).size ≤ maxLen) := hv
  clear hT hF hc hnil hv
  go_enter Ybaf.func4, Ybaf.ntmps4
  go_wp2_with (first
    | (at_make; refine wpList_make_full _ rfl (.tmp 22) (.tmp 22) 42 rfl w.heap.size 48 i0 (.agg #[.string ⟨#[]⟩, .string ⟨#[]⟩, .string ⟨#[]⟩]) 3 Ybaf.underlying42 hi hz0 hz1 _ _ _ _ n rfl rfl rfl rfl (by rw [hz2]; omega) (by unfold maxLen; omega) (Nat.le_refl _) ?_; intro w1 hown1 hgrow1)
    | (at_make; refine wpList_make_full w1 rfl (.tmp 25) (.tmp 25) 42 rfl w.heap.size 48 i0 (.agg #[.string ⟨#[]⟩, .string ⟨#[]⟩, .string ⟨#[]⟩]) 3 Ybaf.underlying42 hi hz0 hz1 _ _ _ _ n rfl rfl rfl rfl (by rw [hz2]; omega) (by unfold maxLen; omega) (by exact hgrow1.size) ?_; intro w2 hown2 hgrow2))
  have HI : Hid (Inv w w2 w.heap.size w1.heap.size n 0 sp (loc lo nm) va) :=
    ⟨((Below.refl _ _).grown hgrow1 (Nat.le_refl _) (by simp)).grown hgrow2 hgrow1.size (by simp), (Fill.made hown1).grown hgrow2 (by simp), Fill.made hown2⟩
  have hg12 : w.heap.size < w1.heap.size := (Fill.made (sp := sp) (L := lo) (va := va) hown1).lt
  clear hown1 hown2 hgrow1 hgrow2
  go_loopw [9, 10] (fun m i wr => ∃ (k : Nat) (mi : Int), k ≤ n ∧ i = .int .i64 k ∧ m = .int .i64 mi ∧ Hid (Idx (loc lo nm) k mi) ∧ Hid (Inv w wr w.heap.size w1.heap.size n k sp (loc lo nm) va)) (fun _ i _ => n - (intOf i).toNat)
  case atStart => exact ⟨0, -1, Nat.zero_le _, rfl, rfl, Or.inl ⟨rfl, fun j hj => absurd hj (by omega)⟩, HI⟩
  case round =>
    obtain ⟨k, mi, hk, rfl, rfl, HX, HR⟩ := hrel
    by_cases hlt : k < n
    · have hargs := arg_at HN.out HA.out HR.out.bel hlt
      obtain ⟨b, off, rfl, hbw, c0, c1, c2, c3⟩ := hargs
      have hbr : b < wr.heap.size := by have := HR.out.bel.size; omega
      have hki : (k : Int) < (n : Int) := by omega
      obtain ⟨u0, d0⟩ := HR.out.f1.any (i := k * 3) (by omega)
      obtain ⟨u1, d1⟩ := HR.out.f1.any (i := k * 3 + 1) (by omega)
      obtain ⟨u2, d2⟩ := HR.out.f1.any (i := k * 3 + 2) (by omega)
      obtain ⟨x0, e0⟩ := HR.out.f2.any (i := k * 3) (by omega)
      obtain ⟨x1, e1⟩ := HR.out.f2.any (i := k * 3 + 1) (by omega)
      obtain ⟨x2, e2⟩ := HR.out.f2.any (i := k * 3 + 2) (by omega)
      have fz1 := fun i => HR.out.f1.free i
      have fz2 := fun i => HR.out.f2.free i
      have hr1 : w.heap.size < wr.heap.size := HR.out.f1.lt
      have hr2 : w1.heap.size < wr.heap.size := HR.out.f2.lt
      cases hnm : nm k with
      | true =>
        rw [hnm] at c3
        have HL : Hid (loc lo nm k = ⟨#[110, 97, 109, 101]⟩) := by unfold loc; rw [hnm]; rfl
        have hL := HL.out
        clear hL
        by_cases hm : mi < 0
        · go_wp2
          go_region
          all_goals go_wp2
          all_goals
            go_roundw
            case rel => exact ⟨k + 1, k, by omega, by go_num, rfl, idx_hit HX.out hm (by rw [HL.out]; exact name_is), HR.out.step hlt (by omega) HL.out _⟩
            case measure => simp [intOf]; omega
        · go_wp2
          go_region
          all_goals go_wp2
          all_goals
            go_roundw
            case rel => exact ⟨k + 1, mi, by omega, by go_num, rfl, idx_past HX.out (by omega), HR.out.step hlt (by omega) HL.out _⟩
            case measure => simp [intOf]; omega
      | false =>
        rw [hnm] at c3
        have HL : Hid (loc lo nm k = lo k) := by unfold loc; rw [hnm]; rfl
        by_cases hm : mi < 0
        · cases hln : ((lo k).toList == [110, 97, 109, 101]) with
          | true =>
            go_wp2
            go_region
            all_goals go_wp2
            all_goals
              go_roundw
              case rel => exact ⟨k + 1, k, by omega, by go_num, rfl, idx_hit HX.out hm (by rw [HL.out]; exact hln), HR.out.step hlt (by omega) HL.out _⟩
              case measure => simp [intOf]; omega
          | false =>
            go_wp2
            go_region
            all_goals go_wp2
            all_goals
              go_roundw
              case rel => exact ⟨k + 1, mi, by omega, by go_num, rfl, idx_miss HX.out (by rw [HL.out]; exact hln), HR.out.step hlt (by omega) HL.out _⟩
              case measure => simp [intOf]; omega
        · go_wp2
          go_region
          all_goals go_wp2
          all_goals
            go_roundw
            case rel => exact ⟨k + 1, mi, by omega, by go_num, rfl, idx_past HX.out (by omega), HR.out.step hlt (by omega) HL.out _⟩
            case measure => simp [intOf]; omega
    · obtain rfl : k = n := by omega
      go_wp2_with fail
      have hs0 := HR.out.bel.size
      have hr1 : w.heap.size < wr.heap.size := HR.out.f1.lt
      have hr2 : w1.heap.size < wr.heap.size := HR.out.f2.lt
      have hb0 : Below w.heap.size w (wr.alloc (.cells #[.string s1, .string s2, .slice (some ⟨w.heap.size, 0, none⟩) k k] 50)) := HR.out.bel.alloc hs0 _
      have hTt : Hid (F.answers wr.tape) := by rw [HR.out.bel.tape]; exact HF
      refine (sym_all F s1 s2 sp (loc lo nm) va k w.heap.size mi _ (by exact hTt.out) HT.out hn (by simp; omega) ((HR.out.f1.alloc _).row) HX.out HV.out).mono ?_
      rintro e w3 ⟨⟨v, x, rfl, HO⟩, hb3⟩
      have HOut : Hid (Out va k mi v x) := HO
      clear HO
      have HR1 : Hid (Row3 w3 w.heap.size k sp (loc lo nm) va) := ((HR.out.f1.alloc _).row).below hb3 (by simp; omega)
      have HR2 : Hid (Row3 w3 w1.heap.size k sp (loc lo nm) va) := ((HR.out.f2.alloc _).row).below hb3 (by simp; omega)
      have HB3 : Hid (Below w.heap.size w w3) := hb0.trans (hb3.mono (by simp; omega))
      have hcb : w3.cell? ⟨wr.heap.size, 2, none⟩ = some (.slice (some ⟨w.heap.size, 0, none⟩) k k) := (hb3.cell (by simp)).trans (by go_simp)
      have HK : Hid (Keep w w3 w.heap.size w1.heap.size wr.heap.size k sp (loc lo nm) va) := ⟨HB3.out, HR1.out, HR2.out, hcb⟩
      clear hb3 hb0 HR hTt HB3 HR1 HR2
      go_wp2
      generalize wr.heap.size = G at *
      clear hcb
      go_loopw [16] (fun i wq => ∃ (j : Nat), j ≤ k ∧ i = .int .i64 j ∧ Hid (Keep w wq w.heap.size w1.heap.size G k sp (loc lo nm) va)) (fun i _ => k - (intOf i).toNat)
      case atStart => exact ⟨0, Nat.zero_le _, rfl, HK⟩
      case round =>
        obtain ⟨j, hj, rfl, HK2⟩ := hrel
        by_cases hjk : j < k
        · obtain ⟨c0, c1, c2⟩ := HK2.out.r1 j hjk
          obtain ⟨d0, d1, d2⟩ := HK2.out.r2 j hjk
          have hcb := HK2.out.hd
          have hji : (j : Int) < (k : Int) := by omega
          go_wp2
          go_quiet (fail)
          go_wp2
          go_roundw
          case rel => exact ⟨j + 1, by omega, by go_num, HK2.out.drewN _⟩
          case measure => simp [intOf]; omega
        · obtain rfl : j = k := by omega
          rcases HOut.out with ⟨rfl, rfl, y, rfl⟩ | ⟨q, rfl, hq, hbad, rfl, y, rfl⟩ | ⟨q, rfl, hq, hgood, rfl, rfl⟩
          · go_wp2
            go_ret
            exact ⟨rfl, HK2.out.bel⟩
          · have HBad : Hid (BadS (va q)) := hbad
            have HVq : Hid ((va q).size ≤ maxLen) := HV.out q hq
            clear hbad
            have c2 := (HK2.out.r2 q hq).2.2
            have hqi : (q : Int) < (j : Int) := by omega
            have hq0 : ¬ (q : Int) < 0 := by omega
            go_wp2_with (go_at_call 12; refine (bad_yes _ _ HVq.out HBad.out).mono ?_; rintro e w4 ⟨rfl, rfl⟩)
            go_ret
            exact ⟨rfl, HK2.out.bel⟩
          · have hg0 : (va q).size ≠ 0 := fun e => hgood (Or.inl e)
            have HGood : Hid (∀ k, ∀ hk : k < (va q).size, ¬ badC ((va q)[k].toNat : Int)) := fun k hk hbk => hgood (Or.inr ⟨k, hk, hbk⟩)
            have HVq : Hid ((va q).size ≤ maxLen ∧ (va q).size ≠ 0) := ⟨HV.out q hq, hg0⟩
            clear hgood hg0
            have c2 := (HK2.out.r2 q hq).2.2
            have hqi : (q : Int) < (j : Int) := by omega
            have hq0 : ¬ (q : Int) < 0 := by omega
            go_wp2_with (go_at_call 12; refine (bad_no _ _ HVq.out.1 HVq.out.2 HGood.out).mono ?_; rintro e w4 ⟨rfl, rfl⟩)
            go_ret
            exact ⟨rfl, HK2.out.bel⟩

set_option maxRecDepth 100000 in
theorem walk_big (s1 s2 : ByteArray) (a : Option Addr) (n cap : Nat) (w : World) (hn : 1048576 < n) :
    Calls Ybaf.prog 4 #[.string s1, .string s2, .slice a n cap] w fun e w' => e = .returned (.bool true) ∧ Below w.heap.size w w' := by
  have hlt : (1048576 : Int) < (n : Int) := by omega
  go_enter Ybaf.func4, Ybaf.ntmps4
  go_wp2
  go_ret
  exact ⟨rfl, Below.refl _ _⟩
end Go.Proofs.YbulkhdowFmt.Law
