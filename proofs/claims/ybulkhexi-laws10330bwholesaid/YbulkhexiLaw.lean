import Derived.Test.YbulkhexiClone
namespace Go.Proofs.Ybulkhexi.Law
open Go.RowKit

/-- The item that the law hands to leave. -/
abbrev itemV (kind major info arg : Int) : Value :=
  .agg #[.int .u8 kind, .int .u8 major, .int .u8 info, .int .u64 arg, .slice none 0 0, .int .u8 0, .bool false, .string ⟨#[]⟩, .int .u64 0, .int .i64 0, .int .u8 0, .int .u8 0, .int .u64 0]

set_option maxHeartbeats 800000 in
theorem leave_other (gc : Nat) (kind major info arg : Int) (w : World) (hk : (kind == 8) = false) :
    Calls Yba.prog 5 #[.pointer (some ⟨gc, 0, none⟩), itemV kind major info arg] w fun e w' => e = .returned .nilIface ∧ Below w.heap.size w w' := by
  go_enter Yba.func5, Yba.ntmps5
  go_wp2
  go_ret
  exact ⟨rfl, (Below.refl _ _).alloc (Nat.le_refl _) _⟩

/-- What leave makes of a map's item. -/
def Left1 (gc g n : Nat) (w : World) (e : Ending) (w' : World) : Prop :=
  e = .returned .nilIface ∧ Below gc w w' ∧ w'.cell? ⟨gc, 0, none⟩ = w.cell? ⟨gc, 0, none⟩ ∧ w'.cell? ⟨gc, 1, none⟩ = some (.slice (some ⟨g, 0, none⟩) (n - 1) n)

theorem left_close {gc g n : Nat} {w : World} {v : Value} (hg : gc < w.heap.size) (h1 : w.cell? ⟨gc, 1, none⟩ = some v) (o : Obj) :
    Left1 gc g n w (.returned .nilIface) ((w.setCell ⟨gc, 1, none⟩ (.slice (some ⟨g, 0, none⟩) (n - 1) n)).alloc o).drew := by
  have hb : Below w.heap.size (w.setCell ⟨gc, 1, none⟩ (.slice (some ⟨g, 0, none⟩) (n - 1) n)) ((w.setCell ⟨gc, 1, none⟩ (.slice (some ⟨g, 0, none⟩) (n - 1) n)).alloc o).drew :=
    ((Below.refl _ _).alloc (by simp) o).drew
  refine ⟨rfl, ((Below.refl _ _).setCell (by exact Nat.le_refl _) _).trans (hb.mono (by omega)), ?_, ?_⟩
  · exact (hb.cell (by exact hg)).trans (World.cell?_setCell_other _ _ _ _ (by simp))
  · exact (hb.cell (by exact hg)).trans (World.cell?_setCell_same _ _ _ h1)

set_option maxHeartbeats 1600000 in
theorem leave_map (gc g n : Nat) (major info arg : Int) (w : World) (hn : 0 < n) (hb : n * 24 ≤ 140737488355328) (hg : gc < w.heap.size) (h1 : w.cell? ⟨gc, 1, none⟩ = some (.slice (some ⟨g, 0, none⟩) n n)) (hf : w.frozen? ⟨gc, 1, none⟩ = false) :
    Calls Yba.prog 5 #[.pointer (some ⟨gc, 0, none⟩), itemV 8 major info arg] w fun e w' => Left1 gc g n w e w' := by
  go_enter Yba.func5, Yba.ntmps5
  go_wp2
  go_region
  all_goals go_wp2
  all_goals go_ret
  all_goals exact left_close hg h1 _

/-- What the last two loops read. -/
structure Reads (w wq : World) (p p1 p2 : Option Addr) (gc n m : Nat) (L : Nat → Nat) (X : Nat → List Int) (N : Nat → Bool) : Prop where
  bel : Below w.heap.size w wq
  k0 : KeysAt wq p n L X N
  k1 : KeysAt wq p1 n L X N
  k2 : KeysAt wq p2 n L X N
  fld : wq.cell? ⟨gc, 1, none⟩ = some (.slice p2 m n)

theorem Bs.drewN {w : World} {p : Option Addr} {n : Nat} {xs : List Int} (h : Bs w p n xs) (m : Nat) : Bs (w.drewN m) p n xs := ⟨h.len, h.cells⟩
theorem KeysAt.drewN {w : World} {p : Option Addr} {n : Nat} {L : Nat → Nat} {X : Nat → List Int} {N : Nat → Bool} (h : KeysAt w p n L X N) (m : Nat) : KeysAt (w.drewN m) p n L X N := by
  intro hn
  obtain ⟨b, o, e, hc⟩ := h hn
  refine ⟨b, o, e, fun i hi => ?_⟩
  obtain ⟨a, c, h1, h2, h3⟩ := hc i hi
  exact ⟨a, c, h1, h2.drewN m, h3⟩
theorem Reads.drewN {w wq : World} {p p1 p2 : Option Addr} {gc n m : Nat} {L : Nat → Nat} {X : Nat → List Int} {N : Nat → Bool} (h : Reads w wq p p1 p2 gc n m L X N) (t : Nat) : Reads w (wq.drewN t) p p1 p2 gc n m L X N :=
  ⟨⟨h.bel.os, h.bel.tape, h.bel.output, h.bel.size, h.bel.block⟩, h.k0.drewN t, h.k1.drewN t, h.k2.drewN t, h.fld⟩

set_option maxHeartbeats 1600000 in
set_option maxRecDepth 100000 in
theorem walk (hd : Int) (p : Option Addr) (n c : Nat) (kind major info arg : Int) (L : Nat → Nat) (X : Nat → List Int) (N : Nat → Bool) (w : World) (h : KeysAt w p n L X N) (h0 : p = none → n = 0) (hn : n * 24 ≤ 140737488355328) (hL : ∀ i, i < n → L i ≤ 140737488355328) :
    Calls Yba.prog 3 #[.int .i64 hd, .slice p n c, .int .u8 kind, .int .u8 major, .int .u8 info, .int .u64 arg] w fun e w' => e = .returned (.bool true) ∧ Below w.heap.size w w' := by
  have e22 := q22
  have HK : Hid (KeysAt w p n L X N) := h
  have HL : Hid (∀ i, i < n → L i ≤ 140737488355328) := hL
  have H0 : Hid (p = none → n = 0) := h0
  clear h hL h0
  go_enter Yba.func3, Yba.ntmps3
  go_wp2
  go_loop [13, 14] (fun t i => ∃ (k : Nat) (tt : Int), k ≤ n ∧ i = .int .i64 k ∧ t = .int .i64 tt) (fun _ i => n - (intOf i).toNat)
  case atStart => exact ⟨0, n, Nat.zero_le _, rfl, rfl⟩
  case round =>
    obtain ⟨k, tt, hk, rfl, rfl⟩ := hrel
    by_cases hlt : k < n
    · obtain ⟨b, o, rfl, hcs⟩ := HK.out (by omega)
      obtain ⟨a, ca, hcell, hBs, hNone, hz⟩ := hcs k hlt
      have hki : (k : Int) < (n : Int) := by omega
      clear hcs hBs hNone hz
      go_wp2
      go_round
      case rel => exact ⟨k + 1, _, by omega, by go_num, rfl⟩
      case measure => simp [intOf]; omega
    · obtain rfl : k = n := by omega
      by_cases hbig : 1048576 < tt
      · go_wp2
        go_ret
        exact ⟨rfl, Below.refl _ _⟩
      · by_cases hmap : kind = 8
        · subst hmap
          by_cases hk0 : k = 0
          · subst hk0
            go_wp2
            go_ret
            exact ⟨rfl, Below.refl _ _⟩
          · have hkb : ((k : Int) == 0) = false := by simp; omega
            go_wp2_with fail
            refine (clone_any p k c L X N w HK.out H0.out hn HL.out).mono ?_
            rintro e w1 ⟨p1, rfl, hb1, hK1, hn1, ha1⟩
            have H1 : Hid (Below w.heap.size w w1 ∧ KeysAt w1 p1 k L X N ∧ p1.isNone = p.isNone) := ⟨hb1, hK1, hn1⟩
            clear hb1 hK1 hn1 ha1
            go_wp2_with fail
            refine (clone_any p k c L X N w1 (HK.out.after H1.out.1) H0.out hn HL.out).mono ?_
            rintro e w2 ⟨p2, rfl, hb2, hK2, hn2, ha2⟩
            have H2 : Hid (Below w1.heap.size w1 w2 ∧ KeysAt w2 p2 k L X N ∧ p2.isNone = p.isNone ∧ (∀ a, p2 = some a → a = ⟨w1.heap.size, 0, none⟩ ∧ w1.heap.size < w2.heap.size)) := ⟨hb2, hK2, hn2, ha2⟩
            clear hb2 hK2 hn2 ha2
            go_wp2_with fail
            obtain ⟨b2, o2, e2, _⟩ := H2.out.2.1 (by omega)
            obtain ⟨e3, _⟩ := H2.out.2.2.2 _ e2
            rw [e3] at e2
            subst e2
            refine (leave_map w2.heap.size w1.heap.size k major info arg _ (by omega) hn (by simp only [World.size_alloc]; omega) (by go_simp) (by go_simp)).mono ?_
            rintro e w5 ⟨rfl, hb5, hc0, hc1⟩
            have HF : Hid (Reads w w5 p p1 (some ⟨w1.heap.size, 0, none⟩) w2.heap.size k (k - 1) L X N) := by
              have hb25 : Below w2.heap.size w2 w5 := (((Below.refl w2.heap.size w2).alloc (Nat.le_refl _) (.cells #[.int .i64 hd, .slice (some ⟨w1.heap.size, 0, none⟩) k k] 29)).alloc (by simp only [World.size_alloc]; omega) _).trans hb5
              have hb12 := H2.out.1
              have hb01 := H1.out.1
              have hb02 : Below w.heap.size w w2 := hb01.trans (hb12.mono hb01.size)
              exact ⟨hb02.trans (hb25.mono hb02.size), (HK.out.after hb02).after hb25, (H1.out.2.1.after hb12).after hb25, H2.out.2.1.after hb25, hc1⟩
            have hh0 : w5.cell? ⟨w2.heap.size, 0, none⟩ = some (.int .i64 hd) := hc0.trans (by go_simp)
            clear hc0 hb5 e3
            go_wp2
            go_loopw [21] (fun i wq => ∃ j : Nat, j ≤ (k - 1) ∧ i = .int .i64 j ∧ Hid (Reads w wq p p1 (some ⟨w1.heap.size, 0, none⟩) w2.heap.size k (k - 1) L X N)) (fun i _ => (k - 1) - (intOf i).toNat)
            case atStart => exact ⟨0, Nat.zero_le _, rfl, HF⟩
            case round =>
              obtain ⟨j, hj, rfl, HF2⟩ := hrel
              by_cases hjm : j < (k - 1)
              · obtain ⟨bb, oo, ee, hcc⟩ := HF2.out.k2 (by omega)
                obtain ⟨a2, c2, hx2, hb2, hn2, _⟩ := hcc j (by omega)
                obtain ⟨b1, o1, e1, hc1'⟩ := HF2.out.k1 (by omega)
                obtain ⟨a1, ca1, hx1, hb1, hn1, _⟩ := hc1' j (by omega)
                have hfld := HF2.out.fld
                have HS : Hid (Bs _ a2 (L j) (X j) ∧ Bs _ a1 (L j) (X j) ∧ a2.isNone = a1.isNone) := ⟨hb2, hb1, hn2.trans hn1.symm⟩
                have hji : (j : Int) < ((k - 1) : Nat) := by omega
                have hjk : (j : Int) < (k : Int) := by omega
                clear hcc hc1' hb2 hb1 hn2 hn1
                cases ee
                subst e1
                try simp only [Nat.zero_add] at hx2
                go_wp2
                go_quiet ((go_at_call 6; exact Calls.quiet_of_same (same_any _ _ _ _ _ (X j) _ (HS.out.1.drewN _) (HS.out.2.1.drewN _) HS.out.2.2)))
                go_wp2
                go_roundw
                case rel => exact ⟨j + 1, by omega, by go_num, HF2.out.drewN _⟩
                case measure => simp [intOf]; omega
              · go_wp2
                go_loopw [22] (fun i wq => ∃ t : Nat, t ≤ k ∧ i = .int .i64 t ∧ Hid (Reads w wq p p1 (some ⟨w1.heap.size, 0, none⟩) w2.heap.size k (k - 1) L X N)) (fun i _ => k - (intOf i).toNat)
                case atStart => exact ⟨0, Nat.zero_le _, rfl, HF2⟩
                case round =>
                  obtain ⟨t, ht, rfl, HF3⟩ := hrel
                  by_cases htk : t < k
                  · obtain ⟨bb, oo, ee, hcc⟩ := HF3.out.k0 (by omega)
                    obtain ⟨a2, c2, hx2, hb2, hn2, _⟩ := hcc t (by omega)
                    obtain ⟨b1, o1, e1, hc1'⟩ := HF3.out.k1 (by omega)
                    obtain ⟨a1, ca1, hx1, hb1, hn1, _⟩ := hc1' t (by omega)
                    have HS : Hid (Bs _ a2 (L t) (X t) ∧ Bs _ a1 (L t) (X t) ∧ a2.isNone = a1.isNone) := ⟨hb2, hb1, hn2.trans hn1.symm⟩
                    have htki : (t : Int) < (k : Int) := by omega
                    clear hcc hc1' hb2 hb1 hn2 hn1
                    cases ee
                    subst e1
                    go_wp2
                    go_quiet ((go_at_call 6; exact Calls.quiet_of_same (same_any _ _ _ _ _ (X t) _ (HS.out.1.drewN _) (HS.out.2.1.drewN _) HS.out.2.2)))
                    go_wp2
                    go_roundw
                    case rel => exact ⟨t + 1, by omega, by go_num, HF3.out.drewN _⟩
                    case measure => simp [intOf]; omega
                  · go_wp2
                    go_ret
                    exact ⟨rfl, HF3.out.bel⟩
        · have hkb : (kind == 8) = false := by simp [hmap]
          go_wp2_with fail
          refine (clone_any p k c L X N w HK.out H0.out hn HL.out).mono ?_
          rintro e w1 ⟨p1, rfl, hb1, hK1, hn1, ha1⟩
          have H1 : Hid (Below w.heap.size w w1 ∧ KeysAt w1 p1 k L X N) := ⟨hb1, hK1⟩
          clear hb1 hK1 ha1
          go_wp2_with fail
          refine (clone_any p k c L X N w1 (HK.out.after H1.out.1) H0.out hn HL.out).mono ?_
          rintro e w2 ⟨p2, rfl, hb2, hK2, hn2, ha2⟩
          have H2 : Hid (Below w1.heap.size w1 w2 ∧ KeysAt w2 p2 k L X N) := ⟨hb2, hK2⟩
          have hnn : p2.isNone = p1.isNone := hn2.trans hn1.symm
          clear hb2 hK2 ha2 hn1 hn2
          go_wp2_with fail
          refine (leave_other w2.heap.size kind major info arg _ hkb).mono ?_
          rintro e w5 ⟨rfl, hb5⟩
          have HF : Hid (Reads w w5 p p1 p2 w2.heap.size k k L X N) := by
            have hb25 : Below w2.heap.size w2 w5 := (((Below.refl w2.heap.size w2).alloc (Nat.le_refl _) (.cells #[.int .i64 hd, .slice p2 k k] 29)).alloc (by simp only [World.size_alloc]; omega) _).trans (hb5.mono (by simp only [World.size_alloc]; omega))
            have hb12 := H2.out.1
            have hb01 := H1.out.1
            have hb02 : Below w.heap.size w w2 := hb01.trans (hb12.mono hb01.size)
            exact ⟨hb02.trans (hb25.mono hb02.size), (HK.out.after hb02).after hb25, (H1.out.2.after hb12).after hb25, H2.out.2.after hb25, (hb5.cell (by simp only [World.size_alloc]; omega)).trans (by go_simp)⟩
          have hh0 : w5.cell? ⟨w2.heap.size, 0, none⟩ = some (.int .i64 hd) := (hb5.cell (by simp only [World.size_alloc]; omega)).trans (by go_simp)
          have hc1 := HF.out.fld
          clear hb5
          cases hni : p1.isNone with
          | true =>
            rw [hni] at hnn
            go_wp2
            go_loopw [21] (fun i wq => ∃ j : Nat, j ≤ k ∧ i = .int .i64 j ∧ Hid (Reads w wq p p1 p2 w2.heap.size k k L X N)) (fun i _ => k - (intOf i).toNat)
            case atStart => exact ⟨0, Nat.zero_le _, rfl, HF⟩
            case round =>
              obtain ⟨j, hj, rfl, HF2⟩ := hrel
              by_cases hjm : j < k
              · obtain ⟨bb, oo, ee, hcc⟩ := HF2.out.k2 (by omega)
                obtain ⟨a2, c2, hx2, hb2, hn2, _⟩ := hcc j (by omega)
                obtain ⟨b1, o1, e1, hc1'⟩ := HF2.out.k1 (by omega)
                obtain ⟨a1, ca1, hx1, hb1, hn1, _⟩ := hc1' j (by omega)
                have hfld := HF2.out.fld
                have HS : Hid (Bs _ a2 (L j) (X j) ∧ Bs _ a1 (L j) (X j) ∧ a2.isNone = a1.isNone) := ⟨hb2, hb1, hn2.trans hn1.symm⟩
                have hji : (j : Int) < (k : Nat) := by omega
                have hjk : (j : Int) < (k : Int) := by omega
                clear hcc hc1' hb2 hb1 hn2 hn1
                cases ee
                subst e1
                try simp only [Nat.zero_add] at hx2
                go_wp2
                go_quiet ((go_at_call 6; exact Calls.quiet_of_same (same_any _ _ _ _ _ (X j) _ (HS.out.1.drewN _) (HS.out.2.1.drewN _) HS.out.2.2)))
                go_wp2
                go_roundw
                case rel => exact ⟨j + 1, by omega, by go_num, HF2.out.drewN _⟩
                case measure => simp [intOf]; omega
              · go_wp2
                go_loopw [22] (fun i wq => ∃ t : Nat, t ≤ k ∧ i = .int .i64 t ∧ Hid (Reads w wq p p1 p2 w2.heap.size k k L X N)) (fun i _ => k - (intOf i).toNat)
                case atStart => exact ⟨0, Nat.zero_le _, rfl, HF2⟩
                case round =>
                  obtain ⟨t, ht, rfl, HF3⟩ := hrel
                  by_cases htk : t < k
                  · obtain ⟨bb, oo, ee, hcc⟩ := HF3.out.k0 (by omega)
                    obtain ⟨a2, c2, hx2, hb2, hn2, _⟩ := hcc t (by omega)
                    obtain ⟨b1, o1, e1, hc1'⟩ := HF3.out.k1 (by omega)
                    obtain ⟨a1, ca1, hx1, hb1, hn1, _⟩ := hc1' t (by omega)
                    have HS : Hid (Bs _ a2 (L t) (X t) ∧ Bs _ a1 (L t) (X t) ∧ a2.isNone = a1.isNone) := ⟨hb2, hb1, hn2.trans hn1.symm⟩
                    have htki : (t : Int) < (k : Int) := by omega
                    clear hcc hc1' hb2 hb1 hn2 hn1
                    cases ee
                    subst e1
                    go_wp2
                    go_quiet ((go_at_call 6; exact Calls.quiet_of_same (same_any _ _ _ _ _ (X t) _ (HS.out.1.drewN _) (HS.out.2.1.drewN _) HS.out.2.2)))
                    go_wp2
                    go_roundw
                    case rel => exact ⟨t + 1, by omega, by go_num, HF3.out.drewN _⟩
                    case measure => simp [intOf]; omega
                  · go_wp2
                    go_ret
                    exact ⟨rfl, HF3.out.bel⟩
          | false =>
            rw [hni] at hnn
            go_wp2
            go_loopw [21] (fun i wq => ∃ j : Nat, j ≤ k ∧ i = .int .i64 j ∧ Hid (Reads w wq p p1 p2 w2.heap.size k k L X N)) (fun i _ => k - (intOf i).toNat)
            case atStart => exact ⟨0, Nat.zero_le _, rfl, HF⟩
            case round =>
              obtain ⟨j, hj, rfl, HF2⟩ := hrel
              by_cases hjm : j < k
              · obtain ⟨bb, oo, ee, hcc⟩ := HF2.out.k2 (by omega)
                obtain ⟨a2, c2, hx2, hb2, hn2, _⟩ := hcc j (by omega)
                obtain ⟨b1, o1, e1, hc1'⟩ := HF2.out.k1 (by omega)
                obtain ⟨a1, ca1, hx1, hb1, hn1, _⟩ := hc1' j (by omega)
                have hfld := HF2.out.fld
                have HS : Hid (Bs _ a2 (L j) (X j) ∧ Bs _ a1 (L j) (X j) ∧ a2.isNone = a1.isNone) := ⟨hb2, hb1, hn2.trans hn1.symm⟩
                have hji : (j : Int) < (k : Nat) := by omega
                have hjk : (j : Int) < (k : Int) := by omega
                clear hcc hc1' hb2 hb1 hn2 hn1
                cases ee
                subst e1
                try simp only [Nat.zero_add] at hx2
                go_wp2
                go_quiet ((go_at_call 6; exact Calls.quiet_of_same (same_any _ _ _ _ _ (X j) _ (HS.out.1.drewN _) (HS.out.2.1.drewN _) HS.out.2.2)))
                go_wp2
                go_roundw
                case rel => exact ⟨j + 1, by omega, by go_num, HF2.out.drewN _⟩
                case measure => simp [intOf]; omega
              · go_wp2
                go_loopw [22] (fun i wq => ∃ t : Nat, t ≤ k ∧ i = .int .i64 t ∧ Hid (Reads w wq p p1 p2 w2.heap.size k k L X N)) (fun i _ => k - (intOf i).toNat)
                case atStart => exact ⟨0, Nat.zero_le _, rfl, HF2⟩
                case round =>
                  obtain ⟨t, ht, rfl, HF3⟩ := hrel
                  by_cases htk : t < k
                  · obtain ⟨bb, oo, ee, hcc⟩ := HF3.out.k0 (by omega)
                    obtain ⟨a2, c2, hx2, hb2, hn2, _⟩ := hcc t (by omega)
                    obtain ⟨b1, o1, e1, hc1'⟩ := HF3.out.k1 (by omega)
                    obtain ⟨a1, ca1, hx1, hb1, hn1, _⟩ := hc1' t (by omega)
                    have HS : Hid (Bs _ a2 (L t) (X t) ∧ Bs _ a1 (L t) (X t) ∧ a2.isNone = a1.isNone) := ⟨hb2, hb1, hn2.trans hn1.symm⟩
                    have htki : (t : Int) < (k : Int) := by omega
                    clear hcc hc1' hb2 hb1 hn2 hn1
                    cases ee
                    subst e1
                    go_wp2
                    go_quiet ((go_at_call 6; exact Calls.quiet_of_same (same_any _ _ _ _ _ (X t) _ (HS.out.1.drewN _) (HS.out.2.1.drewN _) HS.out.2.2)))
                    go_wp2
                    go_roundw
                    case rel => exact ⟨t + 1, by omega, by go_num, HF3.out.drewN _⟩
                    case measure => simp [intOf]; omega
                  · go_wp2
                    go_ret
                    exact ⟨rfl, HF3.out.bel⟩
end Go.Proofs.Ybulkhexi.Law
