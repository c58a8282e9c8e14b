import Derived.Test.YbulkhexiSmall
namespace Go.Proofs.Ybulkhexi.Law
open Go.RowKit

/-- The slice of byte slices (p, n): element i has length L i, bytes X i, and is nil just where N i says so. -/
def KeysAt (w : World) (p : Option Addr) (n : Nat) (L : Nat → Nat) (X : Nat → List Int) (N : Nat → Bool) : Prop :=
  0 < n → ∃ b o, p = some ⟨b, o, none⟩ ∧ ∀ i, i < n → ∃ a c, w.cell? ⟨b, o + i, none⟩ = some (.slice a (L i) c) ∧ Bs w a (L i) (X i) ∧ a.isNone = N i ∧ (a = none → L i = 0)

section
variable {w w' wr : World} {p : Option Addr} {n k g : Nat} {L : Nat → Nat} {X : Nat → List Int} {N : Nat → Bool}

theorem KeysAt.after (h : KeysAt w p n L X N) (hb : Below w.heap.size w w') : KeysAt w' p n L X N := by
  intro hn
  obtain ⟨b, o, e, hc⟩ := h hn
  refine ⟨b, o, e, fun i hi => ?_⟩
  obtain ⟨a, c, h1, h2, h3⟩ := hc i hi
  exact ⟨a, c, (hb.cell (by have := block_lt_of_cell h1; exact this)).trans h1, h2.after hb, h3⟩

structure CInv (w wr : World) (g n k : Nat) (L : Nat → Nat) (X : Nat → List Int) (N : Nat → Bool) : Prop where
  bel : Below w.heap.size w wr
  row : ∃ cur : Array Value, wr.heap[g]? = some (.cells cur 24 (0, 0)) ∧ cur.size = n ∧
    (∀ j, j < k → ∃ a c, cur[j]? = some (.slice a (L j) c) ∧ Bs wr a (L j) (X j) ∧ a.isNone = N j ∧ (a = none → L j = 0) ∧ (∀ x, a = some x → 0 < L j → x.block ≠ g)) ∧
    (∀ j, k ≤ j → j < n → cur[j]? = some (.slice none 0 0))

theorem CInv.lt (h : CInv w wr g n k L X N) : g < wr.heap.size := by
  obtain ⟨cur, hg, _⟩ := h.row
  exact (Array.getElem?_eq_some_iff.1 hg).1

theorem CInv.cell (h : CInv w wr g n k L X N) (hk : k < n) : wr.cell? ⟨g, k, none⟩ = some (.slice none 0 0) := by
  obtain ⟨cur, hg, _, _, h2⟩ := h.row
  simp only [World.cell?, hg]
  simpa using h2 k (Nat.le_refl _) hk

theorem CInv.free (h : CInv w wr g n k L X N) (i : Nat) : wr.frozen? ⟨g, i, none⟩ = false := by
  obtain ⟨cur, hg, _⟩ := h.row
  simp [World.frozen?, hg]

theorem CInv.made {xs : List Value} (hb : Below w.heap.size w wr) (h : wr.ownsRow w.heap.size 24 1 (.slice (some ⟨g, 0, none⟩) n n) n xs) (hx : xs = List.replicate n (.slice none 0 0)) : CInv w wr g n 0 L X N := by
  refine ⟨hb, ?_⟩
  rcases h.2 with ⟨h2, _⟩ | ⟨g', cap, cur, h2, _, h3, _, _, h4, h5⟩
  · simp at h2
  · simp at h2
    obtain ⟨rfl, rfl⟩ := h2
    have hs : cur.size = n := by omega
    have e : cur.toList = List.replicate n (.slice none 0 0) := by rw [← hx, ← h5, List.take_of_length_le (by simp [h4])]
    refine ⟨cur, h3, hs, fun j hj => absurd hj (by omega), fun j _ hj => ?_⟩
    rw [← Array.getElem?_toList, e]
    simp [hj]

theorem CInv.skip (h : CInv w wr g n k L X N) (hk : k < n) (hN : N k = true) (hL : L k = 0) (hX : (X k).length = 0) : CInv w wr g n (k + 1) L X N := by
  obtain ⟨cur, hg, hs, h1, h2⟩ := h.row
  refine ⟨h.bel, cur, hg, hs, fun j hj => ?_, fun j hj => h2 j (by omega)⟩
  by_cases e : j = k
  · subst e
    refine ⟨none, 0, ?_, ⟨by omega, fun hp => absurd hp (by omega)⟩, by simp [hN], fun _ => hL, fun x hx => by cases hx⟩
    rw [hL]; exact h2 _ (Nat.le_refl _) hk
  · exact h1 j (by omega)

theorem Bs.other {w : World} {p : Option Addr} {n : Nat} {xs : List Int} (h : Bs w p n xs) {a : Addr} {v : Value} (hp : ∀ x, p = some x → 0 < n → x.block ≠ a.block) : Bs (w.setCell a v) p n xs :=
  ⟨h.len, fun hn => by
    obtain ⟨b, o, e, hc⟩ := h.cells hn
    exact ⟨b, o, e, fun i hi => (World.cell?_setCell_other _ _ _ _ (fun e' => hp _ e hn (by have := congrArg Addr.block e'; exact this.symm))).trans (hc i hi)⟩⟩

theorem CInv.store {w2 : World} (h : CInv w wr g n k L X N) (hw : w.heap.size ≤ g) (hk : k < n) (hb : Below wr.heap.size wr w2) {p' : Addr} {c' : Nat} (hB : Bs w2 (some p') (L k) (X k)) (hp : wr.heap.size ≤ p'.block) (hN : N k = false) :
    CInv w (w2.setCell ⟨g, k, none⟩ (.slice (some p') (L k) c')) g n (k + 1) L X N := by
  have hlt := h.lt
  obtain ⟨cur, hg, hs, h1, h2⟩ := h.row
  have hg2 : w2.heap[g]? = some (.cells cur 24 (0, 0)) := (hb.block g hlt).trans hg
  refine ⟨(h.bel.trans (hb.mono h.bel.size)).setCell (by exact hw) _, _, heap_setCell_same w2 g k cur 24 _ hg2, by simpa using hs, fun j hj => ?_, fun j hj hjn => ?_⟩
  · by_cases e : j = k
    · subst e
      refine ⟨some p', c', by simp [Array.getElem?_setIfInBounds]; omega, hB.other (fun x hx _ => ?_), by simp [hN], fun h => by simp at h, fun x hx _ => ?_⟩
      · obtain rfl := Option.some.inj hx
        simp; omega
      · obtain rfl := Option.some.inj hx
        omega
    · obtain ⟨a, c, e1, e2, e3, e4, e5⟩ := h1 j (by omega)
      refine ⟨a, c, ?_, (e2.after hb).other (fun x hx hn => e5 x hx hn), e3, e4, e5⟩
      rw [Array.getElem?_setIfInBounds, if_neg (by omega)]
      exact e1
  · rw [Array.getElem?_setIfInBounds, if_neg (by omega)]
    exact h2 j (by omega) hjn

theorem CInv.keys (h : CInv w wr g n n L X N) : KeysAt wr (some ⟨g, 0, none⟩) n L X N := by
  obtain ⟨cur, hg, hs, h1, h2⟩ := h.row
  intro hn
  refine ⟨g, 0, rfl, fun i hi => ?_⟩
  obtain ⟨a, c, e1, e2, e3, e4, _⟩ := h1 i hi
  refine ⟨a, c, ?_, e2, e3, e4⟩
  simp only [World.cell?, hg, Nat.zero_add]
  simpa using e1
end

theorem info5 : (Yba.prog.info? 5).map (fun i => (i.zero, i.size, i.bytes)) = some (some (.int .u8 0), 1, 1) := by kernel_rfl
theorem info24 : (Yba.prog.info? 24).map (fun i => (i.zero, i.size, i.bytes)) = some (some (.slice none 0 0), 1, 24) := by kernel_rfl

theorem own_of_row {w : World} {lo n : Nat} {v : Value} {xs : List Int} (h : w.ownsRow lo 5 1 v n (xs.map (Value.int .u8))) (hne : v ≠ .slice none 0 0) :
    ∃ p c, v = .slice (some p) n c ∧ Bs w (some p) n xs ∧ lo ≤ p.block := by
  have hl : xs.length = n := by simpa using h.1
  rcases h.2 with ⟨h2, _⟩ | ⟨g, cap, cur, rfl, hlo, hg, hn, hm, hs, ht⟩
  · exact absurd h2 hne
  · refine ⟨⟨g, 0, none⟩, cap, rfl, ⟨hl, fun _ => ⟨g, 0, rfl, fun i hi => ?_⟩⟩, hlo⟩
    rw [Nat.zero_add, h.cellAt i (by omega)]
    simp [List.getD, show i < xs.length by omega]

/-- What the copying function leaves. -/
def Copied (p : Option Addr) (n : Nat) (L : Nat → Nat) (X : Nat → List Int) (N : Nat → Bool) (w : World) (e : Ending) (w' : World) : Prop :=
  ∃ p', e = .returned (.slice p' n n) ∧ Below w.heap.size w w' ∧ KeysAt w' p' n L X N ∧ p'.isNone = p.isNone ∧ (∀ a, p' = some a → a = ⟨w.heap.size, 0, none⟩ ∧ w.heap.size < w'.heap.size)

set_option maxHeartbeats 1600000 in
set_option maxRecDepth 100000 in
theorem clone_any (p : Option Addr) (n c : Nat) (L : Nat → Nat) (X : Nat → List Int) (N : Nat → Bool) (w : World) (h : KeysAt w p n L X N) (h0 : p = none → n = 0) (hn : n * 24 ≤ 140737488355328) (hL : ∀ i, i < n → L i ≤ 140737488355328) :
    Calls Yba.prog 4 #[.slice p n c] w fun e w' => Copied p n L X N w e w' := by
  obtain ⟨i0, hi, hz0, hz1, hz2⟩ := info_parts info5
  obtain ⟨i1, ii, iz0, iz1, iz2⟩ := info_parts info24
  have e22 := q22
  have e24 := n24
  cases p with
  | none =>
    have hn0 := h0 rfl
    subst hn0
    go_enter Yba.func4, Yba.ntmps4
    go_wp2
    go_ret
    exact ⟨none, rfl, Below.refl _ _, fun h => absurd h (by omega), rfl, fun a ha => by cases ha⟩
  | some ad =>
    have HK : Hid (KeysAt w (some ad) n L X N) := h
    have HL : Hid (∀ i, i < n → L i ≤ 140737488355328) := hL
    clear h h0 hL
    go_enter Yba.func4, Yba.ntmps4
    go_wp2_with (at_make; refine wpList_make_full _ rfl _ _ 22 rfl w.heap.size 24 i1 (.slice none 0 0) 1 Yba.underlying22 ii iz0 iz1 _ _ _ _ n rfl rfl rfl rfl (by rw [iz2]; omega) (by unfold maxLen; omega) (Nat.le_refl _) ?_; intro w1 hown hgrow)
    have hb1 : Below w.heap.size w w1 := (Below.refl _ _).grown hgrow (Nat.le_refl _) (by simp)
    have HI : Hid (CInv w w1 w.heap.size n 0 L X N) := CInv.made hb1 hown (by rw [Nat.mul_one]; exact toList_madeCells_one _ _)
    clear hown hgrow hb1
    go_loopw [4] (fun i wr => ∃ k : Nat, k ≤ n ∧ i = .int .i64 k ∧ Hid (CInv w wr w.heap.size n k L X N)) (fun i _ => n - (intOf i).toNat)
    case atStart => exact ⟨0, Nat.zero_le _, rfl, HI⟩
    case round =>
      obtain ⟨k, hk, rfl, HC⟩ := hrel
      by_cases hlt : k < n
      · obtain ⟨b, o, e, hcs⟩ := (HK.out.after HC.out.bel) (by omega)
        obtain rfl := Option.some.inj e
        obtain ⟨a, ca, hcell, hBs, hNone, hz⟩ := hcs k hlt
        have hki : (k : Int) < (n : Int) := by omega
        have hbl : b < wr.heap.size := block_lt_of_cell hcell
        clear hcs
        cases a with
        | none =>
          have HZ : Hid (N k = true ∧ L k = 0 ∧ (X k).length = 0) := ⟨by simpa using hNone.symm, hz rfl, by have := hBs.len; have := hz rfl; omega⟩
          clear hBs hNone hz
          go_wp2
          go_roundw
          case rel => exact ⟨k + 1, by omega, by go_num, HC.out.skip hlt HZ.out.1 HZ.out.2.1 HZ.out.2.2⟩
          case measure => simp [intOf]; omega
        | some sa =>
          have HS : Hid (Bs wr (some sa) (L k) (X k) ∧ N k = false ∧ L k ≤ 140737488355328) := ⟨hBs, by simpa using hNone.symm, HL.out k hlt⟩
          have hg0 := HC.out.cell hlt
          have hf0 := HC.out.free k
          have hgl := HC.out.lt
          clear hBs hNone hz
          obtain ⟨news, hnews⟩ : ∃ news : List Value, news = (X k).map (Value.int .u8) := ⟨_, rfl⟩
          have HQ : Hid (news.length = L k * 1 ∧ (∀ (o : Obj) j u, news[j]? = some u → (wr.alloc o).cell? (sa.add j) = some u) ∧ ∀ u ∈ news, u.oneCell' = true) := by
            subst hnews
            refine ⟨by simp [HS.out.1.len], fun ob j u hj => ?_, ints_oneCell _ _⟩
            have hjn : j < L k := by have := (List.getElem?_eq_some_iff.1 hj).1; simpa [HS.out.1.len] using this
            obtain ⟨b', o', e, hc⟩ := HS.out.1.cells (by omega)
            obtain rfl := Option.some.inj e
            have hcj := hc j hjn
            rw [Addr.add_lit]
            refine (((Below.refl wr.heap.size wr).alloc (Nat.le_refl _) _).cell (by exact block_lt_of_cell hcj)).trans (hcj.trans ?_)
            rw [← hj]
            simp [List.getD, show j < (X k).length by rw [HS.out.1.len]; exact hjn]
          have HNW : Hid (news = (X k).map (Value.int .u8)) := hnews
          clear hnews
          go_wp2_with (at_builtin; refine wpList_append_own _ rfl _ _ 24 rfl wr.heap.size 5 i0 (.int .u8 0) 1 1 Yba.underlying24 hi hz0 hz1 hz2 rfl (by decide) _ _ _ rfl (World.ownsRow_made wr #[] 0 (Nat.le_refl _) (Nat.zero_le _) (by simp)) sa (L k) ca news rfl HQ.out.1 (fun j u hj => HQ.out.2.1 _ j u hj) HQ.out.2.2 (by have := HS.out.2.2; unfold maxLen; omega) (by have := HS.out.2.2; omega) (by simp) ?_)
          intro v' w2 hown hgrow hnil
          have hown' : w2.ownsRow wr.heap.size 5 1 v' (L k) ((X k).map (Value.int .u8)) := by rw [← HNW.out]; simpa using hown
          obtain ⟨p', c', rfl, hO, hpb⟩ := own_of_row hown' hnil
          have hbel : Below wr.heap.size wr w2 := ((Below.refl _ wr).alloc (Nat.le_refl _) _).grown hgrow (by simp) (by intro j hj; simp [Value.ownBlock] at hj; omega)
          have hg2 : w2.cell? ⟨w.heap.size, k, none⟩ = some (.slice none 0 0) := (hbel.cell (by exact hgl)).trans hg0
          have hf2 : w2.frozen? ⟨w.heap.size, k, none⟩ = false := (hbel.frozen (by exact hgl)).trans hf0
          have HR : Hid (CInv w (w2.setCell ⟨w.heap.size, k, none⟩ (.slice (some p') (L k) c')) w.heap.size n (k + 1) L X N) := HC.out.store (Nat.le_refl _) hlt hbel hO hpb HS.out.2.1
          clear hown hown' hgrow hnil hO hbel hg0 hf0 hcell
          go_wp2
          go_roundw
          case rel => exact ⟨k + 1, by omega, by go_num, HR⟩
          case measure => simp [intOf]; omega
      · obtain rfl : k = n := by omega
        go_wp2
        go_ret
        exact ⟨some ⟨w.heap.size, 0, none⟩, rfl, HC.out.bel, HC.out.keys, rfl, fun a ha => ⟨(Option.some.inj ha).symm, HC.out.lt⟩⟩
end Go.Proofs.Ybulkhexi.Law
