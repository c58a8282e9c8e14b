import Derived.Test.YbulkhewuFmtKek
namespace Go.Proofs.YbulkhewuFmt.Law
open Go.RowKit Go.Extern.Stop Go.Stop Go.Extern

/-- Block g is a row of nk bytes of the call's own. -/
def Buf (w : World) (g nk : Nat) : Prop := ∃ zs : List Int, zs.length = nk ∧ w.heap[g]? = some (.cells (zs.map (Value.int .u8)).toArray 5 (0, 0))

section
variable {w w' : World} {g nk : Nat}
theorem Buf.lt (h : Buf w g nk) : g < w.heap.size := by
  obtain ⟨zs, _, hg⟩ := h
  exact (Array.getElem?_eq_some_iff.1 hg).1
theorem Buf.cell (h : Buf w g nk) {i : Nat} (hi : i < nk) : ∃ x, w.cell? ⟨g, i, none⟩ = some (.int .u8 x) := by
  obtain ⟨zs, hl, hg⟩ := h
  exact ⟨zs.getD i 0, by simp [World.cell?, hg, List.getD, show i < zs.length by omega]⟩
theorem Buf.free (h : Buf w g nk) (i : Nat) : w.frozen? ⟨g, i, none⟩ = false := by
  obtain ⟨zs, hl, hg⟩ := h
  simp [World.frozen?, hg]
theorem Buf.set (h : Buf w g nk) (i : Nat) (y : Int) : Buf (w.setCell ⟨g, i, none⟩ (.int .u8 y)) g nk := by
  obtain ⟨zs, hl, hg⟩ := h
  refine ⟨zs.set i y, by simpa using hl, ?_⟩
  rw [heap_setCell_same w g i _ 5 (.int .u8 y) hg]
  simp [List.map_set]
theorem Buf.bs (h : Buf w g nk) : ∃ zs, Bs w (some ⟨g, 0, none⟩) nk zs := by
  obtain ⟨zs, hl, hg⟩ := h
  refine ⟨zs, hl, fun _ => ⟨g, 0, rfl, fun i hi => ?_⟩⟩
  simp [World.cell?, hg, List.getD, show i < zs.length by omega]
theorem Buf.made {lo : Nat} {xs : List Value} (h : w.ownsRow lo 5 1 (.slice (some ⟨g, 0, none⟩) nk nk) nk xs) (hx : xs = List.replicate nk (.int .u8 0)) : Buf w g nk := by
  rcases h.2 with ⟨h2, _⟩ | ⟨g', cap, cur, h2, _, h3, _, _, h4, h5⟩
  · simp at h2
  · simp at h2
    obtain ⟨rfl, rfl⟩ := h2
    refine ⟨List.replicate nk 0, by simp, ?_⟩
    have e : cur.toList = xs := by rw [← h5, List.take_of_length_le (by simp [h4])]
    rw [h3, List.map_replicate, ← hx, ← e]
end

/-- A slice of the call's own that is written over. -/
def Ints (w : World) (G gk : Nat) (p : Option Addr) (n : Nat) : Prop :=
  0 < n → ∃ g, p = some ⟨g, 0, none⟩ ∧ G ≤ g ∧ g ≠ gk ∧ ∀ i, i < n → (∃ x, w.cell? ⟨g, i, none⟩ = some (.int .u8 x)) ∧ w.frozen? ⟨g, i, none⟩ = false

theorem Ints.after {w w' : World} {G : Nat} {p : Option Addr} {n : Nat} (h : Ints w G w.heap.size p n) (hb : Below w.heap.size w w') : Ints w' G w.heap.size p n := by
  intro hn
  obtain ⟨g, e, hG, hk, hc⟩ := h hn
  refine ⟨g, e, hG, hk, fun i hi => ?_⟩
  obtain ⟨⟨x, hx⟩, hf⟩ := hc i hi
  have hl : g < w.heap.size := block_lt_of_cell hx
  exact ⟨⟨x, (hb.cell (by exact hl)).trans hx⟩, (hb.frozen (by exact hl)).trans hf⟩

theorem ints_of {w : World} {G : Nat} {p : Option Addr} {n : Nat} {xs : List Int} (h : Own w G p n xs) : Ints w G w.heap.size p n := by
  intro hn
  obtain ⟨g, e, hf⟩ := h.free hn
  obtain ⟨b, o, e', hc⟩ := h.bs.cells hn
  rw [e] at e'
  cases e'
  have hh := h.high _ e
  exact ⟨g, e, hh.1, by have := hh.2; simp at this; omega, fun i hi => ⟨⟨_, by simpa using hc i hi⟩, hf i⟩⟩

theorem Ints.set {w : World} {G gk : Nat} {p : Option Addr} {n : Nat} (h : Ints w G gk p n) (a : Addr) (y : Int) : Ints (w.setCell a (.int .u8 y)) G gk p n := by
  intro hn
  obtain ⟨g, e, hG, hk, hc⟩ := h hn
  refine ⟨g, e, hG, hk, fun i hi => ?_⟩
  obtain ⟨⟨x, hx⟩, hf⟩ := hc i hi
  refine ⟨?_, by simpa using hf⟩
  by_cases ea : a = ⟨g, i, none⟩
  · subst ea; exact ⟨y, World.cell?_setCell_same _ _ _ hx⟩
  · exact ⟨x, (World.cell?_setCell_other _ _ _ _ ea).trans hx⟩

structure Lp (W wr : World) (G gk : Nat) (p1 : Option Addr) (n c1 : Nat) (p2 : Option Addr) (nk c2 : Nat) : Prop where
  bel : Below G W wr
  c0 : wr.cell? ⟨gk, 0, none⟩ = some (.slice p1 n c1)
  c1 : wr.cell? ⟨gk, 1, none⟩ = some (.slice p2 nk c2)
  o1 : Ints wr G gk p1 n
  o2 : Ints wr G gk p2 nk

theorem Lp.set {W wr : World} {G gk : Nat} {p1 : Option Addr} {n c1 : Nat} {p2 : Option Addr} {nk c2 : Nat} (h : Lp W wr G gk p1 n c1 p2 nk c2) {g : Nat} (hG : G ≤ g) (hk : g ≠ gk) (i : Nat) (y : Int) :
    Lp W (wr.setCell ⟨g, i, none⟩ (.int .u8 y)) G gk p1 n c1 p2 nk c2 :=
  ⟨h.bel.setCell (by exact hG) _, (World.cell?_setCell_other _ _ _ _ (fun e => hk (congrArg Addr.block e))).trans h.c0, (World.cell?_setCell_other _ _ _ _ (fun e => hk (congrArg Addr.block e))).trans h.c1, h.o1.set _ _, h.o2.set _ _⟩

theorem owns_below {H : Type} {w w' : World} {b N : Nat} {D : DataW H} (h : w.ownsMap Ybaf.prog 9 (plainElem (H := H) Ybaf.prog 3) b N D) (hb : Below w.heap.size w w') : w'.ownsMap Ybaf.prog 9 (plainElem (H := H) Ybaf.prog 3) b N D := by
  have hlt := h.lt
  obtain ⟨es, cl, h1, h2⟩ := h
  exact ⟨es, cl, (hb.block b hlt).trans h1, h2⟩

theorem isEmpty_eq (s : ByteArray) : s.toList.isEmpty = decide (s.size = 0) := by
  rw [← decide_eq_emptyBytes]
  by_cases h : s.size = 0
  · have : s = ByteArray.empty := by
      cases s with
      | mk d => simp [ByteArray.size] at h; subst h; rfl
    simp [this]
  · have : s ≠ ByteArray.empty := fun e => h (by rw [e]; rfl)
    simp [h, this]
theorem assert33 (x : Value) (w : World) : (Instr.typeAssert (.iface 33 x) 25 33 true).run Ybaf.prog w = .ok (.tuple #[x, .bool true]) w := by kernel_rfl
theorem oid_empty {n : Int} (h : okN n = false) : (oidB n).toList.isEmpty = true := by
  unfold okN at h
  simp at h
  rw [isEmpty_eq]
  unfold oidB oidL
  rw [if_neg (by omega), if_neg (by omega), if_neg (by omega)]
  rfl
theorem oid_full {n : Int} (h : okN n = true) : (oidB n).toList.isEmpty = false := by
  unfold okN at h
  simp at h
  rw [isEmpty_eq]
  rcases h with rfl | rfl | rfl <;> rfl

set_option maxHeartbeats 1600000 in
set_option maxRecDepth 100000 in
theorem walk {H : Type} (F : Interp) (p q : Option Addr) (n n0 c c0 : Nat) (xs zs : List Int) (mode : Int) (bm N : Nat) (w : World) (hF : F.answers w.tape) (hx : Bs w p n xs) (hz : Bs w q n0 zs) (hn : n + n0 ≤ 1048576) (hm0 : 0 ≤ mode) (hm1 : mode ≤ 255)
    (hp0 : p = none → n = 0) (hq0 : q = none → n0 = 0) (hg : w.cell? ⟨0, 0, none⟩ = some (.map (some bm))) (hown : w.ownsMap Ybaf.prog 9 (plainElem (H := H) Ybaf.prog 3) bm N (Tab H)) :
    Calls Ybaf.prog 3 #[.slice p n c, .slice q n0 c0, .int .u8 mode] w fun e w' => e = .returned (.bool true) ∧ Below w.heap.size w w' := by
  obtain ⟨i0, hi, hz0, hz1, hz2⟩ := info_parts info5
  have HX : Hid (Bs w p n xs) := hx
  have HZ : Hid (Bs w q n0 zs) := hz
  have HP : Hid (p = none → n = 0) := hp0
  have HQ : Hid (q = none → n0 = 0) := hq0
  have HF : Hid (F.answers w.tape) := hF
  have HG : Hid (w.cell? ⟨0, 0, none⟩ = some (.map (some bm))) := hg
  have HO : Hid (w.ownsMap Ybaf.prog 9 (plainElem (H := H) Ybaf.prog 3) bm N (Tab H)) := hown
  have hlt : ¬ (1048576 : Int) < (n : Int) + (n0 : Int) := by omega
  have hta := assert33
  clear hx hz hp0 hq0 hF hg hown
  by_cases hm : mode % 4 = 0
  · go_enter Ybaf.func3, Ybaf.ntmps3
    go_wp2_with fail
    have HK : Hid (Below w.heap.size w w ∧ Bs w q n0 zs ∧ (q = none → n0 = 0) ∧ n0 ≤ 1048576) := ⟨Below.refl _ _, HZ.out, HQ.out, by omega⟩
    refine (clone_any p n c xs w (HX.out.after HK.out.1) (by omega) HP.out).mono ?_
    rintro e w3 ⟨p3, c3, rfl, ho3, hb3, _⟩
    go_wp2_with fail
    refine (clone_any q n0 c0 zs w3 (HK.out.2.1.after hb3) HK.out.2.2.2 HK.out.2.2.1).mono ?_
    rintro e w4 ⟨p4, c4, rfl, ho4, hb4, _⟩
    have hbk4 : Below w.heap.size w w4 := (HK.out.1.trans (hb3.mono HK.out.1.size)).trans (hb4.mono (Nat.le_trans HK.out.1.size hb3.size))
    have HF4 : Hid (F.answers w4.tape) := by rw [hbk4.tape]; exact HF
    have HO4 : Hid (w4.ownsMap Ybaf.prog 9 (plainElem (H := H) Ybaf.prog 3) bm N (Tab H)) := owns_below HO.out hbk4
    have HG4 : Hid (w4.cell? ⟨0, 0, none⟩ = some (.map (some bm))) := (hbk4.cell (by exact block_lt_of_cell HG.out)).trans HG.out
    have HA4 : Hid (Bs w4 p n xs ∧ Bs w4 q n0 zs ∧ Bs w4 p3 n xs ∧ Bs w4 p4 n0 zs) :=
      ⟨HX.out.after hbk4, HK.out.2.1.after (hb3.trans (hb4.mono hb3.size)), ho3.bs.after hb4, ho4.bs⟩
    clear ho3 ho4 hb3 hb4
    go_wp2_with fail
    refine (kek_any F p q n n0 c c0 xs zs bm N w4 HF4.out HA4.out.1 HA4.out.2.1 (by omega) HK.out.2.2.2 HP.out HK.out.2.2.1 HG4.out HO4.out).mono ?_
    rintro e w5 hkek
    have HKk : Hid (Kek n n0 xs zs w4 e w5) := hkek
    have hb5 : Below w4.heap.size w4 w5 := hkek.1
    have HA5 : Hid (Bs w5 p n xs ∧ Bs w5 q n0 zs ∧ Bs w5 p3 n xs ∧ Bs w5 p4 n0 zs) :=
      ⟨HA4.out.1.after hb5, HA4.out.2.1.after hb5, HA4.out.2.2.1.after hb5, HA4.out.2.2.2.after hb5⟩
    clear hkek
    rcases HKk.out.2 with ⟨hok, x, rfl⟩ | ⟨hok, p1, c1, p2, c2, rfl, ho1, ho2⟩
    · have hoe : (oidB n0).toList.isEmpty = true := oid_empty hok
      go_wp2_with fail
      refine (equal_same p p3 n c c3 xs w5 HA5.out.1 HA5.out.2.2.1).mono ?_
      rintro e w6 ⟨rfl, rfl⟩
      go_wp2_with fail
      refine (equal_same q p4 n0 c0 c4 zs w5 HA5.out.2.1 HA5.out.2.2.2).mono ?_
      rintro e w6 ⟨rfl, rfl⟩
      go_wp2_with fail
      refine (want_any n0 w5).mono ?_
      rintro e w6 ⟨rfl, rfl⟩
      go_wp2
      go_ret
      exact ⟨rfl, hbk4.trans (hb5.mono hbk4.size)⟩
    · have hoe : (oidB n0).toList.isEmpty = false := oid_full hok
      have HO1 : Hid (Own w5 w4.heap.size p1 n xs ∧ Own w5 w4.heap.size p2 n0 zs) := ⟨ho1, ho2⟩
      clear ho1 ho2
      go_wp2_with fail
      refine (equal_same p p3 n c c3 xs w5 HA5.out.1 HA5.out.2.2.1).mono ?_
      rintro e w6 ⟨rfl, rfl⟩
      go_wp2_with fail
      refine (equal_same q p4 n0 c0 c4 zs w5 HA5.out.2.1 HA5.out.2.2.2).mono ?_
      rintro e w6 ⟨rfl, rfl⟩
      go_wp2_with fail
      refine (want_any n0 w5).mono ?_
      rintro e w6 ⟨rfl, rfl⟩
      go_wp2_with fail
      have hba : Below w5.heap.size w5 (w5.alloc (.cells #[.slice p1 n c1, .slice p2 n0 c2, .string (oidB n0)] 33)) := (Below.refl _ _).alloc (Nat.le_refl _) _
      refine (equal_same p1 p3 n c1 c3 xs _ (HO1.out.1.bs.after hba) (HA5.out.2.2.1.after hba)).mono ?_
      rintro e w6 ⟨rfl, rfl⟩
      go_wp2_with fail
      refine (equal_same p2 p4 n0 c2 c4 zs _ (HO1.out.2.bs.after hba) (HA5.out.2.2.2.after hba)).mono ?_
      rintro e w6 ⟨rfl, rfl⟩
      have HL : Hid (Lp w4 (w5.alloc (.cells #[.slice p1 n c1, .slice p2 n0 c2, .string (oidB n0)] 33)) w4.heap.size w5.heap.size p1 n c1 p2 n0 c2) :=
        ⟨hb5.alloc hb5.size _, by go_simp, by go_simp, (ints_of HO1.out.1).after hba, (ints_of HO1.out.2).after hba⟩
      go_wp2
      go_loopw [18] (fun i wq => ∃ j : Nat, j ≤ n ∧ i = .int .i64 j ∧ Hid (Lp w4 wq w4.heap.size w5.heap.size p1 n c1 p2 n0 c2)) (fun i _ => n - (intOf i).toNat)
      case atStart => exact ⟨0, Nat.zero_le _, rfl, HL⟩
      case round =>
        obtain ⟨j, hj, rfl, HL1⟩ := hrel
        have d0 := HL1.out.c0
        have d1 := HL1.out.c1
        by_cases hjn : j < n
        · obtain ⟨g, rfl, hgl, hgk, hgc⟩ := HL1.out.o1 (by omega)
          obtain ⟨⟨y, hy⟩, hfy⟩ := hgc j hjn
          have hji : (j : Int) < (n : Int) := by omega
          clear hgc
          go_wp2
          go_roundw
          case rel => exact ⟨j + 1, by omega, by go_num, HL1.out.set hgl hgk _ _⟩
          case measure => simp [intOf]; omega
        · go_wp2
          go_loopw [19] (fun i wq => ∃ j : Nat, j ≤ n0 ∧ i = .int .i64 j ∧ Hid (Lp w4 wq w4.heap.size w5.heap.size p1 n c1 p2 n0 c2)) (fun i _ => n0 - (intOf i).toNat)
          case atStart => exact ⟨0, Nat.zero_le _, rfl, HL1⟩
          case round =>
            obtain ⟨t, ht, rfl, HL2⟩ := hrel
            have f0 := HL2.out.c0
            have f1 := HL2.out.c1
            clear d0 d1
            by_cases htn : t < n0
            · obtain ⟨g, rfl, hgl, hgk, hgc⟩ := HL2.out.o2 (by omega)
              obtain ⟨⟨y, hy⟩, hfy⟩ := hgc t htn
              have hti : (t : Int) < (n0 : Int) := by omega
              clear hgc
              go_wp2
              go_roundw
              case rel => exact ⟨t + 1, by omega, by go_num, HL2.out.set hgl hgk _ _⟩
              case measure => simp [intOf]; omega
            · go_wp2_with fail
              refine (equal_same p p3 n c c3 xs _ (HA4.out.1.after HL2.out.bel) (HA4.out.2.2.1.after HL2.out.bel)).mono ?_
              rintro e w6 ⟨rfl, rfl⟩
              go_wp2_with fail
              refine (equal_same q p4 n0 c0 c4 zs _ (HA4.out.2.1.after HL2.out.bel) (HA4.out.2.2.2.after HL2.out.bel)).mono ?_
              rintro e w6 ⟨rfl, rfl⟩
              go_wp2
              go_ret
              exact ⟨rfl, hbk4.trans (HL2.out.bel.mono hbk4.size)⟩
  · obtain ⟨m, hmm, hmr⟩ : ∃ m : Nat, mode % 4 = m ∧ 1 ≤ m ∧ m ≤ 3 := ⟨(mode % 4).toNat, by omega, by omega, by omega⟩
    obtain ⟨nk, hnk⟩ : ∃ nk : Nat, nk = 8 + 8 * m := ⟨_, rfl⟩
    have hne : ((m : Int) != 0) = true := by simp; omega
    have HNK : Hid (nk = 8 + 8 * m) := hnk
    have hnk1 : nk ≤ 32 := by omega
    have h8a : (8 : Int) + 8 * (m : Int) ≤ (nk : Int) := by omega
    have h8b : (nk : Int) ≤ (8 : Int) + 8 * (m : Int) := by omega
    clear hnk
    go_enter Ybaf.func3, Ybaf.ntmps3
    go_wp2_with (at_make; refine wpList_make_full _ rfl _ _ 22 rfl w.heap.size 5 i0 (.int .u8 0) 1 Ybaf.underlying22 hi hz0 hz1 _ _ _ _ nk rfl rfl (by have := HNK.out; omega) (by have := HNK.out; omega) (by rw [hz2]; omega) (by unfold maxLen; omega) (Nat.le_refl _) ?_; intro w1 hown hgrow)
    have HB0 : Hid (Buf w1 w.heap.size nk) := Buf.made hown (by rw [Nat.mul_one]; exact toList_madeCells_one _ _)
    have hb1 : Below w.heap.size w w1 := (Below.refl _ _).grown hgrow (Nat.le_refl _) (by simp)
    clear hown hgrow
    go_loopw [10] (fun i wr => ∃ j : Nat, j ≤ nk ∧ i = .int .i64 j ∧ Below w.heap.size w wr ∧ Hid (Buf wr w.heap.size nk)) (fun i _ => nk - (intOf i).toNat)
    case atStart => exact ⟨0, Nat.zero_le _, rfl, hb1, HB0⟩
    case round =>
      obtain ⟨j, hj, rfl, hbr, HB⟩ := hrel
      by_cases hjn : j < nk
      · obtain ⟨y, hy⟩ := HB.out.cell hjn
        have hfy := HB.out.free j
        have hji : (j : Int) < (nk : Int) := by omega
        by_cases h0 : n0 = 0
        · subst h0
          go_wp2
          go_roundw
          case rel => exact ⟨j + 1, by omega, by go_num, hbr.setCell (by exact Nat.le_refl _) _, HB.out.set _ _⟩
          case measure => simp [intOf]; omega
        · obtain ⟨b, o, rfl, hc⟩ := HZ.out.cells (by omega)
          have hjm : j % n0 < n0 := Nat.mod_lt _ (by omega)
          have hcj : wr.cell? ⟨b, o + j % n0, none⟩ = some (.int .u8 (zs.getD (j % n0) 0)) := (hbr.cell (by exact block_lt_of_cell (hc _ hjm))).trans (hc _ hjm)
          have hpos : (0 : Int) < (n0 : Int) := by omega
          clear hc
          go_wp2
          go_roundw
          case rel => exact ⟨j + 1, by omega, by go_num, hbr.setCell (by exact Nat.le_refl _) _, HB.out.set _ _⟩
          case measure => simp [intOf]; omega
      · go_wp2_with fail
        obtain ⟨zk, hzk⟩ := HB.out.bs
        have HK : Hid (Below w.heap.size w wr ∧ Bs wr (some ⟨w.heap.size, 0, none⟩) nk zk ∧ ((some ⟨w.heap.size, 0, none⟩ : Option Addr) = none → nk = 0) ∧ nk ≤ 1048576) := ⟨hbr, hzk, fun h => by simp at h, by omega⟩
        refine (clone_any p n c xs wr (HX.out.after HK.out.1) (by omega) HP.out).mono ?_
        rintro e w3 ⟨p3, c3, rfl, ho3, hb3, _⟩
        go_wp2_with fail
        refine (clone_any (some ⟨w.heap.size, 0, none⟩) nk nk zk w3 (HK.out.2.1.after hb3) HK.out.2.2.2 HK.out.2.2.1).mono ?_
        rintro e w4 ⟨p4, c4, rfl, ho4, hb4, _⟩
        have hbk4 : Below w.heap.size w w4 := (HK.out.1.trans (hb3.mono HK.out.1.size)).trans (hb4.mono (Nat.le_trans HK.out.1.size hb3.size))
        have HF4 : Hid (F.answers w4.tape) := by rw [hbk4.tape]; exact HF
        have HO4 : Hid (w4.ownsMap Ybaf.prog 9 (plainElem (H := H) Ybaf.prog 3) bm N (Tab H)) := owns_below HO.out hbk4
        have HG4 : Hid (w4.cell? ⟨0, 0, none⟩ = some (.map (some bm))) := (hbk4.cell (by exact block_lt_of_cell HG.out)).trans HG.out
        have HA4 : Hid (Bs w4 p n xs ∧ Bs w4 (some ⟨w.heap.size, 0, none⟩) nk zk ∧ Bs w4 p3 n xs ∧ Bs w4 p4 nk zk) :=
          ⟨HX.out.after hbk4, HK.out.2.1.after (hb3.trans (hb4.mono hb3.size)), ho3.bs.after hb4, ho4.bs⟩
        clear ho3 ho4 hb3 hb4
        go_wp2_with fail
        refine (kek_any F p (some ⟨w.heap.size, 0, none⟩) n nk c nk xs zk bm N w4 HF4.out HA4.out.1 HA4.out.2.1 (by omega) HK.out.2.2.2 HP.out HK.out.2.2.1 HG4.out HO4.out).mono ?_
        rintro e w5 hkek
        have HKk : Hid (Kek n nk xs zk w4 e w5) := hkek
        have hb5 : Below w4.heap.size w4 w5 := hkek.1
        have HA5 : Hid (Bs w5 p n xs ∧ Bs w5 (some ⟨w.heap.size, 0, none⟩) nk zk ∧ Bs w5 p3 n xs ∧ Bs w5 p4 nk zk) :=
          ⟨HA4.out.1.after hb5, HA4.out.2.1.after hb5, HA4.out.2.2.1.after hb5, HA4.out.2.2.2.after hb5⟩
        clear hkek
        rcases HKk.out.2 with ⟨hok, x, rfl⟩ | ⟨hok, p1, c1, p2, c2, rfl, ho1, ho2⟩
        · have hoe : (oidB nk).toList.isEmpty = true := oid_empty hok
          go_wp2_with fail
          refine (equal_same p p3 n c c3 xs w5 HA5.out.1 HA5.out.2.2.1).mono ?_
          rintro e w6 ⟨rfl, rfl⟩
          go_wp2_with fail
          refine (equal_same (some ⟨w.heap.size, 0, none⟩) p4 nk nk c4 zk w5 HA5.out.2.1 HA5.out.2.2.2).mono ?_
          rintro e w6 ⟨rfl, rfl⟩
          go_wp2_with fail
          refine (want_any nk w5).mono ?_
          rintro e w6 ⟨rfl, rfl⟩
          go_wp2
          go_ret
          exact ⟨rfl, hbk4.trans (hb5.mono hbk4.size)⟩
        · have hoe : (oidB nk).toList.isEmpty = false := oid_full hok
          have HO1 : Hid (Own w5 w4.heap.size p1 n xs ∧ Own w5 w4.heap.size p2 nk zk) := ⟨ho1, ho2⟩
          clear ho1 ho2
          go_wp2_with fail
          refine (equal_same p p3 n c c3 xs w5 HA5.out.1 HA5.out.2.2.1).mono ?_
          rintro e w6 ⟨rfl, rfl⟩
          go_wp2_with fail
          refine (equal_same (some ⟨w.heap.size, 0, none⟩) p4 nk nk c4 zk w5 HA5.out.2.1 HA5.out.2.2.2).mono ?_
          rintro e w6 ⟨rfl, rfl⟩
          go_wp2_with fail
          refine (want_any nk w5).mono ?_
          rintro e w6 ⟨rfl, rfl⟩
          go_wp2_with fail
          have hba : Below w5.heap.size w5 (w5.alloc (.cells #[.slice p1 n c1, .slice p2 nk c2, .string (oidB nk)] 33)) := (Below.refl _ _).alloc (Nat.le_refl _) _
          refine (equal_same p1 p3 n c1 c3 xs _ (HO1.out.1.bs.after hba) (HA5.out.2.2.1.after hba)).mono ?_
          rintro e w6 ⟨rfl, rfl⟩
          go_wp2_with fail
          refine (equal_same p2 p4 nk c2 c4 zk _ (HO1.out.2.bs.after hba) (HA5.out.2.2.2.after hba)).mono ?_
          rintro e w6 ⟨rfl, rfl⟩
          have HL : Hid (Lp w4 (w5.alloc (.cells #[.slice p1 n c1, .slice p2 nk c2, .string (oidB nk)] 33)) w4.heap.size w5.heap.size p1 n c1 p2 nk c2) :=
            ⟨hb5.alloc hb5.size _, by go_simp, by go_simp, (ints_of HO1.out.1).after hba, (ints_of HO1.out.2).after hba⟩
          go_wp2
          go_loopw [18] (fun i wq => ∃ j : Nat, j ≤ n ∧ i = .int .i64 j ∧ Hid (Lp w4 wq w4.heap.size w5.heap.size p1 n c1 p2 nk c2)) (fun i _ => n - (intOf i).toNat)
          case atStart => exact ⟨0, Nat.zero_le _, rfl, HL⟩
          case round =>
            obtain ⟨j, hj, rfl, HL1⟩ := hrel
            have d0 := HL1.out.c0
            have d1 := HL1.out.c1
            by_cases hjn : j < n
            · obtain ⟨g, rfl, hgl, hgk, hgc⟩ := HL1.out.o1 (by omega)
              obtain ⟨⟨y, hy⟩, hfy⟩ := hgc j hjn
              have hji : (j : Int) < (n : Int) := by omega
              clear hgc
              go_wp2
              go_roundw
              case rel => exact ⟨j + 1, by omega, by go_num, HL1.out.set hgl hgk _ _⟩
              case measure => simp [intOf]; omega
            · go_wp2
              go_loopw [19] (fun i wq => ∃ j : Nat, j ≤ nk ∧ i = .int .i64 j ∧ Hid (Lp w4 wq w4.heap.size w5.heap.size p1 n c1 p2 nk c2)) (fun i _ => nk - (intOf i).toNat)
              case atStart => exact ⟨0, Nat.zero_le _, rfl, HL1⟩
              case round =>
                obtain ⟨t, ht, rfl, HL2⟩ := hrel
                have f0 := HL2.out.c0
                have f1 := HL2.out.c1
                clear d0 d1
                by_cases htn : t < nk
                · obtain ⟨g, rfl, hgl, hgk, hgc⟩ := HL2.out.o2 (by omega)
                  obtain ⟨⟨y, hy⟩, hfy⟩ := hgc t htn
                  have hti : (t : Int) < (nk : Int) := by omega
                  clear hgc
                  go_wp2
                  go_roundw
                  case rel => exact ⟨t + 1, by omega, by go_num, HL2.out.set hgl hgk _ _⟩
                  case measure => simp [intOf]; omega
                · go_wp2_with fail
                  refine (equal_same p p3 n c c3 xs _ (HA4.out.1.after HL2.out.bel) (HA4.out.2.2.1.after HL2.out.bel)).mono ?_
                  rintro e w6 ⟨rfl, rfl⟩
                  go_wp2_with fail
                  refine (equal_same (some ⟨w.heap.size, 0, none⟩) p4 nk nk c4 zk _ (HA4.out.2.1.after HL2.out.bel) (HA4.out.2.2.2.after HL2.out.bel)).mono ?_
                  rintro e w6 ⟨rfl, rfl⟩
                  go_wp2
                  go_ret
                  exact ⟨rfl, hbk4.trans (HL2.out.bel.mono hbk4.size)⟩
end Go.Proofs.YbulkhewuFmt.Law
