import Derived.Test.YbulkhewuFmtSmall
namespace Go.Proofs.YbulkhewuFmt.Law
open Go.RowKit Go.Extern.Stop Go.Stop Go.Extern

theorem Bs.lt {w : World} {p : Option Addr} {n : Nat} {xs : List Int} (h : Bs w p n xs) : ∀ a, p = some a → 0 < n → a.block < w.heap.size := by
  intro a ha hn
  obtain ⟨b, o, e, hc⟩ := h.cells hn
  rw [e] at ha
  obtain rfl := Option.some.inj ha
  have := block_lt_of_cell (hc 0 hn)
  exact this

theorem Bs.after {w w' : World} {p : Option Addr} {n : Nat} {xs : List Int} (h : Bs w p n xs) (hb : Below w.heap.size w w') : Bs w' p n xs := h.below hb h.lt

theorem Own.below {B lo : Nat} {w w' : World} {p : Option Addr} {n : Nat} {xs : List Int} (h : Own w lo p n xs) (hb : Below B w w') (hB : w.heap.size ≤ B) : Own w' lo p n xs :=
  ⟨h.bs.below hb (fun a ha hn => Nat.lt_of_lt_of_le (h.bs.lt a ha hn) hB), fun a ha => ⟨(h.high a ha).1, Nat.lt_of_lt_of_le (h.high a ha).2 hb.size⟩,
   fun hn => by
    obtain ⟨g, e, hf⟩ := h.free hn
    exact ⟨g, e, fun i => (hb.frozen (by exact Nat.lt_of_lt_of_le (h.high _ e).2 hB)).trans (hf i)⟩⟩

theorem Own.low {lo lo' : Nat} {w : World} {p : Option Addr} {n : Nat} {xs : List Int} (h : Own w lo p n xs) (hl : lo' ≤ lo) : Own w lo' p n xs :=
  ⟨h.bs, fun a ha => ⟨Nat.le_trans hl (h.high a ha).1, (h.high a ha).2⟩, h.free⟩

/-- What NewKEKRecipient leaves. -/
def Kek (n nk : Nat) (xs zs : List Int) (w : World) (e : Ending) (w' : World) : Prop :=
  Below w.heap.size w w' ∧
  ((okN nk = false ∧ ∃ x, e = .returned (.tuple #[.nilIface, .iface 43 x])) ∨
   (okN nk = true ∧ ∃ p1 c1 p2 c2, e = .returned (.tuple #[.iface 33 (.agg #[.slice p1 n c1, .slice p2 nk c2, .string (oidB nk)]), .nilIface]) ∧ Own w' w.heap.size p1 n xs ∧ Own w' w.heap.size p2 nk zs))

set_option maxHeartbeats 800000 in
set_option maxRecDepth 100000 in
theorem kek_any {H : Type} (F : Interp) (p q : Option Addr) (n nk c ck : Nat) (xs zs : List Int) (bm N : Nat) (w : World) (hF : F.answers w.tape) (hx : Bs w p n xs) (hz : Bs w q nk zs) (hn : n ≤ 1048576) (hk : nk ≤ 1048576)
    (hp0 : p = none → n = 0) (hq0 : q = none → nk = 0) (hg : w.cell? ⟨0, 0, none⟩ = some (.map (some bm))) (hown : w.ownsMap Ybaf.prog 9 (plainElem (H := H) Ybaf.prog 3) bm N (Tab H)) :
    Calls Ybaf.prog 5 #[.slice p n c, .slice q nk ck] w fun e w' => Kek n nk xs zs w e w' := by
  have HX : Hid (Bs w p n xs) := hx
  have HZ : Hid (Bs w q nk zs) := hz
  have HP : Hid (p = none → n = 0) := hp0
  have HQ : Hid (q = none → nk = 0) := hq0
  have HF : Hid (F.answers w.tape) := hF
  clear hx hz hp0 hq0 hF
  cases hok : okN nk with
  | false =>
    go_enter Ybaf.func5, Ybaf.ntmps5
    go_wp2_with fail
    refine (oid_any bm N nk w hown).mono ?_
    rintro e w1 ⟨rfl, hb1⟩
    rw [hok]
    have HF1 : Hid (F.answers w1.tape) := by rw [hb1.tape]; exact HF
    clear hown
    go_wp2_with fail
    refine (errorf_any F _ nk _ _ (by exact HF1.out) ?hp (by go_simp)).mono ?_
    case hp => intro w; kernel_rfl
    rintro e w2 ⟨⟨x, rfl⟩, hb2⟩
    have hb3 : Below w.heap.size w w2 := (hb1.alloc hb1.size _).trans (hb2.mono (by have := hb1.size; simp; omega))
    go_wp2
    go_ret2
    exact ⟨hb3, Or.inl ⟨hok, _, rfl⟩⟩
  | true =>
    go_enter Ybaf.func5, Ybaf.ntmps5
    go_wp2_with fail
    refine (oid_any bm N nk w hown).mono ?_
    rintro e w1 ⟨rfl, hb1⟩
    rw [hok]
    clear hown
    go_wp2_with fail
    refine (clone_any p n c xs w1 (HX.out.after hb1) hn HP.out).mono ?_
    rintro e w2 ⟨p1, c1, rfl, ho1, hb2, _⟩
    have hb12 : Below w.heap.size w w2 := hb1.trans (hb2.mono hb1.size)
    go_wp2_with fail
    refine (clone_any q nk ck zs w2 (HZ.out.after hb12) hk HQ.out).mono ?_
    rintro e w3 ⟨p2, c2, rfl, ho2, hb3, _⟩
    have HR : Hid (Below w.heap.size w w3 ∧ Own w3 w.heap.size p1 n xs ∧ Own w3 w.heap.size p2 nk zs) :=
      ⟨hb12.trans (hb3.mono hb12.size), (ho1.below hb3 (Nat.le_refl _)).low hb1.size, ho2.low hb12.size⟩
    clear ho1 ho2 hb3 hb12 hb2 hb1
    go_wp2
    go_ret2
    exact ⟨HR.out.1, Or.inr ⟨hok, p1, c1, p2, c2, rfl, HR.out.2.1, HR.out.2.2⟩⟩
end Go.Proofs.YbulkhewuFmt.Law
