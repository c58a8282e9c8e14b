import Derived.Test.YbulkhewuFmtCards
import Derived.WalkKit
import Derived.ProofKit
import Derived.WalkSpells
import Derived.Outline
import Derived.Below
import Derived.Handy
import Derived.Maps.RangeWalk
import Derived.Laws.BytesArg
import Derived.Stop.CallBack
import Derived.Stop.IfaceNil
import Derived.Stop.Texts
namespace Go.Proofs.YbulkhewuFmt.Law
open Go.RowKit Go.Extern.Stop Go.Stop Go.Extern

/-! ### Slices of bytes -/
/-- The slice (p, n) reads as the numbers xs. -/
structure Bs (w : World) (p : Option Addr) (n : Nat) (xs : List Int) : Prop where
  len : xs.length = n
  cells : 0 < n → ∃ b o, p = some ⟨b, o, none⟩ ∧ ∀ i, i < n → w.cell? ⟨b, o + i, none⟩ = some (.int .u8 (xs.getD i 0))

theorem Bs.below {B : Nat} {w w' : World} {p : Option Addr} {n : Nat} {xs : List Int} (h : Bs w p n xs) (hb : Below B w w') (hp : ∀ a, p = some a → 0 < n → a.block < B) : Bs w' p n xs :=
  ⟨h.len, fun hn => by
    obtain ⟨b, o, e, hc⟩ := h.cells hn
    exact ⟨b, o, e, fun i hi => (hb.cell (by have := hp _ e hn; exact this)).trans (hc i hi)⟩⟩

theorem Bs.heap {w : World} {p : Option Addr} {n : Nat} {xs : List Int} (h : Bs w p n xs) (w' : World) (hh : w'.heap = w.heap) : Bs w' p n xs :=
  ⟨h.len, fun hn => by
    obtain ⟨b, o, e, hc⟩ := h.cells hn
    exact ⟨b, o, e, fun i hi => (World.cell?_of_block (by rw [hh])).trans (hc i hi)⟩⟩

theorem Bs.convert {w : World} {p : Option Addr} {n : Nat} {xs : List Int} (h : Bs w p n xs) (c : Nat) : (convert 22 9 (.slice p n c)).run Ybaf.prog w = .ok (.string (strOfNums xs)) w := by
  have hl := h.len
  rcases Nat.eq_zero_or_pos n with hn | hn
  · subst hn
    obtain rfl : xs = [] := List.eq_nil_of_length_eq_zero hl
    rw [run_convert_bytes_string w 22 9 5 _ 0 c Ybaf.underlying22 Ybaf.underlying5 Ybaf.underlying9]
    cases p <;> simp [Conv.bytesToString, loadCells] <;> rfl
  · obtain ⟨b, o, rfl, hc⟩ := h.cells hn
    exact run_convert_bytes_arg w 22 5 Ybaf.underlying22 Ybaf.underlying5 b o n c xs hl hc 9 Ybaf.underlying9

theorem equal_same (p1 p2 : Option Addr) (n c1 c2 : Nat) (xs : List Int) (w : World) (h1 : Bs w p1 n xs) (h2 : Bs w p2 n xs) :
    Calls Ybaf.prog 6 #[.slice p1 n c1, .slice p2 n c2] w fun e w' => e = .returned (.bool true) ∧ w = w' := by
  have k1 := h1.convert c1
  have k2 := h2.convert c2
  clear h1 h2
  go_enter Ybaf.func6, Ybaf.ntmps6
  go_wp2
  go_ret
  exact ⟨by simp, rfl⟩

/-- The same, in memory of the call's own: from block 'lo' on, never frozen. -/
structure Own (w : World) (lo : Nat) (p : Option Addr) (n : Nat) (xs : List Int) : Prop where
  bs : Bs w p n xs
  high : ∀ a, p = some a → lo ≤ a.block ∧ a.block < w.heap.size
  free : 0 < n → ∃ g, p = some ⟨g, 0, none⟩ ∧ ∀ i, w.frozen? ⟨g, i, none⟩ = false

theorem info5 : (Ybaf.prog.info? 5).map (fun i => (i.zero, i.size, i.bytes)) = some (some (.int .u8 0), 1, 1) := by kernel_rfl

theorem own_of_row {w : World} {lo n : Nat} {v : Value} {xs : List Int} (h : w.ownsRow lo 5 1 v n (xs.map (Value.int .u8))) (hne : v ≠ .slice none 0 0) :
    ∃ p c, v = .slice (some p) n c ∧ Own w lo (some p) n xs := by
  have hl : xs.length = n := by simpa using h.1
  rcases h.2 with ⟨h2, _⟩ | ⟨g, cap, cur, rfl, hlo, hg, hn, hm, hs, ht⟩
  · exact absurd h2 hne
  · refine ⟨⟨g, 0, none⟩, cap, rfl, ⟨⟨hl, fun _ => ⟨g, 0, rfl, fun i hi => ?_⟩⟩, fun a ha => ?_, fun _ => ⟨g, rfl, fun i => h.frozenAt i⟩⟩⟩
    · rw [Nat.zero_add, h.cellAt i (by omega)]
      simp [List.getD, show i < xs.length by omega]
    · obtain rfl := Option.some.inj ha
      exact ⟨hlo, (Array.getElem?_eq_some_iff.1 hg).1⟩

/-- What slices.Clone leaves. -/
def Cloned (p : Option Addr) (n : Nat) (xs : List Int) (w : World) (e : Ending) (w' : World) : Prop :=
  ∃ p' c', e = .returned (.slice p' n c') ∧ Own w' w.heap.size p' n xs ∧ Below w.heap.size w w' ∧ p'.isNone = p.isNone

set_option maxHeartbeats 800000 in
theorem clone_any (p : Option Addr) (n c : Nat) (xs : List Int) (w : World) (h : Bs w p n xs) (hn : n ≤ 1048576) (h0 : p = none → n = 0) :
    Calls Ybaf.prog 4 #[.slice p n c] w fun e w' => Cloned p n xs w e w' := by
  obtain ⟨i0, hi, hz0, hz1, hz2⟩ := info_parts info5
  have q22 : ∀ (w : World) (a : Option Addr) (n c n' c' : Nat), (binOp .eql 22 (.slice a n c) (.slice none n' c')).run Ybaf.prog w = .ok (.bool a.isNone) w := fun w a n c n' c' => Lib.run_eql_slice_nil w _ _ a n c n' c' Ybaf.underlying22
  cases p with
  | none =>
    have hn0 := h0 rfl
    subst hn0
    go_enter Ybaf.func4, Ybaf.ntmps4
    go_wp2
    go_ret
    exact ⟨none, 0, rfl, ⟨⟨h.len, fun h => absurd h (by omega)⟩, fun a ha => (by cases ha), fun h => absurd h (by omega)⟩, Below.refl _ _, rfl⟩
  | some ad =>
    have HB : Hid (Bs w (some ad) n xs) := h
    clear h h0
    go_enter Ybaf.func4, Ybaf.ntmps4
    go_wp2_with (at_builtin; refine wpList_append_own _ rfl _ _ 22 rfl w.heap.size 5 i0 (.int .u8 0) 1 1 Ybaf.underlying22 hi hz0 hz1 hz2 rfl (by decide) _ _ _ rfl (World.ownsRow_made w #[] 0 (Nat.le_refl _) (Nat.zero_le _) (by simp)) ad n c (xs.map (Value.int .u8)) rfl ?qc1 ?qc2 ?qc3 ?qc4 ?qc5 ?qc6 ?_)
    case qc1 => simp [HB.out.len]
    case qc2 =>
      intro j u hj
      have hjn : j < n := by have := (List.getElem?_eq_some_iff.1 hj).1; simpa [HB.out.len] using this
      obtain ⟨b, o, e, hc⟩ := HB.out.cells (by omega)
      obtain rfl := Option.some.inj e
      have hcj := hc j hjn
      rw [Addr.add_lit]
      refine (((Below.refl w.heap.size w).alloc (Nat.le_refl _) _).cell (by exact block_lt_of_cell hcj)).trans (hcj.trans ?_)
      rw [← hj]
      simp [List.getD, show j < xs.length by rw [HB.out.len]; exact hjn]
    case qc3 => exact ints_oneCell _ _
    case qc4 => unfold maxLen; omega
    case qc5 => omega
    case qc6 => simp
    intro v' w1 hown hgrow hnil
    have hne : v' ≠ .slice none 0 0 := hnil
    have hown' : w1.ownsRow w.heap.size 5 1 v' n (xs.map (Value.int .u8)) := by simpa using hown
    obtain ⟨p', c', rfl, hO⟩ := own_of_row hown' hne
    have hbel : Below w.heap.size w w1 := ((Below.refl _ w).alloc (Nat.le_refl _) _).grown hgrow (by simp) (by intro k hk; simp [Value.ownBlock] at hk; omega)
    clear hown hown' hgrow hnil hne
    go_wp2
    go_ret
    exact ⟨some p', c', rfl, hO, hbel, rfl⟩

/-! ### The table of key lengths -/
def k25 : List UInt8 := [50, 46, 49, 54, 46, 56, 52, 48, 46, 49, 46, 49, 48, 49, 46, 51, 46, 52, 46, 49, 46, 50, 53]
def k45 : List UInt8 := [50, 46, 49, 54, 46, 56, 52, 48, 46, 49, 46, 49, 48, 49, 46, 51, 46, 52, 46, 49, 46, 52, 53]
def k5 : List UInt8 := [50, 46, 49, 54, 46, 56, 52, 48, 46, 49, 46, 49, 48, 49, 46, 51, 46, 52, 46, 49, 46, 53]
/-- The OID of the key wrap that takes a key of n octets; empty: none does. -/
def oidL (n : Int) : List UInt8 := if n = 16 then k5 else if n = 24 then k25 else if n = 32 then k45 else []
def oidB (n : Int) : ByteArray := ⟨(oidL n).toArray⟩
def okN (n : Int) : Bool := decide (n = 16 ∨ n = 24 ∨ n = 32)

theorem laid_eq {H : Type} : (Rows.laid_example_com_certarium_certarium_aesKeyWraps : DataW H) = .map [(.string k25, .lit (.int .i64 24)), (.string k45, .lit (.int .i64 32)), (.string k5, .lit (.int .i64 16))] := rfl

theorem at_three {H : Type} {x : List UInt8} {c : Int} (h : ∀ zd, (Rows.laid_example_com_certarium_certarium_aesKeyWraps : DataW H).atKey (.string x) zd = .lit (.int .i64 c)) :
    (x = k25 ∧ c = 24) ∨ (x = k45 ∧ c = 32) ∨ (x = k5 ∧ c = 16) := by
  have h1 := h .nil
  simp only [laid_eq, DataW.atKey, List.find?_cons, List.find?_nil, Lit.sameKey] at h1
  by_cases e1 : x = k25
  · subst e1; simp at h1; exact Or.inl ⟨rfl, h1.symm⟩
  · by_cases e2 : x = k45
    · subst e2
      rw [show (k25 == k45) = false from by decide] at h1
      simp at h1; exact Or.inr (Or.inl ⟨rfl, h1.symm⟩)
    · by_cases e3 : x = k5
      · subst e3
        rw [show (k25 == k5) = false from by decide, show (k45 == k5) = false from by decide] at h1
        simp at h1; exact Or.inr (Or.inr ⟨rfl, h1.symm⟩)
      · rw [show (k25 == x) = false from by simp; exact fun e => e1 e.symm, show (k45 == x) = false from by simp; exact fun e => e2 e.symm, show (k5 == x) = false from by simp; exact fun e => e3 e.symm] at h1
        simp at h1

/-- Whatever key length matches n is still to come. -/
def Todo (n : Int) (left : Lit → Bool) : Prop := (n = 24 → left (.string k25) = true) ∧ (n = 32 → left (.string k45) = true) ∧ (n = 16 → left (.string k5) = true)

theorem todo_step {n : Int} {left : Lit → Bool} (h : Todo n left) {x : List UInt8} {c : Int} (hx : (x = k25 ∧ c = 24) ∨ (x = k45 ∧ c = 32) ∨ (x = k5 ∧ c = 16)) (hc : c ≠ n) :
    Todo n (fun z => left z && !z.sameKey (.string x)) := by
  have n1 : (k25 == k45) = false := by decide
  have n2 : (k25 == k5) = false := by decide
  have n3 : (k45 == k5) = false := by decide
  have n4 : (k45 == k25) = false := by decide
  have n5 : (k5 == k25) = false := by decide
  have n6 : (k5 == k45) = false := by decide
  obtain ⟨h1, h2, h3⟩ := h
  rcases hx with ⟨rfl, rfl⟩ | ⟨rfl, rfl⟩ | ⟨rfl, rfl⟩
  · exact ⟨fun e => absurd e.symm hc, fun e => by simp [h2 e, Lit.sameKey, n4], fun e => by simp [h3 e, Lit.sameKey, n5]⟩
  · exact ⟨fun e => by simp [h1 e, Lit.sameKey, n1], fun e => absurd e.symm hc, fun e => by simp [h3 e, Lit.sameKey, n6]⟩
  · exact ⟨fun e => by simp [h1 e, Lit.sameKey, n2], fun e => by simp [h2 e, Lit.sameKey, n3], fun e => absurd e.symm hc⟩

theorem todo_none {n : Int} {left : Lit → Bool} (h : Todo n left) (hl : ∀ kl, left kl = false) : oidL n = [] ∧ okN n = false := by
  obtain ⟨h1, h2, h3⟩ := h
  have a1 : n ≠ 24 := fun e => by have := h1 e; rw [hl] at this; cases this
  have a2 : n ≠ 32 := fun e => by have := h2 e; rw [hl] at this; cases this
  have a3 : n ≠ 16 := fun e => by have := h3 e; rw [hl] at this; cases this
  refine ⟨by unfold oidL; rw [if_neg a3, if_neg a1, if_neg a2], by unfold okN; simp; omega⟩

theorem hit {n : Int} {x : List UInt8} {c : Int} (hx : (x = k25 ∧ c = 24) ∨ (x = k45 ∧ c = 32) ∨ (x = k5 ∧ c = 16)) (hc : c = n) : x = oidL n ∧ okN n = true := by
  subst hc
  rcases hx with ⟨rfl, rfl⟩ | ⟨rfl, rfl⟩ | ⟨rfl, rfl⟩ <;> exact ⟨by decide, by decide⟩

theorem law9 : Maps.Keyed Ybaf.prog 9 := Maps.string_keyed Ybaf.underlying9

theorem key_inv {key : Value} {kl : Lit} (h : keyOf Ybaf.prog 9 key = some kl) : ∃ s : ByteArray, key = .string s := by
  cases key <;> simp [keyOf, Ybaf.underlying9, mapKey] at h
  exact ⟨_, rfl⟩
theorem key_of {s : ByteArray} {kl : Lit} (h : keyOf Ybaf.prog 9 (.string s) = some kl) : kl = .string s.data.toList := by
  simp [keyOf, Ybaf.underlying9, mapKey] at h
  exact h.2.symm

abbrev Tab (H : Type) : DataW H := Rows.laid_example_com_certarium_certarium_aesKeyWraps

set_option maxHeartbeats 800000 in
set_option maxRecDepth 100000 in
theorem oid_any {H : Type} (b N : Nat) (n : Int) (w : World) (hown : w.ownsMap Ybaf.prog 9 (plainElem (H := H) Ybaf.prog 3) b N (Tab H)) :
    Calls Ybaf.prog 8 #[.map (some b), .int .i64 n] w fun e w' => e = .returned (.tuple #[.string (oidB n), .bool (okN n)]) ∧ Below w.heap.size w w' := by
  go_enter Ybaf.func8, Ybaf.ntmps8
  go_wp2_with (at_range; refine wpList_range_own _ rfl _ 38 rfl 9 3 law9 Ybaf.underlying38 _ b N _ rfl hown ?_; intro w0 hrg0 hg0 hs0)
  go_frame
  clear hown
  have hb0 : Below w.heap.size w w0 := (Below.refl _ _).grown hg0 (Nat.le_refl _) (by simp)
  have htd : Todo n (Maps.has (Tab H)) := ⟨fun _ => by kernel_rfl, fun _ => by kernel_rfl, fun _ => by kernel_rfl⟩
  go_loopw [6] (fun _ wr => ∃ (left : Lit → Bool) (cnt : Nat), wr.ranges Ybaf.prog 9 (plainElem (H := H) Ybaf.prog 3) b w.heap.size N (Tab H) left cnt ∧ Below w.heap.size w wr ∧ Hid (Todo n left))
    (fun _ wr => wr.rangeLeft b w.heap.size)
  case atStart => exact ⟨_, _, hrg0, hb0, htd⟩
  case round =>
    obtain ⟨left, cnt, hrg, hbw, HT⟩ := hrel
    go_wp2_with (at_next; refine wpList_next_ranges _ rfl _ rfl 9 law9 (plainElem (H := H) Ybaf.prog 3) Value.string (Value.int .i64) (fun key kl hk => key_inv hk) (fun v y hv => by obtain ⟨c, rfl, _⟩ := plainElem_int_inv Ybaf.underlying3 hv; exact ⟨c, rfl⟩) b w.heap.size N _ _ _ rfl hrg ?_ ?_)
    · intro _ hl0
      obtain ⟨e1, e2⟩ := todo_none HT.out hl0
      have HE : Hid (oidB n = ⟨#[]⟩ ∧ okN n = false) := ⟨by unfold oidB; rw [e1], e2⟩
      clear e1 e2 hrg hl0
      go_wp2
      go_ret2
      rw [HE.out.1, HE.out.2]
      exact ⟨rfl, hbw⟩
    · intro x c kl yd yp w1 cnt1 hkey hlk hv hat hrg1 hlt hg1 hs1 hen
      obtain rfl := key_of hkey
      obtain ⟨c', ec, ey, _⟩ := plainElem_int_inv Ybaf.underlying3 hv
      injection ec with _ ec
      subst ec
      have h3 := at_three (H := H) (x := x.data.toList) (c := c) (fun zd => (hat zd).trans (congrArg Prod.fst ey))
      have hb1 : Below w.heap.size w w1 := hbw.grown hg1 hbw.size (fun k hk => by cases hk; exact Nat.le_refl _)
      by_cases hc : c = n
      · obtain ⟨e1, e2⟩ := hit h3 hc
        have HE : Hid (x = oidB n ∧ okN n = true) := ⟨by unfold oidB; rw [← e1], e2⟩
        have hcb : (c == n) = true := by simp [hc]
        clear e1 e2 h3 hc hat hv hkey ey hrg hrg1 hlk hlt hg1 hs1
        go_wp2
        go_ret2
        rw [← HE.out.1, HE.out.2]
        exact ⟨rfl, hb1⟩
      · have HT1 : Hid (Todo n (fun z => left z && !z.sameKey (.string x.data.toList))) := todo_step HT.out h3 hc
        have hcb : (c == n) = false := by simp [hc]
        have HR : Hid (w1.ranges Ybaf.prog 9 (plainElem (H := H) Ybaf.prog 3) b w.heap.size N (Tab H) (fun z => left z && !z.sameKey (.string x.data.toList)) cnt1) := hrg1
        have HL : Hid (cnt1 < cnt) := hlt
        clear h3 hc hat hv hkey ey hrg1 hlk hg1 hs1 hlt
        go_wp2
        go_roundw
        case rel => exact ⟨_, _, HR.out, hb1, HT1⟩
        case measure => rw [HR.out.left_eq, hrg.left_eq]; exact HL.out

set_option maxHeartbeats 800000 in
theorem want_any (n : Int) (w : World) : Calls Ybaf.prog 7 #[.int .i64 n] w fun e w' => e = .returned (.string (oidB n)) ∧ w = w' := by
  by_cases h1 : n = 16
  · subst h1
    go_enter Ybaf.func7, Ybaf.ntmps7
    go_wp2
    go_ret
    exact ⟨by kernel_rfl, rfl⟩
  · by_cases h2 : n = 24
    · subst h2
      go_enter Ybaf.func7, Ybaf.ntmps7
      go_wp2
      go_ret
      exact ⟨by kernel_rfl, rfl⟩
    · by_cases h3 : n = 32
      · subst h3
        go_enter Ybaf.func7, Ybaf.ntmps7
        go_wp2
        go_ret
        exact ⟨by kernel_rfl, rfl⟩
      · have b1 : (n == 16) = false := by simp [h1]
        have b2 : (n == 24) = false := by simp [h2]
        have b3 : (n == 32) = false := by simp [h3]
        have HE : Hid (oidB n = ⟨#[]⟩) := by show oidB n = _; unfold oidB oidL; rw [if_neg h1, if_neg h2, if_neg h3]
        clear h1 h2 h3
        go_enter Ybaf.func7, Ybaf.ntmps7
        go_wp2
        go_ret
        rw [HE.out]
        exact ⟨rfl, rfl⟩

/-! ### The closed facts for fmt.errorf (function 10 of this dump) -/
theorem call10 (args : Array Value) (w : World) : (callFunc 10 args).run Ybaf.prog w = ((FmtStop.errorf #[9, 40] #[27] args).run Ybaf.prog w).andThen fun v w' => .ok (.value v) w' :=
  run_callFunc_extern Ybaf.func10 (by kernel_rfl) (by kernel_rfl) (by kernel_rfl) (by kernel_rfl) args w
theorem guardOk (name : String) (w : World) : (FmtStop.guard name).run Ybaf.prog w = .ok () w := by kernel_rfl
def shape3 : List UInt8 := [5, 3, 0, 0, 0, 0, 0, 0, 0, 105, 110, 116]
theorem op3 (name : String) (x : Int) (w : World) : (FmtStop.operand name true 100 false (.iface 3 (.int .i64 x))).run Ybaf.prog w = .ok (shape3, Go.Extern.Stop.digits 8 (x % 2 ^ 64).toNat) w := by kernel_rfl
theorem ptr43 (w : World) : (FmtStop.ptrTo "errors.errorString").run Ybaf.prog w = .ok 43 w := by kernel_rfl
theorem elem43 (w : World) : (elemOf 43).run Ybaf.prog w = .ok 45 w := by kernel_rfl
attribute [local go_sem] call10 guardOk op3 ptr43 elem43

set_option maxHeartbeats 800000 in
theorem errorf_any (F : Interp) (f : ByteArray) (n : Int) (g : Nat) (w : World) (hF : F.answers w.tape) (hp2 : ∀ w, (FmtDoors.printed f 1).run Ybaf.prog w = .ok [(0, 100, false)] w)
    (c0 : w.cell? ⟨g, 0, none⟩ = some (.iface 3 (.int .i64 n))) :
    Calls Ybaf.prog 9 #[.string f, .slice (some ⟨g, 0, none⟩) 1 1] w fun e w' => (∃ x, e = .returned (.iface 43 x)) ∧ Below w.heap.size w w' := by
  have hF' := answers_open hF
  go_enter Ybaf.func9, Ybaf.ntmps9
  go_wp2
  go_ret
  exact ⟨⟨_, rfl⟩, ((Below.refl _ _).alloc (Nat.le_refl _) _).drew⟩
end Go.Proofs.YbulkhewuFmt.Law
