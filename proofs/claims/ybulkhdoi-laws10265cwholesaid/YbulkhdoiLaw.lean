import Derived.Test.YbulkhdoiRows
import Derived.WalkKit
import Derived.ProofKit
import Derived.OpenShut
import Derived.ShutString
import Derived.ChangeOld
import Derived.Below
import Derived.Handy
import Derived.Outline
import Derived.WalkSpells
import Derived.SliceStrings
import Derived.Deep.QuietTactic
import Derived.BigQuiet
import Derived.Laws.CopyOwn
namespace Go.Proofs.Ybulkhdoi.Law
open Go.ChangeShapes Go.WideShapes Go.ChangeAt Go.RowKit
open Go.ChangeMaps (open_string shut_string)

theorem info9 : (Yba.prog.info? 9).map (fun i => (i.zero, i.size, i.bytes)) = some (some (.string ⟨#[]⟩), 1, 16) := by kernel_rfl
theorem size9 : (Yba.prog.info? 9).map (·.size) = some 1 := by kernel_rfl

theorem owns_full {w : World} {base g n : Nat} {e : TypeId} {xs : List Value} (h : w.ownsRow base e 1 (.slice (some ⟨g, 0, none⟩) n n) n xs) :
    w.heap[g]? = some (.cells xs.toArray e (0, 0)) ∧ xs.length = n := by
  obtain ⟨h1, h2⟩ := h
  rcases h2 with ⟨h2, _⟩ | ⟨g', cap, cur, h2, _, h3, _, _, h4, h5⟩
  · simp at h2
  · simp at h2
    obtain ⟨rfl, rfl⟩ := h2
    refine ⟨?_, by simpa using h1⟩
    rw [h3]
    have : cur.toList = xs := by
      rw [← h5]; rw [List.take_of_length_le (by simp [h4])]
    rw [← this]

theorem splice_full {α : Type} (L cs : List α) (h : L.length = cs.length) : splice L 0 cs = cs := by
  simp [splice, ← h]

theorem after {a0 : Option Addr} {len : Nat} {ss : List ByteArray} {cs : List Value} {w w2 : World} (hcs : cs = ss.map Value.string) (hss : ss.length = len)
    (hc : ∀ ad, a0 = some ad → ∀ i, i < len → w.cell? (ad.add i) = some (.string (ss.getD i ByteArray.empty)))
    (hb : Below w.heap.size w w2) (hG : w2.heap[w.heap.size]? = some (.cells cs.toArray 9 (0, 0))) :
    w.heap.size < w2.heap.size ∧ (∀ j, j < len → w2.cell? ⟨w.heap.size, j, none⟩ = some (.string (ss.getD j ByteArray.empty))) ∧
    (∀ ad, a0 = some ad → ∀ i, i < len → w2.cell? (ad.add i) = some (.string (ss.getD i ByteArray.empty)) ∧ ad.block < w.heap.size ∧ (i = 0 → ad.spot = none)) := by
  refine ⟨?_, ?_, ?_⟩
  · exact (Array.getElem?_eq_some_iff.1 hG).1
  · intro j hj
    subst hcs
    simp [World.cell?, hG, List.getD, show j < ss.length by omega]
  · intro ad had i hi
    have h := hc ad had i hi
    have hbk : (ad.add i).block < w.heap.size := block_lt_of_cell h
    have hs := World.cell?_spot h
    have e1 : (ad.add i).block = ad.block := by simp only [Addr.add]; split <;> rfl
    refine ⟨(hb.cell hbk).trans h, by omega, ?_⟩
    intro e0
    subst e0
    simpa [Addr.add] using hs

theorem cell_alloc_old {w : World} {o : Obj} {p : Addr} (h : p.block < w.heap.size) : (w.alloc o).cell? p = w.cell? p :=
  ((Below.refl w.heap.size w).alloc (Nat.le_refl _) o).cell h

structure Inv (w wr : World) (g b off len cap : Nat) (ss : List ByteArray) : Prop where
  bel : Below w.heap.size w wr
  svc : wr.cell? ⟨g, 19, none⟩ = some (.slice (some ⟨b, off, none⟩) len cap)
  own : ∀ k, k < len → wr.cell? ⟨w.heap.size, k, none⟩ = some (.string (ss.getD k ByteArray.empty))
  arg : ∀ k, k < len → wr.cell? ⟨b, off + k, none⟩ = some (.string (ss.getD k ByteArray.empty))

theorem Inv.drew {w wr : World} {g b off len cap : Nat} {ss : List ByteArray} (h : Inv w wr g b off len cap ss) (n : Nat) : Inv w (wr.drewN n) g b off len cap ss :=
  ⟨⟨h.bel.os, h.bel.tape, h.bel.output, h.bel.size, h.bel.block⟩, h.svc, h.own, h.arg⟩

theorem svc_none (g : Nat) (a : Option Addr) (cap : Nat) (w : World) (h : w.cell? ⟨g, 19, none⟩ = some (.slice a 0 cap)) :
    Calls Yba.prog 4 #[.pointer (some ⟨g, 0, none⟩)] w fun e w' => e = .returned (.string ⟨#[60, 110, 111, 110, 101, 62]⟩) ∧ w = w' := by
  go_enter Yba.func4, Yba.ntmps4
  go_wp2
  go_ret
  exact ⟨rfl, rfl⟩

theorem svc_some (g b off : Nat) (len cap : Nat) (s : ByteArray) (w : World) (h : w.cell? ⟨g, 19, none⟩ = some (.slice (some ⟨b, off, none⟩) len cap)) (hl : 0 < len)
    (hc : w.cell? ⟨b, off, none⟩ = some (.string s)) :
    Calls Yba.prog 4 #[.pointer (some ⟨g, 0, none⟩)] w fun e w' => e = .returned (.string s) ∧ w = w' := by
  have hp : (0 : Int) < (len : Int) := by omega
  have hne : ((len : Int) == 0) = false := by simp; omega
  go_enter Yba.func4, Yba.ntmps4
  go_wp2
  go_ret
  exact ⟨rfl, rfl⟩

set_option maxHeartbeats 1000000 in
set_option maxRecDepth 100000 in
theorem walk (a0 : Option Addr) (len cap : Nat) (ss : List ByteArray) (s1 s2 : ByteArray) (w : World)
    (hl : len ≤ 1048576) (hss : ss.length = len) (hlc : len ≤ cap)
    (hc : ∀ ad, a0 = some ad → ∀ i, i < len → w.cell? (ad.add i) = some (.string (ss.getD i ByteArray.empty)))
    (hn : a0 = none → len = 0) :
    Calls Yba.prog 3 #[.slice a0 len cap, .string s1, .string s2] w fun e w' => e = .returned (.bool true) ∧ Below w.heap.size w w' := by
  obtain ⟨i0, hi, hz0, hz1, hz2⟩ := info_parts info9
  have hlt : ¬ (1048576 : Int) < (len : Int) := by omega
  have q22 : ∀ (w : World) (a : Option Addr) (n c n' c' : Nat), (binOp .eql 22 (.slice a n c) (.slice none n' c')).run Yba.prog w = .ok (.bool a.isNone) w := fun w a n c n' c' => Lib.run_eql_slice_nil w _ _ a n c n' c' Yba.underlying22
  obtain ⟨cs, hcs⟩ : ∃ cs : List Value, cs = ss.map Value.string := ⟨_, rfl⟩
  have hcl : cs.length = len := by simp [hcs, hss]
  have hcs1 : ∀ v ∈ cs, v.oneCell' = true := by
    intro v hv; rw [hcs] at hv; obtain ⟨x, _, rfl⟩ := List.mem_map.1 hv; rfl
  have hsrc : ∀ ad, a0 = some ad → ∀ j v, cs[j]? = some v → w.cell? (ad.add j) = some v := by
    intro ad had j v hv
    have hj : j < len := by rw [← hcl]; exact (List.getElem?_eq_some_iff.1 hv).1
    rw [hc ad had j hj, ← hv, hcs]
    simp [List.getD, show j < ss.length by omega]
  have HC : Hid (cs = ss.map Value.string) := hcs
  have HS : Hid (∀ ad, a0 = some ad → ∀ j v, cs[j]? = some v → w.cell? (ad.add j) = some v) := hsrc
  have HL : Hid (cs.length = len) := hcl
  have H1 : Hid (∀ v ∈ cs, v.oneCell' = true) := hcs1
  have HN : Hid (a0 = none → len = 0) := hn
  have HA : Hid (∀ ad, a0 = some ad → ∀ i, i < len → w.cell? (ad.add i) = some (.string (ss.getD i ByteArray.empty))) := hc
  clear hcs hsrc hcl hcs1 hn hc
  go_enter Yba.func3, Yba.ntmps3
  go_wp2_with (first
    | (at_make; refine wpList_make_full _ rfl _ _ 22 rfl w.heap.size 9 i0 (.string ⟨#[]⟩) 1 Yba.underlying22 hi hz0 hz1 _ _ _ _ len rfl rfl rfl rfl (by rw [hz2]; omega) (by unfold maxLen; omega) (Nat.le_refl _) ?_; intro w1 hown hgrow)
    | (refine wpList_copy_splice rfl (.tmp 20) (.tmp 21) 22 22 rfl 9 Yba.underlying22 size9 _ _ _ _ _ _ rfl rfl w.heap.size 0 _ 9 (owns_full hown).1 cs ?_ ?_ ?_ H1.out w.heap.size w ?_ (Nat.le_refl _) ?_))
  case refine_1 => exact HL.out
  case refine_2 =>
    intro h0
    have hl0 := HL.out
    cases ha : a0 with
    | none => have := HN.out ha; omega
    | some ad =>
      refine ⟨ad, rfl, fun j v hv => ?_⟩
      have := HS.out ad ha j v hv
      exact (hgrow.cell this (by simp))
  case refine_3 => have hl0 := HL.out; simp [madeCells, hl0]
  case refine_4 => exact (Below.refl _ _).grown hgrow (Nat.le_refl _) (by simp)
  intro w2 HG hb2
  have hl0 := HL.out
  have hG2 : w2.heap[w.heap.size]? = some (.cells cs.toArray 9 (0, 0)) := by
    have := HG.out
    rw [splice_full _ cs (by simp [madeCells, hl0])] at this
    exact this
  obtain ⟨hB2, hown2, harg2⟩ := after HC.out hss HA.out hb2 hG2
  have HO : Hid (∀ j, j < len → w2.cell? ⟨w.heap.size, j, none⟩ = some (.string (ss.getD j ByteArray.empty))) := hown2
  have HR : Hid (∀ ad, a0 = some ad → ∀ i, i < len → w2.cell? (ad.add i) = some (.string (ss.getD i ByteArray.empty)) ∧ ad.block < w.heap.size ∧ (i = 0 → ad.spot = none)) := harg2
  clear hown2 harg2 hG2 hl0 HG hown hgrow HA HS H1
  by_cases h0 : len = 0
  · subst h0
    clear HO HR HN HC HL
    go_wp2_with (go_at_call 4; refine (svc_none _ a0 cap _ (by go_simp)).mono ?_; rintro e w' ⟨rfl, rfl⟩)
    go_rounds 1
    go_rounds 1
    go_ret
    exact ⟨rfl, by go_grown⟩
  · obtain ⟨ad, rfl⟩ : ∃ ad, a0 = some ad := by
      cases ha : a0 with
      | none => exact absurd (HN.out ha) h0
      | some ad => exact ⟨ad, rfl⟩
    have h2 := HR.out ad rfl 0 (by omega)
    obtain ⟨b, off, sp⟩ := ad
    obtain ⟨hr0, hbb, hsp⟩ := h2
    have hsp := hsp rfl
    simp only at hbb hsp
    subst hsp
    have hr0' : w2.cell? ⟨b, off, none⟩ = some (.string (ss.getD 0 ByteArray.empty)) := by simpa [Addr.add] using hr0
    have hb2lt : b < w2.heap.size := by omega
    have hp : (0 : Int) < (len : Int) := by omega
    have hne : ((len : Int) == 0) = false := by simp; omega
    clear hr0
    go_wp2_with (go_at_call 4; refine (svc_some _ b off len cap _ _ (by go_simp) (by omega) (by go_simp; rfl)).mono ?_; rintro e w' ⟨rfl, rfl⟩)
    go_loop [11, 12] (fun t i => ∃ k : Nat, k ≤ len ∧ i = .int .i64 ((k : Int) - 1) ∧ t = .string (if k = len then ⟨#[60, 110, 111, 110, 101, 62]⟩ else ss.getD k ByteArray.empty)) (fun _ i => (intOf i + 1).toNat)
    case atStart => exact ⟨len, Nat.le_refl _, rfl, by simp⟩
    case round =>
      obtain ⟨k, hk, rfl, rfl⟩ := hrel
      cases k with
      | zero =>
        have hp0 : (0 == len) = false := by simp; omega
        go_wp2
        go_loopw [13] (fun i wr => ∃ k : Nat, k ≤ len ∧ i = .int .i64 k ∧ Inv w wr w2.heap.size b off len cap ss) (fun i _ => len - (intOf i).toNat)
        case atStart =>
          refine ⟨0, Nat.zero_le _, rfl, ⟨by go_grown, by go_simp, ?_, ?_⟩⟩
          · intro k hkl
            exact (cell_alloc_old (by exact hB2)).trans (HO.out k hkl)
          · intro k hkl
            have := (HR.out _ rfl k hkl).1
            rw [Addr.add_lit] at this
            exact (cell_alloc_old (by exact hb2lt)).trans this
        case round =>
          obtain ⟨k, hk, rfl, hI⟩ := hrel
          have HI : Hid (Inv w wr w2.heap.size b off len cap ss) := hI
          by_cases hkl : k < len
          · have c1 := hI.svc
            have c2 := hI.own k hkl
            have c3 := hI.arg k hkl
            clear hI
            have hki : (k : Int) < (len : Int) := by omega
            go_wp2
            go_quiet (fail)
            go_wp2
            go_roundw
            case rel => exact ⟨k + 1, by omega, by go_num, HI.out.drew _⟩
            case measure => simp [intOf]; omega
          · clear hI
            go_wp2
            go_ret
            exact ⟨rfl, HI.out.bel⟩
      | succ k =>
        have hc1 := HO.out k (by omega)
        go_wp2
        go_round
        case rel => exact ⟨k, by omega, by go_num, by rw [if_neg (by omega)]; simp⟩
        case measure => simp [intOf]

set_option maxRecDepth 100000 in
theorem walk_big (a0 : Option Addr) (len cap : Nat) (s1 s2 : ByteArray) (w : World) (hl : 1048576 < len) :
    Calls Yba.prog 3 #[.slice a0 len cap, .string s1, .string s2] w fun e w' => e = .returned (.bool true) ∧ Below w.heap.size w w' := by
  have hlt : (1048576 : Int) < (len : Int) := by omega
  go_enter Yba.func3, Yba.ntmps3
  go_wp2
  go_ret
  exact ⟨rfl, Below.refl _ _⟩

theorem own : ownKnob Yba.prog.godebug = none := by kernel_rfl
theorem laidOut : laidOutB Yba.prog = true := by kernel_rfl

set_option maxRecDepth 100000 in
theorem lifted (os : Os) (started : os.Started) (H : Type) (enc : TypeId × Value → H) :
    ReturnsInHanded {} Yba.checked os 3 .any (Rows.lawS10265CWholeSpec.pre6 enc Yba.prog Yba.f3 Rows.lawS10265CWholeRow.domain false) (Rows.lawS10265CWholeSpec.post enc Yba.prog Yba.f3 false true false false) := by
  refine returnsInHanded_of_change (C := Yba.checked) own started (by kernel_rfl) Yba.func3
    (ChangeSpec.witness6 (enc := enc) (C := Yba.checked) false ⟨#[], #[.slice none 0 0, .string ByteArray.empty, .string ByteArray.empty], []⟩ 8 (by kernel_rfl) (by kernel_rfl) (by kernel_rfl) (by kernel_rfl)) ?_
  intro W base args ds gs before hval0 hW hcnd _
  have hval : ∀ (j : Nat) t v, Yba.f3.params[j]? = some t → args[j]? = some v → Value.okWide Yba.prog W .any base t v := hval0
  have hW' := hW
  obtain ⟨p, q, hA0, hV, rfl, hfz, hnd⟩ := hW
  have hA : DataW.TrodAll enc Yba.prog W 0 (fun _ => true) true Yba.f3.params.toList args.toList ds p := hA0
  rw [Yba.params3] at hA hval
  obtain ⟨v0, vs0, d0, ds0, p0, q0, hargs, rfl, rfl, h0, r0⟩ := trodAll_cons hA
  obtain ⟨v1, vs1, d1, ds1, p1, q1, rfl, rfl, rfl, h1, r1⟩ := trodAll_cons r0
  obtain ⟨v2, vs2, d2, ds2, p2, q2, rfl, rfl, rfl, h2, r2⟩ := trodAll_cons r1
  obtain ⟨rfl, rfl, rfl⟩ := trodAll_nil r2
  obtain rfl : args = #[v0, v1, v2] := by cases args; simp_all
  obtain ⟨rfl, rfl⟩ := trodVars_none hV
  obtain ⟨a0, len0, cap0, rfl⟩ := okWide_slice Yba.underlying22 (hval 0 22 v0 rfl rfl)
  have k0 := h0
  have lt0 : ∀ x ∈ p0, x.block < W.heap.size := by obtain ⟨m, hm⟩ := k0; exact DataW.trod_lt m _ _ _ hm
  obtain ⟨ss, hss, hlc, hc, hn⟩ : ∃ ss : List ByteArray, ss.length = len0 ∧ len0 ≤ cap0 ∧ (∀ ad, a0 = some ad → ∀ i, i < len0 → W.cell? (ad.add i) = some (.string (ss.getD i ByteArray.empty))) ∧ (a0 = none → len0 = 0) := by
    obtain ⟨fuel, hf⟩ := h0
    rcases open_strings Yba.underlying22 Yba.underlying9 (by kernel_rfl) hf with ⟨hcs, _⟩ | ⟨x, l, c, zs, hcs, _, hl, hm, hz, _, hcell, hwz⟩
    · simp [Value.cells] at hcs
      obtain ⟨rfl, rfl, rfl⟩ := hcs
      exact ⟨[], rfl, Nat.le_refl _, fun ad h => by simp at h, fun _ => rfl⟩
    · simp [Value.cells] at hcs
      obtain ⟨rfl, rfl, rfl⟩ := hcs
      have hz' : zs.length = cap0 := by simpa using hz
      refine ⟨zs.take len0, by simp; omega, hl, fun ad h i hi => ?_, fun h => by simp at h⟩
      obtain rfl := Option.some.inj h
      rw [hcell i (by omega)]
      simp [List.getD, hi]
  obtain ⟨s1, rfl, rfl, rfl, w1⟩ := open_string Yba.underlying9 (hval 1 9 v1 rfl rfl) h1
  obtain ⟨s2, rfl, rfl, rfl, w2⟩ := open_string Yba.underlying9 (hval 2 9 v2 rfl rfl) h2
  clear hA0 hval0
  have main : Calls Yba.prog 3 #[.slice a0 len0 cap0, .string s1, .string s2] W fun e w' => e = .returned (.bool true) ∧ Below W.heap.size W w' := by
    by_cases hbig : 1048576 < len0
    · exact walk_big a0 len0 cap0 s1 s2 W hbig
    · exact walk a0 len0 cap0 ss s1 s2 W (by omega) hss hlc hc hn
  refine main.mono fun e W' ⟨he, bel⟩ => ?_
  subst he
  exact ⟨_, rfl, _, _, _, [], _, [], hW', trodAll_mk1 (shut_bool Yba.underlying4 _), (trodAll_cons_mk (Below.trod laidOut (by kernel_rfl) (of_decide_eq_true (by kernel_rfl)) k0 bel lt0) (trodAll_cons_mk (shut_string Yba.underlying9 w1) (trodAll_cons_mk (shut_string Yba.underlying9 w2) trodAll_mk0))), rfl, bel.frame _, fun h => by cases h⟩

theorem over : Rows.lawS10265CWholeRow.holds Yba.pinned (OpenSpec.ofChange Rows.lawS10265CWholeSpec) :=
  OpenClaim.holds_of_wide 3 Yba.f3 rfl rfl rfl rfl rfl rfl rfl ⟨rfl, rfl, rfl, rfl, rfl⟩ rfl rfl rfl rfl rfl (by kernel_rfl) Yba.func3 (by kernel_rfl)
    (of_decide_eq_true (by kernel_rfl)) (by unfold Func.isWrapper; first | (rw [if_pos (by decide +kernel)]; kernel_rfl) | (rw [if_neg (by decide +kernel)]; exact ⟨rfl, rfl⟩))
    (fun os started H enc _ => lifted os started H enc)

end Go.Proofs.Ybulkhdoi.Law

namespace Go.Proofs.Ybulkhdoi
theorem lawS10265CWhole_proved : Rows.LawS10265CWholeSaid := Law.over
end Go.Proofs.Ybulkhdoi
