import Derived.Test.YbulkhdowFmtLaw
import Derived.ProofKit
import Derived.OpenShut
import Derived.ShutString
import Derived.ChangeOld
import Derived.Deep.Slices
import Derived.Stop.JoinedAt
import Derived.Stop.Texts
import Derived.Stop.JoinedTold
import Derived.Stop.FmtTextWidths
import Derived.Stop.FmtTextKit
import Derived.SevenToldRow
namespace Go.Proofs.YbulkhdowFmt.Law
open Go.ChangeShapes Go.WideShapes Go.ChangeAt Go.RowKit Go.Kit
open Go.ChangeMaps (open_string shut_string)
open Go.Extern.Stop Go.Stop Go.Extern

theorem own : ownKnob Ybaf.prog.godebug = none := by kernel_rfl
theorem laidOut : laidOutB Ybaf.prog = true := by kernel_rfl

-- the format that nameFault hands to Sprintf
theorem parseS : (FmtText.parse [104, 111, 108, 100, 115, 32, 116, 104, 101, 32, 98, 121, 116, 101, 32, 48, 120, 37, 48, 50, 120]).map FmtText.glue = some [.lit [104, 111, 108, 100, 115, 32, 116, 104, 101, 32, 98, 121, 116, 101, 32, 48, 120], .verb { widPresent := true, wid := 2, zero := true } 120] := by rfl

theorem textS (c : Int) (h0 : 0 ≤ c) (h1 : c ≤ 255) :
    FmtText.text "fmt.Sprintf" (readS c) = some ([104, 111, 108, 100, 115, 32, 116, 104, 101, 32, 98, 121, 116, 101, 32, 48, 120] ++ [FmtText.digit false (c.toNat / 16), FmtText.digit false (c.toNat % 16)]) := by
  have hw : (Lit.int .u8 c).wf = true := by simp [Lit.wf, IntKind.min, IntKind.max, IntKind.signed, IntKind.bits]; omega
  rw [readS, FmtText.text_sprintf_glued parseS (FmtText.operands_cons (FmtText.operand_int_at (sh := shape5) (k := .u8) rfl rfl c hw) FmtText.operands_nil)]
  have hp := FmtText.printArg_02x_byte false [117, 105, 110, 116, 56] c h0 (by omega)
  simp [FmtText.render]
  exact hp

theorem told_ne (F : Interp) (c : Int) (h0 : 0 ≤ c) (h1 : c ≤ 255) : NE (FmtStop.textOf (F.told "fmt.Sprintf" (readS c) 0)) := by
  have ht := told_string F (textS c h0 h1) (by simp)
  have hl := textOf_list F.told "fmt.Sprintf" (readS c)
  rw [ht] at hl
  generalize FmtStop.textOf (F.told "fmt.Sprintf" (readS c) 0) = t at hl
  unfold NE
  intro e
  have h2 : t.data.toList.length = 0 := by rw [Array.length_toList]; exact e
  rw [hl] at h2
  simp at h2

theorem cells44 : Ybaf.prog.cellsOf 44 = 4 := by kernel_rfl
theorem cells9 : Ybaf.prog.cellsOf 9 = 1 := by kernel_rfl
theorem cells4 : Ybaf.prog.cellsOf 4 = 1 := by kernel_rfl

theorem four {α : Type} (l : List α) (h : l.length = 4) : ∃ a b c d, l = [a, b, c, d] := by
  match l, h with
  | [a, b, c, d], _ => exact ⟨a, b, c, d, rfl⟩

/-- One attribute's four cells, out of its reading. -/
theorem open_attr {H : Type} {enc : TypeId × Value → H} {w : World} {base : Nat} {spare : Nat → Bool} {held : Bool} {n : Nat} {cs : List Value} {x : DataW H × List MemPlace}
    (h : DataW.trod enc Ybaf.prog w base spare held n 44 cs = some x) :
    ∃ (a b c : ByteArray) (d : Bool), cs = [.string a, .string b, .string c, .bool d] ∧ c.size ≤ maxLen := by
  obtain ⟨xs, k, hk, hxy, hcl, hxl, hf⟩ := DataW.trod_struct Ybaf.underlying44 h
  rw [cells44] at hcl
  obtain ⟨c0, c1, c2, c3, rfl⟩ := four cs hcl
  obtain ⟨y0, y1, y2, y3, rfl⟩ := four xs hxl
  have g0 := hf 0 _ rfl
  have g1 := hf 1 _ rfl
  have g2 := hf 2 _ rfl
  have g3 := hf 3 _ rfl
  simp [cells9, cells4] at g0 g1 g2 g3
  obtain ⟨s0, e0, _, _⟩ := DataW.trod_string Ybaf.underlying9 g0
  obtain ⟨s1, e1, _, _⟩ := DataW.trod_string Ybaf.underlying9 g1
  obtain ⟨s2, e2, _, hs2⟩ := DataW.trod_string Ybaf.underlying9 g2
  obtain ⟨b3, e3, _⟩ := DataW.trod_bool Ybaf.underlying4 g3
  simp at e0 e1 e2 e3
  subst e0 e1 e2 e3
  exact ⟨s0, s1, s2, b3, rfl, hs2⟩

set_option maxRecDepth 100000 in
theorem lifted (os : Os) (started : os.Started) (H : Type) (enc : TypeId × Value → H) :
    ReturnsInTold none {} Ybaf.checked os 4 .any Input.okWide ((OpenSpec.ofChange Rows.lawS10266CWholeSpec).preRow enc Ybaf.prog Ybaf.f4 [] false []) (fun F => ((OpenSpec.ofChange Rows.lawS10266CWholeSpec).at F).post enc Ybaf.prog Ybaf.f4 false true false false) (aloneAtReturn Ybaf.prog) nothingAlways := by
  refine returnsInTold_of_row (C := Ybaf.checked) (s := OpenSpec.ofChange Rows.lawS10266CWholeSpec) (by kernel_rfl) own started (by kernel_rfl) Ybaf.func4
    (OpenSpec.witness_stopped (enc := enc) (C := Ybaf.checked) false ⟨#[], #[.string ByteArray.empty, .string ByteArray.empty, .slice none 0 0], []⟩ 8 (by kernel_rfl) (by kernel_rfl) (by kernel_rfl) (by kernel_rfl)) ?_
  intro F W base args ds gs before _ hF hval0 hW _ _ _ _ _
  have hval : ∀ (j : Nat) t v, Ybaf.f4.params[j]? = some t → args[j]? = some v → Value.okWide Ybaf.prog W .any base t v := hval0
  have hW' := hW
  obtain ⟨p, q, hA0, hV, rfl, hfz, hnd⟩ := hW
  have hA : DataW.TrodAll enc Ybaf.prog W 0 (fun _ => true) true Ybaf.f4.params.toList args.toList ds p := hA0
  rw [Ybaf.params4] at hA hval
  obtain ⟨v0, vs0, d0, ds0, p0, q0, hargs, rfl, rfl, h0, r0⟩ := trodAll_cons hA
  obtain ⟨v1, vs1, d1, ds1, p1, q1, rfl, rfl, rfl, h1, r1⟩ := trodAll_cons r0
  obtain ⟨v2, vs2, d2, ds2, p2, q2, rfl, rfl, rfl, h2, r2⟩ := trodAll_cons r1
  obtain ⟨rfl, rfl, rfl⟩ := trodAll_nil r2
  obtain rfl : args = #[v0, v1, v2] := by cases args; simp_all
  obtain ⟨rfl, rfl⟩ := trodVars_none hV
  obtain ⟨s0, rfl, rfl, rfl, w0⟩ := open_string Ybaf.underlying9 (hval 0 9 v0 rfl rfl) h0
  obtain ⟨s1, rfl, rfl, rfl, w1⟩ := open_string Ybaf.underlying9 (hval 1 9 v1 rfl rfl) h1
  obtain ⟨a2, len2, cap2, rfl⟩ := okWide_slice Ybaf.underlying41 (hval 2 41 v2 rfl rfl)
  have k2 := h2
  have lt2 : ∀ x ∈ p2, x.block < W.heap.size := by obtain ⟨m, hm⟩ := k2; exact DataW.trod_lt m _ _ _ hm
  obtain ⟨sp, lo, va, nm, hnil, hc, hv⟩ : ∃ (sp lo va : Nat → ByteArray) (nm : Nat → Bool), (a2 = none → len2 = 0) ∧ Arg4 W a2 len2 sp lo va nm ∧ ∀ j, j < len2 → (va j).size ≤ maxLen := by
    obtain ⟨fuel, hf⟩ := h2
    rcases Deep.open_slice Ybaf.underlying41 hf with ⟨hcs, _⟩ | ⟨x, l, c, m, fl, D, Pl, hcs, _, hl, hm, hmm, _, hx⟩
    · simp [Value.cells] at hcs
      obtain ⟨rfl, rfl, rfl⟩ := hcs
      exact ⟨fun _ => ByteArray.empty, fun _ => ByteArray.empty, fun _ => ByteArray.empty, fun _ => false, fun _ => rfl, fun ad h => by simp at h, fun j hj => absurd hj (by omega)⟩
    · simp [Value.cells] at hcs
      obtain ⟨rfl, rfl, rfl⟩ := hcs
      have hml : len2 ≤ m := by rw [hmm]; simp; exact hl
      obtain ⟨f, hf'⟩ := Deep.choose_lt (n := len2) (p := fun i (r : ByteArray × ByteArray × ByteArray × Bool) => W.cell? (x.add (i * 4)) = some (.string r.1) ∧ W.cell? (x.add (i * 4 + 1)) = some (.string r.2.1) ∧ W.cell? (x.add (i * 4 + 2)) = some (.string r.2.2.1) ∧
          W.cell? (x.add (i * 4 + 3)) = some (.bool r.2.2.2) ∧ r.2.2.1.size ≤ maxLen) (fun i hi => by
        obtain ⟨cs', g1, g2⟩ := hx i (by omega)
        rw [cells44] at g1
        obtain ⟨a, b, c, d, rfl, hsz⟩ := open_attr g2
        obtain ⟨_, _, hcell⟩ := World.cells?_some g1
        have e0 := hcell 0 (by omega)
        have e1 := hcell 1 (by omega)
        have e2 := hcell 2 (by omega)
        have e3 := hcell 3 (by omega)
        rw [Deep.add_add] at e0 e1 e2 e3
        exact ⟨(a, b, c, d), by simpa using e0, by simpa using e1, by simpa using e2, by simpa using e3, hsz⟩)
      refine ⟨fun i => (f i).1, fun i => (f i).2.1, fun i => (f i).2.2.1, fun i => (f i).2.2.2, fun h => by simp at h, fun ad had => ?_, fun j hj => (hf' j hj).2.2.2.2⟩
      obtain rfl := Option.some.inj had
      intro j hj
      obtain ⟨b, off, spt⟩ := x
      have z0 := (hf' 0 (by omega)).1
      have z0' : W.cell? ⟨b, off, spt⟩ = some (.string (f 0).1) := by simpa [Addr.add] using z0
      have hb := block_lt_of_cell z0'
      have hs : spt = none := World.cell?_spot z0'
      subst hs
      obtain ⟨t0, t1, t2, t3, _⟩ := hf' j hj
      rw [Addr.add_lit] at t0 t1 t2 t3
      exact ⟨hb, rfl, t0, t1, t2, t3⟩
  clear hA0 hval0
  have main : Calls Ybaf.prog 4 #[.string s0, .string s1, .slice a2 len2 cap2] W fun e w' => e = .returned (.bool true) ∧ Below W.heap.size W w' := by
    by_cases hbig : 1048576 < len2
    · exact walk_big s0 s1 a2 len2 cap2 W hbig
    · exact walk F.told s0 s1 a2 len2 cap2 sp lo va nm W hF (told_ne F) (by omega) hnil hc hv
  refine main.mono fun e W' ⟨he, bel⟩ => ?_
  subst he
  exact ⟨_, rfl, _, _, _, [], _, [], hW', trodAll_mk1 (shut_bool Ybaf.underlying4 _), (trodAll_cons_mk (shut_string Ybaf.underlying9 w0) (trodAll_cons_mk (shut_string Ybaf.underlying9 w1) (trodAll_cons_mk (Below.trod laidOut (by kernel_rfl) (of_decide_eq_true (by kernel_rfl)) k2 bel lt2) trodAll_mk0))), rfl, bel.frame _, fun h => by cases h⟩

theorem stops : Ybaf.pinned.checked.prog.stops = Rows.lawS10266CWholeRow.stops := by kernel_rfl
theorem stopKnobs : Ybaf.pinned.checked.prog.stopKnobs = [] := by kernel_rfl
theorem quietStop (os : Os) : Stop.quiet Ybaf.pinned.checked.prog os := by
  intro k hk
  rw [stopKnobs] at hk
  cases hk

theorem over : Rows.LawS10266CWholeToldSaid :=
  Claim7.holds_of_told_any 4 Ybaf.f4 _ _ [] _ _ _ (by kernel_rfl) rfl rfl rfl laidOut (by kernel_rfl) rfl ⟨rfl, rfl, rfl, rfl, rfl, rfl, rfl⟩ rfl rfl (by kernel_rfl) (by kernel_rfl) Ybaf.func4 (by kernel_rfl)
    (of_decide_eq_true (by kernel_rfl)) (of_decide_eq_true (by kernel_rfl)) stops.symm rfl stopKnobs.symm (by kernel_rfl)
    (by kernel_rfl) (by kernel_rfl) (by kernel_rfl) (by kernel_rfl) (by kernel_rfl) (by kernel_rfl) (by kernel_rfl) (by kernel_rfl) (by kernel_rfl) rfl (by kernel_rfl) rfl rfl
    rfl rfl
    rfl (by kernel_rfl) (by kernel_rfl) (by kernel_rfl) (by decide) (by kernel_rfl)
    (OpenClaim.moreEntering_of (by kernel_rfl) (by kernel_rfl) (by kernel_rfl) (by kernel_rfl) (by kernel_rfl) (by kernel_rfl) (by kernel_rfl) (by kernel_rfl) (by kernel_rfl) (by kernel_rfl))
    ⟨_, WideRow.started_initial, quietStop _⟩
    (fun os started _ H enc _ => lifted os started H enc)
end Go.Proofs.YbulkhdowFmt.Law

namespace Go.Proofs.YbulkhdowFmt
theorem lawS10266CWhole_told : Rows.LawS10266CWholeToldSaid := Law.over
end Go.Proofs.YbulkhdowFmt
