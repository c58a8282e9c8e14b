import Derived.Test.YbulkhewuFmtLaw
import Derived.Test.YbulkhewuFmtTie
import Derived.ProofKit
import Derived.OpenShut
import Derived.ChangeOld
import Derived.ChangeVars
import Derived.LaidMore
import Derived.MakeChecks
import Derived.SizedLaws
import Derived.WalkSmall
import Derived.Maps.OwnSet
import Derived.Stop.JoinedAt
import Derived.Stop.Joined
import Derived.Stop.JoinedTold
import Derived.SevenTiedAt
namespace Go.Proofs.YbulkhewuFmt.Law
open Go.ChangeShapes Go.WideShapes Go.ChangeAt Go.RowKit Go.Kit Go.WideElems Go.WideMaps
open Go.Extern.Stop Go.Stop Go.Extern

theorem own : ownKnob Ybaf.prog.godebug = none := by kernel_rfl
theorem laidOut : laidOutB Ybaf.prog = true := by kernel_rfl
theorem bytes5 : Ybaf.prog.bytesOf 5 = 1 := by kernel_rfl

/-- The one listed variable's name, out of the row. -/
abbrev theLaid : List (String × DataW Unit) := Rows.lawS10329BWholeRow.laid
abbrev theVars : List String := Rows.lawS10329BWholeSpec.vars

theorem gWraps : Ybaf.prog.globalNamed (theVars.headD "") = some 0 := by kernel_rfl
theorem tWraps : (Ybaf.prog.globals[0]?).map (·.type) = some 38 := by kernel_rfl

/-- The door's own heap meets the condition. -/
theorem door_met (os : Os) (args : Array Value) : laidMetH Ybaf.prog theLaid ((World.doorLaid Ybaf.prog 400 os).forCall (fun _ _ => 0) ⟨#[], args, []⟩).memory :=
  laidMetH_of_parts3 (fuel := 8) (laidMet_of_run' 8 (by kernel_rfl) (by kernel_rfl)) (by kernel_rfl) (by kernel_rfl)

/-- What the condition gives the walk: the variable's cell, and the map that it leads to. -/
theorem of_laid {W : World} (h : laidMetH Ybaf.prog theLaid W) : ∃ bm N, W.cell? ⟨0, 0, none⟩ = some (.map (some bm)) ∧ W.ownsMap Ybaf.prog 9 (plainElem (H := Unit) Ybaf.prog 3) bm N (Tab Unit) := by
  rw [MakeChecks.laidMetH_plain _ _ _ (by kernel_rfl)] at h
  obtain ⟨ps, ⟨g0, t0, cs0, f0, p0, q0, hg0, ht0, hv0, hd0, _, _⟩, _, _⟩ := h
  obtain rfl := Option.some.inj (gWraps.symm.trans hg0)
  obtain rfl := Option.some.inj (tWraps.symm.trans ht0)
  rcases open_map Ybaf.underlying38 hd0 with ⟨_, hx⟩ | ⟨bm, es, clock, m, rfl, hcs, hb, _, F, hx⟩
  · simp [laid_eq] at hx
  simp only [Prod.mk.injEq] at hx
  have hcell : W.cell? ⟨0, 0, none⟩ = some (.map (some bm)) := by
    have := World.var?_cell hg0 hv0 0
    rw [Array.eq_one_of_toList hcs] at this
    simpa using this
  have hown := World.ownsMap_of_fit (R := plainElem (H := Unit) Ybaf.prog 3) hb F (fun x _ z hz => elemAt_plainElem_int Ybaf.underlying3 hz)
  rw [← hx.1] at hown
  exact ⟨bm, es.size, hcell, hown⟩

set_option maxRecDepth 100000 in
theorem walk_big (p q : Option Addr) (n n0 c c0 : Nat) (mode : Int) (w : World) (h1 : n ≤ 140737488355328) (h2 : n0 ≤ 140737488355328) (hbig : 1048576 < n + n0) :
    Calls Ybaf.prog 3 #[.slice p n c, .slice q n0 c0, .int .u8 mode] w fun e w' => e = .returned (.bool true) ∧ Below w.heap.size w w' := by
  have hlt : (1048576 : Int) < (n : Int) + (n0 : Int) := by omega
  go_enter Ybaf.func3, Ybaf.ntmps3
  go_wp2
  go_ret
  exact ⟨rfl, Below.refl _ _⟩

/-- A slice of bytes that came in, opened. -/
theorem open_bytes {H : Type} {enc : TypeId × Value → H} {W : World} {a : Option Addr} {len cap : Nat} {d : DataW H} {p : List MemPlace} (h : DataW.Trod enc Ybaf.prog W 0 (fun _ => true) true 22 (.slice a len cap) d p) :
    ∃ xs, Bs W a len xs ∧ (a = none → len = 0) ∧ (len = 0 ∨ ∃ elems spare, d = .slice elems spare ∧ elems.length = len) := by
  obtain ⟨fuel, hf⟩ := h
  rcases open_ints Ybaf.underlying22 Ybaf.underlying5 (by kernel_rfl) hf with ⟨hcs, _⟩ | ⟨x, l, c, zs, hcs, _, hl, hm, hz, hd, hcell, hwz⟩
  · simp [Value.cells] at hcs
    obtain ⟨rfl, rfl, rfl⟩ := hcs
    exact ⟨[], ⟨rfl, fun h => absurd h (by omega)⟩, fun _ => rfl, Or.inl rfl⟩
  · simp [Value.cells] at hcs
    obtain ⟨rfl, rfl, rfl⟩ := hcs
    have hz' : zs.length = cap := by simpa using hz
    simp only [Prod.mk.injEq] at hd
    refine ⟨zs.take len, ⟨by simp; omega, fun hn => ?_⟩, fun h => by simp at h, Or.inr ⟨_, _, hd.1, by simp [lits]; omega⟩⟩
    obtain ⟨b, off, spt⟩ := x
    have z0 := hcell 0 (by omega)
    have z0' : W.cell? ⟨b, off, spt⟩ = some (.int .u8 (zs.getD 0 0)) := by simpa [Addr.add] using z0
    have hs : spt = none := World.cell?_spot z0'
    subst hs
    refine ⟨b, off, rfl, fun i hi => ?_⟩
    have := hcell i (by omega)
    rw [Addr.add_lit] at this
    rw [this]
    simp [List.getD, hi]

/-- A start of one's own making, for every F. -/
theorem witness_door {H : Type} {enc : TypeId × Value → H} {C : Checked} {os : Os} {f : FuncId} {fn : Func} {s : OpenSpec} {conds : List PathCond} {apart : Bool} {laid : List (String × DataW Unit)} (w0 : World) (args : Array Value) (hos : w0.os = os)
    (hsh : (w0.forCall (fun _ _ => 0) ⟨#[], args, []⟩).Shaped C.prog)
    (hok : Input.okWideB C.prog (w0.forCall (fun _ _ => 0) ⟨#[], args, []⟩) f ⟨#[], args, []⟩ = true)
    (hrow : s.preRow enc C.prog fn conds apart laid (w0.forCall (fun _ _ => 0) ⟨#[], args, []⟩).memory args) (F : Stop.Interp) :
    ∃ (w : World) (tape : Tape) (i : Input), w.os = os ∧ (w.forCall tape i).Shaped C.prog ∧ i.vars = [] ∧ Input.okWide C.prog (w.forCall tape i) .any w.heap.size f i ∧
      s.preRow enc C.prog fn conds apart laid (w.forCall tape i).memory i.args ∧ ({} : Assume).holds C.prog (lone (Frame.enter C.prog f i.args .normal) [] (w.forCall tape i)) ∧ F.answers tape :=
  ⟨w0, F.over fun _ _ => 0, ⟨#[], args, []⟩, hos, hsh, (Input.okWide_of_okWideB (base := 0) hok).1, (Input.okWide_of_okWideB hok).2, hrow, by
    simp only [Assume.holds]
    exact ⟨by simp, by simp, fun _ => F.over_modest Modest.zero, by simp, by simp⟩, F.over_answers _⟩

set_option maxRecDepth 100000 in
theorem lifted (os : Os) (started : os.Started) (H : Type) (enc : TypeId × Value → H) :
    ReturnsInTold none {} Ybaf.checked os 3 .any Input.okWide ((OpenSpec.ofChange Rows.lawS10329BWholeSpec).preRow enc Ybaf.prog Ybaf.f3 [] false theLaid) (fun F => ((OpenSpec.ofChange Rows.lawS10329BWholeSpec).at F).post enc Ybaf.prog Ybaf.f3 false true false false) (aloneAtReturn Ybaf.prog) nothingAlways := by
  refine returnsInTold_of_row (C := Ybaf.checked) (s := OpenSpec.ofChange Rows.lawS10329BWholeSpec) (by kernel_rfl) own started (by kernel_rfl) Ybaf.func3
    (witness_door (World.doorLaid Ybaf.prog 400 os) #[.slice none 0 0, .slice none 0 0, .int .u8 0] rfl (World.shaped_of_RefB (by kernel_rfl) (by kernel_rfl)) (by kernel_rfl) (OpenSpec.preRow_of_B rfl 8 (by kernel_rfl) (by kernel_rfl) (door_met os _))) ?_
  intro F W base args ds gs before _ hF hval0 hW _ _ hsz0 hL _
  have hval : ∀ (j : Nat) t v, Ybaf.f3.params[j]? = some t → args[j]? = some v → Value.okWide Ybaf.prog W .any base t v := hval0
  have hsz : (DataW.weightsEach Ybaf.prog (Ybaf.f3.params.toList ++ Rows.lawS10329BWholeSpec.plain.varTypes Ybaf.prog) (ds ++ gs)).all (· ≤ reachBytes) = true := hsz0
  have hW' := hW
  obtain ⟨p, q, hA0, hV0, rfl, hfz, hnd⟩ := hW
  have hA : DataW.TrodAll enc Ybaf.prog W 0 (fun _ => true) true Ybaf.f3.params.toList args.toList ds p := hA0
  have hV : DataW.TrodVars enc Ybaf.prog W (fun _ => true) [theVars.headD ""] gs q := hV0
  rw [Ybaf.params3] at hA hval hsz
  obtain ⟨v0, vs0, d0, ds0, p0, q0, hargs, rfl, rfl, h0, r0⟩ := trodAll_cons hA
  obtain ⟨v1, vs1, d1, ds1, p1, q1, rfl, rfl, rfl, h1, r1⟩ := trodAll_cons r0
  obtain ⟨v2, vs2, d2, ds2, p2, q2, rfl, rfl, rfl, h2, r2⟩ := trodAll_cons r1
  obtain ⟨rfl, rfl, rfl⟩ := trodAll_nil r2
  obtain rfl : args = #[v0, v1, v2] := by cases args; simp_all
  obtain ⟨g, t, cs, fuel, dv, pv, rfl, hg, ht, hv, htr, rfl⟩ := trodVars_one hV
  obtain rfl := Option.some.inj (gWraps.symm.trans hg)
  obtain rfl := Option.some.inj (tWraps.symm.trans ht)
  obtain ⟨a0, len0, cap0, rfl⟩ := okWide_slice Ybaf.underlying22 (hval 0 22 v0 rfl rfl)
  obtain ⟨a1, len1, cap1, rfl⟩ := okWide_slice Ybaf.underlying22 (hval 1 22 v1 rfl rfl)
  obtain ⟨m, rfl, rfl, rfl, wm⟩ := open_int Ybaf.underlying5 (hval 2 5 v2 rfl rfl) h2
  have lt0 : ∀ x ∈ p0, x.block < W.heap.size := by obtain ⟨m, hm⟩ := h0; exact DataW.trod_lt m _ _ _ hm
  have lt1 : ∀ x ∈ p1, x.block < W.heap.size := by obtain ⟨m, hm⟩ := h1; exact DataW.trod_lt m _ _ _ hm
  have ltv : ∀ x ∈ pv, x.block < W.heap.size := DataW.trod_lt _ _ _ _ htr
  obtain ⟨xs, hx, hxn, hxd⟩ := open_bytes h0
  obtain ⟨zs, hz, hzn, hzd⟩ := open_bytes h1
  obtain ⟨bm, N, hcell, hown⟩ := of_laid hL
  have hm := bounds_u8 wm
  have hb0 : len0 ≤ 140737488355328 := by
    rcases hxd with h | ⟨el, spr, rfl, hl⟩
    · omega
    · have := sized_slice hsz (j := 0) (t := 22) (e := 5) rfl rfl Ybaf.underlying22
      rw [bytes5] at this
      unfold reachBytes at this
      omega
  have hb1 : len1 ≤ 140737488355328 := by
    rcases hzd with h | ⟨el, spr, rfl, hl⟩
    · omega
    · have := sized_slice hsz (j := 1) (t := 22) (e := 5) rfl rfl Ybaf.underlying22
      rw [bytes5] at this
      unfold reachBytes at this
      omega
  clear hA0 hval0 hV0 hsz0
  have main : Calls Ybaf.prog 3 #[.slice a0 len0 cap0, .slice a1 len1 cap1, .int .u8 m] W fun e w' => e = .returned (.bool true) ∧ Below W.heap.size W w' := by
    by_cases hbig : 1048576 < len0 + len1
    · exact walk_big a0 a1 len0 len1 cap0 cap1 m W hb0 hb1 hbig
    · exact walk F.told a0 a1 len0 len1 cap0 cap1 xs zs m bm N W hF hx hz (by omega) hm.1 hm.2 hxn hzn hcell hown
  refine main.mono fun e W' ⟨he, bel⟩ => ?_
  subst he
  obtain ⟨vm, hvm⟩ : ∃ vm : Value, vm.cells.toList = cs.toList := by
    rcases open_map Ybaf.underlying38 htr with ⟨hcs, _⟩ | ⟨bm', es, clock, m', _, hcs, _⟩
    · exact ⟨.map none, by rw [hcs]; rfl⟩
    · exact ⟨.map (some bm'), by rw [hcs]; rfl⟩
  obtain ⟨fuel', htr'⟩ := Below.trod laidOut (t := 38) (by kernel_rfl) (of_decide_eq_true (by kernel_rfl)) (v := vm) (d := dv) (ps := pv) (enc := enc) ⟨fuel, by rw [hvm]; exact htr⟩ bel ltv
  rw [hvm] at htr'
  have hvars : DataW.TrodVars enc Ybaf.prog W' (fun b => decide (b < W.heap.size)) [theVars.headD ""] [dv] (MemPlace.row ⟨0, 0, none⟩ cs.size ++ pv) :=
    trodVars_mk1 gWraps tWraps (var?_below bel gWraps (by exact block_lt_of_cell hcell) hv) htr'
  exact ⟨_, rfl, _, _, _, [], _, _, hW', trodAll_mk1 (shut_bool Ybaf.underlying4 _), (trodAll_cons_mk (Below.trod laidOut (by kernel_rfl) (of_decide_eq_true (by kernel_rfl)) h0 bel lt0) (trodAll_cons_mk (Below.trod laidOut (by kernel_rfl) (of_decide_eq_true (by kernel_rfl)) h1 bel lt1) (trodAll_cons_mk (shut_int Ybaf.underlying5 wm) trodAll_mk0))), hvars, bel.frame _, fun h => by cases h⟩

theorem stops : Ybaf.pinned.checked.prog.stops = Rows.lawS10329BWholeRow.stops := by kernel_rfl
theorem stopKnobs : Ybaf.pinned.checked.prog.stopKnobs = [] := by kernel_rfl
theorem quietStop (os : Os) : Stop.quiet Ybaf.pinned.checked.prog os := by
  intro k hk
  rw [stopKnobs] at hk
  cases hk

theorem over : Rows.LawS10329BWholeToldSaid :=
  Claim7.holds_of_told_tied_any_at .later 3 Ybaf.f3 _ _ [] _ _ _ _ _ (by kernel_rfl) rfl rfl rfl laidOut (by kernel_rfl) rfl ⟨rfl, rfl, rfl, rfl, rfl, rfl, rfl⟩ rfl rfl (by kernel_rfl) (by kernel_rfl) Ybaf.func3 (by kernel_rfl)
    (of_decide_eq_true (by kernel_rfl)) (of_decide_eq_true (by kernel_rfl)) stops.symm rfl stopKnobs.symm (by kernel_rfl)
    (by kernel_rfl) (by kernel_rfl) (by kernel_rfl) (by kernel_rfl) (by kernel_rfl) (by kernel_rfl) (by kernel_rfl) (by kernel_rfl) (by kernel_rfl) rfl (by kernel_rfl) rfl rfl
    rfl rfl
    rfl (by kernel_rfl) (by kernel_rfl) (by kernel_rfl) (by decide) (by kernel_rfl) lawS10329BWhole_row_tie
    (OpenClaim.moreEntering_of (by kernel_rfl) (by kernel_rfl) (by kernel_rfl) (by kernel_rfl) (by kernel_rfl) (by kernel_rfl) (by kernel_rfl) (by kernel_rfl) (by kernel_rfl) (by kernel_rfl))
    ⟨_, WideRow.started_initial, quietStop _⟩
    (fun os started _ H enc _ => lifted os started H enc)
end Go.Proofs.YbulkhewuFmt.Law

namespace Go.Proofs.YbulkhewuFmt
theorem lawS10329BWhole_told : Rows.LawS10329BWholeToldSaid := Law.over
end Go.Proofs.YbulkhewuFmt
