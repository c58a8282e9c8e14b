import Derived.Test.YbulkhexiLaw
import Derived.ProofKit
import Derived.OpenShut
import Derived.ChangeOld
import Derived.SizedLaws
import Derived.Deep.Slices
namespace Go.Proofs.Ybulkhexi.Law
open Go.ChangeShapes Go.WideShapes Go.ChangeAt Go.RowKit

theorem own : ownKnob Yba.prog.godebug = none := by kernel_rfl
theorem laidOut : laidOutB Yba.prog = true := by kernel_rfl
theorem bytes5 : Yba.prog.bytesOf 5 = 1 := by kernel_rfl
theorem bytes24 : Yba.prog.bytesOf 24 = 24 := by kernel_rfl
theorem cells24 : Yba.prog.cellsOf 24 = 1 := by kernel_rfl

theorem weights_all_mem {H : Type} {P : Program} {e : TypeId} {d : DataW H} {m : Nat} (hm : m ∈ d.weights P e) : ∀ {l : List (DataW H)}, d ∈ l → m ∈ DataW.weightsAll P e l
  | [], h => by cases h
  | x :: r, h => by
    simp only [DataW.weightsAll, List.mem_append]
    rcases List.mem_cons.1 h with rfl | h
    · exact Or.inl hm
    · exact Or.inr (weights_all_mem hm h)

theorem sized_inner {H : Type} {P : Program} {ts : List TypeId} {ds : List (DataW H)} (h : (DataW.weightsEach P ts ds).all (· ≤ reachBytes) = true) {j : Nat} {t e e' : TypeId} {elems spare : List (DataW H)} (ht : ts[j]? = some t)
    (hd : ds[j]? = some (.slice elems spare)) (hu : P.underlying t = some (.slice e)) (hu' : P.underlying e = some (.slice e')) {el sp : List (DataW H)} (hm : (.slice el sp : DataW H) ∈ elems) : (el.length + sp.length) * P.bytesOf e' ≤ reachBytes := by
  have hin : (el.length + sp.length) * P.bytesOf e' ∈ DataW.weights P e (.slice el sp : DataW H) := by simp [DataW.weights, hu']
  have := List.all_eq_true.1 h _ (DataW.weights_mem_each ht hd ((el.length + sp.length) * P.bytesOf e') (by
    simp only [DataW.weights, hu, List.mem_cons, List.mem_append]
    exact Or.inr (Or.inl (weights_all_mem hin hm))))
  simpa using this

/-- One slice of bytes, opened. -/
theorem open_bytes {H : Type} {enc : TypeId × Value → H} {W : World} {fuel : Nat} {v : Value} {x : DataW H × List MemPlace} (hf : DataW.trod enc Yba.prog W 0 (fun _ => true) true fuel 24 [v] = some x) :
    ∃ a len cap xs, v = .slice a len cap ∧ Bs W a len xs ∧ (a = none → len = 0) ∧ (len = 0 ∨ ∃ elems spare, x.1 = .slice elems spare ∧ elems.length = len) := by
  rcases open_ints Yba.underlying24 Yba.underlying5 (by kernel_rfl) hf with ⟨hcs, _⟩ | ⟨ad, l, c, zs, hcs, _, hl, hm, hz, hd, hcell, hwz⟩
  · simp at hcs
    subst hcs
    exact ⟨none, 0, 0, [], rfl, ⟨rfl, fun h => absurd h (by omega)⟩, fun _ => rfl, Or.inl rfl⟩
  · simp at hcs
    subst hcs
    have hz' : zs.length = c := by simpa using hz
    refine ⟨some ad, l, c, zs.take l, rfl, ⟨by simp; omega, fun hn => ?_⟩, fun h => by simp at h, Or.inr ⟨_, _, by rw [hd], by simp [lits]; omega⟩⟩
    obtain ⟨b, off, spt⟩ := ad
    have z0 := hcell 0 (by omega)
    have z0' : W.cell? ⟨b, off, spt⟩ = some (.int .u8 (zs.getD 0 0)) := by simpa [Addr.add] using z0
    have hs : spt = none := World.cell?_spot z0'
    subst hs
    refine ⟨b, off, rfl, fun i hi => ?_⟩
    have := hcell i (by omega)
    rw [Addr.add_lit] at this
    rw [this]
    simp [List.getD, hi]

/-- The slice of byte slices, opened. -/
theorem open_keys {H : Type} {enc : TypeId × Value → H} {W : World} {a : Option Addr} {len cap : Nat} {d : DataW H} {p : List MemPlace} {ts : List TypeId} {ds : List (DataW H)} (h : DataW.Trod enc Yba.prog W 0 (fun _ => true) true 22 (.slice a len cap) d p)
    (hsz : (DataW.weightsEach Yba.prog ts ds).all (· ≤ reachBytes) = true) {j : Nat} (ht : ts[j]? = some 22) (hdj : ds[j]? = some d) :
    ∃ L X N, KeysAt W a len L X N ∧ (a = none → len = 0) ∧ len * 24 ≤ 140737488355328 ∧ ∀ i, i < len → L i ≤ 140737488355328 := by
  obtain ⟨fuel, hf⟩ := h
  rcases Deep.open_slice1 Yba.underlying22 cells24 hf with ⟨hcs, _⟩ | ⟨ad, l, c, m, n, V, D, Pl, hcs, _, hl, hm, hmm, hd, hx⟩
  · simp [Value.cells] at hcs
    obtain ⟨rfl, rfl, rfl⟩ := hcs
    exact ⟨fun _ => 0, fun _ => [], fun _ => true, fun h => absurd h (by omega), fun _ => rfl, by omega, fun i hi => absurd hi (by omega)⟩
  · simp [Value.cells] at hcs
    obtain ⟨rfl, rfl, rfl⟩ := hcs
    simp only [Prod.mk.injEq] at hd
    obtain ⟨hd, _⟩ := hd
    subst hd
    have hml : len ≤ m := by rw [hmm]; simp; exact hl
    have hbig : len * 24 ≤ 140737488355328 := by
      have := sized_slice hsz (e := 24) ht hdj Yba.underlying22
      rw [bytes24] at this
      simp only [List.length_map, List.length_range] at this
      unfold reachBytes at this
      omega
    obtain ⟨f, hf'⟩ := Deep.choose_lt (n := len) (p := fun i (r : Option Addr × Nat × Nat × List Int) => W.cell? (ad.add i) = some (.slice r.1 r.2.1 r.2.2.1) ∧ Bs W r.1 r.2.1 r.2.2.2 ∧ (r.1 = none → r.2.1 = 0) ∧ r.2.1 ≤ 140737488355328) (fun i hi => by
      obtain ⟨g1, g2⟩ := hx i (by omega)
      obtain ⟨a', l', c', xs, hv, hb, hn, hor⟩ := open_bytes g2
      refine ⟨(a', l', c', xs), by rw [g1, hv], hb, hn, ?_⟩
      rcases hor with h0 | ⟨el, spr, e1, e2⟩
      · simp; omega
      · have e1' : D i = .slice el spr := e1
        have := sized_inner hsz (e := 24) (e' := 5) ht hdj Yba.underlying22 Yba.underlying24 (el := el) (sp := spr) (by rw [← e1']; exact List.mem_map.2 ⟨i, by simpa using hi, rfl⟩)
        rw [bytes5] at this
        unfold reachBytes at this
        simp
        omega)
    refine ⟨fun i => (f i).2.1, fun i => (f i).2.2.2, fun i => (f i).1.isNone, fun hn => ?_, fun h => by simp at h, hbig, fun i hi => (hf' i hi).2.2.2⟩
    obtain ⟨b, off, spt⟩ := ad
    have z0 := (hf' 0 hn).1
    have hs : spt = none := World.cell?_spot (a := ⟨b, off, spt⟩) (by simpa [Addr.add] using z0)
    subst hs
    refine ⟨b, off, rfl, fun i hi => ?_⟩
    obtain ⟨g1, g2, g3, _⟩ := hf' i hi
    rw [Addr.add_lit] at g1
    exact ⟨_, _, g1, g2, rfl, g3⟩

set_option maxRecDepth 100000 in
theorem lifted (os : Os) (started : os.Started) (H : Type) (enc : TypeId × Value → H) :
    ReturnsInHanded {} Yba.checked os 3 .any (Rows.lawS10330BWholeSpec.pre6 enc Yba.prog Yba.f3 Rows.lawS10330BWholeRow.domain false) (Rows.lawS10330BWholeSpec.post enc Yba.prog Yba.f3 false true false false) := by
  refine returnsInHanded_of_change_sized (C := Yba.checked) own started (by kernel_rfl) Yba.func3
    (ChangeSpec.witness6 (enc := enc) (C := Yba.checked) false ⟨#[], #[.int .i64 0, .slice none 0 0, .int .u8 0, .int .u8 0, .int .u8 0, .int .u64 0], []⟩ 8 (by kernel_rfl) (by kernel_rfl) (by kernel_rfl) (by kernel_rfl)) ?_
  intro W base args ds gs before hval0 hW hcnd hsz0 _
  have hval : ∀ (j : Nat) t v, Yba.f3.params[j]? = some t → args[j]? = some v → Value.okWide Yba.prog W .any base t v := hval0
  have hsz : (DataW.weightsEach Yba.prog (Yba.f3.params.toList ++ Rows.lawS10330BWholeSpec.plain.varTypes Yba.prog) (ds ++ gs)).all (· ≤ reachBytes) = true := hsz0
  have hW' := hW
  obtain ⟨p, q, hA0, hV, rfl, hfz, hnd⟩ := hW
  have hA : DataW.TrodAll enc Yba.prog W 0 (fun _ => true) true Yba.f3.params.toList args.toList ds p := hA0
  rw [Yba.params3] at hA hval hsz
  obtain ⟨v0, vs0, d0, ds0, p0, q0, hargs, rfl, rfl, h0, r0⟩ := trodAll_cons hA
  obtain ⟨v1, vs1, d1, ds1, p1, q1, rfl, rfl, rfl, h1, r1⟩ := trodAll_cons r0
  obtain ⟨v2, vs2, d2, ds2, p2, q2, rfl, rfl, rfl, h2, r2⟩ := trodAll_cons r1
  obtain ⟨v3, vs3, d3, ds3, p3, q3, rfl, rfl, rfl, h3, r3⟩ := trodAll_cons r2
  obtain ⟨v4, vs4, d4, ds4, p4, q4, rfl, rfl, rfl, h4, r4⟩ := trodAll_cons r3
  obtain ⟨v5, vs5, d5, ds5, p5, q5, rfl, rfl, rfl, h5, r5⟩ := trodAll_cons r4
  obtain ⟨rfl, rfl, rfl⟩ := trodAll_nil r5
  obtain rfl : args = #[v0, v1, v2, v3, v4, v5] := by cases args; simp_all
  obtain ⟨rfl, rfl⟩ := trodVars_none hV
  obtain ⟨a0, rfl, rfl, rfl, w0⟩ := open_int Yba.underlying2 (hval 0 2 v0 rfl rfl) h0
  obtain ⟨a1, len1, cap1, rfl⟩ := okWide_slice Yba.underlying22 (hval 1 22 v1 rfl rfl)
  have lt1 : ∀ x ∈ p1, x.block < W.heap.size := by obtain ⟨m, hm⟩ := h1; exact DataW.trod_lt m _ _ _ hm
  obtain ⟨a2, rfl, rfl, rfl, w2⟩ := open_int Yba.underlying5 (hval 2 5 v2 rfl rfl) h2
  obtain ⟨a3, rfl, rfl, rfl, w3⟩ := open_int Yba.underlying5 (hval 3 5 v3 rfl rfl) h3
  obtain ⟨a4, rfl, rfl, rfl, w4⟩ := open_int Yba.underlying5 (hval 4 5 v4 rfl rfl) h4
  obtain ⟨a5, rfl, rfl, rfl, w5⟩ := open_int Yba.underlying23 (hval 5 23 v5 rfl rfl) h5
  obtain ⟨L, X, N, hK, hn0, hbig, hLs⟩ := open_keys h1 hsz (j := 1) rfl rfl
  clear hA0 hval0 hsz0
  refine (walk a0 a1 len1 cap1 a2 a3 a4 a5 L X N W hK hn0 hbig hLs).mono fun e W' ⟨he, bel⟩ => ?_
  subst he
  exact ⟨_, rfl, _, _, _, [], _, [], hW', trodAll_mk1 (shut_bool Yba.underlying4 _), (trodAll_cons_mk (shut_int Yba.underlying2 w0) (trodAll_cons_mk (Below.trod laidOut (by kernel_rfl) (of_decide_eq_true (by kernel_rfl)) h1 bel lt1) (trodAll_cons_mk (shut_int Yba.underlying5 w2) (trodAll_cons_mk (shut_int Yba.underlying5 w3) (trodAll_cons_mk (shut_int Yba.underlying5 w4) (trodAll_cons_mk (shut_int Yba.underlying23 w5) trodAll_mk0)))))), rfl, bel.frame _, fun h => by cases h⟩

theorem over : Rows.lawS10330BWholeRow.holds Yba.pinned (OpenSpec.ofChange Rows.lawS10330BWholeSpec) :=
  OpenClaim.holds_of_wide 3 Yba.f3 rfl rfl rfl rfl rfl rfl rfl ⟨rfl, rfl, rfl, rfl, rfl⟩ rfl rfl rfl rfl rfl (by kernel_rfl) Yba.func3 (by kernel_rfl)
    (of_decide_eq_true (by kernel_rfl)) (by unfold Func.isWrapper; first | (rw [if_pos (by decide +kernel)]; kernel_rfl) | (rw [if_neg (by decide +kernel)]; exact ⟨rfl, rfl⟩))
    (fun os started H enc _ => lifted os started H enc)
end Go.Proofs.Ybulkhexi.Law

namespace Go.Proofs.Ybulkhexi
theorem lawS10330BWhole_proved : Rows.LawS10330BWholeSaid := Law.over
end Go.Proofs.Ybulkhexi
