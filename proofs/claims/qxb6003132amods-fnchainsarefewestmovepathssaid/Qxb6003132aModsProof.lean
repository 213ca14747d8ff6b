/- The row's step: what the law's walk says of views is laid over the row's readings of the six arguments. -/
import Derived.Test.Qxb6003132aModsLaw
import Derived.ProofKit
import Derived.OpenShut
import Derived.WideKeyArgs
import Derived.Deep.Slices
namespace Go.Proofs.Qxb6003132aMods.chains
open Go.ChangeShapes Go.WideShapes Go.ChangeAt Go.RowKit Go.Deep
set_option linter.unusedVariables false

theorem own : ownKnob Trym.prog.godebug = none := by kernel_rfl
theorem laidOut : laidOutB Trym.prog = true := by kernel_rfl
theorem cells24 : Trym.prog.cellsOf 24 = 1 := by kernel_rfl
theorem cells35 : Trym.prog.cellsOf 35 = 1 := by kernel_rfl
theorem cells36 : Trym.prog.cellsOf 36 = 1 := by kernel_rfl
theorem cells21 : Trym.prog.cellsOf 21 = 1 := by kernel_rfl
theorem cells3 : Trym.prog.cellsOf 3 = 1 := by kernel_rfl
theorem cells4 : Trym.prog.cellsOf 4 = 1 := by kernel_rfl

section
variable {H : Type} {enc : TypeId × Value → H} {w : World}

/-- that a value of a type was read -/
def Rd (enc : TypeId × Value → H) (w : World) (t : TypeId) (v : Value) : Prop :=
  ∃ n x, DataW.trod enc Trym.prog w 0 (fun _ => true) true n t [v] = some x

theorem Rd.of {t : TypeId} {v : Value} {d : DataW H} {p : List MemPlace} (hv : v.cells.toList = [v]) (h : DataW.Trod enc Trym.prog w 0 (fun _ => true) true t v d p) : Rd enc w t v := by
  obtain ⟨n, hn⟩ := h
  rw [hv] at hn
  exact ⟨n, _, hn⟩

/-- a slice that was read: its view, and each of its elements was read -/
theorem Rd.slice {t e : TypeId} {v : Value} (ht : Trym.prog.underlying t = some (.slice e)) (hc : Trym.prog.cellsOf e = 1) (h : Rd enc w t v) :
    ∃ (s : Option Addr × Nat × Nat) (V : Nat → Value), v = .slice s.1 s.2.1 s.2.2 ∧ Sl w 0 s.1 s.2.1 V ∧ ∀ i, i < s.2.1 → Rd enc w e (V i) := by
  obtain ⟨n, x, hx⟩ := h
  rcases open_slice1 ht hc hx with ⟨hcs, _⟩ | ⟨a, len, cap, m, k, V, D, Pl, hcs, _, hl, _, hm, _, hr⟩
  · simp only [List.cons.injEq, and_true] at hcs
    exact ⟨(none, 0, 0), fun _ => .bool true, hcs, ⟨0, 0, fun h => absurd h (Nat.lt_irrefl _), fun i hi => absurd hi (Nat.not_lt_zero _)⟩, fun i hi => absurd hi (Nat.not_lt_zero _)⟩
  · simp only [List.cons.injEq, and_true] at hcs
    simp only [if_true] at hm
    rw [hm] at hr
    refine ⟨(some a, len, cap), V, hcs, ?_, fun i hi => ⟨k, _, (hr i (Nat.lt_of_lt_of_le hi hl)).2⟩⟩
    obtain ⟨b, o, s⟩ := a
    rcases Nat.eq_zero_or_pos len with h0 | hp
    · subst h0
      exact ⟨0, 0, fun h => absurd h (Nat.lt_irrefl _), fun i hi => absurd hi (Nat.not_lt_zero _)⟩
    · have hs : s = none := by simpa [Addr.add] using World.cell?_spot (hr 0 (by omega)).1
      subst hs
      exact ⟨b, o, fun _ => ⟨rfl, Nat.zero_le _⟩, fun i hi => by rw [← add_plain]; exact (hr i (Nat.lt_of_lt_of_le hi hl)).1⟩

theorem Rd.i64 {v : Value} (h : Rd enc w 3 v) : ∃ z : Int, v = .int .i64 z := by
  obtain ⟨n, x, hx⟩ := h
  obtain ⟨z, hz, _⟩ := DataW.trod_int Trym.underlying3 hx
  exact ⟨z, by simpa using hz⟩
theorem Rd.i32 {v : Value} (h : Rd enc w 21 v) : ∃ z : Int, v = .int .i32 z := by
  obtain ⟨n, x, hx⟩ := h
  obtain ⟨z, hz, _⟩ := DataW.trod_int Trym.underlying21 hx
  exact ⟨z, by simpa using hz⟩
theorem Rd.bl {v : Value} (h : Rd enc w 4 v) : ∃ z : Bool, v = .bool z := by
  obtain ⟨n, x, hx⟩ := h
  obtain ⟨z, hz, _⟩ := DataW.trod_bool Trym.underlying4 hx
  exact ⟨z, by simpa using hz⟩

/-- a view, its values said otherwise -/
theorem slTurn {lo : Nat} {ao : Option Addr} {n : Nat} {f g : Nat → Value} (h : Sl w lo ao n f) (e : ∀ i, i < n → f i = g i) : Sl w lo ao n g := by
  obtain ⟨b, o, h1, h2⟩ := h
  exact ⟨b, o, h1, fun i hi => by rw [h2 i hi, e i hi]⟩

/-- a slice of leaves -/
theorem Rd.row {α : Type} [Inhabited α] {t e : TypeId} {v : Value} (g : α → Value) (ht : Trym.prog.underlying t = some (.slice e)) (hc : Trym.prog.cellsOf e = 1) (hl : ∀ v, Rd enc w e v → ∃ z, v = g z) (h : Rd enc w t v) :
    ∃ s : (Option Addr × Nat × Nat) × (Nat → α), v = .slice s.1.1 s.1.2.1 s.1.2.2 ∧ Sl w 0 s.1.1 s.1.2.1 (fun i => g (s.2 i)) := by
  obtain ⟨s, V, hv, hs, hr⟩ := h.slice ht hc
  obtain ⟨F, hF⟩ := choose_lt (p := fun i z => V i = g z) (fun i hi => hl _ (hr i hi))
  exact ⟨(s, F), hv, slTurn hs hF⟩

/-- .. of such slices -/
theorem Rd.rows {α : Type} [Inhabited α] {t u e : TypeId} {v : Value} (g : α → Value) (hu : Trym.prog.underlying u = some (.slice t)) (hcu : Trym.prog.cellsOf t = 1) (ht : Trym.prog.underlying t = some (.slice e)) (hc : Trym.prog.cellsOf e = 1) (hl : ∀ v, Rd enc w e v → ∃ z, v = g z) (h : Rd enc w u v) :
    ∃ s : (Option Addr × Nat × Nat) × (Nat → (Option Addr × Nat × Nat) × (Nat → α)), v = .slice s.1.1 s.1.2.1 s.1.2.2 ∧ Sl w 0 s.1.1 s.1.2.1 (fun i => .slice (s.2 i).1.1 (s.2 i).1.2.1 (s.2 i).1.2.2) ∧
      ∀ i, i < s.1.2.1 → Sl w 0 (s.2 i).1.1 (s.2 i).1.2.1 (fun j => g ((s.2 i).2 j)) := by
  obtain ⟨s, V, hv, hs, hr⟩ := h.slice hu hcu
  obtain ⟨F, hF⟩ := choose_lt (p := fun i (z : (Option Addr × Nat × Nat) × (Nat → α)) => V i = .slice z.1.1 z.1.2.1 z.1.2.2 ∧ Sl w 0 z.1.1 z.1.2.1 (fun j => g (z.2 j))) (fun i hi => (hr i hi).row g ht hc hl)
  exact ⟨(s, F), hv, slTurn hs (fun i hi => (hF i hi).1), fun i hi => (hF i hi).2⟩

/-- .. and of those -/
theorem Rd.rowss {α : Type} [Inhabited α] {t u r e : TypeId} {v : Value} (g : α → Value) (hr0 : Trym.prog.underlying r = some (.slice u)) (hcr : Trym.prog.cellsOf u = 1) (hu : Trym.prog.underlying u = some (.slice t)) (hcu : Trym.prog.cellsOf t = 1) (ht : Trym.prog.underlying t = some (.slice e)) (hc : Trym.prog.cellsOf e = 1) (hl : ∀ v, Rd enc w e v → ∃ z, v = g z) (h : Rd enc w r v) :
    ∃ s : (Option Addr × Nat × Nat) × (Nat → (Option Addr × Nat × Nat) × (Nat → (Option Addr × Nat × Nat) × (Nat → α))), v = .slice s.1.1 s.1.2.1 s.1.2.2 ∧ Sl w 0 s.1.1 s.1.2.1 (fun i => .slice (s.2 i).1.1 (s.2 i).1.2.1 (s.2 i).1.2.2) ∧
      (∀ i, i < s.1.2.1 → Sl w 0 (s.2 i).1.1 (s.2 i).1.2.1 (fun j => .slice ((s.2 i).2 j).1.1 ((s.2 i).2 j).1.2.1 ((s.2 i).2 j).1.2.2)) ∧
      ∀ i, i < s.1.2.1 → ∀ j, j < (s.2 i).1.2.1 → Sl w 0 ((s.2 i).2 j).1.1 ((s.2 i).2 j).1.2.1 (fun k => g (((s.2 i).2 j).2 k)) := by
  obtain ⟨s, V, hv, hs, hr⟩ := h.slice hr0 hcr
  obtain ⟨F, hF⟩ := choose_lt (p := fun i (z : (Option Addr × Nat × Nat) × (Nat → (Option Addr × Nat × Nat) × (Nat → α))) => V i = .slice z.1.1 z.1.2.1 z.1.2.2 ∧ Sl w 0 z.1.1 z.1.2.1 (fun j => .slice (z.2 j).1.1 (z.2 j).1.2.1 (z.2 j).1.2.2) ∧ ∀ j, j < z.1.2.1 → Sl w 0 (z.2 j).1.1 (z.2 j).1.2.1 (fun k => g ((z.2 j).2 k)))
    (fun i hi => (hr i hi).rows g hu hcu ht hc hl)
  exact ⟨(s, F), hv, slTurn hs (fun i hi => (hF i hi).1), fun i hi => (hF i hi).2.1, fun i hi => (hF i hi).2.2⟩
end

set_option maxHeartbeats 1600000 in
set_option maxRecDepth 100000 in
theorem lifted (os : Os) (started : os.Started) (H : Type) (enc : TypeId × Value → H) :
    ReturnsInHanded {} Trym.checked os 4 .any (Rows.fnChainsAreFewestMovePathsSpec.pre6 enc Trym.prog Trym.f4 Rows.fnChainsAreFewestMovePathsRow.domain false) (Rows.fnChainsAreFewestMovePathsSpec.post enc Trym.prog Trym.f4 false true false false) := by
  refine returnsInHanded_of_change (C := Trym.checked) own started (by kernel_rfl) Trym.func4
    (ChangeSpec.witness6 (enc := enc) (C := Trym.checked) false ⟨#[], #[.slice none 0 0, .slice none 0 0, .slice none 0 0, .slice none 0 0, .slice none 0 0, .int .i64 0], []⟩ 8 (by kernel_rfl) (by kernel_rfl) (by kernel_rfl) (by kernel_rfl)) ?_
  intro W base args ds gs before hval0 hW hcnd _
  have hval : ∀ (j : Nat) t v, Trym.f4.params[j]? = some t → args[j]? = some v → Value.okWide Trym.prog W .any base t v := hval0
  have hW' := hW
  obtain ⟨p, q, hA0, hV, rfl, hfz, hnd⟩ := hW
  have hA : DataW.TrodAll enc Trym.prog W 0 (fun _ => true) true Trym.f4.params.toList args.toList ds p := hA0
  rw [Trym.params4] at hA hval
  obtain ⟨v0, vs0, d0, ds0, p0, q0, hargs, rfl, rfl, h0, r0⟩ := trodAll_cons hA
  obtain ⟨v1, vs1, d1, ds1, p1, q1, rfl, rfl, rfl, h1, r1⟩ := trodAll_cons r0
  obtain ⟨v2, vs2, d2, ds2, p2, q2, rfl, rfl, rfl, h2, r2⟩ := trodAll_cons r1
  obtain ⟨v3, vs3, d3, ds3, p3, q3, rfl, rfl, rfl, h3, r3⟩ := trodAll_cons r2
  obtain ⟨v4, vs4, d4, ds4, p4, q4, rfl, rfl, rfl, h4, r4⟩ := trodAll_cons r3
  obtain ⟨v5, vs5, d5, ds5, p5, q5, rfl, rfl, rfl, h5, r5⟩ := trodAll_cons r4
  obtain ⟨rfl, rfl, rfl⟩ := trodAll_nil r5
  obtain rfl : args = #[v0, v1, v2, v3, v4, v5] := by cases args; simp_all
  obtain ⟨rfl, rfl⟩ := trodVars_none hV
  have c0 : v0.cells.toList = [v0] := by
    obtain ⟨_, _, _, rfl⟩ := okWide_slice Trym.underlying22 (hval 0 22 v0 rfl rfl)
    rfl
  have c1 : v1.cells.toList = [v1] := by
    obtain ⟨_, _, _, rfl⟩ := okWide_slice Trym.underlying33 (hval 1 33 v1 rfl rfl)
    rfl
  have c2 : v2.cells.toList = [v2] := by
    obtain ⟨_, _, _, rfl⟩ := okWide_slice Trym.underlying33 (hval 2 33 v2 rfl rfl)
    rfl
  have c3 : v3.cells.toList = [v3] := by
    obtain ⟨_, _, _, rfl⟩ := okWide_slice Trym.underlying24 (hval 3 24 v3 rfl rfl)
    rfl
  have c4 : v4.cells.toList = [v4] := by
    obtain ⟨_, _, _, rfl⟩ := okWide_slice Trym.underlying30 (hval 4 30 v4 rfl rfl)
    rfl
  have c5 : v5.cells.toList = [v5] := by
    obtain ⟨_, rfl, _⟩ := open_int Trym.underlying3 (hval 5 3 v5 rfl rfl) h5
    rfl
  clear hA0 hval0 hA hval hcnd hfz hnd r0 r1 r2 r3 r4 r5 hargs hV
  obtain ⟨⟨⟨ea, nc, ec⟩, EF⟩, rfl, e1, e2⟩ := (Rd.of c0 h0).rows (fun z : Int => Value.int .i64 z) Trym.underlying22 cells24 Trym.underlying24 cells3 (fun _ h => h.i64)
  obtain ⟨⟨⟨ka, nk, kc⟩, KF⟩, rfl, k1, k2, k3⟩ := (Rd.of c1 h1).rowss (fun z : Int => Value.int .i32 z) Trym.underlying33 cells35 Trym.underlying35 cells36 Trym.underlying36 cells21 (fun _ h => h.i32)
  obtain ⟨⟨⟨aa, na, ac⟩, AF⟩, rfl, a1, a2, a3⟩ := (Rd.of c2 h2).rowss (fun z : Int => Value.int .i32 z) Trym.underlying33 cells35 Trym.underlying35 cells36 Trym.underlying36 cells21 (fun _ h => h.i32)
  obtain ⟨⟨⟨la, nl, lc⟩, ld⟩, rfl, hL⟩ := (Rd.of c3 h3).row (fun z : Int => Value.int .i64 z) Trym.underlying24 cells3 (fun _ h => h.i64)
  obtain ⟨⟨⟨ba, nb, bc⟩, act⟩, rfl, hB⟩ := (Rd.of c4 h4).row (fun z : Bool => Value.bool z) Trym.underlying30 cells4 (fun _ h => h.bl)
  obtain ⟨most, rfl⟩ := (Rd.of c5 h5).i64
  have hlt : ∀ x, x ∈ p0 ++ (p1 ++ (p2 ++ (p3 ++ (p4 ++ (p5 ++ []))))) → x.block < W.heap.size := fun x hx => hW'.lt x (by simpa using hx)
  have L := law_any ea ka aa la ba nc nk na nl nb ec kc ac lc bc (fun i => (EF i).1.1) (fun i => (KF i).1.1) (fun i => (AF i).1.1) (fun i => (EF i).1.2.2) (fun i => (KF i).1.2.2) (fun i => (AF i).1.2.2) (fun i => (EF i).1.2.1) (fun i => (KF i).1.2.1) (fun i => (AF i).1.2.1)
    (fun i j => ((KF i).2 j).1.1) (fun i j => ((AF i).2 j).1.1) (fun i j => ((KF i).2 j).1.2.1) (fun i j => ((KF i).2 j).1.2.2) (fun i j => ((AF i).2 j).1.2.1) (fun i j => ((AF i).2 j).1.2.2)
    (fun i k => (EF i).2 k) (fun i j t => ((KF i).2 j).2 t) (fun i j t => ((AF i).2 j).2 t) act ld most W e1 e2 k1 k2 k3 a1 a2 a3 hL hB
  refine L.mono fun e W' ⟨he, hs⟩ => ?_
  subst he
  have S0 := WideElems.Trod_stays (sp' := fun x => decide (x < W.heap.size)) laidOut (by kernel_rfl) (of_decide_eq_true (by kernel_rfl)) h0 (fun x hx => hs.sameAt (hlt x (by simp [hx]))) (fun x hx => by simpa using hlt x (by simp [hx]))
  have S1 := WideElems.Trod_stays (sp' := fun x => decide (x < W.heap.size)) laidOut (by kernel_rfl) (of_decide_eq_true (by kernel_rfl)) h1 (fun x hx => hs.sameAt (hlt x (by simp [hx]))) (fun x hx => by simpa using hlt x (by simp [hx]))
  have S2 := WideElems.Trod_stays (sp' := fun x => decide (x < W.heap.size)) laidOut (by kernel_rfl) (of_decide_eq_true (by kernel_rfl)) h2 (fun x hx => hs.sameAt (hlt x (by simp [hx]))) (fun x hx => by simpa using hlt x (by simp [hx]))
  have S3 := WideElems.Trod_stays (sp' := fun x => decide (x < W.heap.size)) laidOut (by kernel_rfl) (of_decide_eq_true (by kernel_rfl)) h3 (fun x hx => hs.sameAt (hlt x (by simp [hx]))) (fun x hx => by simpa using hlt x (by simp [hx]))
  have S4 := WideElems.Trod_stays (sp' := fun x => decide (x < W.heap.size)) laidOut (by kernel_rfl) (of_decide_eq_true (by kernel_rfl)) h4 (fun x hx => hs.sameAt (hlt x (by simp [hx]))) (fun x hx => by simpa using hlt x (by simp [hx]))
  have S5 := WideElems.Trod_stays (sp' := fun x => decide (x < W.heap.size)) laidOut (by kernel_rfl) (of_decide_eq_true (by kernel_rfl)) h5 (fun x hx => hs.sameAt (hlt x (by simp [hx]))) (fun x hx => by simpa using hlt x (by simp [hx]))
  exact ⟨_, rfl, _, _, _, [], p0 ++ (p1 ++ (p2 ++ (p3 ++ (p4 ++ (p5 ++ []))))), [], hW', trodAll_cons_mk (shut_bool Trym.underlying4 _) trodAll_mk0,
    trodAll_cons_mk S0 (trodAll_cons_mk S1 (trodAll_cons_mk S2 (trodAll_cons_mk S3 (trodAll_cons_mk S4 (trodAll_cons_mk S5 trodAll_mk0))))), rfl, hs.frame _, fun h => by cases h⟩

theorem over : Rows.fnChainsAreFewestMovePathsRow.holds Trym.pinned (OpenSpec.ofChange Rows.fnChainsAreFewestMovePathsSpec) :=
  OpenClaim.holds_of_wide 4 Trym.f4 rfl rfl rfl rfl rfl rfl rfl ⟨rfl, rfl, rfl, rfl, rfl⟩ rfl rfl rfl rfl rfl (by kernel_rfl) Trym.func4 (by kernel_rfl)
    (of_decide_eq_true (by kernel_rfl)) (by unfold Func.isWrapper; first | (rw [if_pos (by decide +kernel)]; kernel_rfl) | (rw [if_neg (by decide +kernel)]; exact ⟨rfl, rfl⟩))
    (fun os started H enc _ => lifted os started H enc)
end Go.Proofs.Qxb6003132aMods.chains

namespace Go.Proofs.Qxb6003132aMods
/-- THE STATEMENT -/
theorem chainsProved : Rows.FnChainsAreFewestMovePathsSaid := chains.over
end Go.Proofs.Qxb6003132aMods
