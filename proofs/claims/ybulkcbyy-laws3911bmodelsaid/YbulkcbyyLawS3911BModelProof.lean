/- The proof of 'Rows.LawS3911BModelSaid'. The frame is the kit's own frame for laws over slices, turned to a slice of structs of two fields. -/
import Derived.Test.YbulkcbyyRows
import Derived.Test.YbulkcbyyWalkB4
import Derived.WalkKit
import Derived.ProofKit
import Derived.OpenShut
import Derived.ShutString
import Derived.ChangeOld
import Derived.Below
import Derived.Deep.SlicePairs
namespace Go.Proofs.Ybulkcbyy.lawS3911BModel
open Go.ChangeShapes Go.WideShapes Go.ChangeAt Go.RowKit Go.Deep
set_option linter.unusedVariables false

theorem own : ownKnob Yba.prog.godebug = none := by kernel_rfl
theorem laidOut : laidOutB Yba.prog = true := by kernel_rfl
theorem cells28 : Yba.prog.cellsOf 28 = 2 := by kernel_rfl
theorem cells26 : Yba.prog.cellsOf 26 = 1 := by kernel_rfl
theorem cells4 : Yba.prog.cellsOf 4 = 1 := by kernel_rfl

/-- what the walk is told of the segments: no element, or a row of pairs (a gap, a flag) -/
def IsPairs (w : World) (a : Option Addr) (len : Nat) : Prop :=
  len = 0 ∨ ∃ x, a = some x ∧ ∀ i, i < len → ∃ g v, w.cell? (x.add (i * 2)) = some (.int .u16 g) ∧ (Lit.int .u16 g).wf = true ∧ w.cell? (x.add (i * 2 + 1)) = some (.bool v)

theorem walk (a0 : Int) (a1 : Option Addr) (len1 cap1 : Nat) (a2 a3 a4 : Int) (w : World) (w0 : (Lit.int .i32 a0).wf = true) (w1 : IsPairs w a1 len1) (w2 : (Lit.int .i64 a2).wf = true) (w3 : (Lit.int .u8 a3).wf = true) (w4 : (Lit.int .i16 a4).wf = true) :
    Calls Yba.prog 3 #[.int .i32 a0, .slice a1 len1 cap1, .int .i64 a2, .int .u8 a3, .int .i16 a4] w fun e w' => e = .returned (.bool true) ∧ Below w.heap.size w w' := by
  have b0 := bounds_i32 w0
  have b2 := bounds_i64 w2
  have b3 := bounds_u8 w3
  have b4 := bounds_i16 w4
  by_cases hbig : 1024 < len1
  · exact lawB_big a0 a1 len1 cap1 a2 a3 a4 w hbig
  · by_cases h0 : len1 = 0
    · exact lawB_empty a0 a1 len1 cap1 a2 a3 a4 w (by omega) b0.1 b0.2 b2.1 b2.2
    · rcases w1 with h | ⟨x, rfl, hx⟩
      · exact absurd h h0
      · obtain ⟨G, hG⟩ := choose_lt hx
        obtain ⟨V, hV⟩ := choose_lt hG
        obtain ⟨b, off, spot⟩ := x
        have hspot : spot = none := by
          have := (hV 0 (by omega)).1
          simpa [Addr.add] using World.cell?_spot this
        subst hspot
        have hc0 : ∀ i, i < len1 → w.cell? ⟨b, off + i * 2, none⟩ = some (.int .u16 (G i)) := fun i hi => by
          have := (hV i hi).1; rwa [add_plain] at this
        have hc1 : ∀ i, i < len1 → w.cell? ⟨b, off + i * 2 + 1, none⟩ = some (.bool (V i)) := fun i hi => by
          have := (hV i hi).2.2; rwa [add_plain, ← Nat.add_assoc] at this
        have hlt : b < w.heap.size := block_lt_of_cell (hc0 0 (by omega))
        exact lawB_walk a0 b off len1 cap1 G V a2 a3 a4 w (by omega) b0.1 b0.2 b2.1 b2.2 b3.1 b3.2 b4.1 b4.2 (fun i hi => bounds_u16 (hV i hi).2.1) hc0 hc1 (fun _ => hlt)

set_option maxRecDepth 100000 in
theorem lifted (os : Os) (started : os.Started) (H : Type) (enc : TypeId × Value → H) :
    ReturnsInHanded {} Yba.checked os 3 .any (Rows.lawS3911BModelSpec.pre6 enc Yba.prog Yba.f3 Rows.lawS3911BModelRow.domain false) (Rows.lawS3911BModelSpec.post enc Yba.prog Yba.f3 false true false false) := by
  refine returnsInHanded_of_change (C := Yba.checked) own started (by kernel_rfl) Yba.func3
    (ChangeSpec.witness6 (enc := enc) (C := Yba.checked) false ⟨#[], #[.int .i32 0, .slice none 0 0, .int .i64 0, .int .u8 0, .int .i16 0], []⟩ 8 (by kernel_rfl) (by kernel_rfl) (by kernel_rfl) (by kernel_rfl)) ?_
  intro W base args ds gs before hval0 hW hcnd _
  have hval : ∀ (j : Nat) t v, Yba.f3.params[j]? = some t → args[j]? = some v → Value.okWide Yba.prog W .any base t v := hval0
  have hW' := hW
  obtain ⟨p, q, hA0, hV, rfl, hfz, hnd⟩ := hW
  have hA : DataW.TrodAll enc Yba.prog W 0 (fun _ => true) true Yba.f3.params.toList args.toList ds p := hA0
  rw [Yba.params3] at hA hval
  obtain ⟨v0, vs0, d0, ds0, p0, q0, hargs, rfl, rfl, h0, r0⟩ := trodAll_cons hA
  obtain ⟨v1, vs1, d1, ds1, p1, q1, rfl, rfl, rfl, h1, r1⟩ := trodAll_cons r0
  obtain ⟨v2, vs2, d2, ds2, p2, q2, rfl, rfl, rfl, h2, r2⟩ := trodAll_cons r1
  obtain ⟨v3, vs3, d3, ds3, p3, q3, rfl, rfl, rfl, h3, r3⟩ := trodAll_cons r2
  obtain ⟨v4, vs4, d4, ds4, p4, q4, rfl, rfl, rfl, h4, r4⟩ := trodAll_cons r3
  obtain ⟨rfl, rfl, rfl⟩ := trodAll_nil r4
  obtain rfl : args = #[v0, v1, v2, v3, v4] := by cases args; simp_all
  obtain ⟨rfl, rfl⟩ := trodVars_none hV
  obtain ⟨a0, rfl, rfl, rfl, w0⟩ := open_int Yba.underlying21 (hval 0 21 v0 rfl rfl) h0
  obtain ⟨a1, len1, cap1, rfl⟩ := okWide_slice Yba.underlying22 (hval 1 22 v1 rfl rfl)
  have k1 := h1
  have lt1 : ∀ x ∈ p1, x.block < W.heap.size := by obtain ⟨m, hm⟩ := k1; exact DataW.trod_lt m _ _ _ hm
  have w1 : IsPairs W a1 len1 := by
    obtain ⟨fuel, hf⟩ := h1
    rcases open_slice_pairs Yba.underlying22 Yba.underlying28 cells28 rfl rfl cells26 cells4 hf with ⟨hcs, _⟩ | ⟨x, l, c, m, k, V0, V1, D0, D1, P0, P1, hcs, _, hl, hm, hmm, _, hx⟩
    · simp [Value.cells] at hcs
      obtain ⟨rfl, rfl, rfl⟩ := hcs
      exact .inl rfl
    · simp [Value.cells] at hcs
      obtain ⟨rfl, rfl, rfl⟩ := hcs
      refine .inr ⟨x, rfl, fun i hi => ?_⟩
      obtain ⟨e0, e1, e2, e3⟩ := hx i (by rw [hmm]; simp; omega)
      obtain ⟨g, hg, _, hw⟩ := DataW.trod_int Yba.underlying26 e2
      obtain ⟨v, hv, _⟩ := DataW.trod_bool Yba.underlying4 e3
      simp at hg hv
      exact ⟨g, v, by rw [e0, hg], hw, by rw [e1, hv]⟩
  obtain ⟨a2, rfl, rfl, rfl, w2⟩ := open_int Yba.underlying2 (hval 2 2 v2 rfl rfl) h2
  obtain ⟨a3, rfl, rfl, rfl, w3⟩ := open_int Yba.underlying5 (hval 3 5 v3 rfl rfl) h3
  obtain ⟨a4, rfl, rfl, rfl, w4⟩ := open_int Yba.underlying23 (hval 4 23 v4 rfl rfl) h4
  clear hA0 hval0
  refine (walk a0 a1 len1 cap1 a2 a3 a4 W w0 w1 w2 w3 w4).mono fun e W' ⟨he, bel⟩ => ?_
  subst he
  exact ⟨_, rfl, _, _, _, [], _, [], hW', trodAll_mk1 (shut_bool Yba.underlying4 _), (trodAll_cons_mk (shut_int Yba.underlying21 w0) (trodAll_cons_mk (Below.trod laidOut (by kernel_rfl) (of_decide_eq_true (by kernel_rfl)) k1 bel lt1) (trodAll_cons_mk (shut_int Yba.underlying2 w2) (trodAll_cons_mk (shut_int Yba.underlying5 w3) (trodAll_cons_mk (shut_int Yba.underlying23 w4) trodAll_mk0))))), rfl, bel.frame _, fun h => by cases h⟩

theorem over : Rows.lawS3911BModelRow.holds Yba.pinned (OpenSpec.ofChange Rows.lawS3911BModelSpec) :=
  OpenClaim.holds_of_wide 3 Yba.f3 rfl rfl rfl rfl rfl rfl rfl ⟨rfl, rfl, rfl, rfl, rfl⟩ rfl rfl rfl rfl rfl (by kernel_rfl) Yba.func3 (by kernel_rfl)
    (of_decide_eq_true (by kernel_rfl)) (by unfold Func.isWrapper; first | (rw [if_pos (by decide +kernel)]; kernel_rfl) | (rw [if_neg (by decide +kernel)]; exact ⟨rfl, rfl⟩))
    (fun os started H enc _ => lifted os started H enc)

theorem proved : Rows.LawS3911BModelSaid := over
#print axioms proved
end Go.Proofs.Ybulkcbyy.lawS3911BModel
