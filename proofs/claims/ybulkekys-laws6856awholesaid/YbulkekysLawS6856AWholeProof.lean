import Derived.Test.YbulkekysRows
import Derived.WalkKit
import Derived.ProofKit
import Derived.OpenShut
import Derived.ShutString
import Derived.ChangeOld
import Derived.Below
import Derived.Deep.SlicePairs
import Derived.Test.YbulkekysLawA
namespace Go.Proofs.Ybulkekys.lawS6856AWhole
open Go.ChangeShapes Go.WideShapes Go.ChangeAt Go.RowKit
set_option linter.unusedVariables false

theorem own : ownKnob Yba.prog.godebug = none := by kernel_rfl
theorem laidOut : laidOutB Yba.prog = true := by kernel_rfl

set_option maxHeartbeats 400000 in
theorem law_big (nr : Int) (a : Option Addr) (len cap : Nat) (w : World) (hn : 1048576 < len) (_hm : len ≤ maxLen) :
    Calls Yba.prog 3 #[.int .u16 nr, .slice a len cap] w fun e w' => e = .returned (.bool true) ∧ Below w.heap.size w w' := by
  go_enter Yba.func3, Yba.ntmps3
  go_wp2
  go_ret
  exact ⟨rfl, Below.refl _ _⟩

set_option maxRecDepth 100000 in
theorem lifted (os : Os) (started : os.Started) (H : Type) (enc : TypeId × Value → H) :
    ReturnsInHanded {} Yba.checked os 3 .any (Rows.lawS6856AWholeSpec.pre6 enc Yba.prog Yba.f3 Rows.lawS6856AWholeRow.domain false) (Rows.lawS6856AWholeSpec.post enc Yba.prog Yba.f3 false true false false) := by
  refine returnsInHanded_of_change (C := Yba.checked) own started (by kernel_rfl) Yba.func3
    (ChangeSpec.witness6 (enc := enc) (C := Yba.checked) false ⟨#[], #[.int .u16 0, .slice none 0 0], []⟩ 8 (by kernel_rfl) (by kernel_rfl) (by kernel_rfl) (by kernel_rfl)) ?_
  intro W base args ds gs before hval0 hW hcnd _
  have hval : ∀ (j : Nat) t v, Yba.f3.params[j]? = some t → args[j]? = some v → Value.okWide Yba.prog W .any base t v := hval0
  have hW' := hW
  obtain ⟨p, q, hA0, hV, rfl, hfz, hnd⟩ := hW
  have hA : DataW.TrodAll enc Yba.prog W 0 (fun _ => true) true Yba.f3.params.toList args.toList ds p := hA0
  rw [Yba.params3] at hA hval
  obtain ⟨v0, vs0, d0, ds0, p0, q0, hargs, rfl, rfl, h0, r0⟩ := trodAll_cons hA
  obtain ⟨v1, vs1, d1, ds1, p1, q1, rfl, rfl, rfl, h1, r1⟩ := trodAll_cons r0
  obtain ⟨rfl, rfl, rfl⟩ := trodAll_nil r1
  obtain rfl : args = #[v0, v1] := by cases args; simp_all
  obtain ⟨rfl, rfl⟩ := trodVars_none hV
  obtain ⟨a0, rfl, rfl, rfl, w0⟩ := open_int Yba.underlying22 (hval 0 22 v0 rfl rfl) h0
  obtain ⟨a1, len1, cap1, rfl⟩ := okWide_slice Yba.underlying23 (hval 1 23 v1 rfl rfl)
  have k1 := h1
  have lt1 : ∀ x ∈ p1, x.block < W.heap.size := by obtain ⟨m, hm⟩ := k1; exact DataW.trod_lt m _ _ _ hm
  obtain ⟨hm1, w1⟩ : len1 ≤ maxLen ∧ EdgesAt W a1 len1 := by
    obtain ⟨fuel, hf⟩ := h1
    rcases Deep.open_slice_pairs Yba.underlying23 Yba.underlying26 (by kernel_rfl) rfl rfl (by kernel_rfl) (by kernel_rfl) hf with ⟨hcs, _⟩ | ⟨x, l, c, m, n, V0, V1, D0, D1, P0, P1, hcs, _, hl, hm, hmm, _, hcell⟩
    · simp [Value.cells] at hcs
      obtain ⟨rfl, rfl, rfl⟩ := hcs
      exact ⟨by simp [maxLen], fun k hk => absurd hk (by omega)⟩
    · simp [Value.cells] at hcs
      obtain ⟨rfl, rfl, rfl⟩ := hcs
      have hmc : m = cap1 := by simpa using hmm
      refine ⟨by omega, fun k hk => ?_⟩
      obtain ⟨e0, e1, t0, t1⟩ := hcell k (by omega)
      obtain ⟨b, off, spot⟩ := x
      have hspot : spot = none := by simpa [Addr.add] using World.cell?_spot (hcell 0 (by omega)).1
      subst hspot
      rw [Addr.add_lit] at e0 e1
      obtain ⟨z0, f0, _, wz0⟩ := DataW.trod_int Yba.underlying22 t0
      obtain ⟨z1, f1, _, wz1⟩ := DataW.trod_int Yba.underlying22 t1
      simp only [List.cons.injEq, and_true] at f0 f1
      rw [f0] at e0
      rw [f1] at e1
      have b0 := bounds_u16 wz0
      have b1 := bounds_u16 wz1
      obtain ⟨x0, rfl⟩ := Int.eq_ofNat_of_zero_le b0.1
      obtain ⟨x1, rfl⟩ := Int.eq_ofNat_of_zero_le b1.1
      exact ⟨b, off, rfl, World.block_lt_of_cell? _ _ e0, x0, x1, e0, by rw [Nat.add_assoc]; exact e1, by omega, by omega⟩
  clear hA0 hval0
  have hb0 := bounds_u16 w0
  obtain ⟨nr, rfl⟩ := Int.eq_ofNat_of_zero_le hb0.1
  have walk : Calls Yba.prog 3 #[.int .u16 (nr : Int), .slice a1 len1 cap1] W fun e w' => e = .returned (.bool true) ∧ Below W.heap.size W w' := by
    by_cases hbig : 1048576 < len1
    · exact law_big _ a1 len1 cap1 W hbig hm1
    · exact lawA_small nr a1 len1 cap1 W (by omega) (by omega) w1
  refine walk.mono fun e W' ⟨he, bel⟩ => ?_
  subst he
  exact ⟨_, rfl, _, _, _, [], _, [], hW', trodAll_mk1 (shut_bool Yba.underlying4 _), (trodAll_cons_mk (shut_int Yba.underlying22 w0) (trodAll_cons_mk (Below.trod laidOut (by kernel_rfl) (of_decide_eq_true (by kernel_rfl)) k1 bel lt1) trodAll_mk0)), rfl, bel.frame _, fun h => by cases h⟩

theorem over : Rows.lawS6856AWholeRow.holds Yba.pinned (OpenSpec.ofChange Rows.lawS6856AWholeSpec) :=
  OpenClaim.holds_of_wide 3 Yba.f3 rfl rfl rfl rfl rfl rfl rfl ⟨rfl, rfl, rfl, rfl, rfl⟩ rfl rfl rfl rfl rfl (by kernel_rfl) Yba.func3 (by kernel_rfl)
    (of_decide_eq_true (by kernel_rfl)) (by unfold Func.isWrapper; first | (rw [if_pos (by decide +kernel)]; kernel_rfl) | (rw [if_neg (by decide +kernel)]; exact ⟨rfl, rfl⟩))
    (fun os started H enc _ => lifted os started H enc)

/-- THE STATEMENT -/
theorem proved : Rows.LawS6856AWholeSaid := over
#print axioms proved
end Go.Proofs.Ybulkekys.lawS6856AWhole
