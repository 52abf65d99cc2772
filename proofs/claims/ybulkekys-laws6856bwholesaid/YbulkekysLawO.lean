import Derived.WalkKit
import Derived.ProofKit
import Derived.OpenShut
import Derived.ShutString
import Derived.ChangeOld
import Derived.Below
import Derived.SizedLaws
import Derived.Deep.Slices
import Derived.Deep.Matrix
import Derived.Deep.Grids
import Derived.Test.YbulkekysLawB
namespace Go.Proofs.Ybulkekys
open Go.ChangeShapes Go.WideShapes Go.ChangeAt Go.RowKit

theorem add_at {w : World} {x : Addr} {v0 : Value} (h0 : w.cell? (x.add 0) = some v0) : ∃ b off, x = ⟨b, off, none⟩ := by
  obtain ⟨b, off, spot⟩ := x
  have hspot : spot = none := by simpa [Addr.add] using World.cell?_spot h0
  subst hspot
  exact ⟨b, off, rfl⟩
theorem wf_le {k : IntKind} {m : Nat} (hk : ∀ z, (Lit.int k z).wf = true → 0 ≤ z ∧ z ≤ (m : Int)) {zs : List Int} (hw : ∀ n ∈ zs, (Lit.int k n).wf = true) (i : Nat) : 0 ≤ zs.getD i 0 ∧ zs.getD i 0 ≤ (m : Int) := by
  by_cases h : i < zs.length
  · have hmem : zs.getD i 0 ∈ zs := by
      rw [List.getD_eq_getElem?_getD, List.getElem?_eq_getElem h]
      exact List.getElem_mem _
    exact hk _ (hw _ hmem)
  · rw [List.getD_eq_getElem?_getD, List.getElem?_eq_none (by omega)]
    exact ⟨by simp, by simp⟩
theorem k_u16 : ∀ z, (Lit.int .u16 z).wf = true → 0 ≤ z ∧ z ≤ ((65535 : Nat) : Int) := fun z h => by have := bounds_u16 h; omega
theorem k_u8 : ∀ z, (Lit.int .u8 z).wf = true → 0 ≤ z ∧ z ≤ ((255 : Nat) : Int) := fun z h => by have := bounds_u8 h; omega

section
variable {H : Type} {enc : TypeId × Value → H} {W : World}
theorem open_nums {t e : TypeId} {k : IntKind} {m : Nat} (ht : Yba.prog.underlying t = some (.slice e)) (he : Yba.prog.underlying e = some (.int k)) (hc : Yba.prog.cellsOf e = 1) (hk : ∀ z, (Lit.int k z).wf = true → 0 ≤ z ∧ z ≤ (m : Int))
    {a : Option Addr} {len cap : Nat} {d : DataW H} {p : List MemPlace} (h : DataW.Trod enc Yba.prog W 0 (fun _ => true) true t (.slice a len cap) d p) :
    len ≤ maxLen ∧ ∃ f : Nat → Nat, (∀ i, f i ≤ m) ∧ RdN W k a len f := by
  obtain ⟨fuel, hf⟩ := h
  rcases open_ints ht he hc hf with ⟨hcs, _⟩ | ⟨x, l, c, zs, hcs, _, hl, hm, hz, _, hcell, hwz⟩
  · simp [Value.cells] at hcs
    obtain ⟨rfl, rfl, rfl⟩ := hcs
    exact ⟨by simp [maxLen], fun _ => 0, fun _ => Nat.zero_le _, fun k hk => absurd hk (by omega)⟩
  · simp [Value.cells] at hcs
    obtain ⟨rfl, rfl, rfl⟩ := hcs
    have hz' : zs.length = cap := by simpa using hz
    refine ⟨by omega, fun i => (zs.getD i 0).toNat, fun i => ?_, fun i hi => ?_⟩
    · have := wf_le hk hwz i
      show (zs.getD i 0).toNat ≤ m
      omega
    · obtain ⟨b, off, rfl⟩ := add_at (hcell 0 (by omega))
      have hc := hcell i (by omega)
      rw [Addr.add_lit] at hc
      refine ⟨b, off, rfl, World.block_lt_of_cell? _ _ hc, ?_⟩
      rw [hc, Int.toNat_of_nonneg (wf_le hk hwz i).1]
theorem open_bls {t e : TypeId} (ht : Yba.prog.underlying t = some (.slice e)) (he : Yba.prog.underlying e = some .bool) (hc : Yba.prog.cellsOf e = 1)
    {a : Option Addr} {len cap : Nat} {d : DataW H} {p : List MemPlace} (h : DataW.Trod enc Yba.prog W 0 (fun _ => true) true t (.slice a len cap) d p) :
    ∃ f : Nat → Bool, RdB W a len f := by
  obtain ⟨fuel, hf⟩ := h
  rcases Deep.open_bools ht he hc hf with ⟨hcs, _⟩ | ⟨x, l, c, B, hcs, _, hl, hm, _, hcell⟩
  · simp [Value.cells] at hcs
    obtain ⟨rfl, rfl, rfl⟩ := hcs
    exact ⟨fun _ => false, fun k hk => absurd hk (by omega)⟩
  · simp [Value.cells] at hcs
    obtain ⟨rfl, rfl, rfl⟩ := hcs
    refine ⟨B, fun i hi => ?_⟩
    obtain ⟨b, off, rfl⟩ := add_at (hcell 0 (by omega))
    have hc := hcell i (by omega)
    rw [Addr.add_lit] at hc
    exact ⟨b, off, rfl, World.block_lt_of_cell? _ _ hc, hc⟩
theorem weightsAll_mem {P : Program} {e : TypeId} {d : DataW H} {n : Nat} (hn : n ∈ d.weights P e) : ∀ {ds : List (DataW H)}, d ∈ ds → n ∈ DataW.weightsAll P e ds
  | [], h => by cases h
  | d0 :: ds, h => by
    rw [DataW.weightsAll, List.mem_append]
    rcases List.mem_cons.1 h with h | h
    · subst h; exact .inl hn
    · exact .inr (weightsAll_mem hn h)
theorem open_rows {t e q : TypeId} (ht : Yba.prog.underlying t = some (.slice e)) (he : Yba.prog.underlying e = some (.slice q)) (hq : Yba.prog.underlying q = some (.int .u16)) (ce : Yba.prog.cellsOf e = 1) (cq : Yba.prog.cellsOf q = 1) (bq : Yba.prog.bytesOf q = 2)
    {a : Option Addr} {len cap : Nat} {d : DataW H} {p : List MemPlace} (h : DataW.Trod enc Yba.prog W 0 (fun _ => true) true t (.slice a len cap) d p) (hw : ∀ n ∈ d.weights Yba.prog t, n ≤ reachBytes) :
    len ≤ maxLen ∧ ∃ (A : Nat → Option Addr) (L C : Nat → Nat) (f : Nat → Nat → Nat), (∀ i, L i ≤ 140737488355328) ∧ (∀ i k, f i k ≤ 65535) ∧ RdR W a len A L C f := by
  obtain ⟨fuel, hf⟩ := h
  rcases Deep.open_int_rows ht he hq ce cq hf with ⟨hcs, _⟩ | ⟨x, l, c, A, L, C, Z, hcs, _, hl, hm, hx, hcell⟩
  · simp [Value.cells] at hcs
    obtain ⟨rfl, rfl, rfl⟩ := hcs
    exact ⟨by simp [maxLen], fun _ => none, fun _ => 0, fun _ => 0, fun _ _ => 0, fun _ => Nat.zero_le _, fun _ _ => Nat.zero_le _, fun k hk => absurd hk (by omega)⟩
  · simp [Value.cells] at hcs
    obtain ⟨rfl, rfl, rfl⟩ := hcs
    simp only [Prod.mk.injEq] at hx
    have hC : ∀ r, r < len → L r ≤ 140737488355328 := fun r hr => by
      obtain ⟨_, h1, _, h3, _, h5, _⟩ := hcell r (by omega)
      cases hA : A r with
      | none => have := h5 hA; omega
      | some a' =>
        have hmem : (Deep.intRow .u16 (A r) (L r) (Z r) : DataW H) ∈ (List.range len).map fun r => Deep.intRow .u16 (A r) (L r) (Z r) := List.mem_map.2 ⟨r, List.mem_range.2 hr, rfl⟩
        have hn : C r * 2 ∈ (Deep.intRow .u16 (A r) (L r) (Z r) : DataW H).weights Yba.prog e := by
          rw [hA]
          unfold Deep.intRow
          simp only [DataW.weights, he, bq, List.mem_cons]
          refine .inl ?_
          simp only [lits, List.length_map, List.length_take, List.length_drop]
          omega
        have := hw (C r * 2) (by
          rw [hx.1]
          simp only [DataW.weights, ht, List.mem_cons, List.mem_append]
          exact .inr (.inl (weightsAll_mem hn hmem)))
        simp only [reachBytes] at this
        omega
    refine ⟨by omega, A, fun i => if i < len then L i else 0, C, fun i k => if i < len then ((Z i).getD k 0).toNat else 0, fun i => ?_, fun i k => ?_, fun i hi => ?_⟩
    · by_cases h : i < len
      · simp only [h, if_true]; exact hC i h
      · simp [h]
    · by_cases h : i < len
      · simp only [h, if_true]
        have := wf_le k_u16 (hcell i (by omega)).2.2.2.2.1 k
        omega
      · simp [h]
    · obtain ⟨b, off, rfl⟩ := add_at (hcell 0 (by omega)).1
      obtain ⟨h0, h1, h2, h3, h4, h5, h6⟩ := hcell i (by omega)
      rw [Addr.add_lit] at h0
      simp only [hi, if_true]
      refine ⟨b, off, rfl, World.block_lt_of_cell? _ _ h0, h0, fun k hk => ?_⟩
      cases hA : A i with
      | none => have := h5 hA; omega
      | some a' =>
        obtain ⟨_, hc⟩ := h6 a' hA
        obtain ⟨b2, off2, rfl⟩ := add_at (hc 0 (by omega))
        have hc2 := hc k (by omega)
        rw [Addr.add_lit] at hc2
        refine ⟨b2, off2, rfl, World.block_lt_of_cell? _ _ hc2, ?_⟩
        rw [hc2, Int.toNat_of_nonneg (wf_le k_u16 h4 k).1]
end

set_option maxHeartbeats 8000000 in
set_option maxRecDepth 1000000 in
theorem lawB_any (W : World) (x0 : Option Addr) (l0 : Nat) (c0 : Nat) (x1 : Option Addr) (l1 : Nat) (c1 : Nat) (x2 : Option Addr) (l2 : Nat) (c2 : Nat) (x3 : Option Addr) (l3 : Nat) (c3 : Nat) (x4 : Option Addr) (l4 : Nat) (c4 : Nat) (x5 : Option Addr) (l5 : Nat) (c5 : Nat) (mq : Nat) (A : Nat → Option Addr) (L C : Nat → Nat) (f : Nat → Nat → Nat) (mk en lk : Nat → Bool) (ir fv : Nat → Nat)
    (hm0 : l0 ≤ maxLen) (hm5 : l5 ≤ maxLen) (hmq : mq ≤ 65535) (hL : ∀ i, L i ≤ 140737488355328) (hf : ∀ i k, f i k ≤ 65535) (hir : ∀ i, ir i ≤ 255) (hfv : ∀ i, fv i ≤ 65535)
    (rd0 : RdR W x0 l0 A L C f) (rd1 : RdB W x1 l1 mk) (rd2 : RdB W x2 l2 en) (rd3 : RdB W x3 l3 lk) (rd4 : RdN W .u8 x4 l4 ir) (rd5 : RdN W .u16 x5 l5 fv) :
    Calls Yba.prog 4 #[.slice x0 l0 c0, .slice x1 l1 c1, .slice x2 l2 c2, .slice x3 l3 c3, .slice x4 l4 c4, .slice x5 l5 c5, .int .u16 (mq : Int)] W (LPost W.heap.size W) := by
  have HB : Hid _ := law_body W x0 l0 c0 x1 l1 c1 x2 l2 c2 x3 l3 c3 x4 l4 c4 x5 l5 c5 mq A L C f mk en lk ir fv hm0 hm5 hmq hL hf hir hfv rd0 rd1 rd2 rd3 rd4 rd5
  clear rd0 rd1 rd2 rd3 rd4 rd5
  go_enter Yba.func4, Yba.ntmps4
  exact HB.out _ ⟨rfl, rfl, rfl, rfl, rfl, rfl, rfl, rfl, rfl⟩
end Go.Proofs.Ybulkekys
