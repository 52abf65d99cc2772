namespace Go.Proofs.Ybulkekys

/-- Lists joined: b 0, b 1, .., b (h-1). -/
def flat {α : Type} (b : Nat → List α) : Nat → List α
  | 0 => []
  | h + 1 => flat b h ++ b h
/-- Row w of the matrix, its first k columns, as edges. -/
def rowTo (M : Nat → Nat → Bool) (w : Nat) : Nat → List (Nat × Nat)
  | 0 => []
  | h + 1 => rowTo M w h ++ (if M w h then [(w, h)] else [])
/-- Column h of the matrix, its first k rows: the waiters. -/
def colTo (M : Nat → Nat → Bool) (h : Nat) : Nat → List Nat
  | 0 => []
  | w + 1 => colTo M h w ++ (if M w h then [w] else [])
/-- All edges of the first w rows. -/
def ed (M : Nat → Nat → Bool) (n w : Nat) : List (Nat × Nat) := flat (fun x => rowTo M x n) w
/-- The waiters of h, in the edges' order. -/
def bk (E : List (Nat × Nat)) (h : Nat) : List Nat := (E.filter fun e => e.2 == h).map Prod.fst
/-- How many edges lead to a holder below h. -/
def tot (E : List (Nat × Nat)) : Nat → Nat
  | 0 => 0
  | h + 1 => tot E h + (bk E h).length

theorem bk_append (E F : List (Nat × Nat)) (h : Nat) : bk (E ++ F) h = bk E h ++ bk F h := by simp [bk]
theorem bk_nil (h : Nat) : bk [] h = [] := rfl
theorem bk_one (w x h : Nat) : bk [(w, x)] h = if x = h then [w] else [] := by
  unfold bk
  by_cases e : x = h
  · simp [e]
  · simp [e]
theorem bk_row (M : Nat → Nat → Bool) (w h : Nat) : ∀ k, bk (rowTo M w k) h = if h < k ∧ M w h = true then [w] else []
  | 0 => by simp [rowTo, bk]
  | k + 1 => by
    rw [rowTo, bk_append, bk_row M w h k]
    by_cases hm : M w k = true
    · rw [if_pos hm, bk_one]
      by_cases e : k = h
      · subst e; simp [hm]
      · by_cases hk : h < k
        · simp [e, hk, show h < k + 1 by omega]
        · simp [e, hk, show ¬ h < k + 1 by omega]
    · rw [if_neg hm, bk_nil]
      by_cases e : k = h
      · subst e; simp [hm]
      · by_cases hk : h < k
        · simp [hk, show h < k + 1 by omega]
        · simp [hk, show ¬ h < k + 1 by omega]
theorem bk_ed (M : Nat → Nat → Bool) (n h : Nat) (hh : h < n) : ∀ w, bk (ed M n w) h = colTo M h w
  | 0 => rfl
  | w + 1 => by
    show bk (flat (fun x => rowTo M x n) w ++ rowTo M w n) h = _
    rw [bk_append, bk_row, colTo]
    have ih := bk_ed M n h hh w
    unfold ed at ih
    rw [ih]
    simp [hh]
theorem rowTo_lt (M : Nat → Nat → Bool) (w : Nat) : ∀ k, ∀ e ∈ rowTo M w k, e.1 = w ∧ e.2 < k
  | 0, e, he => by simp [rowTo] at he
  | k + 1, e, he => by
    rw [rowTo, List.mem_append] at he
    rcases he with he | he
    · have := rowTo_lt M w k e he
      exact ⟨this.1, by omega⟩
    · split at he
      · simp at he; subst he; exact ⟨rfl, by simp⟩
      · simp at he
theorem ed_lt (M : Nat → Nat → Bool) (n : Nat) : ∀ w, ∀ e ∈ ed M n w, e.1 < w ∧ e.2 < n
  | 0, e, he => by simp [ed, flat] at he
  | w + 1, e, he => by
    have he' : e ∈ ed M n w ++ rowTo M w n := he
    rw [List.mem_append] at he'
    rcases he' with he' | he'
    · have := ed_lt M n w e he'
      exact ⟨by omega, this.2⟩
    · have := rowTo_lt M w n e he'
      exact ⟨by omega, this.2⟩
theorem rowTo_len (M : Nat → Nat → Bool) (w : Nat) : ∀ k, (rowTo M w k).length ≤ k
  | 0 => by simp [rowTo]
  | k + 1 => by
    have := rowTo_len M w k
    simp only [rowTo, List.length_append]
    split <;> simp <;> omega
theorem ed_len (M : Nat → Nat → Bool) (n : Nat) : ∀ w, (ed M n w).length ≤ w * n
  | 0 => by simp [ed, flat]
  | w + 1 => by
    have h1 := ed_len M n w
    have h2 := rowTo_len M w n
    have h3 : (ed M n (w + 1)).length = (ed M n w).length + (rowTo M w n).length := by
      show (flat (fun x => rowTo M x n) w ++ rowTo M w n).length = _
      rw [List.length_append]; rfl
    rw [h3, Nat.succ_mul]
    omega
theorem ed_succ (M : Nat → Nat → Bool) (n w : Nat) : ed M n (w + 1) = ed M n w ++ rowTo M w n := rfl

theorem flat_len {α : Type} (b : Nat → List α) (c : Nat → Nat) (hc : ∀ h, c (h + 1) = c h + (b h).length) (h0 : c 0 = 0) : ∀ h, (flat b h).length = c h
  | 0 => by simp [flat, h0]
  | h + 1 => by simp [flat, flat_len b c hc h0 h, hc]
theorem flat_bk_len (E : List (Nat × Nat)) (h : Nat) : (flat (bk E) h).length = tot E h := flat_len _ _ (fun _ => rfl) rfl h
theorem flat_congr {α : Type} (b c : Nat → List α) : ∀ h, (∀ x, x < h → b x = c x) → flat b h = flat c h
  | 0, _ => rfl
  | h + 1, hx => by simp only [flat]; rw [flat_congr b c h (fun x hl => hx x (by omega)), hx h (by omega)]
theorem flat_col (M : Nat → Nat → Bool) (n : Nat) (h : Nat) (hh : h ≤ n) : flat (bk (ed M n n)) h = flat (fun x => colTo M x n) h :=
  flat_congr _ _ h (fun x hx => bk_ed M n x (by omega) n)
/-- All edges are in some bucket. -/
theorem tot_add (E : List (Nat × Nat)) (e : Nat × Nat) : ∀ h, tot (E ++ [e]) h = tot E h + (if e.2 < h then 1 else 0)
  | 0 => by simp [tot]
  | h + 1 => by
    obtain ⟨w, x⟩ := e
    simp only [tot, tot_add E (w, x) h, bk_append, List.length_append, bk_one]
    by_cases e1 : x = h
    · subst e1; simp; omega
    · by_cases e2 : x < h
      · simp [e1, e2, show x < h + 1 by omega]; omega
      · simp [e1, e2, show ¬ x < h + 1 by omega]
theorem tot_all (n : Nat) : ∀ (k : Nat) (E : List (Nat × Nat)), E.length = k → (∀ e ∈ E, e.2 < n) → tot E n = E.length
  | 0, E, hk, _ => by
    obtain rfl := List.eq_nil_of_length_eq_zero hk
    have : ∀ h, tot [] h = 0 := fun h => by
      induction h with
      | zero => rfl
      | succ h ih => simp [tot, ih, bk_nil]
    simp [this]
  | k + 1, E, hk, hE => by
    have hne : E ≠ [] := fun h => by simp [h] at hk
    have hd := List.dropLast_concat_getLast hne
    have hlast := hE (E.getLast hne) (List.getLast_mem hne)
    have hsub : ∀ e ∈ E.dropLast, e.2 < n := fun e he => hE e (List.dropLast_subset _ he)
    have hl : E.dropLast.length = k := by simp [hk]
    have ih := tot_all n k E.dropLast hl hsub
    rw [← hd, tot_add, ih, if_pos hlast]
    simp
theorem tot_mono (E : List (Nat × Nat)) : ∀ a b, a ≤ b → tot E a ≤ tot E b := by
  intro a b h
  induction h with
  | refl => exact Nat.le_refl _
  | step _ ih => exact Nat.le_trans ih (Nat.le_add_right _ _)

/-- THE COUNTING SORT's STATE behind the edges P, a head of E: where each bucket goes on, and what has been laid. -/
structure Laid (E P : List (Nat × Nat)) (n : Nat) (next out : List Nat) : Prop where
  nlen : next.length = n
  olen : out.length = E.length
  next_at : ∀ h, h < n → next.getD h 0 = tot E h + (bk P h).length
  out_at : ∀ h r, h < n → r < (bk P h).length → out.getD (tot E h + r) 0 = (bk P h).getD r 0

theorem bk_le {E P : List (Nat × Nat)} (hp : P <+: E) (h : Nat) : (bk P h).length ≤ (bk E h).length := by
  obtain ⟨F, rfl⟩ := hp
  rw [bk_append, List.length_append]
  omega
theorem getD_set_same {α : Type} (l : List α) (i : Nat) (x d : α) (h : i < l.length) : (l.set i x).getD i d = x := by
  simp [List.getD, h]
theorem getD_set_other {α : Type} (l : List α) (i j : Nat) (x d : α) (h : i ≠ j) : (l.set i x).getD j d = l.getD j d := by
  simp [List.getD, h]
/-- The place where the next edge goes. -/
theorem Laid.place {E P : List (Nat × Nat)} {n : Nat} {next out : List Nat} {w h : Nat} (L : Laid E P n next out) (hp : P ++ [(w, h)] <+: E) (hE : ∀ e ∈ E, e.2 < n) :
    h < n ∧ next.getD h 0 < E.length ∧ next.getD h 0 = tot E h + (bk P h).length ∧ tot E h + (bk P h).length < tot E (h + 1) := by
  have hmem : (w, h) ∈ E := hp.subset (by simp)
  have hh := hE _ hmem
  have hle := bk_le hp h
  rw [bk_append, bk_one, if_pos rfl, List.length_append] at hle
  have hlt : tot E h + (bk P h).length < tot E (h + 1) := by simp only [tot]; simp at hle; omega
  have ht : tot E (h + 1) ≤ E.length := by
    rw [← tot_all n E.length E rfl hE]
    exact tot_mono E _ _ hh
  have hn := L.next_at h hh
  exact ⟨hh, by omega, hn, hlt⟩
theorem Laid.step {E P : List (Nat × Nat)} {n : Nat} {next out : List Nat} {w h : Nat} (L : Laid E P n next out) (hp : P ++ [(w, h)] <+: E) (hE : ∀ e ∈ E, e.2 < n) :
    Laid E (P ++ [(w, h)]) n (next.set h (next.getD h 0 + 1)) (out.set (next.getD h 0) w) := by
  obtain ⟨hh, hlt, hn, htt⟩ := L.place hp hE
  refine ⟨by simp [L.nlen], by simp [L.olen], fun x hx => ?_, fun x r hx hr => ?_⟩
  · rw [bk_append, bk_one, List.length_append]
    by_cases e : h = x
    · subst e
      rw [getD_set_same _ _ _ _ (by rw [L.nlen]; exact hx), hn]
      simp; omega
    · rw [getD_set_other _ _ _ _ _ e, L.next_at x hx]
      simp [e]
  · rw [bk_append, bk_one] at hr ⊢
    by_cases e : h = x
    · subst e
      simp only [if_true, List.length_append, List.length_cons, List.length_nil] at hr ⊢
      by_cases e2 : r = (bk P h).length
      · subst e2
        rw [← hn, getD_set_same _ _ _ _ (by rw [L.olen]; exact hlt)]
        simp [List.getD]
      · rw [getD_set_other _ _ _ _ _ (by omega), L.out_at h r hx (by omega)]
        simp [List.getD, List.getElem?_append_left (show r < (bk P h).length by omega)]
    · simp only [e, if_false, List.append_nil] at hr ⊢
      have hle := bk_le (List.IsPrefix.trans (List.prefix_append P [(w, h)]) hp) x
      have hlx : tot E x + r < tot E (x + 1) := by simp only [tot]; omega
      have hne : next.getD h 0 ≠ tot E x + r := by
        rcases Nat.lt_or_ge h x with hl | hl
        · have := tot_mono E (h + 1) x hl; omega
        · have := tot_mono E (x + 1) h (by omega); omega
      rw [getD_set_other _ _ _ _ _ hne, L.out_at x r hx hr]
/-- When all edges are laid, the row is the buckets joined. -/
theorem flat_at (b : Nat → List Nat) (c : Nat → Nat) (hc : ∀ h, c (h + 1) = c h + (b h).length) (h0 : c 0 = 0) (out : List Nat) (n : Nat)
    (hat : ∀ h r, h < n → r < (b h).length → out.getD (c h + r) 0 = (b h).getD r 0) (hlen : out.length = c n) : out = flat b n := by
  have key : ∀ k, k ≤ n → out.take (c k) = flat b k := by
    intro k
    induction k with
    | zero => intro _; simp [h0, flat]
    | succ k ih =>
      intro hk
      have hmono : ∀ a b', a ≤ b' → c a ≤ c b' := by
        intro a b' hab
        induction hab with
        | refl => exact Nat.le_refl _
        | step _ ih => rw [hc]; omega
      have hck : c (k + 1) ≤ c n := hmono _ _ hk
      rw [flat, ← ih (by omega), hc]
      apply List.ext_getElem?
      intro j
      rw [hc] at hck
      by_cases hj : j < c k
      · rw [List.getElem?_take, if_pos (by omega), List.getElem?_append_left (by simp; omega), List.getElem?_take, if_pos hj]
      · by_cases hj2 : j < c k + (b k).length
        · have hl : (out.take (c k)).length = c k := by simp; omega
          rw [List.getElem?_take, if_pos hj2, List.getElem?_append_right (by omega), hl]
          have h3 := hat k (j - c k) (by omega) (by omega)
          rw [show c k + (j - c k) = j by omega] at h3
          rw [List.getElem?_eq_getElem (by omega), List.getElem?_eq_getElem (by omega)]
          simp only [List.getD, List.getElem?_eq_getElem (show j < out.length by omega), List.getElem?_eq_getElem (show j - c k < (b k).length by omega), Option.getD_some] at h3
          rw [h3]
        · rw [List.getElem?_eq_none (by simp; omega), List.getElem?_eq_none (by simp; omega)]
  have := key n (Nat.le_refl _)
  rw [List.take_of_length_le (by omega)] at this
  exact this
theorem Laid.done {E : List (Nat × Nat)} {n : Nat} {next out : List Nat} (L : Laid E E n next out) (hE : ∀ e ∈ E, e.2 < n) : out = flat (bk E) n :=
  flat_at (bk E) (tot E) (fun _ => rfl) rfl out n L.out_at (by rw [L.olen, tot_all n E.length E rfl hE])

end Go.Proofs.Ybulkekys
namespace Go.Proofs.Ybulkekys

/-- The counts behind the edges P. -/
structure Cnt (P : List (Nat × Nat)) (n : Nat) (c : List Nat) : Prop where
  len : c.length = n + 1
  zero : c.getD 0 0 = 0
  at_ : ∀ h, h < n → c.getD (h + 1) 0 = (bk P h).length
theorem Cnt.start (n : Nat) : Cnt [] n (List.replicate (n + 1) 0) := ⟨by simp, by simp [List.getD], fun h hh => by simp [List.getD, bk_nil, hh]⟩
theorem Cnt.step {P : List (Nat × Nat)} {n : Nat} {c : List Nat} (C : Cnt P n c) (w h : Nat) (hh : h < n) : Cnt (P ++ [(w, h)]) n (c.set (h + 1) (c.getD (h + 1) 0 + 1)) := by
  refine ⟨by simp [C.len], by rw [getD_set_other _ _ _ _ _ (by omega)]; exact C.zero, fun x hx => ?_⟩
  rw [bk_append, bk_one, List.length_append]
  by_cases e : h = x
  · subst e
    rw [getD_set_same _ _ _ _ (by rw [C.len]; omega), C.at_ h hh]
    simp
  · rw [getD_set_other _ _ _ _ _ (by omega), C.at_ x hx]
    simp [e]
theorem Cnt.le {P : List (Nat × Nat)} {n : Nat} {c : List Nat} (C : Cnt P n c) (x : Nat) : c.getD x 0 ≤ P.length := by
  cases x with
  | zero => rw [C.zero]; omega
  | succ h =>
    by_cases hh : h < n
    · rw [C.at_ h hh]
      unfold bk
      rw [List.length_map]
      exact List.length_filter_le _ _
    · have : c.length ≤ h + 1 := by rw [C.len]; omega
      simp [List.getD, List.getElem?_eq_none this]
/-- The sums behind v rounds. -/
structure Sums (E : List (Nat × Nat)) (n v : Nat) (c : List Nat) : Prop where
  len : c.length = n + 1
  low : ∀ x, x ≤ v → x ≤ n → c.getD x 0 = tot E x
  high : ∀ h, v ≤ h → h < n → c.getD (h + 1) 0 = (bk E h).length
theorem Sums.start {E : List (Nat × Nat)} {n : Nat} {c : List Nat} (C : Cnt E n c) : Sums E n 0 c :=
  ⟨C.len, fun x hx _ => (by
    obtain rfl : x = 0 := (by omega)
    rw [C.zero]
    rfl), fun h _ hh => C.at_ h hh⟩
theorem Sums.step {E : List (Nat × Nat)} {n v : Nat} {c : List Nat} (S : Sums E n v c) (hv : v < n) : Sums E n (v + 1) (c.set (v + 1) (c.getD (v + 1) 0 + c.getD v 0)) := by
  refine ⟨by simp [S.len], fun x hx hxn => ?_, fun h h1 h2 => ?_⟩
  · by_cases e : x = v + 1
    · subst e
      rw [getD_set_same _ _ _ _ (by rw [S.len]; omega), S.high v (Nat.le_refl _) hv, S.low v (Nat.le_refl _) (by omega)]
      simp only [tot]; omega
    · rw [getD_set_other _ _ _ _ _ (by omega)]
      exact S.low x (by omega) hxn
  · rw [getD_set_other _ _ _ _ _ (by omega)]
    exact S.high h (by omega) h2
theorem list_eq_getD {l m : List Nat} (h : l.length = m.length) (he : ∀ i, i < l.length → l.getD i 0 = m.getD i 0) : l = m := by
  apply List.ext_getElem h
  intro i h1 h2
  have := he i h1
  simpa [List.getD, List.getElem?_eq_getElem h1, List.getElem?_eq_getElem h2] using this
theorem Laid.start {E : List (Nat × Nat)} {n : Nat} {c : List Nat} (S : Sums E n n c) : Laid E [] n (c.take n) (List.replicate E.length 0) :=
  ⟨by simp [S.len], by simp, fun h hh => by
    rw [bk_nil]
    have := S.low h (by omega) (by omega)
    simpa [List.getD, List.getElem?_take, hh] using this, fun h r _ hr => by simp [bk_nil] at hr⟩
theorem tot_le (E : List (Nat × Nat)) (n x : Nat) (hx : x ≤ n) (hE : ∀ e ∈ E, e.2 < n) : tot E x ≤ E.length := by
  rw [← tot_all n E.length E rfl hE]; exact tot_mono E _ _ hx

end Go.Proofs.Ybulkekys
namespace Go.Proofs.Ybulkekys

theorem ed_pre (M : Nat → Nat → Bool) (n a : Nat) : ∀ b, a ≤ b → ed M n a <+: ed M n b
  | 0, h => by obtain rfl : a = 0 := (by omega); exact List.prefix_rfl
  | b + 1, h => by
    by_cases e : a = b + 1
    · subst e; exact List.prefix_rfl
    · exact (ed_pre M n a b (by omega)).trans (List.prefix_append _ _)
theorem at_pre {P E : List (Nat × Nat)} {e : Nat × Nat} (h : P ++ [e] <+: E) : E[P.length]? = some e := by
  obtain ⟨F, rfl⟩ := h
  simp
theorem take_next {α : Type} (l : List α) (i : Nat) (h : i < l.length) : l.take (i + 1) = l.take i ++ [l[i]] := List.take_succ_eq_append_getElem h
/-- The i-th edge of row k. -/
theorem row_next (M : Nat → Nat → Bool) (n k i : Nat) (hk : k < n) (hi : i < (rowTo M k n).length) :
    ∃ h, h < n ∧ ed M n k ++ (rowTo M k n).take (i + 1) = (ed M n k ++ (rowTo M k n).take i) ++ [(k, h)] ∧ (ed M n k ++ (rowTo M k n).take i) ++ [(k, h)] <+: ed M n n ∧ ((ed M n n).map Prod.snd).getD ((ed M n k).length + i) 0 = h := by
  have hm := rowTo_lt M k n _ (List.getElem_mem hi)
  generalize hx : (rowTo M k n)[i] = x at hm
  obtain ⟨x1, h⟩ := x
  simp only at hm
  obtain ⟨rfl, hh⟩ := hm
  have ht := take_next (rowTo M x1 n) i hi
  rw [hx] at ht
  have hpre : (ed M n x1 ++ (rowTo M x1 n).take i) ++ [(x1, h)] <+: ed M n n := by
    have h1 : ed M n x1 ++ (rowTo M x1 n).take (i + 1) <+: ed M n (x1 + 1) := by
      rw [ed_succ]
      exact (List.prefix_append_right_inj _).2 (List.take_prefix _ _)
    rw [ht, ← List.append_assoc] at h1
    exact h1.trans (ed_pre M n (x1 + 1) n hk)
  refine ⟨h, hh, by rw [ht, List.append_assoc], hpre, ?_⟩
  have ha := at_pre hpre
  have hl : (ed M n x1 ++ (rowTo M x1 n).take i).length = (ed M n x1).length + i := by simp; omega
  rw [hl] at ha
  simp [List.getD, ha]
theorem take_edge (E : List (Nat × Nat)) (j : Nat) (hj : j < E.length) : ∃ x h, E.take (j + 1) = E.take j ++ [(x, h)] ∧ (x, h) ∈ E ∧ (E.map Prod.snd).getD j 0 = h := by
  refine ⟨E[j].1, E[j].2, take_next E j hj, List.getElem_mem hj, ?_⟩
  simp [List.getD, List.getElem?_eq_getElem hj]

end Go.Proofs.Ybulkekys
