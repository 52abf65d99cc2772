import Derived.Test.YbulkekysMark
namespace Go.Proofs.Ybulkekys

/-- What a walk starts from. -/
structure Cx where
  n : Nat
  O : Nat → List Nat
  E : Nat → Bool
  vs : List Nat
  s0 : DS

/-- The least set that holds vs and is closed under edges into vertices that were not marked at first. -/
def IP (c : Cx) (x : Nat) : Prop := ∀ S : Nat → Prop, (∀ v ∈ c.vs, S v) → (∀ p h, S p → h ∈ c.O p → c.s0.bg h = false → S h) → S x
theorem IP.of_vs {c : Cx} {v : Nat} (h : v ∈ c.vs) : IP c v := fun _ h1 _ => h1 v h
theorem IP.step {c : Cx} {p h : Nat} (hp : IP c p) (ho : h ∈ c.O p) (hb : c.s0.bg h = false) : IP c h := fun S h1 h2 => h2 p h (hp S h1 h2) ho hb

/-- The walk's state: st is still to be done, D is done, K is linked. -/
structure MInv (c : Cx) (s : DS) (st : List Nat) (D K : Nat → Bool) : Prop where
  bgL : ∀ i, s.bg i = true → i < s.L
  old : ∀ i, c.s0.bg i = true → s.bg i = true
  stIP : ∀ x ∈ st, IP c x
  dIP : ∀ x, D x = true → IP c x
  vsQ : ∀ v ∈ c.vs, v ∈ st ∨ D v = true
  bgQ : ∀ i, s.bg i = true → c.s0.bg i = true ∨ i ∈ st ∨ D i = true
  qbg : ∀ i, (i ∈ st ∨ D i = true) → s.bg i = true
  lt : ∀ i, (i ∈ st ∨ D i = true) → i < c.n
  dO : ∀ p, D p = true → ∀ h ∈ c.O p, s.bg h = true
  L0 : c.s0.L ≤ s.L
  Lx : s.L = c.s0.L ∨ ∃ i, IP c i ∧ s.L = i + 1
  K0 : ∀ p, K p = true → D p = true ∧ c.s0.at_ p = []
  KD : ∀ p, D p = true → c.s0.at_ p = [] → K p = true
  atOld : ∀ p, c.s0.at_ p ≠ [] → s.at_ p = c.s0.at_ p
  atNo : ∀ p, c.s0.at_ p = [] → K p = false → s.at_ p = []
  atLen : ∀ p, K p = true → (s.at_ p).length = (c.O p).length
  atOk : ∀ p, K p = true → ∀ k, k < (c.O p).length → AtOk c.E p (c.O p) c.s0.inn s.inn (s.at_ p) k
  inPre : ∀ h, c.s0.inn h <+: s.inn h
  inLen : ∀ h, (s.inn h).length = (c.s0.inn h).length + lsum (fun p => occ c.E (c.O p) h) K c.n

/-- A new vertex is marked and laid on the stack. -/
theorem MInv.push {c : Cx} {s : DS} {st : List Nat} {D K : Nat → Bool} {v h : Nat} (I : MInv c s (v :: st) D K) (ho : h ∈ c.O v) (hn : h < c.n) (hb : s.bg h = false) : MInv c (s.mark h) (v :: (st ++ [h])) D K := by
  have hb0 : c.s0.bg h = false := by
    cases e : c.s0.bg h
    · rfl
    · rw [I.old h e] at hb; cases hb
  have hip : IP c h := (I.stIP v (by simp)).step ho hb0
  have hmem : ∀ x, x ∈ v :: (st ++ [h]) ↔ (x ∈ v :: st ∨ x = h) := fun x => by simp [or_assoc]
  have hbg : ∀ i, (s.mark h).bg i = true ↔ (s.bg i = true ∨ i = h) := fun i => by
    show upd s.bg h true i = true ↔ _
    by_cases e : i = h
    · subst e; simp [upd_same]
    · rw [upd_other _ _ _ _ e]; simp [e]
  have hL : (s.mark h).L = max s.L (h + 1) := rfl
  refine ⟨fun i hi => ?_, fun i hi => (hbg i).2 (.inl (I.old i hi)), fun x hx => ?_, I.dIP, fun x hx => ?_, fun i hi => ?_, fun i hi => ?_, fun i hi => ?_, fun p hp x hx => (hbg x).2 (.inl (I.dO p hp x hx)), ?_, ?_, I.K0, I.KD, I.atOld, I.atNo, I.atLen, I.atOk, I.inPre, I.inLen⟩
  · rw [hL]
    rcases (hbg i).1 hi with h1 | h1
    · have := I.bgL i h1; omega
    · omega
  · rcases (hmem x).1 hx with h1 | h1
    · exact I.stIP x h1
    · rw [h1]; exact hip
  · rcases I.vsQ x hx with h1 | h1
    · exact .inl ((hmem x).2 (.inl h1))
    · exact .inr h1
  · rcases (hbg i).1 hi with h1 | h1
    · rcases I.bgQ i h1 with h2 | h2 | h2
      · exact .inl h2
      · exact .inr (.inl ((hmem i).2 (.inl h2)))
      · exact .inr (.inr h2)
    · exact .inr (.inl ((hmem i).2 (.inr h1)))
  · rcases hi with h1 | h1
    · rcases (hmem i).1 h1 with h2 | h2
      · exact (hbg i).2 (.inl (I.qbg i (.inl h2)))
      · exact (hbg i).2 (.inr h2)
    · exact (hbg i).2 (.inl (I.qbg i (.inr h1)))
  · rcases hi with h1 | h1
    · rcases (hmem i).1 h1 with h2 | h2
      · exact I.lt i (.inl h2)
      · omega
    · exact I.lt i (.inr h1)
  · rw [hL]; have := I.L0; omega
  · rw [hL]
    by_cases e : s.L ≤ h + 1
    · exact .inr ⟨h, hip, by omega⟩
    · rw [Nat.max_eq_left (by omega)]; exact I.Lx

theorem upd_true {D : Nat → Bool} {v i : Nat} : upd D v true i = true ↔ (i = v ∨ D i = true) := by
  by_cases e : i = v
  · subst e; simp [upd_same]
  · rw [upd_other _ _ _ _ e]; simp [e]

/-- A vertex is done; it was linked before, or is not ours to link. -/
theorem MInv.doneOld {c : Cx} {s : DS} {st : List Nat} {D K : Nat → Bool} {v : Nat} (I : MInv c s (v :: st) D K) (hO : ∀ h ∈ c.O v, s.bg h = true) (ha : s.at_ v ≠ []) : MInv c s st (upd D v true) K := by
  refine ⟨I.bgL, I.old, fun x hx => I.stIP x (by simp [hx]), fun x hx => ?_, fun x hx => ?_, fun i hi => ?_, fun i hi => ?_, fun i hi => ?_, fun p hp h hh => ?_, I.L0, I.Lx, fun p hp => ?_, fun p hp h0 => ?_, I.atOld, I.atNo, I.atLen, I.atOk, I.inPre, I.inLen⟩
  · rcases upd_true.1 hx with h | h
    · rw [h]; exact I.stIP v (by simp)
    · exact I.dIP x h
  · rcases I.vsQ x hx with h | h
    · rcases List.mem_cons.1 h with h | h
      · exact .inr (upd_true.2 (.inl h))
      · exact .inl h
    · exact .inr (upd_true.2 (.inr h))
  · rcases I.bgQ i hi with h | h | h
    · exact .inl h
    · rcases List.mem_cons.1 h with h | h
      · exact .inr (.inr (upd_true.2 (.inl h)))
      · exact .inr (.inl h)
    · exact .inr (.inr (upd_true.2 (.inr h)))
  · rcases hi with h | h
    · exact I.qbg i (.inl (by simp [h]))
    · rcases upd_true.1 h with h | h
      · rw [h]; exact I.qbg v (.inl (by simp))
      · exact I.qbg i (.inr h)
  · rcases hi with h | h
    · exact I.lt i (.inl (by simp [h]))
    · rcases upd_true.1 h with h | h
      · rw [h]; exact I.lt v (.inl (by simp))
      · exact I.lt i (.inr h)
  · rcases upd_true.1 hp with h1 | h1
    · rw [h1] at hh; exact hO h hh
    · exact I.dO p h1 h hh
  · have := I.K0 p hp
    exact ⟨upd_true.2 (.inr this.1), this.2⟩
  · rcases upd_true.1 hp with h1 | h1
    · cases hk : K p
      · rw [h1] at h0 hk; exact absurd (I.atNo v h0 hk) ha
      · rfl
    · exact I.KD p h1 h0

/-- A vertex is done and is linked now. -/
theorem MInv.doneNew {c : Cx} {s : DS} {st : List Nat} {D K : Nat → Bool} {v : Nat} (I : MInv c s (v :: st) D K) (hO : ∀ h ∈ c.O v, s.bg h = true) (ha : s.at_ v = []) : MInv c (s.link c.E v (c.O v)) st (upd D v true) (upd K v true) := by
  have h0 : c.s0.at_ v = [] := by
    cases e : c.s0.at_ v with
    | nil => rfl
    | cons a l =>
      have := I.atOld v (by rw [e]; simp)
      rw [ha, e] at this
      cases this
  have hle : ∀ h, (c.s0.inn h).length ≤ (s.inn h).length := fun h => (I.inPre h).length_le
  have hpre : ∀ h, s.inn h <+: (s.link c.E v (c.O v)).inn h := fun h => lkTo_pre c.E v (c.O v) s.inn h _
  have hatv : (s.link c.E v (c.O v)).at_ v = (lkTo c.E v (c.O v) s.inn (c.O v).length).2 := upd_same _ _ _
  have hato : ∀ p, p ≠ v → (s.link c.E v (c.O v)).at_ p = s.at_ p := fun p hp => upd_other _ _ _ _ hp
  refine ⟨I.bgL, I.old, fun x hx => I.stIP x (by simp [hx]), fun x hx => ?_, fun x hx => ?_, fun i hi => ?_, fun i hi => ?_, fun i hi => ?_, fun p hp h hh => ?_, I.L0, I.Lx, fun p hp => ?_, fun p hp h0' => ?_, fun p hp => ?_, fun p hp hk => ?_, fun p hp => ?_, fun p hp k hk => ?_, fun h => (I.inPre h).trans (hpre h), fun h => ?_⟩
  · rcases upd_true.1 hx with h | h
    · rw [h]; exact I.stIP v (by simp)
    · exact I.dIP x h
  · rcases I.vsQ x hx with h | h
    · rcases List.mem_cons.1 h with h | h
      · exact .inr (upd_true.2 (.inl h))
      · exact .inl h
    · exact .inr (upd_true.2 (.inr h))
  · rcases I.bgQ i hi with h | h | h
    · exact .inl h
    · rcases List.mem_cons.1 h with h | h
      · exact .inr (.inr (upd_true.2 (.inl h)))
      · exact .inr (.inl h)
    · exact .inr (.inr (upd_true.2 (.inr h)))
  · rcases hi with h | h
    · exact I.qbg i (.inl (by simp [h]))
    · rcases upd_true.1 h with h | h
      · rw [h]; exact I.qbg v (.inl (by simp))
      · exact I.qbg i (.inr h)
  · rcases hi with h | h
    · exact I.lt i (.inl (by simp [h]))
    · rcases upd_true.1 h with h | h
      · rw [h]; exact I.lt v (.inl (by simp))
      · exact I.lt i (.inr h)
  · rcases upd_true.1 hp with h1 | h1
    · rw [h1] at hh; exact hO h hh
    · exact I.dO p h1 h hh
  · rcases upd_true.1 hp with h1 | h1
    · rw [h1]; exact ⟨upd_true.2 (.inl rfl), h0⟩
    · have := I.K0 p h1
      exact ⟨upd_true.2 (.inr this.1), this.2⟩
  · rcases upd_true.1 hp with h1 | h1
    · exact upd_true.2 (.inl h1)
    · exact upd_true.2 (.inr (I.KD p h1 h0'))
  · by_cases e : p = v
    · rw [e] at hp; exact absurd h0 hp
    · rw [hato p e]; exact I.atOld p hp
  · by_cases e : p = v
    · rw [e, upd_same] at hk; cases hk
    · rw [upd_other _ _ _ _ e] at hk
      rw [hato p e]; exact I.atNo p hp hk
  · by_cases e : p = v
    · rw [e, hatv, lkTo_len]
    · rw [hato p e]
      exact I.atLen p ((upd_true.1 hp).resolve_left e)
  · by_cases e : p = v
    · subst e
      rw [hatv]
      exact lkTo_at c.E p (c.O p) c.s0.inn s.inn hle _ (Nat.le_refl _) k hk
    · rw [hato p e]
      exact (I.atOk p ((upd_true.1 hp).resolve_left e) k hk).mono hpre List.prefix_rfl
  · have hl := lkTo_occ c.E v (c.O v) s.inn h (c.O v).length (Nat.le_refl _)
    rw [List.take_length] at hl
    show ((lkTo c.E v (c.O v) s.inn (c.O v).length).1 h).length = _
    rw [hl, I.inLen h]
    have hvn := I.lt v (.inl (by simp))
    cases hk : K v
    · rw [lsum_upd _ _ _ hk, if_pos hvn]; omega
    · have hlen := I.atLen v hk
      rw [ha] at hlen
      have hnil : c.O v = [] := List.eq_nil_of_length_eq_zero hlen.symm
      have hoc : occ c.E (c.O v) h = 0 := by rw [hnil]; unfold occ; split <;> simp
      rw [lsum_zero (fun p => occ c.E (c.O p) h) K v hoc, hoc]
      rfl

/-- At the end: what is done is just the closure. -/
theorem MInv.final {c : Cx} {s : DS} {D K : Nat → Bool} (I : MInv c s [] D K) : ∀ x, D x = true ↔ IP c x := fun x =>
  ⟨I.dIP x, fun h => h (fun y => D y = true) (fun v hv => (I.vsQ v hv).resolve_left (by simp)) (fun p h hp ho hb => by
    rcases I.bgQ h (I.dO p hp h ho) with h1 | h1 | h1
    · rw [hb] at h1; cases h1
    · cases h1
    · exact h1)⟩

/-- The first loop: j of vs are marked. -/
structure VInv (c : Cx) (s : DS) (j : Nat) : Prop where
  bgL : ∀ i, s.bg i = true → i < s.L
  old : ∀ i, c.s0.bg i = true → s.bg i = true
  bgQ : ∀ i, s.bg i = true → c.s0.bg i = true ∨ i ∈ c.vs.take j
  qbg : ∀ v ∈ c.vs.take j, s.bg v = true
  L0 : c.s0.L ≤ s.L
  Lx : s.L = c.s0.L ∨ ∃ i, IP c i ∧ s.L = i + 1
  at_ : s.at_ = c.s0.at_
  inn : s.inn = c.s0.inn
theorem VInv.start {c : Cx} (h : ∀ i, c.s0.bg i = true → i < c.s0.L) : VInv c c.s0 0 := ⟨h, fun _ h => h, fun _ h => .inl h, fun v hv => by simp at hv, Nat.le_refl _, .inl rfl, rfl, rfl⟩
theorem VInv.step {c : Cx} {s : DS} {j : Nat} (V : VInv c s j) (hj : j < c.vs.length) : VInv c (s.mark (c.vs.getD j 0)) (j + 1) := by
  have ht : c.vs.take (j + 1) = c.vs.take j ++ [c.vs.getD j 0] := by
    rw [take_next c.vs j hj]
    simp [List.getD, List.getElem?_eq_getElem hj]
  have hmem : c.vs.getD j 0 ∈ c.vs := by
    rw [List.getD_eq_getElem?_getD, List.getElem?_eq_getElem hj]
    exact List.getElem_mem hj
  generalize c.vs.getD j 0 = v at *
  have hbg : ∀ i, (s.mark v).bg i = true ↔ (i = v ∨ s.bg i = true) := fun i => upd_true
  have hL : (s.mark v).L = max s.L (v + 1) := rfl
  refine ⟨fun i hi => ?_, fun i hi => (hbg i).2 (.inr (V.old i hi)), fun i hi => ?_, fun x hx => ?_, ?_, ?_, V.at_, V.inn⟩
  · rw [hL]
    rcases (hbg i).1 hi with h | h
    · omega
    · have := V.bgL i h; omega
  · rw [ht]
    rcases (hbg i).1 hi with h | h
    · exact .inr (by simp [h])
    · rcases V.bgQ i h with h | h
      · exact .inl h
      · exact .inr (by simp [h])
  · rw [ht, List.mem_append] at hx
    rcases hx with h | h
    · exact (hbg x).2 (.inr (V.qbg x h))
    · exact (hbg x).2 (.inl (by simpa using h))
  · rw [hL]; have := V.L0; omega
  · rw [hL]
    by_cases e : s.L ≤ v + 1
    · exact .inr ⟨v, IP.of_vs hmem, by omega⟩
    · rw [Nat.max_eq_left (by omega)]; exact V.Lx
theorem VInv.done {c : Cx} {s : DS} (V : VInv c s c.vs.length) (hlt : ∀ v ∈ c.vs, v < c.n) : MInv c s c.vs (fun _ => false) (fun _ => false) := by
  have ht : c.vs.take c.vs.length = c.vs := List.take_length
  have hq := V.bgQ
  have hb := V.qbg
  rw [ht] at hq hb
  refine ⟨V.bgL, V.old, fun x hx => IP.of_vs hx, fun x hx => (by cases hx), fun v hv => .inl hv, fun i hi => ?_, fun i hi => ?_, fun i hi => ?_, fun p hp => (by cases hp), V.L0, V.Lx, fun p hp => (by cases hp), fun p hp => (by cases hp), fun p _ => by rw [V.at_], fun p h _ => by rw [V.at_]; exact h, fun p hp => (by cases hp), fun p hp => (by cases hp), fun h => by rw [V.inn]; exact List.prefix_rfl, fun h => ?_⟩
  · rcases hq i hi with h | h
    · exact .inl h
    · exact .inr (.inl h)
  · rcases hi with h | h
    · exact hb i h
    · cases h
  · rcases hi with h | h
    · exact hlt i h
    · cases h
  · rw [V.inn]
    have : ∀ n, lsum (fun p => occ c.E (c.O p) h) (fun _ => false) n = 0 := fun n => by
      induction n with
      | zero => rfl
      | succ n ih => simp [lsum, ih]
    rw [this]; rfl

/-- How many vertices below n are not marked. -/
def unm (b : Nat → Bool) : Nat → Nat
  | 0 => 0
  | n + 1 => unm b n + (if b n then 0 else 1)
theorem unm_le (b : Nat → Bool) : ∀ n, unm b n ≤ n
  | 0 => Nat.le_refl _
  | n + 1 => by have := unm_le b n; simp only [unm]; split <;> omega
theorem unm_mark (b : Nat → Bool) (h : Nat) (hb : b h = false) : ∀ n, h < n → unm (upd b h true) n + 1 = unm b n
  | 0, hn => absurd hn (by omega)
  | n + 1, hn => by
    by_cases e : h = n
    · subst e
      have : ∀ m, m ≤ h → unm (upd b h true) m = unm b m := fun m => by
        induction m with
        | zero => intro _; rfl
        | succ m ih => intro hm; rw [unm, unm, ih (by omega), upd_other _ _ _ _ (by omega)]
      rw [unm, unm, this h (Nat.le_refl _), upd_same, hb]
      simp
    · have ih := unm_mark b h hb n (by omega)
      rw [unm, unm, upd_other _ _ _ _ (by omega)]
      omega

end Go.Proofs.Ybulkekys
