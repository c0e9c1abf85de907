/- Plain laws on the steps of Pl: what a number of the block is behind all eight steps, by its row or column alone. No program in sight. -/
import Derived.Test.YtlibflbpajeeeaaPl
namespace Go.Proofs.Ytlibflbpajeeeaa
open Go.RowKit Go.Sort

theorem putAll_other (p : Nat → Nat) (y : List Int) (i : Nat) : ∀ (l : List Nat) (d : Array Int), (∀ j ∈ l, p j ≠ i) → (putAll p y l d)[i]! = d[i]! := by
  intro l
  induction l with
  | nil => intro d _; rfl
  | cons j r ih =>
    intro d h
    rw [putAll, ih _ (fun a ha => h a (List.mem_cons_of_mem _ ha))]
    exact getElem!_set_other d (p j) i _ (fun e => h j (List.mem_cons_self) e.symm)

theorem putAll_same (p : Nat → Nat) (y : List Int) (j : Nat) : ∀ (l : List Nat) (d : Array Int), j ∈ l → l.Nodup → (∀ a ∈ l, p a = p j → a = j) → p j < d.size → (putAll p y l d)[p j]! = y.getD j 0 := by
  intro l
  induction l with
  | nil => intro d h; cases h
  | cons a r ih =>
    intro d h hn hp hs
    rw [putAll]
    by_cases e : a = j
    · subst e
      rw [putAll_other p y (p a) r _ (fun b hb hpb => by
        have := hp b (List.mem_cons_of_mem _ hb) hpb
        subst this
        exact (List.nodup_cons.1 hn).1 hb)]
      exact getElem!_set_same d (p a) _ hs
    · have hr : j ∈ r := by
        rcases List.mem_cons.1 h with h | h
        · exact absurd h.symm e
        · exact h
      exact ih _ hr (List.nodup_cons.1 hn).2 (fun b hb => hp b (List.mem_cons_of_mem _ hb)) (by simpa using hs)

/-- What eight steps make of a block whose lines lie apart. -/
theorem steps_get (at_ : Nat → Nat → Nat) (ord : List Nat) (f : List Int → List Int) (d : Array Int) (hd : d.size = 64)
    (hord : ord.Nodup) (hmem : ∀ j, j ∈ ord ↔ j < 8)
    (hlt : ∀ k j, k < 8 → j < 8 → at_ k j < 64) (hinj : ∀ k j k' j', k < 8 → j < 8 → k' < 8 → j' < 8 → at_ k j = at_ k' j' → k = k' ∧ j = j') :
    ∀ K, K ≤ 8 → ∀ k j, k < 8 → j < 8 → (steps at_ ord f K d)[at_ k j]! = if k < K then (f (line (at_ k) d)).getD j 0 else d[at_ k j]! := by
  intro K
  induction K with
  | zero => intro _ k j _ _; simp [steps]
  | succ K ih =>
    intro hK k j hk hj
    have hline : line (at_ K) (steps at_ ord f K d) = line (at_ K) d := by
      unfold line
      have e : ∀ j, j < 8 → (steps at_ ord f K d)[at_ K j]! = d[at_ K j]! := fun j hj => by
        rw [ih (by omega) K j (by omega) hj, if_neg (by omega)]
      rw [e 0 (by omega), e 1 (by omega), e 2 (by omega), e 3 (by omega), e 4 (by omega), e 5 (by omega), e 6 (by omega), e 7 (by omega)]
    rw [steps, stepAt, hline]
    by_cases e : k = K
    · subst e
      rw [if_pos (by omega)]
      refine putAll_same _ _ j _ _ ((hmem j).2 hj) hord (fun a ha hp => (hinj k a k j hk ((hmem a).1 ha) hk hj hp).2) ?_
      rw [size_steps, hd]
      exact hlt k j hk hj
    · rw [putAll_other _ _ _ _ _ (fun a ha hp => e (hinj K a k j (by omega) ((hmem a).1 ha) hk hj hp).1.symm), ih (by omega) k j hk hj]
      by_cases h : k < K
      · rw [if_pos h, if_pos (by omega)]
      · rw [if_neg h, if_neg (by omega)]

theorem ordAll_mem (j : Nat) : j ∈ ordAll ↔ j < 8 := by unfold ordAll; simp; omega
theorem ordF_mem (j : Nat) : j ∈ ordF ↔ j < 8 := by unfold ordF; simp; omega

theorem rows_get (f : List Int → List Int) (d : Array Int) (hd : d.size = 64) (r c : Nat) (hr : r < 8) (hc : c < 8) : (steps rowAt ordAll f 8 d)[8 * r + c]! = (f (line (rowAt r) d)).getD c 0 := by
  have h := steps_get rowAt ordAll f d hd (by decide) ordAll_mem (fun k j hk hj => by unfold rowAt; omega) (fun k j k' j' _ _ _ _ h => by unfold rowAt at h; omega) 8 (Nat.le_refl _) r c hr hc
  rw [if_pos hr] at h
  exact h
theorem cols_get (ord : List Nat) (hn : ord.Nodup) (hm : ∀ j, j ∈ ord ↔ j < 8) (f : List Int → List Int) (d : Array Int) (hd : d.size = 64) (r c : Nat) (hr : r < 8) (hc : c < 8) :
    (steps colAt ord f 8 d)[8 * r + c]! = (f (line (colAt c) d)).getD r 0 := by
  have h := steps_get colAt ord f d hd hn hm (fun k j hk hj => by unfold colAt; omega) (fun k j k' j' _ _ _ _ h => by unfold colAt at h; omega) 8 (Nat.le_refl _) c r hc hr
  rw [if_pos hc] at h
  exact h

theorem irows_get (d : Array Int) (hd : d.size = 64) (r c : Nat) (hr : r < 8) (hc : c < 8) : (irowsA d)[8 * r + c]! = (irow (line (rowAt r) d)).getD c 0 := rows_get _ _ hd _ _ hr hc
theorem frows_get (d : Array Int) (hd : d.size = 64) (r c : Nat) (hr : r < 8) (hc : c < 8) : (frowsA d)[8 * r + c]! = (frow (line (rowAt r) d)).getD c 0 := rows_get _ _ hd _ _ hr hc
theorem icols_get (d : Array Int) (hd : d.size = 64) (r c : Nat) (hr : r < 8) (hc : c < 8) : (icolsA d)[8 * r + c]! = (icol (line (colAt c) d)).getD r 0 := cols_get _ (by decide) ordAll_mem _ _ hd _ _ hr hc
theorem fcols_get (d : Array Int) (hd : d.size = 64) (r c : Nat) (hr : r < 8) (hc : c < 8) : (fcolsA d)[8 * r + c]! = (fcol (line (colAt c) d)).getD r 0 := cols_get _ (by decide) ordF_mem _ _ hd _ _ hr hc

end Go.Proofs.Ytlibflbpajeeeaa
