/- The plain laws: terms, states. No walk. -/
import Derived.Test.Qxb6608675aModsMapsWalk
import Derived.Test.Qxb6608675aModsProjWalk
namespace Go.Proofs.Qxb6608675aMods
open Go.RowKit Go.Maps

theorem step_terms (S : PS) (r : Rec) : (S.step r).terms = if r.hasT then upd S.terms r.name.data.toList r.term else S.terms := by
  unfold PS.step PS.n5 PS.n4 PS.n3 PS.n2 PS.n1
  cases r.live <;> cases r.hasT <;> cases r.hasSt <;> rfl

/-- Each term of the map is some record's. -/
theorem terms_from : ∀ (l : List Rec) (k : List UInt8) (t : Int), (psOf l).terms k = some t → ∃ r ∈ l, r.hasT = true ∧ r.name.data.toList = k ∧ r.term = t := by
  suffices h : ∀ (l : List Rec) (S : PS) (k : List UInt8) (t : Int), (l.foldl PS.step S).terms k = some t → S.terms k = some t ∨ ∃ r ∈ l, r.hasT = true ∧ r.name.data.toList = k ∧ r.term = t by
    intro l k t hk
    rcases h l ps0 k t hk with h | h
    · cases h
    · exact h
  intro l
  induction l with
  | nil => intro S k t h; exact .inl h
  | cons a l ih =>
    intro S k t h
    rcases ih (S.step a) k t h with h1 | ⟨r, hr, h1⟩
    · rw [step_terms] at h1
      cases ha : a.hasT
      · rw [ha] at h1; exact .inl h1
      · rw [ha, if_pos rfl] at h1
        unfold upd at h1
        split at h1
        · rename_i e
          exact .inr ⟨a, by simp, ha, e.symm, by simpa using h1⟩
        · exact .inl h1
    · exact .inr ⟨r, by simp [hr], h1⟩

/-- The fold takes every record's. -/
theorem mx_ge (g : List UInt8 → Option Int) : ∀ (l : List Rec) (b : Int), b ≤ l.foldl (mxStep g) b ∧ ∀ r ∈ l, r.hasT = true → getT g r.name ≤ l.foldl (mxStep g) b := by
  intro l
  induction l with
  | nil => intro b; exact ⟨Int.le_refl _, fun r hr => by simp at hr⟩
  | cons a l ih =>
    intro b
    obtain ⟨h1, h2⟩ := ih (mxStep g b a)
    have hb : b ≤ mxStep g b a ∧ (a.hasT = true → getT g a.name ≤ mxStep g b a) := by
      unfold mxStep
      split
      · split <;> exact ⟨by omega, fun _ => by omega⟩
      · rename_i h; exact ⟨by omega, fun h' => absurd h' h⟩
    refine ⟨Int.le_trans hb.1 h1, fun r hr ht => ?_⟩
    rcases List.mem_cons.1 hr with rfl | hr
    · exact Int.le_trans (hb.2 ht) h1
    · exact h2 r hr ht

theorem mx_from (g : List UInt8 → Option Int) : ∀ (l : List Rec) (b : Int), l.foldl (mxStep g) b = b ∨ ∃ r ∈ l, l.foldl (mxStep g) b = getT g r.name := by
  intro l
  induction l with
  | nil => intro b; exact .inl rfl
  | cons a l ih =>
    intro b
    rcases ih (mxStep g b a) with h | ⟨r, hr, h⟩
    · have : mxStep g b a = b ∨ mxStep g b a = getT g a.name := by
        unfold mxStep
        split
        · split
          · exact .inr rfl
          · exact .inl rfl
        · exact .inl rfl
      rcases this with e | e
      · exact .inl (by rw [List.foldl_cons, h, e])
      · exact .inr ⟨a, by simp, by rw [List.foldl_cons, h, e]⟩
    · exact .inr ⟨r, by simp [hr], h⟩

section
variable {rs : List Rec}

/-- The greatest term. -/
theorem mx_top (k : List UInt8) (t : Int) (h : (psOf rs).terms k = some t) : t ≤ mx (psOf rs).terms rs := by
  obtain ⟨r, hr, h1, h2, _⟩ := terms_from rs k t h
  have := (mx_ge (psOf rs).terms rs 0).2 r hr h1
  unfold getT at this
  rw [h2, h] at this
  exact this

theorem mx_nonneg : 0 ≤ mx (psOf rs).terms rs := (mx_ge _ rs 0).1

theorem mx_is : mx (psOf rs).terms rs = 0 ∨ ∃ k, (psOf rs).terms k = some (mx (psOf rs).terms rs) := by
  rcases mx_from (psOf rs).terms rs 0 with h | ⟨r, _, h⟩
  · exact .inl h
  · cases hg : (psOf rs).terms r.name.data.toList with
    | none => left; unfold mx; rw [h]; simp [getT, hg]
    | some t => right; refine ⟨r.name.data.toList, ?_⟩; unfold mx; rw [h]; simp [getT, hg]

theorem mx_wf (hok : ∀ r ∈ rs, r.ok) : 0 ≤ mx (psOf rs).terms rs ∧ mx (psOf rs).terms rs ≤ 18446744073709551615 := by
  refine ⟨mx_nonneg, ?_⟩
  rcases mx_is (rs := rs) with h | ⟨k, h⟩
  · rw [h]; decide
  · obtain ⟨r, hr, _, _, h3⟩ := terms_from rs k _ h
    have := (hok r hr).2.2.2.2
    rw [h3] at this
    simp only [Lit.wf, Bool.and_eq_true, decide_eq_true_eq] at this
    have h2 := this.2
    have hm : IntKind.u64.max = 18446744073709551615 := rfl
    rw [hm] at h2
    exact h2

theorem getT_le (x : ByteArray) : getT (psOf rs).terms x ≤ mx (psOf rs).terms rs := by
  unfold getT
  cases h : (psOf rs).terms x.data.toList with
  | none => exact mx_nonneg
  | some t => exact mx_top _ t h

/-- In sync: it holds the greatest term, which is above 0. -/
theorem inS_iff (x : ByteArray) : InS (psOf rs).terms x ↔ getT (psOf rs).terms x = mx (psOf rs).terms rs ∧ 0 < mx (psOf rs).terms rs := by
  have hle := getT_le (rs := rs) x
  constructor
  · rintro ⟨h1, h2⟩
    rcases mx_is (rs := rs) with h | ⟨k, h⟩
    · rw [h] at hle ⊢; omega
    · have := h1 k _ h
      omega
  · rintro ⟨h1, h2⟩
    exact ⟨fun k t h => by rw [h1]; exact mx_top k t h, by rw [h1]; exact h2⟩

/-- Once x's term is raised above the rest, x is in sync .. -/
theorem inS_raised (x : ByteArray) : InS ((psOf rs).bump true x (mx (psOf rs).terms rs + 1)).terms x := by
  have h0 := mx_nonneg (rs := rs)
  have e : getT ((psOf rs).bump true x (mx (psOf rs).terms rs + 1)).terms x = mx (psOf rs).terms rs + 1 := by simp [getT, PS.bump, upd]
  refine ⟨fun k t h => ?_, by rw [e]; omega⟩
  rw [e]
  simp only [PS.bump, if_true, upd] at h
  split at h
  · cases h; exact Int.le_refl _
  · have := mx_top k t h; omega

/-- .. and nobody else. -/
theorem not_inS_raised (x y : ByteArray) (hne : y.toList ≠ x.toList) : ¬ InS ((psOf rs).bump true x (mx (psOf rs).terms rs + 1)).terms y := by
  rintro ⟨h1, _⟩
  have hne' : y.data.toList ≠ x.data.toList := by rw [ByteArray.toList_eq, ByteArray.toList_eq] at hne; exact hne
  have e : getT ((psOf rs).bump true x (mx (psOf rs).terms rs + 1)).terms y = getT (psOf rs).terms y := by simp [getT, PS.bump, upd, hne']
  have := h1 x.data.toList (mx (psOf rs).terms rs + 1) (by simp [PS.bump, upd])
  rw [e] at this
  have := getT_le (rs := rs) y
  omega

theorem state_bump (b : Bool) (x y : ByteArray) (t : Int) : stateB ((psOf rs).bump b x t) y = stateB (psOf rs) y := by
  cases b <;> rfl

end

theorem down_ne : downS ≠ activeS := by decide

/-- The state is active just if the copy is live and published so. -/
theorem state_active (S : PS) (x : ByteArray) : stateB S x = activeS ↔ liveB S x = true ∧ hasS S.states x = true ∧ gets S.states x = activeS := by
  unfold stateB
  cases liveB S x
  · simp [down_ne]
  · cases hasS S.states x
    · simp [down_ne]
    · simp

/-- A copy serves just if it is a contender that published active. -/
theorem serves_contends (S : PS) (c : ByteArray) : (stateB S c = activeS ∧ InS S.terms c) ↔ (Cont S c ∧ hasS S.states c = true ∧ gets S.states c = activeS) := by
  unfold Cont
  rw [state_active]
  constructor
  · rintro ⟨⟨h1, h2, h3⟩, h4⟩
    exact ⟨⟨h1, h4, .inr ⟨h1, h2, h3⟩⟩, h2, h3⟩
  · rintro ⟨⟨h1, h4, _⟩, h2, h3⟩
    exact ⟨⟨h1, h2, h3⟩, h4⟩

end Go.Proofs.Qxb6608675aMods
