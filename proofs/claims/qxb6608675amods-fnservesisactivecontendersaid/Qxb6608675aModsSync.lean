/- (*Shard).InSync: a range over the map of terms. -/
import Derived.Test.Qxb6608675aModsRead
namespace Go.Proofs.Qxb6608675aMods
open Go.RowKit Go.Maps

theorem keyOf_string_inv {key : Value} {kl : Lit} (h : keyOf Trym.prog 9 key = some kl) : ∃ s : ByteArray, key = .string s ∧ kl = .string s.data.toList := by
  have hk := Trym.underlying9
  cases key <;> simp [keyOf, hk, mapKey] at h
  exact ⟨_, rfl, h.2.symm⟩

/-- The range's step, string keys, uint64 elements. -/
theorem wpList_next_st {w : World} {ops : Array Oper} {rest : List Oper} {o : Oper} {a : Act} {Q : Exit → Act → World → Prop}
    (hg : o.guard = none) (it : Operand) (hop : o.op = Op.next it false)
    (b r n : Nat) (D : DataW Unit) (left : Lit → Bool) (cnt : Nat) (hit : a.eval it = .pointer (some ⟨r, 0, none⟩)) (h : w.ranges Trym.prog 9 (plainElem Trym.prog 60) b r n D left cnt)
    (hDone : (∀ kl, left kl = false) → wpList Trym.prog ops Q rest (a.put o.dst (.tuple #[.bool false])) w)
    (hMore : ∀ (x : ByteArray) (c : Int) (w' : World) (cnt' : Nat), (∀ zd, D.atKey (.string x.data.toList) zd = .lit (.int .u64 c)) → w'.ranges Trym.prog 9 (plainElem Trym.prog 60) b r n D (fun z => left z && !z.sameKey (.string x.data.toList)) cnt' → cnt' < cnt →
      w.grownBy w' (some r) → (Instr.entry (.pointer (some ⟨r, 0, none⟩))).run Trym.prog w' = .ok (.tuple #[.string x, .int .u64 c]) w' → wpList Trym.prog ops Q rest (a.put o.dst (.tuple #[.bool true, .string x, .int .u64 c])) w') :
    wpList Trym.prog ops Q (o :: rest) a w :=
  wpList_next_ranges w hg it hop 9 law9 (plainElem Trym.prog 60) Value.string (Value.int .u64) (fun key kl hkey => by obtain ⟨x, rfl, _⟩ := keyOf_string_inv hkey; exact ⟨x, rfl⟩) (fun v y hv => by obtain ⟨c, rfl, _⟩ := plainElem_int_inv Trym.underlying60 hv; exact ⟨c, rfl⟩)
    b r n D left cnt hit h (fun _ hl => hDone hl) (fun x c kl y w' cnt' hkey hlk hv hat hrg hlt hgr hsz hen => by
      obtain ⟨x', ex, rfl⟩ := keyOf_string_inv hkey
      cases ex
      obtain ⟨c', ec, rfl, hwc⟩ := plainElem_int_inv Trym.underlying60 hv
      cases ec
      exact hMore x c w' cnt' hat hrg hlt hgr hen)

/-- What stands at a key that came. -/
theorem came {D : DataW Unit} {g : List UInt8 → Option Int} (hf : ∀ k, Maps.has D (.string k) = (g k).isSome ∧ D.atKey (.string k) (.lit (.int .u64 0)) = .lit (.int .u64 ((g k).getD 0)))
    {k : List UInt8} {c : Int} (hat : ∀ zd, D.atKey (.string k) zd = .lit (.int .u64 c)) : g k = some c := by
  have h1 := has_true_of_atKey hat
  rw [(hf k).1] at h1
  have h2 := hat (.lit (.int .u64 0))
  rw [(hf k).2] at h2
  simp only [DataW.lit.injEq, Lit.int.injEq, true_and] at h2
  cases hg : g k with
  | none => rw [hg] at h1; cases h1
  | some y => rw [hg] at h2; simpa using h2

theorem same_string {a b : List UInt8} : Lit.sameKey (.string a) (.string b) = true ↔ a = b := by
  rw [WideAt.sameKey_iff (key_string b)]; simp

set_option maxHeartbeats 400000 in
set_option maxRecDepth 100000 in
theorem inSync_any (bv bs n : Nat) (S : PS) (cp : Value) (x : ByteArray) (hx : x.size ≤ maxLen) (w : World) (hV : Vw w bv bs n S cp) :
    Calls Trym.prog 35 #[.pointer (some ⟨bs, 0, none⟩), .string x] w fun e w' => ∃ b : Bool, e = .returned (.bool b) ∧ (b = true ↔ InS S.terms x) ∧ Below w.heap.size w w' := by
  obtain ⟨m1, m2, m3, m4, m5, c1, c2, c3, c4, c5, c6, h1, h2, h3, h4, h5⟩ := hV
  obtain ⟨l4, wf4⟩ := h4.look x hx
  have hlt4 := h4.lt
  obtain ⟨D, hown, hf⟩ := h4
  have HF : Hid (∀ k, Maps.has D (.string k) = (S.terms k).isSome ∧ D.atKey (.string k) (.lit (.int .u64 0)) = .lit (.int .u64 ((S.terms k).getD 0))) := hf
  clear h1 h2 h3 h5 c1 c2 c3 c5 c6 hf
  go_enter Trym.func35, Trym.ntmps35
  go_wp2_with (first
    | (at_range; refine wpList_range_own _ rfl _ 56 rfl 9 60 law9 Trym.underlying56 _ m4 n _ rfl hown ?_; intro w0 hrg0 hg0 hs0)
    | go_in)
  go_frame
  go_loopw [7] (fun _ wr => ∃ (left : Lit → Bool) (cnt : Nat), wr.ranges Trym.prog 9 (plainElem Trym.prog 60) m4 w.heap.size n D left cnt ∧ (∀ k t, S.terms k = some t → left (.string k) = true ∨ t ≤ getT S.terms x) ∧ Below w.heap.size w wr)
    (fun _ wr => wr.rangeLeft m4 w.heap.size)
  case atStart =>
    refine ⟨_, _, hrg0, fun k t ht => .inl ?_, (Below.refl _ _).grown hg0 (Nat.le_refl _) (by simp)⟩
    rw [(HF.out k).1, ht]; rfl
  case round =>
    obtain ⟨left, cnt, hrg, hle, hbw⟩ := hrel
    have HL : Hid (∀ k t, S.terms k = some t → left (.string k) = true ∨ t ≤ getT S.terms x) := hle
    clear hle
    go_wp2_with (first
      | (at_next; refine wpList_next_st rfl _ rfl m4 w.heap.size n _ _ _ rfl hrg ?_ ?_)
      | go_in)
    · intro hl0
      go_wp2
      go_ret
      refine ⟨_, rfl, ?_, hbw⟩
      refine ⟨fun h => ⟨fun k t ht => (HL.out k t ht).resolve_left (by rw [hl0]; simp), by simpa using h⟩, fun h => by simpa using h.2⟩
    · intro k c w1 cnt1 hat hrg1 hlt hg1 hen
      have hk := came HF.out hat
      clear hat
      have HK : Hid (S.terms k.data.toList = some c) := hk
      clear hk
      go_wp2
      · go_ret
        have hgt : getT S.terms x < c := by assumption
        refine ⟨false, rfl, ⟨fun h => (by cases h), fun h => ?_⟩, hbw.grown hg1 hbw.size (fun j hj => by cases hj; exact Nat.le_refl _)⟩
        have := h.1 _ _ HK.out
        omega
      · go_roundw
        case rel =>
          have hgt : c ≤ getT S.terms x := by first | assumption | omega
          refine ⟨_, cnt1, hrg1, fun k' t ht => ?_, hbw.grown hg1 hbw.size (fun j hj => by cases hj; exact Nat.le_refl _)⟩
          by_cases e : k' = k.data.toList
          · rw [e, HK.out] at ht
            cases ht
            exact .inr hgt
          · rcases HL.out k' t ht with h | h
            rotate_left
            · exact .inr h
            left
            have : Lit.sameKey (.string k') (.string k.data.toList) = false := by
              cases hs : Lit.sameKey (.string k') (.string k.data.toList)
              · rfl
              · exact absurd (same_string.1 hs) e
            rw [h, this]; rfl
        case measure => rw [hrg1.left_eq, hrg.left_eq]; exact hlt

end Go.Proofs.Qxb6608675aMods
