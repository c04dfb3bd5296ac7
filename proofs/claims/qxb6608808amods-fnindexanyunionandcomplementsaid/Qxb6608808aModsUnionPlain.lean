/- FnIndexAnyUnionAndComplement: the plain laws, and the six sets in memory. -/
import Derived.Test.Qxb6608808aModsJoin
namespace Go.Proofs.Qxb6608808aMods
open Go.RowKit

theorem Idx.never {l : List UInt8} {r : Int} (h : Idx (fun _ => false) l r) : r = -1 := by
  rcases h with ⟨h, _⟩ | ⟨k, _, _, h, _⟩
  · exact h
  · cases h

theorem Idx.nil {f : UInt8 → Bool} {r : Int} (h : Idx f [] r) : r = -1 := by
  rcases h with ⟨h, _⟩ | ⟨k, hk, _⟩
  · exact h
  · simp at hk

theorem Idx.always {b : UInt8} {l : List UInt8} {r : Int} (h : Idx (fun _ => true) (b :: l) r) : r = 0 := by
  rcases h with ⟨_, h⟩ | ⟨k, hk, rfl, _, h⟩
  · have := h b (by simp); cases this
  · cases k with
    | zero => rfl
    | succ k => have := h b (by simp); cases this

theorem Idx.zero {f : UInt8 → Bool} {b : UInt8} {l : List UInt8} {r : Int} (h : Idx f (b :: l) r) : (r == 0) = f b := by
  rcases h with ⟨rfl, h⟩ | ⟨k, hk, rfl, hf, h⟩
  · rw [h b (by simp)]; rfl
  · cases k with
    | zero => have hf' : f b = true := hf; rw [hf']; rfl
    | succ k =>
      rw [h b (by simp)]
      rw [beq_eq_false_iff_ne]
      omega

theorem mem_take {l : List UInt8} (i j : Nat) (hi : i < l.length) (hij : i < j) : l[i] ∈ l.take j := List.mem_take_iff_getElem.2 ⟨i, by omega, rfl⟩

theorem take_sub {l : List UInt8} {i j : Nat} (h : i ≤ j) {b : UInt8} (hb : b ∈ l.take i) : b ∈ l.take j := by
  obtain ⟨n, hn, rfl⟩ := List.mem_take_iff_getElem.1 hb
  exact List.mem_take_iff_getElem.2 ⟨n, by omega, rfl⟩

theorem Idx.union {fa fb : UInt8 → Bool} {l : List UInt8} {ra rb : Int} (ha : Idx fa l ra) (hb : Idx fb l rb) :
    Idx (fun b => fa b || fb b) l (if ra < 0 then rb else if rb < 0 then ra else if ra < rb then ra else rb) := by
  rcases ha with ⟨rfl, ha⟩ | ⟨k, hk, rfl, hfk, hnk⟩
  · rw [if_pos (by decide)]
    rcases hb with ⟨rfl, hb⟩ | ⟨m, hm, rfl, hfm, hnm⟩
    · exact .inl ⟨rfl, fun b h => by simp [ha b h, hb b h]⟩
    · exact .inr ⟨m, hm, rfl, by simp [hfm], fun b h => by simp [ha b (List.mem_of_mem_take h), hnm b h]⟩
  · rw [if_neg (by omega)]
    rcases hb with ⟨rfl, hb⟩ | ⟨m, hm, rfl, hfm, hnm⟩
    · rw [if_pos (by decide)]
      exact .inr ⟨k, hk, rfl, by simp [hfk], fun b h => by simp [hb b (List.mem_of_mem_take h), hnk b h]⟩
    · rw [if_neg (by omega)]
      by_cases hkm : k < m
      · rw [if_pos (by omega)]
        exact .inr ⟨k, hk, rfl, by simp [hfk], fun b h => by simp [hnk b h, hnm b (take_sub (by omega) h)]⟩
      · rw [if_neg (by omega)]
        exact .inr ⟨m, hm, rfl, by simp [hfm], fun b h => by simp [hnm b h, hnk b (take_sub (by omega) h)]⟩

/-- 256 times false. -/
def zeros : Array Value := Array.replicate 256 (.bool false)

theorem zeros_set : IsSet zeros (fun _ => false) := by
  refine ⟨by simp [zeros], fun b => ?_⟩
  rw [zeros, Array.getElem?_replicate, if_pos b.toNat_lt]

theorem run_alloc22 (w : World) : (Instr.alloc 22 true (.tuple #[])).run Trym.prog w = .ok (.pointer (some ⟨w.heap.size, 0, none⟩)) (w.alloc (.cells zeros 22)) := by kernel_rfl

/-- 'var u [256]bool'. -/
theorem wpList_alloc22 {ops : Array Oper} {rest : List Oper} {o : Oper} {a : Act} {w : World} {Q : Exit → Act → World → Prop} (hgd : o.guard = none) (ho : o.op = .alloc 22)
    (h : wpList Trym.prog ops Q rest (a.put o.dst (.pointer (some ⟨w.heap.size, 0, none⟩))) (w.alloc (.cells zeros 22))) : wpList Trym.prog ops Q (o :: rest) a w := by
  refine wpList_plain hgd fun K hK => ?_
  unfold Oper.wp
  simp only [execOp, ho, Sem.run_bind, Sem.run_pure, run_alloc22, Result.andThen_ok]
  exact hK _ _ h

set_option maxHeartbeats 400000 in
theorem firstOf_any (x y : Int) (w : World) :
    Calls Trym.prog 8 #[.int .i64 x, .int .i64 y] w fun e w' => e = .returned (.int .i64 (if x < 0 then y else if y < 0 then x else if x < y then x else y)) ∧ w' = w := by
  by_cases h1 : x < 0
  · go_enter Trym.func8, Trym.ntmps8
    go_wp2
    go_ret
    exact ⟨by simp, rfl⟩
  · by_cases h2 : y < 0
    · go_enter Trym.func8, Trym.ntmps8
      go_wp2
      go_ret
      exact ⟨by simp, rfl⟩
    · by_cases h3 : x < y
      all_goals
        go_enter Trym.func8, Trym.ntmps8
        go_wp2
        go_ret
        exact ⟨by simp, rfl⟩

/-- The six sets in memory. -/
structure Six (w W : World) (bA bB bU bN bF bE : Nat) (ca cb cu cn cf : Array Value) : Prop where
  gA : W.heap[bA]? = some (.cells ca 22 (0, 0))
  gB : W.heap[bB]? = some (.cells cb 22 (0, 0))
  gU : W.heap[bU]? = some (.cells cu 22 (0, 0))
  gN : W.heap[bN]? = some (.cells cn 22 (0, 0))
  gF : W.heap[bF]? = some (.cells cf 22 (0, 0))
  gE : W.heap[bE]? = some (.cells zeros 22 (0, 0))
  ord : w.heap.size ≤ bA ∧ bA < bB ∧ bB < bU ∧ bU < bN ∧ bN < bF ∧ bF < bE
  bel : Below w.heap.size w W

section
variable {w W W' : World} {bA bB bU bN bF bE : Nat} {ca cb cu cn cf : Array Value}

theorem Six.below (h : Six w W bA bB bU bN bF bE ca cb cu cn cf) (hb : Below W.heap.size W W') : Six w W' bA bB bU bN bF bE ca cb cu cn cf := by
  obtain ⟨gA, gB, gU, gN, gF, gE, o, bl⟩ := h
  have lt : ∀ {i : Nat} {o : Obj}, W.heap[i]? = some o → i < W.heap.size := fun h => (Array.getElem?_eq_some_iff.1 h).1
  exact ⟨(hb.block _ (lt gA)).trans gA, (hb.block _ (lt gB)).trans gB, (hb.block _ (lt gU)).trans gU, (hb.block _ (lt gN)).trans gN, (hb.block _ (lt gF)).trans gF, (hb.block _ (lt gE)).trans gE, o, bl.trans (hb.mono bl.size)⟩

theorem Six.store (h : Six w W bA bB bU bN bF bE ca cb cu cn cf) (k : Nat) (u n f : Value) :
    Six w (((W.setCell ⟨bU, k, none⟩ u).setCell ⟨bN, k, none⟩ n).setCell ⟨bF, k, none⟩ f) bA bB bU bN bF bE ca cb (cu.setIfInBounds k u) (cn.setIfInBounds k n) (cf.setIfInBounds k f) := by
  obtain ⟨gA, gB, gU, gN, gF, gE, o, bl⟩ := h
  refine ⟨?_, ?_, ?_, ?_, ?_, ?_, o, ?_⟩
  · rw [heap_setCell_other _ _ _ _ (by simp only; omega), heap_setCell_other _ _ _ _ (by simp only; omega), heap_setCell_other _ _ _ _ (by simp only; omega)]; exact gA
  · rw [heap_setCell_other _ _ _ _ (by simp only; omega), heap_setCell_other _ _ _ _ (by simp only; omega), heap_setCell_other _ _ _ _ (by simp only; omega)]; exact gB
  · rw [heap_setCell_other _ _ _ _ (by simp only; omega), heap_setCell_other _ _ _ _ (by simp only; omega)]; exact heap_setCell_same W bU k cu 22 u gU
  · rw [heap_setCell_other _ _ _ _ (by simp only; omega)]
    refine heap_setCell_same _ bN k cn 22 n ?_
    rw [heap_setCell_other _ _ _ _ (by simp only; omega)]; exact gN
  · refine heap_setCell_same _ bF k cf 22 f ?_
    rw [heap_setCell_other _ _ _ _ (by simp only; omega), heap_setCell_other _ _ _ _ (by simp only; omega)]; exact gF
  · rw [heap_setCell_other _ _ _ _ (by simp only; omega), heap_setCell_other _ _ _ _ (by simp only; omega), heap_setCell_other _ _ _ _ (by simp only; omega)]; exact gE
  · exact ((bl.setCell (by simp only; omega) _).setCell (by simp only; omega) _).setCell (by simp only; omega) _
end

/-- The first k cells are told by f. -/
def Upto (cs : Array Value) (f : UInt8 → Bool) (k : Nat) : Prop := cs.size = 256 ∧ ∀ b : UInt8, b.toNat < k → cs[b.toNat]? = some (.bool (f b))

theorem Upto.zero (f : UInt8 → Bool) : Upto zeros f 0 := ⟨by simp [zeros], fun b h => by omega⟩

theorem Upto.step {cs : Array Value} {f : UInt8 → Bool} {k : Nat} (h : Upto cs f k) {x : UInt8} (hx : x.toNat = k) : Upto (cs.setIfInBounds k (.bool (f x))) f (k + 1) := by
  obtain ⟨hs, hc⟩ := h
  refine ⟨by simpa using hs, fun b hb => ?_⟩
  rw [Array.getElem?_setIfInBounds]
  by_cases e : k = b.toNat
  · rw [if_pos e, if_pos (by have := b.toNat_lt; omega)]
    have : b = x := by rw [← UInt8.toNat_inj]; omega
    rw [this]
  · rw [if_neg e]
    exact hc b (by omega)

theorem Upto.whole {cs : Array Value} {f : UInt8 → Bool} (h : Upto cs f 256) : IsSet cs f := ⟨h.1, fun b => h.2 b b.toNat_lt⟩

end Go.Proofs.Qxb6608808aMods
