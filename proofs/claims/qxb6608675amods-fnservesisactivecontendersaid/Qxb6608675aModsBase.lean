/- Maps of strings and of terms told by plain functions: SMap, TMap; their laws. -/
import Derived.Test.Qxb6608675aModsRows
import Derived.WalkKit
import Derived.WalkSpells
import Derived.WalkLawsBesides
import Derived.BigQuiet
import Derived.Deep.QuietTactic
import Derived.Maps.RangeWalk
import Derived.Maps.StringElems
namespace Go.Proofs.Qxb6608675aMods
open Go.RowKit Go.Maps

theorem law9 : Keyed Trym.prog 9 := string_keyed Trym.underlying9

/-- Block b of w is a map from strings to strings (elements of type E), at most n entries, that f tells. -/
def SMap (w : World) (E : TypeId) (b n : Nat) (f : List UInt8 → Option (List UInt8)) : Prop :=
  ∃ D : DataW Unit, w.ownsMap Trym.prog 9 (plainElem Trym.prog E) b n D ∧
    ∀ k, Maps.has D (.string k) = (f k).isSome ∧ D.atKey (.string k) (.lit (.string [])) = .lit (.string ((f k).getD []))

/-- Block b of w is a map from strings to uint64, at most n entries, that f tells. -/
def TMap (w : World) (b n : Nat) (f : List UInt8 → Option Int) : Prop :=
  ∃ D : DataW Unit, w.ownsMap Trym.prog 9 (plainElem Trym.prog 60) b n D ∧
    ∀ k, Maps.has D (.string k) = (f k).isSome ∧ D.atKey (.string k) (.lit (.int .u64 0)) = .lit (.int .u64 ((f k).getD 0))

def upd {α : Type} (f : List UInt8 → Option α) (k : List UInt8) (v : α) : List UInt8 → Option α :=
  fun x => if x = k then some v else f x

/-- What a look-up hands back. -/
def gets (f : List UInt8 → Option (List UInt8)) (s : ByteArray) : ByteArray := ⟨((f s.data.toList).getD []).toArray⟩
def hasS (f : List UInt8 → Option (List UInt8)) (s : ByteArray) : Bool := (f s.data.toList).isSome
def getT (f : List UInt8 → Option Int) (s : ByteArray) : Int := (f s.data.toList).getD 0

theorem SMap.made (w : World) (E : TypeId) : SMap (w.alloc (.map #[] 0)) E w.heap.size 0 (fun _ => none) :=
  ⟨_, World.ownsMap_made w Trym.prog 9 (plainElem Trym.prog E), fun _ => ⟨rfl, rfl⟩⟩
theorem TMap.made (w : World) : TMap (w.alloc (.map #[] 0)) w.heap.size 0 (fun _ => none) :=
  ⟨_, World.ownsMap_made w Trym.prog 9 (plainElem Trym.prog 60), fun _ => ⟨rfl, rfl⟩⟩

section
variable {w w' : World} {E : TypeId} {b n : Nat} {f : List UInt8 → Option (List UInt8)} {g : List UInt8 → Option Int}

theorem SMap.lt (h : SMap w E b n f) : b < w.heap.size := by obtain ⟨D, ho, _⟩ := h; exact ho.lt
theorem TMap.lt (h : TMap w b n g) : b < w.heap.size := by obtain ⟨D, ho, _⟩ := h; exact ho.lt
theorem SMap.same (h : SMap w E b n f) (hb : w'.heap[b]? = w.heap[b]?) : SMap w' E b n f := by
  obtain ⟨D, ⟨es, clock, h1, r⟩, hf⟩ := h; exact ⟨D, ⟨es, clock, hb.trans h1, r⟩, hf⟩
theorem TMap.same (h : TMap w b n g) (hb : w'.heap[b]? = w.heap[b]?) : TMap w' b n g := by
  obtain ⟨D, ⟨es, clock, h1, r⟩, hf⟩ := h; exact ⟨D, ⟨es, clock, hb.trans h1, r⟩, hf⟩
theorem SMap.mono (h : SMap w E b n f) {m : Nat} (hm : n ≤ m) : SMap w E b m f := by
  obtain ⟨D, ho, hf⟩ := h; exact ⟨D, ho.mono hm, hf⟩
theorem TMap.mono (h : TMap w b n g) {m : Nat} (hm : n ≤ m) : TMap w b m g := by
  obtain ⟨D, ho, hf⟩ := h; exact ⟨D, ho.mono hm, hf⟩
theorem SMap.below {B : Nat} (h : SMap w E b n f) (hb : Below B w w') (hB : b < B) : SMap w' E b n f := h.same (hb.block b hB)
theorem TMap.below {B : Nat} (h : TMap w b n g) (hb : Below B w w') (hB : b < B) : TMap w' b n g := h.same (hb.block b hB)
theorem SMap.kept {row : Option Nat} (h : SMap w E b n f) (hg : w.grownBy w' row) (hne : some b ≠ row) : SMap w' E b n f := h.same (hg.block b h.lt hne)
theorem TMap.kept {row : Option Nat} (h : TMap w b n g) (hg : w.grownBy w' row) (hne : some b ≠ row) : TMap w' b n g := h.same (hg.block b h.lt hne)
end

theorem zero9 (w : World) : (zeroValue 9).run Trym.prog w = .ok (.string ⟨#[]⟩) w := by kernel_rfl
theorem zero69 (w : World) : (zeroValue 69).run Trym.prog w = .ok (.string ⟨#[]⟩) w := by kernel_rfl
theorem zero60 (w : World) : (zeroValue 60).run Trym.prog w = .ok (.int .u64 0) w := by kernel_rfl

theorem bytes_of {s : ByteArray} {l : List UInt8} (h : s.data.toList = l) : s = ⟨l.toArray⟩ := by
  subst h; cases s; simp

/-- 'm[k]'. -/
theorem SMap.look {w : World} {t E : TypeId} {b n : Nat} {f : List UInt8 → Option (List UInt8)} (h : SMap w E b n f) (ht : Trym.prog.underlying t = some (.map 9 E)) (hE : Trym.prog.underlying E = some .string)
    (hz : (zeroValue E).run Trym.prog w = .ok (.string ⟨#[]⟩) w) (s : ByteArray) (hs : s.size ≤ maxLen) :
    (Instr.lookup t (.map (some b)) (.string s) false).run Trym.prog w = .ok (.string (gets f s)) w ∧ (gets f s).size ≤ maxLen := by
  obtain ⟨D, ho, hf⟩ := h
  have hzd : plainElem (H := Unit) Trym.prog E (.string ⟨#[]⟩) = some (.lit (.string []), []) := plainElem_string hE (by decide)
  obtain ⟨v, ps, hrun, hv⟩ := ho.lookup law9 ht hz hzd (WideMaps.keyOf_string_mk Trym.underlying9 hs)
  obtain ⟨c, rfl, hc, hl⟩ := plainElem_string_inv hE hv
  rw [(hf _).2] at hc
  simp only [Prod.mk.injEq, DataW.lit.injEq, Lit.string.injEq] at hc
  have e : c = gets f s := bytes_of hc.1.symm
  rw [e] at hrun hl
  exact ⟨hrun, hl⟩

/-- 'v, ok := m[k]'. -/
theorem SMap.look_ok {w : World} {t E : TypeId} {b n : Nat} {f : List UInt8 → Option (List UInt8)} (h : SMap w E b n f) (ht : Trym.prog.underlying t = some (.map 9 E)) (hE : Trym.prog.underlying E = some .string)
    (hz : (zeroValue E).run Trym.prog w = .ok (.string ⟨#[]⟩) w) (s : ByteArray) (hs : s.size ≤ maxLen) :
    (Instr.lookup t (.map (some b)) (.string s) true).run Trym.prog w = .ok (.tuple #[.string (gets f s), .bool (hasS f s)]) w ∧ (gets f s).size ≤ maxLen := by
  obtain ⟨D, ho, hf⟩ := h
  have hzd : plainElem (H := Unit) Trym.prog E (.string ⟨#[]⟩) = some (.lit (.string []), []) := plainElem_string hE (by decide)
  obtain ⟨v, ps, hrun, hv⟩ := ho.look_ok law9 ht hz hzd (WideMaps.keyOf_string_mk Trym.underlying9 hs)
  obtain ⟨c, rfl, hc, hl⟩ := plainElem_string_inv hE hv
  rw [(hf _).2] at hc
  simp only [Prod.mk.injEq, DataW.lit.injEq, Lit.string.injEq] at hc
  have e : c = gets f s := bytes_of hc.1.symm
  rw [e, (hf _).1] at hrun
  rw [e] at hl
  exact ⟨hrun, hl⟩

theorem TMap.look {w : World} {b n : Nat} {g : List UInt8 → Option Int} (h : TMap w b n g) (s : ByteArray) (hs : s.size ≤ maxLen) :
    (Instr.lookup 56 (.map (some b)) (.string s) false).run Trym.prog w = .ok (.int .u64 (getT g s)) w ∧ (Lit.int .u64 (getT g s)).wf = true := by
  obtain ⟨D, ho, hf⟩ := h
  obtain ⟨c, hrun, hc, hl⟩ := ho.lookup_int law9 Trym.underlying56 Trym.underlying60 (zero60 w) (WideMaps.keyOf_string_mk Trym.underlying9 hs)
  rw [(hf _).2] at hc
  simp only [DataW.lit.injEq, Lit.int.injEq, true_and] at hc
  rw [← hc] at hrun hl
  exact ⟨hrun, hl⟩

theorem key_string (k : List UInt8) : WideAt.IsKeyLit (.string k) := by simp [WideAt.IsKeyLit]

theorem SMap.put {w' : World} {E : TypeId} {b n : Nat} {f : List UInt8 → Option (List UInt8)} {D : DataW Unit} {k v : List UInt8}
    (ho : w'.ownsMap Trym.prog 9 (plainElem Trym.prog E) b n (D.put (.string k) (.lit (.string v)))) (hD : IsMap D)
    (hf : ∀ k, Maps.has D (.string k) = (f k).isSome ∧ D.atKey (.string k) (.lit (.string [])) = .lit (.string ((f k).getD []))) : SMap w' E b n (upd f k v) := by
  refine ⟨_, ho, fun x => ?_⟩
  by_cases e : x = k
  · subst e
    simp [upd, has_put_same hD (key_string x), atKey_put_same hD (key_string x)]
  · have hne : Lit.string x ≠ Lit.string k := fun h => e (by simpa using h)
    simp only [upd, e, if_false]
    rw [has_put_other hne, atKey_put_other hne]
    exact hf x

theorem TMap.put {w' : World} {b n : Nat} {f : List UInt8 → Option Int} {D : DataW Unit} {k : List UInt8} {v : Int}
    (ho : w'.ownsMap Trym.prog 9 (plainElem Trym.prog 60) b n (D.put (.string k) (.lit (.int .u64 v)))) (hD : IsMap D)
    (hf : ∀ k, Maps.has D (.string k) = (f k).isSome ∧ D.atKey (.string k) (.lit (.int .u64 0)) = .lit (.int .u64 ((f k).getD 0))) : TMap w' b n (upd f k v) := by
  refine ⟨_, ho, fun x => ?_⟩
  by_cases e : x = k
  · subst e
    simp [upd, has_put_same hD (key_string x), atKey_put_same hD (key_string x)]
  · have hne : Lit.string x ≠ Lit.string k := fun h => e (by simpa using h)
    simp only [upd, e, if_false]
    rw [has_put_other hne, atKey_put_other hne]
    exact hf x

/-- 'm[k] = v' at the operation, strings. -/
theorem wpList_put_s {w : World} {ops : Array Oper} {rest : List Oper} {o : Oper} {a : Act} {Q : Exit → Act → World → Prop}
    (hg : o.guard = none) (m x v : Operand) (t : TypeId) (hop : o.op = Op.mapUpdate t m x v) (E : TypeId) (ht : Trym.prog.underlying t = some (.map 9 E)) (hE : Trym.prog.underlying E = some .string)
    (b n : Nat) (f : List UInt8 → Option (List UInt8)) (hm : a.eval m = .map (some b)) (hown : SMap w E b n f) (hn : n < maxLen) (key val : ByteArray)
    (hx : a.eval x = .string key) (hv : a.eval v = .string val) (hk : key.size ≤ maxLen) (hvl : val.size ≤ maxLen)
    (hK : ∀ w', SMap w' E b (n + 1) (upd f key.data.toList val.data.toList) → w.grownBy w' (some b) → wpList Trym.prog ops Q rest (a.put o.dst undef) w') :
    wpList Trym.prog ops Q (o :: rest) a w := by
  obtain ⟨D, ho, hf⟩ := hown
  refine wpList_mapUpdate_own w hg m x v t hop 9 E law9 ht _ b n D hm ho hn _ _ _ hx hv (WideMaps.keyOf_string_mk Trym.underlying9 hk) _ _ (plainElem_string hE hvl) (fun w' h1 h2 => hK w' (SMap.put h1 ho.isMap hf) h2)

theorem wpList_put_t {w : World} {ops : Array Oper} {rest : List Oper} {o : Oper} {a : Act} {Q : Exit → Act → World → Prop}
    (hg : o.guard = none) (m x v : Operand) (hop : o.op = Op.mapUpdate 56 m x v)
    (b n : Nat) (f : List UInt8 → Option Int) (hm : a.eval m = .map (some b)) (hown : TMap w b n f) (hn : n < maxLen) (key : ByteArray) (val : Int)
    (hx : a.eval x = .string key) (hv : a.eval v = .int .u64 val) (hk : key.size ≤ maxLen) (hvl : (Lit.int .u64 val).wf = true)
    (hK : ∀ w', TMap w' b (n + 1) (upd f key.data.toList val) → w.grownBy w' (some b) → wpList Trym.prog ops Q rest (a.put o.dst undef) w') :
    wpList Trym.prog ops Q (o :: rest) a w := by
  obtain ⟨D, ho, hf⟩ := hown
  refine wpList_mapUpdate_own w hg m x v 56 hop 9 60 law9 Trym.underlying56 _ b n D hm ho hn _ _ _ hx hv (WideMaps.keyOf_string_mk Trym.underlying9 hk) _ _ (plainElem_int Trym.underlying60 hvl) (fun w' h1 h2 => hK w' (TMap.put h1 ho.isMap hf) h2)

end Go.Proofs.Qxb6608675aMods
