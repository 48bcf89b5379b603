/-
  'make([]Param, 0, n)' and 'append' within the capacity, over rows of parameters.
-/
import Derived.Test.Qxb6632327aParam
namespace Go.Proofs.Qxb6632327a
open Go.RowKit

def cellOf (T : Nat → Int) (V : Nat → SV) (i : Nat) : Value := if i % 2 = 0 then .int .u16 (T (i / 2)) else .slice (V (i / 2)).a (V (i / 2)).n (V (i / 2)).c
def cat {α : Type} (k : Nat) (f g : Nat → α) : Nat → α := fun j => if j < k then f j else g (j - k)
theorem cat_ge {α : Type} (k : Nat) (f g : Nat → α) (m : Nat) : cat k f g (k + m) = g m := by
  simp only [cat, if_neg (show ¬ k + m < k by omega), Nat.add_sub_cancel_left]

theorem cellOf_even (T : Nat → Int) (V : Nat → SV) (j : Nat) : cellOf T V (j * 2) = .int .u16 (T j) := by
  have h1 : j * 2 % 2 = 0 := by omega
  have h2 : j * 2 / 2 = j := by omega
  simp [cellOf]
theorem cellOf_odd (T : Nat → Int) (V : Nat → SV) (j : Nat) : cellOf T V (j * 2 + 1) = .slice (V j).a (V j).n (V j).c := by
  have h1 : ¬ (j * 2 + 1) % 2 = 0 := by omega
  have h2 : (j * 2 + 1) / 2 = j := by omega
  simp only [cellOf, if_neg h1, h2]
theorem cellOf_one (T : Nat → Int) (V : Nat → SV) (i : Nat) : (cellOf T V i).oneCell' = true := by
  unfold cellOf; split <;> rfl
theorem cellOf_lt (T T2 : Nat → Int) (V V2 : Nat → SV) (k i : Nat) (h : i < k * 2) : cellOf (cat k T T2) (cat k V V2) i = cellOf T V i := by
  simp [cellOf, cat, show i / 2 < k by omega]
theorem cellOf_ge (T T2 : Nat → Int) (V V2 : Nat → SV) (k i : Nat) : cellOf (cat k T T2) (cat k V V2) (k * 2 + i) = cellOf T2 V2 i := by
  have h1 : (k * 2 + i) % 2 = i % 2 := by omega
  have h2 : (k * 2 + i) / 2 = k + i / 2 := by omega
  simp only [cellOf, cat_ge, h1, h2]

theorem pairs_of {cur : Array Value} {n : Nat} {T : Nat → Int} {V : Nat → SV} (h : ∀ i, i < n * 2 → cur[i]? = some (cellOf T V i)) :
    ∀ j, j < n → cur[j * 2]? = some (.int .u16 (T j)) ∧ cur[j * 2 + 1]? = some (.slice (V j).a (V j).n (V j).c) := fun j hj => by
  refine ⟨?_, ?_⟩
  · rw [h _ (by omega), cellOf_even]
  · rw [h _ (by omega), cellOf_odd]
theorem of_pairs {cur : Array Value} {n : Nat} {T : Nat → Int} {V : Nat → SV}
    (h : ∀ j, j < n → cur[j * 2]? = some (.int .u16 (T j)) ∧ cur[j * 2 + 1]? = some (.slice (V j).a (V j).n (V j).c)) : ∀ i, i < n * 2 → cur[i]? = some (cellOf T V i) := fun i hi => by
  have := h (i / 2) (by omega)
  by_cases e : i % 2 = 0
  · rw [show i / 2 * 2 = i by omega] at this
    rw [this.1]; simp [cellOf, e]
  · rw [show i / 2 * 2 + 1 = i by omega] at this
    rw [this.2]; simp [cellOf, e]

/-- m parameters lie at the head of block b. -/
def Src (w : World) (b m : Nat) (T : Nat → Int) (V : Nat → SV) : Prop := ∀ i, i < m * 2 → w.cell? ⟨b, i, none⟩ = some (cellOf T V i)

theorem Row.src {w : World} {g m n : Nat} {T : Nat → Int} {V : Nat → SV} (h : Row w g m n T V) : Src w g n T V := by
  obtain ⟨cur, hg, hs, _, hc⟩ := h
  intro i hi
  simp [World.cell?, hg, of_pairs hc i hi]

theorem run_make0 (n : Nat) (w : World) (hn : n ≤ 2000000) : ∃ w1, (Instr.makeSlice 28 (.int .i64 0) (.int .i64 (n : Int))).run Try.prog w = .ok (.slice (some ⟨w.heap.size, 0, none⟩) 0 n) w1 ∧
    (∀ T V, Row w1 w.heap.size n 0 T V) ∧ Below w.heap.size w w1 := by
  obtain ⟨i0, hi, hz0, hz1, hz2⟩ := info_parts Try.info32
  obtain ⟨w1, hr, ho, hg⟩ := run_make_own (P := Try.prog) w w.heap.size 28 32 i0 (.agg #[.int .u16 0, .slice none 0 0]) 2 Try.underlying28 hi hz0 hz1 .i64 .i64 n (by rw [hz2]; omega) (by unfold maxLen; omega) (Nat.le_refl _)
  refine ⟨w1, hr, fun T V => ?_, (Below.refl _ w).grown hg (Nat.le_refl _) (fun k h => by cases h)⟩
  obtain ⟨hl, ⟨h, _⟩ | ⟨g, cap, cur, hv, _, hh, hnc, _, hcs, hct⟩⟩ := ho
  · simp at h
  · simp at hv
    obtain ⟨rfl, rfl⟩ := hv
    exact ⟨cur, hh, by omega, Nat.zero_le _, fun j hj => by omega⟩

theorem run_app (g k cap b m c : Nat) (T T2 : Nat → Int) (V V2 : Nat → SV) (w : World) (hr : Row w g cap k T V) (hs : Src w b m T2 V2) (hf : k + m ≤ cap) (hcap : cap ≤ 2000000) :
    ∃ w1, (∀ ty, (Builtin.append_ #[28, 28] ty #[.slice (some ⟨g, 0, none⟩) k cap, .slice (some ⟨b, 0, none⟩) m c]).run Try.prog w = .ok (.slice (some ⟨g, 0, none⟩) (k + m) cap) w1) ∧
      Row w1 g cap (k + m) (cat k T T2) (cat k V V2) ∧ Below g w w1 := by
  obtain ⟨i0, hi, hz0, hz1, hz2⟩ := info_parts Try.info32
  have hg := hr.lt
  obtain ⟨cur, h1, h2, h3, h4⟩ := hr
  have hcm : cap ≤ maxLen := by unfold maxLen; omega
  have hown : w.ownsRow g 32 2 (.slice (some ⟨g, 0, none⟩) k cap) k (cur.toList.take (k * 2)) :=
    ⟨by simp [h2]; omega, .inr ⟨g, cap, cur, rfl, Nat.le_refl _, h1, h3, hcm, h2, rfl⟩⟩
  have hl : ((List.range (m * 2)).map (cellOf T2 V2)).length = m * 2 := by simp
  have hnews : ∀ j u, ((List.range (m * 2)).map (cellOf T2 V2))[j]? = some u → w.cell? ((⟨b, 0, none⟩ : Addr).add j) = some u := by
    intro j u hj
    rw [List.getElem?_map] at hj
    by_cases hjm : j < m * 2
    · rw [List.getElem?_range hjm] at hj
      simp at hj
      subst hj
      rw [WideShapes.add_plain, Nat.zero_add]
      exact hs j hjm
    · rw [List.getElem?_eq_none (by simpa using hjm)] at hj
      simp at hj
  have h1c : ∀ u ∈ (List.range (m * 2)).map (cellOf T2 V2), u.oneCell' = true := by
    intro u hu
    obtain ⟨i, _, rfl⟩ := List.mem_map.1 hu
    exact cellOf_one _ _ _
  have run0 := fun ty => run_append_fits (P := Try.prog) w g 28 ty 32 i0 2 Try.underlying28 hi hz1 g k cap _ hown ⟨b, 0, none⟩ m c _ hl hnews h1c hf
  obtain ⟨w1, hrun, ho, hgr⟩ := run0 0
  refine ⟨w1, fun ty => ?_, ?_, ?_⟩
  · obtain ⟨w2, hrun2, _, _⟩ := run0 ty
    have e : (Builtin.append_ #[28, 28] ty #[.slice (some ⟨g, 0, none⟩) k cap, .slice (some ⟨b, 0, none⟩) m c]).run Try.prog w = (Builtin.append_ #[28, 28] 0 #[.slice (some ⟨g, 0, none⟩) k cap, .slice (some ⟨b, 0, none⟩) m c]).run Try.prog w := rfl
    rw [e]; exact hrun
  · obtain ⟨hl2, ⟨h, _⟩ | ⟨g', cap', cur', hv, _, hh, hnc, _, hcs, hct⟩⟩ := ho
    · simp at h
    · simp at hv
      obtain ⟨rfl, rfl⟩ := hv
      refine ⟨cur', hh, hcs, hf, pairs_of fun i hi => ?_⟩
      have e : (cur'.toList.take ((k + m) * 2))[i]? = (cur.toList.take (k * 2) ++ (List.range (m * 2)).map (cellOf T2 V2))[i]? := by rw [hct]
      rw [List.getElem?_take_of_lt hi] at e
      have e2 : cur'[i]? = cur'.toList[i]? := by simp
      rw [e2, e]
      have hlen : (cur.toList.take (k * 2)).length = k * 2 := by simp [h2]; omega
      by_cases hik : i < k * 2
      · rw [List.getElem?_append_left (by omega), List.getElem?_take_of_lt hik, cellOf_lt _ _ _ _ _ _ hik, ← of_pairs h4 i hik]
        simp
      · rw [List.getElem?_append_right (by omega), hlen, List.getElem?_map, List.getElem?_range (by omega)]
        have e3 : i = k * 2 + (i - k * 2) := by omega
        rw [e3, cellOf_ge]
        simp
  · exact ⟨hgr.os, hgr.tape, hgr.output, hgr.size, fun j hj => hgr.block j (by omega) (by simp; omega)⟩

/-- An append whose run is known, met in the walk. -/
theorem wpList_app {P : Program} {w : World} {ops : Array Oper} {rest : List Oper} {o : Oper} {a : Act} {Q : Exit → Act → World → Prop} (hg : o.guard = none) (s x : Operand) (t : TypeId)
    (hop : o.op = Op.call { callee := Callee.builtin Builtin.append, args := #[s, x], argTypes := #[t, t] }) (v1 v2 v : Value) (w1 : World) (hs : a.eval s = v1) (hx : a.eval x = v2)
    (hrun : ∀ ty, (Builtin.append_ #[t, t] ty #[v1, v2]).run P w = .ok v w1) (hK : wpList P ops Q rest (a.put o.dst v) w1) : wpList P ops Q (o :: rest) a w := by
  refine wpList_plain hg fun K hK' => ?_
  have hr := hrun o.type
  unfold Oper.wp
  simp [execOp, hop, resolve, invoke, builtin, hs, hx, hr, Result.andThen]
  exact hK' _ _ hK

/-! ### The plain law -/
theorem has_cat (T T2 : Nat → Int) (q : Int) (k : Nat) : ∀ m, has (cat k T T2) q (k + m) = (has T q k || has T2 q m)
  | 0 => by
    have h : ∀ n, n ≤ k → has (cat k T T2) q n = has T q n := by
      intro n
      induction n with
      | zero => intro _; rfl
      | succ n ih => intro h; simp [has, ih (by omega), cat, show n < k by omega]
    simp [h k (Nat.le_refl _), has]
  | m + 1 => by
    have h := has_cat T T2 q k m
    show (has (cat k T T2) q (k + m) || (cat k T T2 (k + m) == q)) = _
    rw [h]
    simp [has, cat_ge, Bool.or_assoc]

theorem look_cat (T T2 : Nat → Int) (V V2 : Nat → SV) (q : Int) (k : Nat) : ∀ m, look (cat k T T2) (cat k V V2) q (k + m) = if has T q k = true then look T V q k else look T2 V2 q m
  | 0 => by
    have h : ∀ n, n ≤ k → look (cat k T T2) (cat k V V2) q n = look T V q n := by
      intro n
      induction n with
      | zero => intro _; rfl
      | succ n ih => intro h; simp [look, ih (by omega), cat, show n < k by omega]
    rw [Nat.add_zero, h k (Nat.le_refl _)]
    split
    · rfl
    · rename_i hh
      rw [look_none (by simpa using hh)]; rfl
  | m + 1 => by
    have h := look_cat T T2 V V2 q k m
    have e : look (cat k T T2) (cat k V V2) q (k + (m + 1)) = if (look (cat k T T2) (cat k V V2) q (k + m)).2 = true then look (cat k T T2) (cat k V V2) q (k + m) else if cat k T T2 (k + m) = q then (cat k V V2 (k + m), true) else (nilSV, false) := rfl
    rw [e, h]
    by_cases hh : has T q k = true
    · have h2 : (look T V q k).2 = true := by rw [look_has]; exact hh
      simp [hh, h2]
    · simp [hh, look, cat_ge]

end Go.Proofs.Qxb6632327a
