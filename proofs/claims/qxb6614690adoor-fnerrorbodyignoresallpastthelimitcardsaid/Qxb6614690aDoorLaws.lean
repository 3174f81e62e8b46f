import Derived.Test.Qxb6614690aDoorLim
import Derived.Deep.LoopGhost
import Derived.Deep.AppendLies
namespace Go.Proofs.Qxb6614690aDoor
open Go.RowKit
set_option linter.unusedVariables false

theorem info5 : (Tryd.prog.info? 5).map (fun i => (i.zero, i.size, i.bytes)) = some (some (.int .u8 0), 1, 1) := by kernel_rfl
theorem info22 : (Tryd.prog.info? 22).map (fun i => (i.zero, i.size, i.bytes)) = some (some (.slice none 0 0), 1, 24) := by kernel_rfl
theorem under3 : Tryd.prog.underlying 3 = some (.int .i64) := Tryd.underlying3

/-- 'append([]byte(nil), make([]byte, n)...)': a new row of some capacity from n on. -/
theorem run_append_make (w : World) (ty : TypeId) (n : Nat) (h0 : 0 < n) (hn2 : n ≤ 1048576) :
    ∃ cap cur, (Builtin.append_ #[22, 3] ty #[.slice none 0 0, .int .i64 n]).run Tryd.prog w = .ok (.slice (some ⟨w.heap.size, 0, none⟩) n cap) (w.drew.alloc (.cells cur 5)) ∧
      n ≤ cap ∧ cap ≤ maxLen ∧ cur.size = cap := by
  obtain ⟨i, hi, hz0, hz1, hz2⟩ := info_parts info5
  have hn : n ≠ 0 := by omega
  have h63' : ¬ (9223372036854775807 < (n : Int)) := by omega
  have h48' : ¬ (281474976710656 < Builtin.nextslicecap n 0 * i.bytes) := by rw [nextslicecap_zero h0, hz2]; omega
  have hw : IntKind.i64.wrap (n : Int) = (n : Int) := by rw [IntKind.wrap_i64]; omega
  have h1 : ¬ ((n : Int) < 0) := by omega
  have h2 : ¬ (281474976710656 < (n : Int) * (i.bytes : Int)) := by rw [hz2]; omega
  refine ⟨grownCap w n 0 5, Builtin.zeroCells #[.int .u8 0] n ++ Builtin.zeroCells #[.int .u8 0] (grownCap w n 0 5 - n), ?_, grownCap_ge w n 0 5, grownCap_le_maxLen w n 0 5 (by unfold maxLen; omega), ?_⟩
  · simp [Builtin.append_, run_underlying Tryd.underlying22, run_underlying Tryd.underlying3, sizeOf, typeInfo, zeroValue, hi, hz0, hz1, hw, h1, h2, asInt, asIntOf, hn, h63', h48', Question.forced, run_firstCells_none, newRow, grownCap, Value.cells]
  · have := grownCap_ge w n 0 5
    simp [size_zeroCells]; omega

theorem wpList_append_make {w : World} {ops : Array Oper} {rest : List Oper} {o : Oper} {a : Act} {Q : Exit → Act → World → Prop} (hgd : o.guard = none) (x : Operand)
    (ho : o.op = .call { callee := .builtin .append, args := #[.const (.slice none 0 0), x], argTypes := #[22, 3] })
    (C : Int) (n : Nat) (hx : a.eval x = .int .i64 C) (hC : C = (n : Int)) (h0 : 0 < n) (hn2 : n ≤ 1048576)
    (h : ∀ (cap : Nat) (cur : List Value) (w' : World), n ≤ cap → cap ≤ maxLen → cur.length = cap → Hid (w'.heap[w.heap.size]? = some (.cells cur.toArray 5 (0, 0))) → Hid (w'.heap.size = w.heap.size + 1) → Only [] w w' →
      wpList Tryd.prog ops Q rest (a.put o.dst (.slice (some ⟨w.heap.size, 0, none⟩) n cap)) w') : wpList Tryd.prog ops Q (o :: rest) a w := by
  subst hC
  refine wpList_plain hgd fun K hK => ?_
  obtain ⟨cap, cur, hrun, h1, h2, h3⟩ := run_append_make w o.type n h0 hn2
  have hc : a.eval (.const (.slice none 0 0)) = .slice none 0 0 := rfl
  unfold Oper.wp
  simp [execOp, ho, resolve, invoke, builtin, hc, hx, hrun, Result.andThen]
  exact hK _ _ (h cap cur.toList _ h1 h2 (by simpa using h3) (heap_alloc_new w.drew _) (show _ = _ by simp) ((Only.refl _ _).drew.alloc _))

/-- A slice that lies at the head of a row of bytes, its bytes zs, the row's number from 'base' on and below 'hi'. -/
def Chunk (w : World) (base hi : Nat) (v : Value) (zs : List Int) : Prop :=
  ∃ g c cur, v = .slice (some ⟨g, 0, none⟩) zs.length c ∧ base ≤ g ∧ g < hi ∧ w.heap[g]? = some (.cells cur 5 (0, 0)) ∧ zs.length ≤ c ∧ c ≤ maxLen ∧ cur.toList.take zs.length = zs.map (Value.int .u8)

def Chunks (w : World) (base hi : Nat) (vs : List Value) (zss : List (List Int)) : Prop :=
  vs.length = zss.length ∧ ∀ (j : Nat) (v : Value) (zs : List Int), vs[j]? = some v → zss[j]? = some zs → Chunk w base hi v zs

theorem Chunk.kept {w w' : World} {base hi hi' : Nat} {v : Value} {zs : List Int} (h : Chunk w base hi v zs) (hh : hi ≤ hi') (hk : ∀ k t, base ≤ k → k < hi → w.heap[k]? = some (.cells t 5 (0, 0)) → w'.heap[k]? = w.heap[k]?) : Chunk w' base hi' v zs := by
  obtain ⟨g, c, cur, h1, h2, h3, h4, h5⟩ := h
  exact ⟨g, c, cur, h1, h2, by omega, (hk g cur h2 h3 h4).trans h4, h5⟩

theorem Chunks.kept {w w' : World} {base hi hi' : Nat} {vs : List Value} {zss : List (List Int)} (h : Chunks w base hi vs zss) (hh : hi ≤ hi') (hk : ∀ k t, base ≤ k → k < hi → w.heap[k]? = some (.cells t 5 (0, 0)) → w'.heap[k]? = w.heap[k]?) : Chunks w' base hi' vs zss :=
  ⟨h.1, fun j v zs h1 h2 => (h.2 j v zs h1 h2).kept hh hk⟩

theorem Chunks.nil (w : World) (base hi : Nat) : Chunks w base hi [] [] := ⟨rfl, fun j v zs h => by simp at h⟩

theorem Chunks.snoc {w : World} {base hi : Nat} {vs : List Value} {zss : List (List Int)} {v : Value} {zs : List Int} (h : Chunks w base hi vs zss) (hc : Chunk w base hi v zs) : Chunks w base hi (vs ++ [v]) (zss ++ [zs]) := by
  refine ⟨by simp [h.1], fun j u us h1 h2 => ?_⟩
  by_cases hj : j < vs.length
  · rw [List.getElem?_append_left hj] at h1
    rw [List.getElem?_append_left (by rw [← h.1]; exact hj)] at h2
    exact h.2 j u us h1 h2
  · rw [List.getElem?_append_right (by omega)] at h1
    rw [List.getElem?_append_right (by rw [← h.1]; omega)] at h2
    rw [h.1] at h1
    by_cases e : j - zss.length = 0
    · rw [e] at h1 h2
      simp at h1 h2
      subst h1; subst h2
      exact hc
    · rw [List.getElem?_eq_none (by simp; omega)] at h1
      cases h1

/-- WHAT HOLDS AT THE HEAD OF ReadAll's LOOP. ad, c: where the data lie; xs: the data; i: how many bytes have been read. -/
structure Inv (w : World) (L R : Nat) (ad : Option Addr) (c : Nat) (xs : List Int) (bv nv cv fv : Value) (g cap len next fsz i : Nat) (zs : List Int) (vs : List Value) (zss : List (List Int)) (cur : List Value) (wr : World) : Prop where
  b : bv = .slice (some ⟨g, 0, none⟩) len cap
  nx : nv = .int .i64 next
  fs : fv = .int .i64 fsz
  own : wr.ownsRow w.heap.size 22 1 cv vs.length vs
  le : len ≤ cap
  cap16 : 16 ≤ cap
  capm : cap ≤ maxLen
  next1 : 256 ≤ next
  next2 : next ≤ 2 * cap
  row : wr.heap[g]? = some (.cells cur.toArray 5 (0, 0))
  curl : cur.length = cap
  curz : cur.take len = zs.map (Value.int .u8)
  zsl : zs.length = len
  ch : Chunks wr w.heap.size g vs zss
  fl : zss.flatten.length = fsz
  pre : zss.flatten ++ zs = xs.take i
  il : i = fsz + len
  ix : i ≤ xs.length
  i6 : i ≤ 65536
  lim : wr.heap[L]? = some (.cells #[.iface 27 (.pointer (some ⟨R, 0, none⟩)), .int .i64 ((65536 - i : Nat) : Int)] 44 (0, 0))
  rdr : ∃ p, wr.heap[R]? = some (.cells #[.slice ad xs.length c, .int .i64 i, .int .i64 p] 38 (0, 0))
  only : Only [L, R] w wr
  hg : w.heap.size ≤ g
  cnt : vs.length ≤ fsz
end Go.Proofs.Qxb6614690aDoor
