import Derived.Test.Qxb6615494aDoorLine
import Derived.Laws.IdiomStrings
namespace Go.Proofs.Qxb6615494aDoor
open Go.RowKit
set_option linter.unusedVariables false

/-- The whole line. -/
def line (ms i1 i2 i3 i4 i5 : Int) (zs : List Int) (n : Nat) : List UInt8 := head ms n i1 i2 i3 i4 i5 ++ [32, 91] ++ quRow zs n ++ [93]

def inI (i : Int) : Prop := -9223372036854775808 ≤ i ∧ i ≤ 9223372036854775807

/-- The local queues: a slice (nil, or from a block's first cell on) that reads as zs. -/
structure Qu (w : World) (la : Option Addr) (ln : Nat) (zs : List Int) (qb : Nat) : Prop where
  la : la = some ⟨qb, 0, none⟩ ∨ ln = 0
  cells : ∀ k, k < ln → qb < w.heap.size ∧ w.cell? ⟨qb, k, none⟩ = some (.int .i64 (zs.getD k 0)) ∧ -9223372036854775808 ≤ zs.getD k 0 ∧ zs.getD k 0 ≤ 9223372036854775807
  small : ln ≤ 65536

theorem Qu.later {w w' : World} {la : Option Addr} {ln : Nat} {zs : List Int} {qb : Nat} (h : Qu w la ln zs qb) (hb : Below w.heap.size w w') : Qu w' la ln zs qb :=
  ⟨h.la, fun k hk => by
    obtain ⟨h1, h2, h3⟩ := h.cells k hk
    exact ⟨Nat.lt_of_lt_of_le h1 hb.size, (hb.cell (p := ⟨qb, k, none⟩) h1).trans h2, h3⟩, h.small⟩

set_option maxHeartbeats 1000000 in
theorem string_any (at_ ms i1 i2 i3 i4 i5 : Int) (la : Option Addr) (ln lc : Nat) (zs : List Int) (qb : Nat) (w : World) (L : List UInt8) (HL : Hid (L = line ms i1 i2 i3 i4 i5 zs ln))
    (ht : Lib.TabIs Tryd.prog w powName .u64 Lib.pow10Tab) (HMS : Hid (IntKind.i64.wrap (at_.tdiv 1000000) = ms)) (m0 : inI ms) (m1 : inI i1) (m2 : inI i2) (m3 : inI i3) (m4 : inI i4) (m5 : inI i5) (hq : Qu w la ln zs qb) :
    Calls Tryd.prog 7 #[.agg #[.int .i64 at_, .int .i64 i1, .int .i64 i2, .int .i64 i3, .int .i64 i4, .int .i64 i5, .slice la ln lc]] w fun e w' => e = .returned (.string ⟨L.toArray⟩) ∧ Below w.heap.size w w' := by
  obtain ⟨box, ebox⟩ : ∃ box, box = Obj.cells #[.int .i64 at_, .int .i64 i1, .int .i64 i2, .int .i64 i3, .int .i64 i4, .int .i64 i5, .slice la ln lc] 27 := ⟨_, rfl⟩
  have hbl : Below w.heap.size w (w.alloc box) := (Below.refl _ _).alloc (Nat.le_refl _) _
  have C := appendTo_any at_ ms i1 i2 i3 i4 i5 la ln lc (w.alloc box) (Lib.tabBelow_of_tabIs ht _ hbl) HMS.out m0.1 m0.2 m1.1 m1.2 m2.1 m2.2 m3.1 m3.2 m4.1 m4.2 m5.1 m5.2 hq.small zs qb hq.la (hq.later hbl).cells
  have eL := HL.out
  unfold line at eL
  rw [← eL] at C
  have hp : 0 < L.length := by rw [eL]; simp only [List.length_append, List.length_cons, List.length_nil]; omega
  rw [ebox] at C hbl
  have HC : Hid (Calls Tryd.prog 11 #[.agg #[.int .i64 at_, .int .i64 i1, .int .i64 i2, .int .i64 i3, .int .i64 i4, .int .i64 i5, .slice la ln lc], .slice none 0 0] (w.alloc (.cells #[.int .i64 at_, .int .i64 i1, .int .i64 i2, .int .i64 i3, .int .i64 i4, .int .i64 i5, .slice la ln lc] 27)) fun e w' => ∃ g cap, e = .returned (.slice (some ⟨g, 0, none⟩) L.length cap) ∧ (∀ j (hj : j < L.length), w'.cell? ((⟨g, 0, none⟩ : Addr).add j) = some (.int .u8 ((L[j]).toNat : Int))) ∧ Below w.heap.size w w') := by
    refine C.mono ?_
    rintro e w' ⟨v', rfl, T, hb⟩
    rcases T.own.2 with ⟨-, h0⟩ | ⟨g, cap, cur, rfl, -, -, -, -, -, -⟩
    · omega
    · exact ⟨g, cap, rfl, fun j hj => T.own.cells (g := g) rfl j _ (by simp [Lib.byteCells, hj]), hbl.trans (hb.mono (by simp))⟩
  clear C ht hq eL ebox hbl
  go_enter Tryd.func7, Tryd.ntmps7
  go_wp2_with (go_at_call 11; refine HC.out.mono ?_; rintro e w' ⟨g, cap, rfl, hc, hb⟩; have hcv := run_convert_bytes_back (P := Tryd.prog) w' 35 9 5 ⟨g, 0, none⟩ cap L Tryd.underlying35 Tryd.underlying5 Tryd.underlying9 hc)
  go_ret
  exact ⟨rfl, hb⟩
end Go.Proofs.Qxb6615494aDoor
