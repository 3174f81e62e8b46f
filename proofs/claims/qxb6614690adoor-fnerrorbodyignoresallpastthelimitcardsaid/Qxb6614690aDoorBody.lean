import Derived.Test.Qxb6614690aDoorTrim
namespace Go.Proofs.Qxb6614690aDoor
open Go.RowKit
set_option linter.unusedVariables false

theorem newReader_any (a : Option Addr) (n c : Nat) (w : World) :
    Calls Tryd.prog 11 #[.slice a n c] w fun e w' => e = .returned (.pointer (some ⟨w.heap.size, 0, none⟩)) ∧ w' = w.alloc (.cells #[.slice a n c, .int .i64 0, .int .i64 (-1)] 38) := by
  go_enter Tryd.func11, Tryd.ntmps11
  go_wp2
  go_ret
  exact ⟨rfl, rfl⟩

theorem limReader_any (R : Nat) (w : World) :
    Calls Tryd.prog 13 #[.iface 27 (.pointer (some ⟨R, 0, none⟩)), .int .i64 65536] w fun e w' => e = .returned (.iface 42 (.pointer (some ⟨w.heap.size, 0, none⟩))) ∧ w' = w.alloc (.cells #[.iface 27 (.pointer (some ⟨R, 0, none⟩)), .int .i64 65536] 44) := by
  go_enter Tryd.func13, Tryd.ntmps13
  go_wp2
  go_ret
  exact ⟨rfl, rfl⟩

/-- The row of the mark's three bytes, as '[]byte(byteOrderMark)' lays it. -/
def markRow : Obj := .cells #[.int .u8 239, .int .u8 187, .int .u8 191] 5 (3, 4)

theorem bs_markRow (w : World) : Bs (w.alloc markRow) w.heap.size 0 mark := by
  intro i hi
  have hb : (w.alloc markRow).heap[w.heap.size]? = some (.cells #[.int .u8 239, .int .u8 187, .int .u8 191] 5 (3, 4)) := heap_alloc_new w _
  simp only [World.cell?, hb]
  match i, hi with
  | 0, _ => rfl
  | 1, _ => rfl
  | 2, _ => rfl

set_option maxHeartbeats 400000 in
theorem errBody_any (R B o c : Nat) (ad : Option Addr) (xs ys : List Int) (HY : Hid (ys = xs.take 65536)) (p : Int) (eof : Addr) (w : World)
    (hR : w.heap[R]? = some (.cells #[.slice ad xs.length c, .int .i64 0, .int .i64 p] 38 (0, 0)))
    (hE : w.cell? ⟨0, 0, none⟩ = some (.iface 45 (.pointer (some eof)))) (hx : 0 < xs.length → ad = some ⟨B, o, none⟩ ∧ Bs w B o xs) (bx : Byte xs) (hnc : xs.length ≤ c) (hcm : c ≤ maxLen) (hB : B < w.heap.size) (hBR : B ≠ R) (hR0 : R ≠ 0) :
    Calls Tryd.prog 10 #[.iface 27 (.pointer (some ⟨R, 0, none⟩))] w fun e w' => ∃ g o' c', e = .returned (.slice (some ⟨g, o', none⟩) (strip (ys)).length c') ∧
      (strip (ys)).length ≤ c' ∧ c' ≤ maxLen ∧ Bs w' g o' (strip (ys)) ∧ w.heap.size ≤ g ∧ Only [R] w w' := by
  have hRs : R < w.heap.size := lt_of_block hR
  have kc := fun (w : World) (C : Array Value) (n c : Nat) => Lib.run_convert_bytes_const (P := Tryd.prog) w 22 5 C n c Tryd.underlying22 Tryd.underlying5
  have o1 : Only [] w (w.alloc (.cells #[.iface 27 (.pointer (some ⟨R, 0, none⟩)), .int .i64 65536] 44)) := (Only.refl _ _).alloc _
  have C := readall w.heap.size R B o c ad xs p eof (w.alloc (.cells #[.iface 27 (.pointer (some ⟨R, 0, none⟩)), .int .i64 65536] 44)) (heap_alloc_new w _) (o1.at hR (by simp)) (o1.cell hE (by simp)) (fun h => ⟨(hx h).1, o1.bs (by simp) (hx h).2⟩) hnc hcm hBR (by omega) (by omega) (by omega) hR0
  have HC : Hid (Calls Tryd.prog 12 #[.iface 42 (.pointer (some ⟨w.heap.size, 0, none⟩))] (w.alloc (.cells #[.iface 27 (.pointer (some ⟨R, 0, none⟩)), .int .i64 65536] 44)) fun e w' => ∃ g cap, e = .returned (.tuple #[.slice (some ⟨g, 0, none⟩) (ys).length cap, .nilIface]) ∧
      (ys).length ≤ cap ∧ cap ≤ maxLen ∧ w.heap.size ≤ g ∧ Bs w' g 0 (ys) ∧ Only [R] w w') := by
    rw [← HY.out] at C
    refine C.mono ?_
    rintro e w' ⟨g, cap, a1, a2, a3, a4, a5, a6⟩
    refine ⟨g, cap, a1, a2, a3, by simp at a4; omega, a5, ⟨a6.os, a6.tape, a6.output, ?_, fun k hk hn => ?_⟩⟩
    · have := a6.size; simp at this; omega
    · rw [a6.block k (by simp; omega) (by simp at hn ⊢; exact ⟨by omega, hn⟩)]
      exact Below.heap_alloc w _ k hk
  clear C o1 hx hR hE
  go_enter Tryd.func10, Tryd.ntmps10
  go_wp2_with (first
    | (go_at_call 13; refine (limReader_any R w).mono ?_; rintro e w1 ⟨rfl, rfl⟩)
    | (go_at_call 12; refine HC.out.mono ?_; rintro e w2 ⟨g, cap, rfl, r1, r2, r3, r4, r5⟩)
    | fail)
  refine (trim_any g 0 cap w2.heap.size 0 3 (ys) (w2.alloc markRow) (((Only.refl [] _).alloc _).bs (by simp) r4) (bs_markRow w2) (HY.out ▸ bx.take 65536) r1 r2).mono ?_
  rintro e w3 ⟨⟨o', c', rfl, t1, t2, t3⟩, rfl⟩
  have HB : Hid (Only [R] w (w2.alloc markRow)) := r5.alloc _
  have HT : Hid (Bs (w2.alloc markRow) g o' (strip (ys))) := t3
  clear t3 r5 r4
  go_wp2
  go_ret
  exact ⟨g, o', c', rfl, t1, t2, HT.out, r3, HB.out⟩

set_option maxHeartbeats 400000 in
theorem body_any (B o c : Nat) (ad : Option Addr) (xs ys : List Int) (HY : Hid (ys = xs.take 65536)) (eof : Addr) (w : World)
    (hE : w.cell? ⟨0, 0, none⟩ = some (.iface 45 (.pointer (some eof)))) (hx : 0 < xs.length → ad = some ⟨B, o, none⟩ ∧ Bs w B o xs) (bx : Byte xs) (hnc : xs.length ≤ c) (hcm : c ≤ maxLen) (hB : B < w.heap.size) :
    Calls Tryd.prog 6 #[.slice ad xs.length c] w fun e w' => ∃ g o' c', e = .returned (.slice (some ⟨g, o', none⟩) (strip (ys)).length c') ∧
      (strip (ys)).length ≤ c' ∧ c' ≤ maxLen ∧ Bs w' g o' (strip (ys)) ∧ w.heap.size ≤ g ∧ Below w.heap.size w w' := by
  have h0 : 0 < w.heap.size := World.block_lt_of_cell? w _ hE
  have o1 : Only [] w (w.alloc (.cells #[.slice ad xs.length c, .int .i64 0, .int .i64 (-1)] 38)) := (Only.refl _ _).alloc _
  have C := errBody_any w.heap.size B o c ad xs ys HY (-1) eof (w.alloc (.cells #[.slice ad xs.length c, .int .i64 0, .int .i64 (-1)] 38)) (heap_alloc_new w _) (o1.cell hE (by simp)) (fun h => ⟨(hx h).1, o1.bs (by simp) (hx h).2⟩) bx hnc hcm (by simp; omega) (by omega) (by omega)
  have HC : Hid (Calls Tryd.prog 10 #[.iface 27 (.pointer (some ⟨w.heap.size, 0, none⟩))] (w.alloc (.cells #[.slice ad xs.length c, .int .i64 0, .int .i64 (-1)] 38)) fun e w' => ∃ g o' c', e = .returned (.slice (some ⟨g, o', none⟩) (strip (ys)).length c') ∧
      (strip (ys)).length ≤ c' ∧ c' ≤ maxLen ∧ Bs w' g o' (strip (ys)) ∧ w.heap.size ≤ g ∧ Below w.heap.size w w') := by
    refine C.mono ?_
    rintro e w' ⟨g, o', c', a1, a2, a3, a4, a5, a6⟩
    exact ⟨g, o', c', a1, a2, a3, a4, by simp at a5; omega, ((o1.mono (by simp)).trans a6).below (Nat.le_refl _) (by simp)⟩
  clear C o1 hx hE
  go_enter Tryd.func6, Tryd.ntmps6
  go_wp2_with (first
    | (go_at_call 11; refine (newReader_any ad xs.length c w).mono ?_; rintro e w1 ⟨rfl, rfl⟩)
    | (go_at_call 10; refine HC.out.mono ?_; rintro e w2 ⟨g, o', c', rfl, r1, r2, r3, r4, r5⟩)
    | fail)
  go_ret
  exact ⟨g, o', c', rfl, r1, r2, r3, r4, r5⟩
end Go.Proofs.Qxb6614690aDoor
