import Derived.Test.Qxb6614690aDoorRead
namespace Go.Proofs.Qxb6614690aDoor
open Go.RowKit
set_option linter.unusedVariables false

set_option maxHeartbeats 400000 in
theorem lim_zero (L R : Nat) (N : Int) (v : Value) (eof : Addr) (w : World)
    (hL : w.heap[L]? = some (.cells #[.iface 27 (.pointer (some ⟨R, 0, none⟩)), .int .i64 N] 44 (0, 0)))
    (hE : w.cell? ⟨0, 0, none⟩ = some (.iface 45 (.pointer (some eof)))) (hN : N ≤ 0) :
    Calls Tryd.prog 34 #[.pointer (some ⟨L, 0, none⟩), v] w fun e w' => e = .returned (.tuple #[.int .i64 0, .iface 45 (.pointer (some eof))]) ∧ Only [L] w w' := by
  have c1 : w.cell? ⟨L, 1, none⟩ = some (.int .i64 N) := by simp [World.cell?, hL]
  clear hL
  go_enter Tryd.func34, Tryd.ntmps34
  go_wp2
  go_quiet (fail)
  go_wp2
  go_ret2
  exact ⟨rfl, (Only.refl _ _).drewN _⟩

theorem method_rd (a : Addr) (w : World) : (method 173 27 (.pointer (some a)) "Read").run Tryd.prog w = .ok (33, .pointer (some a)) w := by kernel_rfl
theorem method_lim (a : Addr) (w : World) : (method 173 42 (.pointer (some a)) "Read").run Tryd.prog w = .ok (34, .pointer (some a)) w := by kernel_rfl

set_option maxHeartbeats 400000 in
theorem lim_end (L R n c i g off m cd N : Nat) (ad : Option Addr) (p : Int) (eof : Addr) (w : World)
    (hL : w.heap[L]? = some (.cells #[.iface 27 (.pointer (some ⟨R, 0, none⟩)), .int .i64 N] 44 (0, 0)))
    (hR : w.heap[R]? = some (.cells #[.slice ad n c, .int .i64 i, .int .i64 p] 38 (0, 0)))
    (hE : w.cell? ⟨0, 0, none⟩ = some (.iface 45 (.pointer (some eof)))) (hN : 0 < N) (hN2 : N ≤ 65536) (hi : n ≤ i) (hm : 0 < m) (hmc : m ≤ cd) (hcd : cd ≤ maxLen) :
    Calls Tryd.prog 34 #[.pointer (some ⟨L, 0, none⟩), .slice (some ⟨g, off, none⟩) m cd] w fun e w' => e = .returned (.tuple #[.int .i64 0, .iface 45 (.pointer (some eof))]) ∧ Only [L] w w' := by
  unfold maxLen at hcd
  have c0 : w.cell? ⟨L, 0, none⟩ = some (.iface 27 (.pointer (some ⟨R, 0, none⟩))) := by simp [World.cell?, hL]
  have c1 : w.cell? ⟨L, 1, none⟩ = some (.int .i64 N) := by simp [World.cell?, hL]
  have f1 : w.frozen? ⟨L, 1, none⟩ = false := by simp [World.frozen?, hL]
  have hm1 := method_rd
  have HR : Hid (w.heap[R]? = some (.cells #[.slice ad n c, .int .i64 i, .int .i64 p] 38 (0, 0))) := hR
  have HE : Hid (w.cell? ⟨0, 0, none⟩ = some (.iface 45 (.pointer (some eof)))) := hE
  clear hL hR hE
  by_cases hlt : N < m
  all_goals
    go_enter Tryd.func34, Tryd.ntmps34
    go_wp2_with fail
    refine (rd_end R n c ad i p _ eof w HR.out HE.out (by omega)).mono ?_
    rintro e w' ⟨rfl, kq, rfl⟩
    go_wp2
    go_ret2
    exact ⟨rfl, ((Only.refl _ _).drewN _).setCell (by simp) _⟩

theorem ret_read {a b : Int} {v : Value} (h : a = b) : Ending.returned (.tuple #[.int .i64 a, v]) = .returned (.tuple #[.int .i64 b, v]) := by rw [h]

set_option maxHeartbeats 400000 in
theorem lim_core (L R B o n c i g off m cd N k : Nat) (p : Int) (cur news : List Value) (w : World)
    (hL : w.heap[L]? = some (.cells #[.iface 27 (.pointer (some ⟨R, 0, none⟩)), .int .i64 N] 44 (0, 0)))
    (hR : w.heap[R]? = some (.cells #[.slice (some ⟨B, o, none⟩) n c, .int .i64 i, .int .i64 p] 38 (0, 0)))
    (HS : Hid (∀ j v, news[j]? = some v → w.cell? ((⟨B, o + i, none⟩ : Addr).add j) = some v)) (HL : Hid (news.length = k)) (HO : Hid (∀ v ∈ news, v.oneCell' = true))
    (hnc : n ≤ c) (hcm : c ≤ maxLen) (hi : i < n)
    (hg : w.heap[g]? = some (.cells cur.toArray 5 (0, 0))) (hfit : off + m ≤ cur.length) (hgR : g ≠ R) (hBR : B ≠ R) (hLR : L ≠ R) (hLg : L ≠ g) (HK : Hid (k = min (n - i) (min m N)))
    (hN : 0 < N) (hN2 : N ≤ 65536) (hm : 0 < m) (hmc : m ≤ cd) (hcd : cd ≤ maxLen) :
    Calls Tryd.prog 34 #[.pointer (some ⟨L, 0, none⟩), .slice (some ⟨g, off, none⟩) m cd] w fun e w' => e = .returned (.tuple #[.int .i64 k, .nilIface]) ∧
      w'.heap[L]? = some (.cells #[.iface 27 (.pointer (some ⟨R, 0, none⟩)), .int .i64 ((N : Int) - k)] 44 (0, 0)) ∧
      w'.heap[R]? = some (.cells #[.slice (some ⟨B, o, none⟩) n c, .int .i64 (i + k), .int .i64 (-1)] 38 (0, 0)) ∧
      w'.heap[g]? = some (.cells (splice cur off news).toArray 5 (0, 0)) ∧ Only [L, R, g] w w' := by
  unfold maxLen at hcd
  have c0 : w.cell? ⟨L, 0, none⟩ = some (.iface 27 (.pointer (some ⟨R, 0, none⟩))) := by simp [World.cell?, hL]
  have c1 : w.cell? ⟨L, 1, none⟩ = some (.int .i64 N) := by simp [World.cell?, hL]
  have f1 : w.frozen? ⟨L, 1, none⟩ = false := by simp [World.frozen?, hL]
  have hm1 := method_rd
  have HL0 : Hid (w.heap[L]? = some (.cells #[.iface 27 (.pointer (some ⟨R, 0, none⟩)), .int .i64 N] 44 (0, 0))) := hL
  have HR : Hid (w.heap[R]? = some (.cells #[.slice (some ⟨B, o, none⟩) n c, .int .i64 i, .int .i64 p] 38 (0, 0))) := hR
  have HG : Hid (w.heap[g]? = some (.cells cur.toArray 5 (0, 0))) := hg
  clear hL hR hg
  by_cases hlt : N < m
  · have HK1 : Hid (k = min (n - i) N) := by have := HK.out; unfold Hid; omega
    go_enter Tryd.func34, Tryd.ntmps34
    go_wp2_with fail
    refine (rd_core R B o n c i g off N cd k p cur news w HR.out HS HL HO hnc hcm hi HG.out (by omega) hgR hBR HK1).mono ?_
    rintro e w' ⟨rfl, hR1, hg1, hO1⟩
    have HL1 : Hid (w'.heap[L]? = some (.cells #[.iface 27 (.pointer (some ⟨R, 0, none⟩)), .int .i64 N] 44 (0, 0))) := hO1.at HL0.out (by simp; exact ⟨hLR, hLg⟩)
    have HR1 : Hid (w'.heap[R]? = some (.cells #[.slice (some ⟨B, o, none⟩) n c, .int .i64 (i + k), .int .i64 (-1)] 38 (0, 0))) := hR1
    have HG1 : Hid (w'.heap[g]? = some (.cells (splice cur off news).toArray 5 (0, 0))) := hg1
    have HO1 : Hid (Only [R, g] w w') := hO1
    clear hR1 hg1 hO1 c0 c1 f1
    have c1 : w'.cell? ⟨L, 1, none⟩ = some (.int .i64 N) := by simp [World.cell?, HL1.out]
    have f1 : w'.frozen? ⟨L, 1, none⟩ = false := by simp [World.frozen?, HL1.out]
    have hb : (k : Int) ≤ (N : Int) := by have := HK1.out; omega
    go_wp2
    go_ret2
    exact ⟨rfl, heap_set_same HL1.out (i := 1) _, (heap_set_other _ hLR.symm).trans HR1.out, (heap_set_other _ hLg.symm).trans HG1.out, (HO1.out.mono (by simp)).setCell (by simp) _⟩
  · have HK1 : Hid (k = min (n - i) m) := by have := HK.out; unfold Hid; omega
    go_enter Tryd.func34, Tryd.ntmps34
    go_wp2_with fail
    refine (rd_core R B o n c i g off m cd k p cur news w HR.out HS HL HO hnc hcm hi HG.out (by omega) hgR hBR HK1).mono ?_
    rintro e w' ⟨rfl, hR1, hg1, hO1⟩
    have HL1 : Hid (w'.heap[L]? = some (.cells #[.iface 27 (.pointer (some ⟨R, 0, none⟩)), .int .i64 N] 44 (0, 0))) := hO1.at HL0.out (by simp; exact ⟨hLR, hLg⟩)
    have HR1 : Hid (w'.heap[R]? = some (.cells #[.slice (some ⟨B, o, none⟩) n c, .int .i64 (i + k), .int .i64 (-1)] 38 (0, 0))) := hR1
    have HG1 : Hid (w'.heap[g]? = some (.cells (splice cur off news).toArray 5 (0, 0))) := hg1
    have HO1 : Hid (Only [R, g] w w') := hO1
    clear hR1 hg1 hO1 c0 c1 f1
    have c1 : w'.cell? ⟨L, 1, none⟩ = some (.int .i64 N) := by simp [World.cell?, HL1.out]
    have f1 : w'.frozen? ⟨L, 1, none⟩ = false := by simp [World.frozen?, HL1.out]
    have hb : (k : Int) ≤ (N : Int) := by have := HK.out; omega
    go_wp2
    go_ret2
    exact ⟨rfl, heap_set_same HL1.out (i := 1) _, (heap_set_other _ hLR.symm).trans HR1.out, (heap_set_other _ hLg.symm).trans HG1.out, (HO1.out.mono (by simp)).setCell (by simp) _⟩
end Go.Proofs.Qxb6614690aDoor
