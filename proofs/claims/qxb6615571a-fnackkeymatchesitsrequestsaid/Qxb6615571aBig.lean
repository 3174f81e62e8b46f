import Derived.Test.Qxb6615571aPeers
namespace Go.Proofs.Qxb6615571a
open Go.RowKit
set_option linter.unusedVariables false
set_option maxRecDepth 100000

set_option maxHeartbeats 1000000 in
theorem bytes_any (o i h op ro ri rh rop : Int) (la lb lk : Option Addr) (n1 n2 n3 c1 c2 c3 : Nat) (w : World) (h1 : n1 ≤ 9223372036854775807) (h2 : n2 ≤ 9223372036854775807) (h3 : n3 ≤ 9223372036854775807) :
    Calls Try.prog 7 #[.int .u64 o, .int .u64 i, .int .i64 h, .int .u8 op, .slice la n1 c1, .int .u64 ro, .int .u64 ri, .int .i64 rh, .int .u8 rop, .slice lb n2 c2, .slice lk n3 c3] w fun e w' => (∃ b, e = .returned (.bool b)) ∧ w = w' := by
  by_cases a1 : 1048576 < n1
  · go_enter Try.func7, Try.ntmps7
    go_wp2
    go_ret
    exact ⟨⟨_, rfl⟩, rfl⟩
  by_cases a2 : 1048576 < n2
  · go_enter Try.func7, Try.ntmps7
    go_wp2
    go_ret
    exact ⟨⟨_, rfl⟩, rfl⟩
  by_cases a3 : 1048576 < n1 + n2
  · go_enter Try.func7, Try.ntmps7
    go_wp2
    go_ret
    exact ⟨⟨_, rfl⟩, rfl⟩
  by_cases a4 : 1048576 < n3
  · go_enter Try.func7, Try.ntmps7
    go_wp2
    go_ret
    exact ⟨⟨_, rfl⟩, rfl⟩
  by_cases a5 : 1048576 < n1 + n2 + n3
  · go_enter Try.func7, Try.ntmps7
    go_wp2
    go_ret
    exact ⟨⟨_, rfl⟩, rfl⟩
  · go_enter Try.func7, Try.ntmps7
    go_wp2
    go_ret
    exact ⟨⟨_, rfl⟩, rfl⟩

set_option maxHeartbeats 1000000 in
theorem law_big (o i h op ro ri rh rop : Int) (la lb lk : Option Addr) (n1 n2 n3 c1 c2 c3 : Nat) (w : World) (h1 : n1 ≤ 9223372036854775807) (h2 : n2 ≤ 9223372036854775807) (h3 : n3 ≤ 9223372036854775807)
    (hb : 32768 < n1 ∨ 32768 < n2 ∨ 524288 < n3) :
    Calls Try.prog 3 #[.int .u64 o, .int .u64 i, .int .i64 h, .int .u8 op, .slice la n1 c1, .int .u64 ro, .int .u64 ri, .int .i64 rh, .int .u8 rop, .slice lb n2 c2, .slice lk n3 c3] w fun e w' => e = .returned (.bool true) ∧ Below w.heap.size w w' := by
  have HC : Hid (Calls Try.prog 7 #[.int .u64 o, .int .u64 i, .int .i64 h, .int .u8 op, .slice la n1 c1, .int .u64 ro, .int .u64 ri, .int .i64 rh, .int .u8 rop, .slice lb n2 c2, .slice lk n3 c3] w fun e w' => (∃ b, e = .returned (.bool b)) ∧ w = w') := bytes_any o i h op ro ri rh rop la lb lk n1 n2 n3 c1 c2 c3 w h1 h2 h3
  by_cases b1 : 32768 < n1
  · clear hb
    go_enter Try.func3, Try.ntmps3
    go_wp2_with (go_at_call 7; refine HC.out.mono ?_; rintro e w' ⟨⟨b, rfl⟩, rfl⟩; cases b)
    all_goals go_wp2
    all_goals go_ret
    all_goals exact ⟨rfl, Below.refl _ _⟩
  by_cases b2 : 32768 < n2
  · clear hb
    go_enter Try.func3, Try.ntmps3
    go_wp2_with (go_at_call 7; refine HC.out.mono ?_; rintro e w' ⟨⟨b, rfl⟩, rfl⟩; cases b)
    all_goals go_wp2
    all_goals go_ret
    all_goals exact ⟨rfl, Below.refl _ _⟩
  · have b3 : 524288 < n3 := by omega
    clear hb
    go_enter Try.func3, Try.ntmps3
    go_wp2_with (go_at_call 7; refine HC.out.mono ?_; rintro e w' ⟨⟨b, rfl⟩, rfl⟩; cases b)
    all_goals go_wp2
    all_goals go_ret
    all_goals exact ⟨rfl, Below.refl _ _⟩
end Go.Proofs.Qxb6615571a
