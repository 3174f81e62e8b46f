import Derived.Test.Qxb6615571aRows
import Derived.WalkKit
import Derived.WalkSpells
import Derived.WalkLawsBesides
import Derived.Deep.QuietTactic
import Derived.BigQuiet
import Derived.WalkSmall
import Derived.Below
namespace Go.Proofs.Qxb6615571a
open Go.RowKit
set_option linter.unusedVariables false

def ackV (o i h op : Int) (la : Option Addr) (ln lc : Nat) : Value := .agg #[.int .u64 o, .int .u64 i, .int .i64 h, .int .u8 op, .slice la ln lc]
def keyV (o i h : Int) : Value := .agg #[.int .u64 o, .int .u64 i, .int .i64 h]

theorem ack_key (o i h op : Int) (la : Option Addr) (ln lc : Nat) (w : World) :
    Calls Try.prog 24 #[.agg #[.int .u64 o, .int .u64 i, .int .i64 h, .int .u8 op, .slice la ln lc]] w fun e w' => e = .returned (.agg #[.int .u64 o, .int .u64 i, .int .i64 h]) ∧ Below w.heap.size w w' := by
  go_enter Try.func24, Try.ntmps24
  go_wp2
  refine bodyPost_ret (v := .agg #[.int .u64 o, .int .u64 i, .int .i64 h]) (by simp [results, Try.results24, go_sem]) rfl ⟨rfl, ?_⟩
  exact ((Below.refl _ _).alloc (Nat.le_refl _) _).alloc (by simp) _

theorem zz_ack (o i h op : Int) (la : Option Addr) (ln lc : Nat) (w : World) :
    Calls Try.prog 9 #[.agg #[.int .u64 o, .int .u64 i, .int .i64 h, .int .u8 op, .slice la ln lc]] w fun e w' => e = .returned (.tuple #[.int .u64 o, .int .u64 i, .int .i64 h]) ∧ Below w.heap.size w w' := by
  go_enter Try.func9, Try.ntmps9
  go_wp2_with (go_at_call 24; refine (ack_key o i h op la ln lc _).mono ?_; rintro e w1 ⟨rfl, hb⟩)
  have hb2 : Below w.heap.size w w1 := ((Below.refl _ _).alloc (Nat.le_refl _) _).trans (hb.mono (by simp))
  clear hb
  have HB : Hid (Below w.heap.size w (w1.alloc (.cells #[.int .u64 o, .int .u64 i, .int .i64 h] 70))) := hb2.alloc hb2.size _
  go_quiet (fail)
  go_wp2
  go_ret3
  exact ⟨rfl, below_drewN HB.out _⟩

theorem req_key (o i h op hd : Int) (hk : IntKind) (lb lk : Option Addr) (n2 n3 c2 c3 : Nat) (w : World) :
    Calls Try.prog 25 #[.agg #[.int .u64 i, .int .u8 op, .int .u64 o, .slice lb n2 c2, .slice lk n3 c3, .slice none 0 0, .pointer none, .pointer none, .slice none 0 0, .pointer none, .int hk hd, .int .i64 h, .int .i64 0, .int .u64 0, .slice none 0 0, .int .u64 0]] w fun e w' => e = .returned (.agg #[.int .u64 o, .int .u64 i, .int .i64 h]) ∧ Below w.heap.size w w' := by
  go_enter Try.func25, Try.ntmps25
  go_wp2
  refine bodyPost_ret (v := .agg #[.int .u64 o, .int .u64 i, .int .i64 h]) (by simp [results, Try.results25, go_sem]) rfl ⟨rfl, ?_⟩
  exact ((Below.refl _ _).alloc (Nat.le_refl _) _).alloc (by simp) _

theorem zz_req (o i h op hd : Int) (hk : IntKind) (lb lk : Option Addr) (n2 n3 c2 c3 : Nat) (w : World) :
    Calls Try.prog 10 #[.agg #[.int .u64 i, .int .u8 op, .int .u64 o, .slice lb n2 c2, .slice lk n3 c3, .slice none 0 0, .pointer none, .pointer none, .slice none 0 0, .pointer none, .int hk hd, .int .i64 h, .int .i64 0, .int .u64 0, .slice none 0 0, .int .u64 0]] w fun e w' => e = .returned (.tuple #[.int .u64 o, .int .u64 i, .int .i64 h]) ∧ Below w.heap.size w w' := by
  go_enter Try.func10, Try.ntmps10
  go_wp2_with (go_at_call 25; refine (req_key o i h op hd hk lb lk n2 n3 c2 c3 _).mono ?_; rintro e w1 ⟨rfl, hb⟩)
  have hb2 : Below w.heap.size w w1 := ((Below.refl _ _).alloc (Nat.le_refl _) _).trans (hb.mono (by simp))
  clear hb
  have HB : Hid (Below w.heap.size w (w1.alloc (.cells #[.int .u64 o, .int .u64 i, .int .i64 h] 70))) := hb2.alloc hb2.size _
  go_quiet (fail)
  go_wp2
  go_ret3
  exact ⟨rfl, below_drewN HB.out _⟩

theorem bytes_yes (o i h op ro ri rh rop : Int) (la lb lk : Option Addr) (n1 n2 n3 c1 c2 c3 : Nat) (w : World) (h1 : n1 ≤ 32768) (h2 : n2 ≤ 32768) (h3 : n3 ≤ 524288) :
    Calls Try.prog 7 #[.int .u64 o, .int .u64 i, .int .i64 h, .int .u8 op, .slice la n1 c1, .int .u64 ro, .int .u64 ri, .int .i64 rh, .int .u8 rop, .slice lb n2 c2, .slice lk n3 c3] w fun e w' => e = .returned (.bool true) ∧ w = w' := by
  go_enter Try.func7, Try.ntmps7
  go_wp2
  go_ret
  exact ⟨rfl, rfl⟩
end Go.Proofs.Qxb6615571a
