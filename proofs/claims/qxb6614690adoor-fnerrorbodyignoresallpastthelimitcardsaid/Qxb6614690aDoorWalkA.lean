import Derived.Test.Qxb6614690aDoorFit
namespace Go.Proofs.Qxb6614690aDoor
open Go.RowKit
set_option linter.unusedVariables false

set_option maxHeartbeats 400000 in
theorem walkA_big (a : Option Addr) (len cap : Nat) (w : World) (h : 1048576 < len) (hm : len ≤ maxLen) :
    Calls Tryd.prog 3 #[.slice a len cap] w fun e w' => e = .returned (.bool true) ∧ Below w.heap.size w w' := by
  unfold maxLen at hm
  have h1 : (1048576 : Int) < (len : Int) := by omega
  go_enter Tryd.func3, Tryd.ntmps3
  go_wp2
  go_ret
  exact ⟨rfl, Below.refl _ _⟩

theorem stepD {w w2 w3 w4 : World} {o1 : Obj} {cur cs : List Value} {zs : List Int} {len : Nat} (hg : w2.heap[w.heap.size]? = some (.cells (splice cur 0 cs).toArray 5 (0, 0))) (hcs : cs = zs.map (Value.int .u8)) (hz : zs.length = len) (hb : Below w.heap.size w w2) (hg3 : w2.grownBy w3 none) (hg4 : (w3.alloc o1).grownBy w4 (some w2.heap.size)) :
    ∀ j u, cs[j]? = some u → w4.cell? ((⟨w.heap.size, 0, none⟩ : Addr).add j) = some u := by
  have h1 : Bs w2 w.heap.size 0 zs := bs_copied hg hcs hz
  have h2 : Only [w2.heap.size] w2 w4 := (((Only.refl _ _).grown hg3 (by simp)).alloc o1).grown hg4 (by simp)
  have h3 : Bs w4 w.heap.size 0 zs := h2.bs (by have := lt_of_block hg; simp; omega) h1
  rw [hcs]
  exact bs_news h3

theorem stepZ {w w2 w3 w4 w5 : World} {o1 : Obj} {cur cs : List Value} {zs : List Int} {len : Nat} (hg : w2.heap[w.heap.size]? = some (.cells (splice cur 0 cs).toArray 5 (0, 0))) (hcs : cs = zs.map (Value.int .u8)) (hz : zs.length = len) (hb : Below w.heap.size w w2) (hg3 : w2.grownBy w3 none) (hg4 : (w3.alloc o1).grownBy w4 (some w2.heap.size)) (hg5 : w4.grownBy w5 (some w2.heap.size)) :
    Bs w5 w.heap.size 0 zs := by
  have h1 : Bs w2 w.heap.size 0 zs := bs_copied hg hcs hz
  have h2 : Only [w2.heap.size] w2 w5 := ((((Only.refl _ _).grown hg3 (by simp)).alloc o1).grown hg4 (by simp)).grown hg5 (by simp)
  exact h2.bs (by have := lt_of_block hg; simp; omega) h1

theorem stepB {w w2 w3 w4 w5 : World} {o1 : Obj} (hb : Below w.heap.size w w2) (hg3 : w2.grownBy w3 none) (hg4 : (w3.alloc o1).grownBy w4 (some w2.heap.size)) (hg5 : w4.grownBy w5 (some w2.heap.size)) :
    Below w.heap.size w w5 := by
  have h2 : Only [w2.heap.size] w2 w5 := ((((Only.refl _ _).grown hg3 (by simp)).alloc o1).grown hg4 (by simp)).grown hg5 (by simp)
  exact hb.trans (h2.below hb.size (by have := hb.size; simp; omega))

theorem byte_append {xs ys : List Int} (hx : Byte xs) (hy : Byte ys) : Byte (xs ++ ys) := by
  intro z hz
  rcases List.mem_append.1 hz with h | h
  · exact hx z h
  · exact hy z h

set_option maxHeartbeats 2000000 in
theorem walkA_row (x : Addr) (len cap : Nat) (zs : List Int) (eof : Addr) (w : World) (HZ : Hid (zs.length = len))
    (hsrc : ∀ j v, (zs.map (Value.int .u8))[j]? = some v → w.cell? (x.add j) = some v) (bx : Byte zs) (hlen : len ≤ 1048576) (hlc : len ≤ cap) (hcap : cap ≤ maxLen)
    (HE : Hid (w.cell? ⟨0, 0, none⟩ = some (.iface 45 (.pointer (some eof))))) :
    Calls Tryd.prog 3 #[.slice (some x) len cap] w fun e w' => e = .returned (.bool true) ∧ Below w.heap.size w w' := by
  unfold maxLen at hcap
  obtain ⟨i5, hi5, hz50, hz51, hz52⟩ := info_parts info5
  obtain ⟨cs, hcs⟩ : ∃ cs, cs = zs.map (Value.int .u8) := ⟨_, rfl⟩
  have HCS : Hid (cs = zs.map (Value.int .u8)) := hcs
  have HSR : Hid (∀ j v, cs[j]? = some v → w.cell? (x.add j) = some v) := by rw [hcs]; exact hsrc
  have HCL : Hid (cs.length = len) := by have := HZ.out; rw [hcs]; show _ = _; simpa using this
  have HC1 : Hid (∀ v ∈ cs, v.oneCell' = true) := by rw [hcs]; exact ints_one zs
  clear hcs hsrc
  go_enter Tryd.func3, Tryd.ntmps3
  go_wp2_with (first
    | (at_make; refine wpList_make_full _ rfl (.tmp 18) (.tmp 18) 22 rfl w.heap.size 5 i5 (.int .u8 0) 1 Tryd.underlying22 hi5 hz50 hz51 .i64 .i64 len len len rfl rfl rfl rfl (by rw [hz52]; omega) (by unfold maxLen; omega) (Nat.le_refl _) ?_; intro w1 hown1 hgrow1)
    | (obtain ⟨cur1, q1, -, -, q2, -, -⟩ := ownsRow_block hown1; refine wpList_copy_splice rfl (.tmp 20) (.tmp 21) 22 22 rfl 5 Tryd.underlying22 (by kernel_rfl) (some ⟨w.heap.size, 0, none⟩) (some x) len len len cap rfl rfl w.heap.size 0 cur1 5 q1 cs (by rw [HCL.out]; exact (Nat.min_self _).symm) (fun _ => ⟨rfl, x, rfl, fun j v hj => hgrow1.cell (HSR.out j v hj) (by simp)⟩) (by rw [HCL.out, q2]; omega) HC1.out w.heap.size w ((Below.refl _ _).grown hgrow1 (Nat.le_refl _) (by simp)) (Nat.le_refl _) ?_; intro w2 HG2 hb2)
    | (at_make; refine wpList_make_own _ rfl (.const (.int .i64 0)) (.tmp 26) 22 rfl w2.heap.size 5 i5 (.int .u8 0) 1 Tryd.underlying22 hi5 hz50 hz51 .i64 .i64 ((len : Int) + 3) (len + 3) rfl rfl (by omega) (by rw [hz52]; omega) (by unfold maxLen; omega) (Nat.le_refl _) ?_; intro w3 hown3 hgrow3)
    | (at_builtin; refine wpList_append_fits _ rfl (.tmp 28) (.tmp 29) 22 rfl w2.heap.size 5 i5 1 Tryd.underlying22 hi5 hz51 w2.heap.size 0 (len + 3) [] rfl (hown3.alloc _) ⟨w3.heap.size, 0, none⟩ 3 3 [.int .u8 239, .int .u8 187, .int .u8 191] rfl rfl (mark_news w3) (by simp [Value.oneCell']) (by omega) ?_; intro w4 hown4 hgrow4; simp only [Nat.zero_add, List.nil_append] at hown4)
    | (at_builtin; refine wpList_append_fits _ rfl (.tmp 31) (.tmp 32) 22 rfl w2.heap.size 5 i5 1 Tryd.underlying22 hi5 hz51 w2.heap.size 3 (len + 3) _ rfl hown4 ⟨w.heap.size, 0, none⟩ len len cs rfl (by rw [HCL.out]; omega) (stepD HG2.out HCS.out HZ.out hb2 hgrow3 hgrow4) HC1.out (by omega) ?_; intro w5 hown5 hgrow5)
    | (go_at_call 5; go_in)
    | fail)
  have AD : At w5 (some ⟨w.heap.size, 0, none⟩) zs := At.of_bs (stepZ HG2.out HCS.out HZ.out hb2 hgrow3 hgrow4 hgrow5)
  have AM : At w5 (some ⟨w2.heap.size, 0, none⟩) (mark ++ zs) := At.of_bs (bs_owned hown5 (by rw [HCS.out]; rfl))
  have BB : Below w.heap.size w w5 := stepB hb2 hgrow3 hgrow4 hgrow5
  have HE5 : Hid (w5.cell? ⟨0, 0, none⟩ = some (.iface 45 (.pointer (some eof)))) := (BB.cell (p := ⟨0, 0, none⟩) (World.block_lt_of_cell? w _ HE.out)).trans HE.out
  have HM5 : Hid ((mark ++ zs).length = 3 + len) := by have := HZ.out; unfold Hid mark; simp; omega
  have bm : Byte (mark ++ zs) := byte_append byte_mark bx
  have hm5 : len + 3 ≤ maxLen := by unfold maxLen; omega
  have hml : len ≤ maxLen := by unfold maxLen; omega
  clear hown1 hgrow1 HG2 hb2 hown3 hgrow3 hown4 hgrow4 hown5 hgrow5 HSR HC1 HCS HCL
  rcases (show len ≤ 65533 ∨ (65533 < len ∧ len ≤ 65536) ∨ 65536 < len by omega) with h | ⟨h, h'⟩ | h
  · have HL1 : Hid ((zs.take 65533).length = len) := by have := HZ.out; unfold Hid; simp; omega
    have HL2 : Hid ((zs.take 65536).length = len) := by have := HZ.out; unfold Hid; simp; omega
    refine (body_fit (some ⟨w2.heap.size, 0, none⟩) (3 + len) (len + 3) len (mark ++ zs) (zs.take 65533) eof w5 HM5 (strip_mark zs).symm HL1 HE5 AM bm (by omega) hm5).mono ?_
    rintro e w6 ⟨g1, o1, c1, rfl, e1, e2, A1, B1⟩
    have AD6 : At w6 (some ⟨w.heap.size, 0, none⟩) zs := AD.below B1
    have HE6 : Hid (w6.cell? ⟨0, 0, none⟩ = some (.iface 45 (.pointer (some eof)))) := (B1.cell (p := ⟨0, 0, none⟩) (World.block_lt_of_cell? w5 _ HE5.out)).trans HE5.out
    have BB6 : Below w.heap.size w w6 := BB.trans (B1.mono BB.size)
    clear B1 BB AD AM HE5
    go_wp2_with fail
    refine (zzSame_fit (some ⟨g1, o1, none⟩) (some ⟨w.heap.size, 0, none⟩) len c1 len (zs.take 65533) w6 HL1 A1 (AD6.take 65533) (by unfold maxLen; omega)).mono ?_
    rintro e w7 ⟨rfl, k7, rfl⟩
    by_cases hop : opens zs = true
    · have HOP : Hid (opens zs = true) := hop
      clear hop
      go_wp2_with fail
      refine (zzOpens_fit (some ⟨w.heap.size, 0, none⟩) len len zs (w6.drewN k7) HZ AD6 hml true HOP).mono ?_
      rintro e w8 ⟨rfl, rfl⟩
      go_wp2
      go_ret
      exact ⟨rfl, below_drewN BB6 _⟩
    · have HOP : Hid (opens zs = false) := by simpa [Hid] using hop
      clear hop
      go_wp2_with fail
      refine (zzOpens_fit (some ⟨w.heap.size, 0, none⟩) len len zs (w6.drewN k7) HZ AD6 hml false HOP).mono ?_
      rintro e w8 ⟨rfl, rfl⟩
      go_wp2_with fail
      refine (body_fit (some ⟨w.heap.size, 0, none⟩) len len len zs (zs.take 65536) eof (w6.drewN k7) HZ (strip_plain zs HOP.out).symm HL2 HE6 AD6 bx (by omega) (by unfold maxLen; omega)).mono ?_
      rintro e w9 ⟨g2, o2, c2, rfl, e3, e4, A2, B2⟩
      have AD9 : At w9 (some ⟨w.heap.size, 0, none⟩) zs := At.below (w := w6.drewN k7) AD6 B2
      have BB9 : Below w.heap.size w w9 := (below_drewN BB6 k7).trans (B2.mono BB6.size)
      clear B2 BB6 AD6 HE6 A1
      go_wp2_with fail
      refine (zzSame_fit (some ⟨g2, o2, none⟩) (some ⟨w.heap.size, 0, none⟩) len c2 len (zs.take 65536) w9 HL2 A2 (AD9.take 65536) (by unfold maxLen; omega)).mono ?_
      rintro e w10 ⟨rfl, k10, rfl⟩
      go_wp2
      go_ret
      exact ⟨rfl, below_drewN BB9 _⟩
  · have HL1 : Hid ((zs.take 65533).length = 65533) := by have := HZ.out; unfold Hid; simp; omega
    have HL2 : Hid ((zs.take 65536).length = len) := by have := HZ.out; unfold Hid; simp; omega
    refine (body_fit (some ⟨w2.heap.size, 0, none⟩) (3 + len) (len + 3) 65533 (mark ++ zs) (zs.take 65533) eof w5 HM5 (strip_mark zs).symm HL1 HE5 AM bm (by omega) hm5).mono ?_
    rintro e w6 ⟨g1, o1, c1, rfl, e1, e2, A1, B1⟩
    have AD6 : At w6 (some ⟨w.heap.size, 0, none⟩) zs := AD.below B1
    have HE6 : Hid (w6.cell? ⟨0, 0, none⟩ = some (.iface 45 (.pointer (some eof)))) := (B1.cell (p := ⟨0, 0, none⟩) (World.block_lt_of_cell? w5 _ HE5.out)).trans HE5.out
    have BB6 : Below w.heap.size w w6 := BB.trans (B1.mono BB.size)
    clear B1 BB AD AM HE5
    go_wp2_with fail
    refine (zzSame_fit (some ⟨g1, o1, none⟩) (some ⟨w.heap.size, 0, none⟩) 65533 c1 len (zs.take 65533) w6 HL1 A1 (AD6.take 65533) (by unfold maxLen; omega)).mono ?_
    rintro e w7 ⟨rfl, k7, rfl⟩
    by_cases hop : opens zs = true
    · have HOP : Hid (opens zs = true) := hop
      clear hop
      go_wp2_with fail
      refine (zzOpens_fit (some ⟨w.heap.size, 0, none⟩) len len zs (w6.drewN k7) HZ AD6 hml true HOP).mono ?_
      rintro e w8 ⟨rfl, rfl⟩
      go_wp2
      go_ret
      exact ⟨rfl, below_drewN BB6 _⟩
    · have HOP : Hid (opens zs = false) := by simpa [Hid] using hop
      clear hop
      go_wp2_with fail
      refine (zzOpens_fit (some ⟨w.heap.size, 0, none⟩) len len zs (w6.drewN k7) HZ AD6 hml false HOP).mono ?_
      rintro e w8 ⟨rfl, rfl⟩
      go_wp2_with fail
      refine (body_fit (some ⟨w.heap.size, 0, none⟩) len len len zs (zs.take 65536) eof (w6.drewN k7) HZ (strip_plain zs HOP.out).symm HL2 HE6 AD6 bx (by omega) (by unfold maxLen; omega)).mono ?_
      rintro e w9 ⟨g2, o2, c2, rfl, e3, e4, A2, B2⟩
      have AD9 : At w9 (some ⟨w.heap.size, 0, none⟩) zs := At.below (w := w6.drewN k7) AD6 B2
      have BB9 : Below w.heap.size w w9 := (below_drewN BB6 k7).trans (B2.mono BB6.size)
      clear B2 BB6 AD6 HE6 A1
      go_wp2_with fail
      refine (zzSame_fit (some ⟨g2, o2, none⟩) (some ⟨w.heap.size, 0, none⟩) len c2 len (zs.take 65536) w9 HL2 A2 (AD9.take 65536) (by unfold maxLen; omega)).mono ?_
      rintro e w10 ⟨rfl, k10, rfl⟩
      go_wp2
      go_ret
      exact ⟨rfl, below_drewN BB9 _⟩
  · have HL1 : Hid ((zs.take 65533).length = 65533) := by have := HZ.out; unfold Hid; simp; omega
    have HL2 : Hid ((zs.take 65536).length = 65536) := by have := HZ.out; unfold Hid; simp; omega
    refine (body_fit (some ⟨w2.heap.size, 0, none⟩) (3 + len) (len + 3) 65533 (mark ++ zs) (zs.take 65533) eof w5 HM5 (strip_mark zs).symm HL1 HE5 AM bm (by omega) hm5).mono ?_
    rintro e w6 ⟨g1, o1, c1, rfl, e1, e2, A1, B1⟩
    have AD6 : At w6 (some ⟨w.heap.size, 0, none⟩) zs := AD.below B1
    have HE6 : Hid (w6.cell? ⟨0, 0, none⟩ = some (.iface 45 (.pointer (some eof)))) := (B1.cell (p := ⟨0, 0, none⟩) (World.block_lt_of_cell? w5 _ HE5.out)).trans HE5.out
    have BB6 : Below w.heap.size w w6 := BB.trans (B1.mono BB.size)
    clear B1 BB AD AM HE5
    go_wp2_with fail
    refine (zzSame_fit (some ⟨g1, o1, none⟩) (some ⟨w.heap.size, 0, none⟩) 65533 c1 len (zs.take 65533) w6 HL1 A1 (AD6.take 65533) (by unfold maxLen; omega)).mono ?_
    rintro e w7 ⟨rfl, k7, rfl⟩
    by_cases hop : opens zs = true
    · have HOP : Hid (opens zs = true) := hop
      clear hop
      go_wp2_with fail
      refine (zzOpens_fit (some ⟨w.heap.size, 0, none⟩) len len zs (w6.drewN k7) HZ AD6 hml true HOP).mono ?_
      rintro e w8 ⟨rfl, rfl⟩
      go_wp2
      go_ret
      exact ⟨rfl, below_drewN BB6 _⟩
    · have HOP : Hid (opens zs = false) := by simpa [Hid] using hop
      clear hop
      go_wp2_with fail
      refine (zzOpens_fit (some ⟨w.heap.size, 0, none⟩) len len zs (w6.drewN k7) HZ AD6 hml false HOP).mono ?_
      rintro e w8 ⟨rfl, rfl⟩
      go_wp2_with fail
      refine (body_fit (some ⟨w.heap.size, 0, none⟩) len len 65536 zs (zs.take 65536) eof (w6.drewN k7) HZ (strip_plain zs HOP.out).symm HL2 HE6 AD6 bx (by omega) (by unfold maxLen; omega)).mono ?_
      rintro e w9 ⟨g2, o2, c2, rfl, e3, e4, A2, B2⟩
      have AD9 : At w9 (some ⟨w.heap.size, 0, none⟩) zs := At.below (w := w6.drewN k7) AD6 B2
      have BB9 : Below w.heap.size w w9 := (below_drewN BB6 k7).trans (B2.mono BB6.size)
      clear B2 BB6 AD6 HE6 A1
      go_wp2_with fail
      refine (zzSame_fit (some ⟨g2, o2, none⟩) (some ⟨w.heap.size, 0, none⟩) 65536 c2 len (zs.take 65536) w9 HL2 A2 (AD9.take 65536) (by unfold maxLen; omega)).mono ?_
      rintro e w10 ⟨rfl, k10, rfl⟩
      go_wp2
      go_ret
      exact ⟨rfl, below_drewN BB9 _⟩

theorem opens_nil : opens [] = false := by decide
theorem strip_nil : strip (([] : List Int).take 65536) = [] := by decide
theorem strip_mark_nil : strip (mark.take 65536) = [] := by decide

set_option maxHeartbeats 2000000 in
theorem walkA_nil (eof : Addr) (w : World) (HE : Hid (w.cell? ⟨0, 0, none⟩ = some (.iface 45 (.pointer (some eof))))) :
    Calls Tryd.prog 3 #[.slice none 0 0] w fun e w' => e = .returned (.bool true) ∧ Below w.heap.size w w' := by
  obtain ⟨i5, hi5, hz50, hz51, hz52⟩ := info_parts info5
  go_enter Tryd.func3, Tryd.ntmps3
  go_wp2_with (first
    | (at_make; refine wpList_make_own _ rfl (.const (.int .i64 0)) (.tmp 26) 22 rfl w.heap.size 5 i5 (.int .u8 0) 1 Tryd.underlying22 hi5 hz50 hz51 .i64 .i64 3 3 rfl rfl (by omega) (by rw [hz52]; omega) (by unfold maxLen; omega) (Nat.le_refl _) ?_; intro w3 hown3 hgrow3)
    | (at_builtin; refine wpList_append_fits _ rfl (.tmp 28) (.tmp 29) 22 rfl w.heap.size 5 i5 1 Tryd.underlying22 hi5 hz51 w.heap.size 0 3 [] rfl (hown3.alloc _) ⟨w3.heap.size, 0, none⟩ 3 3 [.int .u8 239, .int .u8 187, .int .u8 191] rfl rfl (mark_news w3) (by simp [Value.oneCell']) (by omega) ?_; intro w4 hown4 hgrow4; simp only [Nat.zero_add, List.nil_append] at hown4)
    | (at_builtin; refine wpList_append_fits_any _ rfl (.tmp 31) (.tmp 32) 22 rfl w.heap.size 5 i5 1 Tryd.underlying22 hi5 hz51 w.heap.size 3 3 _ rfl hown4 none 0 0 [] rfl rfl (fun _ => ⟨rfl, rfl⟩) (fun _ h => by cases h) (by simp) (by omega) ?_; intro w5 hown5 hgrow5; simp only [Nat.add_zero, List.append_nil] at hown5)
    | (go_at_call 5; go_in)
    | fail)
  have AM : At w5 (some ⟨w.heap.size, 0, none⟩) mark := At.of_bs (bs_owned hown5 rfl)
  have BB : Below w.heap.size w w5 := by
    have h2 : Only [w.heap.size] w w5 := ((((Only.refl _ _).grown hgrow3 (by simp)).alloc _).grown hgrow4 (by simp)).grown hgrow5 (by simp)
    exact h2.below (Nat.le_refl _) (by simp)
  have HE5 : Hid (w5.cell? ⟨0, 0, none⟩ = some (.iface 45 (.pointer (some eof)))) := (BB.cell (p := ⟨0, 0, none⟩) (World.block_lt_of_cell? w _ HE.out)).trans HE.out
  clear hown3 hgrow3 hown4 hgrow4 hown5 hgrow5
  refine (body_fit (some ⟨w.heap.size, 0, none⟩) 3 3 0 mark [] eof w5 rfl strip_mark_nil.symm rfl HE5 AM byte_mark (by omega) (by unfold maxLen; omega)).mono ?_
  rintro e w6 ⟨g1, o1, c1, rfl, e1, e2, A1, B1⟩
  have HE6 : Hid (w6.cell? ⟨0, 0, none⟩ = some (.iface 45 (.pointer (some eof)))) := (B1.cell (p := ⟨0, 0, none⟩) (World.block_lt_of_cell? w5 _ HE5.out)).trans HE5.out
  have BB6 : Below w.heap.size w w6 := BB.trans (B1.mono BB.size)
  clear B1 BB AM HE5
  go_wp2_with fail
  refine (zzSame_fit (some ⟨g1, o1, none⟩) none 0 c1 0 [] w6 rfl A1 (At.nil _ _) (by unfold maxLen; omega)).mono ?_
  rintro e w7 ⟨rfl, k7, rfl⟩
  go_wp2_with fail
  refine (zzOpens_fit none 0 0 [] (w6.drewN k7) rfl (At.nil _ _) (by unfold maxLen; omega) false opens_nil).mono ?_
  rintro e w8 ⟨rfl, rfl⟩
  go_wp2_with fail
  refine (body_fit none 0 0 0 [] [] eof (w6.drewN k7) rfl strip_nil.symm rfl HE6 (At.nil _ _) (fun z hz => by simp at hz) (by omega) (by unfold maxLen; omega)).mono ?_
  rintro e w9 ⟨g2, o2, c2, rfl, e3, e4, A2, B2⟩
  have BB9 : Below w.heap.size w w9 := (below_drewN BB6 k7).trans (B2.mono BB6.size)
  clear B2 BB6 HE6 A1
  go_wp2_with fail
  refine (zzSame_fit (some ⟨g2, o2, none⟩) none 0 c2 0 [] w9 rfl A2 (At.nil _ _) (by unfold maxLen; omega)).mono ?_
  rintro e w10 ⟨rfl, k10, rfl⟩
  go_wp2
  go_ret
  exact ⟨rfl, below_drewN BB9 _⟩
end Go.Proofs.Qxb6614690aDoor
