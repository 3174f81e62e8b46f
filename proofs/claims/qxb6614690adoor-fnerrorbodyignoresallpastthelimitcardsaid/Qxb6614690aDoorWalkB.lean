import Derived.Test.Qxb6614690aDoorWalkA
namespace Go.Proofs.Qxb6614690aDoor
open Go.RowKit
set_option linter.unusedVariables false

theorem bytes9_no (a1 a2 : Option Addr) (l1 c1 l2 c2 : Nat) (w : World) (h1 : l1 ≤ 9223372036854775807) (h2 : l2 ≤ 9223372036854775807) (h : 1048576 < l1 + l2) :
    Calls Tryd.prog 9 #[.slice a1 l1 c1, .slice a2 l2 c2] w fun e w' => e = .returned (.bool false) ∧ w' = w := by
  by_cases q1 : 1048576 < l1
  · go_enter Tryd.func9, Tryd.ntmps9
    go_wp2
    go_ret
    exact ⟨rfl, rfl⟩
  · by_cases q2 : 1048576 < l2
    · go_enter Tryd.func9, Tryd.ntmps9
      go_wp2
      go_ret
      exact ⟨rfl, rfl⟩
    · go_enter Tryd.func9, Tryd.ntmps9
      go_wp2
      go_ret
      exact ⟨rfl, rfl⟩
theorem bytes9_yes (a1 a2 : Option Addr) (l1 c1 l2 c2 : Nat) (w : World) (h : l1 + l2 ≤ 1048576) :
    Calls Tryd.prog 9 #[.slice a1 l1 c1, .slice a2 l2 c2] w fun e w' => e = .returned (.bool true) ∧ w = w' := by
  go_enter Tryd.func9, Tryd.ntmps9
  go_wp2
  go_ret
  exact ⟨rfl, rfl⟩
theorem earlyB1 (a1 a2 : Option Addr) (l1 c1 l2 c2 : Nat) (w : World) (h1 : l1 ≤ 9223372036854775807) (h2 : l2 ≤ 9223372036854775807) (h : 1048576 < l1 + l2) :
    Calls Tryd.prog 4 #[.slice a1 l1 c1, .slice a2 l2 c2] w fun e w' => e = .returned (.bool true) ∧ Below w.heap.size w w' := by
    go_enter Tryd.func4, Tryd.ntmps4
    go_wp2_with (go_at_call 9; refine (bytes9_no a1 a2 l1 c1 l2 c2 w h1 h2 h).mono ?_; rintro e w' ⟨rfl, rfl⟩)
    go_ret
    exact ⟨rfl, Below.refl _ _⟩
theorem earlyB2 (a1 a2 : Option Addr) (l1 c1 l2 c2 : Nat) (w : World) (h : l1 + l2 ≤ 1048576) (q : 524288 < l1) :
    Calls Tryd.prog 4 #[.slice a1 l1 c1, .slice a2 l2 c2] w fun e w' => e = .returned (.bool true) ∧ Below w.heap.size w w' := by
    go_enter Tryd.func4, Tryd.ntmps4
    go_wp2_with (go_at_call 9; refine (bytes9_yes a1 a2 l1 c1 l2 c2 w h).mono ?_; rintro e w' ⟨rfl, rfl⟩)
    go_ret
    exact ⟨rfl, Below.refl _ _⟩
theorem earlyB3 (a1 a2 : Option Addr) (l1 c1 l2 c2 : Nat) (w : World) (h : l1 + l2 ≤ 1048576) (q : l1 ≤ 524288) (q' : 524288 < l2) :
    Calls Tryd.prog 4 #[.slice a1 l1 c1, .slice a2 l2 c2] w fun e w' => e = .returned (.bool true) ∧ Below w.heap.size w w' := by
    go_enter Tryd.func4, Tryd.ntmps4
    go_wp2_with (go_at_call 9; refine (bytes9_yes a1 a2 l1 c1 l2 c2 w h).mono ?_; rintro e w' ⟨rfl, rfl⟩)
    go_ret
    exact ⟨rfl, Below.refl _ _⟩

theorem earlyB4 (a1 a2 : Option Addr) (l1 c1 l2 c2 : Nat) (w : World) (h : l1 + l2 ≤ 1048576) (q : l1 < 65536) (q' : l2 ≤ 524288) :
    Calls Tryd.prog 4 #[.slice a1 l1 c1, .slice a2 l2 c2] w fun e w' => e = .returned (.bool true) ∧ Below w.heap.size w w' := by
    have H : Hid (l1 + l2 ≤ 1048576) := h
    have Q : Hid (l1 < 65536) := q
    have n1 : decide ((524288 : Int) < (l1 : Int)) = false := decide_eq_false (by omega)
    have n2 : decide ((524288 : Int) < (l2 : Int)) = false := decide_eq_false (by omega)
    have n3 : decide ((l1 : Int) < (65536 : Int)) = true := decide_eq_true (by omega)
    clear h q q'
    go_enter Tryd.func4, Tryd.ntmps4
    go_wp2_with (go_at_call 9; refine (bytes9_yes a1 a2 l1 c1 l2 c2 w H.out).mono ?_; rintro e w' ⟨rfl, rfl⟩)
    go_ret
    exact ⟨rfl, Below.refl _ _⟩

theorem walkB_early (a1 a2 : Option Addr) (l1 c1 l2 c2 : Nat) (w : World) (h1 : l1 ≤ maxLen) (h2 : l2 ≤ maxLen) (h : ¬ (65536 ≤ l1 ∧ l1 ≤ 524288 ∧ l2 ≤ 524288)) :
    Calls Tryd.prog 4 #[.slice a1 l1 c1, .slice a2 l2 c2] w fun e w' => e = .returned (.bool true) ∧ Below w.heap.size w w' := by
  unfold maxLen at h1 h2
  by_cases q0 : 1048576 < l1 + l2
  · exact earlyB1 a1 a2 l1 c1 l2 c2 w (by omega) (by omega) q0
  · by_cases q1 : 524288 < l1
    · exact earlyB2 a1 a2 l1 c1 l2 c2 w (by omega) q1
    · by_cases q2 : 524288 < l2
      · exact earlyB3 a1 a2 l1 c1 l2 c2 w (by omega) (by omega) q2
      · exact earlyB4 a1 a2 l1 c1 l2 c2 w (by omega) (by omega) (by omega)

theorem take_both (zs es : List Int) (h : 65536 ≤ zs.length) : (zs ++ es).take 65536 = zs.take 65536 := by
  rw [List.take_append_of_le_length h]

theorem strip_yes (zs : List Int) (h : opens zs = true) : strip (zs.take 65536) = (zs.take 65536).drop 3 := by
  unfold strip
  rw [opens_take zs 65536 (by omega), h]
  simp

theorem stepE {w w2 w3 w4 : World} {ae : Option Addr} {es : List Value} (hsrc : ∀ ad, ae = some ad → ∀ j u, es[j]? = some u → w.cell? (ad.add j) = some u) (hb : Below w.heap.size w w2) (hg3 : w2.grownBy w3 none) (hg4 : w3.grownBy w4 (some w2.heap.size)) :
    ∀ ad, ae = some ad → ∀ j u, es[j]? = some u → w4.cell? (ad.add j) = some u := by
  intro ad had j u hj
  have h1 := hsrc ad had j u hj
  have hlt := World.block_lt_of_cell? w _ h1
  have h2 : Only [w2.heap.size] w2 w4 := ((Only.refl _ _).grown hg3 (by simp)).grown hg4 (by simp)
  have h3 : w2.cell? (ad.add j) = some u := (hb.cell hlt).trans h1
  exact h2.cell h3 (by have := hb.size; simp; omega)

theorem stepD' {w w2 w3 : World} {cur cs : List Value} {zs : List Int} {len : Nat} (hg : w2.heap[w.heap.size]? = some (.cells (splice cur 0 cs).toArray 5 (0, 0))) (hcs : cs = zs.map (Value.int .u8)) (hz : zs.length = len) (hg3 : w2.grownBy w3 none) :
    ∀ j u, cs[j]? = some u → w3.cell? ((⟨w.heap.size, 0, none⟩ : Addr).add j) = some u := by
  have h1 : Bs w2 w.heap.size 0 zs := bs_copied hg hcs hz
  have h2 : Only [] w2 w3 := (Only.refl _ _).grown hg3 (by simp)
  have h3 : Bs w3 w.heap.size 0 zs := h2.bs (by simp) h1
  rw [hcs]
  exact bs_news h3

theorem stepZ' {w w2 w3 w4 w5 : World} {cur cs : List Value} {zs : List Int} {len : Nat} (hg : w2.heap[w.heap.size]? = some (.cells (splice cur 0 cs).toArray 5 (0, 0))) (hcs : cs = zs.map (Value.int .u8)) (hz : zs.length = len) (hg3 : w2.grownBy w3 none) (hg4 : w3.grownBy w4 (some w2.heap.size)) (hg5 : w4.grownBy w5 (some w2.heap.size)) :
    Bs w5 w.heap.size 0 zs := by
  have h1 : Bs w2 w.heap.size 0 zs := bs_copied hg hcs hz
  have h2 : Only [w2.heap.size] w2 w5 := (((Only.refl _ _).grown hg3 (by simp)).grown hg4 (by simp)).grown hg5 (by simp)
  exact h2.bs (by have := lt_of_block hg; simp; omega) h1

theorem stepB' {w w2 w3 w4 w5 : World} (hb : Below w.heap.size w w2) (hg3 : w2.grownBy w3 none) (hg4 : w3.grownBy w4 (some w2.heap.size)) (hg5 : w4.grownBy w5 (some w2.heap.size)) :
    Below w.heap.size w w5 := by
  have h2 : Only [w2.heap.size] w2 w5 := (((Only.refl _ _).grown hg3 (by simp)).grown hg4 (by simp)).grown hg5 (by simp)
  exact hb.trans (h2.below hb.size (by have := hb.size; simp; omega))

theorem At.dropped {w : World} {g : Nat} {zs : List Int} (h : At w (some ⟨g, 0, none⟩) zs) (n k : Nat) : At w (some ⟨g, k, none⟩) ((zs.take n).drop k) := fun hp => by
  obtain ⟨b, o, e, hb⟩ := h (by simp at hp; omega)
  simp at e
  obtain ⟨rfl, rfl⟩ := e
  have := (hb.take n).drop k
  rw [Nat.zero_add] at this
  exact ⟨g, k, rfl, this⟩

set_option maxRecDepth 100000 in
set_option maxHeartbeats 2000000 in
theorem walkB_row (x : Addr) (len cap : Nat) (zs : List Int) (ae : Option Addr) (le ce : Nat) (es : List Int) (eof : Addr) (w : World) (HZ : Hid (zs.length = len)) (HEL : Hid (es.length = le))
    (hsrc : ∀ j v, (zs.map (Value.int .u8))[j]? = some v → w.cell? (x.add j) = some v) (bx : Byte zs)
    (hnone : ae = none → le = 0 ∧ ce = 0) (hsrcE : ∀ ad, ae = some ad → ∀ j u, (es.map (Value.int .u8))[j]? = some u → w.cell? (ad.add j) = some u) (be : Byte es)
    (hlo : 65536 ≤ len) (hlen : len ≤ 524288) (hle : le ≤ 524288) (hlc : len ≤ cap) (hcap : cap ≤ maxLen)
    (HE : Hid (w.cell? ⟨0, 0, none⟩ = some (.iface 45 (.pointer (some eof))))) :
    Calls Tryd.prog 4 #[.slice (some x) len cap, .slice ae le ce] w fun e w' => e = .returned (.bool true) ∧ Below w.heap.size w w' := by
  unfold maxLen at hcap
  obtain ⟨i5, hi5, hz50, hz51, hz52⟩ := info_parts info5
  obtain ⟨cs, hcs⟩ : ∃ cs, cs = zs.map (Value.int .u8) := ⟨_, rfl⟩
  have HCS : Hid (cs = zs.map (Value.int .u8)) := hcs
  have HSR : Hid (∀ j v, cs[j]? = some v → w.cell? (x.add j) = some v) := by rw [hcs]; exact hsrc
  have HCL : Hid (cs.length = len) := by have := HZ.out; rw [hcs]; show _ = _; simpa using this
  have HC1 : Hid (∀ v ∈ cs, v.oneCell' = true) := by rw [hcs]; exact ints_one zs
  obtain ⟨ev, hev⟩ : ∃ ev, ev = es.map (Value.int .u8) := ⟨_, rfl⟩
  have HEV : Hid (ev = es.map (Value.int .u8)) := hev
  have HSE : Hid (∀ ad, ae = some ad → ∀ j u, ev[j]? = some u → w.cell? (ad.add j) = some u) := by rw [hev]; exact hsrcE
  have HVL : Hid (ev.length = le) := by have := HEL.out; rw [hev]; show _ = _; simpa using this
  have HV1 : Hid (∀ v ∈ ev, v.oneCell' = true) := by rw [hev]; exact ints_one es
  have HNO : Hid (ae = none → le = 0 ∧ ce = 0) := hnone
  have HLO : Hid (65536 ≤ len) := hlo
  have HB9 : Hid (len + le ≤ 1048576) := by unfold Hid; omega
  have n1 : decide ((524288 : Int) < (len : Int)) = false := decide_eq_false (by omega)
  have n2 : decide ((524288 : Int) < (le : Int)) = false := decide_eq_false (by omega)
  have n3 : decide ((len : Int) < (65536 : Int)) = false := decide_eq_false (by omega)
  clear hcs hsrc hev hsrcE hnone hlo
  go_enter Tryd.func4, Tryd.ntmps4
  go_wp2_with (first
    | (at_make; refine wpList_make_full _ rfl (.tmp 26) (.tmp 26) 22 rfl w.heap.size 5 i5 (.int .u8 0) 1 Tryd.underlying22 hi5 hz50 hz51 .i64 .i64 len len len rfl rfl rfl rfl (by rw [hz52]; omega) (by unfold maxLen; omega) (Nat.le_refl _) ?_; intro w1 hown1 hgrow1)
    | (obtain ⟨cur1, q1, -, -, q2, -, -⟩ := ownsRow_block hown1; refine wpList_copy_splice rfl (.tmp 28) (.tmp 29) 22 22 rfl 5 Tryd.underlying22 (by kernel_rfl) (some ⟨w.heap.size, 0, none⟩) (some x) len len len cap rfl rfl w.heap.size 0 cur1 5 q1 cs (by rw [HCL.out]; exact (Nat.min_self _).symm) (fun _ => ⟨rfl, x, rfl, fun j v hj => hgrow1.cell (HSR.out j v hj) (by simp)⟩) (by rw [HCL.out, q2]; omega) HC1.out w.heap.size w ((Below.refl _ _).grown hgrow1 (Nat.le_refl _) (by simp)) (Nat.le_refl _) ?_; intro w2 HG2 hb2)
    | (at_make; refine wpList_make_own _ rfl (.const (.int .i64 0)) (.tmp 36) 22 rfl w2.heap.size 5 i5 (.int .u8 0) 1 Tryd.underlying22 hi5 hz50 hz51 .i64 .i64 ((len : Int) + (le : Int)) (len + le) rfl rfl (by omega) (by rw [hz52]; omega) (by unfold maxLen; omega) (Nat.le_refl _) ?_; intro w3 hown3 hgrow3)
    | (at_builtin; refine wpList_append_fits _ rfl (.tmp 38) (.tmp 39) 22 rfl w2.heap.size 5 i5 1 Tryd.underlying22 hi5 hz51 w2.heap.size 0 (len + le) [] rfl hown3 ⟨w.heap.size, 0, none⟩ len len cs rfl (by rw [HCL.out]; omega) (stepD' HG2.out HCS.out HZ.out hgrow3) HC1.out (by omega) ?_; intro w4 hown4 hgrow4; simp only [Nat.zero_add, List.nil_append] at hown4)
    | (at_builtin; refine wpList_append_fits_any _ rfl (.tmp 41) (.tmp 42) 22 rfl w2.heap.size 5 i5 1 Tryd.underlying22 hi5 hz51 w2.heap.size len (len + le) _ rfl hown4 ae le ce ev rfl (by rw [HVL.out]; omega) HNO.out (stepE HSE.out hb2 hgrow3 hgrow4) HV1.out (by omega) ?_; intro w5 hown5 hgrow5)
    | (go_at_call 9; refine (bytes9_yes _ _ _ _ _ _ _ HB9.out).mono ?_; rintro e wq ⟨rfl, rfl⟩)
    | fail)
  have AD : At w5 (some ⟨w.heap.size, 0, none⟩) zs := At.of_bs (stepZ' HG2.out HCS.out HZ.out hgrow3 hgrow4 hgrow5)
  have AM : At w5 (some ⟨w2.heap.size, 0, none⟩) (zs ++ es) := At.of_bs (bs_owned hown5 (by rw [HCS.out, HEV.out, List.map_append]))
  have BB : Below w.heap.size w w5 := stepB' hb2 hgrow3 hgrow4 hgrow5
  have HE5 : Hid (w5.cell? ⟨0, 0, none⟩ = some (.iface 45 (.pointer (some eof)))) := (BB.cell (p := ⟨0, 0, none⟩) (World.block_lt_of_cell? w _ HE.out)).trans HE.out
  have HM5 : Hid ((zs ++ es).length = len + le) := by have h1 := HZ.out; have h2 := HEL.out; unfold Hid; rw [List.length_append, h1, h2]
  have bm : Byte (zs ++ es) := byte_append bx be
  have hm5 : len + le ≤ maxLen := by unfold maxLen; omega
  have hml : len ≤ maxLen := by unfold maxLen; omega
  have hzl : 65536 ≤ zs.length := by have h1 := HZ.out; have h2 := HLO.out; omega
  have HTB : Hid ((zs ++ es).take 65536 = zs.take 65536) := take_both zs es hzl
  clear hown1 hgrow1 HG2 hb2 hown3 hgrow3 hown4 hgrow4 hown5 hgrow5 HSR HC1 HCS HCL HSE HV1 HVL HEV HNO HB9 n1 n2 n3 hzl
  obtain ⟨rs, ers⟩ : ∃ rs, rs = strip (zs.take 65536) := ⟨_, rfl⟩
  have HR2 : Hid (rs = strip (zs.take 65536)) := ers
  have HR1 : Hid (rs = strip ((zs ++ es).take 65536)) := by rw [HTB.out]; exact ers
  clear ers
  by_cases hop : opens zs = true
  · have HOP : Hid (opens zs = true) := hop
    have HRS : Hid (rs = (zs.take 65536).drop 3) := HR2.out.trans (strip_yes zs HOP.out)
    have HL : Hid (rs.length = 65533) := by have h1 := HZ.out; have h2 := HLO.out; have h3 := HRS.out; unfold Hid; rw [h3]; simp; omega
    clear hop
    refine (body_fit (some ⟨w2.heap.size, 0, none⟩) (len + le) (len + le) 65533 (zs ++ es) rs eof w5 HM5 HR1 HL HE5 AM bm (Nat.le_refl _) hm5).mono ?_
    rintro e w6 ⟨g1, o1, c1, rfl, e1, e2, A1, B1⟩
    have AD6 : At w6 (some ⟨w.heap.size, 0, none⟩) zs := AD.below B1
    have HE6 : Hid (w6.cell? ⟨0, 0, none⟩ = some (.iface 45 (.pointer (some eof)))) := (B1.cell (p := ⟨0, 0, none⟩) (World.block_lt_of_cell? w5 _ HE5.out)).trans HE5.out
    have BB6 : Below w.heap.size w w6 := BB.trans (B1.mono BB.size)
    clear B1 BB AD AM HE5
    go_wp2_with fail
    refine (body_fit (some ⟨w.heap.size, 0, none⟩) len len 65533 zs rs eof w6 HZ HR2 HL HE6 AD6 bx (Nat.le_refl _) hml).mono ?_
    rintro e w7 ⟨g2, o2, c2, rfl, e3, e4, A2, B2⟩
    have AD7 : At w7 (some ⟨w.heap.size, 0, none⟩) zs := AD6.below B2
    have A17 : At w7 (some ⟨g1, o1, none⟩) rs := A1.below B2
    have BB7 : Below w.heap.size w w7 := BB6.trans (B2.mono BB6.size)
    clear B2 BB6 AD6 HE6 A1
    go_wp2_with fail
    refine (zzOpens_fit (some ⟨w.heap.size, 0, none⟩) len len zs w7 HZ AD7 hml true HOP).mono ?_
    rintro e w8 ⟨rfl, rfl⟩
    go_wp2_with fail
    refine (zzSame_fit (some ⟨g1, o1, none⟩) (some ⟨g2, o2, none⟩) 65533 c1 c2 rs w8 HL A17 A2 (by unfold maxLen; omega)).mono ?_
    rintro e w9 ⟨rfl, k9, rfl⟩
    have AX : At w8 (some ⟨w.heap.size, 3, none⟩) rs := by rw [HRS.out]; exact AD7.dropped 65536 3
    have lo1 : (65536 : Int) ≤ (len : Int) := by have := HLO.out; omega
    have lo2 : ¬ len = 3 := by have := HLO.out; omega
    go_wp2_with fail
    refine (zzSame_fit (some ⟨g1, o1, none⟩) (some ⟨w.heap.size, 3, none⟩) 65533 c1 (len - 3) rs (w8.drewN k9) HL A17 AX (by unfold maxLen; omega)).mono ?_
    rintro e w10 ⟨rfl, k10, rfl⟩
    go_wp2
    go_ret
    exact ⟨rfl, below_drewN BB7 _⟩
  · have HOP : Hid (opens zs = false) := by simpa [Hid] using hop
    have HRS : Hid (rs = zs.take 65536) := HR2.out.trans (strip_plain zs HOP.out)
    have HL : Hid (rs.length = 65536) := by have h1 := HZ.out; have h2 := HLO.out; have h3 := HRS.out; unfold Hid; rw [h3]; simp; omega
    clear hop
    refine (body_fit (some ⟨w2.heap.size, 0, none⟩) (len + le) (len + le) 65536 (zs ++ es) rs eof w5 HM5 HR1 HL HE5 AM bm (Nat.le_refl _) hm5).mono ?_
    rintro e w6 ⟨g1, o1, c1, rfl, e1, e2, A1, B1⟩
    have AD6 : At w6 (some ⟨w.heap.size, 0, none⟩) zs := AD.below B1
    have HE6 : Hid (w6.cell? ⟨0, 0, none⟩ = some (.iface 45 (.pointer (some eof)))) := (B1.cell (p := ⟨0, 0, none⟩) (World.block_lt_of_cell? w5 _ HE5.out)).trans HE5.out
    have BB6 : Below w.heap.size w w6 := BB.trans (B1.mono BB.size)
    clear B1 BB AD AM HE5
    go_wp2_with fail
    refine (body_fit (some ⟨w.heap.size, 0, none⟩) len len 65536 zs rs eof w6 HZ HR2 HL HE6 AD6 bx (Nat.le_refl _) hml).mono ?_
    rintro e w7 ⟨g2, o2, c2, rfl, e3, e4, A2, B2⟩
    have AD7 : At w7 (some ⟨w.heap.size, 0, none⟩) zs := AD6.below B2
    have A17 : At w7 (some ⟨g1, o1, none⟩) rs := A1.below B2
    have BB7 : Below w.heap.size w w7 := BB6.trans (B2.mono BB6.size)
    clear B2 BB6 AD6 HE6 A1
    go_wp2_with fail
    refine (zzOpens_fit (some ⟨w.heap.size, 0, none⟩) len len zs w7 HZ AD7 hml false HOP).mono ?_
    rintro e w8 ⟨rfl, rfl⟩
    go_wp2_with fail
    refine (zzSame_fit (some ⟨g1, o1, none⟩) (some ⟨g2, o2, none⟩) 65536 c1 c2 rs w8 HL A17 A2 (by unfold maxLen; omega)).mono ?_
    rintro e w9 ⟨rfl, k9, rfl⟩
    have AX : At w8 (some ⟨w.heap.size, 0, none⟩) rs := by rw [HRS.out]; exact AD7.take 65536
    have lo1 : (65536 : Int) ≤ (len : Int) := by have := HLO.out; omega
    have lo2 : ¬ len = 3 := by have := HLO.out; omega
    go_wp2_with fail
    refine (zzSame_fit (some ⟨g1, o1, none⟩) (some ⟨w.heap.size, 0, none⟩) 65536 c1 (len) rs (w8.drewN k9) HL A17 AX (by unfold maxLen; omega)).mono ?_
    rintro e w10 ⟨rfl, k10, rfl⟩
    go_wp2
    go_ret
    exact ⟨rfl, below_drewN BB7 _⟩
end Go.Proofs.Qxb6614690aDoor
