import Derived.Test.Qxb6614690aDoorBody
namespace Go.Proofs.Qxb6614690aDoor
open Go.RowKit
set_option linter.unusedVariables false

/-- A slice's address leads to the bytes xs (where there is one at all). -/
def At (w : World) (ad : Option Addr) (xs : List Int) : Prop := 0 < xs.length → ∃ b o, ad = some ⟨b, o, none⟩ ∧ Bs w b o xs

theorem At.of_bs {w : World} {b o : Nat} {xs : List Int} (h : Bs w b o xs) : At w (some ⟨b, o, none⟩) xs := fun _ => ⟨b, o, rfl, h⟩
theorem At.nil (w : World) (ad : Option Addr) : At w ad [] := fun h => by simp at h
theorem bs_lt {w : World} {b o : Nat} {xs : List Int} (h : Bs w b o xs) (hp : 0 < xs.length) : b < w.heap.size := World.block_lt_of_cell? w _ (h 0 hp)
theorem Bs.below {w w' : World} {b o : Nat} {xs : List Int} (h : Bs w b o xs) (hb : Below w.heap.size w w') : Bs w' b o xs := fun i hi =>
  (hb.cell (p := ⟨b, o + i, none⟩) (bs_lt h (by omega))).trans (h i hi)
theorem At.below {w w' : World} {ad : Option Addr} {xs : List Int} (h : At w ad xs) (hb : Below w.heap.size w w') : At w' ad xs := fun hp => by
  obtain ⟨b, o, e, hx⟩ := h hp
  exact ⟨b, o, e, hx.below hb⟩
theorem At.take {w : World} {ad : Option Addr} {xs : List Int} (h : At w ad xs) (n : Nat) : At w ad (xs.take n) := fun hp => by
  obtain ⟨b, o, e, hx⟩ := h (by simp at hp; omega)
  exact ⟨b, o, e, hx.take n⟩

theorem body_fit (ad : Option Addr) (n c m : Nat) (xs rs : List Int) (eof : Addr) (w : World) (HN : Hid (xs.length = n)) (HR : Hid (rs = strip (xs.take 65536))) (HM : Hid (rs.length = m))
    (HE : Hid (w.cell? ⟨0, 0, none⟩ = some (.iface 45 (.pointer (some eof))))) (hx : At w ad xs) (bx : Byte xs) (hnc : n ≤ c) (hcm : c ≤ maxLen) :
    Calls Tryd.prog 6 #[.slice ad n c] w fun e w' => ∃ g o' c', e = .returned (.slice (some ⟨g, o', none⟩) m c') ∧ m ≤ c' ∧ c' ≤ maxLen ∧ At w' (some ⟨g, o', none⟩) rs ∧ Below w.heap.size w w' := by
  have h1 := HN.out
  have h2 := HM.out
  have h3 := HR.out
  subst h1
  subst h2
  have h0 : 0 < w.heap.size := World.block_lt_of_cell? w _ HE.out
  obtain ⟨B, o, hB, hxx⟩ : ∃ B o, B < w.heap.size ∧ (0 < xs.length → ad = some ⟨B, o, none⟩ ∧ Bs w B o xs) := by
    by_cases hp : 0 < xs.length
    · obtain ⟨b, o, e, hb⟩ := hx hp
      exact ⟨b, o, bs_lt hb hp, fun _ => ⟨e, hb⟩⟩
    · exact ⟨0, 0, h0, fun h => absurd h hp⟩
  have C := body_any B o c ad xs (xs.take 65536) rfl eof w HE.out hxx bx hnc hcm hB
  rw [← h3] at C
  refine C.mono ?_
  rintro e w' ⟨g, o', c', a1, a2, a3, a4, a5, a6⟩
  exact ⟨g, o', c', a1, a2, a3, At.of_bs a4, a6⟩

theorem zzSame_zero (a1 a2 : Option Addr) (c1 c2 : Nat) (w : World) :
    Calls Tryd.prog 7 #[.slice a1 0 c1, .slice a2 0 c2] w fun e w' => e = .returned (.bool true) ∧ w' = w := by
  go_enter Tryd.func7, Tryd.ntmps7
  go_wp2
  refine wp_loop_rounds 1 ?_
  rw [rounds_succ]
  go_wp2
  go_ret
  exact ⟨rfl, rfl⟩

theorem zzSame_fit (a1 a2 : Option Addr) (n c1 c2 : Nat) (xs : List Int) (w : World) (HN : Hid (xs.length = n)) (h1 : At w a1 xs) (h2 : At w a2 xs) (hl : n ≤ maxLen) :
    Calls Tryd.prog 7 #[.slice a1 n c1, .slice a2 n c2] w fun e w' => e = .returned (.bool true) ∧ ∃ k, w' = w.drewN k := by
  have hn := HN.out
  subst hn
  by_cases hp : 0 < xs.length
  · obtain ⟨b1, o1, rfl, x1⟩ := h1 hp
    obtain ⟨b2, o2, rfl, x2⟩ := h2 hp
    have C := zzSame_any b1 o1 c1 b2 o2 c2 xs xs w x1 x2 hl
    have e : same xs xs = true := by simp [same]
    rw [e] at C
    exact C
  · have e : xs.length = 0 := by omega
    rw [e]
    refine (zzSame_zero a1 a2 c1 c2 w).mono ?_
    rintro e w' ⟨he, hw⟩
    exact ⟨he, 0, hw⟩

theorem zzOpens_fit (a : Option Addr) (n c : Nat) (xs : List Int) (w : World) (HN : Hid (xs.length = n)) (h : At w a xs) (hl : n ≤ maxLen) (r : Bool) (HR : Hid (opens xs = r)) :
    Calls Tryd.prog 8 #[.slice a n c] w fun e w' => e = .returned (.bool r) ∧ w' = w := by
  have hn := HN.out
  have hr := HR.out
  subst hn
  subst hr
  by_cases hp : 0 < xs.length
  · obtain ⟨b, o, rfl, x⟩ := h hp
    exact zzOpens_any b o c xs w x hl
  · have E : opens xs = false := by unfold opens; exact decide_eq_false (fun h => by omega)
    rw [E]
    exact zzOpens_short a c _ w (by omega)

/-! ### The plain laws -/
theorem opens_mark (zs : List Int) : opens ((mark ++ zs).take 65536) = true := by
  unfold opens mark
  simp

theorem strip_mark (zs : List Int) : strip ((mark ++ zs).take 65536) = zs.take 65533 := by
  unfold strip
  rw [if_pos (opens_mark zs)]
  unfold mark
  simp

theorem opens_take (zs : List Int) (n : Nat) (h : 3 ≤ n) : opens (zs.take n) = opens zs := by
  unfold opens
  have e : ∀ i, i < 3 → (zs.take n).getD i 0 = zs.getD i 0 := fun i hi => by
    simp [List.getD_eq_getElem?_getD, show i < n by omega]
  rw [e 0 (by omega), e 1 (by omega), e 2 (by omega)]
  congr 1
  simp only [List.length_take, eq_iff_iff]
  constructor
  · rintro ⟨h1, h2⟩; exact ⟨by omega, h2⟩
  · rintro ⟨h1, h2⟩; exact ⟨by omega, h2⟩

theorem strip_plain (zs : List Int) (h : opens zs = false) : strip (zs.take 65536) = zs.take 65536 := by
  unfold strip
  rw [opens_take zs 65536 (by omega), h]
  simp

/-! ### The two rows that the laws lay -/
def markVals : List Value := [.int .u8 239, .int .u8 187, .int .u8 191]
theorem mark_vals : mark.map (Value.int .u8) = markVals := rfl

theorem mark_news (w : World) : ∀ j u, ([.int .u8 239, .int .u8 187, .int .u8 191] : List Value)[j]? = some u → (w.alloc (.cells #[.int .u8 239, .int .u8 187, .int .u8 191] 5)).cell? ((⟨w.heap.size, 0, none⟩ : Addr).add j) = some u := by
  intro j u hj
  have hb : (w.alloc (.cells #[.int .u8 239, .int .u8 187, .int .u8 191] 5)).heap[w.heap.size]? = some (.cells #[.int .u8 239, .int .u8 187, .int .u8 191] 5 (0, 0)) := heap_alloc_new w _
  rw [Addr.add_lit, Nat.zero_add]
  simp only [World.cell?, hb]
  simpa using hj

/-- The copy's row holds the bytes. -/
theorem bs_copied {w : World} {g : Nat} {cur cs : List Value} {zs : List Int} {len : Nat} (hg : w.heap[g]? = some (.cells (splice cur 0 cs).toArray 5 (0, 0))) (hcs : cs = zs.map (Value.int .u8)) (hz : zs.length = len) : Bs w g 0 zs := by
  refine bs_of_row (len := zs.length) hg ?_ rfl
  unfold splice
  rw [hcs]
  simp only [List.take_zero, List.nil_append]
  rw [List.take_append_of_le_length (by simp)]
  exact List.take_of_length_le (by simp)

theorem bs_owned {w : World} {base g n cap : Nat} {xs : List Value} {zs : List Int} (h : w.ownsRow base 5 1 (.slice (some ⟨g, 0, none⟩) n cap) n xs) (hx : xs = zs.map (Value.int .u8)) : Bs w g 0 zs := by
  obtain ⟨cur, h1, h2, h3, h4, h5, h6⟩ := ownsRow_block h
  refine bs_of_row h1 (by rw [h5, hx]) ?_
  have := h.1
  rw [hx] at this
  simpa using this
end Go.Proofs.Qxb6614690aDoor
