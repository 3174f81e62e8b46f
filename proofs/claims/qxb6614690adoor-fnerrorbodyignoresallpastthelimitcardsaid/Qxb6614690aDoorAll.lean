import Derived.Test.Qxb6614690aDoorStep
import Derived.LaidEql
namespace Go.Proofs.Qxb6614690aDoor
open Go.RowKit
set_option linter.unusedVariables false

theorem some_parts {α : Type} {o : Option α} {f : α → Bool} (h : o.map f = some true) : ∃ i, o = some i ∧ f i = true := by
  cases o with
  | none => simp at h
  | some i => exact ⟨i, rfl, by simpa using h⟩
theorem info45 : (Tryd.prog.info? 45).map (·.comparable) = some true := by kernel_rfl
theorem info65 : (Tryd.prog.info? 65).map (fun _ => true) = some true := by kernel_rfl
theorem eq_eof (eof : Addr) (w : World) : (binOp .eql 32 (.iface 45 (.pointer (some eof))) (.iface 45 (.pointer (some eof)))).run Tryd.prog w = .ok (.bool true) w := by
  obtain ⟨i, hi, hc⟩ := some_parts info45
  obtain ⟨j, hj, _⟩ := some_parts info65
  exact run_eql_iface_ptr_same (P := Tryd.prog) w eof (ti := 32) (tp := 45) (te := 65) Tryd.underlying32 Tryd.underlying45 hi hc hj

set_option maxRecDepth 100000 in
set_option maxHeartbeats 4000000 in
theorem readall (L R B o c : Nat) (ad : Option Addr) (xs : List Int) (p : Int) (eof : Addr) (w : World)
    (hL : w.heap[L]? = some (.cells #[.iface 27 (.pointer (some ⟨R, 0, none⟩)), .int .i64 65536] 44 (0, 0)))
    (hR : w.heap[R]? = some (.cells #[.slice ad xs.length c, .int .i64 0, .int .i64 p] 38 (0, 0)))
    (hE : w.cell? ⟨0, 0, none⟩ = some (.iface 45 (.pointer (some eof)))) (hx : 0 < xs.length → ad = some ⟨B, o, none⟩ ∧ Bs w B o xs) (hnc : xs.length ≤ c) (hcm : c ≤ maxLen) (hBR : B ≠ R) (hBL : B ≠ L) (hLR : L ≠ R) (hL0 : L ≠ 0) (hR0 : R ≠ 0) :
    Calls Tryd.prog 12 #[.iface 42 (.pointer (some ⟨L, 0, none⟩))] w fun e w' => ∃ g cap, e = .returned (.tuple #[.slice (some ⟨g, 0, none⟩) (xs.take 65536).length cap, .nilIface]) ∧
      (xs.take 65536).length ≤ cap ∧ cap ≤ maxLen ∧ w.heap.size ≤ g ∧ Bs w' g 0 (xs.take 65536) ∧ Only [L, R] w w' := by
  obtain ⟨i5, hi5, hz50, hz51, hz52⟩ := info_parts info5
  obtain ⟨i22, hi22, hz220, hz221, hz222⟩ := info_parts info22
  have HL : Hid (w.heap[L]? = some (.cells #[.iface 27 (.pointer (some ⟨R, 0, none⟩)), .int .i64 65536] 44 (0, 0))) := hL
  have HR : Hid (w.heap[R]? = some (.cells #[.slice ad xs.length c, .int .i64 0, .int .i64 p] 38 (0, 0))) := hR
  have HE : Hid (w.cell? ⟨0, 0, none⟩ = some (.iface 45 (.pointer (some eof)))) := hE
  have HX : Hid (0 < xs.length → ad = some ⟨B, o, none⟩ ∧ Bs w B o xs) := hx
  clear hL hR hE hx
  go_enter Tryd.func12, Tryd.ntmps12
  go_wp2_with (first
    | (at_make; refine wpList_make_own _ rfl _ _ 22 rfl w.heap.size 5 i5 (.int .u8 0) 1 Tryd.underlying22 hi5 hz50 hz51 .i64 .i64 512 512 rfl rfl rfl (by rw [hz52]; omega) (by unfold maxLen; omega) (Nat.le_refl _) ?_; intro w1 hown1 hgrow1)
    | (at_make; refine wpList_make_own _ rfl _ _ 39 rfl w.heap.size 22 i22 (.slice none 0 0) 1 Tryd.underlying39 hi22 hz220 hz221 .i64 .i64 4 4 rfl rfl rfl (by rw [hz222]; omega) (by unfold maxLen; omega) hgrow1.size ?_; intro w2 hown2 hgrow2))
  obtain ⟨cur0, I0⟩ := Inv.start HL.out HR.out hown1 hgrow1 hown2 hgrow2
  have hLs : L < w.heap.size := lt_of_block HL.out
  have hRs : R < w.heap.size := lt_of_block HR.out
  go_loopg [4, 5, 6, 7] 65536 (fun gn bv nv cv fv wr => ∃ g cap len next fsz i zs vs zss cur, Inv w L R ad c xs bv nv cv fv g cap len next fsz i zs vs zss cur wr ∧ gn = 65536 - i ∧ len < cap)
  case atStart => exact ⟨_, _, _, _, _, _, _, _, _, _, I0, rfl, by omega⟩
  case round =>
    obtain ⟨g, cap, len, next, fsz, i, zs, vs, zss, cur, I, hgk, hroom⟩ := hrel
    obtain ⟨rfl, rfl, rfl, -, -, hcap16, hcapm, hnx1, hnx2, -, -, -, -, -, -, -, hil, hix, hi6, -, -, -, -, hcnt⟩ := id I
    have hli : len ≤ i := by omega
    have hfi : fsz + len ≤ i := by omega
    have HGK : Hid (gk = 65536 - i) := hgk
    clear hgk I0 hown1 hgrow1 hown2 hgrow2 hil
    have HCM : Hid (c ≤ maxLen) := hcm
    clear hcm
    unfold maxLen at hcapm
    have i1 : (0 : Int) ≤ (len : Int) := by omega
    have i2 : (len : Int) ≤ (cap : Int) := by omega
    have i3 : ¬ cap = len := by omega
    have hm1 := method_lim
    have hm2 := nil_ahead
    by_cases hend : i = 65536 ∨ i = xs.length
    · have HEND : Hid (i = 65536 ∨ i = xs.length) := hend
      clear hend
      go_wp2
      go_region_held3 (fun w' => True) (trivial) ((go_at_call 34; refine (I.read_eof eof HE.out hL0 hR0 hroom HEND.out).mono ?_; rintro e w' ⟨rfl, ho1⟩))
      have F := I.fin hLs HEND.out ho1
      have cE : w'.cell? ⟨0, 0, none⟩ = some (.iface 45 (.pointer (some eof))) := F.only.cell HE.out (by simp; exact ⟨hL0.symm, hR0.symm⟩)
      have heq := eq_eof eof
      clear I ho1 i1 i2 i3 hm1 hm2 hnx1 hnx2
      by_cases hv0 : vs.length = 0
      · obtain ⟨ca, cc, rfl⟩ := own_form F.own
        have hq : ((vs.length : Int) == 0) = true := by simp [hv0]
        have HV0 : Hid (vs.length = 0) := hv0
        clear hv0
        go_wp2
        go_ret2
        have hz := F.empty HV0.out
        have hl := F.zsl
        refine ⟨g, cap, ?_, by rw [← hz]; omega, by unfold maxLen; omega, F.hg, by rw [← hz]; exact bs_of_row F.row F.curz F.zsl, F.only⟩
        rw [← hz, hl]; rfl
      · obtain ⟨gc, cc, rfl⟩ := own_form_pos F.own (by omega)
        have hq : ((vs.length : Int) == 0) = false := beq_false_of_ne (by omega)
        have hfp : 0 < fsz + len := by omega
        clear hv0
        go_wp2_with (at_builtin; refine wpList_append_make rfl (.tmp 49) rfl ((fsz : Int) + (len : Int)) (fsz + len) rfl (by omega) hfp (by omega) ?_; intro capf curf w4 hc1 hc2 hc3 hc4 hc5 hc6)
        have HB4 : Hid (Below w'.heap.size w' w4) := hc6.below (Nat.le_refl _) (by simp)
        have hgl : g < w'.heap.size := lt_of_block F.row
        have hgc : gc < w'.heap.size := (F.own.lt gc rfl).2
        have hvl : vs.length = zss.length := F.ch.1
        have HVL : Hid (vs.length = zss.length) := hvl
        have hw4 : w'.heap.size < w4.heap.size := by have := hc5.out; omega
        have hwg : w.heap.size ≤ w'.heap.size := F.only.size
        have OW4 : Hid (w4.ownsRow w'.heap.size 5 1 (.slice (some ⟨w'.heap.size, 0, none⟩) 0 capf) (joined zss 0).length ((joined zss 0).map (Value.int .u8))) :=
          ⟨rfl, .inr ⟨w'.heap.size, capf, curf.toArray, rfl, Nat.le_refl _, hc4.out, Nat.zero_le _, hc2, by simpa using hc3, rfl⟩⟩
        clear hvl hc1 hc2 hc3 hc4 hc5 hc6 hq heq
        go_loopw [10, 54] (fun fv j wr => ∃ q : Nat, q ≤ vs.length ∧ j = .int .i64 q ∧ wr.ownsRow w'.heap.size 5 1 fv (joined zss q).length ((joined zss q).map (Value.int .u8)) ∧ Below w'.heap.size w' wr ∧ w'.heap.size < wr.heap.size) (fun _ j _ => vs.length - (intOf j).toNat)
        case atStart => exact ⟨0, Nat.zero_le _, rfl, OW4.out, HB4.out, hw4⟩
        case round =>
          obtain ⟨q, hql, rfl, hown, hbel, hsz⟩ := hrel
          have hjl := joined_le zss q
          have HFL : Hid (zss.flatten.length = fsz) := F.fl
          have hjf : (joined zss q).length ≤ fsz := by have := HFL.out; omega
          clear hjl
          by_cases hlt : q < vs.length
          · obtain ⟨v, hv⟩ : ∃ v, vs[q]? = some v := ⟨_, List.getElem?_eq_getElem hlt⟩
            obtain ⟨zsq, hz⟩ : ∃ zsq, zss[q]? = some zsq := ⟨_, List.getElem?_eq_getElem (by have := HVL.out; omega)⟩
            obtain ⟨gk, ck, rfl, hbs, hkc, hkm, hkg⟩ := chunk_bs ((F.ch.later (hbel.mono (Nat.le_of_lt hgl))).2 q v zsq hv hz)
            have hcl : wr.cell? ⟨gc, q, none⟩ = some (.slice (some ⟨gk, 0, none⟩) zsq.length ck) := by
              have h1 := F.own.cells (g := gc) rfl q _ hv
              rw [Addr.add_lit, Nat.zero_add] at h1
              exact (hbel.cell (p := ⟨gc, q, none⟩) hgc).trans h1
            have HZ : Hid (joined zss (q + 1) = joined zss q ++ zsq) := joined_succ zss q zsq hz
            have hjn : (joined zss q).length + zsq.length ≤ fsz := by
              have h1 := joined_le zss (q + 1)
              rw [HZ.out, List.length_append, HFL.out] at h1
              exact h1
            unfold maxLen at hkm
            clear hv hz
            go_wp2_with (at_builtin; refine wpList_append_own _ rfl (.tmp 58) (.tmp 59) 22 rfl w'.heap.size 5 i5 (.int .u8 0) 1 1 Tryd.underlying22 hi5 hz50 hz51 hz52 rfl (by decide) _ _ _ rfl hown ⟨gk, 0, none⟩ zsq.length ck (zsq.map (Value.int .u8)) rfl (by simp) (bs_news hbs) (ints_one _) ?d3 ?d4 ?d5 ?_)
            case d3 => unfold maxLen; omega
            case d4 => omega
            case d5 => omega
            intro v' w5 hown5 hgrow5 _
            have R1 : Hid (w5.ownsRow w'.heap.size 5 1 v' (joined zss (q + 1)).length ((joined zss (q + 1)).map (Value.int .u8))) := by rw [HZ.out]; exact own_map hown5 rfl
            have R2 : Hid (Below w'.heap.size w' w5) := hbel.grown hgrow5 (Nat.le_of_lt hsz) (fun k hk => (hown.lt k hk).1)
            have R3 : w'.heap.size < w5.heap.size := Nat.lt_of_lt_of_le hsz hgrow5.size
            clear hown5 hgrow5 hown hbel hbs hcl
            go_wp2
            go_roundw
            case rel => exact ⟨q + 1, by omega, by go_num, R1.out, R2.out, R3⟩
            case measure => simp [intOf]; omega
          · have HJ : Hid (joined zss q = zss.flatten) := joined_all zss q (by have := HVL.out; omega)
            have hbs : Bs wr g 0 zs := bs_of_row ((hbel.block g hgl).trans F.row) F.curz F.zsl
            have HZL : Hid (zs.length = len) := F.zsl
            go_wp2_with (at_builtin; refine wpList_append_own _ rfl (.tmp 62) (.tmp 63) 22 rfl w'.heap.size 5 i5 (.int .u8 0) 1 1 Tryd.underlying22 hi5 hz50 hz51 hz52 rfl (by decide) _ _ _ rfl hown ⟨g, 0, none⟩ len cap (zs.map (Value.int .u8)) rfl ?e1 (bs_news hbs) (ints_one _) ?e3 ?e4 ?e5 ?_)
            case e1 => have := HZL.out; simp; exact this
            case e3 => unfold maxLen; omega
            case e4 => omega
            case e5 => omega
            intro v' w5 hown5 hgrow5 _
            have hall : joined zss q ++ zs = xs.take 65536 := by rw [HJ.out]; exact F.all
            have R1 := own_map hown5 HZL.out
            rw [hall] at R1
            obtain ⟨gf, cf, rfl, q1, q2, q3, q4⟩ := own_out R1 (by rw [← hall, List.length_append, HJ.out, HFL.out, HZL.out]; exact hfp)
            have R2 : Below w'.heap.size w' w5 := hbel.grown hgrow5 (Nat.le_of_lt hsz) (fun k hk => (hown.lt k hk).1)
            clear hown5 hgrow5 hown hbel hbs
            go_wp2
            go_ret2
            exact ⟨gf, cf, rfl, q1, q2, by omega, q4, F.only.trans ⟨R2.os, R2.tape, R2.output, R2.size, fun k hk _ => R2.block k hk⟩⟩
    · have hk : 1 ≤ min (xs.length - i) (min (cap - len) (65536 - i)) := by omega
      obtain ⟨k, ek⟩ : ∃ k, k = min (xs.length - i) (min (cap - len) (65536 - i)) := ⟨_, rfl⟩
      have EK : Hid (k = min (xs.length - i) (min (cap - len) (65536 - i))) := ek
      rw [← ek] at hk
      have h1 : i < 65536 := by omega
      have h2 : i < xs.length := by omega
      have h3 : len + k ≤ cap := by omega
      have h4 : i + k ≤ xs.length := by omega
      have h5 : i + k ≤ 65536 := by omega
      have hxx : ad = some ⟨B, o, none⟩ ∧ Bs w B o xs := HX.out (by omega)
      have HXX : Hid (ad = some ⟨B, o, none⟩ ∧ Bs w B o xs) := hxx
      clear ek hend hxx
      go_wp2
      go_region_held3 (fun w' => True) (trivial) ((go_at_call 34; refine (I.read_some HXX.out.1 HXX.out.2 hnc HCM.out hBR hBL hLR k hroom hLs hRs h1 h2 EK.out).mono ?_; rintro e w' ⟨rfl, a1, a2, a3, a4⟩))
      have I2 := I.read hLs hRs h4 h5 h3 a1 a2 a3 a4
      clear I a1 a2 a3 a4 hroom i1 i2 i3 hm1 hm2
      by_cases hmv : (cap : Int) - ((len : Int) + (k : Int)) < (cap : Int) / 16
      · go_wp2_with (first
          | (at_builtin; refine wpList_append_own _ rfl (.tmp 76) (.tmp 78) 39 rfl w.heap.size 22 i22 (.slice none 0 0) 1 24 Tryd.underlying39 hi22 hz220 hz221 hz222 rfl (by decide) _ vs.length vs rfl (I2.own.alloc _) ⟨w'.heap.size, 0, none⟩ 1 1 [.slice (some ⟨g, 0, none⟩) (len + k) cap] rfl rfl ?c1 ?c2 ?c3 ?c4 ?c5 ?_)
          | fail)
        case c1 =>
          intro j u hj
          match j, hj with
          | 0, hj => simp at hj; subst hj; simp [Addr.add]
        case c2 => intro u hu; simp at hu; subst hu; rfl
        case c3 => unfold maxLen; omega
        case c4 => omega
        case c5 => have := I2.only.size; simp; omega
        intro v' w3 hown3 hgrow3 _
        go_wp2_with (at_builtin; refine wpList_append_make rfl (.tmp 84) rfl next next rfl rfl (by omega) (by omega) ?_; intro cap' cur' w4 hc1 hc2 hc3 hc4 hc5 hc6)
        go_roundg (65536 - (i + k))
        case measure => have := HGK.out; omega
        case rel => exact ⟨_, _, _, _, _, _, _, _, _, _, I2.move hLs hRs (by omega) hown3 hgrow3 hc1 hc2 hc3 hc4.out hc6 (by go_num) (by go_num), rfl, by omega⟩
      · go_wp2
        go_roundg (65536 - (i + k))
        case measure => have := HGK.out; omega
        case rel => exact ⟨_, _, _, _, _, _, _, _, _, _, I2, rfl, by omega⟩
end Go.Proofs.Qxb6614690aDoor
