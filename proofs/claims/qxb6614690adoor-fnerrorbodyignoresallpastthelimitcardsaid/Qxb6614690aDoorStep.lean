import Derived.Test.Qxb6614690aDoorLaws
namespace Go.Proofs.Qxb6614690aDoor
open Go.RowKit
set_option linter.unusedVariables false

theorem ownsRow_block {w : World} {base : Nat} {e : TypeId} {g n cap : Nat} {xs : List Value} (h : w.ownsRow base e 1 (.slice (some ⟨g, 0, none⟩) n cap) n xs) :
    ∃ cur : List Value, w.heap[g]? = some (.cells cur.toArray e (0, 0)) ∧ n ≤ cap ∧ cap ≤ maxLen ∧ cur.length = cap ∧ cur.take n = xs ∧ base ≤ g := by
  obtain ⟨_, h | ⟨g', cap', cur, hv, hb, hh, h1, h2, h3, h4⟩⟩ := h
  · simp at h
  · simp at hv
    obtain ⟨rfl, rfl⟩ := hv
    exact ⟨cur.toList, by simpa using hh, h1, h2, by simpa using h3, by simpa using h4, hb⟩

theorem Inv.start {w w1 w2 : World} {L R c : Nat} {ad : Option Addr} {xs : List Int} {p : Int} 
    (hL : w.heap[L]? = some (.cells #[.iface 27 (.pointer (some ⟨R, 0, none⟩)), .int .i64 65536] 44 (0, 0)))
    (hR : w.heap[R]? = some (.cells #[.slice ad xs.length c, .int .i64 0, .int .i64 p] 38 (0, 0)))
    (hown1 : w1.ownsRow w.heap.size 5 1 (.slice (some ⟨w.heap.size, 0, none⟩) 0 512) 0 []) (hg1 : w.grownBy w1 none)
    (hown2 : w2.ownsRow w.heap.size 22 1 (.slice (some ⟨w1.heap.size, 0, none⟩) 0 4) 0 []) (hg2 : w1.grownBy w2 none) :
    ∃ cur, Inv w L R ad c xs (.slice (some ⟨w.heap.size, 0, none⟩) 0 512) (.int .i64 256) (.slice (some ⟨w1.heap.size, 0, none⟩) 0 4) (.int .i64 0) w.heap.size 512 0 256 0 0 [] [] [] cur w2 := by
  obtain ⟨cur, hb, _, _, hcl, _, _⟩ := ownsRow_block hown1
  have ho : Only [L, R] w w2 := ((Only.refl _ _).grown hg1 (by simp)).grown hg2 (by simp)
  have ho' : Only [] w w2 := ((Only.refl _ _).grown hg1 (by simp)).grown hg2 (by simp)
  refine ⟨cur, rfl, rfl, rfl, hown2, by omega, by omega, by unfold maxLen; omega, by omega, by omega, ?_, hcl, by simp, rfl, Chunks.nil _ _ _, rfl, rfl, rfl, by omega, by omega, ho'.at hL (by simp), ⟨p, ho'.at hR (by simp)⟩, ho, Nat.le_refl _, by simp⟩
  rw [hg2.block w.heap.size (lt_of_block hb) (by simp)]
  exact hb

theorem nil_ahead (a : Addr) (w : World) : (nilAhead 173 42 (.pointer (some a)) "Read").run Tryd.prog w = .ok (some false) w := by kernel_rfl

section
variable {w wr : World} {L R c : Nat} {ad : Option Addr} {xs : List Int} {bv nv cv fv : Value} {g cap len next fsz i : Nat} {zs : List Int} {vs : List Value} {zss : List (List Int)} {cur : List Value}

theorem Inv.read_eof (I : Inv w L R ad c xs bv nv cv fv g cap len next fsz i zs vs zss cur wr) (eof : Addr) (hE : w.cell? ⟨0, 0, none⟩ = some (.iface 45 (.pointer (some eof)))) (hL0 : L ≠ 0) (hR0 : R ≠ 0)
    (h1 : len < cap) (h : i = 65536 ∨ i = xs.length) :
    Calls Tryd.prog 34 #[.pointer (some ⟨L, 0, none⟩), .slice (some ⟨g, len, none⟩) (cap - len) (cap - len)] wr.drew fun e w' => e = .returned (.tuple #[.int .i64 0, .iface 45 (.pointer (some eof))]) ∧ Only [L] wr w' := by
  have hE' : wr.drew.cell? ⟨0, 0, none⟩ = some (.iface 45 (.pointer (some eof))) := I.only.cell hE (by simp; exact ⟨hL0.symm, hR0.symm⟩)
  have hd : ∀ {w' : World}, Only [L] wr.drew w' → Only [L] wr w' := fun h => (Only.refl [L] wr).drew.trans h
  by_cases hi : i = 65536
  · refine (lim_zero L R ((65536 - i : Nat) : Int) _ eof wr.drew I.lim hE' (by omega)).mono ?_
    rintro e w' ⟨he, ho⟩
    exact ⟨he, hd ho⟩
  · obtain ⟨p, hR⟩ := I.rdr
    have h2 := I.i6
    have h3 := I.capm
    refine (lim_end L R xs.length c i g len (cap - len) (cap - len) (65536 - i) ad p eof wr.drew I.lim hR hE' (by omega) (by omega) (by omega) (by omega) (Nat.le_refl _) (by omega)).mono ?_
    rintro e w' ⟨he, ho⟩
    exact ⟨he, hd ho⟩

/-- The bytes that the next read brings. -/
def took (xs : List Int) (i k : Nat) : List Int := (xs.drop i).take k

theorem took_length (xs : List Int) (i k : Nat) (h : i + k ≤ xs.length) : (took xs i k).length = k := by unfold took; simp; omega

theorem Inv.read_some (I : Inv w L R ad c xs bv nv cv fv g cap len next fsz i zs vs zss cur wr) {B o : Nat} (had : ad = some ⟨B, o, none⟩) (hx : Bs w B o xs) (hnc : xs.length ≤ c) (hcm : c ≤ maxLen) (hBR : B ≠ R) (hBL : B ≠ L) (hLR : L ≠ R) (k : Nat) 
    (r1 : len < cap) (hL : L < w.heap.size) (hR : R < w.heap.size) (h1 : i < 65536) (h2 : i < xs.length) (hk : k = min (xs.length - i) (min (cap - len) (65536 - i))) :
    Calls Tryd.prog 34 #[.pointer (some ⟨L, 0, none⟩), .slice (some ⟨g, len, none⟩) (cap - len) (cap - len)] wr.drew fun e w' => e = .returned (.tuple #[.int .i64 k, .nilIface]) ∧
      w'.heap[L]? = some (.cells #[.iface 27 (.pointer (some ⟨R, 0, none⟩)), .int .i64 ((65536 - (i + k) : Nat) : Int)] 44 (0, 0)) ∧
      w'.heap[R]? = some (.cells #[.slice ad xs.length c, .int .i64 ((i + k : Nat) : Int), .int .i64 (-1)] 38 (0, 0)) ∧
      w'.heap[g]? = some (.cells (splice cur len ((took xs i k).map (Value.int .u8))).toArray 5 (0, 0)) ∧ Only [L, R, g] wr w' := by
  subst had
  obtain ⟨p, hRd⟩ := I.rdr
  have r2 := I.capm
  have r3 := I.curl
  have r4 := I.hg
  have hxr : Bs wr B o xs := I.only.bs (by simp; exact ⟨hBL, hBR⟩) hx
  have hlen : (took xs i k).length = k := took_length xs i k (by omega)
  refine (lim_core L R B o xs.length c i g len (cap - len) (cap - len) (65536 - i) k p cur ((took xs i k).map (Value.int .u8)) wr.drew I.lim hRd (bs_cells hxr i k) ?_ ?_ hnc hcm h2 I.row (by omega) (by omega) hBR hLR (by omega) hk (by omega) (by omega) (by omega) (Nat.le_refl _) (by omega)).mono ?_
  · show _ = _
    simpa using hlen
  · intro v hv
    obtain ⟨z, _, rfl⟩ := List.mem_map.1 hv
    rfl
  · rintro e w' ⟨he, a1, a2, a3, a4⟩
    have e1 : ((65536 - (i + k) : Nat) : Int) = ((65536 - i : Nat) : Int) - (k : Int) := by omega
    have e2 : ((i + k : Nat) : Int) = (i : Int) + (k : Int) := by omega
    rw [e1, e2]
    exact ⟨he, a1, a2, a3, (Only.refl [L, R, g] wr).drew.trans a4⟩

theorem own_only {w w' : World} {S : List Nat} {base : Nat} {e : TypeId} {size : Nat} {v : Value} {n : Nat} {xs : List Value} (h : w.ownsRow base e size v n xs) (ho : Only S w w') (hn : ∀ k, v.ownBlock = some k → k ∉ S) : w'.ownsRow base e size v n xs := by
  refine ⟨h.1, ?_⟩
  rcases h.2 with hv | ⟨g, cap, cur, rfl, hb, hg, rest⟩
  · exact .inl hv
  · exact .inr ⟨g, cap, cur, rfl, hb, ho.at hg (hn g rfl), rest⟩

/-- An owned row of slices is no row of bytes. -/
theorem own_ne {w : World} {base : Nat} {v : Value} {n g : Nat} {xs : List Value} {t : Array Value} (h : w.ownsRow base 22 1 v n xs) (hg : w.heap[g]? = some (.cells t 5 (0, 0))) : v.ownBlock ≠ some g := by
  intro hv
  rcases h.2 with ⟨rfl, _⟩ | ⟨g', cap, cur, rfl, hb, hg', rest⟩
  · simp [Value.ownBlock] at hv
  · simp [Value.ownBlock] at hv
    subst hv
    rw [hg] at hg'
    simp at hg'

theorem take_took (xs : List Int) (i k : Nat) : xs.take i ++ took xs i k = xs.take (i + k) := by
  unfold took; rw [List.take_add]

theorem splice_take {cur : List Value} {len k : Nat} {zs ys : List Int} (h1 : cur.take len = zs.map (Value.int .u8)) (hl : zs.length = len) (hk : ys.length = k) (hle : len ≤ cur.length) :
    (splice cur len (ys.map (Value.int .u8))).take (len + k) = (zs ++ ys).map (Value.int .u8) := by
  unfold splice
  rw [h1, ← List.append_assoc, ← List.map_append]
  rw [List.take_append_of_le_length (by simp; omega)]
  exact List.take_of_length_le (by simp; omega)

theorem Inv.read (I : Inv w L R ad c xs bv nv cv fv g cap len next fsz i zs vs zss cur wr) {w' : World} {k : Nat} (hL : L < w.heap.size) (hR : R < w.heap.size)
    (hk : i + k ≤ xs.length) (hk6 : i + k ≤ 65536) (hkc : len + k ≤ cap)
    (a1 : w'.heap[L]? = some (.cells #[.iface 27 (.pointer (some ⟨R, 0, none⟩)), .int .i64 ((65536 - (i + k) : Nat) : Int)] 44 (0, 0)))
    (a2 : w'.heap[R]? = some (.cells #[.slice ad xs.length c, .int .i64 ((i + k : Nat) : Int), .int .i64 (-1)] 38 (0, 0)))
    (a3 : w'.heap[g]? = some (.cells (splice cur len ((took xs i k).map (Value.int .u8))).toArray 5 (0, 0))) (a4 : Only [L, R, g] wr w') :
    Inv w L R ad c xs (.slice (some ⟨g, 0, none⟩) (len + k) cap) nv cv fv g cap (len + k) next fsz (i + k) (zs ++ took xs i k) vs zss (splice cur len ((took xs i k).map (Value.int .u8))) w' := by
  have hg := I.hg
  have hlen := took_length xs i k hk
  have hsz := I.only.size
  have hcl := I.curl
  refine ⟨rfl, I.nx, I.fs, ?_, by omega, I.cap16, I.capm, I.next1, I.next2, a3, ?_, ?_, ?_, ?_, I.fl, ?_, ?_, hk, hk6, a1, ⟨_, a2⟩, ?_, hg, I.cnt⟩
  · refine own_only I.own a4 fun q hq => ?_
    have hb := (I.own.lt q hq).1
    have hne := own_ne I.own I.row
    simp only [List.mem_cons, List.not_mem_nil, or_false, not_or]
    exact ⟨by omega, by omega, fun e => hne (e ▸ hq)⟩
  · rw [length_splice _ _ _ (by simp; omega)]; exact hcl
  · exact splice_take I.curz I.zsl hlen (by omega)
  · rw [List.length_append, I.zsl, hlen]
  · refine I.ch.kept (Nat.le_refl _) fun q t h1 h2 h3 => a4.block q (lt_of_block h3) ?_
    simp only [List.mem_cons, List.not_mem_nil, or_false, not_or]
    exact ⟨by omega, by omega, by omega⟩
  · rw [← List.append_assoc, I.pre, take_took]
  · rw [I.il]; omega
  · refine ⟨a4.os.trans I.only.os, a4.tape.trans I.only.tape, a4.output.trans I.only.output, Nat.le_trans hsz a4.size, fun q h1 h2 => ?_⟩
    refine (a4.block q (by omega) ?_).trans (I.only.block q h1 h2)
    simp only [List.mem_cons, List.not_mem_nil, or_false, not_or] at h2 ⊢
    exact ⟨h2.1, h2.2, by omega⟩

theorem Inv.move (I : Inv w L R ad c xs bv nv cv fv g cap len next fsz i zs vs zss cur wr) {w1 w2 : World} {o1 : Obj} {cv' nv' fv' : Value} {cap' : Nat} {cur' : List Value} (hL : L < w.heap.size) (hR : R < w.heap.size) (hl1 : 1 ≤ len)
    (hown : w1.ownsRow w.heap.size 22 1 cv' (vs.length + 1) (vs ++ [.slice (some ⟨g, 0, none⟩) len cap])) (hgr : (wr.alloc o1).grownBy w1 cv.ownBlock)
    (h1 : next ≤ cap') (h2 : cap' ≤ maxLen) (h3 : cur'.length = cap') (h4 : w2.heap[w1.heap.size]? = some (.cells cur'.toArray 5 (0, 0))) (h5 : Only [] w1 w2)
    (hnv : nv' = .int .i64 ((next + next / 2 : Nat) : Int)) (hfv : fv' = .int .i64 ((fsz + len : Nat) : Int)) :
    Inv w L R ad c xs (.slice (some ⟨w1.heap.size, 0, none⟩) 0 cap') nv' cv' fv' w1.heap.size cap' 0 (next + next / 2) (fsz + len) i [] (vs ++ [.slice (some ⟨g, 0, none⟩) len cap]) (zss ++ [zs]) cur' w2 := by
  have hg := I.hg
  have hgl := lt_of_block I.row
  have hn1 := I.next1
  have hbk : ∀ q o, wr.heap[q]? = some o → some q ≠ cv.ownBlock → w2.heap[q]? = some o := fun q o hq hne => by
    have e1 : (wr.alloc o1).heap[q]? = wr.heap[q]? := Below.heap_alloc wr o1 q (lt_of_block hq)
    have e2 := hgr.block q (by have := lt_of_block hq; simp; omega) hne
    have e3 : w1.heap[q]? = some o := e2.trans (e1.trans hq)
    exact h5.at e3 (by simp)
  have hlow : ∀ q, q < w.heap.size → some q ≠ cv.ownBlock := fun q hq e => by have := (I.own.lt q e.symm).1; omega
  have hgne : some g ≠ cv.ownBlock := fun e => own_ne I.own I.row e.symm
  have hsz : wr.heap.size + 1 ≤ w1.heap.size := by have := hgr.size; simpa using this
  obtain ⟨p, hrd⟩ := I.rdr
  have only : Only [L, R] w w2 := by
    have := I.only
    refine (((this.alloc o1).grown hgr fun q hq => .inr (I.own.lt q hq).1).trans (h5.mono (by simp)))
  have hfl : (zss ++ [zs]).flatten = zss.flatten ++ zs := by simp
  refine ⟨rfl, hnv, hfv, ?_, by omega, by omega, h2, by omega, by omega, h4, h3, by simp, rfl, ?_, ?_, ?_, ?_, I.ix, I.i6, hbk L _ I.lim (hlow L hL), ⟨p, hbk R _ hrd (hlow R hR)⟩, only, by have := I.only.size; omega, by have := I.cnt; simp; omega⟩
  · have := own_only hown h5 (by simp)
    simpa using this
  · refine Chunks.snoc ?_ ?_
    · refine I.ch.kept (by omega) fun q t b1 b2 b3 => ?_
      exact (hbk q _ b3 (fun e => own_ne I.own b3 e.symm)).trans b3.symm
    · refine ⟨g, cap, cur.toArray, by rw [I.zsl], hg, by omega, hbk g _ I.row hgne, by rw [I.zsl]; exact I.le, I.capm, ?_⟩
      rw [I.zsl]; exact I.curz
  · rw [hfl, List.length_append, I.fl, I.zsl]
  · rw [hfl, List.append_nil, I.pre]
  · have := I.il; omega

/-- WHAT HOLDS WHEN THE READER HAS SAID 'EOF'. -/
structure Fin (w : World) (L R : Nat) (xs : List Int) (cv : Value) (g cap len fsz : Nat) (zs : List Int) (vs : List Value) (zss : List (List Int)) (cur : List Value) (wr : World) : Prop where
  own : wr.ownsRow w.heap.size 22 1 cv vs.length vs
  row : wr.heap[g]? = some (.cells cur.toArray 5 (0, 0))
  curz : cur.take len = zs.map (Value.int .u8)
  zsl : zs.length = len
  ch : Chunks wr w.heap.size g vs zss
  all : zss.flatten ++ zs = xs.take 65536
  fl : zss.flatten.length = fsz
  only : Only [L, R] w wr
  hg : w.heap.size ≤ g

theorem Inv.fin (I : Inv w L R ad c xs bv nv cv fv g cap len next fsz i zs vs zss cur wr) {w' : World} (hL : L < w.heap.size) (h : i = 65536 ∨ i = xs.length) (ho : Only [L] wr w') : Fin w L R xs cv g cap len fsz zs vs zss cur w' := by
  have hg := I.hg
  refine ⟨?_, ho.at I.row (by simp; omega), I.curz, I.zsl, ?_, ?_, I.fl, I.only.trans (ho.mono (by simp)), hg⟩
  · refine own_only I.own ho fun q hq => ?_
    have hb := (I.own.lt q hq).1
    simp; omega
  · refine I.ch.kept (Nat.le_refl _) fun q t h1 h2 h3 => ho.block q (lt_of_block h3) ?_
    simp; omega
  · rw [I.pre]
    have h6 := I.i6
    have hx := I.ix
    rcases h with h | h
    · rw [h]
    · rw [List.take_of_length_le (by omega), List.take_of_length_le (by omega)]

theorem bs_of_row {w : World} {g len : Nat} {cur : List Value} {zs : List Int} (h : w.heap[g]? = some (.cells cur.toArray 5 (0, 0))) (hz : cur.take len = zs.map (Value.int .u8)) (hl : zs.length = len) : Bs w g 0 zs := by
  intro i hi
  rw [Nat.zero_add]
  have h1 : w.cell? ⟨g, i, none⟩ = cur.toArray[i]? := by simp [World.cell?, h]
  rw [h1]
  have h2 : (cur.take len)[i]? = (zs.map (Value.int .u8))[i]? := by rw [hz]
  rw [List.getElem?_take, if_pos (by omega)] at h2
  simp only [List.getElem?_toArray]
  rw [h2]
  simp [List.getD_eq_getElem?_getD, List.getElem?_eq_getElem hi]

theorem Fin.empty {cv : Value} (F : Fin w L R xs cv g cap len fsz zs vs zss cur wr) (h : vs.length = 0) : zs = xs.take 65536 := by
  have h1 := F.ch.1
  have h2 : zss = [] := List.eq_nil_of_length_eq_zero (by omega)
  have h3 := F.all
  rw [h2] at h3
  simpa using h3
end

theorem own_form {w : World} {base : Nat} {e : TypeId} {size : Nat} {v : Value} {n : Nat} {xs : List Value} (h : w.ownsRow base e size v n xs) : ∃ a c, v = .slice a n c := by
  rcases h.2 with ⟨rfl, rfl⟩ | ⟨g', cap, cur, rfl, _⟩
  · exact ⟨_, _, rfl⟩
  · exact ⟨_, _, rfl⟩

theorem own_form_pos {w : World} {base : Nat} {e : TypeId} {v : Value} {n : Nat} {xs : List Value} (h : w.ownsRow base e 1 v n xs) (hn : 0 < n) : ∃ g c, v = .slice (some ⟨g, 0, none⟩) n c := by
  rcases h.2 with ⟨rfl, rfl⟩ | ⟨g', cap, cur, rfl, _⟩
  · omega
  · exact ⟨_, _, rfl⟩

theorem bs_news {w : World} {g : Nat} {zs : List Int} (hx : Bs w g 0 zs) : ∀ j u, (zs.map (Value.int .u8))[j]? = some u → w.cell? ((⟨g, 0, none⟩ : Addr).add j) = some u := by
  have := bs_cells hx 0 zs.length
  simpa using this

theorem chunk_bs {w : World} {base hi : Nat} {v : Value} {zs : List Int} (h : Chunk w base hi v zs) : ∃ g c, v = .slice (some ⟨g, 0, none⟩) zs.length c ∧ Bs w g 0 zs ∧ zs.length ≤ c ∧ c ≤ maxLen ∧ g < hi := by
  obtain ⟨g, c, cur, h1, h2, h3, h4, h5, h6, h7⟩ := h
  exact ⟨g, c, h1, bs_of_row (cur := cur.toList) (by simpa using h4) h7 rfl, h5, h6, h3⟩

theorem ints_one (zs : List Int) : ∀ u ∈ zs.map (Value.int .u8), u.oneCell' = true := by
  intro u hu
  obtain ⟨z, _, rfl⟩ := List.mem_map.1 hu
  rfl

def joined (zss : List (List Int)) (q : Nat) : List Int := (zss.take q).flatten

theorem joined_succ (zss : List (List Int)) (q : Nat) (zs : List Int) (h : zss[q]? = some zs) : joined zss (q + 1) = joined zss q ++ zs := by
  unfold joined
  obtain ⟨hq, he⟩ := List.getElem?_eq_some_iff.1 h
  rw [List.take_succ_eq_append_getElem hq, he]
  simp

theorem joined_all (zss : List (List Int)) (q : Nat) (h : zss.length ≤ q) : joined zss q = zss.flatten := by
  unfold joined; rw [List.take_of_length_le h]

theorem joined_le (zss : List (List Int)) (q : Nat) : (joined zss q).length ≤ zss.flatten.length := by
  unfold joined
  have : zss.flatten = (zss.take q).flatten ++ (zss.drop q).flatten := by rw [← List.flatten_append, List.take_append_drop]
  rw [this, List.length_append]; omega

theorem own_map {w : World} {base : Nat} {v : Value} {xs ys : List Int} {n : Nat} (h : w.ownsRow base 5 1 v (xs.length + n) (xs.map (Value.int .u8) ++ ys.map (Value.int .u8))) (hn : ys.length = n) :
    w.ownsRow base 5 1 v (xs ++ ys).length ((xs ++ ys).map (Value.int .u8)) := by
  rw [List.map_append, List.length_append, hn]; exact h

/-- A row of bytes made by the call, its value written out. -/
theorem own_out {w : World} {base : Nat} {v : Value} {xs : List Int} (h : w.ownsRow base 5 1 v xs.length (xs.map (Value.int .u8))) (hp : 0 < xs.length) :
    ∃ g c, v = .slice (some ⟨g, 0, none⟩) xs.length c ∧ xs.length ≤ c ∧ c ≤ maxLen ∧ base ≤ g ∧ Bs w g 0 xs := by
  obtain ⟨g, c, rfl⟩ := own_form_pos h hp
  obtain ⟨cur, h1, h2, h3, h4, h5, h6⟩ := ownsRow_block h
  exact ⟨g, c, rfl, h2, h3, h6, bs_of_row h1 h5 rfl⟩

theorem Chunks.later {w w' : World} {base hi : Nat} {vs : List Value} {zss : List (List Int)} (h : Chunks w base hi vs zss) (hb : Below hi w w') : Chunks w' base hi vs zss :=
  h.kept (Nat.le_refl _) fun q t h1 h2 h3 => hb.block q h2
end Go.Proofs.Qxb6614690aDoor
