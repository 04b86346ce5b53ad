/- The reader: objects. -/
import Derived.Test.YtkafelcnpnlbfaaDoorRo
import Derived.Test.YtkafelcnpnlbfaaDoorRi
import Derived.Test.YtkafelcnpnlbfaaDoorSo
import Derived.Test.YtkafelcnpnlbfaaDoorRd6
namespace Go.Proofs.YtkafelcnpnlbfaaDoor
open Go.RowKit

theorem MInv.start {w w2 : World} {g : Nat} {ks : List ByteArray} {its : List Dat} (hz : w2.heap[w.heap.size]? = some (outBlk 0 (.slice none 0 0) (.slice none 0 0))) (hg : w.grownBy w2 (some g)) (hgl : g < w.heap.size) :
    MInv w g w2.heap.size (w2.heap.size + 2) ks its 0 0 (.slice (some ⟨w2.heap.size, 0, none⟩) 0 0) (.slice (some ⟨w2.heap.size + 1, 0, none⟩) 0 0) []
      (((w2.alloc (.cells #[] 9)).alloc (.cells #[] 25)).alloc (.cells #[.slice (some ⟨w2.heap.size, 0, none⟩) 0 0] 22)) := by
  have e1 : (w2.alloc (.cells #[] 9)).heap.size = w2.heap.size + 1 := by simp
  have e2 : ((w2.alloc (.cells #[] 9)).alloc (.cells #[] 25)).heap.size = w2.heap.size + 2 := by simp
  have hgs := hg.size
  refine ⟨?_, ?_, by simp [Value.ownBlock], ⟨?_, rfl, fun j _ h => absurd h (Nat.not_lt_zero _)⟩, ?_, ?_, ?_, by simp⟩
  · have := blk_new ((w2.alloc (.cells #[] 9)).alloc (.cells #[] 25)) (.cells #[.slice (some ⟨w2.heap.size, 0, none⟩) 0 0] 22)
    rw [e2] at this
    exact this
  · exact ((World.ownsRow_made w2 #[] 0 (Nat.le_refl _) (by unfold maxLen; omega) rfl).alloc _).alloc _
  · have := World.ownsRow_made (base := w2.heap.size) (e := 25) (size := 5) (w2.alloc (.cells #[] 9)) #[] 0 (by omega) (by unfold maxLen; omega) rfl
    rw [e1] at this
    exact this.alloc _
  · intro k h hx
    simp only [Value.ownBlock, Option.some.injEq] at h
    subst h
    rcases hx with h | h | h
    · omega
    · omega
    · simp only [Value.ownBlock, Option.some.injEq] at h
      omega
  · exact blk_up hz (up_alloc (up_alloc (up_alloc (Below.refl _ _) _) _) _)
  · exact grown_trans hg (grown_below _ (up_alloc (up_alloc (up_alloc (Below.refl _ _) _) _) _))

/-- What is still to be read of a map, i keys being read. -/
def headR (f : Dat → List UInt8) (inner tail : List UInt8) (ks : List ByteArray) (its : List Dat) (i : Nat) : List UInt8 :=
  (if 0 < i ∧ i < its.length then [44] else []) ++ 10 :: (mapL f inner (ks.drop i) (its.drop i) ++ tail)

theorem info_int : (Tryd.prog.info? 3).map (fun i => (i.zero, i.size, i.bytes)) = some (some (.int .i64 0), 1, 8) := by kernel_rfl
theorem info_str : (Tryd.prog.info? 9).map (fun i => (i.zero, i.size, i.bytes)) = some (some (.string ⟨#[]⟩), 1, 16) := by kernel_rfl


theorem own_slice {w : World} {base : Nat} {e : TypeId} {size : Nat} {v : Value} {n : Nat} {xs : List Value} (h : w.ownsRow base e size v n xs) : ∃ A m c, v = .slice A m c := by
  rcases h.2 with ⟨hv, _⟩ | ⟨q, cap, cur, hv, _⟩
  · exact ⟨_, _, _, hv⟩
  · exact ⟨_, _, _, hv⟩

/-- The object is whole. -/
theorem map_val {w w2 w4 wr : World} {g u : Nat} {ks : List ByteArray} {its : List Dat} {kv cv kv2 cv2 : Value} {css : List (List Value)} (I : MInv w g w2.heap.size (w2.heap.size + 2) ks its u u kv cv css w4) (O : OInv w4 ks css u u kv2 cv2 wr)
    (hk : ks.length = u) (hi : u = its.length) (h60 : its.length ≤ 60) (hwo : ∀ i (h : i < ks.length), ks[i].size ≤ 200) (hz : w.heap.size < w2.heap.size) :
    VA (onS wr fun k => w.heap.size < k ∧ k < wr.heap.size) (.mk 5 0 ⟨#[]⟩ ks its) [.int .i64 5, .int .i64 0, .string ⟨#[]⟩, kv2, cv2] := by
  subst hk
  have hz4 := I.size
  have hzb := O.below.size
  have hkz := O.krow
  have hlen := I.row.len
  have hits : ∀ i (h : i < its.length), VA (onS wr fun k => w.heap.size < k ∧ k < wr.heap.size) its[i] (css.getD i []) := by
    intro i h
    have h' : i < css.length := by omega
    have := (I.row.at_ i h h').mono (onS_move (w1 := wr) (T := fun k => w.heap.size < k ∧ k < wr.heap.size) (fun k hk => O.below.block k hk.2.1) (fun k hk => ⟨by have := hk.1; omega, by have := hk.2.1; omega⟩))
    rw [List.getD_eq_getElem?_getD, List.getElem?_eq_getElem h']
    exact this
  have hl5 : ∀ cs ∈ css, cs.length = 5 := by
    intro cs hcs
    obtain ⟨j, hj, rfl⟩ := List.mem_iff_getElem.1 hcs
    exact (I.row.at_ j (by omega) hj).len
  have htk : ks.take ks.length = ks := List.take_of_length_le (Nat.le_refl _)
  have htc : css.take ks.length = css := List.take_of_length_le (by omega)
  have hK : ∃ ka kc, kv2 = .slice ka ks.length kc ∧ ks.length ≤ kc ∧ kc ≤ maxLen ∧ StrsAt (onS wr fun k => w.heap.size < k ∧ k < wr.heap.size) ka ks := by
    rcases O.krow.2 with ⟨hv, h0⟩ | ⟨q, cap, cur, hv, hq, hh, hnc, hcm, _⟩
    · exact ⟨none, 0, by rw [hv, h0], by omega, by unfold maxLen; omega, fun i h => absurd h (by omega)⟩
    · refine ⟨some ⟨q, 0, none⟩, cap, hv, hnc, hcm, fun i h => ⟨by have := hwo i h; unfold maxLen; omega, q, 0, rfl, ?_⟩⟩
      refine onS_in ⟨by show w.heap.size < q; omega, blk_lt hh⟩ ?_
      have ho := O.krow
      rw [hv] at ho
      rw [Nat.zero_add, ho.cellAt i (by omega), htk]
      simp [h]
  have hI : ∃ ia ic, cv2 = .slice ia its.length ic ∧ its.length ≤ ic ∧ ic ≤ maxLen ∧ (∀ i, i < its.length → ∃ b o, ia = some ⟨b, o, none⟩ ∧ ∀ j u, (css.getD i [])[j]? = some u → (onS wr fun k => w.heap.size < k ∧ k < wr.heap.size).cell? ⟨b, o + i * 5 + j, none⟩ = some u) := by
    rcases O.irow.2 with ⟨hv, h0⟩ | ⟨q, cap, cur, hv, hq, hh, hnc, hcm, _⟩
    · exact ⟨none, 0, by rw [hv]; congr 1; omega, by omega, by unfold maxLen; omega, fun i h => absurd h (by omega)⟩
    · refine ⟨some ⟨q, 0, none⟩, cap, by rw [hv, hi], by omega, hcm, fun i h => ⟨q, 0, rfl, fun j u hu => ?_⟩⟩
      have h' : i < css.length := by omega
      have hu' : css[i][j]? = some u := by
        simpa [List.getD_eq_getElem?_getD, List.getElem?_eq_getElem h'] using hu
      have hj : j < 5 := by
        have h1 := (List.getElem?_eq_some_iff.1 hu').1
        have h2 := hl5 _ (List.getElem_mem h')
        omega
      refine onS_in ⟨by show w.heap.size < q; omega, blk_lt hh⟩ ?_
      have ho := O.irow
      rw [hv] at ho
      rw [show 0 + i * 5 + j = i * 5 + j by omega, ho.cellAt _ (by omega), htc, flat_at hl5 i j h' hj]
      exact hu'
  obtain ⟨ka, kc, rfl, k1, k2, k3⟩ := hK
  obtain ⟨ia, ic, rfl, i1, i2, i3⟩ := hI
  exact VA.mk 5 0 ⟨#[]⟩ ks its ka ia kc ic (fun i => css.getD i []) (Nat.zero_le _) k3 k1 k2 i1 i2 i3 hits


set_option maxRecDepth 100000 in
set_option maxHeartbeats 8000000 in
theorem object_any (E : Nat) (ih : ReadsAt E) (v : Dat) (g : Nat) (s : ByteArray) (ind sp l : List UInt8) (w : World) (depth : Int) (hp : PMap (Plain E) v) (hq : Prn v) (h0 : (E : Int) + 2 ≤ depth) (h1 : depth ≤ 100) (hsp : Blank sp) (hind : Blank ind)
    (hr : Rem w g s (sp ++ (tx (E + 2) ind v ++ l))) : Calls Tryd.prog 20 #[.pointer (some ⟨g, 0, none⟩), .int .i64 depth] w (GivesVal v g s l w) := by
  obtain ⟨k, n, t, ks, its⟩ := v
  obtain ⟨hk, hn, ht, hkl, h60, hkt, hits⟩ := hp
  obtain ⟨_, _, _, _, _, hqk, hqi, _⟩ := hq
  have hqi := hqi (by simp only [Dat.kind] at hk ⊢; omega)
  have hqk := hqk (by simp only [Dat.kind] at hk ⊢; omega)
  simp only [Dat.kind, Dat.num, Dat.text, Dat.keys, Dat.items, NoText] at hk hn ht hkl h60 hkt hits hqi hqk
  subst hk hn ht
  rw [tx_map rfl] at hr
  simp only [Dat.items, Dat.keys] at hr
  have hgl := hr.lt
  have IH := Lib.hid ih
  have HITS := Lib.hid hits
  have HQI := Lib.hid hqi
  have HQK := Lib.hid hqk
  have HKT := Lib.hid hkt
  have HKL := Lib.hid hkl
  have HIND := Lib.hid hind
  have h2 : 1 ≤ depth := by omega
  have hwd := wrap_less h2 h1
  clear ih hits hqi hqk hkt hkl hind
  obtain ⟨inner, hinner⟩ : ∃ x, ind ++ [32, 32] = x := ⟨_, rfl⟩
  have HINN : Hid (Blank inner) := Lib.hid (by rw [← hinner]; exact HIND.out.two)
  rw [hinner] at hr
  obtain ⟨f, hf⟩ : ∃ f, tx (E + 1) inner = f := ⟨_, rfl⟩
  rw [hf] at hr
  have HFF := Lib.hid hf
  obtain ⟨tail, htail⟩ : ∃ x, ind ++ 125 :: l = x := ⟨_, rfl⟩
  have HTAIL := Lib.hid htail
  replace hr : Rem w g s (sp ++ 123 :: headR f inner tail ks its 0) := by
    unfold headR
    rw [← htail]
    simpa using hr
  clear hinner hf htail
  have HN := Lib.hid (fun (W : World) (hb : Below w.heap.size w W) => need_any g s sp (headR f inner tail ks its 0) 123 123 W rfl hsp (by decide) (hr.up hb))
  clear hr hsp
  go_enter Tryd.func20, Tryd.ntmps20
  go_wp2_with fail
  go_at_call 21
  refine (HN.out _ (up_alloc (Below.refl _ _) _)).mono ?_
  rintro e w2 ⟨rfl, hr2, hg2⟩
  have hz2 : w.heap.size < w2.heap.size := by have := hg2.size; simp at this; omega
  have INV0 := Lib.hid (MInv.start (ks := ks) (its := its) ((hg2.block _ (by simp) (by simp; omega)).trans (blk_new w _)) (grown_trans (grown_below (some g) (up_alloc (Below.refl w.heap.size w) _)) hg2) hgl)
  have HR2 := Lib.hid hr2
  clear hr2 hg2
  obtain ⟨is, his0, his1, his2, his3⟩ := info_parts info_str
  obtain ⟨i0, hi0, hz0, hzz1, hzz2⟩ := info_parts info_val
  go_wp2
  go_loopg [6] its.length (fun gk v6 wr => ∃ (i gi ci gq cq : Nat) (css : List (List Value)), v6 = .slice (some ⟨gi, 0, none⟩) i ci ∧ i + gk = its.length ∧
    Hid (MInv w g w2.heap.size (w2.heap.size + 2) ks its i i (.slice (some ⟨gq, 0, none⟩) i cq) (.slice (some ⟨gi, 0, none⟩) i ci) css wr) ∧ Hid (Rem wr g s (headR f inner tail ks its i)))
  case atStart => exact ⟨0, w2.heap.size + 1, 0, w2.heap.size, 0, [], rfl, by omega, INV0, Lib.hid (HR2.out.up (up_alloc (up_alloc (up_alloc (Below.refl _ _) _) _) _))⟩
  case round =>
    obtain ⟨i, gi, ci, gq, cq, css, rfl, hi, HI, HR⟩ := hrel
    have HB := Lib.hid (show w.heap.size < w2.heap.size from hz2)
    by_cases hlt : i < its.length
    · have hki : i < ks.length := by have := HKL.out; omega
      obtain ⟨x, hx⟩ : ∃ x, its[i] = x := ⟨_, rfl⟩
      obtain ⟨key, hkey⟩ : ∃ x, ks[i] = x := ⟨_, rfl⟩
      have HX := Lib.hid hx
      have HKEY := Lib.hid hkey
      obtain ⟨R, hR⟩ : ∃ R, mapL f inner (ks.drop (i + 1)) (its.drop (i + 1)) ++ tail = R := ⟨_, rfl⟩
      have HRR := Lib.hid hR
      obtain ⟨sp2, hsp2⟩ : ∃ y, sep (its.drop (i + 1)) = y := ⟨_, rfl⟩
      have HSP2 := Lib.hid hsp2
      have HREST : Hid (mapL f inner (ks.drop i) (its.drop i) ++ tail = inner ++ (34 :: (bs key ++ 34 :: 58 :: 32 :: (f x ++ (sp2 ++ 10 :: R))))) := Lib.hid (by
        rw [mapL_at f inner hki hlt, hx, hkey, hsp2, ← hR]
        simp)
      clear hx hkey hR hsp2
      rcases Nat.eq_zero_or_pos i with hi0' | hi0'
      · have HH : Hid (Rem wr g s ((10 :: inner) ++ (34 :: (bs key ++ 34 :: 58 :: 32 :: (f x ++ (sp2 ++ 10 :: R)))))) := Lib.hid (by
          have h := HR.out
          unfold headR at h
          rw [if_neg (by omega), HREST.out] at h
          exact h)
        have HT1 := Lib.hid (take_no g s (10 :: inner) (bs key ++ 34 :: 58 :: 32 :: (f x ++ (sp2 ++ 10 :: R))) 34 125 wr (by decide) HINN.out.nl (by decide) HH.out)
        have ii0 : ¬ ((0 : Int) < (i : Int)) := by omega
        have HI0 := Lib.hid hi0'
        clear hi0'
        go_wp2_with fail
        go_at_call 22
        refine HT1.out.mono ?_
        rintro e w3 ⟨rfl, hr3, hg3⟩
        have I3 := Lib.hid (HI.out.keep hg3 hgl hz2 (by omega))
        obtain ⟨b2, b2'⟩ := hr3.bad
        have HB4 := Lib.hid (blanks_any g s [] (34 :: (bs key ++ 34 :: 58 :: 32 :: (f x ++ (sp2 ++ 10 :: R)))) w3 (fun _ h => by cases h) (fun c hc => by simp at hc; subst hc; decide) hr3)
        have kb : w3.cell? ⟨w2.heap.size + 2, 0, none⟩ = some (.slice (some ⟨gq, 0, none⟩) i cq) := (blk_cell I3.out.box 0).trans rfl
        clear hr3 hg3
        go_wp2_with fail
        go_at_call 13
        refine HB4.out.mono ?_
        rintro e w5' ⟨rfl, hr5', hg5'⟩
        have IX := Lib.hid (I3.out.keep hg5' hgl hz2 (by omega))
        have RX := Lib.hid hr5'
        clear hr5' hg5' b2 b2' kb
        have HWO : Hid (Wordy key) := Lib.hid (by
          have := (HKT.out i hki hki).1
          simp only [Dat.keys] at this
          rw [HKEY.out] at this
          exact this)
        have HEA : Hid (Easy key) := Lib.hid (by
          have := HQK.out i hki
          rw [HKEY.out] at this
          exact this)
        have KL : key.size ≤ 200 := HWO.out.2
        have KC : Hid (Clean (bs key)) := Lib.hid (fun c hc => by
          obtain ⟨j, hj, rfl⟩ := List.mem_iff_getElem.1 hc
          have h1 := HWO.out.1 j hj
          have h2 := HEA.out j hj
          have e : (bs key)[j] = key[j]'hj := rfl
          rw [e]
          omega)
        have HT := Lib.hid (text_any g s (bs key) (58 :: 32 :: (f x ++ (sp2 ++ 10 :: R))) w5' KC.out (by show key.size ≤ 1000; omega) RX.out)
        go_wp2_with fail
        go_at_call 24
        refine HT.out.mono ?_
        rintro e w5 ⟨rfl, hr5, hg5⟩
        have I5 := Lib.hid (IX.out.keep hg5 hgl hz2 (by omega))
        have HN5 := Lib.hid (need_any g s [] (32 :: (f x ++ (sp2 ++ 10 :: R))) 58 58 w5 rfl (fun _ h => by cases h) (by decide) hr5)
        clear hr5 hg5
        go_wp2_with fail
        go_at_call 21
        refine HN5.out.mono ?_
        rintro e w6 ⟨rfl, hr6, hg6⟩
        have I6 := Lib.hid (I5.out.keep hg6 hgl hz2 (by omega))
        have R6 := Lib.hid hr6
        clear hr6 hg6
        have kb6 : w6.cell? ⟨w2.heap.size + 2, 0, none⟩ = some (.slice (some ⟨gq, 0, none⟩) i cq) := (blk_cell I6.out.box 0).trans rfl
        have hz6 := I6.out.size
        go_wp2_with (first
          | (at_builtin
             refine wpList_append_lies _ rfl (.tmp 38) (.tmp 40) 22 rfl w2.heap.size 9 is _ 1 16 Tryd.underlying22 his0 his1 his2 his3 rfl (by omega) _ i ((ks.take i).map Value.string) rfl ((I6.out.keys).alloc _)
               ⟨w6.heap.size, 0, none⟩ 1 1 [.string key] rfl rfl (World.news_of_block (cs := #[.string key]) (t := 9) (fr := (0, 0)) (heap_alloc_new w6 _)) (by simp [Value.oneCell']) (by omega) (by unfold maxLen; omega) (by omega) (by simp; omega) (w6.heap.size + 1) (by simp) ?_))
        intro gq2 cq2 w7 hown7 hgrow7 hat7 hlt7
        have K7 := Lib.hid (I6.out.key hki hgl hz2 (by omega) (by rw [HKEY.out, List.map_take]; exact hown7) hgrow7 hat7)
        have B7 := Lib.hid ((hgrow7.block (w2.heap.size + 2) (by simp; omega) (fun e => I6.out.kbox e.symm)).trans (blk_up I6.out.box (up_alloc (Below.refl _ _) _)))
        have b7 : w7.cell? ⟨w2.heap.size + 2, 0, none⟩ = some (.slice (some ⟨gq, 0, none⟩) i cq) := (blk_cell B7.out 0).trans rfl
        have b7' : w7.frozen? ⟨w2.heap.size + 2, 0, none⟩ = false := blk_frozen B7.out 0
        clear hown7 hgrow7 hat7 hlt7 kb6
        go_wp2_with fail
        go_at_call 12
        have K8 : Hid (MInv w g w2.heap.size (w2.heap.size + 2) ks its (i + 1) i (.slice (some ⟨gq2, 0, none⟩) (i + 1) cq2) (.slice (some ⟨gi, 0, none⟩) i ci) css (w7.setCell ⟨w2.heap.size + 1 + 1, 0, none⟩ (.slice (some ⟨gq2, 0, none⟩) (i + 1) cq2)) ∧
            (w7.setCell ⟨w2.heap.size + 1 + 1, 0, none⟩ (.slice (some ⟨gq2, 0, none⟩) (i + 1) cq2)).heap[g]? = w6.heap[g]?) := K7
        clear K7 B7 b7 b7'
        generalize w7.setCell ⟨w2.heap.size + 1 + 1, 0, none⟩ (.slice (some ⟨gq2, 0, none⟩) (i + 1) cq2) = w8 at K8 ⊢
        refine (IH.out x g s inner [32] (sp2 ++ 10 :: R) w8 (depth - 1) (HX.out ▸ HITS.out i hlt) (HX.out ▸ HQI.out i hlt) (by omega) (by omega) (fun c hc => by simp at hc; subst hc; decide) HINN.out (by
          rw [HFF.out]
          exact R6.out.far K8.out.2)).mono ?_
        rintro e w9 ⟨cs, rfl, hv9, hr9, hg9⟩
        obtain ⟨ka, ia, kc, ic, rfl⟩ := hv9.shape
        have HV9 := Lib.hid hv9
        have HR9 := Lib.hid hr9
        have HG9 := Lib.hid hg9
        have I9 := Lib.hid (K8.out.1.keep hg9 hgl hz2 (by omega))
        have hz9 := I9.out.size
        clear hv9 hr9 hg9
        go_wp2_with (first
          | (at_builtin
             refine wpList_append_lies _ rfl (.tmp 42) (.tmp 47) 23 rfl w2.heap.size 25 i0 _ 5 80 Tryd.underlying23 hi0 hz0 hzz1 hzz2 rfl (by omega) _ i css.flatten rfl ((I9.out.row.own).alloc _)
               ⟨w9.heap.size, 0, none⟩ 1 1 [.int .i64 x.kind, .int .i64 x.num, .string x.text, .slice ka x.keys.length kc, .slice ia x.items.length ic] rfl rfl
               (World.news_of_block (cs := #[.int .i64 x.kind, .int .i64 x.num, .string x.text, .slice ka x.keys.length kc, .slice ia x.items.length ic]) (t := 25) (fr := (0, 0)) (heap_alloc_new w9 _)) (by simp [Value.oneCell']) (by omega) (by unfold maxLen; omega) (by omega) (by simp; omega) (w9.heap.size + 1) (by simp) ?_))
        intro gi2 ci2 w10 hown10 hgrow10 hat10 hlt10
        have K10 := Lib.hid (K8.out.1.item hlt hgl hz2 (by omega) HG9.out (HX.out ▸ HV9.out) hown10 hgrow10 hat10)
        clear hown10 hgrow10 hat10 hlt10
        go_wp2
        go_roundg (its.length - (i + 1))
        case measure => omega
        case rel =>
          refine ⟨i + 1, gi2, ci2, gq2, cq2, _, rfl, by omega, Lib.hid K10.out.1, Lib.hid ?_⟩
          have h := HR9.out.far K10.out.2
          unfold headR
          rw [HRR.out]
          rcases Nat.lt_or_ge (i + 1) its.length with hl | hl
          · rw [if_pos ⟨by omega, hl⟩]
            rw [← HSP2.out, sep_more hl] at h
            simpa using h
          · rw [if_neg (by omega)]
            rw [← HSP2.out, sep_last (by omega)] at h
            simpa using h
      · have HH : Hid (Rem wr g s (44 :: 10 :: (inner ++ (34 :: (bs key ++ 34 :: 58 :: 32 :: (f x ++ (sp2 ++ 10 :: R))))))) := Lib.hid (by
          have h := HR.out
          unfold headR at h
          rw [if_pos ⟨hi0', hlt⟩, HREST.out] at h
          exact h)
        have HT1 := Lib.hid (take_no g s [] (10 :: (inner ++ (34 :: (bs key ++ 34 :: 58 :: 32 :: (f x ++ (sp2 ++ 10 :: R)))))) 44 125 wr (by decide) (fun _ h => by cases h) (by decide) HH.out)
        have ii0 : (0 : Int) < (i : Int) := by omega
        go_wp2_with fail
        go_at_call 22
        refine HT1.out.mono ?_
        rintro e w3 ⟨rfl, hr3, hg3⟩
        have I3 := Lib.hid (HI.out.keep hg3 hgl hz2 (by omega))
        obtain ⟨b2, b2'⟩ := hr3.bad
        have HN3 := Lib.hid (need_any g s [] (10 :: (inner ++ (34 :: (bs key ++ 34 :: 58 :: 32 :: (f x ++ (sp2 ++ 10 :: R)))))) 44 44 w3 rfl (fun _ h => by cases h) (by decide) hr3)
        have kb : w3.cell? ⟨w2.heap.size + 2, 0, none⟩ = some (.slice (some ⟨gq, 0, none⟩) i cq) := (blk_cell I3.out.box 0).trans rfl
        clear hr3 hg3
        go_wp2_with fail
        go_at_call 21
        refine HN3.out.mono ?_
        rintro e w4 ⟨rfl, hr4, hg4⟩
        have I4 := Lib.hid (I3.out.keep hg4 hgl hz2 (by omega))
        have HB4 := Lib.hid (blanks_any g s (10 :: inner) (34 :: (bs key ++ 34 :: 58 :: 32 :: (f x ++ (sp2 ++ 10 :: R)))) w4 HINN.out.nl (fun c hc => by simp at hc; subst hc; decide) hr4)
        clear hr4 hg4 b2 b2' kb
        go_wp2_with fail
        go_at_call 13
        refine HB4.out.mono ?_
        rintro e w5' ⟨rfl, hr5', hg5'⟩
        have IX := Lib.hid (I4.out.keep hg5' hgl hz2 (by omega))
        have RX := Lib.hid hr5'
        clear hr5' hg5'
        have HWO : Hid (Wordy key) := Lib.hid (by
          have := (HKT.out i hki hki).1
          simp only [Dat.keys] at this
          rw [HKEY.out] at this
          exact this)
        have HEA : Hid (Easy key) := Lib.hid (by
          have := HQK.out i hki
          rw [HKEY.out] at this
          exact this)
        have KL : key.size ≤ 200 := HWO.out.2
        have KC : Hid (Clean (bs key)) := Lib.hid (fun c hc => by
          obtain ⟨j, hj, rfl⟩ := List.mem_iff_getElem.1 hc
          have h1 := HWO.out.1 j hj
          have h2 := HEA.out j hj
          have e : (bs key)[j] = key[j]'hj := rfl
          rw [e]
          omega)
        have HT := Lib.hid (text_any g s (bs key) (58 :: 32 :: (f x ++ (sp2 ++ 10 :: R))) w5' KC.out (by show key.size ≤ 1000; omega) RX.out)
        go_wp2_with fail
        go_at_call 24
        refine HT.out.mono ?_
        rintro e w5 ⟨rfl, hr5, hg5⟩
        have I5 := Lib.hid (IX.out.keep hg5 hgl hz2 (by omega))
        have HN5 := Lib.hid (need_any g s [] (32 :: (f x ++ (sp2 ++ 10 :: R))) 58 58 w5 rfl (fun _ h => by cases h) (by decide) hr5)
        clear hr5 hg5
        go_wp2_with fail
        go_at_call 21
        refine HN5.out.mono ?_
        rintro e w6 ⟨rfl, hr6, hg6⟩
        have I6 := Lib.hid (I5.out.keep hg6 hgl hz2 (by omega))
        have R6 := Lib.hid hr6
        clear hr6 hg6
        have kb6 : w6.cell? ⟨w2.heap.size + 2, 0, none⟩ = some (.slice (some ⟨gq, 0, none⟩) i cq) := (blk_cell I6.out.box 0).trans rfl
        have hz6 := I6.out.size
        go_wp2_with (first
          | (at_builtin
             refine wpList_append_lies _ rfl (.tmp 38) (.tmp 40) 22 rfl w2.heap.size 9 is _ 1 16 Tryd.underlying22 his0 his1 his2 his3 rfl (by omega) _ i ((ks.take i).map Value.string) rfl ((I6.out.keys).alloc _)
               ⟨w6.heap.size, 0, none⟩ 1 1 [.string key] rfl rfl (World.news_of_block (cs := #[.string key]) (t := 9) (fr := (0, 0)) (heap_alloc_new w6 _)) (by simp [Value.oneCell']) (by omega) (by unfold maxLen; omega) (by omega) (by simp; omega) (w6.heap.size + 1) (by simp) ?_))
        intro gq2 cq2 w7 hown7 hgrow7 hat7 hlt7
        have K7 := Lib.hid (I6.out.key hki hgl hz2 (by omega) (by rw [HKEY.out, List.map_take]; exact hown7) hgrow7 hat7)
        have B7 := Lib.hid ((hgrow7.block (w2.heap.size + 2) (by simp; omega) (fun e => I6.out.kbox e.symm)).trans (blk_up I6.out.box (up_alloc (Below.refl _ _) _)))
        have b7 : w7.cell? ⟨w2.heap.size + 2, 0, none⟩ = some (.slice (some ⟨gq, 0, none⟩) i cq) := (blk_cell B7.out 0).trans rfl
        have b7' : w7.frozen? ⟨w2.heap.size + 2, 0, none⟩ = false := blk_frozen B7.out 0
        clear hown7 hgrow7 hat7 hlt7 kb6
        go_wp2_with fail
        go_at_call 12
        have K8 : Hid (MInv w g w2.heap.size (w2.heap.size + 2) ks its (i + 1) i (.slice (some ⟨gq2, 0, none⟩) (i + 1) cq2) (.slice (some ⟨gi, 0, none⟩) i ci) css (w7.setCell ⟨w2.heap.size + 1 + 1, 0, none⟩ (.slice (some ⟨gq2, 0, none⟩) (i + 1) cq2)) ∧
            (w7.setCell ⟨w2.heap.size + 1 + 1, 0, none⟩ (.slice (some ⟨gq2, 0, none⟩) (i + 1) cq2)).heap[g]? = w6.heap[g]?) := K7
        clear K7 B7 b7 b7'
        generalize w7.setCell ⟨w2.heap.size + 1 + 1, 0, none⟩ (.slice (some ⟨gq2, 0, none⟩) (i + 1) cq2) = w8 at K8 ⊢
        refine (IH.out x g s inner [32] (sp2 ++ 10 :: R) w8 (depth - 1) (HX.out ▸ HITS.out i hlt) (HX.out ▸ HQI.out i hlt) (by omega) (by omega) (fun c hc => by simp at hc; subst hc; decide) HINN.out (by
          rw [HFF.out]
          exact R6.out.far K8.out.2)).mono ?_
        rintro e w9 ⟨cs, rfl, hv9, hr9, hg9⟩
        obtain ⟨ka, ia, kc, ic, rfl⟩ := hv9.shape
        have HV9 := Lib.hid hv9
        have HR9 := Lib.hid hr9
        have HG9 := Lib.hid hg9
        have I9 := Lib.hid (K8.out.1.keep hg9 hgl hz2 (by omega))
        have hz9 := I9.out.size
        clear hv9 hr9 hg9
        go_wp2_with (first
          | (at_builtin
             refine wpList_append_lies _ rfl (.tmp 42) (.tmp 47) 23 rfl w2.heap.size 25 i0 _ 5 80 Tryd.underlying23 hi0 hz0 hzz1 hzz2 rfl (by omega) _ i css.flatten rfl ((I9.out.row.own).alloc _)
               ⟨w9.heap.size, 0, none⟩ 1 1 [.int .i64 x.kind, .int .i64 x.num, .string x.text, .slice ka x.keys.length kc, .slice ia x.items.length ic] rfl rfl
               (World.news_of_block (cs := #[.int .i64 x.kind, .int .i64 x.num, .string x.text, .slice ka x.keys.length kc, .slice ia x.items.length ic]) (t := 25) (fr := (0, 0)) (heap_alloc_new w9 _)) (by simp [Value.oneCell']) (by omega) (by unfold maxLen; omega) (by omega) (by simp; omega) (w9.heap.size + 1) (by simp) ?_))
        intro gi2 ci2 w10 hown10 hgrow10 hat10 hlt10
        have K10 := Lib.hid (K8.out.1.item hlt hgl hz2 (by omega) HG9.out (HX.out ▸ HV9.out) hown10 hgrow10 hat10)
        clear hown10 hgrow10 hat10 hlt10
        go_wp2
        go_roundg (its.length - (i + 1))
        case measure => omega
        case rel =>
          refine ⟨i + 1, gi2, ci2, gq2, cq2, _, rfl, by omega, Lib.hid K10.out.1, Lib.hid ?_⟩
          have h := HR9.out.far K10.out.2
          unfold headR
          rw [HRR.out]
          rcases Nat.lt_or_ge (i + 1) its.length with hl | hl
          · rw [if_pos ⟨by omega, hl⟩]
            rw [← HSP2.out, sep_more hl] at h
            simpa using h
          · rw [if_neg (by omega)]
            rw [← HSP2.out, sep_last (by omega)] at h
            simpa using h
    · have hin : i = its.length := by omega
      have HIN := Lib.hid hin
      have HH : Hid (Rem wr g s ((10 :: ind) ++ 125 :: l)) := Lib.hid (by
        have h := HR.out
        unfold headR at h
        rw [if_neg (by omega), mapL_end f inner (by omega), ← HTAIL.out] at h
        simpa using h)
      have HT1 := Lib.hid (take_yes g s (10 :: ind) l 125 125 wr rfl HIND.out.nl (by decide) HH.out)
      clear hin hlt
      go_wp2_with fail
      go_at_call 22
      refine HT1.out.mono ?_
      rintro e w3 ⟨rfl, hr3, hg3⟩
      have I3 := Lib.hid (HI.out.keep hg3 hgl hz2 (by omega))
      have R3 := Lib.hid hr3
      have kb3 : w3.cell? ⟨w2.heap.size + 1 + 1, 0, none⟩ = some (.slice (some ⟨gq, 0, none⟩) i cq) := (blk_cell I3.out.box 0).trans rfl
      have kb : ∀ o1 o2, ((w3.alloc o1).alloc o2).cell? ⟨w2.heap.size + 1 + 1, 0, none⟩ = some (.slice (some ⟨gq, 0, none⟩) i cq) := fun o1 o2 => cell_up (up_alloc (up_alloc (Below.refl _ _) o1) o2) _ _ kb3
      clear hr3 hg3
      obtain ⟨ii, hii0, hii1, hii2, hii3⟩ := info_parts info_int
      go_wp2
      clear kb kb3
      go_loopg [52] i (fun gk v52 wp => ∃ (t gp cp : Nat), v52 = .int .i64 t ∧ t + gk = i ∧ Hid (PInv w3 t (.slice (some ⟨gp, 0, none⟩) t cp) wp))
      case atStart => exact ⟨0, w3.heap.size, 0, rfl, by omega, Lib.hid (PInv.start w3)⟩
      case round =>
        obtain ⟨t, gp, cp, rfl, ht, HP⟩ := hrel
        have pb : wr.cell? ⟨w3.heap.size + 1, 0, none⟩ = some (.slice (some ⟨gp, 0, none⟩) t cp) := (blk_cell HP.out.box 0).trans rfl
        have hzp := HP.out.size
        have hi60 : i ≤ 60 := by have := HIN.out; omega
        by_cases htl : t < i
        · have t1 : (t : Int) < (i : Int) := by omega
          go_wp2_with (first
            | (at_builtin
               refine wpList_append_lies _ rfl (.tmp 55) (.tmp 57) 60 rfl w3.heap.size 3 ii _ 1 8 Tryd.underlying60 hii0 hii1 hii2 hii3 rfl (by omega) _ t (ints t) rfl ((HP.out.row).alloc _)
                 ⟨wr.heap.size, 0, none⟩ 1 1 [.int .i64 (t : Int)] rfl rfl (World.news_of_block (cs := #[.int .i64 (t : Int)]) (t := 3) (fr := (0, 0)) (heap_alloc_new wr _)) (by simp [Value.oneCell']) (by omega) (by unfold maxLen; omega) (by omega) (by simp; omega) (wr.heap.size + 1) (by simp) ?_))
          intro gp2 cp2 wq hownq hgrowq hatq hltq
          have KQ := Lib.hid (HP.out.step hownq hgrowq hatq)
          have BQ := Lib.hid ((hgrowq.block (w3.heap.size + 1) (by simp; omega) (fun e => HP.out.pbox e.symm)).trans (blk_up HP.out.box (up_alloc (Below.refl _ _) _)))
          have bq : wq.cell? ⟨w3.heap.size + 1, 0, none⟩ = some (.slice (some ⟨gp, 0, none⟩) t cp) := (blk_cell BQ.out 0).trans rfl
          have bq' : wq.frozen? ⟨w3.heap.size + 1, 0, none⟩ = false := blk_frozen BQ.out 0
          clear hownq hgrowq hatq hltq
          go_wp2
          go_roundg (i - (t + 1))
          case measure => omega
          case rel => exact ⟨t + 1, gp2, cp2, by go_num, by omega, KQ⟩
        · obtain rfl : t = i := by omega
          have I4 := Lib.hid (I3.out.keep (grown_below (some g) HP.out.below) hgl hz2 (by omega))
          have n60 : t ≤ 60 := hi60
          have hkeysz : ks.length = t := HKL.out.trans HIN.out.symm
          have HKS := Lib.hid hkeysz
          have HSORT := Lib.hid (fun hk0 hkc hp0 hpc n1 n2 n3 => sort_all t n60 (fun a => ks.getD a ⟨#[]⟩) (fun a b ha hb => keys_rise (v := .mk 5 0 ByteArray.empty ks its) HKT.out (fun a => ks.getD a ⟨#[]⟩)
            (fun a ha => by simp only [Dat.keys] at ha ⊢; rw [List.getD_eq_getElem?_getD, List.getElem?_eq_getElem ha]; rfl) a b (by simp only [Dat.keys]; omega) (by simp only [Dat.keys]; omega)) wr (w2.heap.size + 2) (w3.heap.size + 1) gq cq gp cp hk0 hkc hp0 hpc n1 n2 n3)
          clear hkeysz
          go_wp2_with fail
          go_at_call 34
          have gp0 := HP.out.row.lt gp rfl
          have gq0 := I3.out.keys.lt gq rfl
          have i3z := I3.out.size
          refine (HSORT.out ((blk_cell I4.out.box 0).trans rfl) (fun a ha => by
            rw [I4.out.keys.cellAt a (by omega)]
            have hak : a < ks.length := by have := HKS.out; omega
            simp [List.getD_eq_getElem?_getD, List.getElem?_eq_getElem hak, ha]) ((blk_cell HP.out.box 0).trans rfl) (fun a ha => ⟨by
            rw [HP.out.row.cellAt a (by omega)]
            simp [ints, ha], HP.out.row.frozenAt a⟩) (by omega) (by omega) (fun e => HP.out.pbox (by rw [e]; rfl))).mono ?_
          rintro e w4 ⟨rfl, hb4⟩
          have I5 := Lib.hid (I4.out.keep (grown_below (some g) hb4) hgl hz2 (by omega))
          have P5 := Lib.hid (blk_up HP.out.box hb4)
          have Q5 := Lib.hid (own_up HP.out.row hb4)
          have R5 := Lib.hid ((R3.out.up HP.out.below).up hb4)
          clear hb4 gp0 gq0 i3z pb hzp
          obtain ⟨kv, hkv⟩ : ∃ kv, kv = Value.slice (some ⟨gq, 0, none⟩) t cq := ⟨_, rfl⟩
          have HCS : Hid (∀ u, u < t → ∃ (a0 a1 : Int) (a2 : ByteArray) (p3 p4 : Option Addr) (l3 k3 l4 k4 : Nat), css[u]? = some [(.int .i64 a0), (.int .i64 a1), (.string a2), (.slice p3 l3 k3), (.slice p4 l4 k4)] ∧ css.flatten[u * 5]? = some (.int .i64 a0) ∧ css.flatten[u * 5 + 1]? = some (.int .i64 a1) ∧ css.flatten[u * 5 + 2]? = some (.string a2) ∧ css.flatten[u * 5 + 3]? = some (.slice p3 l3 k3) ∧ css.flatten[u * 5 + 4]? = some (.slice p4 l4 k4)) := Lib.hid (fun u hu => by
            have hul : u < css.length := by rw [I5.out.row.len]; exact hu
            have hl5 : ∀ cs ∈ css, cs.length = 5 := by
              intro cs hcs
              obtain ⟨j, hj, rfl⟩ := List.mem_iff_getElem.1 hcs
              exact (I5.out.row.at_ j (by have := HIN.out; have := I5.out.row.len; omega) hj).len
            obtain ⟨ka, ia, kc, ic, hs⟩ := (I5.out.row.at_ u (by have := HIN.out; omega) hul).shape
            refine ⟨_, _, _, _, _, _, _, _, _, by rw [List.getElem?_eq_getElem hul, hs], ?_, ?_, ?_, ?_, ?_⟩
            · rw [show u * 5 = u * 5 + 0 by omega, flat_at hl5 u 0 hul (by omega), hs]; rfl
            · rw [flat_at hl5 u 1 hul (by omega), hs]; rfl
            · rw [flat_at hl5 u 2 hul (by omega), hs]; rfl
            · rw [flat_at hl5 u 3 hul (by omega), hs]; rfl
            · rw [flat_at hl5 u 4 hul (by omega), hs]; rfl)
          have pb4 : w4.cell? ⟨w3.heap.size + 1, 0, none⟩ = some (.slice (some ⟨gp, 0, none⟩) t cp) := (blk_cell P5.out 0).trans rfl
          have pb4' : ∀ o, (w4.alloc o).cell? ⟨w3.heap.size + 1, 0, none⟩ = some (.slice (some ⟨gp, 0, none⟩) t cp) := fun o => cell_up (up_alloc (Below.refl _ _) o) _ _ pb4
          go_wp2
          clear pb4 pb4'
          go_loopg [67] t (fun gk v67 wr => ∃ (u : Nat) (kv2 cv2 : Value), v67 = .int .i64 u ∧ u + gk = t ∧ Hid (OInv w4 ks css u u kv2 cv2 wr))
          case atStart => exact ⟨0, .slice none 0 0, .slice none 0 0, rfl, by omega, Lib.hid (OInv.start w4 ks css)⟩
          case round =>
            obtain ⟨u, kv2, cv2, rfl, hu, HO⟩ := hrel
            by_cases hut : u < t
            · have u1 : (u : Int) < (t : Int) := by omega
              have hku : u < ks.length := by have := HKS.out; omega
              obtain ⟨key, hkey⟩ : ∃ key, ks[u] = key := ⟨_, rfl⟩
              have HKEY := Lib.hid hkey
              have W5 := Lib.hid (fun a x (h : w4.cell? a = some x) => (HO.out.below.cell (p := a) (World.block_lt_of_cell? w4 a h)).trans h)
              have kb : wr.cell? ⟨w2.heap.size + 1 + 1, 0, none⟩ = some (.slice (some ⟨gq, 0, none⟩) t cq) := W5.out _ _ ((blk_cell I5.out.box 0).trans rfl)
              have kcu : wr.cell? ⟨gq, u, none⟩ = some (.string key) := W5.out _ _ (by
                rw [I5.out.keys.cellAt u (by omega)]
                simp [hut, hku, hkey])
              have pbu : wr.cell? ⟨gp, u, none⟩ = some (.int .i64 u) := W5.out _ _ (by
                rw [Q5.out.cellAt u (by omega)]
                simp [ints, hut])
              clear hkey
              rcases Nat.eq_zero_or_pos u with hu0 | hu0
              · have ii0 : decide (0 < u) = false := decide_eq_false (by omega)
                have HU0 := Lib.hid hu0
                clear hu0
                go_wp2
                go_quiet (fail)
                go_wp2
                have KBU := Lib.hid kb
                have KCU := Lib.hid kcu
                clear kb kcu pbu ii0
                refine AnyT.begin (L := 9) (n := 10) (S := fun w' =>
                  w'.cell? ⟨w4.heap.size, 3, none⟩ = some (kv2) ∧ w'.cell? ⟨w2.heap.size + 1 + 1, 0, none⟩ = some (.slice (some ⟨gq, 0, none⟩) t cq) ∧ w'.cell? ⟨gq, u, none⟩ = some (.string key)
                  ) (by kernel_rfl) rfl ?_
                have HO1 : Hid (OInv w4 ks css u u (kv2) cv2 (wr.drewN nq).drew) := Lib.hid (HO.out.up (up_drew (up_drewN (Below.refl _ _) nq)))
                have S0 :
                  (wr.drewN nq).drew.cell? ⟨w4.heap.size, 3, none⟩ = some (kv2) ∧ (wr.drewN nq).drew.cell? ⟨w2.heap.size + 1 + 1, 0, none⟩ = some (.slice (some ⟨gq, 0, none⟩) t cq) ∧ (wr.drewN nq).drew.cell? ⟨gq, u, none⟩ = some (.string key)
                  := ⟨(blk_cell HO1.out.out 3).trans rfl, KBU.out, KCU.out⟩
                generalize (wr.drewN nq).drew = we at HO1 S0 ⊢
                have HSK : Hid (∀ W, Below we.heap.size we W →
                  W.cell? ⟨w4.heap.size, 3, none⟩ = some (kv2) ∧ W.cell? ⟨w2.heap.size + 1 + 1, 0, none⟩ = some (.slice (some ⟨gq, 0, none⟩) t cq) ∧ W.cell? ⟨gq, u, none⟩ = some (.string key)
                  ) := Lib.hid (fun W hb => ⟨cell_up hb _ _ S0.1, cell_up hb _ _ S0.2.1, cell_up hb _ _ S0.2.2⟩)
                have hzo := HO1.out.size
                have u60 : u ≤ 59 := by omega
                refine AnyT.takeY (i := 0) (d := some 90) (v := ?_) rfl rfl (by kernel_rfl) (by kernel_rfl) (by kernel_rfl) (fun _ _ _ h => h) (by rfl) ?_ ?_
                rotate_left
                · intro W
                  go_simp
                  with_reducible rfl
                try simp only [Act.put, List.setIfInBounds_toArray, List.set_cons_zero, List.set_cons_succ]
                refine AnyT.takeS (i := 1) (d := some 91) (v := ?_) rfl rfl (by kernel_rfl) (by kernel_rfl) (by kernel_rfl) (by kernel_rfl) (fun _ _ _ h => h) (by rfl) (by assumption) ?_ ?_
                rotate_left
                · intro W hSw
                  try dsimp only at hSw
                  go_simp
                  with_reducible rfl
                try simp only [Act.put, List.setIfInBounds_toArray, List.set_cons_zero, List.set_cons_succ]
                refine AnyT.takeS (i := 2) (d := some 92) (v := ?_) rfl rfl (by kernel_rfl) (by kernel_rfl) (by kernel_rfl) (by kernel_rfl) (fun _ _ _ h => h) (by rfl) (by assumption) ?_ ?_
                rotate_left
                · intro W hSw
                  try dsimp only at hSw
                  go_simp
                  with_reducible rfl
                try simp only [Act.put, List.setIfInBounds_toArray, List.set_cons_zero, List.set_cons_succ]
                refine AnyT.takeY (i := 3) (d := some 93) (v := ?_) rfl rfl (by kernel_rfl) (by kernel_rfl) (by kernel_rfl) (fun _ _ _ h => h) (by rfl) ?_ ?_
                rotate_left
                · intro W
                  go_simp
                  with_reducible rfl
                try simp only [Act.put, List.setIfInBounds_toArray, List.set_cons_zero, List.set_cons_succ]
                refine AnyT.takeY (i := 4) (d := some 94) (v := ?_) rfl rfl (by kernel_rfl) (by kernel_rfl) (by kernel_rfl) (fun _ _ _ h => h) (by rfl) ?_ ?_
                rotate_left
                · intro W
                  go_simp
                  with_reducible rfl
                try simp only [Act.put, List.setIfInBounds_toArray, List.set_cons_zero, List.set_cons_succ]
                refine AnyT.takeS (i := 5) (d := some 95) (v := ?_) rfl rfl (by kernel_rfl) (by kernel_rfl) (by kernel_rfl) (by kernel_rfl) (fun _ _ _ h => h) (by rfl) (by assumption) ?_ ?_
                rotate_left
                · intro W hSw
                  try dsimp only at hSw
                  go_simp
                  with_reducible rfl
                try simp only [Act.put, List.setIfInBounds_toArray, List.set_cons_zero, List.set_cons_succ]
                clear S0
                refine AnyT.one (i := 6) rfl (by kernel_rfl) (fun K' hK => ?_)
                go_simp
                refine hK.out _ _ (fun _ _ => HSK.out _ (up_alloc (Below.refl _ _) _)) ?_
                clear hK K'
                try simp only [Act.put, List.setIfInBounds_toArray, List.set_cons_zero, List.set_cons_succ]
                refine AnyT.one (i := 7) rfl (by kernel_rfl) (fun K' hK => ?_)
                refine step_append_lies _ (by rfl) _ _ _ (by rfl) (w4.heap.size + 1) 9 is _ 1 16 Tryd.underlying22 his0 his1 his2 his3 rfl (by omega) (kv2) u ((ks.take u).map Value.string) (by rfl) ((HO1.out.krow).alloc _)
                  ⟨we.heap.size, 0, none⟩ 1 1 [.string key] (by rfl) (by rfl) (World.news_of_block (cs := #[.string key]) (t := 9) (fr := (0, 0)) (heap_alloc_new we _)) (by simp [Value.oneCell'])
                  (by omega) (by unfold maxLen; omega) (by omega) (by simp; omega) (we.heap.size + 1) (by simp) ?_
                intro gk5 ck5 w5 hown5 hgrow5 hat5 hlt5
                have N5 := Lib.hid (blk_own (w1 := w5) (blk_up HO1.out.out (up_alloc (Below.refl _ _) _)) ((HO1.out.krow).alloc _) (by omega) hgrow5)
                have HO6 := Lib.hid (HO1.out.key hku (by rw [HKEY.out]; exact hown5) hgrow5 hat5)
                have SK5 : Hid (
                  w5.cell? ⟨w4.heap.size, 3, none⟩ = some (kv2) ∧ w5.cell? ⟨w2.heap.size + 1 + 1, 0, none⟩ = some (.slice (some ⟨gq, 0, none⟩) t cq) ∧ w5.cell? ⟨gq, u, none⟩ = some (.string key)
                  ) := Lib.hid (by
                    obtain ⟨_, q2, q3⟩ := HSK.out _ (up_alloc (Below.refl _ _) (.cells #[.string key] 9))
                    have hkl := HO1.out.krow.lt
                    have far : ∀ a v, a.block < w4.heap.size → (we.alloc (.cells #[.string key] 9)).cell? a = some v → w5.cell? a = some v := fun a v ha hc => by
                      refine (World.cell?_of_block (a := a) (hgrow5.block a.block (by simp; omega) (fun e => ?_))).trans hc
                      have := (hkl _ e.symm).1
                      omega
                    refine ⟨(blk_cell N5.out 3).trans rfl, far _ _ (by have := I5.out.size; show w2.heap.size + 1 + 1 < w4.heap.size; omega) q2, far _ _ ?_ q3⟩
                    exact (I5.out.keys.lt gq rfl).2)
                clear hown5 hgrow5 hat5 hlt5
                have r3 : w5.cell? ⟨w4.heap.size, 3, none⟩ = some (kv2) := SK5.out.1
                have r3' : w5.frozen? ⟨w4.heap.size, 3, none⟩ = false := blk_frozen N5.out 3
                refine hK.out _ _ (fun _ _ => SK5.out) ?_
                clear hK K'
                try simp only [Act.put, List.setIfInBounds_toArray, List.set_cons_zero, List.set_cons_succ]
                refine AnyT.takeY (i := 8) (d := some 98) (v := ?_) rfl rfl (by kernel_rfl) (by kernel_rfl) (by kernel_rfl) (fun _ _ _ h => h) (by rfl) ?_ ?_
                rotate_left
                · intro W
                  go_simp
                  with_reducible rfl
                try simp only [Act.put, List.setIfInBounds_toArray, List.set_cons_zero, List.set_cons_succ]
                refine AnyT.one (i := 9) rfl (by kernel_rfl) (fun K' hK => ?_)
                go_simp
                refine hK.out _ _ (fun _ h => absurd rfl h) ?_
                clear hK K'
                refine AnyT.end (by kernel_rfl) ?_ _
                try simp only [Act.put, List.setIfInBounds_toArray, List.set_cons_zero, List.set_cons_succ]
                clear r3 r3' SK5 HSK N5 HO1
                generalize w5.setCell ⟨w4.heap.size, 3, none⟩ (.slice (some ⟨gk5, 0, none⟩) (u + 1) ck5) = w6 at HO6 ⊢
                obtain ⟨a0, a1, a2, p3, p4, l3, k3, l4, k4, hcu, f0, f1, f2, f3, f4⟩ := HCS.out u hut
                have HCU := Lib.hid hcu
                have W6 := Lib.hid (fun j v (hj : j < t * 5) (h : css.flatten[j]? = some v) => show w6.drew.cell? ⟨gi, j, none⟩ = some v from (HO6.out.below.cell (p := ⟨gi, j, none⟩) ((I5.out.row.own.lt gi rfl).2)).trans ((I5.out.row.own.cellAt j hj).trans h))
                have g0 := W6.out _ _ (by omega) f0
                have g1 := W6.out _ _ (by omega) f1
                have g2 := W6.out _ _ (by omega) f2
                have g3 := W6.out _ _ (by omega) f3
                have g4 := W6.out _ _ (by omega) f4
                clear f0 f1 f2 f3 f4 hcu W6
                go_wp2
                refine AnyT.begin (L := 9) (n := 10) (S := fun w' =>
                  w'.cell? ⟨w4.heap.size, 4, none⟩ = some cv2 ∧ w'.cell? ⟨gi, u * 5, none⟩ = some (.int .i64 a0) ∧ w'.cell? ⟨gi, u * 5 + 1, none⟩ = some (.int .i64 a1) ∧ w'.cell? ⟨gi, u * 5 + 2, none⟩ = some (.string a2) ∧ w'.cell? ⟨gi, u * 5 + 3, none⟩ = some (.slice p3 l3 k3) ∧ w'.cell? ⟨gi, u * 5 + 4, none⟩ = some (.slice p4 l4 k4)
                  ) (by kernel_rfl) rfl ?_
                have HO7 : Hid (OInv w4 ks css (u + 1) u (.slice (some ⟨gk5, 0, none⟩) (u + 1) ck5) cv2 w6.drew) := Lib.hid (HO6.out.up (up_drew (Below.refl _ _)))
                have S0 :
                  w6.drew.cell? ⟨w4.heap.size, 4, none⟩ = some cv2 ∧ w6.drew.cell? ⟨gi, u * 5, none⟩ = some (.int .i64 a0) ∧ w6.drew.cell? ⟨gi, u * 5 + 1, none⟩ = some (.int .i64 a1) ∧ w6.drew.cell? ⟨gi, u * 5 + 2, none⟩ = some (.string a2) ∧ w6.drew.cell? ⟨gi, u * 5 + 3, none⟩ = some (.slice p3 l3 k3) ∧ w6.drew.cell? ⟨gi, u * 5 + 4, none⟩ = some (.slice p4 l4 k4)
                  := ⟨(blk_cell HO7.out.out 4).trans rfl, g0, g1, g2, g3, g4⟩
                clear g0 g1 g2 g3 g4 HO6
                generalize w6.drew = wf at HO7 S0 ⊢
                have HSI : Hid (∀ W, Below wf.heap.size wf W →
                  W.cell? ⟨w4.heap.size, 4, none⟩ = some cv2 ∧ W.cell? ⟨gi, u * 5, none⟩ = some (.int .i64 a0) ∧ W.cell? ⟨gi, u * 5 + 1, none⟩ = some (.int .i64 a1) ∧ W.cell? ⟨gi, u * 5 + 2, none⟩ = some (.string a2) ∧ W.cell? ⟨gi, u * 5 + 3, none⟩ = some (.slice p3 l3 k3) ∧ W.cell? ⟨gi, u * 5 + 4, none⟩ = some (.slice p4 l4 k4)
                  ) := Lib.hid (fun W hb => ⟨cell_up hb _ _ S0.1, cell_up hb _ _ S0.2.1, cell_up hb _ _ S0.2.2.1, cell_up hb _ _ S0.2.2.2.1, cell_up hb _ _ S0.2.2.2.2.1, cell_up hb _ _ S0.2.2.2.2.2⟩)
                have hzo7 := HO7.out.size
                refine AnyT.takeY (i := 0) (d := some 99) (v := ?_) rfl rfl (by kernel_rfl) (by kernel_rfl) (by kernel_rfl) (fun _ _ _ h => h) (by rfl) ?_ ?_
                rotate_left
                · intro W
                  go_simp
                  with_reducible rfl
                try simp only [Act.put, List.setIfInBounds_toArray, List.set_cons_zero, List.set_cons_succ]
                refine AnyT.takeS (i := 1) (d := some 100) (v := ?_) rfl rfl (by kernel_rfl) (by kernel_rfl) (by kernel_rfl) (by kernel_rfl) (fun _ _ _ h => h) (by rfl) (by assumption) ?_ ?_
                rotate_left
                · intro W hSw
                  try dsimp only at hSw
                  go_simp
                  with_reducible rfl
                try simp only [Act.put, List.setIfInBounds_toArray, List.set_cons_zero, List.set_cons_succ]
                refine AnyT.takeY (i := 2) (d := some 101) (v := ?_) rfl rfl (by kernel_rfl) (by kernel_rfl) (by kernel_rfl) (fun _ _ _ h => h) (by rfl) ?_ ?_
                rotate_left
                · intro W
                  go_simp
                  with_reducible rfl
                try simp only [Act.put, List.setIfInBounds_toArray, List.set_cons_zero, List.set_cons_succ]
                refine AnyT.takeY (i := 3) (d := some 102) (v := ?_) rfl rfl (by kernel_rfl) (by kernel_rfl) (by kernel_rfl) (fun _ _ _ h => h) (by rfl) ?_ ?_
                rotate_left
                · intro W
                  go_simp
                  with_reducible rfl
                try simp only [Act.put, List.setIfInBounds_toArray, List.set_cons_zero, List.set_cons_succ]
                refine AnyT.takeY (i := 4) (d := some 103) (v := ?_) rfl rfl (by kernel_rfl) (by kernel_rfl) (by kernel_rfl) (fun _ _ _ h => h) (by rfl) ?_ ?_
                rotate_left
                · intro W
                  go_simp
                  with_reducible rfl
                try simp only [Act.put, List.setIfInBounds_toArray, List.set_cons_zero, List.set_cons_succ]
                refine AnyT.takeS (i := 5) (d := some 104) (v := ?_) rfl rfl (by kernel_rfl) (by kernel_rfl) (by kernel_rfl) (by kernel_rfl) (fun _ _ _ h => h) (by rfl) (by assumption) ?_ ?_
                rotate_left
                · intro W hSw
                  try dsimp only at hSw
                  go_simp
                  with_reducible rfl
                try simp only [Act.put, List.setIfInBounds_toArray, List.set_cons_zero, List.set_cons_succ]
                clear S0
                refine AnyT.one (i := 6) rfl (by kernel_rfl) (fun K' hK => ?_)
                go_simp
                refine hK.out _ _ (fun _ _ => HSI.out _ (up_alloc (Below.refl _ _) _)) ?_
                clear hK K'
                try simp only [Act.put, List.setIfInBounds_toArray, List.set_cons_zero, List.set_cons_succ]
                refine AnyT.one (i := 7) rfl (by kernel_rfl) (fun K' hK => ?_)
                refine step_append_lies _ (by rfl) _ _ _ (by rfl) (w4.heap.size + 1) 25 i0 _ 5 80 Tryd.underlying23 hi0 hz0 hzz1 hzz2 rfl (by omega) cv2 u (css.take u).flatten (by rfl) ((HO7.out.irow).alloc _)
                  ⟨wf.heap.size, 0, none⟩ 1 1 [(.int .i64 a0), (.int .i64 a1), (.string a2), (.slice p3 l3 k3), (.slice p4 l4 k4)] (by rfl) (by rfl) (World.news_of_block (cs := #[(.int .i64 a0), (.int .i64 a1), (.string a2), (.slice p3 l3 k3), (.slice p4 l4 k4)]) (t := 25) (fr := (0, 0)) (heap_alloc_new wf _)) (by simp [Value.oneCell'])
                  (by omega) (by unfold maxLen; omega) (by omega) (by simp; omega) (wf.heap.size + 1) (by simp) ?_
                intro gv5 cv5 w8 hown8 hgrow8 hat8 hlt8
                have N8 := Lib.hid (blk_own (w1 := w8) (blk_up HO7.out.out (up_alloc (Below.refl _ _) _)) ((HO7.out.irow).alloc _) (by omega) hgrow8)
                have HUC : Hid (u < css.length) := Lib.hid (by rw [I5.out.row.len]; exact hut)
                have HCV : Hid (css[u]'HUC.out = [.int .i64 a0, .int .i64 a1, .string a2, .slice p3 l3 k3, .slice p4 l4 k4]) := Lib.hid (by
                  have h := HCU.out
                  rw [List.getElem?_eq_getElem HUC.out] at h
                  exact Option.some.inj h)
                have HO9 := Lib.hid (HO7.out.item HUC.out (by rw [HCV.out]; exact hown8) hgrow8 hat8)
                have SI8 : Hid (
                  w8.cell? ⟨w4.heap.size, 4, none⟩ = some cv2 ∧ w8.cell? ⟨gi, u * 5, none⟩ = some (.int .i64 a0) ∧ w8.cell? ⟨gi, u * 5 + 1, none⟩ = some (.int .i64 a1) ∧ w8.cell? ⟨gi, u * 5 + 2, none⟩ = some (.string a2) ∧ w8.cell? ⟨gi, u * 5 + 3, none⟩ = some (.slice p3 l3 k3) ∧ w8.cell? ⟨gi, u * 5 + 4, none⟩ = some (.slice p4 l4 k4)
                  ) := Lib.hid (by
                    obtain ⟨_, q0, q1, q2, q3, q4⟩ := HSI.out _ (up_alloc (Below.refl _ _) (.cells #[.int .i64 a0, .int .i64 a1, .string a2, .slice p3 l3 k3, .slice p4 l4 k4] 25))
                    have hil := HO7.out.irow.lt
                    have hgi := (I5.out.row.own.lt gi rfl).2
                    have far : ∀ j v, (wf.alloc (.cells #[.int .i64 a0, .int .i64 a1, .string a2, .slice p3 l3 k3, .slice p4 l4 k4] 25)).cell? ⟨gi, j, none⟩ = some v → w8.cell? ⟨gi, j, none⟩ = some v := fun j v hc => by
                      refine (World.cell?_of_block (a := ⟨gi, j, none⟩) (hgrow8.block gi (by simp; omega) (fun e => ?_))).trans hc
                      have := (hil _ e.symm).1
                      omega
                    exact ⟨(blk_cell N8.out 4).trans rfl, far _ _ q0, far _ _ q1, far _ _ q2, far _ _ q3, far _ _ q4⟩)
                clear hown8 hgrow8 hat8 hlt8
                have r4 : w8.cell? ⟨w4.heap.size, 4, none⟩ = some cv2 := SI8.out.1
                have r4' : w8.frozen? ⟨w4.heap.size, 4, none⟩ = false := blk_frozen N8.out 4
                refine hK.out _ _ (fun _ _ => SI8.out) ?_
                clear hK K'
                try simp only [Act.put, List.setIfInBounds_toArray, List.set_cons_zero, List.set_cons_succ]
                refine AnyT.takeY (i := 8) (d := some 107) (v := ?_) rfl rfl (by kernel_rfl) (by kernel_rfl) (by kernel_rfl) (fun _ _ _ h => h) (by rfl) ?_ ?_
                rotate_left
                · intro W
                  go_simp
                  with_reducible rfl
                try simp only [Act.put, List.setIfInBounds_toArray, List.set_cons_zero, List.set_cons_succ]
                refine AnyT.one (i := 9) rfl (by kernel_rfl) (fun K' hK => ?_)
                go_simp
                refine hK.out _ _ (fun _ h => absurd rfl h) ?_
                clear hK K'
                refine AnyT.end (by kernel_rfl) ?_ _
                try simp only [Act.put, List.setIfInBounds_toArray, List.set_cons_zero, List.set_cons_succ]
                clear r4 r4' SI8 HSI N8 HO7
                generalize w8.setCell ⟨w4.heap.size, 4, none⟩ (.slice (some ⟨gv5, 0, none⟩) (u + 1) cv5) = w9 at HO9 ⊢
                go_wp2
                go_roundg (t - (u + 1))
                case measure => omega
                case rel => exact ⟨u + 1, _, _, by go_num, by omega, HO9⟩
              · have hkp : u - 1 < ks.length := by omega
                obtain ⟨pk, hpk⟩ : ∃ pk, ks[u - 1] = pk := ⟨_, rfl⟩
                obtain ⟨gk2, ck2, hkv2, _, _⟩ := HO.out.krow.form hu0
                subst hkv2
                have hne : (pk.toList == key.toList) = false := by
                  have h := (HKT.out u hku hku).2 hu0
                  simp only [Dat.keys] at h
                  rw [HKEY.out, hpk] at h
                  cases hb : pk.toList == key.toList
                  · rfl
                  · have e : pk.toList = key.toList := by simpa using hb
                    rw [e, less_irrefl] at h
                    cases h
                have b3 : wr.cell? ⟨w4.heap.size, 3, none⟩ = some (.slice (some ⟨gk2, 0, none⟩) u ck2) := (blk_cell HO.out.out 3).trans rfl
                have kp : wr.cell? ⟨gk2, u - 1, none⟩ = some (.string pk) := by
                  rw [HO.out.krow.cellAt (u - 1) (by omega)]
                  have e : u - 1 < u := by omega
                  simp [e, hkp, hpk]
                have HU0 := Lib.hid hu0
                have ii0 : decide (0 < u) = true := decide_eq_true hu0
                have e0 : (1 : Int) ≤ (u : Int) := by omega
                have e1 : IntKind.i64.wrap ((u : Int) - 1) = (u : Int) - 1 := by simp [IntKind.wrap, IntKind.bits, IntKind.signed]; omega
                have e2 : ((u : Int) - 1).toNat = u - 1 := by omega
                have e3 : (0 : Int) ≤ (u : Int) - 1 := by omega
                have e4 : (u : Int) - 1 < (u : Int) := by omega
                clear hpk hu0 hkp
                go_wp2
                go_quiet (fail)
                clear e1 e2 hne b3 kp
                go_wp2
                have KBU := Lib.hid kb
                have KCU := Lib.hid kcu
                clear kb kcu pbu ii0
                refine AnyT.begin (L := 9) (n := 10) (S := fun w' =>
                  w'.cell? ⟨w4.heap.size, 3, none⟩ = some (.slice (some ⟨gk2, 0, none⟩) u ck2) ∧ w'.cell? ⟨w2.heap.size + 1 + 1, 0, none⟩ = some (.slice (some ⟨gq, 0, none⟩) t cq) ∧ w'.cell? ⟨gq, u, none⟩ = some (.string key)
                  ) (by kernel_rfl) rfl ?_
                have HO1 : Hid (OInv w4 ks css u u (.slice (some ⟨gk2, 0, none⟩) u ck2) cv2 (wr.drewN nq).drew) := Lib.hid (HO.out.up (up_drew (up_drewN (Below.refl _ _) nq)))
                have S0 :
                  (wr.drewN nq).drew.cell? ⟨w4.heap.size, 3, none⟩ = some (.slice (some ⟨gk2, 0, none⟩) u ck2) ∧ (wr.drewN nq).drew.cell? ⟨w2.heap.size + 1 + 1, 0, none⟩ = some (.slice (some ⟨gq, 0, none⟩) t cq) ∧ (wr.drewN nq).drew.cell? ⟨gq, u, none⟩ = some (.string key)
                  := ⟨(blk_cell HO1.out.out 3).trans rfl, KBU.out, KCU.out⟩
                generalize (wr.drewN nq).drew = we at HO1 S0 ⊢
                have HSK : Hid (∀ W, Below we.heap.size we W →
                  W.cell? ⟨w4.heap.size, 3, none⟩ = some (.slice (some ⟨gk2, 0, none⟩) u ck2) ∧ W.cell? ⟨w2.heap.size + 1 + 1, 0, none⟩ = some (.slice (some ⟨gq, 0, none⟩) t cq) ∧ W.cell? ⟨gq, u, none⟩ = some (.string key)
                  ) := Lib.hid (fun W hb => ⟨cell_up hb _ _ S0.1, cell_up hb _ _ S0.2.1, cell_up hb _ _ S0.2.2⟩)
                have hzo := HO1.out.size
                have u60 : u ≤ 59 := by omega
                refine AnyT.takeY (i := 0) (d := some 90) (v := ?_) rfl rfl (by kernel_rfl) (by kernel_rfl) (by kernel_rfl) (fun _ _ _ h => h) (by rfl) ?_ ?_
                rotate_left
                · intro W
                  go_simp
                  with_reducible rfl
                try simp only [Act.put, List.setIfInBounds_toArray, List.set_cons_zero, List.set_cons_succ]
                refine AnyT.takeS (i := 1) (d := some 91) (v := ?_) rfl rfl (by kernel_rfl) (by kernel_rfl) (by kernel_rfl) (by kernel_rfl) (fun _ _ _ h => h) (by rfl) (by assumption) ?_ ?_
                rotate_left
                · intro W hSw
                  try dsimp only at hSw
                  go_simp
                  with_reducible rfl
                try simp only [Act.put, List.setIfInBounds_toArray, List.set_cons_zero, List.set_cons_succ]
                refine AnyT.takeS (i := 2) (d := some 92) (v := ?_) rfl rfl (by kernel_rfl) (by kernel_rfl) (by kernel_rfl) (by kernel_rfl) (fun _ _ _ h => h) (by rfl) (by assumption) ?_ ?_
                rotate_left
                · intro W hSw
                  try dsimp only at hSw
                  go_simp
                  with_reducible rfl
                try simp only [Act.put, List.setIfInBounds_toArray, List.set_cons_zero, List.set_cons_succ]
                refine AnyT.takeY (i := 3) (d := some 93) (v := ?_) rfl rfl (by kernel_rfl) (by kernel_rfl) (by kernel_rfl) (fun _ _ _ h => h) (by rfl) ?_ ?_
                rotate_left
                · intro W
                  go_simp
                  with_reducible rfl
                try simp only [Act.put, List.setIfInBounds_toArray, List.set_cons_zero, List.set_cons_succ]
                refine AnyT.takeY (i := 4) (d := some 94) (v := ?_) rfl rfl (by kernel_rfl) (by kernel_rfl) (by kernel_rfl) (fun _ _ _ h => h) (by rfl) ?_ ?_
                rotate_left
                · intro W
                  go_simp
                  with_reducible rfl
                try simp only [Act.put, List.setIfInBounds_toArray, List.set_cons_zero, List.set_cons_succ]
                refine AnyT.takeS (i := 5) (d := some 95) (v := ?_) rfl rfl (by kernel_rfl) (by kernel_rfl) (by kernel_rfl) (by kernel_rfl) (fun _ _ _ h => h) (by rfl) (by assumption) ?_ ?_
                rotate_left
                · intro W hSw
                  try dsimp only at hSw
                  go_simp
                  with_reducible rfl
                try simp only [Act.put, List.setIfInBounds_toArray, List.set_cons_zero, List.set_cons_succ]
                clear S0
                refine AnyT.one (i := 6) rfl (by kernel_rfl) (fun K' hK => ?_)
                go_simp
                refine hK.out _ _ (fun _ _ => HSK.out _ (up_alloc (Below.refl _ _) _)) ?_
                clear hK K'
                try simp only [Act.put, List.setIfInBounds_toArray, List.set_cons_zero, List.set_cons_succ]
                refine AnyT.one (i := 7) rfl (by kernel_rfl) (fun K' hK => ?_)
                refine step_append_lies _ (by rfl) _ _ _ (by rfl) (w4.heap.size + 1) 9 is _ 1 16 Tryd.underlying22 his0 his1 his2 his3 rfl (by omega) (.slice (some ⟨gk2, 0, none⟩) u ck2) u ((ks.take u).map Value.string) (by rfl) ((HO1.out.krow).alloc _)
                  ⟨we.heap.size, 0, none⟩ 1 1 [.string key] (by rfl) (by rfl) (World.news_of_block (cs := #[.string key]) (t := 9) (fr := (0, 0)) (heap_alloc_new we _)) (by simp [Value.oneCell'])
                  (by omega) (by unfold maxLen; omega) (by omega) (by simp; omega) (we.heap.size + 1) (by simp) ?_
                intro gk5 ck5 w5 hown5 hgrow5 hat5 hlt5
                have N5 := Lib.hid (blk_own (w1 := w5) (blk_up HO1.out.out (up_alloc (Below.refl _ _) _)) ((HO1.out.krow).alloc _) (by omega) hgrow5)
                have HO6 := Lib.hid (HO1.out.key hku (by rw [HKEY.out]; exact hown5) hgrow5 hat5)
                have SK5 : Hid (
                  w5.cell? ⟨w4.heap.size, 3, none⟩ = some (.slice (some ⟨gk2, 0, none⟩) u ck2) ∧ w5.cell? ⟨w2.heap.size + 1 + 1, 0, none⟩ = some (.slice (some ⟨gq, 0, none⟩) t cq) ∧ w5.cell? ⟨gq, u, none⟩ = some (.string key)
                  ) := Lib.hid (by
                    obtain ⟨_, q2, q3⟩ := HSK.out _ (up_alloc (Below.refl _ _) (.cells #[.string key] 9))
                    have hkl := HO1.out.krow.lt
                    have far : ∀ a v, a.block < w4.heap.size → (we.alloc (.cells #[.string key] 9)).cell? a = some v → w5.cell? a = some v := fun a v ha hc => by
                      refine (World.cell?_of_block (a := a) (hgrow5.block a.block (by simp; omega) (fun e => ?_))).trans hc
                      have := (hkl _ e.symm).1
                      omega
                    refine ⟨(blk_cell N5.out 3).trans rfl, far _ _ (by have := I5.out.size; show w2.heap.size + 1 + 1 < w4.heap.size; omega) q2, far _ _ ?_ q3⟩
                    exact (I5.out.keys.lt gq rfl).2)
                clear hown5 hgrow5 hat5 hlt5
                have r3 : w5.cell? ⟨w4.heap.size, 3, none⟩ = some (.slice (some ⟨gk2, 0, none⟩) u ck2) := SK5.out.1
                have r3' : w5.frozen? ⟨w4.heap.size, 3, none⟩ = false := blk_frozen N5.out 3
                refine hK.out _ _ (fun _ _ => SK5.out) ?_
                clear hK K'
                try simp only [Act.put, List.setIfInBounds_toArray, List.set_cons_zero, List.set_cons_succ]
                refine AnyT.takeY (i := 8) (d := some 98) (v := ?_) rfl rfl (by kernel_rfl) (by kernel_rfl) (by kernel_rfl) (fun _ _ _ h => h) (by rfl) ?_ ?_
                rotate_left
                · intro W
                  go_simp
                  with_reducible rfl
                try simp only [Act.put, List.setIfInBounds_toArray, List.set_cons_zero, List.set_cons_succ]
                refine AnyT.one (i := 9) rfl (by kernel_rfl) (fun K' hK => ?_)
                go_simp
                refine hK.out _ _ (fun _ h => absurd rfl h) ?_
                clear hK K'
                refine AnyT.end (by kernel_rfl) ?_ _
                try simp only [Act.put, List.setIfInBounds_toArray, List.set_cons_zero, List.set_cons_succ]
                clear r3 r3' SK5 HSK N5 HO1
                generalize w5.setCell ⟨w4.heap.size, 3, none⟩ (.slice (some ⟨gk5, 0, none⟩) (u + 1) ck5) = w6 at HO6 ⊢
                obtain ⟨a0, a1, a2, p3, p4, l3, k3, l4, k4, hcu, f0, f1, f2, f3, f4⟩ := HCS.out u hut
                have HCU := Lib.hid hcu
                have W6 := Lib.hid (fun j v (hj : j < t * 5) (h : css.flatten[j]? = some v) => show w6.drew.cell? ⟨gi, j, none⟩ = some v from (HO6.out.below.cell (p := ⟨gi, j, none⟩) ((I5.out.row.own.lt gi rfl).2)).trans ((I5.out.row.own.cellAt j hj).trans h))
                have g0 := W6.out _ _ (by omega) f0
                have g1 := W6.out _ _ (by omega) f1
                have g2 := W6.out _ _ (by omega) f2
                have g3 := W6.out _ _ (by omega) f3
                have g4 := W6.out _ _ (by omega) f4
                clear f0 f1 f2 f3 f4 hcu W6
                go_wp2
                refine AnyT.begin (L := 9) (n := 10) (S := fun w' =>
                  w'.cell? ⟨w4.heap.size, 4, none⟩ = some cv2 ∧ w'.cell? ⟨gi, u * 5, none⟩ = some (.int .i64 a0) ∧ w'.cell? ⟨gi, u * 5 + 1, none⟩ = some (.int .i64 a1) ∧ w'.cell? ⟨gi, u * 5 + 2, none⟩ = some (.string a2) ∧ w'.cell? ⟨gi, u * 5 + 3, none⟩ = some (.slice p3 l3 k3) ∧ w'.cell? ⟨gi, u * 5 + 4, none⟩ = some (.slice p4 l4 k4)
                  ) (by kernel_rfl) rfl ?_
                have HO7 : Hid (OInv w4 ks css (u + 1) u (.slice (some ⟨gk5, 0, none⟩) (u + 1) ck5) cv2 w6.drew) := Lib.hid (HO6.out.up (up_drew (Below.refl _ _)))
                have S0 :
                  w6.drew.cell? ⟨w4.heap.size, 4, none⟩ = some cv2 ∧ w6.drew.cell? ⟨gi, u * 5, none⟩ = some (.int .i64 a0) ∧ w6.drew.cell? ⟨gi, u * 5 + 1, none⟩ = some (.int .i64 a1) ∧ w6.drew.cell? ⟨gi, u * 5 + 2, none⟩ = some (.string a2) ∧ w6.drew.cell? ⟨gi, u * 5 + 3, none⟩ = some (.slice p3 l3 k3) ∧ w6.drew.cell? ⟨gi, u * 5 + 4, none⟩ = some (.slice p4 l4 k4)
                  := ⟨(blk_cell HO7.out.out 4).trans rfl, g0, g1, g2, g3, g4⟩
                clear g0 g1 g2 g3 g4 HO6
                generalize w6.drew = wf at HO7 S0 ⊢
                have HSI : Hid (∀ W, Below wf.heap.size wf W →
                  W.cell? ⟨w4.heap.size, 4, none⟩ = some cv2 ∧ W.cell? ⟨gi, u * 5, none⟩ = some (.int .i64 a0) ∧ W.cell? ⟨gi, u * 5 + 1, none⟩ = some (.int .i64 a1) ∧ W.cell? ⟨gi, u * 5 + 2, none⟩ = some (.string a2) ∧ W.cell? ⟨gi, u * 5 + 3, none⟩ = some (.slice p3 l3 k3) ∧ W.cell? ⟨gi, u * 5 + 4, none⟩ = some (.slice p4 l4 k4)
                  ) := Lib.hid (fun W hb => ⟨cell_up hb _ _ S0.1, cell_up hb _ _ S0.2.1, cell_up hb _ _ S0.2.2.1, cell_up hb _ _ S0.2.2.2.1, cell_up hb _ _ S0.2.2.2.2.1, cell_up hb _ _ S0.2.2.2.2.2⟩)
                have hzo7 := HO7.out.size
                refine AnyT.takeY (i := 0) (d := some 99) (v := ?_) rfl rfl (by kernel_rfl) (by kernel_rfl) (by kernel_rfl) (fun _ _ _ h => h) (by rfl) ?_ ?_
                rotate_left
                · intro W
                  go_simp
                  with_reducible rfl
                try simp only [Act.put, List.setIfInBounds_toArray, List.set_cons_zero, List.set_cons_succ]
                refine AnyT.takeS (i := 1) (d := some 100) (v := ?_) rfl rfl (by kernel_rfl) (by kernel_rfl) (by kernel_rfl) (by kernel_rfl) (fun _ _ _ h => h) (by rfl) (by assumption) ?_ ?_
                rotate_left
                · intro W hSw
                  try dsimp only at hSw
                  go_simp
                  with_reducible rfl
                try simp only [Act.put, List.setIfInBounds_toArray, List.set_cons_zero, List.set_cons_succ]
                refine AnyT.takeY (i := 2) (d := some 101) (v := ?_) rfl rfl (by kernel_rfl) (by kernel_rfl) (by kernel_rfl) (fun _ _ _ h => h) (by rfl) ?_ ?_
                rotate_left
                · intro W
                  go_simp
                  with_reducible rfl
                try simp only [Act.put, List.setIfInBounds_toArray, List.set_cons_zero, List.set_cons_succ]
                refine AnyT.takeY (i := 3) (d := some 102) (v := ?_) rfl rfl (by kernel_rfl) (by kernel_rfl) (by kernel_rfl) (fun _ _ _ h => h) (by rfl) ?_ ?_
                rotate_left
                · intro W
                  go_simp
                  with_reducible rfl
                try simp only [Act.put, List.setIfInBounds_toArray, List.set_cons_zero, List.set_cons_succ]
                refine AnyT.takeY (i := 4) (d := some 103) (v := ?_) rfl rfl (by kernel_rfl) (by kernel_rfl) (by kernel_rfl) (fun _ _ _ h => h) (by rfl) ?_ ?_
                rotate_left
                · intro W
                  go_simp
                  with_reducible rfl
                try simp only [Act.put, List.setIfInBounds_toArray, List.set_cons_zero, List.set_cons_succ]
                refine AnyT.takeS (i := 5) (d := some 104) (v := ?_) rfl rfl (by kernel_rfl) (by kernel_rfl) (by kernel_rfl) (by kernel_rfl) (fun _ _ _ h => h) (by rfl) (by assumption) ?_ ?_
                rotate_left
                · intro W hSw
                  try dsimp only at hSw
                  go_simp
                  with_reducible rfl
                try simp only [Act.put, List.setIfInBounds_toArray, List.set_cons_zero, List.set_cons_succ]
                clear S0
                refine AnyT.one (i := 6) rfl (by kernel_rfl) (fun K' hK => ?_)
                go_simp
                refine hK.out _ _ (fun _ _ => HSI.out _ (up_alloc (Below.refl _ _) _)) ?_
                clear hK K'
                try simp only [Act.put, List.setIfInBounds_toArray, List.set_cons_zero, List.set_cons_succ]
                refine AnyT.one (i := 7) rfl (by kernel_rfl) (fun K' hK => ?_)
                refine step_append_lies _ (by rfl) _ _ _ (by rfl) (w4.heap.size + 1) 25 i0 _ 5 80 Tryd.underlying23 hi0 hz0 hzz1 hzz2 rfl (by omega) cv2 u (css.take u).flatten (by rfl) ((HO7.out.irow).alloc _)
                  ⟨wf.heap.size, 0, none⟩ 1 1 [(.int .i64 a0), (.int .i64 a1), (.string a2), (.slice p3 l3 k3), (.slice p4 l4 k4)] (by rfl) (by rfl) (World.news_of_block (cs := #[(.int .i64 a0), (.int .i64 a1), (.string a2), (.slice p3 l3 k3), (.slice p4 l4 k4)]) (t := 25) (fr := (0, 0)) (heap_alloc_new wf _)) (by simp [Value.oneCell'])
                  (by omega) (by unfold maxLen; omega) (by omega) (by simp; omega) (wf.heap.size + 1) (by simp) ?_
                intro gv5 cv5 w8 hown8 hgrow8 hat8 hlt8
                have N8 := Lib.hid (blk_own (w1 := w8) (blk_up HO7.out.out (up_alloc (Below.refl _ _) _)) ((HO7.out.irow).alloc _) (by omega) hgrow8)
                have HUC : Hid (u < css.length) := Lib.hid (by rw [I5.out.row.len]; exact hut)
                have HCV : Hid (css[u]'HUC.out = [.int .i64 a0, .int .i64 a1, .string a2, .slice p3 l3 k3, .slice p4 l4 k4]) := Lib.hid (by
                  have h := HCU.out
                  rw [List.getElem?_eq_getElem HUC.out] at h
                  exact Option.some.inj h)
                have HO9 := Lib.hid (HO7.out.item HUC.out (by rw [HCV.out]; exact hown8) hgrow8 hat8)
                have SI8 : Hid (
                  w8.cell? ⟨w4.heap.size, 4, none⟩ = some cv2 ∧ w8.cell? ⟨gi, u * 5, none⟩ = some (.int .i64 a0) ∧ w8.cell? ⟨gi, u * 5 + 1, none⟩ = some (.int .i64 a1) ∧ w8.cell? ⟨gi, u * 5 + 2, none⟩ = some (.string a2) ∧ w8.cell? ⟨gi, u * 5 + 3, none⟩ = some (.slice p3 l3 k3) ∧ w8.cell? ⟨gi, u * 5 + 4, none⟩ = some (.slice p4 l4 k4)
                  ) := Lib.hid (by
                    obtain ⟨_, q0, q1, q2, q3, q4⟩ := HSI.out _ (up_alloc (Below.refl _ _) (.cells #[.int .i64 a0, .int .i64 a1, .string a2, .slice p3 l3 k3, .slice p4 l4 k4] 25))
                    have hil := HO7.out.irow.lt
                    have hgi := (I5.out.row.own.lt gi rfl).2
                    have far : ∀ j v, (wf.alloc (.cells #[.int .i64 a0, .int .i64 a1, .string a2, .slice p3 l3 k3, .slice p4 l4 k4] 25)).cell? ⟨gi, j, none⟩ = some v → w8.cell? ⟨gi, j, none⟩ = some v := fun j v hc => by
                      refine (World.cell?_of_block (a := ⟨gi, j, none⟩) (hgrow8.block gi (by simp; omega) (fun e => ?_))).trans hc
                      have := (hil _ e.symm).1
                      omega
                    exact ⟨(blk_cell N8.out 4).trans rfl, far _ _ q0, far _ _ q1, far _ _ q2, far _ _ q3, far _ _ q4⟩)
                clear hown8 hgrow8 hat8 hlt8
                have r4 : w8.cell? ⟨w4.heap.size, 4, none⟩ = some cv2 := SI8.out.1
                have r4' : w8.frozen? ⟨w4.heap.size, 4, none⟩ = false := blk_frozen N8.out 4
                refine hK.out _ _ (fun _ _ => SI8.out) ?_
                clear hK K'
                try simp only [Act.put, List.setIfInBounds_toArray, List.set_cons_zero, List.set_cons_succ]
                refine AnyT.takeY (i := 8) (d := some 107) (v := ?_) rfl rfl (by kernel_rfl) (by kernel_rfl) (by kernel_rfl) (fun _ _ _ h => h) (by rfl) ?_ ?_
                rotate_left
                · intro W
                  go_simp
                  with_reducible rfl
                try simp only [Act.put, List.setIfInBounds_toArray, List.set_cons_zero, List.set_cons_succ]
                refine AnyT.one (i := 9) rfl (by kernel_rfl) (fun K' hK => ?_)
                go_simp
                refine hK.out _ _ (fun _ h => absurd rfl h) ?_
                clear hK K'
                refine AnyT.end (by kernel_rfl) ?_ _
                try simp only [Act.put, List.setIfInBounds_toArray, List.set_cons_zero, List.set_cons_succ]
                clear r4 r4' SI8 HSI N8 HO7
                generalize w8.setCell ⟨w4.heap.size, 4, none⟩ (.slice (some ⟨gv5, 0, none⟩) (u + 1) cv5) = w9 at HO9 ⊢
                go_wp2
                go_roundg (t - (u + 1))
                case measure => omega
                case rel => exact ⟨u + 1, _, _, by go_num, by omega, HO9⟩
            · obtain rfl : u = t := by omega
              obtain ⟨kA, kn, kc, hkf⟩ := own_slice HO.out.krow
              obtain ⟨cA, cn, cc, hcf⟩ := own_slice HO.out.irow
              subst hkf hcf
              have q : ∀ j, wr.cell? ⟨w4.heap.size, j, none⟩ = (#[.int .i64 5, .int .i64 0, .string ⟨#[]⟩, .slice kA kn kc, .slice cA cn cc] : Array Value)[j]? := fun j => blk_cell HO.out.out j
              have o0 : wr.cell? ⟨w4.heap.size, 0, none⟩ = some (.int .i64 5) := (q 0).trans rfl
              have o1 : wr.cell? ⟨w4.heap.size, 1, none⟩ = some (.int .i64 0) := (q 1).trans rfl
              have o2 : wr.cell? ⟨w4.heap.size, 2, none⟩ = some (.string ⟨#[]⟩) := (q 2).trans rfl
              have o3 : wr.cell? ⟨w4.heap.size, 3, none⟩ = some (.slice kA kn kc) := (q 3).trans rfl
              have o4 : wr.cell? ⟨w4.heap.size, 4, none⟩ = some (.slice cA cn cc) := (q 4).trans rfl
              clear q
              have Z9 : Hid (wr.heap[w.heap.size]? = some (outBlk 0 (.slice none 0 0) (.slice none 0 0))) := Lib.hid ((HO.out.below.block w.heap.size (blk_lt I5.out.zero)).trans I5.out.zero)
              have R9 : Hid (Rem wr g s l) := Lib.hid (R5.out.up HO.out.below)
              have G9 : Hid (w.grownBy wr (some g)) := Lib.hid (grown_trans I5.out.grown (grown_below _ HO.out.below))
              have q0 : wr.cell? ⟨w.heap.size, 0, none⟩ = some (.int .i64 0) := (blk_cell Z9.out 0).trans rfl
              have q1 : wr.cell? ⟨w.heap.size, 1, none⟩ = some (.int .i64 0) := (blk_cell Z9.out 1).trans rfl
              have q2 : wr.cell? ⟨w.heap.size, 2, none⟩ = some (.string ⟨#[]⟩) := (blk_cell Z9.out 2).trans rfl
              have q3 : wr.cell? ⟨w.heap.size, 3, none⟩ = some (.slice none 0 0) := (blk_cell Z9.out 3).trans rfl
              have q4 : wr.cell? ⟨w.heap.size, 4, none⟩ = some (.slice none 0 0) := (blk_cell Z9.out 4).trans rfl
              have p0 : wr.frozen? ⟨w.heap.size, 0, none⟩ = false := blk_frozen Z9.out 0
              have p1 : wr.frozen? ⟨w.heap.size, 1, none⟩ = false := blk_frozen Z9.out 1
              have p2 : wr.frozen? ⟨w.heap.size, 2, none⟩ = false := blk_frozen Z9.out 2
              have p3 : wr.frozen? ⟨w.heap.size, 3, none⟩ = false := blk_frozen Z9.out 3
              have p4 : wr.frozen? ⟨w.heap.size, 4, none⟩ = false := blk_frozen Z9.out 4
              go_wp2
              refine ret_val rfl rfl rfl (set5 Z9.out _ _ _ _ _) (give5 R9.out G9.out hgl ?_)
              exact map_val I5.out HO.out HKS.out HIN.out h60 (fun i h => ((HKT.out i h h).1).2) hz2
end Go.Proofs.YtkafelcnpnlbfaaDoor
