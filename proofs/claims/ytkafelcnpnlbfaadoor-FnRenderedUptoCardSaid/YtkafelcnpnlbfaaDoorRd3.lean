/- The reader: word, text. -/
import Derived.Test.YtkafelcnpnlbfaaDoorRd2
import Derived.Deep.AppendLies
import Derived.Laws.IdiomStrings
import Derived.OneCell
namespace Go.Proofs.YtkafelcnpnlbfaaDoor
open Go.RowKit

set_option maxHeartbeats 2000000 in
theorem word_any (g : Nat) (s W : ByteArray) (l : List UInt8) (w : World) (hW : W.size ≤ 10) (h : Rem w g s (bs W ++ l)) :
    Calls Tryd.prog 25 #[.pointer (some ⟨g, 0, none⟩), .string W] w (Moves g s l w) := by
  have H := Lib.hid h
  clear h
  go_enter Tryd.func25, Tryd.ntmps25
  go_wp2
  go_loopg [4] W.size (fun gk v4 wr => ∃ i : Nat, v4 = .int .i64 i ∧ i + gk = W.size ∧ Hid (Rem wr g s ((bs W).drop i ++ l)) ∧ Hid (w.grownBy wr (some g)))
  case atStart => exact ⟨0, rfl, by omega, Lib.hid H.out, Lib.hid (grown_refl _ _)⟩
  case round =>
    obtain ⟨i, rfl, hi, HR, HG⟩ := hrel
    by_cases hlt : i < W.size
    · have hr := HR.out
      have hl' : i < (bs W).length := hlt
      rw [List.drop_eq_getElem_cons hl', List.cons_append] at hr
      obtain ⟨p, c, hcc, c0, c1, c2, f1, f2, hp, pi, pe, hs, hc, hnext, hat, -⟩ := hr.walk
      have hcw : ∀ h : i < W.size, ((W[i]'h).toNat : Int) = c := fun h => by rw [hcc]; rfl
      have i1 : (i : Int) < (W.size : Int) := by omega
      have HNEXT := Lib.hid hnext
      have HAT := Lib.hid hat
      have hq : ((c : Int) != c) = false := by simp
      clear hr hnext hat hcc
      go_wp2
      go_quiet (fail)
      go_wp2
      go_roundg (W.size - (i + 1))
      case measure => omega
      case rel => exact ⟨i + 1, by go_num, by omega, Lib.hid (HNEXT.out _ ((HAT.out.up (up_drewN (Below.refl _ _) _)).moved _)), Lib.hid (grown_trans (grown_trans HG.out (grown_below _ (up_drewN (Below.refl _ _) _))) (grown_set _ _ _))⟩
    · have hr := HR.out
      rw [List.drop_of_length_le (show (bs W).length ≤ i from by have : (bs W).length = W.size := rfl; omega)] at hr
      have HR2 := Lib.hid hr
      clear hr
      go_wp2
      refine bodyPost_end (results_none rfl _ _ _) rfl ?_
      exact ⟨rfl, HR2.out, HG.out⟩

/-- A text in which nothing is escaped. -/
def Clean (t : List UInt8) : Prop := ∀ c ∈ t, 32 ≤ c.toNat ∧ c.toNat ≠ 34 ∧ c.toNat ≠ 92
theorem info_u8 : (Tryd.prog.info? 5).map (fun i => (i.zero, i.size, i.bytes)) = some (some (.int .u8 0), 1, 1) := by kernel_rfl
theorem grown_row {w1 w2 w3 : World} {g gg : Nat} (h : w1.grownBy w2 (some g)) (k : w2.grownBy w3 (some gg)) (hge : w1.heap.size ≤ gg) : w1.grownBy w3 (some g) :=
  ⟨k.os.trans h.os, k.tape.trans h.tape, k.output.trans h.output, Nat.le_trans h.size k.size, fun i hi hn => (k.block i (Nat.lt_of_lt_of_le hi h.size) (fun e => by injection e; omega)).trans (h.block i hi hn)⟩
theorem addr_add (g j : Nat) : (⟨g, 0, none⟩ : Addr).add j = ⟨g, j, none⟩ := by unfold Addr.add; split <;> simp_all
def u8s (t : List UInt8) : List Value := t.map fun b => .int .u8 b.toNat

set_option maxRecDepth 100000 in
set_option maxHeartbeats 4000000 in
theorem text_any (g : Nat) (s : ByteArray) (t l : List UInt8) (w : World) (ht : Clean t) (hlen : t.length ≤ 1000) (h : Rem w g s (34 :: (t ++ 34 :: l))) :
    Calls Tryd.prog 24 #[.pointer (some ⟨g, 0, none⟩)] w (Gives (.string ⟨t.toArray⟩) g s l w) := by
  have HN := Lib.hid (need_any g s [] (t ++ 34 :: l) 34 34 w rfl (fun _ h => by cases h) (by decide) h)
  have HT := Lib.hid ht
  clear h ht
  obtain ⟨i0, hi0, hz0, hz1, hz2⟩ := info_parts info_u8
  go_enter Tryd.func24, Tryd.ntmps24
  go_wp2_with fail
  go_at_call 21
  refine HN.out.mono ?_
  rintro e w1 ⟨rfl, hr, hg⟩
  have HR1 := Lib.hid hr
  have HG1 := Lib.hid hg
  have hgl : g < w1.heap.size := by obtain ⟨_, _, _, h3, _⟩ := hr; exact blk_lt h3
  clear hr hg
  go_wp2
  go_loopg [3] t.length (fun gk v3 wr => ∃ (i gg cap : Nat), v3 = .slice (some ⟨gg, 0, none⟩) i cap ∧ i + gk = t.length ∧ Hid (wr.ownsRow w1.heap.size 5 1 (.slice (some ⟨gg, 0, none⟩) i cap) i (u8s (t.take i))) ∧
    Hid (Rem wr g s (t.drop i ++ 34 :: l)) ∧ Hid (w1.grownBy wr (some g)))
  case atStart =>
    exact ⟨0, w1.heap.size, 0, rfl, by omega, Lib.hid (World.ownsRow_made w1 #[] 0 (Nat.le_refl _) (by unfold maxLen; omega) rfl), Lib.hid (HR1.out.up (up_alloc (Below.refl _ _) _)), Lib.hid (grown_below _ (up_alloc (Below.refl _ _) _))⟩
  case round =>
    obtain ⟨i, gg, cap, rfl, hi, HO, HR, HG⟩ := hrel
    have hgg : g ≠ gg := by have := (HO.out.lt gg rfl).1; omega
    by_cases hlt : i < t.length
    · have hr := HR.out
      rw [List.drop_eq_getElem_cons hlt, List.cons_append] at hr
      obtain ⟨h32, h34, h92⟩ := HT.out t[i] (List.getElem_mem hlt)
      have HTAKE : Hid (u8s (t.take (i + 1)) = u8s (t.take i) ++ [.int .u8 (t[i].toNat : Int)]) := Lib.hid (by rw [List.take_succ_eq_append_getElem hlt]; unfold u8s; rw [List.map_append]; rfl)
      obtain ⟨p, c, hcc, c0, c1, c2, f1, f2, hp, pi, pe, hs, hc, hnext, hat, -⟩ := hr.walk
      rw [← hcc] at HTAKE
      have q34 : (c == 34) = false := by simp; omega
      have q32 : ¬ (c < 32) := by omega
      have q92 : (c == 92) = false := by simp; omega
      have HNEXT := Lib.hid hnext
      have HAT := Lib.hid hat
      have HOWN : Hid (∀ (n : Nat) (q : Value), ((wr.drewN n).setCell ⟨g, 1, none⟩ q).ownsRow w1.heap.size 5 1 (.slice (some ⟨gg, 0, none⟩) i cap) i (u8s (t.take i))) := Lib.hid (fun n q =>
        ownsRow_setCell_other (own_up HO.out (up_drewN (Below.refl _ _) n)) (by simp [Value.ownBlock]; exact Ne.symm hgg) q)
      have HNEW : Hid (∀ (n : Nat) (q : Value), ∀ j u, [Value.int .u8 c][j]? = some u → (((wr.drewN n).setCell ⟨g, 1, none⟩ q).alloc (.cells #[.int .u8 c] 5)).cell? ((⟨wr.heap.size, 0, none⟩ : Addr).add j) = some u) := Lib.hid (fun n q =>
        World.news_of_block (cs := #[.int .u8 c]) (t := 5) (fr := (0, 0)) (by have := heap_alloc_new ((wr.drewN n).setCell ⟨g, 1, none⟩ q) (.cells #[.int .u8 c] 5); simpa [World.setCell] using this))
      clear hr hnext hat hcc h32 h34 h92
      go_wp2
      go_quiet (fail)
      go_wp2
      go_quiet (fail)
      go_wp2_with (first
        | (at_builtin
           refine wpList_append_lies _ rfl (.tmp 42) (.tmp 44) 63 rfl w1.heap.size 5 i0 (.int .u8 0) 1 1 Tryd.underlying63 hi0 hz0 hz1 hz2 rfl (by decide) _ i (u8s (t.take i)) rfl ((HOWN.out _ _).alloc _)
             ⟨wr.heap.size, 0, none⟩ 1 1 [.int .u8 c] rfl rfl (HNEW.out _ _) (by simp [Value.oneCell']) (by omega) (by unfold maxLen; omega) (by omega) (by have := HG.out.size; simp [World.setCell]; omega) (wr.heap.size + 1) (by simp [World.setCell]) ?_))
      intro gg2 cap2 w3 hown3 hgrow hat3 hlt3
      have G1 := Lib.hid hown3
      have G2 := Lib.hid hgrow
      clear hown3 hgrow hat3 hlt3
      go_wp2
      go_roundg (t.length - (i + 1))
      case measure => omega
      case rel =>
        refine ⟨i + 1, gg2, cap2, rfl, by omega, Lib.hid (by rw [HTAKE.out]; exact G1.out), Lib.hid (HNEXT.out _ ?_), Lib.hid ?_⟩
        · exact (G2.out.block g (by have := HG.out.size; simp [World.setCell]; omega) (by simp [Value.ownBlock]; exact hgg)).trans ((Below.heap_alloc _ _ _ (by have := HG.out.size; simp [World.setCell]; omega)).trans ((HAT.out.up (up_drewN (Below.refl _ _) _)).moved _))
        · exact grown_row (grown_trans (grown_trans (grown_trans HG.out (grown_below _ (up_drewN (Below.refl _ _) _))) (grown_set g 1 _)) (grown_below _ (up_alloc (Below.refl _ _) _))) G2.out (HO.out.lt gg rfl).1
    · have hr := HR.out
      rw [List.drop_of_length_le (by omega), List.nil_append] at hr
      obtain ⟨p, c, hcc, c0, c1, c2, f1, f2, hp, pi, pe, hs, hc, hnext, hat, -⟩ := hr.walk
      obtain rfl : c = 34 := hcc
      have HNEXT := Lib.hid hnext
      have HAT := Lib.hid hat
      have it : i = t.length := by omega
      have hcv : ∀ (n : Nat) (q : Value), (convert 63 9 (.slice (some ⟨gg, 0, none⟩) i cap)).run Tryd.prog ((wr.drewN n).setCell ⟨g, 1, none⟩ q) = .ok (.string ⟨t.toArray⟩) ((wr.drewN n).setCell ⟨g, 1, none⟩ q) := by
        intro n q
        have ho := ownsRow_setCell_other (own_up HO.out (up_drewN (Below.refl _ _) n)) (a := ⟨g, 1, none⟩) (by simp [Value.ownBlock]; exact Ne.symm hgg) q
        rw [it]
        rw [it, List.take_of_length_le (Nat.le_refl _)] at ho
        refine run_convert_bytes_back _ _ _ 5 ⟨gg, 0, none⟩ cap t Tryd.underlying63 Tryd.underlying5 Tryd.underlying9 (fun j hj => ?_)
        rw [addr_add, ho.cellAt j (by omega)]
        simp [u8s, hj]
      clear hr hnext hat it
      go_wp2
      go_quiet (fail)
      go_wp2
      go_quiet (fail)
      go_wp2
      go_ret
      exact ⟨rfl, HNEXT.out _ ((HAT.out.up (up_drewN (Below.refl _ _) _)).moved _), grown_trans HG1.out (grown_trans (grown_trans HG.out (grown_below _ (up_drewN (Below.refl _ _) _))) (grown_set g 1 _))⟩
end Go.Proofs.YtkafelcnpnlbfaaDoor
