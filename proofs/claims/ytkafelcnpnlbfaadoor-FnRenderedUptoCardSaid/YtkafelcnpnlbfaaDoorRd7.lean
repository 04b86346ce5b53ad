/- The reader: maps, and every Value of a text. -/
import Derived.Test.YtkafelcnpnlbfaaDoorOb
namespace Go.Proofs.YtkafelcnpnlbfaaDoor
open Go.RowKit


set_option maxRecDepth 100000 in
set_option maxHeartbeats 4000000 in
theorem value_map (E : Nat) (ih : ReadsAt E) (v : Dat) (g : Nat) (s : ByteArray) (ind sp l : List UInt8) (w : World) (depth : Int) (hp : PMap (Plain E) v) (hq : Prn v) (h0 : (E : Int) + 2 ≤ depth) (h1 : depth ≤ 100) (hsp : Blank sp) (hind : Blank ind)
    (hr : Rem w g s (sp ++ (tx (E + 2) ind v ++ l))) : Calls Tryd.prog 12 #[.pointer (some ⟨g, 0, none⟩), .int .i64 depth] w (GivesVal v g s l w) := by
  have hk : v.kind = 5 := hp.1
  obtain ⟨rest, hrest⟩ : ∃ rest, tx (E + 2) ind v = 123 :: rest := ⟨_, tx_map hk⟩
  have HO := Lib.hid (fun (W : World) (hR : Rem W g s (123 :: (rest ++ l))) => object_any E ih v g s ind [] l W depth hp hq h0 h1 (fun _ h => by cases h) hind (by rw [hrest]; exact hR))
  rw [hrest] at hr
  replace hr : Rem w g s (sp ++ 123 :: (rest ++ l)) := hr
  clear hp hq ih hind hrest hk
  have hgl := hr.lt
  have hd : (depth == 0) = false := by simp; omega
  have HP := Lib.hid (fun (W : World) (hb : Below w.heap.size w W) => peek_any g s sp (rest ++ l) 123 W hsp (by decide) (hr.up hb))
  have HB := Lib.hid (fun (W : World) (hb : Below w.heap.size w W) => (hr.up hb).bad)
  have z2 : ∀ o, (w.alloc o).cell? ⟨g, 2, none⟩ = some (.bool false) := fun o => (HB.out _ (up_alloc (Below.refl _ _) o)).1
  clear hr hsp
  go_enter Tryd.func12, Tryd.ntmps12
  go_wp2_with fail
  go_at_call 19
  refine (HP.out _ (up_alloc (Below.refl _ _) _)).mono ?_
  rintro e w1 ⟨rfl, hr1, hg1⟩
  have hz1 : w.heap.size < w1.heap.size := by have := hg1.size; simp at this; omega
  have R0 : Hid (w1.heap[w.heap.size]? = some (.cells #[.int .i64 0, .int .i64 0, .string ⟨#[]⟩, .slice none 0 0, .slice none 0 0] 25 (0, 0))) := Lib.hid ((hg1.block _ (by simp) (by simp; omega)).trans (blk_new w _))
  have HR1 := Lib.hid hr1
  have HG1 := Lib.hid (grown_trans (grown_below (some g) (up_alloc (Below.refl w.heap.size w) _)) hg1)
  clear hr1 hg1
  go_wp2_with fail
  go_at_call 20
  refine (HO.out w1 HR1.out).mono ?_
  rintro e w2 ⟨cs, rfl, hv2, hr2, hg2⟩
  obtain ⟨ka, ia, kc, ic, rfl⟩ := hv2.shape
  have HV2 := Lib.hid hv2
  have HR2 := Lib.hid hr2
  have R1 := Lib.hid ((hg2.block _ hz1 (by simp; omega)).trans R0.out)
  have HG2 := Lib.hid (grown_trans HG1.out hg2)
  clear hv2 hr2 hg2
  have q0 : w2.cell? ⟨w.heap.size, 0, none⟩ = some (.int .i64 0) := (blk_cell R1.out 0).trans rfl
  have q1 : w2.cell? ⟨w.heap.size, 1, none⟩ = some (.int .i64 0) := (blk_cell R1.out 1).trans rfl
  have q2 : w2.cell? ⟨w.heap.size, 2, none⟩ = some (.string ⟨#[]⟩) := (blk_cell R1.out 2).trans rfl
  have q3 : w2.cell? ⟨w.heap.size, 3, none⟩ = some (.slice none 0 0) := (blk_cell R1.out 3).trans rfl
  have q4 : w2.cell? ⟨w.heap.size, 4, none⟩ = some (.slice none 0 0) := (blk_cell R1.out 4).trans rfl
  have p0 : w2.frozen? ⟨w.heap.size, 0, none⟩ = false := blk_frozen R1.out 0
  have p1 : w2.frozen? ⟨w.heap.size, 1, none⟩ = false := blk_frozen R1.out 1
  have p2 : w2.frozen? ⟨w.heap.size, 2, none⟩ = false := blk_frozen R1.out 2
  have p3 : w2.frozen? ⟨w.heap.size, 3, none⟩ = false := blk_frozen R1.out 3
  have p4 : w2.frozen? ⟨w.heap.size, 4, none⟩ = false := blk_frozen R1.out 4
  go_wp2
  exact ret_val rfl rfl rfl (set5 R1.out _ _ _ _ _) (give5 HR2.out HG2.out hgl (HV2.out.mono (onS_move (fun _ _ => rfl) (fun k hk => ⟨Nat.lt_of_lt_of_le hz1 hk.1, hk.2⟩))))

theorem clean_of {t : ByteArray} (hw : Wordy t) (he : Easy t) : Clean (bs t) := fun c hc => by
  obtain ⟨j, hj, rfl⟩ := List.mem_iff_getElem.1 hc
  have h1 := hw.1 j hj
  have h2 := he j hj
  have e : (bs t)[j] = t[j]'hj := rfl
  rw [e]
  omega

theorem tx_no {d : Nat} {ind : List UInt8} {t : ByteArray} {ks : List ByteArray} {its : List Dat} : tx (d + 1) ind (.mk 1 0 t ks its) = [102, 97, 108, 115, 101] := by
  unfold tx
  rw [if_pos (show (Dat.mk 1 0 t ks its).kind = 1 from rfl)]
  rfl
theorem tx_yes {d : Nat} {ind : List UInt8} {t : ByteArray} {ks : List ByteArray} {its : List Dat} : tx (d + 1) ind (.mk 1 1 t ks its) = [116, 114, 117, 101] := by
  unfold tx
  rw [if_pos (show (Dat.mk 1 1 t ks its).kind = 1 from rfl)]
  rfl
theorem tx_text {d : Nat} {ind : List UInt8} {t : ByteArray} {ks : List ByteArray} {its : List Dat} : tx (d + 1) ind (.mk 3 0 t ks its) = 34 :: (bs t ++ [34]) := by
  unfold tx
  rw [if_neg (show ¬ (Dat.mk 3 0 t ks its).kind = 1 by simp [Dat.kind]), if_pos (show (Dat.mk 3 0 t ks its).kind = 3 from rfl)]
  rfl

theorem value_flat (E : Nat) (v : Dat) (g : Nat) (s : ByteArray) (ind sp l : List UInt8) (w : World) (depth : Int) (hp : Flat v) (hq : Prn v) (h0 : (E : Int) + 1 ≤ depth) (h1 : depth ≤ 100) (hsp : Blank sp)
    (hr : Rem w g s (sp ++ (tx (E + 1) ind v ++ l))) : Calls Tryd.prog 12 #[.pointer (some ⟨g, 0, none⟩), .int .i64 depth] w (GivesVal v g s l w) := by
  obtain ⟨_, n0, n2, n6, he, _⟩ := hq
  rcases hp with h | ⟨hk, hn, ht, hks, hits⟩ | h | h | ⟨hk, hn, hw, hks, hits⟩
  · exact absurd h.1 n0
  · obtain ⟨k, n, t, ks, its⟩ := v
    simp only [Dat.kind, Dat.num, NoText, Dat.text, Dat.keys, Dat.items] at hk hn ht hks hits
    subst hk ht hks hits
    rcases hn with rfl | rfl
    · rw [tx_no] at hr
      exact value_false g s sp l w depth (by omega) h1 hsp hr
    · rw [tx_yes] at hr
      exact value_true g s sp l w depth (by omega) h1 hsp hr
  · exact absurd h.1 n2
  · exact absurd h.1 n6
  · have hee := he hk
    clear he
    obtain ⟨k, n, t, ks, its⟩ := v
    simp only [Dat.kind, Dat.num, Dat.text, Dat.keys, Dat.items] at hk hn hw hks hits hee
    subst hk hn hks hits
    rw [tx_text] at hr
    exact value_text g s sp l (bs t) w depth (by omega) h1 hsp (clean_of hw hee) (by show t.size ≤ 1000; have := hw.2; omega) (by simpa using hr)

theorem reads_all : ∀ E, ReadsAt E := by
  intro E
  induction E with
  | zero => exact fun v g s ind sp l w depth hp hq h0 h1 hsp _ hr => value_flat 0 v g s ind sp l w depth hp hq h0 h1 hsp hr
  | succ E ih =>
    intro v g s ind sp l w depth hp hq h0 h1 hsp hind hr
    rcases hp with hp | hp | hp
    · exact value_flat (E + 1) v g s ind sp l w depth hp hq h0 h1 hsp hr
    · exact value_list E ih v g s ind sp l w depth hp hq (by omega) h1 hsp hind hr
    · exact value_map E ih v g s ind sp l w depth hp hq (by omega) h1 hsp hind hr
end Go.Proofs.YtkafelcnpnlbfaaDoor
