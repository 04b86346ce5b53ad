/- The reference's functions over whole Values, the rest. -/
import Derived.Test.YthdnkcofcbinhaaGreatDoorGnJ
import Derived.Test.YthdnkcofcbinhaaGreatDoorSp2J
import Derived.Deep.RegionHeld3
import Derived.Deep.RegionLaw
import Derived.Deep.Cut
import Derived.Deep.CutRange
set_option linter.unusedVariables false
set_option linter.unusedSimpArgs false
namespace Go.Proofs.YthdnkcofcbinhaaGreatDoor
open Go.RowKit

theorem isPlain_any (D : Nat) (hD : D ≤ 12) : ∀ (v : Dat) (w : World) (cs : List Value), VA w v cs → Calls Tryz.prog 20 #[.agg cs.toArray, .int .i64 D] w (SomeBool (Plain D v) w) := by
  induction D with
  | zero => exact isPlain_step 0 hD (fun D' h => by omega)
  | succ D ih => exact isPlain_step (D + 1) hD (fun D' h => by obtain rfl : D' = D := by omega
                                                               exact ih (by omega))

set_option maxHeartbeats 1000000 in
theorem IsData_any (v : Dat) (w : World) (cs : List Value) (hv : VA w v cs) : Calls Tryz.prog 11 #[.agg cs.toArray] w (SomeBool (Plain 12 v) w) := by
  obtain ⟨ka, ia, kc, ic, rfl, _⟩ := hv.inv
  have H1 := Lib.hid (fun W (hb : Below w.heap.size w W) => isPlain_any 12 (by omega) v W _ (hv.up hb))
  have H2 := Lib.hid (fun W (hb : Below w.heap.size w W) => size_any (SizeOf.sizeOf v + 1) v W _ (by omega) (hv.up hb))
  clear hv
  go_enter Tryz.func11, Tryz.ntmps11
  go_wp2_with fail
  refine (H1.out _ (up_alloc (Below.refl _ _) _)).mono ?_
  rintro e w1 ⟨b, rfl, hp, hb⟩
  have HB1 := Lib.hid (up_trans (up_alloc (Below.refl _ _) _) hb)
  have HX := Lib.hid (blk_up (blk_new w _) hb)
  have HP := Lib.hid hp
  clear hp hb
  have c0 : w1.cell? ⟨w.heap.size, 0, none⟩ = some (.int .i64 v.kind) := (blk_cell HX.out 0).trans rfl
  have c1 : w1.cell? ⟨w.heap.size, 1, none⟩ = some (.int .i64 v.num) := (blk_cell HX.out 1).trans rfl
  have c2 : w1.cell? ⟨w.heap.size, 2, none⟩ = some (.string v.text) := (blk_cell HX.out 2).trans rfl
  have c3 : w1.cell? ⟨w.heap.size, 3, none⟩ = some (.slice ka v.keys.length kc) := (blk_cell HX.out 3).trans rfl
  have c4 : w1.cell? ⟨w.heap.size, 4, none⟩ = some (.slice ia v.items.length ic) := (blk_cell HX.out 4).trans rfl
  cases b
  · go_wp2
    go_ret
    exact ⟨false, rfl, by simp, HB1.out⟩
  · go_wp2_with fail
    refine (H2.out _ HB1.out).mono ?_
    rintro e w2 ⟨n, rfl, hb⟩
    have HB2 := Lib.hid hb
    clear hb
    go_wp2
    go_ret
    exact ⟨_, rfl, fun _ => HP.out (by simp), up_trans HB1.out HB2.out⟩

end Go.Proofs.YthdnkcofcbinhaaGreatDoor

/- node: scalars and lists. -/
namespace Go.Proofs.YthdnkcofcbinhaaGreatDoor
open Go.RowKit

theorem scalar_any (tag text : ByteArray) (w : World) :
    Calls Tryz.prog 47 #[.string tag, .string text] w fun e w' => e = .returned (.pointer (some ⟨w.heap.size, 0, none⟩)) ∧ w' = w.alloc (nodeBlk 8 tag text (.slice none 0 0)) := by
  go_enter Tryz.func47, Tryz.ntmps47
  go_wp2
  go_ret
  exact ⟨rfl, rfl⟩

theorem FormatBool_any (b : Bool) (w : World) : Calls Tryz.prog 48 #[.bool b] w fun e w' => e = .returned (.string (if b then bTrue else bFalse)) ∧ w = w' := by
  cases b
  all_goals
    go_enter Tryz.func48, Tryz.ntmps48
    go_wp2
    go_ret
    exact ⟨rfl, rfl⟩

theorem info_ptr : (Tryz.prog.info? 45).map (fun i => (i.zero, i.size, i.bytes)) = some (some (.pointer none), 1, 8) := by kernel_rfl

set_option maxRecDepth 100000 in
set_option maxHeartbeats 4000000 in
theorem node_list (D : Nat) (v : Dat) (w : World) (cs : List Value) (hv : VA w v cs) (p0 : v.kind = 4) (p4 : v.items.length ≤ 60)
    (ih : ∀ (i : Nat) (h : i < v.items.length) (W : World) (cs : List Value), Below w.heap.size w W → VA W v.items[i] cs → Calls Tryz.prog 27 #[.agg cs.toArray, .bool false] W (GivesNode D v.items[i] W)) :
    Calls Tryz.prog 27 #[.agg cs.toArray, .bool false] w (GivesNode (D + 1) v w) := by
  obtain ⟨ka, ia, kc, ic, rfl, ht, hk, hkc, hkm, hic, him, hit⟩ := hv.inv
  have IH := Lib.hid ih
  have HIT := Lib.hid hit
  have HP0 := Lib.hid p0
  clear ih hit hk hv
  obtain ⟨i0, hi0, hz0, hz1, hz2⟩ := info_parts info_ptr
  rw [p0]
  clear p0
  go_enter Tryz.func27, Tryz.ntmps27
  go_wp2
  go_loopg [44] v.items.length (fun gk v44 wr => ∃ (i : Nat) (cv : Value) (ps : List Nat), v44 = .int .i64 i ∧ i + gk = v.items.length ∧ Hid (Bld w 2 tSeq (QList D v) i cv ps wr))
  case atStart =>
    refine ⟨0, .slice none 0 0, [], rfl, by omega, Lib.hid ⟨?_, World.ownsRow_nil _ _ _ _, fun _ h => absurd h (Nat.not_lt_zero _), rfl, by simp, up_alloc (up_alloc (Below.refl _ _) _) _⟩⟩
    have := blk_new (w.alloc (.cells #[.int .i64 4, .int .i64 v.num, .string v.text, .slice ka v.keys.length kc, .slice ia v.items.length ic] 25)) (nodeBlk 2 tSeq ⟨#[]⟩ (.slice none 0 0))
    simpa [nodeBlk, tSeq] using this
  case round =>
    obtain ⟨i, cv, ps, rfl, hi, HB⟩ := hrel
    by_cases hlt : i < v.items.length
    · obtain ⟨b, o, ka', ia', kc', ic', hb, h0, h1, h2, h3, h4, hvi⟩ := (HIT.out i).up HB.out.below hlt
      cases hb
      have IHi := Lib.hid (IH.out i hlt)
      obtain ⟨x, hx⟩ : ∃ x, v.items[i] = x := ⟨_, rfl⟩
      rw [hx] at h0 h1 h2 h3 h4 hvi IHi
      have HX := Lib.hid hx
      clear hx
      have HC := Lib.hid (fun W (hb : Below wr.heap.size wr W) => IHi.out W _ (up_trans HB.out.below hb) (hvi.up hb))
      clear hvi IHi
      have n6 : ∀ o1, (wr.alloc o1).cell? ⟨w.heap.size + 1, 6, none⟩ = some cv := fun o1 => cell_up (up_alloc (Below.refl _ _) o1) _ _ ((blk_cell HB.out.node 6).trans rfl)
      have O1 := Lib.hid (own_up HB.out.own (up_alloc (Below.refl _ _) (.cells #[.int .i64 x.kind, .int .i64 x.num, .string x.text, .slice ka' x.keys.length kc', .slice ia' x.items.length ic'] 25)))
      have hs2 : w.heap.size + 2 ≤ wr.heap.size := HB.out.size
      go_upto_region 15 with fail
      go_region_law (first
          | (go_simp
             go_at_call 27
             refine (HC.out _ (up_drew (up_alloc (Below.refl _ _) _))).mono ?_
             rintro e w1 ⟨k, rfl, hn, hb1⟩
             have HN := Lib.hid (hn.move (T := fun b => wr.heap.size ≤ b ∧ b < w1.heap.size) (fun _ _ => rfl) (fun b hb => ⟨by have := hb.1; simp at this; omega, hb.2⟩))
             have HU := Lib.hid (up_trans (up_drew (up_alloc (Below.refl _ _) _)) hb1)
             have HUS := Lib.hid hb1.size
             clear hn hb1
             have O2 := Lib.hid (own_up HB.out.own HU.out)
             have N2 := Lib.hid (blk_up HB.out.node HU.out)
             have m6 : ∀ o1, (w1.alloc o1).cell? ⟨w.heap.size + 1, 6, none⟩ = some cv := fun o1 => cell_up (up_alloc (Below.refl _ _) o1) _ _ ((blk_cell N2.out 6).trans rfl)
             have m6' : w1.cell? ⟨w.heap.size + 1, 6, none⟩ = some cv := (blk_cell N2.out 6).trans rfl
             have hs3 : w.heap.size + 2 ≤ w1.heap.size := by have := HU.out.size; omega)
          | (refine step_append_lies _ (by rfl) _ _ _ (by rfl) (w.heap.size + 2) 45 i0 _ 1 8 Tryz.underlying53 hi0 hz0 hz1 hz2 rfl (by omega) cv i (ptrs ps) (by rfl) ((O2.out).alloc _)
              ⟨w1.heap.size, 0, none⟩ 1 1 [.pointer (some ⟨k, 0, none⟩)] (by rfl) (by rfl) (World.news_of_block (cs := #[.pointer (some ⟨k, 0, none⟩)]) (t := 45) (fr := (0, 0)) (heap_alloc_new w1 _)) (by simp [Value.oneCell'])
              (by omega) (by unfold maxLen; omega) (by omega) (by simp; omega) (w1.heap.size + 1) (by simp) ?_
             intro gg cap w3 hown3 hgrow hat hlt3
             have G1 := Lib.hid hown3
             have G2 := Lib.hid hgrow
             have G3 := Lib.hid hat
             have N3 := Lib.hid (blk_own (w1 := w3) (blk_up N2.out (up_alloc (Below.refl _ _) _)) ((O2.out).alloc _) (by omega) hgrow)
             clear hown3 hgrow hat hlt3
             have r6 : w3.cell? ⟨w.heap.size + 1, 6, none⟩ = some cv := (blk_cell N3.out 6).trans rfl
             have r6' : w3.frozen? ⟨w.heap.size + 1, 6, none⟩ = false := blk_frozen N3.out 6))
      all_goals
        go_wp2
        go_roundg (v.items.length - (i + 1))
        case measure => omega
        case rel =>
          exact ⟨i + 1, _, _, by go_num, by omega, Lib.hid (Bld.step HB.out (QList.movable _ _) HU.out (new_list HX.out HN.out) rfl G1.out G2.out G3.out)⟩
    · obtain rfl : i = v.items.length := by omega
      go_wp2
      go_ret
      exact ⟨_, rfl, Bld.list HB.out HP0.out, HB.out.below⟩
end Go.Proofs.YthdnkcofcbinhaaGreatDoor
