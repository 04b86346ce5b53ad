/- node: every Value that is plain data. -/
import Derived.Test.YthdnkcofcbinhaaGreatDoorGd2J
import Derived.Test.YthdnkcofcbinhaaGreatDoorPiJ
import Derived.Test.YthdnkcofcbinhaaGreatDoorSh
set_option linter.unusedVariables false
set_option linter.unusedSimpArgs false
namespace Go.Proofs.YthdnkcofcbinhaaGreatDoor
open Go.RowKit

/-- The library's table lies as it should, whatever is laid behind it. -/
def Tab (w : World) : Prop := ∀ W : World, Below w.heap.size w W → Lib.TabIs Tryz.prog W "internal/strconv.uint64pow10" .u64 Lib.pow10Tab
theorem Tab.up {w W : World} (h : Tab w) (hb : Below w.heap.size w W) : Tab W := fun W' hb' => h W' (up_trans hb hb')

theorem below_grow (w : World) (n : Nat) (os : Array Obj) : Below w.heap.size w (Go.Sort.grow (w.drewN n) os) := by
  refine ⟨rfl, rfl, rfl, by simp [Go.Sort.grow, World.drewN], fun k hk => ?_⟩
  show (w.heap ++ os)[k]? = _
  rw [Array.getElem?_append_left hk]

theorem FormatInt_any (n : Int) (w : World) (h0 : -9223372036854775808 ≤ n) (h1 : n ≤ 9223372036854775807) (hT : Tab w) : Calls Tryz.prog 49 #[.int .i64 n, .int .i64 10] w fun e w' => e = .returned (.string (intText n)) ∧ Below w.heap.size w w' := by
  have h := Any.strconv_FormatInt_10 Tryz.laysM173 n h0 h1 w (hT w (Below.refl _ _))
  change Calls Tryz.prog 49 _ _ _ at h
  refine h.mono ?_
  rintro e w' ⟨rfl, k, os, rfl⟩
  exact ⟨rfl, below_grow _ _ _⟩

theorem node_null (D : Nat) (v : Dat) (w : World) (cs : List Value) (hv : VA w v cs) (p0 : v.kind = 0) :
    Calls Tryz.prog 27 #[.agg cs.toArray, .bool false] w (GivesNode (D + 1) v w) := by
  obtain ⟨ka, ia, kc, ic, rfl, ht, hk, hkc, hkm, hic, him, hit⟩ := hv.inv
  have HP0 := Lib.hid p0
  clear hit hk hv
  rw [p0]
  clear p0
  go_enter Tryz.func27, Tryz.ntmps27
  go_wp2_with (first
    | (go_at_call 47; refine (scalar_any _ _ _).mono ?_; rintro e w1 ⟨rfl, hw1⟩; have W1 := Lib.hid hw1; clear hw1))
  go_ret
  rw [W1.out]
  exact ⟨_, rfl, ⟨⟨by simp, by simp⟩, .inl ⟨tNull, bNull, .inr (.inr (.inr (.inr ⟨HP0.out, rfl, rfl⟩))), by simpa [nodeBlk, tNull, bNull] using blk_new (w.alloc _) (nodeBlk 8 tNull bNull (.slice none 0 0))⟩⟩, up_alloc (up_alloc (Below.refl _ _) _) _⟩

theorem node_bool (D : Nat) (v : Dat) (w : World) (cs : List Value) (hv : VA w v cs) (p0 : v.kind = 1) :
    Calls Tryz.prog 27 #[.agg cs.toArray, .bool false] w (GivesNode (D + 1) v w) := by
  obtain ⟨ka, ia, kc, ic, rfl, ht, hk, hkc, hkm, hic, him, hit⟩ := hv.inv
  have HP0 := Lib.hid p0
  clear hit hk hv
  rw [p0]
  clear p0
  cases hb : (v.num == 1)
  all_goals
    have HB := Lib.hid hb
    go_enter Tryz.func27, Tryz.ntmps27
    go_wp2_with (first
      | (go_at_call 48; refine (FormatBool_any _ _).mono ?_; rintro e w1 ⟨rfl, rfl⟩)
      | (go_at_call 47; refine (scalar_any _ _ _).mono ?_; rintro e w1 ⟨rfl, hw1⟩; have W1 := Lib.hid hw1; clear hw1))
    go_ret
    rw [W1.out]
    exact ⟨_, rfl, ⟨⟨by simp, by simp⟩, .inl ⟨tBool, _, .inl ⟨HP0.out, rfl, by rw [HB.out]⟩, by simpa [nodeBlk, tBool] using blk_new (w.alloc _) (nodeBlk 8 tBool _ (.slice none 0 0))⟩⟩, up_alloc (up_alloc (Below.refl _ _) _) _⟩

theorem node_text (D : Nat) (v : Dat) (w : World) (cs : List Value) (hv : VA w v cs) (p0 : v.kind = 3) :
    Calls Tryz.prog 27 #[.agg cs.toArray, .bool false] w (GivesNode (D + 1) v w) := by
  obtain ⟨ka, ia, kc, ic, rfl, ht, hk, hkc, hkm, hic, him, hit⟩ := hv.inv
  have HP0 := Lib.hid p0
  clear hit hk hv
  rw [p0]
  clear p0
  go_enter Tryz.func27, Tryz.ntmps27
  go_wp2_with (first
    | (go_at_call 47; refine (scalar_any _ _ _).mono ?_; rintro e w1 ⟨rfl, hw1⟩; have W1 := Lib.hid hw1; clear hw1))
  go_ret
  rw [W1.out]
  exact ⟨_, rfl, ⟨⟨by simp, by simp⟩, .inl ⟨tStr, _, .inr (.inl ⟨HP0.out, rfl, rfl⟩), by simpa [nodeBlk, tStr] using blk_new (w.alloc _) (nodeBlk 8 tStr _ (.slice none 0 0))⟩⟩, up_alloc (up_alloc (Below.refl _ _) _) _⟩

theorem node_int (D : Nat) (v : Dat) (w : World) (cs : List Value) (hv : VA w v cs) (hT : Tab w) (p0 : v.kind = 2) (p1 : -1000000000 < v.num) (p2 : v.num < 1000000000) :
    Calls Tryz.prog 27 #[.agg cs.toArray, .bool false] w (GivesNode (D + 1) v w) := by
  obtain ⟨ka, ia, kc, ic, rfl, ht, hk, hkc, hkm, hic, him, hit⟩ := hv.inv
  have HP0 := Lib.hid p0
  have HF := Lib.hid (fun W (hb : Below w.heap.size w W) => FormatInt_any v.num W (by omega) (by omega) (hT.up hb))
  clear hit hk hv
  rw [p0]
  clear p0 hT
  go_enter Tryz.func27, Tryz.ntmps27
  go_wp2_with fail
  go_at_call 49
  refine (HF.out _ (up_alloc (Below.refl _ _) _)).mono ?_
  rintro e w1 ⟨rfl, hb1⟩
  have HB1 := Lib.hid (up_trans (up_alloc (Below.refl w.heap.size w) _) hb1)
  clear hb1
  go_wp2_with fail
  go_at_call 47
  refine (scalar_any _ _ _).mono ?_
  rintro e w2 ⟨rfl, hw2⟩
  have W2 := Lib.hid hw2
  clear hw2
  go_wp2
  go_ret
  rw [W2.out]
  exact ⟨_, rfl, ⟨⟨HB1.out.size, by simp⟩, .inl ⟨tInt, _, .inr (.inr (.inl ⟨HP0.out, rfl, rfl⟩)), by simpa [nodeBlk, tInt] using blk_new w1 (nodeBlk 8 tInt (intText v.num) (.slice none 0 0))⟩⟩, up_alloc HB1.out _⟩

theorem below_bytes (w : World) (t : TypeId) (s : ByteArray) : Below w.heap.size w (Lib.bytesWorld w t s) := by
  unfold Lib.bytesWorld
  have h : Below w.heap.size w (w.drew.alloc (.cells (Lib.bytesCells w t s) t)) := (Below.drew (Below.refl _ _)).alloc (Nat.le_refl _) _
  refine ⟨h.os, h.tape, h.output, ?_, fun k hk => ?_⟩
  · have := h.size
    simp [World.freeze]
  · refine Eq.trans ?_ (h.block k hk)
    show ((w.drew.alloc (.cells (Lib.bytesCells w t s) t)).heap.modify w.heap.size _)[k]? = _
    rw [Array.getElem?_modify, if_neg (by omega)]
theorem ParseInt_any (n : Int) (w : World) (h0 : -1000000000 < n) (h1 : n < 1000000000) : Calls Tryz.prog 53 #[.string (intText n), .int .i64 10, .int .i64 64] w fun e w' => e = .returned (.tuple #[.int .i64 n, .nilIface]) ∧ Below w.heap.size w w' := by
  have hl := itoa_short n h0 h1
  have e : (intText n).data.toList = Lib.itoa n := by simp [intText]
  have h := Any.strconv_ParseInt_10_at64_ok Tryz.laysC174 (intText n) (by show (intText n).data.toList.length ≤ _; rw [e]; omega) n (by rw [e]; exact parse_itoa n hl) w
  change Calls Tryz.prog 53 _ _ _ at h
  refine h.mono ?_
  rintro e w' ⟨rfl, rfl | ⟨t, rfl⟩⟩
  · exact ⟨rfl, Below.refl _ _⟩
  · exact ⟨rfl, below_bytes _ _ _⟩
theorem ParseBool_any (b : Bool) (w : World) : Calls Tryz.prog 54 #[.string (if b then bTrue else bFalse)] w fun e w' => e = .returned (.tuple #[.bool b, .nilIface]) ∧ w = w' := by
  have h := Any.strconv_ParseBool Tryz.lays175 (if b then bTrue else bFalse) b (by cases b <;> decide) w
  change Calls Tryz.prog 54 _ _ _ at h
  refine h.mono ?_
  rintro e w' ⟨rfl, rfl⟩
  exact ⟨rfl, rfl⟩
end Go.Proofs.YthdnkcofcbinhaaGreatDoor
