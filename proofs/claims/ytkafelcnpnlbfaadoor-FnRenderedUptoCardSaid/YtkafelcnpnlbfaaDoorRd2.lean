/- The reader: peek, take, need. -/
import Derived.Test.YtkafelcnpnlbfaaDoorRd1
import Derived.Test.YtkafelcnpnlbfaaDoorRg
import Derived.Deep.Cut
namespace Go.Proofs.YtkafelcnpnlbfaaDoor
open Go.RowKit

/-- What a method that gives a value back leaves. -/
def Gives (u : Value) (g : Nat) (s : ByteArray) (l : List UInt8) (w : World) (e : Ending) (w' : World) : Prop := e = .returned u ∧ Rem w' g s l ∧ w.grownBy w' (some g)

/-- Where the reader stands, in the walk's words. -/
theorem Rem.walk {w : World} {g : Nat} {s : ByteArray} {ch : UInt8} {l : List UInt8} (h : Rem w g s (ch :: l)) : ∃ (p : Nat) (c : Int), c = (ch.toNat : Int) ∧ w.cell? ⟨g, 0, none⟩ = some (.string s) ∧ w.cell? ⟨g, 1, none⟩ = some (.int .i64 p) ∧ w.cell? ⟨g, 2, none⟩ = some (.bool false) ∧
    w.frozen? ⟨g, 1, none⟩ = false ∧ w.frozen? ⟨g, 2, none⟩ = false ∧ p < s.size ∧ (p : Int) < (s.size : Int) ∧ ((p : Int) == (s.size : Int)) = false ∧ s.size ≤ 9223372036854775807 ∧ (∀ hp : p < s.size, ((s[p]'hp).toNat : Int) = c) ∧
    (∀ W, At W g s (p + 1) → Rem W g s l) ∧ At w g s p ∧ p + (l.length + 1) = s.size := by
  obtain ⟨p, hp, hat, hs, hc, h1, h2⟩ := Rem.head h
  exact ⟨p, _, rfl, (blk_cell hat 0).trans rfl, (blk_cell hat 1).trans rfl, (blk_cell hat 2).trans rfl, blk_frozen hat 1, blk_frozen hat 2, hp, by omega, by simp; omega, hs, hc, fun W hW => Rem.tail hW hs h1 h2, hat, h1⟩

theorem peek_any (g : Nat) (s : ByteArray) (sp l : List UInt8) (ch : UInt8) (w : World) (hsp : Blank sp) (hl : isBl ch = false) (h : Rem w g s (sp ++ ch :: l)) :
    Calls Tryd.prog 19 #[.pointer (some ⟨g, 0, none⟩)] w (Gives (.int .u8 ch.toNat) g s (ch :: l) w) := by
  have HB := Lib.hid (blanks_any g s sp (ch :: l) w hsp (fun c hc => by simp at hc; rw [← hc]; exact hl) h)
  clear hsp hl h
  go_enter Tryd.func19, Tryd.ntmps19
  go_wp2_with fail
  go_at_call 13
  refine HB.out.mono ?_
  rintro e w1 ⟨rfl, hr, hg⟩
  have HR := Lib.hid hr
  have HG := Lib.hid hg
  obtain ⟨p, c, hcc, c0, c1, c2, f1, f2, hp, pi, pe, hs, hc, hnext, hat, -⟩ := hr.walk
  have HC := Lib.hid hcc
  clear hr hg hcc hnext hat
  go_wp2
  go_quiet (fail)
  go_wp2
  go_quiet (fail)
  go_wp2
  go_ret
  exact ⟨by rw [← HC.out]; rfl, HR.out.up (up_drewN (up_drewN (Below.refl _ _) _) _), grown_trans HG.out (grown_below _ (up_drewN (up_drewN (Below.refl _ _) _) _))⟩

theorem take_yes (g : Nat) (s : ByteArray) (sp l : List UInt8) (ch : UInt8) (d : Int) (w : World) (hd : d = (ch.toNat : Int)) (hsp : Blank sp) (hl : isBl ch = false) (h : Rem w g s (sp ++ ch :: l)) :
    Calls Tryd.prog 22 #[.pointer (some ⟨g, 0, none⟩), .int .u8 d] w (Gives (.bool true) g s l w) := by
  have hdd : ((ch.toNat : Int) != d) = false := by rw [hd]; simp
  have HP := Lib.hid (fun (W : World) (hb : Below w.heap.size w W) => peek_any g s sp l ch W hsp hl (h.up hb))
  obtain ⟨p0, hp0⟩ : ∃ p0, p0 + (l.length + 1) = s.size := by
    obtain ⟨p, h1, _⟩ := h
    exact ⟨p + sp.length, by simp at h1; omega⟩
  have HD := Lib.hid hd
  clear hsp hl h hd
  go_enter Tryd.func22, Tryd.ntmps22
  go_upto_region 1 with fail
  refine AnyT.begin (L := 100) (n := 16) (S := fun w' => w'.cell? ⟨g, 0, none⟩ = some (.string s) ∧ w'.cell? ⟨g, 1, none⟩ = some (.int .i64 p0)) (by kernel_rfl) rfl ?_
  refine AnyT.takeY (i := 0) (d := some 5) (v := ?_) rfl rfl (by kernel_rfl) (by kernel_rfl) (by kernel_rfl) (fun _ _ _ h => h) (by rfl) ?_ ?_
  rotate_left
  · intro W
    go_simp
    with_reducible rfl
  try simp only [Act.put, List.setIfInBounds_toArray, List.set_cons_zero, List.set_cons_succ]
  refine AnyT.takeY (i := 2) (d := some 7) (v := ?_) rfl rfl (by kernel_rfl) (by kernel_rfl) (by kernel_rfl) (fun _ _ _ h => h) (by rfl) ?_ ?_
  rotate_left
  · intro W
    go_simp
    with_reducible rfl
  try simp only [Act.put, List.setIfInBounds_toArray, List.set_cons_zero, List.set_cons_succ]
  refine AnyT.one (i := 1) rfl (by kernel_rfl) (fun K' hK => ?_)
  go_simp
  go_at_call 19
  refine (HP.out _ (up_drew (Below.refl _ _))).mono ?_
  rintro e w1 ⟨rfl, hr, hg⟩
  have HR := Lib.hid hr
  have HG := Lib.hid (grown_trans (grown_below (some g) (up_drew (Below.refl w.heap.size w))) hg)
  obtain ⟨p, c, hcc, c0, c1, c2, f1, f2, hp, pi, pe, hs, hc, hnext, hat, hpl⟩ := hr.walk
  obtain rfl : p = p0 := by omega
  have HNEXT := Lib.hid hnext
  have HAT := Lib.hid hat
  clear hr hg hcc hnext hat
  go_wp2_with fail
  have S1 := And.intro c0 c1
  refine hK.out _ _ (fun _ _ => S1) ?_
  clear hK K'
  try simp only [Act.put, List.setIfInBounds_toArray, List.set_cons_zero, List.set_cons_succ]
  refine AnyT.takeY (i := 3) (d := some 8) (v := ?_) rfl rfl (by kernel_rfl) (by kernel_rfl) (by kernel_rfl) (fun _ _ _ h => h) (by rfl) ?_ ?_
  rotate_left
  · intro W
    go_simp
    with_reducible rfl
  try simp only [Act.put, List.setIfInBounds_toArray, List.set_cons_zero, List.set_cons_succ]
  refine AnyT.takeY (i := 4) (d := some 9) (v := ?_) rfl rfl (by kernel_rfl) (by kernel_rfl) (by kernel_rfl) (fun _ _ _ h => h) (by rfl) ?_ ?_
  rotate_left
  · intro W
    go_simp
    with_reducible rfl
  try simp only [Act.put, List.setIfInBounds_toArray, List.set_cons_zero, List.set_cons_succ]
  refine AnyT.takeY (i := 5) (d := some 10) (v := ?_) rfl rfl (by kernel_rfl) (by kernel_rfl) (by kernel_rfl) (fun _ _ _ h => h) (by rfl) ?_ ?_
  rotate_left
  · intro W
    go_simp
    with_reducible rfl
  try simp only [Act.put, List.setIfInBounds_toArray, List.set_cons_zero, List.set_cons_succ]
  refine AnyT.takeY (i := 6) (d := some 11) (v := ?_) rfl rfl (by kernel_rfl) (by kernel_rfl) (by kernel_rfl) (fun _ _ _ h => h) (by rfl) ?_ ?_
  rotate_left
  · intro W
    go_simp
    with_reducible rfl
  try simp only [Act.put, List.setIfInBounds_toArray, List.set_cons_zero, List.set_cons_succ]
  refine AnyT.takeY (i := 7) (d := some 12) (v := ?_) rfl rfl (by kernel_rfl) (by kernel_rfl) (by kernel_rfl) (fun _ _ _ h => h) (by rfl) ?_ ?_
  rotate_left
  · intro W
    go_simp
    with_reducible rfl
  try simp only [Act.put, List.setIfInBounds_toArray, List.set_cons_zero, List.set_cons_succ]
  refine AnyT.takeS (i := 8) (d := some 13) (v := ?_) rfl rfl (by kernel_rfl) (by kernel_rfl) (by kernel_rfl) (by kernel_rfl) (fun _ _ _ h => h) (by rfl) (by assumption) ?_ ?_
  rotate_left
  · intro W hSw
    try dsimp only at hSw
    go_simp
    with_reducible rfl
  try simp only [Act.put, List.setIfInBounds_toArray, List.set_cons_zero, List.set_cons_succ]
  refine AnyT.takeY (i := 9) (d := some 14) (v := ?_) rfl rfl (by kernel_rfl) (by kernel_rfl) (by kernel_rfl) (fun _ _ _ h => h) (by rfl) ?_ ?_
  rotate_left
  · intro W
    go_simp
    with_reducible rfl
  try simp only [Act.put, List.setIfInBounds_toArray, List.set_cons_zero, List.set_cons_succ]
  refine AnyT.takeY (i := 10) (d := some 15) (v := ?_) rfl rfl (by kernel_rfl) (by kernel_rfl) (by kernel_rfl) (fun _ _ _ h => h) (by rfl) ?_ ?_
  rotate_left
  · intro W
    go_simp
    with_reducible rfl
  try simp only [Act.put, List.setIfInBounds_toArray, List.set_cons_zero, List.set_cons_succ]
  refine AnyT.takeY (i := 11) (d := some 16) (v := ?_) rfl rfl (by kernel_rfl) (by kernel_rfl) (by kernel_rfl) (fun _ _ _ h => h) (by rfl) ?_ ?_
  rotate_left
  · intro W
    go_simp
    with_reducible rfl
  try simp only [Act.put, List.setIfInBounds_toArray, List.set_cons_zero, List.set_cons_succ]
  refine AnyT.takeS (i := 12) (d := some 17) (v := ?_) rfl rfl (by kernel_rfl) (by kernel_rfl) (by kernel_rfl) (by kernel_rfl) (fun _ _ _ h => h) (by rfl) (by assumption) ?_ ?_
  rotate_left
  · intro W hSw
    try dsimp only at hSw
    go_simp
    with_reducible rfl
  try simp only [Act.put, List.setIfInBounds_toArray, List.set_cons_zero, List.set_cons_succ]
  refine AnyT.takeY (i := 13) (d := some 18) (v := ?_) rfl rfl (by kernel_rfl) (by kernel_rfl) (by kernel_rfl) (fun _ _ _ h => h) (by rfl) ?_ ?_
  rotate_left
  · intro W
    go_simp
    with_reducible rfl
  try simp only [Act.put, List.setIfInBounds_toArray, List.set_cons_zero, List.set_cons_succ]
  refine AnyT.takeY (i := 14) (d := some 19) (v := ?_) rfl rfl (by kernel_rfl) (by kernel_rfl) (by kernel_rfl) (fun _ _ _ h => h) (by rfl) ?_ ?_
  rotate_left
  · intro W
    go_simp
    with_reducible rfl
  try simp only [Act.put, List.setIfInBounds_toArray, List.set_cons_zero, List.set_cons_succ]
  refine AnyT.takeY (i := 15) (d := some 20) (v := ?_) rfl rfl (by kernel_rfl) (by kernel_rfl) (by kernel_rfl) (fun _ _ _ h => h) (by rfl) ?_ ?_
  rotate_left
  · intro W
    go_simp
    with_reducible rfl
  try simp only [Act.put, List.setIfInBounds_toArray, List.set_cons_zero, List.set_cons_succ]
  refine AnyT.end (by kernel_rfl) ?_ _
  try simp only [Act.put, List.setIfInBounds_toArray, List.set_cons_zero, List.set_cons_succ]
  clear S1
  go_wp2
  go_ret
  exact ⟨rfl, HNEXT.out _ (HAT.out.moved _), grown_trans HG.out (grown_set _ _ _)⟩

theorem take_no (g : Nat) (s : ByteArray) (sp l : List UInt8) (ch : UInt8) (d : Int) (w : World) (hd : d ≠ (ch.toNat : Int)) (hsp : Blank sp) (hl : isBl ch = false) (h : Rem w g s (sp ++ ch :: l)) :
    Calls Tryd.prog 22 #[.pointer (some ⟨g, 0, none⟩), .int .u8 d] w (Gives (.bool false) g s (ch :: l) w) := by
  have hdd : ((ch.toNat : Int) != d) = true := by simp; exact fun e => hd e.symm
  have HP := Lib.hid (fun (W : World) (hb : Below w.heap.size w W) => peek_any g s sp l ch W hsp hl (h.up hb))
  obtain ⟨p0, hp0⟩ : ∃ p0, p0 + (l.length + 1) = s.size := by
    obtain ⟨p, h1, _⟩ := h
    exact ⟨p + sp.length, by simp at h1; omega⟩
  have HD := Lib.hid hd
  clear hsp hl h hd
  go_enter Tryd.func22, Tryd.ntmps22
  go_upto_region 1 with fail
  refine AnyT.begin (L := 100) (n := 16) (S := fun w' => w'.cell? ⟨g, 0, none⟩ = some (.string s) ∧ w'.cell? ⟨g, 1, none⟩ = some (.int .i64 p0)) (by kernel_rfl) rfl ?_
  refine AnyT.takeY (i := 0) (d := some 5) (v := ?_) rfl rfl (by kernel_rfl) (by kernel_rfl) (by kernel_rfl) (fun _ _ _ h => h) (by rfl) ?_ ?_
  rotate_left
  · intro W
    go_simp
    with_reducible rfl
  try simp only [Act.put, List.setIfInBounds_toArray, List.set_cons_zero, List.set_cons_succ]
  refine AnyT.takeY (i := 2) (d := some 7) (v := ?_) rfl rfl (by kernel_rfl) (by kernel_rfl) (by kernel_rfl) (fun _ _ _ h => h) (by rfl) ?_ ?_
  rotate_left
  · intro W
    go_simp
    with_reducible rfl
  try simp only [Act.put, List.setIfInBounds_toArray, List.set_cons_zero, List.set_cons_succ]
  refine AnyT.one (i := 1) rfl (by kernel_rfl) (fun K' hK => ?_)
  go_simp
  go_at_call 19
  refine (HP.out _ (up_drew (Below.refl _ _))).mono ?_
  rintro e w1 ⟨rfl, hr, hg⟩
  have HR := Lib.hid hr
  have HG := Lib.hid (grown_trans (grown_below (some g) (up_drew (Below.refl w.heap.size w))) hg)
  obtain ⟨p, c, hcc, c0, c1, c2, f1, f2, hp, pi, pe, hs, hc, hnext, hat, hpl⟩ := hr.walk
  obtain rfl : p = p0 := by omega
  have HNEXT := Lib.hid hnext
  have HAT := Lib.hid hat
  clear hr hg hcc hnext hat
  go_wp2_with fail
  have S1 := And.intro c0 c1
  refine hK.out _ _ (fun _ _ => S1) ?_
  clear hK K'
  try simp only [Act.put, List.setIfInBounds_toArray, List.set_cons_zero, List.set_cons_succ]
  refine AnyT.takeY (i := 3) (d := some 8) (v := ?_) rfl rfl (by kernel_rfl) (by kernel_rfl) (by kernel_rfl) (fun _ _ _ h => h) (by rfl) ?_ ?_
  rotate_left
  · intro W
    go_simp
    with_reducible rfl
  try simp only [Act.put, List.setIfInBounds_toArray, List.set_cons_zero, List.set_cons_succ]
  refine AnyT.takeY (i := 4) (d := some 9) (v := ?_) rfl rfl (by kernel_rfl) (by kernel_rfl) (by kernel_rfl) (fun _ _ _ h => h) (by rfl) ?_ ?_
  rotate_left
  · intro W
    go_simp
    with_reducible rfl
  try simp only [Act.put, List.setIfInBounds_toArray, List.set_cons_zero, List.set_cons_succ]
  refine AnyT.takeU (i := 5) (d := some 10) rfl rfl (by kernel_rfl) (by kernel_rfl) (by kernel_rfl) (fun _ _ _ h => h) (by rfl) ?_
  try simp only [Act.put, List.setIfInBounds_toArray, List.set_cons_zero, List.set_cons_succ]
  refine AnyT.takeU (i := 6) (d := some 11) rfl rfl (by kernel_rfl) (by kernel_rfl) (by kernel_rfl) (fun _ _ _ h => h) (by rfl) ?_
  try simp only [Act.put, List.setIfInBounds_toArray, List.set_cons_zero, List.set_cons_succ]
  refine AnyT.takeU (i := 7) (d := some 12) rfl rfl (by kernel_rfl) (by kernel_rfl) (by kernel_rfl) (fun _ _ _ h => h) (by rfl) ?_
  try simp only [Act.put, List.setIfInBounds_toArray, List.set_cons_zero, List.set_cons_succ]
  refine AnyT.takeU (i := 8) (d := some 13) rfl rfl (by kernel_rfl) (by kernel_rfl) (by kernel_rfl) (fun _ _ _ h => h) (by rfl) ?_
  try simp only [Act.put, List.setIfInBounds_toArray, List.set_cons_zero, List.set_cons_succ]
  refine AnyT.takeU (i := 9) (d := some 14) rfl rfl (by kernel_rfl) (by kernel_rfl) (by kernel_rfl) (fun _ _ _ h => h) (by rfl) ?_
  try simp only [Act.put, List.setIfInBounds_toArray, List.set_cons_zero, List.set_cons_succ]
  refine AnyT.takeU (i := 10) (d := some 15) rfl rfl (by kernel_rfl) (by kernel_rfl) (by kernel_rfl) (fun _ _ _ h => h) (by rfl) ?_
  try simp only [Act.put, List.setIfInBounds_toArray, List.set_cons_zero, List.set_cons_succ]
  refine AnyT.takeU (i := 11) (d := some 16) rfl rfl (by kernel_rfl) (by kernel_rfl) (by kernel_rfl) (fun _ _ _ h => h) (by rfl) ?_
  try simp only [Act.put, List.setIfInBounds_toArray, List.set_cons_zero, List.set_cons_succ]
  refine AnyT.takeU (i := 12) (d := some 17) rfl rfl (by kernel_rfl) (by kernel_rfl) (by kernel_rfl) (fun _ _ _ h => h) (by rfl) ?_
  try simp only [Act.put, List.setIfInBounds_toArray, List.set_cons_zero, List.set_cons_succ]
  refine AnyT.takeU (i := 13) (d := some 18) rfl rfl (by kernel_rfl) (by kernel_rfl) (by kernel_rfl) (fun _ _ _ h => h) (by rfl) ?_
  try simp only [Act.put, List.setIfInBounds_toArray, List.set_cons_zero, List.set_cons_succ]
  refine AnyT.takeU (i := 14) (d := some 19) rfl rfl (by kernel_rfl) (by kernel_rfl) (by kernel_rfl) (fun _ _ _ h => h) (by rfl) ?_
  try simp only [Act.put, List.setIfInBounds_toArray, List.set_cons_zero, List.set_cons_succ]
  refine AnyT.takeY (i := 15) (d := some 20) (v := ?_) rfl rfl (by kernel_rfl) (by kernel_rfl) (by kernel_rfl) (fun _ _ _ h => h) (by rfl) ?_ ?_
  rotate_left
  · intro W
    go_simp
    with_reducible rfl
  try simp only [Act.put, List.setIfInBounds_toArray, List.set_cons_zero, List.set_cons_succ]
  refine AnyT.end (by kernel_rfl) ?_ _
  try simp only [Act.put, List.setIfInBounds_toArray, List.set_cons_zero, List.set_cons_succ]
  clear S1
  go_wp2
  go_ret
  exact ⟨rfl, HR.out, HG.out⟩

theorem At.wrote {w : World} {g : Nat} {s : ByteArray} {p : Nat} (h : At w g s p) : At (w.setCell ⟨g, 2, none⟩ (.bool false)) g s p := by
  unfold At at *
  simp only [World.setCell, Array.getElem?_modify, if_true, h]
  rfl
theorem Rem.wrote {w : World} {g : Nat} {s : ByteArray} {l : List UInt8} (h : Rem w g s l) : Rem (w.setCell ⟨g, 2, none⟩ (.bool false)) g s l := by
  obtain ⟨p, h1, h2, h3, h4⟩ := h
  exact ⟨p, h1, h2, h3.wrote, h4⟩
theorem Rem.bad {w : World} {g : Nat} {s : ByteArray} {l : List UInt8} (h : Rem w g s l) : w.cell? ⟨g, 2, none⟩ = some (.bool false) ∧ w.frozen? ⟨g, 2, none⟩ = false := by
  obtain ⟨p, _, _, h3, _⟩ := h
  exact ⟨(blk_cell h3 2).trans rfl, blk_frozen h3 2⟩

theorem need_any (g : Nat) (s : ByteArray) (sp l : List UInt8) (ch : UInt8) (d : Int) (w : World) (hd : d = (ch.toNat : Int)) (hsp : Blank sp) (hl : isBl ch = false) (h : Rem w g s (sp ++ ch :: l)) :
    Calls Tryd.prog 21 #[.pointer (some ⟨g, 0, none⟩), .int .u8 d] w (Moves g s l w) := by
  have HP := Lib.hid (take_yes g s sp l ch d w hd hsp hl h)
  clear hsp hl h hd
  go_enter Tryd.func21, Tryd.ntmps21
  go_wp2_with fail
  go_at_call 22
  refine HP.out.mono ?_
  rintro e w1 ⟨rfl, hr, hg⟩
  obtain ⟨c2, f2⟩ := hr.bad
  have HR := Lib.hid hr
  have HG := Lib.hid hg
  clear hr hg
  go_wp2
  refine bodyPost_end (results_none rfl _ _ _) rfl ?_
  exact ⟨rfl, HR.out.wrote, grown_trans HG.out (grown_set _ _ _)⟩
end Go.Proofs.YtkafelcnpnlbfaaDoor
