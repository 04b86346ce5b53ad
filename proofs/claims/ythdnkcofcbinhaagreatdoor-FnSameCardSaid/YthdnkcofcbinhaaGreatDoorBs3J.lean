/- The readers of fields: schemas, lists and maps of them, the rest. -/
import Derived.Test.YthdnkcofcbinhaaGreatDoorBs2J
set_option linter.unusedVariables false
set_option linter.unusedSimpArgs false
namespace Go.Proofs.YthdnkcofcbinhaaGreatDoor
open Go.RowKit



theorem SN_up {B m lo hi hi2 : Nat} (h : hi ≤ hi2) {k : Nat} (hk : SN B m lo hi k) : SN B m lo hi2 k := hk.imp id (fun h' => ⟨h'.1, by omega⟩)
theorem SN_low {B m lo lo2 hi : Nat} (h : lo2 ≤ lo) {k : Nat} (hk : SN B m lo hi k) : SN B m lo2 hi k := hk.imp id (fun h' => ⟨by omega, h'.2⟩)
theorem SN_lt {B m lo hi : Nat} (h : B ≤ hi) {k : Nat} (hk : SN B m lo hi k) : k < hi := by rcases hk with h' | h' <;> omega

set_option maxRecDepth 100000 in
set_option maxHeartbeats 4000000 in
theorem schemaOrSchemaArray_list (B m q n D : Nat) (x : Dat) (w : World) (hB : B ≤ w.heap.size) (hmB : m < B) (hk : x.kind = 4) (h60 : x.items.length ≤ 60) (ih : ∀ E, E < D → ReadsSchema B m E) (hp : Plain D x) (hsh : ∀ i (h : i < x.items.length), x.items[i].kind = 5 ∧ IsShp x.items[i])
    (hN : NodeOf (SB B m) w (D + 1) x n) (hm : MapOk Tryz.prog 9 w m) (hqm : q ≠ m) (hq : w.cell? ⟨q, 0, none⟩ = some (.map (some m))) :
    Calls Tryz.prog 40 #[.pointer (some ⟨q, 0, none⟩), .pointer (some ⟨n, 0, none⟩)] w (GivesField B m (D + 1) 7 x w) := by
  obtain ⟨hs, ⟨tag, val, h1, _⟩ | ⟨_, A, c, hh, hit⟩ | ⟨h1, _⟩⟩ := hN
  · exfalso
    rcases h1 with h | h | h | h | h <;> · have := h.1; omega
  rotate_left
  · omega
  have n0 : w.cell? ⟨n, 0, none⟩ = some (.int .u32 2) := (blk_cell hh 0).trans rfl
  have n0' : ∀ o, (w.alloc o).cell? ⟨n, 0, none⟩ = some (.int .u32 2) := fun o => cell_up (up_alloc (Below.refl _ _) o) _ _ n0
  have n6 : ∀ o1 o2, ((w.alloc o1).alloc o2).cell? ⟨n, 6, none⟩ = some (.slice A x.items.length c) := fun o1 o2 => cell_up (up_alloc (up_alloc (Below.refl _ _) o1) o2) _ _ ((blk_cell hh 6).trans rfl)
  have HIT := Lib.hid hit
  have HS := Lib.hid hs
  have HP := Lib.hid hp
  have HIH := Lib.hid ih
  have HSH := Lib.hid hsh
  have HM := Lib.hid hm
  have HQ := Lib.hid hq
  have HQM := Lib.hid hqm
  have HK := Lib.hid hk
  obtain ⟨i0, hi0, hz0, hzz1, hzz2⟩ := info_parts info_ps
  have hmk := make_ps
  clear hit hs hh hp ih hsh hm hq hqm
  go_enter Tryz.func40, Tryz.ntmps40
  go_wp2
  clear n0 n0' n6 hmk
  go_loopg [22] x.items.length (fun gk v22 wr => ∃ (i : Nat) (cv : Value) (css : List (List Value)), v22 = .int .i64 i ∧ i + gk = x.items.length ∧ Hid (PBox w B m 101 35 1 (fun S w j us => SchemaAt (Sch S w (D + 1)) x j us) i cv css wr))
  case atStart => exact ⟨0, _, [], rfl, by omega, Lib.hid (PBox.start HM.out)⟩
  case round =>
    obtain ⟨i, cv, css, rfl, hi, HI⟩ := hrel
    by_cases hlt : i < x.items.length
    · obtain ⟨g, k, hA, hSg, hcell, hkid⟩ := HIT.out i hlt
      subst hA
      have hcell' := grown_cell HI.out.grown hSg.2 hcell
      have hkid' := hkid.grown HI.out.grown hB
      have hk0 := (hkid'.kind4 (HSH.out i hlt).1).2
      have hq0 := grown_cell HI.out.grown HQM.out HQ.out
      have hz := HI.out.size
      have HX := Lib.hid (kid_reads HIH.out HP.out hlt (HSH.out i hlt).2 (by omega) HI.out.map hkid' (HP.out.item hlt))
      have i1 : (i : Int) < (x.items.length : Int) := by omega
      have i0' : (0 : Int) ≤ (i : Int) := by omega
      clear hSg hcell hkid hkid'
      go_wp2_with fail
      go_at_call 26
      refine HX.out.mono ?_
      rintro e w4 ⟨b4, rfl, hs4, hg4, hm4⟩
      have I4 := Lib.hid (HI.out.keep (mov_schema _ _) hB hmB hg4 hm4)
      have HS4 := Lib.hid hs4
      have HG4 := Lib.hid hg4
      have HM4 := Lib.hid hm4
      have bx : w4.cell? ⟨w.heap.size + 1, 0, none⟩ = some cv := (blk_cell I4.out.box 0).trans rfl
      have hz4 := I4.out.size
      clear hs4 hg4 hm4 hcell' hk0 hq0
      go_wp2_with (first
        | (at_builtin
           refine wpList_append_lies _ rfl (.tmp 38) (.tmp 40) 101 rfl w.heap.size 35 i0 _ 1 8 Tryz.underlying101 hi0 hz0 hzz1 hzz2 rfl (by omega) _ i css.flatten rfl ((I4.out.row.own).alloc _)
             ⟨w4.heap.size, 0, none⟩ 1 1 [.pointer (some ⟨b4, 0, none⟩)] rfl rfl (World.news_of_block (cs := #[.pointer (some ⟨b4, 0, none⟩)]) (t := 35) (fr := (0, 0)) (heap_alloc_new w4 _)) (by simp [Value.oneCell']) (by omega) (by unfold maxLen; omega) (by omega) (by simp; omega) (w4.heap.size + 1) (by simp) ?_))
      intro gg cap w5 hown5 hgrow5 hat5 hlt5
      have I6 := Lib.hid (HI.out.next (mov_schema _ _) hB hmB HG4.out HM4.out ⟨hlt, b4, rfl, HS4.out⟩ rfl hown5 hgrow5 hat5)
      have N5 := Lib.hid ((hgrow5.block (w.heap.size + 1) (by simp; omega) (fun e => I4.out.row.nbx e.symm)).trans (blk_up I4.out.box (up_alloc (Below.refl _ _) _)))
      have b5 : w5.cell? ⟨w.heap.size + 1, 0, none⟩ = some cv := (blk_cell N5.out 0).trans rfl
      have b5' : w5.frozen? ⟨w.heap.size + 1, 0, none⟩ = false := blk_frozen N5.out 0
      clear hown5 hgrow5 hat5 hlt5 bx
      go_wp2
      go_roundg (x.items.length - (i + 1))
      case measure => omega
      case rel => exact ⟨i + 1, _, _, by go_num, by omega, I6⟩
    · have hall : i = x.items.length := by omega
      subst hall
      go_wp2
      go_ret
      have hz := HI.out.size
      have hb := up_alloc (Below.refl wr.heap.size wr) (.cells #[.pointer none, .pointer (some ⟨w.heap.size + 1, 0, none⟩)] 103)
      have hW := (HI.out.whole (mov_schema _ _) (by omega)).move (T := SN B m w.heap.size (wr.heap.size + 1)) (w1 := wr.alloc (.cells #[.pointer none, .pointer (some ⟨w.heap.size + 1, 0, none⟩)] 103)) (fun k hk => hb.block k (SN_lt (by omega) hk)) (fun k hk => SN_up (by omega) hk)
        (P' := SchemaAt (Sch (SN B m w.heap.size (wr.heap.size + 1)) (wr.alloc (.cells #[.pointer none, .pointer (some ⟨w.heap.size + 1, 0, none⟩)] 103)) (D + 1)) x)
        (fun j us h => h.move (fun y k hk => Sch.move (fun k hk => hb.block k (SN_lt (by omega) hk)) (fun k hk => SN_up (by omega) hk) _ _ _ hk))
      have ez : (wr.alloc (.cells #[.pointer none, .pointer (some ⟨w.heap.size + 1, 0, none⟩)] 103)).heap.size = wr.heap.size + 1 := by simp
      refine ⟨_, rfl, ?_, grown_trans HI.out.grown (grown_below _ hb), HI.out.map.up hb⟩
      rw [ez]
      exact ⟨wr.heap.size, rfl, .inr ⟨by omega, by omega⟩, .inl ⟨HK.out, _, blk_new wr _, hW⟩⟩

set_option maxRecDepth 100000 in
set_option maxHeartbeats 4000000 in
theorem schemaOrSchemaArray_schema (B m q n D : Nat) (x : Dat) (w : World) (hB : B ≤ w.heap.size) (hk : x.kind = 5) (ih : ReadsSchema B m D) (hp : Plain D x) (hsh : IsShp x)
    (hN : NodeOf (SB B m) w (D + 1) x n) (hm : MapOk Tryz.prog 9 w m) (hq : w.cell? ⟨q, 0, none⟩ = some (.map (some m))) :
    Calls Tryz.prog 40 #[.pointer (some ⟨q, 0, none⟩), .pointer (some ⟨n, 0, none⟩)] w (GivesField B m (D + 1) 7 x w) := by
  have n0 := (hN.kind4 hk).2
  have HX := Lib.hid (ih x n w hB hm hN hp hsh)
  have HK := Lib.hid hk
  clear hN hm hp hsh ih hk
  go_enter Tryz.func40, Tryz.ntmps40
  go_wp2_with fail
  go_at_call 26
  refine HX.out.mono ?_
  rintro e wr ⟨b4, rfl, hs4, hg4, hm4⟩
  have HS4 := Lib.hid hs4
  have HG4 := Lib.hid hg4
  have HM4 := Lib.hid hm4
  clear hs4 hg4 hm4
  go_wp2
  go_ret
  have hz := HG4.out.size
  have hb := up_alloc (Below.refl wr.heap.size wr) (.cells #[.pointer (some ⟨b4, 0, none⟩), .pointer none] 103)
  have hW := Sch.move (T := SN B m w.heap.size (wr.heap.size + 1)) (w1 := wr.alloc (.cells #[.pointer (some ⟨b4, 0, none⟩), .pointer none] 103)) (fun k hk => hb.block k (SN_lt (by omega) hk)) (fun k hk => SN_up (by omega) hk) _ _ _ HS4.out
  have ez : (wr.alloc (.cells #[.pointer (some ⟨b4, 0, none⟩), .pointer none] 103)).heap.size = wr.heap.size + 1 := by simp
  refine ⟨_, rfl, ?_, grown_trans HG4.out (grown_below _ hb), HM4.out.up hb⟩
  rw [ez]
  exact ⟨wr.heap.size, rfl, .inr ⟨by omega, by omega⟩, .inr ⟨HK.out, _, blk_new wr _, hW⟩⟩

set_option maxRecDepth 100000 in
set_option maxHeartbeats 4000000 in
theorem schemaOrBoolean_schema (B m q n D : Nat) (x : Dat) (w : World) (hB : B ≤ w.heap.size) (hk : x.kind = 5) (ih : ReadsSchema B m D) (hp : Plain D x) (hsh : IsShp x) (hmB : m < B)
    (hN : NodeOf (SB B m) w (D + 1) x n) (hm : MapOk Tryz.prog 9 w m) (hq : w.cell? ⟨q, 0, none⟩ = some (.map (some m))) :
    Calls Tryz.prog 39 #[.pointer (some ⟨q, 0, none⟩), .pointer (some ⟨n, 0, none⟩)] w (GivesField B m (D + 1) 6 x w) := by
  have n0 : ∀ o, (w.alloc o).cell? ⟨n, 0, none⟩ = some (.int .u32 4) := fun o => cell_up (up_alloc (Below.refl _ _) o) _ _ (hN.kind4 hk).2
  have q0 : ∀ o, (w.alloc o).cell? ⟨q, 0, none⟩ = some (.map (some m)) := fun o => cell_up (up_alloc (Below.refl _ _) o) _ _ hq
  have HX := Lib.hid (fun o => ih x n (w.alloc o) (by simp; omega) (hm.up (up_alloc (Below.refl _ _) _)) (hN.move (fun k hk => (up_alloc (Below.refl w.heap.size w) o).block k (by have := hk.1; omega)) (fun _ h => h)) hp hsh)
  have HK := Lib.hid hk
  clear hN hm hp hsh ih hk hq
  go_enter Tryz.func39, Tryz.ntmps39
  go_wp2_with fail
  go_at_call 26
  refine (HX.out _).mono ?_
  rintro e wr ⟨b4, rfl, hs4, hg4, hm4⟩
  have HS4 := Lib.hid hs4
  have HG4 := Lib.hid hg4
  have HM4 := Lib.hid hm4
  have ez0 : ∀ o, (w.alloc o).heap.size = w.heap.size + 1 := fun o => by simp
  have hz : w.heap.size + 1 ≤ wr.heap.size := by have := hg4.size; rw [ez0] at this; omega
  have R0 : Hid (wr.heap[w.heap.size]? = some (.cells #[.pointer none, .pointer none] 100 (0, 0))) := Lib.hid ((hg4.block _ (by simp) (by simp; omega)).trans (blk_new w _))
  have c0 : wr.cell? ⟨w.heap.size, 0, none⟩ = some (.pointer none) := (blk_cell R0.out 0).trans rfl
  have c0' : wr.frozen? ⟨w.heap.size, 0, none⟩ = false := blk_frozen R0.out 0
  clear hs4 hg4 hm4 n0 q0
  go_wp2
  go_ret
  have hS := HS4.out
  rw [ez0] at hS
  have far : ∀ k, k ≠ w.heap.size → (wr.setCell ⟨w.heap.size, 0, none⟩ (.pointer (some ⟨b4, 0, none⟩))).heap[k]? = wr.heap[k]? := fun k hk => Below.heap_setCell _ _ _ _ hk
  have ez : (wr.setCell ⟨w.heap.size, 0, none⟩ (.pointer (some ⟨b4, 0, none⟩))).heap.size = wr.heap.size := by simp [World.setCell]
  have hW := Sch.move (T := SN B m w.heap.size wr.heap.size) (w1 := wr.setCell ⟨w.heap.size, 0, none⟩ (.pointer (some ⟨b4, 0, none⟩))) (fun k hk => far k (by rcases hk with h | h <;> omega)) (fun k hk => SN_low (by omega) hk) _ _ _ hS
  refine ⟨_, rfl, ?_, ⟨HG4.out.os, HG4.out.tape, HG4.out.output, by omega, fun k hk hn => ?_⟩, HM4.out.same (fun k hk => far k (by omega))⟩
  · rw [ez]
    refine ⟨w.heap.size, rfl, .inr ⟨by omega, by omega⟩, .inr ⟨HK.out, b4, ?_, hW⟩⟩
    simp only [World.setCell, Array.getElem?_modify, if_true, R0.out]
    rfl
  · rw [far k (by omega), HG4.out.block k (by rw [ez0]; omega) hn]
    exact (up_alloc (Below.refl w.heap.size w) _).block k hk

set_option maxRecDepth 100000 in
set_option maxHeartbeats 4000000 in
theorem schemaOrBoolean_bool (B m q n D : Nat) (x : Dat) (w : World) (hk : x.kind = 1) (hmB : m < B) (hB : B ≤ w.heap.size)
    (hN : NodeOf (SB B m) w (D + 1) x n) (hm : MapOk Tryz.prog 9 w m) :
    Calls Tryz.prog 39 #[.pointer (some ⟨q, 0, none⟩), .pointer (some ⟨n, 0, none⟩)] w (GivesField B m (D + 1) 6 x w) := by
  obtain ⟨hs, tag, val, hsc, hh⟩ := hN.scalar (by omega) (by omega)
  obtain ⟨rfl, hval⟩ := hsc.bool hk
  have m0 : ∀ o, (w.alloc o).cell? ⟨n, 0, none⟩ = some (.int .u32 8) := fun o => cell_up (up_alloc (Below.refl _ _) o) _ _ ((blk_cell hh 0).trans rfl)
  have m3 : ∀ o, (w.alloc o).cell? ⟨n, 3, none⟩ = some (.string val) := fun o => cell_up (up_alloc (Below.refl _ _) o) _ _ ((blk_cell hh 3).trans rfl)
  have HP := Lib.hid (fun W => ParseBool_any (x.num == 1) W)
  rw [← hval] at HP
  have HM := Lib.hid hm
  have HK := Lib.hid hk
  clear hN hsc hh hk hs hm hval
  go_enter Tryz.func39, Tryz.ntmps39
  go_wp2_with fail
  go_at_call 54
  refine (HP.out _).mono ?_
  rintro e w1 ⟨rfl, rfl⟩
  go_wp2
  go_ret
  have e2 : ((w.alloc (.cells #[.pointer none, .pointer (some ⟨w.heap.size + 1, 0, none⟩)] 100)).alloc (.cells #[.bool (x.num == 1)] 4)).heap.size = w.heap.size + 2 := by simp
  have hb := up_alloc (up_alloc (Below.refl w.heap.size w) (.cells #[.pointer none, .pointer (some ⟨w.heap.size + 1, 0, none⟩)] 100)) (.cells #[.bool (x.num == 1)] 4)
  refine ⟨_, rfl, ?_, grown_below _ hb, HM.out.up hb⟩
  rw [e2]
  refine ⟨w.heap.size, rfl, .inr ⟨by omega, by omega⟩, .inl ⟨HK.out, _, blk_up (blk_new w _) (up_alloc (Below.refl _ _) _), w.heap.size + 1, 0, rfl, .inr ⟨by omega, by omega⟩, ?_⟩⟩
  have h := blk_new (w.alloc (.cells #[.pointer none, .pointer (some ⟨w.heap.size + 1, 0, none⟩)] 100)) (.cells #[.bool (x.num == 1)] 4)
  have e1 : (w.alloc (.cells #[.pointer none, .pointer (some ⟨w.heap.size + 1, 0, none⟩)] 100)).heap.size = w.heap.size + 1 := by simp
  rw [e1] at h
  exact (blk_cell h 0).trans rfl
end Go.Proofs.YthdnkcofcbinhaaGreatDoor

/- The readers of fields: maps of schemas. -/
namespace Go.Proofs.YthdnkcofcbinhaaGreatDoor
open Go.RowKit

theorem blk_new2 (w : World) (o1 o2 : Obj) : ((w.alloc o1).alloc o2).heap[w.heap.size + 1]? = some o2 := by
  have h := blk_new (w.alloc o1) o2
  have e : (w.alloc o1).heap.size = w.heap.size + 1 := by simp
  rwa [e] at h
/-- A key's node. -/
theorem key_cells {S : Nat → Prop} {w : World} {k : Nat} {s : ByteArray} (h : w.heap[k]? = some (nodeBlk 8 tStr s (.slice none 0 0))) : w.cell? ⟨k, 3, none⟩ = some (.string s) := (blk_cell h 3).trans rfl

set_option maxRecDepth 100000 in
set_option maxHeartbeats 4000000 in
theorem mapOfSchemas_any (B m q n D : Nat) (x : Dat) (w : World) (hB : B ≤ w.heap.size) (hmB : m < B) (hk : x.kind = 5) (h60 : x.items.length ≤ 60) (ih : ∀ E, E < D → ReadsSchema B m E) (hp : Plain D x) (hsh : ∀ i (h : i < x.items.length), x.items[i].kind = 5 ∧ IsShp x.items[i])
    (hN : NodeOf (SB B m) w (D + 1) x n) (hm : MapOk Tryz.prog 9 w m) (hqm : q ≠ m) (hq : w.cell? ⟨q, 0, none⟩ = some (.map (some m))) :
    Calls Tryz.prog 42 #[.pointer (some ⟨q, 0, none⟩), .pointer (some ⟨n, 0, none⟩)] w (GivesField B m (D + 1) 9 x w) := by
  obtain ⟨hs, ⟨tag, val, h1, _⟩ | ⟨h1, _⟩ | ⟨_, hkl, A, c, hh, hit⟩⟩ := hN
  · exfalso
    rcases h1 with h | h | h | h | h <;> · have := h.1; omega
  · omega
  have n0 : w.cell? ⟨n, 0, none⟩ = some (.int .u32 4) := (blk_cell hh 0).trans rfl
  have HH := Lib.hid hh
  have HIT := Lib.hid hit
  have HS := Lib.hid hs
  have HP := Lib.hid hp
  have HIH := Lib.hid ih
  have HSH := Lib.hid hsh
  have HM := Lib.hid hm
  have HQ := Lib.hid hq
  have HQM := Lib.hid hqm
  have HKL := Lib.hid hkl
  obtain ⟨i0, hi0, hz0, hzz1, hzz2⟩ := info_parts info_pn
  have hmk := make_pn
  clear hit hs hh hp ih hsh hm hq hqm hkl
  go_enter Tryz.func42, Tryz.ntmps42
  go_wp2
  clear n0 hmk
  go_loopg [6] x.items.length (fun gk v6 wr => ∃ (i j : Nat) (cv : Value) (css : List (List Value)), v6 = .int .i64 j ∧ Hid (j = 2 * i) ∧ i + gk = x.items.length ∧ Hid (PBox w B m 104 105 1 (fun S w j us => NamedAt S w (Sch S w (D + 1)) x j us) i cv css wr))
  case atStart => exact ⟨0, 0, _, [], rfl, Lib.hid rfl, by omega, Lib.hid (PBox.start HM.out)⟩
  case round =>
    obtain ⟨i, j, cv, css, rfl, HJ, hi, HI⟩ := hrel
    have hN6 := (blk_cell (grown_blk HI.out.grown HS.out.2 HH.out) 6).trans rfl
    obtain ⟨N, hNN⟩ : ∃ N, 2 * x.items.length = N := ⟨_, rfl⟩
    have HNN := Lib.hid hNN
    have n6 : wr.cell? ⟨n, 6, none⟩ = some (.slice A N c) := by rw [← hNN]; exact hN6
    have hz := HI.out.size
    clear hN6 hNN
    by_cases hlt : i < x.items.length
    · have hki : i < x.keys.length := by have := HKL.out; omega
      obtain ⟨g, k, nn, hA, hSg, hc0, hc1, hSk, hkk, hkid⟩ := HIT.out i hlt hki
      subst hA
      have hj2 := HJ.out
      have hnn := HNN.out
      have j1 : (j : Int) < (N : Int) := by omega
      have j2 : (j : Int) + 1 < (N : Int) := by omega
      have j3 : (j : Int) ≤ 120 := by omega
      have k0 : wr.cell? ⟨g, j, none⟩ = some (.pointer (some ⟨k, 0, none⟩)) := by rw [hj2]; exact grown_cell HI.out.grown hSg.2 hc0
      have k1 : wr.cell? ⟨g, j + 1, none⟩ = some (.pointer (some ⟨nn, 0, none⟩)) := by rw [hj2]; exact grown_cell HI.out.grown hSg.2 hc1
      have k3 : wr.cell? ⟨k, 3, none⟩ = some (.string x.keys[i]) := (blk_cell (grown_blk HI.out.grown hSk.2 hkk) 3).trans rfl
      obtain ⟨key, hkey⟩ : ∃ key, x.keys[i] = key := ⟨_, rfl⟩
      rw [hkey] at k3
      have HKEY := Lib.hid hkey
      have hkid' := hkid.grown HI.out.grown hB
      have hq0 := grown_cell HI.out.grown HQM.out HQ.out
      have HX := Lib.hid (kid_reads HIH.out HP.out hlt (HSH.out i hlt).2 (by omega) HI.out.map hkid' (HP.out.item hlt))
      clear hSg hc0 hc1 hkid hkid' hkk hSk hkey hj2 hnn
      go_wp2_with fail
      go_at_call 26
      refine HX.out.mono ?_
      rintro e w4 ⟨b4, rfl, hs4, hg4, hm4⟩
      have HS4 := Lib.hid hs4
      have HG4 : Hid (∀ o, wr.grownBy (w4.alloc o) (some m)) := Lib.hid (fun o => grown_trans hg4 (grown_below _ (up_alloc (Below.refl _ _) o)))
      have HM4 : Hid (∀ o, MapOk Tryz.prog 9 (w4.alloc o) m) := Lib.hid (fun o => hm4.up (up_alloc (Below.refl _ _) o))
      have I4 := Lib.hid (HI.out.keep (mov_named _ _) hB hmB (HG4.out (.cells #[.string key, .pointer (some ⟨b4, 0, none⟩)] 107)) (HM4.out _))
      have bx0 := (blk_cell I4.out.box 0).trans rfl
      have hzw : wr.heap.size ≤ w4.heap.size := hg4.size
      have hz4 : w.heap.size + 1 < w4.heap.size := by omega
      have bx : w4.cell? ⟨w.heap.size + 1, 0, none⟩ = some cv := by
        have h := (blk_cell (HI.out.keep (mov_named _ _) hB hmB hg4 hm4).box 0).trans rfl
        exact h
      clear hs4 hg4 hm4 k0 k1 k3 n6 hq0 bx0
      go_wp2_with (first
        | (at_builtin
           refine wpList_append_lies _ rfl (.tmp 53) (.tmp 55) 104 rfl w.heap.size 105 i0 _ 1 8 Tryz.underlying104 hi0 hz0 hzz1 hzz2 rfl (by omega) _ i css.flatten rfl ((I4.out.row.own).alloc _)
             ⟨w4.heap.size + 1, 0, none⟩ 1 1 [.pointer (some ⟨w4.heap.size, 0, none⟩)] rfl rfl (World.news_of_block (cs := #[.pointer (some ⟨w4.heap.size, 0, none⟩)]) (t := 105) (fr := (0, 0)) (blk_new2 w4 _ _)) (by simp [Value.oneCell']) (by omega) (by unfold maxLen; omega) (by omega) (by simp; omega) (w4.heap.size + 2) (by simp) ?_))
      intro gg cap w5 hown5 hgrow5 hat5 hlt5
      have ez : (w4.alloc (.cells #[.string key, .pointer (some ⟨b4, 0, none⟩)] 107)).heap.size = w4.heap.size + 1 := by simp
      have I6 := Lib.hid (HI.out.next (cs := [.pointer (some ⟨w4.heap.size, 0, none⟩)]) (mov_named _ _) hB hmB (HG4.out (.cells #[.string key, .pointer (some ⟨b4, 0, none⟩)] 107)) (HM4.out _)
        ⟨hlt, hki, w4.heap.size, b4, rfl, .inr ⟨hzw, by omega⟩, by rw [HKEY.out]; exact blk_new w4 _, Sch.move (fun k hk => (up_alloc (Below.refl w4.heap.size w4) _).block k (SN_lt (by omega) hk)) (fun k hk => SN_up (by omega) hk) _ _ _ HS4.out⟩ rfl hown5 hgrow5 (by rw [ez]; exact hat5))
      have N5 := Lib.hid ((hgrow5.block (w.heap.size + 1) (by simp; omega) (fun e => I4.out.row.nbx e.symm)).trans (blk_up I4.out.box (up_alloc (Below.refl _ _) _)))
      have b5 : w5.cell? ⟨w.heap.size + 1, 0, none⟩ = some cv := (blk_cell N5.out 0).trans rfl
      have b5' : w5.frozen? ⟨w.heap.size + 1, 0, none⟩ = false := blk_frozen N5.out 0
      clear hown5 hgrow5 hat5 hlt5 bx
      go_wp2
      go_roundg (x.items.length - (i + 1))
      case measure => omega
      case rel => exact ⟨i + 1, j + 2, _, _, by go_num, Lib.hid (by have := HJ.out; omega), by omega, I6⟩
    · have hall : i = x.items.length := by omega
      have j1 : ¬ (j : Int) < (N : Int) := by have := HJ.out; have := HNN.out; omega
      subst hall
      go_wp2
      go_ret
      exact ⟨_, rfl, HI.out.whole (mov_named _ _) (by omega), HI.out.grown, HI.out.map⟩
end Go.Proofs.YthdnkcofcbinhaaGreatDoor
