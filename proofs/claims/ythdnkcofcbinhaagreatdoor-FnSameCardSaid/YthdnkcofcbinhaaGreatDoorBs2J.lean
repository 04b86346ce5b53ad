/- The readers of fields: schemas, lists and maps of them. -/
import Derived.Test.YthdnkcofcbinhaaGreatDoorBs1J
import Derived.Test.YthdnkcofcbinhaaGreatDoorIs4J
set_option linter.unusedVariables false
set_option linter.unusedSimpArgs false
namespace Go.Proofs.YthdnkcofcbinhaaGreatDoor
open Go.RowKit

abbrev SB (B m k : Nat) : Prop := k < B ∧ k ≠ m
/-- Whatever its levels, a schema. -/
def IsShp (x : Dat) : Prop := ∃ d, Shp d x
/-- NewSchemaFromObject's contract at a level. -/
def ReadsSchema (B m D : Nat) : Prop := ∀ (x : Dat) (n : Nat) (w : World), B ≤ w.heap.size → MapOk Tryz.prog 9 w m → NodeOf (SB B m) w (D + 1) x n → Plain D x → IsShp x →
  Calls Tryz.prog 26 #[.pointer (some ⟨n, 0, none⟩), .map (some m)] w (GivesSch B m (D + 1) x w)

theorem Sch.succ {S : Nat → Prop} {w : World} : ∀ (d : Nat) (v : Dat) (b : Nat), Sch S w d v b → Sch S w (d + 1) v b
  | 0, _, _, h => h.elim
  | d + 1, v, b, h => by
    obtain ⟨hs, hk, cs, hh, hz, h4, h5, hf⟩ := h
    refine ⟨hs, hk, cs, hh, hz, h4, h5, fun x hx hp => ?_⟩
    obtain ⟨f, hc, ha⟩ := hf x hx hp
    exact ⟨f, hc, ha.move (fun y hy => hy.move (fun _ _ => rfl) (fun _ h => h) (fun x k h => Sch.succ d x k h))⟩

theorem grown_cell {w wr : World} {m b o : Nat} {u : Value} (hg : w.grownBy wr (some m)) (hb : b ≠ m) (hc : w.cell? ⟨b, o, none⟩ = some u) : wr.cell? ⟨b, o, none⟩ = some u :=
  (World.cell?_of_block (a := ⟨b, o, none⟩) (hg.block b (World.block_lt_of_cell? w _ hc) (by simpa using hb))).trans hc
theorem grown_blk {w wr : World} {m b : Nat} {o : Obj} (hg : w.grownBy wr (some m)) (hb : b ≠ m) (hc : w.heap[b]? = some o) : wr.heap[b]? = some o := (hg.block b (blk_lt hc) (by simpa using hb)).trans hc
theorem NodeOf.grown {B m D : Nat} {w wr : World} {x : Dat} {n : Nat} (hg : w.grownBy wr (some m)) (hB : B ≤ w.heap.size) (h : NodeOf (SB B m) w D x n) : NodeOf (SB B m) wr D x n :=
  h.move (fun k hk => hg.block k (by have := hk.1; omega) (by simpa using hk.2)) (fun _ h => h)
/-- A node's kind. -/
theorem NodeOf.kind4 {S : Nat → Prop} {w : World} {D : Nat} {x : Dat} {n : Nat} (h : NodeOf S w D x n) (hk : x.kind = 5) : S n ∧ w.cell? ⟨n, 0, none⟩ = some (.int .u32 4) := by
  cases D with
  | zero => exact h.elim
  | succ D =>
    obtain ⟨hs, ⟨tag, val, h1, _⟩ | ⟨h1, _⟩ | ⟨_, _, A, c, h2, _⟩⟩ := h
    · rcases h1 with h | h | h | h | h <;> · have := h.1; omega
    · omega
    · exact ⟨hs, (blk_cell h2 0).trans rfl⟩

/-- A kid's schema is read. -/
theorem kid_reads {B m D : Nat} (ih : ∀ E, E < D → ReadsSchema B m E) {x : Dat} (hp : Plain D x) {i : Nat} (hi : i < x.items.length) (hs : IsShp x.items[i]) {w : World} {n : Nat} (hB : B ≤ w.heap.size) (hm : MapOk Tryz.prog 9 w m) (hN : NodeOf (SB B m) w D x.items[i] n)
    (item : ∃ E, E + 1 = D ∧ Plain E x.items[i]) :
    Calls Tryz.prog 26 #[.pointer (some ⟨n, 0, none⟩), .map (some m)] w (GivesSch B m (D + 1) x.items[i] w) := by
  obtain ⟨E, rfl, hpE⟩ := item
  refine (ih E (by omega) x.items[i] n w hB hm hN hpE hs).mono ?_
  rintro e w' ⟨b, he, hsc, hg, hm'⟩
  exact ⟨b, he, Sch.succ _ _ _ hsc, hg, hm'⟩

theorem info_ps : (Tryz.prog.info? 35).map (fun i => (i.zero, i.size, i.bytes)) = some (some (.pointer none), 1, 8) := by kernel_rfl
theorem info_pn : (Tryz.prog.info? 105).map (fun i => (i.zero, i.size, i.bytes)) = some (some (.pointer none), 1, 8) := by kernel_rfl
theorem make_ps : ∀ w : World, (Instr.makeSlice 101 (.int .i64 0) (.int .i64 0)).run Tryz.prog w = .ok (.slice (some ⟨w.heap.size, 0, none⟩) 0 0) (w.alloc (.cells #[] 35)) := fun _ => by kernel_rfl
theorem make_pn : ∀ w : World, (Instr.makeSlice 104 (.int .i64 0) (.int .i64 0)).run Tryz.prog w = .ok (.slice (some ⟨w.heap.size, 0, none⟩) 0 0) (w.alloc (.cells #[] 105)) := fun _ => by kernel_rfl
theorem mov_schema (D : Nat) (x : Dat) : QMov (fun S w j us => SchemaAt (Sch S w D) x j us) := fun S T w w1 j cs hb hT h => h.move (fun y k hk => Sch.move hb hT D y k hk)
theorem mov_named (D : Nat) (x : Dat) : QMov (fun S w j us => NamedAt S w (Sch S w D) x j us) := fun S T w w1 j cs hb hT h => h.move hb hT (fun y k hk => Sch.move hb hT D y k hk)


set_option maxRecDepth 100000 in
set_option maxHeartbeats 4000000 in
theorem arrayOfSchemas_any (B m q n D : Nat) (x : Dat) (w : World) (hB : B ≤ w.heap.size) (hmB : m < B) (hk : x.kind = 4) (h60 : x.items.length ≤ 60) (ih : ∀ E, E < D → ReadsSchema B m E) (hp : Plain D x) (hsh : ∀ i (h : i < x.items.length), x.items[i].kind = 5 ∧ IsShp x.items[i])
    (hN : NodeOf (SB B m) w (D + 1) x n) (hm : MapOk Tryz.prog 9 w m) (hqm : q ≠ m) (hq : w.cell? ⟨q, 0, none⟩ = some (.map (some m))) :
    Calls Tryz.prog 46 #[.pointer (some ⟨q, 0, none⟩), .pointer (some ⟨n, 0, none⟩)] w (GivesField B m (D + 1) 13 x w) := by
  obtain ⟨hs, ⟨tag, val, h1, _⟩ | ⟨_, A, c, hh, hit⟩ | ⟨h1, _⟩⟩ := hN
  · exfalso
    rcases h1 with h | h | h | h | h <;> · have := h.1; omega
  rotate_left
  · omega
  have n0 : w.cell? ⟨n, 0, none⟩ = some (.int .u32 2) := (blk_cell hh 0).trans rfl
  have n0' : ∀ o, (w.alloc o).cell? ⟨n, 0, none⟩ = some (.int .u32 2) := fun o => cell_up (up_alloc (Below.refl _ _) o) _ _ n0
  have n6 : ∀ o1 o2, ((w.alloc o1).alloc o2).cell? ⟨n, 6, none⟩ = some (.slice A x.items.length c) := fun o1 o2 => cell_up (up_alloc (up_alloc (Below.refl _ _) o1) o2) _ _ ((blk_cell hh 6).trans rfl)
  have HIT := Lib.hid hit
  have HS := Lib.hid hs
  have HP := Lib.hid hp
  have HIH := Lib.hid ih
  have HSH := Lib.hid hsh
  have HM := Lib.hid hm
  have HQ := Lib.hid hq
  have HQM := Lib.hid hqm
  have HK := Lib.hid hk
  obtain ⟨i0, hi0, hz0, hzz1, hzz2⟩ := info_parts info_ps
  have hmk := make_ps
  clear hit hs hh hp ih hsh hm hq hqm
  go_enter Tryz.func46, Tryz.ntmps46
  go_wp2
  clear n0 n0' n6 hmk
  go_loopg [23] x.items.length (fun gk v23 wr => ∃ (i : Nat) (cv : Value) (css : List (List Value)), v23 = .int .i64 i ∧ i + gk = x.items.length ∧ Hid (PBox w B m 101 35 1 (fun S w j us => SchemaAt (Sch S w (D + 1)) x j us) i cv css wr))
  case atStart => exact ⟨0, _, [], rfl, by omega, Lib.hid (PBox.start HM.out)⟩
  case round =>
    obtain ⟨i, cv, css, rfl, hi, HI⟩ := hrel
    by_cases hlt : i < x.items.length
    · obtain ⟨g, k, hA, hSg, hcell, hkid⟩ := HIT.out i hlt
      subst hA
      have hcell' := grown_cell HI.out.grown hSg.2 hcell
      have hkid' := hkid.grown HI.out.grown hB
      have hk0 := (hkid'.kind4 (HSH.out i hlt).1).2
      have hq0 := grown_cell HI.out.grown HQM.out HQ.out
      have hz := HI.out.size
      have HX := Lib.hid (kid_reads HIH.out HP.out hlt (HSH.out i hlt).2 (by omega) HI.out.map hkid' (HP.out.item hlt))
      have i1 : (i : Int) < (x.items.length : Int) := by omega
      have i0' : (0 : Int) ≤ (i : Int) := by omega
      clear hSg hcell hkid hkid'
      go_wp2_with fail
      go_at_call 26
      refine HX.out.mono ?_
      rintro e w4 ⟨b4, rfl, hs4, hg4, hm4⟩
      have I4 := Lib.hid (HI.out.keep (mov_schema _ _) hB hmB hg4 hm4)
      have HS4 := Lib.hid hs4
      have HG4 := Lib.hid hg4
      have HM4 := Lib.hid hm4
      have bx : w4.cell? ⟨w.heap.size + 1, 0, none⟩ = some cv := (blk_cell I4.out.box 0).trans rfl
      have hz4 := I4.out.size
      clear hs4 hg4 hm4 hcell' hk0 hq0
      go_wp2_with (first
        | (at_builtin
           refine wpList_append_lies _ rfl (.tmp 39) (.tmp 41) 101 rfl w.heap.size 35 i0 _ 1 8 Tryz.underlying101 hi0 hz0 hzz1 hzz2 rfl (by omega) _ i css.flatten rfl ((I4.out.row.own).alloc _)
             ⟨w4.heap.size, 0, none⟩ 1 1 [.pointer (some ⟨b4, 0, none⟩)] rfl rfl (World.news_of_block (cs := #[.pointer (some ⟨b4, 0, none⟩)]) (t := 35) (fr := (0, 0)) (heap_alloc_new w4 _)) (by simp [Value.oneCell']) (by omega) (by unfold maxLen; omega) (by omega) (by simp; omega) (w4.heap.size + 1) (by simp) ?_))
      intro gg cap w5 hown5 hgrow5 hat5 hlt5
      have I6 := Lib.hid (HI.out.next (mov_schema _ _) hB hmB HG4.out HM4.out ⟨hlt, b4, rfl, HS4.out⟩ rfl hown5 hgrow5 hat5)
      have N5 := Lib.hid ((hgrow5.block (w.heap.size + 1) (by simp; omega) (fun e => I4.out.row.nbx e.symm)).trans (blk_up I4.out.box (up_alloc (Below.refl _ _) _)))
      have b5 : w5.cell? ⟨w.heap.size + 1, 0, none⟩ = some cv := (blk_cell N5.out 0).trans rfl
      have b5' : w5.frozen? ⟨w.heap.size + 1, 0, none⟩ = false := blk_frozen N5.out 0
      clear hown5 hgrow5 hat5 hlt5 bx
      go_wp2
      go_roundg (x.items.length - (i + 1))
      case measure => omega
      case rel => exact ⟨i + 1, _, _, by go_num, by omega, I6⟩
    · have hall : i = x.items.length := by omega
      subst hall
      go_wp2
      go_ret
      exact ⟨_, rfl, HI.out.whole (mov_schema _ _) (by omega), HI.out.grown, HI.out.map⟩
end Go.Proofs.YthdnkcofcbinhaaGreatDoor
