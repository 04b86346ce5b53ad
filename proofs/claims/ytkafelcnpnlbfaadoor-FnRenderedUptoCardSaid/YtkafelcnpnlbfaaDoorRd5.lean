/- The reader: lists. -/
import Derived.Test.YtkafelcnpnlbfaaDoorRd4
namespace Go.Proofs.YtkafelcnpnlbfaaDoor
open Go.RowKit

theorem tx_head {D E : Nat} {ind : List UInt8} {v : Dat} (hp : Plain E v) (hq : Prn v) : ∃ c r, tx (D + 1) ind v = c :: r ∧ isBl c = false ∧ c ≠ 93 ∧ c ≠ 125 := by
  obtain ⟨_, n0, n2, n6, _⟩ := hq
  have hk : v.kind = 1 ∨ v.kind = 3 ∨ v.kind = 4 ∨ v.kind = 5 := by
    cases E with
    | zero => rcases hp with h | h | h | h | h <;> omega
    | succ E =>
      rcases hp with h | h | h
      · rcases h with h | h | h | h | h <;> omega
      · have := h.1; omega
      · have := h.1; omega
  unfold tx
  rcases hk with h | h | h | h
  · rw [if_pos h]
    cases v.num == 1
    · exact ⟨102, _, rfl, by decide, by decide, by decide⟩
    · exact ⟨116, _, rfl, by decide, by decide, by decide⟩
  · rw [if_neg (by omega), if_pos h]
    exact ⟨34, _, rfl, by decide, by decide, by decide⟩
  · rw [if_neg (by omega), if_neg (by omega), if_pos h]
    exact ⟨91, _, rfl, by decide, by decide, by decide⟩
  · rw [if_neg (by omega), if_neg (by omega), if_neg (by omega)]
    exact ⟨123, _, rfl, by decide, by decide, by decide⟩

theorem wrap_less {d : Int} (h : 1 ≤ d) (h1 : d ≤ 100) : IntKind.i64.wrap (d - 1) = d - 1 := by simp [IntKind.wrap, IntKind.bits, IntKind.signed]; omega
theorem Blank.app {a b : List UInt8} (ha : Blank a) (hb : Blank b) : Blank (a ++ b) := fun c hc => (List.mem_append.1 hc).elim (ha c) (hb c)
theorem Blank.nl {a : List UInt8} (ha : Blank a) : Blank (10 :: a) := fun c hc => by
  rcases List.mem_cons.1 hc with rfl | h
  · decide
  · exact ha c h
theorem Blank.two {a : List UInt8} (ha : Blank a) : Blank (a ++ [32, 32]) := ha.app (fun c hc => by
  rcases List.mem_cons.1 hc with rfl | h
  · decide
  · rcases List.mem_cons.1 h with rfl | h
    · decide
    · cases h)

/-- What is still to be read of a list, its item i being next. -/
def restL (f : Dat → List UInt8) (inner tail : List UInt8) (its : List Dat) (i : Nat) (x : Dat) : List UInt8 := f x ++ (sep (its.drop (i + 1)) ++ (10 :: (seqL f inner (its.drop (i + 1)) ++ tail)))

/-- The block of the list that is read. -/
def outBlk (kind : Int) (kv cv : Value) : Obj := .cells #[.int .i64 kind, .int .i64 0, .string ⟨#[]⟩, kv, cv] 25 (0, 0)

/-- A list in the make. -/
structure LInv (w : World) (g o6 : Nat) (s : ByteArray) (its : List Dat) (i : Nat) (cv : Value) (css : List (List Value)) (wr : World) : Prop where
  out : wr.heap[o6]? = some (outBlk 4 (.slice none 0 0) cv)
  zero : wr.heap[w.heap.size]? = some (outBlk 0 (.slice none 0 0) (.slice none 0 0))
  row : Row (o6 + 1) its (fun k => k = g) i cv css wr
  grown : w.grownBy wr (some g)
  size : o6 + 1 ≤ wr.heap.size

theorem LInv.keep {w wr w1 : World} {g o6 i : Nat} {s : ByteArray} {its : List Dat} {cv : Value} {css : List (List Value)} (I : LInv w g o6 s its i cv css wr) (hk : wr.grownBy w1 (some g)) (hg : g < w.heap.size) (ho : w.heap.size < o6) : LInv w g o6 s its i cv css w1 := by
  have hz := I.size
  have hz1 := hk.size
  refine ⟨(hk.block _ (by omega) (by simp; omega)).trans I.out, (hk.block _ (by omega) (by simp; omega)).trans I.zero, I.row.keep hz1 (fun k _ h2 h3 => hk.block k h2 (by simpa using h3)) (fun _ _ h => h) (fun k h e => by have := (I.row.own.lt k h).1; omega), grown_trans I.grown hk, by omega⟩

theorem list_val {w w3 : World} {g o6 n : Nat} {its : List Dat} {cv : Value} {css : List (List Value)} (R : Row (o6 + 1) its (fun k => k = g) n cv css w3) (hn : n = its.length) (ho : w.heap.size < o6) (h60 : its.length ≤ 60) :
    VA (onS w3 fun k => w.heap.size < k ∧ k < w3.heap.size) (.mk 4 0 ⟨#[]⟩ [] its) [.int .i64 4, .int .i64 0, .string ⟨#[]⟩, .slice none 0 0, cv] := by
  subst hn
  obtain ⟨ia, ic, rfl, h1, h2, cf, h3, h4⟩ := R.items (S := fun k => w.heap.size < k ∧ k < w3.heap.size) (fun k hk hk2 => ⟨by omega, hk2⟩) h60
  exact VA.mk 4 0 ⟨#[]⟩ [] its none ia 0 ic cf (Nat.zero_le _) (fun i h => absurd h (Nat.not_lt_zero _)) (Nat.le_refl _) (Nat.zero_le _) h1 h2 h3 h4

/-- One item more. -/
theorem LInv.step {w wr w1 w3 : World} {g o6 i gg cap : Nat} {s : ByteArray} {its : List Dat} {cv : Value} {css : List (List Value)} {cs : List Value} {o : Obj} (I : LInv w g o6 s its i cv css wr) (hi : i < its.length) (hg : g < w.heap.size) (ho : w.heap.size < o6)
    (hk1 : wr.grownBy w1 (some g)) (hv : VA (onS w1 fun k => wr.heap.size ≤ k ∧ k < w1.heap.size) its[i] cs)
    (hown3 : w3.ownsRow (o6 + 1) 25 5 (.slice (some ⟨gg, 0, none⟩) (i + 1) cap) (i + 1) (css.flatten ++ cs)) (hgrow : (w1.alloc o).grownBy w3 cv.ownBlock) (hat : cv.ownBlock = some gg ∨ gg = w1.heap.size + 1) :
    LInv w g o6 s its (i + 1) (.slice (some ⟨gg, 0, none⟩) (i + 1) cap) (css ++ [cs]) (w3.setCell ⟨o6, 4, none⟩ (.slice (some ⟨gg, 0, none⟩) (i + 1) cap)) ∧ w1.heap[g]? = (w3.setCell ⟨o6, 4, none⟩ (.slice (some ⟨gg, 0, none⟩) (i + 1) cap)).heap[g]? := by
  have hz := I.size
  have hz1 := hk1.size
  have hz3 := hgrow.size
  have hsz : (w1.alloc o).heap.size = w1.heap.size + 1 := by simp
  have hlt := I.row.own.lt
  have far : ∀ k, k < o6 + 1 → some k ≠ cv.ownBlock := fun k hk h => by have := (hlt k h.symm).1; omega
  have old : ∀ k, k < o6 + 1 → w3.heap[k]? = w1.heap[k]? := fun k hk => by
    rw [hgrow.block k (by omega) (far k hk)]
    exact Below.heap_alloc _ _ _ (by omega)
  have hR := I.row.step hi hz (fun k hk e => by omega) hz1 (fun k _ h2 h3 => hk1.block k h2 (by simpa using h3)) hv hown3 hgrow hat
  have hzF : (w3.setCell ⟨o6, 4, none⟩ (.slice (some ⟨gg, 0, none⟩) (i + 1) cap)).heap.size = w3.heap.size := by simp [World.setCell]
  have hfF : ∀ k, k ≠ o6 → (w3.setCell ⟨o6, 4, none⟩ (.slice (some ⟨gg, 0, none⟩) (i + 1) cap)).heap[k]? = w3.heap[k]? := fun k hk => Below.heap_setCell _ _ _ _ hk
  refine ⟨⟨?_, ?_, hR.keep (by omega) (fun k h1 _ _ => hfF k (by omega)) (fun _ _ h => h) (fun k h e => by have := (hR.own.lt k h).1; omega), ?_, by omega⟩, ?_⟩
  · have h := (old o6 (by omega)).trans ((hk1.block o6 (by omega) (by simp; omega)).trans I.out)
    simp only [World.setCell, Array.getElem?_modify, if_true, h]
    rfl
  · rw [hfF _ (by omega), old _ (by omega), hk1.block _ (by omega) (by simp; omega)]
    exact I.zero
  · refine ⟨hgrow.os.trans (hk1.os.trans I.grown.os), hgrow.tape.trans (hk1.tape.trans I.grown.tape), hgrow.output.trans (hk1.output.trans I.grown.output), by have := I.grown.size; omega, fun k hk hn => ?_⟩
    rw [hfF _ (by omega), old _ (by omega), hk1.block _ (by omega) hn]
    exact I.grown.block k hk hn
  · rw [hfF _ (by omega), old _ (by omega)]


set_option maxRecDepth 100000 in
set_option maxHeartbeats 8000000 in
theorem value_list (E : Nat) (ih : ReadsAt E) (v : Dat) (g : Nat) (s : ByteArray) (ind sp l : List UInt8) (w : World) (depth : Int) (hp : PList (Plain E) v) (hq : Prn v) (h0 : (E : Int) + 2 ≤ depth) (h1 : depth ≤ 100) (hsp : Blank sp) (hind : Blank ind)
    (hr : Rem w g s (sp ++ (tx (E + 2) ind v ++ l))) : Calls Tryd.prog 12 #[.pointer (some ⟨g, 0, none⟩), .int .i64 depth] w (GivesVal v g s l w) := by
  obtain ⟨k, n, t, ks, its⟩ := v
  obtain ⟨hk, hn, ht, hks, h60, hits⟩ := hp
  obtain ⟨_, _, _, _, _, _, hqi, _⟩ := hq
  have hqi := hqi (by simp only [Dat.kind] at hk ⊢; omega)
  simp only [Dat.kind, Dat.num, Dat.text, Dat.keys, Dat.items, NoText] at hk hn ht hks h60 hits hqi
  subst hk hn ht hks
  rw [tx_seq rfl] at hr
  simp only [Dat.items] at hr
  have hgl := hr.lt
  have IH := Lib.hid ih
  have HITS := Lib.hid hits
  have HQI := Lib.hid hqi
  have HIND := Lib.hid hind
  have h2 : 1 ≤ depth := by omega
  have hwd := wrap_less h2 h1
  clear ih hits hqi hind
  obtain ⟨inner, hinner⟩ : ∃ x, ind ++ [32, 32] = x := ⟨_, rfl⟩
  have HINN : Hid (Blank inner) := Lib.hid (by rw [← hinner]; exact HIND.out.two)
  rw [hinner] at hr
  obtain ⟨f, hf⟩ : ∃ f, tx (E + 1) inner = f := ⟨_, rfl⟩
  rw [hf] at hr
  have HFF := Lib.hid hf
  clear hinner hf
  replace hr : Rem w g s (sp ++ 91 :: (10 :: (seqL f inner its ++ (ind ++ 93 :: l)))) := by simpa using hr
  have hgl := hr.lt
  have hd : (depth == 0) = false := by simp; omega
  have HP := Lib.hid (fun (W : World) (hb : Below w.heap.size w W) => peek_any g s sp (10 :: (seqL f inner its ++ (ind ++ 93 :: l))) 91 W hsp (by decide) (hr.up hb))
  have HB := Lib.hid (fun (W : World) (hb : Below w.heap.size w W) => (hr.up hb).bad)
  have z2 : ∀ o, (w.alloc o).cell? ⟨g, 2, none⟩ = some (.bool false) := fun o => (HB.out _ (up_alloc (Below.refl _ _) o)).1
  clear hr hsp
  go_enter Tryd.func12, Tryd.ntmps12
  go_wp2_with fail
  go_at_call 19
  refine (HP.out _ (up_alloc (Below.refl _ _) _)).mono ?_
  rintro e w1 ⟨rfl, hr1, hg1⟩
  have hz1 : w.heap.size < w1.heap.size := by have := hg1.size; simp at this; omega
  have R0 : Hid (w1.heap[w.heap.size]? = some (.cells #[.int .i64 0, .int .i64 0, .string ⟨#[]⟩, .slice none 0 0, .slice none 0 0] 25 (0, 0))) := Lib.hid ((hg1.block _ (by simp) (by simp; omega)).trans (blk_new w _))
  have HR1 := Lib.hid hr1
  have HG1 := Lib.hid (grown_trans (grown_below (some g) (up_alloc (Below.refl w.heap.size w) _)) hg1)
  clear hr1 hg1
  have HN := Lib.hid (need_any g s [] (10 :: (seqL f inner its ++ (ind ++ 93 :: l))) 91 91 w1 rfl (fun _ h => by cases h) (by decide) HR1.out)
  go_wp2_with fail
  go_at_call 21
  refine HN.out.mono ?_
  rintro e w2 ⟨rfl, hr2, hg2⟩
  have hz2 : w.heap.size < w2.heap.size := Nat.lt_of_lt_of_le hz1 hg2.size
  have R1 := Lib.hid ((hg2.block _ hz1 (by simp; omega)).trans R0.out)
  have HR2 := Lib.hid hr2
  have HG2 := Lib.hid (grown_trans HG1.out hg2)
  clear hr2 hg2
  have INV0 : Hid (∀ W, W = w2.alloc (outBlk 4 (.slice none 0 0) (.slice none 0 0)) → LInv w g w2.heap.size s its 0 (.slice none 0 0) [] W) := Lib.hid (fun W hW => by
    subst hW
    exact ⟨blk_new w2 _, blk_up R1.out (up_alloc (Below.refl _ _) _), Row.nil _ _ _ _, grown_trans HG2.out (grown_below _ (up_alloc (Below.refl _ _) _)), by simp⟩)
  rcases its with _ | ⟨x0, its'⟩
  · -- an empty list
    have HT := Lib.hid (fun (W : World) (hb : Below w2.heap.size w2 W) => take_yes g s (10 :: ind) l 93 93 W rfl HIND.out.nl (by decide) (HR2.out.up hb))
    go_wp2_with fail
    go_at_call 22
    refine (HT.out _ (up_alloc (Below.refl _ _) _)).mono ?_
    rintro e w3 ⟨rfl, hr3, hg3⟩
    have I3 := Lib.hid ((INV0.out _ rfl).keep hg3 hgl hz2)
    have R3 := Lib.hid hr3
    have Z3 := Lib.hid I3.out.zero
    have o4 : w3.cell? ⟨w2.heap.size, 4, none⟩ = some (.slice none 0 0) := (blk_cell I3.out.out 4).trans rfl
    clear hr3 hg3
    have q0 : w3.cell? ⟨w.heap.size, 0, none⟩ = some (.int .i64 0) := (blk_cell Z3.out 0).trans rfl
    have q1 : w3.cell? ⟨w.heap.size, 1, none⟩ = some (.int .i64 0) := (blk_cell Z3.out 1).trans rfl
    have q2 : w3.cell? ⟨w.heap.size, 2, none⟩ = some (.string ⟨#[]⟩) := (blk_cell Z3.out 2).trans rfl
    have q3 : w3.cell? ⟨w.heap.size, 3, none⟩ = some (.slice none 0 0) := (blk_cell Z3.out 3).trans rfl
    have q4 : w3.cell? ⟨w.heap.size, 4, none⟩ = some (.slice none 0 0) := (blk_cell Z3.out 4).trans rfl
    have p0 : w3.frozen? ⟨w.heap.size, 0, none⟩ = false := blk_frozen Z3.out 0
    have p1 : w3.frozen? ⟨w.heap.size, 1, none⟩ = false := blk_frozen Z3.out 1
    have p2 : w3.frozen? ⟨w.heap.size, 2, none⟩ = false := blk_frozen Z3.out 2
    have p3 : w3.frozen? ⟨w.heap.size, 3, none⟩ = false := blk_frozen Z3.out 3
    have p4 : w3.frozen? ⟨w.heap.size, 4, none⟩ = false := blk_frozen Z3.out 4
    have o0 : w3.cell? ⟨w2.heap.size, 0, none⟩ = some (.int .i64 4) := (blk_cell I3.out.out 0).trans rfl
    have o1 : w3.cell? ⟨w2.heap.size, 1, none⟩ = some (.int .i64 0) := (blk_cell I3.out.out 1).trans rfl
    have o2 : w3.cell? ⟨w2.heap.size, 2, none⟩ = some (.string ⟨#[]⟩) := (blk_cell I3.out.out 2).trans rfl
    have o3 : w3.cell? ⟨w2.heap.size, 3, none⟩ = some (.slice none 0 0) := (blk_cell I3.out.out 3).trans rfl
    go_wp2
    refine ret_val rfl rfl rfl (set5 Z3.out _ _ _ _ _) (give5 R3.out I3.out.grown hgl (list_val I3.out.row rfl hz2 h60))
  · -- items
    obtain ⟨its2, hits2⟩ : ∃ x, x0 :: its' = x := ⟨_, rfl⟩
    have hpos : 0 < its2.length := by rw [← hits2]; simp
    rw [hits2] at HR2 INV0 h60 HITS HQI ⊢
    have HITS2 := Lib.hid hits2
    clear hits2
    obtain ⟨tail, htail⟩ : ∃ x, ind ++ 93 :: l = x := ⟨_, rfl⟩
    rw [htail] at HR2
    have HTAIL := Lib.hid htail
    clear htail
    have hx0 : its2[0] = its2[0] := rfl
    have HREM0 : Hid (Rem w2 g s ((10 :: inner) ++ restL f inner tail its2 0 its2[0])) := Lib.hid (by
      have h := HR2.out
      have e0 := seqL_at f inner hpos
      rw [List.drop_zero] at e0
      rw [e0] at h
      simpa [restL] using h)
    obtain ⟨c0, r0, hc0, hbl, h93, _⟩ := tx_head (D := E) (ind := inner) (HITS.out 0 hpos) (HQI.out 0 hpos)
    have hc1 : f its2[0] = c0 :: r0 := by rw [← HFF.out]; exact hc0
    have HC1 := Lib.hid hc1
    have HT := Lib.hid (fun (W : World) (hb : Below w2.heap.size w2 W) => take_no g s (10 :: inner) (r0 ++ (sep (its2.drop 1) ++ (10 :: (seqL f inner (its2.drop 1) ++ tail)))) c0 93 W (by intro e; apply h93; exact UInt8.toNat_inj.1 (by have q : (93 : UInt8).toNat = 93 := rfl; omega)) HINN.out.nl hbl (by
      have h := HREM0.out.up hb
      unfold restL at h
      rw [hc1] at h
      exact h))
    clear hx0 hc0 hbl h93 hc1
    go_wp2_with fail
    go_at_call 22
    refine (HT.out _ (up_alloc (Below.refl _ _) _)).mono ?_
    rintro e w3 ⟨rfl, hr3, hg3⟩
    have I3 := Lib.hid ((INV0.out _ rfl).keep hg3 hgl hz2)
    have R3 : Hid (Rem w3 g s ([] ++ restL f inner tail its2 0 its2[0])) := Lib.hid (by
      unfold restL
      rw [HC1.out]
      exact hr3)
    clear hr3 hg3
    obtain ⟨i0, hi0, hz0, hzz1, hzz2⟩ := info_parts info_val
    go_wp2
    go_loopg [] its2.length (fun gk wr => ∃ (i : Nat) (cv : Value) (css : List (List Value)) (spc : List UInt8), i + gk = its2.length ∧ Hid (LInv w g w2.heap.size s its2 i cv css wr) ∧ Hid (∃ hi : i < its2.length, Blank spc ∧ Rem wr g s (spc ++ restL f inner tail its2 i its2[i])))
    case atStart => exact ⟨0, .slice none 0 0, [], [], by omega, I3, Lib.hid ⟨hpos, (fun _ h => by cases h), R3.out⟩⟩
    case round =>
      obtain ⟨i, cv, css, spc, hi, HI, HR⟩ := hrel
      obtain ⟨hlt, hspc, hrr⟩ := HR.out
      obtain ⟨b2, _⟩ := hrr.bad
      have HX := Lib.hid (fun (W : World) (hb : Below wr.heap.size wr W) => IH.out its2[i] g s inner spc (sep (its2.drop (i + 1)) ++ (10 :: (seqL f inner (its2.drop (i + 1)) ++ tail))) W (depth - 1) (HITS.out i hlt) (HQI.out i hlt) (by omega) (by omega) hspc HINN.out (by
        rw [HFF.out]
        exact hrr.up hb))
      have n4 : wr.cell? ⟨w2.heap.size, 4, none⟩ = some cv := (blk_cell HI.out.out 4).trans rfl
      have S0 : wr.drew.cell? ⟨w2.heap.size, 4, none⟩ = some cv := n4
      have hzr := HI.out.size
      clear hspc hrr n4
      go_upto_region 14 with fail
      refine AnyT.begin (L := 9) (n := 10) (S := fun w' => w'.cell? ⟨w2.heap.size, 4, none⟩ = some cv) (by kernel_rfl) rfl ?_
      refine AnyT.takeY (i := 0) (d := some 39) (v := ?_) rfl rfl (by kernel_rfl) (by kernel_rfl) (by kernel_rfl) (fun _ _ _ h => h) (by rfl) ?_ ?_
      rotate_left
      · intro W
        go_simp
        with_reducible rfl
      try simp only [Act.put, List.setIfInBounds_toArray, List.set_cons_zero, List.set_cons_succ]
      refine AnyT.takeS (i := 1) (d := some 40) (v := ?_) rfl rfl (by kernel_rfl) (by kernel_rfl) (by kernel_rfl) (by kernel_rfl) (fun _ _ _ h => h) (by rfl) (by assumption) ?_ ?_
      rotate_left
      · intro W hSw
        try dsimp only at hSw
        go_simp
        with_reducible rfl
      try simp only [Act.put, List.setIfInBounds_toArray, List.set_cons_zero, List.set_cons_succ]
      refine AnyT.takeY (i := 2) (d := some 41) (v := ?_) rfl rfl (by kernel_rfl) (by kernel_rfl) (by kernel_rfl) (fun _ _ _ h => h) (by rfl) ?_ ?_
      rotate_left
      · intro W
        go_simp
        with_reducible rfl
      try simp only [Act.put, List.setIfInBounds_toArray, List.set_cons_zero, List.set_cons_succ]
      refine AnyT.takeY (i := 3) (d := some 42) (v := ?_) rfl rfl (by kernel_rfl) (by kernel_rfl) (by kernel_rfl) (fun _ _ _ h => h) (by rfl) ?_ ?_
      rotate_left
      · intro W
        go_simp
        with_reducible rfl
      try simp only [Act.put, List.setIfInBounds_toArray, List.set_cons_zero, List.set_cons_succ]
      refine AnyT.takeY (i := 4) (d := some 43) (v := ?_) rfl rfl (by kernel_rfl) (by kernel_rfl) (by kernel_rfl) (fun _ _ _ h => h) (by rfl) ?_ ?_
      rotate_left
      · intro W
        go_simp
        with_reducible rfl
      try simp only [Act.put, List.setIfInBounds_toArray, List.set_cons_zero, List.set_cons_succ]
      clear S0
      refine AnyT.one (i := 5) rfl (by kernel_rfl) (fun K' hK => ?_)
      go_simp
      go_at_call 12
      refine (HX.out _ (up_drew (Below.refl _ _))).mono ?_
      rintro e w4 ⟨cs, rfl, hv4, hr4, hg4⟩
      obtain ⟨ka, ia, kc, ic, rfl⟩ := hv4.shape
      have HV4 : Hid (VA (onS w4 fun k => wr.heap.size ≤ k ∧ k < w4.heap.size) its2[i] _) := Lib.hid hv4
      have HR4 := Lib.hid hr4
      have HG4 : Hid (wr.grownBy w4 (some g)) := Lib.hid (grown_trans (grown_below (some g) (up_drew (Below.refl _ _))) hg4)
      clear hv4 hr4 hg4
      have O4 := Lib.hid (HI.out.keep HG4.out hgl hz2).row.own
      have C4 := Lib.hid (HI.out.keep HG4.out hgl hz2).out
      have S4 : w4.cell? ⟨w2.heap.size, 4, none⟩ = some cv := (blk_cell C4.out 4).trans rfl
      have hz4 : w2.heap.size + 1 ≤ w4.heap.size := by have := HG4.out.size; omega
      go_wp2_with fail
      refine hK.out _ _ (fun _ _ => S4) ?_
      clear hK K'
      try simp only [Act.put, List.setIfInBounds_toArray, List.set_cons_zero, List.set_cons_succ]
      refine AnyT.one (i := 6) rfl (by kernel_rfl) (fun K' hK => ?_)
      go_simp
      refine hK.out _ _ (fun _ _ => cell_up (up_alloc (Below.refl _ _) _) _ _ S4) ?_
      clear hK K'
      try simp only [Act.put, List.setIfInBounds_toArray, List.set_cons_zero, List.set_cons_succ]
      refine AnyT.one (i := 7) rfl (by kernel_rfl) (fun K' hK => ?_)
      refine step_append_lies _ (by rfl) _ _ _ (by rfl) (w2.heap.size + 1) 25 i0 _ 5 80 Tryd.underlying23 hi0 hz0 hzz1 hzz2 rfl (by omega) cv i css.flatten (by rfl) ((O4.out).alloc _)
        ⟨w4.heap.size, 0, none⟩ 1 1 [.int .i64 its2[i].kind, .int .i64 its2[i].num, .string its2[i].text, .slice ka its2[i].keys.length kc, .slice ia its2[i].items.length ic] (by rfl) (by rfl)
        (World.news_of_block (cs := #[.int .i64 its2[i].kind, .int .i64 its2[i].num, .string its2[i].text, .slice ka its2[i].keys.length kc, .slice ia its2[i].items.length ic]) (t := 25) (fr := (0, 0)) (heap_alloc_new w4 _)) (by simp [Value.oneCell'])
        (by omega) (by unfold maxLen; omega) (by omega) (by simp; omega) (w4.heap.size + 1) (by simp) ?_
      intro gg cap w5 hown5 hgrow5 hat5 hlt5
      have G1 := Lib.hid hown5
      have G2 := Lib.hid hgrow5
      have G3 := Lib.hid hat5
      have N5 := Lib.hid (blk_own (w1 := w5) (blk_up C4.out (up_alloc (Below.refl _ _) _)) ((O4.out).alloc _) (by omega) hgrow5)
      clear hown5 hgrow5 hat5 hlt5
      have r6 : w5.cell? ⟨w2.heap.size, 4, none⟩ = some cv := (blk_cell N5.out 4).trans rfl
      have r6' : w5.frozen? ⟨w2.heap.size, 4, none⟩ = false := blk_frozen N5.out 4
      refine hK.out _ _ (fun _ _ => r6) ?_
      clear hK K'
      try simp only [Act.put, List.setIfInBounds_toArray, List.set_cons_zero, List.set_cons_succ]
      refine AnyT.takeY (i := 8) (d := some 47) (v := ?_) rfl rfl (by kernel_rfl) (by kernel_rfl) (by kernel_rfl) (fun _ _ _ h => h) (by rfl) ?_ ?_
      rotate_left
      · intro W
        go_simp
        with_reducible rfl
      try simp only [Act.put, List.setIfInBounds_toArray, List.set_cons_zero, List.set_cons_succ]
      refine AnyT.one (i := 9) rfl (by kernel_rfl) (fun K' hK => ?_)
      go_simp
      refine hK.out _ _ (fun _ h => absurd rfl h) ?_
      clear hK K'
      refine AnyT.end (by kernel_rfl) ?_ _
      try simp only [Act.put, List.setIfInBounds_toArray, List.set_cons_zero, List.set_cons_succ]
      have INEW := Lib.hid (HI.out.step hlt hgl hz2 HG4.out HV4.out G1.out G2.out G3.out)
      have HRW := Lib.hid (HR4.out.far INEW.out.2.symm)
      clear r6 r6' S4
      generalize w5.setCell ⟨w2.heap.size, 4, none⟩ (.slice (some ⟨gg, 0, none⟩) (i + 1) cap) = w6 at INEW HRW ⊢
      rcases Nat.lt_or_ge (i + 1) its2.length with hl | hl
      · -- one more
        have HS := Lib.hid (sep_more (xs := its2) (i := i) hl)
        have HT6 := Lib.hid (take_no g s [] (10 :: (seqL f inner (its2.drop (i + 1)) ++ tail)) 44 93 w6 (by decide) (fun _ h => by cases h) (by decide) (by have h := HRW.out; rw [HS.out] at h; simpa using h))
        go_wp2_with fail
        go_at_call 22
        refine HT6.out.mono ?_
        rintro e w7 ⟨rfl, hr7, hg7⟩
        have I7 := Lib.hid (INEW.out.1.keep hg7 hgl hz2)
        have HN7 := Lib.hid (need_any g s [] (10 :: (seqL f inner (its2.drop (i + 1)) ++ tail)) 44 44 w7 rfl (fun _ h => by cases h) (by decide) hr7)
        clear hr7 hg7
        go_wp2_with fail
        go_at_call 21
        refine HN7.out.mono ?_
        rintro e w8 ⟨rfl, hr8, hg8⟩
        have I8 := Lib.hid (I7.out.keep hg8 hgl hz2)
        have R8 : Hid (Rem w8 g s ((10 :: inner) ++ restL f inner tail its2 (i + 1) its2[i + 1])) := Lib.hid (by
          have h := hr8
          rw [seqL_at f inner hl] at h
          simpa [restL] using h)
        clear hr8 hg8
        go_wp2
        go_roundg (its2.length - (i + 1))
        case measure => omega
        case rel => exact ⟨i + 1, _, _, 10 :: inner, by omega, I8, Lib.hid ⟨hl, HINN.out.nl, R8.out⟩⟩
      · -- the last
        have hil : i + 1 = its2.length := by omega
        have HS := Lib.hid (sep_last (xs := its2) (i := i) hil)
        have HE := Lib.hid (seqL_end f inner (xs := its2) (i := i + 1) (by omega))
        have HT6 := Lib.hid (take_yes g s (10 :: ind) l 93 93 w6 rfl HIND.out.nl (by decide) (by have h := HRW.out; rw [HS.out, HE.out, ← HTAIL.out] at h; simpa using h))
        go_wp2_with fail
        go_at_call 22
        refine HT6.out.mono ?_
        rintro e w7 ⟨rfl, hr7, hg7⟩
        have I7 := Lib.hid (INEW.out.1.keep hg7 hgl hz2)
        have R7 := Lib.hid hr7
        have Z3 := Lib.hid I7.out.zero
        have o4 : w7.cell? ⟨w2.heap.size, 4, none⟩ = some (.slice (some ⟨gg, 0, none⟩) (i + 1) cap) := (blk_cell I7.out.out 4).trans rfl
        have HIL := Lib.hid hil
        clear hr7 hg7 hil hl
        have q0 : w7.cell? ⟨w.heap.size, 0, none⟩ = some (.int .i64 0) := (blk_cell Z3.out 0).trans rfl
        have q1 : w7.cell? ⟨w.heap.size, 1, none⟩ = some (.int .i64 0) := (blk_cell Z3.out 1).trans rfl
        have q2 : w7.cell? ⟨w.heap.size, 2, none⟩ = some (.string ⟨#[]⟩) := (blk_cell Z3.out 2).trans rfl
        have q3 : w7.cell? ⟨w.heap.size, 3, none⟩ = some (.slice none 0 0) := (blk_cell Z3.out 3).trans rfl
        have q4 : w7.cell? ⟨w.heap.size, 4, none⟩ = some (.slice none 0 0) := (blk_cell Z3.out 4).trans rfl
        have p0 : w7.frozen? ⟨w.heap.size, 0, none⟩ = false := blk_frozen Z3.out 0
        have p1 : w7.frozen? ⟨w.heap.size, 1, none⟩ = false := blk_frozen Z3.out 1
        have p2 : w7.frozen? ⟨w.heap.size, 2, none⟩ = false := blk_frozen Z3.out 2
        have p3 : w7.frozen? ⟨w.heap.size, 3, none⟩ = false := blk_frozen Z3.out 3
        have p4 : w7.frozen? ⟨w.heap.size, 4, none⟩ = false := blk_frozen Z3.out 4
        have o0 : w7.cell? ⟨w2.heap.size, 0, none⟩ = some (.int .i64 4) := (blk_cell I7.out.out 0).trans rfl
        have o1 : w7.cell? ⟨w2.heap.size, 1, none⟩ = some (.int .i64 0) := (blk_cell I7.out.out 1).trans rfl
        have o2 : w7.cell? ⟨w2.heap.size, 2, none⟩ = some (.string ⟨#[]⟩) := (blk_cell I7.out.out 2).trans rfl
        have o3 : w7.cell? ⟨w2.heap.size, 3, none⟩ = some (.slice none 0 0) := (blk_cell I7.out.out 3).trans rfl
        go_wp2
        refine ret_val rfl rfl rfl (set5 Z3.out _ _ _ _ _) (give5 R7.out I7.out.grown hgl (by rw [HITS2.out]; exact list_val I7.out.row HIL.out hz2 h60))
end Go.Proofs.YtkafelcnpnlbfaaDoor
