/- turned's function over all items of a list or a map, with Normal. -/
import Derived.Test.YthdnkcofcbinhaaGreatDoorGnJ
import Derived.Test.YthdnkcofcbinhaaGreatDoorKwJ
import Derived.Test.YthdnkcofcbinhaaGreatDoorOnJ
import Derived.Test.YthdnkcofcbinhaaGreatDoorProg
import Derived.Deep.Cut
import Derived.Deep.CutRange
set_option linter.unusedVariables false
set_option linter.unusedSimpArgs false
namespace Go.Proofs.YthdnkcofcbinhaaGreatDoor
open Go.RowKit

theorem info_val : (Tryz.prog.info? 25).map (fun i => (i.zero, i.size, i.bytes)) = some (some (.agg #[.int .i64 0, .int .i64 0, .string ⟨#[]⟩, .slice none 0 0, .slice none 0 0]), 5, 80) := by kernel_rfl
theorem size_val : (Tryz.prog.info? 25).map (·.size) = some 5 := by kernel_rfl

/-- The five cells of a block, written anew. -/
theorem set5 {w : World} {r : Nat} {a0 a1 a2 a3 a4 : Value} {t : TypeId} (h : w.heap[r]? = some (.cells #[a0, a1, a2, a3, a4] t (0, 0))) (b0 b1 b2 b3 b4 : Value) :
    (((((w.setCell ⟨r, 0, none⟩ b0).setCell ⟨r, 1, none⟩ b1).setCell ⟨r, 2, none⟩ b2).setCell ⟨r, 3, none⟩ b3).setCell ⟨r, 4, none⟩ b4).heap[r]? = some (.cells #[b0, b1, b2, b3, b4] t (0, 0)) := by
  simp only [World.setCell, Array.getElem?_modify, if_true, h]
  rfl
theorem set5_far {w : World} {r k : Nat} (h : k ≠ r) (b0 b1 b2 b3 b4 : Value) :
    (((((w.setCell ⟨r, 0, none⟩ b0).setCell ⟨r, 1, none⟩ b1).setCell ⟨r, 2, none⟩ b2).setCell ⟨r, 3, none⟩ b3).setCell ⟨r, 4, none⟩ b4).heap[k]? = w.heap[k]? := by
  rw [Below.heap_setCell _ _ _ _ h, Below.heap_setCell _ _ _ _ h, Below.heap_setCell _ _ _ _ h, Below.heap_setCell _ _ _ _ h, Below.heap_setCell _ _ _ _ h]
theorem set5_below {w : World} {B r : Nat} (h : B ≤ r) (b0 b1 b2 b3 b4 : Value) :
    Below B w (((((w.setCell ⟨r, 0, none⟩ b0).setCell ⟨r, 1, none⟩ b1).setCell ⟨r, 2, none⟩ b2).setCell ⟨r, 3, none⟩ b3).setCell ⟨r, 4, none⟩ b4) :=
  (((((Below.refl B w).setCell h b0).setCell h b1).setCell h b2).setCell h b3).setCell h b4

theorem set5_size (w : World) (r : Nat) (b0 b1 b2 b3 b4 : Value) : (((((w.setCell ⟨r, 0, none⟩ b0).setCell ⟨r, 1, none⟩ b1).setCell ⟨r, 2, none⟩ b2).setCell ⟨r, 3, none⟩ b3).setCell ⟨r, 4, none⟩ b4).heap.size = w.heap.size := by simp [World.setCell]

/-- A method's Value is given back. -/
theorem ret_val {fn : Func} {p : Tmp} {R : Ending → World → Prop} {a : Act} {w : World} {r : Nat} {a0 a1 a2 a3 a4 : Value} (hf : fn.results = #[.cell p 25]) (hp : a.tmps.getD p undef = .pointer (some ⟨r, 0, none⟩)) (hd : a.defers = [])
    (hg : w.heap[r]? = some (.cells #[a0, a1, a2, a3, a4] 25 (0, 0))) (hR : R (.returned (.agg #[a0, a1, a2, a3, a4])) w) : bodyPost Tryz.prog fn R .ret a w :=
  bodyPost_ret (results_cell_row hf _ _ r 25 _ (0, 0) _ hp hg Tryz.underlying25 rfl size_val) hd hR


theorem info_str : (Tryz.prog.info? 9).map (fun i => (i.zero, i.size, i.bytes)) = some (some (.string ⟨#[]⟩), 1, 16) := by kernel_rfl

/-- What a function that turns a Value gives. -/
def GivesVA (S : Nat → Prop) (x : Dat) (w : World) (e : Ending) (w' : World) : Prop :=
  ∃ cs, e = .returned (.agg cs.toArray) ∧ VA (onS w' fun k => S k ∨ (w.heap.size ≤ k ∧ k < w'.heap.size)) x cs ∧ Below w.heap.size w w'

section
variable {P : Program} {ops : Array Oper} {Q : Exit → Act → World → Prop} {md : Region.Mode} {S : World → Prop} {L : Nat}
/-- Two operations may come up: either way is walked. -/
theorem AnyT.two {i j : Nat} {oi oj : Oper} {n : Nat} {done : Array Bool} {a : Act} {w : World} (hi : ops[i]? = some oi) (hj : ops[j]? = some oj) (hr : Region.ready md ops done = [i, j])
    (h1 : ∀ K' : Act → World → Prop, Shut (∀ a' w', (S w → i ≠ L → S w') → AnyT P md ops Q S L n (done.setIfInBounds i true) a' w' → K' a' w') → if Region.wanted oi (yielded ops a.tmps) = true then Oper.wp P oi a w K' Q else K' (a.put oi.dst undef) w)
    (h2 : ∀ K' : Act → World → Prop, Shut (∀ a' w', (S w → j ≠ L → S w') → AnyT P md ops Q S L n (done.setIfInBounds j true) a' w' → K' a' w') → if Region.wanted oj (yielded ops a.tmps) = true then Oper.wp P oj a w K' Q else K' (a.put oj.dst undef) w) :
    AnyT P md ops Q S L (n + 1) done a w := by
  refine ⟨fun h0 => (by rw [hr] at h0; cases h0), fun k hk => ?_⟩
  rw [hr] at hk
  rcases (by simpa using hk : k = i ∨ k = j) with rfl | rfl
  · exact wpOp_step hi (fun K' hK => h1 K' (fun a' w' hs ht => hK a' w' ⟨hs, ht⟩))
  · exact wpOp_step hj (fun K' hK => h2 K' (fun a' w' hs ht => hK a' w' ⟨hs, ht⟩))
end

/-- A row of strings behind an empty slice of the call's own. -/
theorem run_append_keys {P : Program} (w : World) (t ty e : TypeId) (i : TypeInfo) (z : Value) (bytes : Nat) (ht : P.underlying t = some (.slice e)) (hi : P.info? e = some i) (hz : i.zero = some z) (hsize : i.size = 1) (hby : i.bytes = bytes) (hzs : z.cells.size = 1)
    (base g0 c0 : Nat) (hown : w.ownsRow base e 1 (.slice (some ⟨g0, 0, none⟩) 0 c0) 0 []) (ka : Option Addr) (kc : Nat) (ks : List ByteArray) (hk : StrsAt w ka ks) (hkc : ks.length ≤ kc) (hbytes : ks.length * bytes ≤ 140737488355328) (h63 : ks.length ≤ maxLen) (hbase : base ≤ w.heap.size) :
    ∃ cv w', (Builtin.append_ #[t, t] ty #[.slice (some ⟨g0, 0, none⟩) 0 c0, .slice ka ks.length kc]).run P w = .ok cv w' ∧ w'.ownsRow base e 1 cv ks.length (ks.map Value.string) ∧ w.grownBy w' (some g0) ∧ (cv.ownBlock = some g0 ∨ cv.ownBlock = some w.heap.size) := by
  rcases Nat.eq_zero_or_pos ks.length with h0 | h0
  · obtain rfl : ks = [] := List.length_eq_zero_iff.1 h0
    cases ka with
    | none =>
      refine ⟨.slice (some ⟨g0, 0, none⟩) 0 c0, w, ?_, hown, ⟨rfl, rfl, rfl, Nat.le_refl _, fun _ _ _ => rfl⟩, .inl rfl⟩
      simp [Builtin.append_, run_underlying ht, sizeOf, typeInfo, hi, Builtin.lenOf, Builtin.firstCells, storeCells]
    | some a =>
      obtain ⟨w', hr, h2, h3⟩ := run_append_fits (P := P) w base t ty e i 1 ht hi hsize g0 0 c0 [] hown a 0 kc [] rfl (fun j u h => by simp at h) (fun u h => by cases h) (by omega)
      exact ⟨_, w', hr, h2, h3, .inl rfl⟩
  · obtain ⟨hsz, b, o, rfl, _⟩ := hk 0 h0
    have hcells : ∀ j u, (ks.map Value.string)[j]? = some u → w.cell? ((⟨b, o, none⟩ : Addr).add j) = some u := by
      intro j u hu
      have hj : j < ks.length := by have := (List.getElem?_eq_some_iff.1 hu).1; simpa using this
      obtain ⟨_, b', o', e, hc⟩ := hk j hj
      cases e
      have e2 : (⟨b, o, none⟩ : Addr).add j = ⟨b, o + j, none⟩ := by
        unfold Addr.add
        split
        · rename_i h
          subst h
          rfl
        · rfl
      rw [e2, hc]
      have : (ks.map Value.string)[j]? = some (.string ks[j]) := by simp [hj]
      rw [← this]
      exact hu
    obtain ⟨g, cap, w', hr, h2, h3, h4, _⟩ := run_append_lies (P := P) w t ty base e i z 1 bytes ht hi hz hsize hby hzs (by omega) _ 0 [] hown ⟨b, o, none⟩ ks.length kc (ks.map Value.string) (by simp) hcells (by simp [Value.oneCell']) h0 (by omega) (by rw [Nat.zero_add]; exact hbytes) hbase w.heap.size rfl
    refine ⟨_, w', hr, by simpa using h2, h3, ?_⟩
    rcases h4 with h4 | h4
    · simp only [Value.ownBlock, Option.some.injEq] at h4 ⊢
      exact .inl h4.symm
    · exact .inr (by rw [h4]; rfl)
/-- At a step of a region that draws its order. -/
theorem step_append_keys {P : Program} {ops : Array Oper} {o : Oper} {a : Act} {w : World} {K : Act → World → Prop} {Q : Exit → Act → World → Prop} {E : Prop} (hgd : o.guard = none) (s x : Operand) (t : TypeId)
    (ho : o.op = .call { callee := .builtin .append, args := #[s, x], argTypes := #[t, t] })
    (e : TypeId) (i : TypeInfo) (z : Value) (bytes : Nat) (ht : P.underlying t = some (.slice e)) (hi : P.info? e = some i) (hz : i.zero = some z) (hsize : i.size = 1) (hby : i.bytes = bytes) (hzs : z.cells.size = 1)
    (base g0 c0 : Nat) (hs : a.eval s = .slice (some ⟨g0, 0, none⟩) 0 c0) (hown : w.ownsRow base e 1 (.slice (some ⟨g0, 0, none⟩) 0 c0) 0 []) (ka : Option Addr) (kc : Nat) (ks : List ByteArray) (hx : a.eval x = .slice ka ks.length kc) (hk : StrsAt w ka ks) (hkc : ks.length ≤ kc)
    (hbytes : ks.length * bytes ≤ 140737488355328) (h63 : ks.length ≤ maxLen) (hbase : base ≤ w.heap.size)
    (h : ∀ cv w', w'.ownsRow base e 1 cv ks.length (ks.map Value.string) → w.grownBy w' (some g0) → (cv.ownBlock = some g0 ∨ cv.ownBlock = some w.heap.size) → K (a.put o.dst cv) w') :
    if Region.wanted o (yielded ops a.tmps) = true then Oper.wp P o a w K Q else E := by
  have hw : Region.wanted o (yielded ops a.tmps) = true := by simp [Region.wanted, hgd]
  rw [if_pos hw]
  obtain ⟨cv, w', hr, h2, h3, h4⟩ := run_append_keys (P := P) w t o.type e i z bytes ht hi hz hsize hby hzs base g0 c0 hown ka kc ks hk hkc hbytes h63 hbase
  unfold Oper.wp execOp
  simp only [ho, resolve, invoke, builtin, Sem.run_bind, Sem.run_pure, Result.andThen_ok, List.map_toArray, List.map_cons, List.map_nil, hs, hx, hr]
  exact h cv w' h2 h3 h4

/-- A Value begins: its keys are there, no item yet. -/
theorem ZInv.begin {w wr : World} {S : Nat → Prop} {ob : Nat} {kind : Int} {ks : List ByteArray} {kv : Value} (h1 : wr.heap[ob]? = some (outBlk kind kv (.slice none 0 0))) (h2 : wr.ownsRow w.heap.size 9 1 kv ks.length (ks.map Value.string)) (h3 : kv.ownBlock ≠ some ob) (h4 : w.heap.size ≤ ob) (h5 : Below w.heap.size w wr) :
    ZInv w S ob kind ks [] kv (.slice none 0 0) [] wr :=
  ⟨h1, h2, World.ownsRow_nil _ _ _ _, rfl, fun j h => absurd h (Nat.not_lt_zero _), fun k _ h => by simp [Value.ownBlock] at h, h3, by simp [Value.ownBlock], h4, blk_lt h1, h5⟩

/-- The items so far. -/
def allTo (f : Dat → Dat) (x : Dat) (i : Nat) : List Dat := (x.items.take i).map fun y => if y.kind = 5 then f y else y
theorem allTo_succ {f : Dat → Dat} {x : Dat} {i : Nat} (h : i < x.items.length) : allTo f x (i + 1) = allTo f x i ++ [if x.items[i].kind = 5 then f x.items[i] else x.items[i]] := by
  unfold allTo
  rw [take_succ_get (List.getElem?_eq_getElem h), List.map_append]
  rfl
theorem allTo_len {f : Dat → Dat} {x : Dat} {i : Nat} (h : i ≤ x.items.length) : (allTo f x i).length = i := by
  unfold allTo
  rw [List.length_map, List.length_take]
  omega
theorem allTo_all {f : Dat → Dat} {x : Dat} : allTo f x x.items.length = (allD f x).items := by
  unfold allTo
  rw [List.take_of_length_le (Nat.le_refl _)]
  rfl

def zero5v : Obj := .cells #[.int .i64 0, .int .i64 0, .string ⟨#[]⟩, .slice none 0 0, .slice none 0 0] 25 (0, 0)

theorem set5_up {w W : World} {B r : Nat} (hw : Below B w W) (h : B ≤ r) (b0 b1 b2 b3 b4 : Value) :
    Below B w (((((W.setCell ⟨r, 0, none⟩ b0).setCell ⟨r, 1, none⟩ b1).setCell ⟨r, 2, none⟩ b2).setCell ⟨r, 3, none⟩ b3).setCell ⟨r, 4, none⟩ b4) :=
  ((((hw.setCell h b0).setCell h b1).setCell h b2).setCell h b3).setCell h b4
theorem own_slice {w : World} {base : Nat} {e : TypeId} {size : Nat} {v : Value} {n : Nat} {xs : List Value} (h : w.ownsRow base e size v n xs) : ∃ A m c, v = .slice A m c := by
  rcases h.2 with ⟨hv, _⟩ | ⟨q, cap, cur, hv, _⟩
  · exact ⟨_, _, _, hv⟩
  · exact ⟨_, _, _, hv⟩
theorem z_start {w1 w3 : World} {S : Nat → Prop} {ob : Nat} {kind : Int} {ks : List ByteArray} {kv : Value} (h1 : w3.heap[ob]? = some zero5v) (h2 : w3.ownsRow w1.heap.size 9 1 kv ks.length (ks.map Value.string)) (h3 : kv.ownBlock ≠ some ob) (h4 : w1.heap.size ≤ ob) (h5 : Below w1.heap.size w1 w3) :
    ZInv w1 S ob kind ks [] kv (.slice none 0 0) [] (((((w3.setCell ⟨ob, 0, none⟩ (.int .i64 kind)).setCell ⟨ob, 1, none⟩ (.int .i64 0)).setCell ⟨ob, 2, none⟩ (.string ⟨#[]⟩)).setCell ⟨ob, 3, none⟩ kv).setCell ⟨ob, 4, none⟩ (.slice none 0 0)) :=
  ZInv.begin (set5 h1 _ _ _ _ _) (own_same h2 (fun k hk => set5_far (by rintro rfl; exact h3 hk) _ _ _ _ _)) h3 h4 (Below.setCell (Below.setCell (Below.setCell (Below.setCell (Below.setCell h5 h4 _) h4 _) h4 _) h4 _) h4 _)
theorem grown_of {w w' : World} {g : Nat} (h : w.grownBy w' (some g)) {B : Nat} (hB : B ≤ g) (hs : B ≤ w.heap.size) : Below B w w' := ⟨h.os, h.tape, h.output, h.size, fun k hk => h.block k (by omega) (by simp; omega)⟩

set_option maxRecDepth 100000 in
set_option maxHeartbeats 8000000 in
theorem all_norm (f : Dat → Dat) (S : Nat → Prop) (x : Dat) (b0 b1 : Nat) (w : World) (cs : List Value) (hS : ∀ k, S k → k < w.heap.size) (hv : VA (onS w S) x cs) (hb0 : w.heap[b0]? = some (.cells cs.toArray 25 (0, 0)))
    (hb1 : w.heap[b1]? = some (.cells #[.func (.func 8) #[] #[]] 28 (0, 0))) (h60 : x.items.length ≤ 60) (hk60 : x.keys.length ≤ 60)
    (hN : ∀ i (h : i < x.items.length) (W : World) (cs : List Value), Below w.heap.size w W → VA (onS W S) x.items[i] cs → Calls Tryz.prog 8 #[.agg cs.toArray] W (GivesVA S (f x.items[i]) W)) :
    Calls Tryz.prog 25 #[.pointer (some ⟨b0, 0, none⟩), .pointer (some ⟨b1, 0, none⟩)] w (GivesVA S (allD f x) w) := by
  have HKS : Hid (∀ k ∈ x.keys, k.size ≤ maxLen) := Lib.hid (by
    obtain ⟨ka, ia, kc, ic, _, _, hk, _⟩ := hv.inv
    intro k hk2
    obtain ⟨i, hi, rfl⟩ := List.getElem_of_mem hk2
    exact (hk i hi).1)
  obtain ⟨ka, ia, kc, ic, rfl, ht, hk, hkc, hkm, hic, him, hit⟩ := hv.inv
  have HS := Lib.hid hS
  have HIT := Lib.hid hit
  have HK := Lib.hid hk
  have HN := Lib.hid hN
  have HB0 := Lib.hid hb0
  have HB1 := Lib.hid hb1
  clear hS hit hk hN hv hb0 hb1
  obtain ⟨i0, hi0, hz0, hzz1, hzz2⟩ := info_parts info_val
  obtain ⟨is, his0, his1, his2, his3⟩ := info_parts info_str
  go_enter Tryz.func25, Tryz.ntmps25
  go_upto_region 1 with fail
  go_cut [3] from 6 to 12 (fun t3 wc => ∃ (ob : Nat) (kv : Value), t3 = .pointer (some ⟨ob, 0, none⟩) ∧ Hid (ZInv (w.alloc zero5v) S ob x.kind x.keys [] kv (.slice none 0 0) [] wc))
  case first =>
    have HX := Lib.hid (fun W (hb : Below w.heap.size w W) (j : Nat) (u : Value) (hu : #[(Value.int .i64 x.kind), .int .i64 x.num, .string x.text, .slice ka x.keys.length kc, .slice ia x.items.length ic][j]? = some u) => show W.cell? ⟨b0, j, none⟩ = some u from (blk_cell (blk_up HB0.out hb) j).trans hu)
    have HSS : Hid (∀ W, Below w.heap.size w W →
      W.cell? ⟨b0, 0, none⟩ = some (.int .i64 x.kind) ∧ W.cell? ⟨b0, 3, none⟩ = some (.slice ka x.keys.length kc)
      ) := Lib.hid (fun W hb => ⟨HX.out W hb 0 _ rfl, HX.out W hb 3 _ rfl⟩)
    refine AnyT.begin (L := 8) (n := 9) (S := fun w' =>
      w'.cell? ⟨b0, 0, none⟩ = some (.int .i64 x.kind) ∧ w'.cell? ⟨b0, 3, none⟩ = some (.slice ka x.keys.length kc)
      ) (by kernel_rfl) rfl ?_
    have HW1 : Hid (Below (w.alloc zero5v).heap.size (w.alloc zero5v) (w.alloc zero5v).drew) := Lib.hid (up_drew (Below.refl _ _))
    have HW : Hid (Below w.heap.size w (w.alloc zero5v).drew) := Lib.hid (up_drew (up_alloc (Below.refl _ _) _))
    have HZ : Hid ((w.alloc zero5v).drew.heap.size = (w.alloc zero5v).heap.size) := Lib.hid rfl
    have HZ0 : Hid ((w.alloc zero5v).heap.size = w.heap.size + 1) := Lib.hid (by simp)
    change AnyT _ _ _ _ _ _ _ _ _ (w.alloc zero5v).drew
    generalize (w.alloc zero5v).drew = w0 at HW1 HW HZ ⊢
    have S0 := HSS.out _ HW.out
    refine AnyT.takeY (i := 0) (d := some 6) (v := ?_) rfl rfl (by kernel_rfl) (by kernel_rfl) (by kernel_rfl) (fun _ _ _ h => h) (by rfl) ?_ ?_
    rotate_left
    · intro W
      go_simp
      with_reducible rfl
    try simp only [Act.put, List.setIfInBounds_toArray, List.set_cons_zero, List.set_cons_succ]
    refine AnyT.takeS (i := 1) (d := some 7) (v := ?_) rfl rfl (by kernel_rfl) (by kernel_rfl) (by kernel_rfl) (by kernel_rfl) (fun _ _ _ h => h) (by rfl) (by assumption) ?_ ?_
    rotate_left
    · intro W hSw
      try dsimp only at hSw
      go_simp
      with_reducible rfl
    try simp only [Act.put, List.setIfInBounds_toArray, List.set_cons_zero, List.set_cons_succ]
    refine AnyT.takeY (i := 3) (d := some 9) (v := ?_) rfl rfl (by kernel_rfl) (by kernel_rfl) (by kernel_rfl) (fun _ _ _ h => h) (by rfl) ?_ ?_
    rotate_left
    · intro W
      go_simp
      with_reducible rfl
    try simp only [Act.put, List.setIfInBounds_toArray, List.set_cons_zero, List.set_cons_succ]
    refine AnyT.takeS (i := 4) (d := some 10) (v := ?_) rfl rfl (by kernel_rfl) (by kernel_rfl) (by kernel_rfl) (by kernel_rfl) (fun _ _ _ h => h) (by rfl) (by assumption) ?_ ?_
    rotate_left
    · intro W hSw
      try dsimp only at hSw
      go_simp
      with_reducible rfl
    try simp only [Act.put, List.setIfInBounds_toArray, List.set_cons_zero, List.set_cons_succ]
    clear S0
    have HKW : Hid (∀ W, Below w.heap.size w W → StrsAt W ka x.keys) := Lib.hid (fun W hb => HK.out.mono (fun a u h => cell_up hb _ _ (onS_whole a u h)))
    have hw0 : (w.alloc zero5v).heap.size ≤ w0.heap.size := by rw [HZ.out]; exact Nat.le_refl _
    have hn : w.heap.size + 1 = w0.heap.size := by rw [HZ.out, HZ0.out]
    have hn1 : (w.alloc zero5v).heap.size = w0.heap.size := HZ.out.symm
    refine AnyT.two (i := 2) (j := 7) rfl rfl (by kernel_rfl) (fun K' hK => ?_) (fun K' hK => ?_)
    · go_simp
      refine hK.out _ _ (fun _ _ => HSS.out _ (up_trans HW.out (up_alloc (Below.refl _ _) _))) ?_
      clear hK K'
      try simp only [Act.put, List.setIfInBounds_toArray, List.set_cons_zero, List.set_cons_succ]
      refine AnyT.two (i := 5) (j := 7) rfl rfl (by kernel_rfl) (fun K' hK => ?_) (fun K' hK => ?_)
      · skip
        refine step_append_keys rfl _ _ _ rfl 9 is _ 16 Tryz.underlying22 his0 his1 his2 his3 rfl (w.alloc zero5v).heap.size (w0.heap.size) 0 rfl (World.ownsRow_made w0 #[] 0 (by omega) (by unfold maxLen; omega) rfl) ka kc x.keys rfl (HKW.out _ (up_trans HW.out (up_alloc (Below.refl _ _) _))) hkc (by omega) (by unfold maxLen; omega) (by simp; omega) ?_
        intro kv w3 hown hgrow hat
        obtain ⟨kA, kM, kC, rfl⟩ := own_slice hown
        have HOWN := Lib.hid hown
        have HGROW := Lib.hid hgrow
        have HAT := Lib.hid hat
        have HB3 := Lib.hid (Below.grown (up_trans HW.out (up_alloc (Below.refl _ _) _)) hgrow (by simp; omega) (fun k hk => by simp at hk; omega))
        have HB31 := Lib.hid (Below.grown (up_trans HW1.out (up_alloc (Below.refl _ _) _)) hgrow (by simp; omega) (fun k hk => by simp at hk; omega))
        clear hown hgrow hat
        refine hK.out _ _ (fun _ _ => HSS.out _ HB3.out) ?_
        clear hK K'
        try simp only [Act.put, List.setIfInBounds_toArray, List.set_cons_zero, List.set_cons_succ]
        refine AnyT.takeY (i := 6) (d := some 12) (v := ?_) rfl rfl (by kernel_rfl) (by kernel_rfl) (by kernel_rfl) (fun _ _ _ h => h) (by rfl) ?_ ?_
        rotate_left
        · intro W
          go_simp
          with_reducible rfl
        try simp only [Act.put, List.setIfInBounds_toArray, List.set_cons_zero, List.set_cons_succ]
        refine AnyT.one (i := 7) rfl (by kernel_rfl) (fun K' hK => ?_)
        go_simp
        refine hK.out _ _ (fun _ _ => HSS.out _ (up_alloc HB3.out _)) ?_
        clear hK K'
        try simp only [Act.put, List.setIfInBounds_toArray, List.set_cons_zero, List.set_cons_succ]
        refine AnyT.one (i := 8) rfl (by kernel_rfl) (fun K' hK => ?_)
        go_simp
        refine hK.out _ _ (fun _ h => absurd rfl h) ?_
        clear hK K'
        refine AnyT.end (by kernel_rfl) ?_ _
        try simp only [Act.put, List.setIfInBounds_toArray, List.set_cons_zero, List.set_cons_succ]
        go_wp2
        go_meet
        case rel =>
          exact ⟨w3.heap.size, _, rfl, Lib.hid (ZInv.begin (blk_new w3 _) (HOWN.out.alloc _) (fun e => by have := (HOWN.out.lt _ e).2; omega) HB31.out.size (up_alloc HB31.out _))⟩
      · go_simp
        refine hK.out _ _ (fun _ _ => HSS.out _ (up_trans HW.out (up_alloc (up_alloc (Below.refl _ _) _) _))) ?_
        clear hK K'
        try simp only [Act.put, List.setIfInBounds_toArray, List.set_cons_zero, List.set_cons_succ]
        refine AnyT.one (i := 5) rfl (by kernel_rfl) (fun K' hK => ?_)
        refine step_append_keys rfl _ _ _ rfl 9 is _ 16 Tryz.underlying22 his0 his1 his2 his3 rfl (w.alloc zero5v).heap.size (w0.heap.size) 0 rfl ((World.ownsRow_made w0 #[] 0 (by omega) (by unfold maxLen; omega) rfl).alloc _) ka kc x.keys rfl (HKW.out _ (up_trans HW.out (up_alloc (up_alloc (Below.refl _ _) _) _))) hkc (by omega) (by unfold maxLen; omega) (by simp; omega) ?_
        intro kv w3 hown hgrow hat
        obtain ⟨kA, kM, kC, rfl⟩ := own_slice hown
        have HOWN := Lib.hid hown
        have HGROW := Lib.hid hgrow
        have HAT := Lib.hid hat
        have HB3 := Lib.hid (Below.grown (up_trans HW.out (up_alloc (up_alloc (Below.refl _ _) _) _)) hgrow (by simp; omega) (fun k hk => by simp at hk; omega))
        have HB31 := Lib.hid (Below.grown (up_trans HW1.out (up_alloc (up_alloc (Below.refl _ _) _) _)) hgrow (by simp; omega) (fun k hk => by simp at hk; omega))
        clear hown hgrow hat
        refine hK.out _ _ (fun _ _ => HSS.out _ HB3.out) ?_
        clear hK K'
        try simp only [Act.put, List.setIfInBounds_toArray, List.set_cons_zero, List.set_cons_succ]
        refine AnyT.takeY (i := 6) (d := some 12) (v := ?_) rfl rfl (by kernel_rfl) (by kernel_rfl) (by kernel_rfl) (fun _ _ _ h => h) (by rfl) ?_ ?_
        rotate_left
        · intro W
          go_simp
          with_reducible rfl
        try simp only [Act.put, List.setIfInBounds_toArray, List.set_cons_zero, List.set_cons_succ]
        have H1 := Lib.hid (show (w3).heap[w0.heap.size + 1]? = some zero5v from (HGROW.out.block _ (by simp) (by simp)).trans (by have := blk_new (w0.alloc (.cells #[] 9)) zero5v; simpa [zero5v] using this))
        have r0 : (w3).cell? ⟨w0.heap.size + 1, 0, none⟩ = some (.int .i64 0) := (blk_cell H1.out 0).trans rfl
        have r1 : (w3).cell? ⟨w0.heap.size + 1, 1, none⟩ = some (.int .i64 0) := (blk_cell H1.out 1).trans rfl
        have r2 : (w3).cell? ⟨w0.heap.size + 1, 2, none⟩ = some (.string ⟨#[]⟩) := (blk_cell H1.out 2).trans rfl
        have r3 : (w3).cell? ⟨w0.heap.size + 1, 3, none⟩ = some (.slice none 0 0) := (blk_cell H1.out 3).trans rfl
        have r4 : (w3).cell? ⟨w0.heap.size + 1, 4, none⟩ = some (.slice none 0 0) := (blk_cell H1.out 4).trans rfl
        have p0 : (w3).frozen? ⟨w0.heap.size + 1, 0, none⟩ = false := blk_frozen H1.out 0
        have p1 : (w3).frozen? ⟨w0.heap.size + 1, 1, none⟩ = false := blk_frozen H1.out 1
        have p2 : (w3).frozen? ⟨w0.heap.size + 1, 2, none⟩ = false := blk_frozen H1.out 2
        have p3 : (w3).frozen? ⟨w0.heap.size + 1, 3, none⟩ = false := blk_frozen H1.out 3
        have p4 : (w3).frozen? ⟨w0.heap.size + 1, 4, none⟩ = false := blk_frozen H1.out 4
        refine AnyT.one (i := 8) rfl (by kernel_rfl) (fun K' hK => ?_)
        go_simp
        refine hK.out _ _ (fun _ h => absurd rfl h) ?_
        clear hK K'
        refine AnyT.end (by kernel_rfl) ?_ _
        try simp only [Act.put, List.setIfInBounds_toArray, List.set_cons_zero, List.set_cons_succ]
        go_wp2
        go_meet
        case rel =>
          exact ⟨w0.heap.size + 1, _, rfl, Lib.hid (z_start H1.out (HOWN.out) (fun e => by rcases HAT.out with h | h <;> (rw [h] at e; simp at e; try omega)) (by omega) (HB31.out))⟩
    · go_simp
      refine hK.out _ _ (fun _ _ => HSS.out _ (up_trans HW.out (up_alloc (Below.refl _ _) _))) ?_
      clear hK K'
      try simp only [Act.put, List.setIfInBounds_toArray, List.set_cons_zero, List.set_cons_succ]
      refine AnyT.one (i := 2) rfl (by kernel_rfl) (fun K' hK => ?_)
      go_simp
      refine hK.out _ _ (fun _ _ => HSS.out _ (up_trans HW.out (up_alloc (up_alloc (Below.refl _ _) _) _))) ?_
      clear hK K'
      try simp only [Act.put, List.setIfInBounds_toArray, List.set_cons_zero, List.set_cons_succ]
      refine AnyT.one (i := 5) rfl (by kernel_rfl) (fun K' hK => ?_)
      refine step_append_keys rfl _ _ _ rfl 9 is _ 16 Tryz.underlying22 his0 his1 his2 his3 rfl (w.alloc zero5v).heap.size (w0.heap.size + 1) 0 rfl (by have := World.ownsRow_made (base := (w.alloc zero5v).heap.size) (e := 9) (size := 1) (w0.alloc zero5v) #[] 0 (by simp; omega) (by unfold maxLen; omega) rfl; simpa [zero5v] using this) ka kc x.keys rfl (HKW.out _ (up_trans HW.out (up_alloc (up_alloc (Below.refl _ _) _) _))) hkc (by omega) (by unfold maxLen; omega) (by simp; omega) ?_
      intro kv w3 hown hgrow hat
      obtain ⟨kA, kM, kC, rfl⟩ := own_slice hown
      have HOWN := Lib.hid hown
      have HGROW := Lib.hid hgrow
      have HAT := Lib.hid hat
      have HB3 := Lib.hid (Below.grown (up_trans HW.out (up_alloc (up_alloc (Below.refl _ _) _) _)) hgrow (by simp; omega) (fun k hk => by simp at hk; omega))
      have HB31 := Lib.hid (Below.grown (up_trans HW1.out (up_alloc (up_alloc (Below.refl _ _) _) _)) hgrow (by simp; omega) (fun k hk => by simp at hk; omega))
      clear hown hgrow hat
      refine hK.out _ _ (fun _ _ => HSS.out _ HB3.out) ?_
      clear hK K'
      try simp only [Act.put, List.setIfInBounds_toArray, List.set_cons_zero, List.set_cons_succ]
      refine AnyT.takeY (i := 6) (d := some 12) (v := ?_) rfl rfl (by kernel_rfl) (by kernel_rfl) (by kernel_rfl) (fun _ _ _ h => h) (by rfl) ?_ ?_
      rotate_left
      · intro W
        go_simp
        with_reducible rfl
      try simp only [Act.put, List.setIfInBounds_toArray, List.set_cons_zero, List.set_cons_succ]
      have H1 := Lib.hid (show (w3).heap[w0.heap.size]? = some zero5v from (HGROW.out.block _ (by simp; omega) (by simp)).trans (blk_up (blk_new w0 zero5v) (up_alloc (Below.refl _ _) _)))
      have r0 : (w3).cell? ⟨w0.heap.size, 0, none⟩ = some (.int .i64 0) := (blk_cell H1.out 0).trans rfl
      have r1 : (w3).cell? ⟨w0.heap.size, 1, none⟩ = some (.int .i64 0) := (blk_cell H1.out 1).trans rfl
      have r2 : (w3).cell? ⟨w0.heap.size, 2, none⟩ = some (.string ⟨#[]⟩) := (blk_cell H1.out 2).trans rfl
      have r3 : (w3).cell? ⟨w0.heap.size, 3, none⟩ = some (.slice none 0 0) := (blk_cell H1.out 3).trans rfl
      have r4 : (w3).cell? ⟨w0.heap.size, 4, none⟩ = some (.slice none 0 0) := (blk_cell H1.out 4).trans rfl
      have p0 : (w3).frozen? ⟨w0.heap.size, 0, none⟩ = false := blk_frozen H1.out 0
      have p1 : (w3).frozen? ⟨w0.heap.size, 1, none⟩ = false := blk_frozen H1.out 1
      have p2 : (w3).frozen? ⟨w0.heap.size, 2, none⟩ = false := blk_frozen H1.out 2
      have p3 : (w3).frozen? ⟨w0.heap.size, 3, none⟩ = false := blk_frozen H1.out 3
      have p4 : (w3).frozen? ⟨w0.heap.size, 4, none⟩ = false := blk_frozen H1.out 4
      refine AnyT.one (i := 8) rfl (by kernel_rfl) (fun K' hK => ?_)
      go_simp
      refine hK.out _ _ (fun _ h => absurd rfl h) ?_
      clear hK K'
      refine AnyT.end (by kernel_rfl) ?_ _
      try simp only [Act.put, List.setIfInBounds_toArray, List.set_cons_zero, List.set_cons_succ]
      go_wp2
      go_meet
      case rel =>
        exact ⟨w0.heap.size, _, rfl, Lib.hid (z_start H1.out (HOWN.out) (fun e => by rcases HAT.out with h | h <;> (rw [h] at e; simp at e; try omega)) (by omega) (HB31.out))⟩
  case rest =>
    obtain ⟨ob, kv, rfl, HZ⟩ := hcut
    have HUP : Hid (∀ W, Below (w.alloc zero5v).heap.size (w.alloc zero5v) W → Below w.heap.size w W) := Lib.hid (fun W h => up_trans (up_alloc (Below.refl _ _) _) h)
    have q4 : wc.cell? ⟨b0, 4, none⟩ = some (.slice ia x.items.length ic) := (blk_cell (blk_up HB0.out (HUP.out _ HZ.out.below)) 4).trans rfl
    go_wp2
    clear q4
    go_loopg [16] x.items.length (fun gk v16 wr => ∃ (i : Nat) (cv : Value) (css : List (List Value)), v16 = .int .i64 i ∧ i + gk = x.items.length ∧ Hid (ZInv (w.alloc zero5v) S ob x.kind x.keys (allTo f x i) kv cv css wr))
    case atStart => exact ⟨0, .slice none 0 0, [], rfl, by omega, HZ⟩
    case round =>
      clear HZ
      obtain ⟨i, cv, css, rfl, hi, HZ⟩ := hrel
      by_cases hlt : i < x.items.length
      · have HBW := Lib.hid (HUP.out _ HZ.out.below)
        obtain ⟨b, o, ka', ia', kc', ic', hb, h0, h1, h2, h3, h4, hvi⟩ := HIT.out i hlt
        cases hb
        have mv : ∀ a u, (onS w S).cell? a = some u → wr.cell? a = some u := fun a u h => cell_up HBW.out _ _ (onS_whole a u h)
        replace h0 := mv _ _ h0
        replace h1 := mv _ _ h1
        replace h2 := mv _ _ h2
        replace h3 := mv _ _ h3
        replace h4 := mv _ _ h4
        have HC := Lib.hid (HN.out i hlt)
        obtain ⟨y, hy⟩ : ∃ y, x.items[i] = y := ⟨_, rfl⟩
        rw [hy] at h0 h1 h2 h3 h4 hvi HC
        have HY := Lib.hid hy
        have HVI := Lib.hid hvi
        clear hy hvi mv
        have o3 := HZ.out.lt
        have h1w : ∀ o1, (wr.alloc o1).cell? ⟨b1, 0, none⟩ = some (.func (.func 8) #[] #[]) := fun o1 => (blk_cell (blk_up HB1.out (up_trans HBW.out (up_alloc (Below.refl _ _) o1))) 0).trans rfl
        go_upto_if 22 with fail
        go_cut [] from 20 to 25 (fun wc => ∃ (z : Dat) (ka2 ia2 : Option Addr) (kc2 ic2 : Nat), Hid (z = if y.kind = 5 then f y else y) ∧
          Hid (wc.heap[wr.heap.size]? = some (.cells #[.int .i64 z.kind, .int .i64 z.num, .string z.text, .slice ka2 z.keys.length kc2, .slice ia2 z.items.length ic2] 25 (0, 0))) ∧ Hid (Below wr.heap.size wr wc) ∧
          Hid (VA (onS wc fun k => S k ∨ (wr.heap.size ≤ k ∧ k < wc.heap.size)) z [.int .i64 z.kind, .int .i64 z.num, .string z.text, .slice ka2 z.keys.length kc2, .slice ia2 z.items.length ic2]))
        case first =>
          by_cases k5 : y.kind = 5
          · have K5 := Lib.hid k5
            have e5 : (y.kind == 5) = true := beq_iff_eq.mpr k5
            clear k5
            go_wp2_with fail
            go_at_call 8
            refine (HC.out _ _ (up_trans HBW.out (up_alloc (Below.refl _ _) _)) (HVI.out.upS (fun k hk => (up_trans HBW.out (up_alloc (Below.refl _ _) _)).block k (HS.out k hk)) (fun _ h => h))).mono ?_
            rintro e w2 ⟨cs2, rfl, hv2, hb2⟩
            obtain ⟨ka2, ia2, kc2, ic2, rfl⟩ := hv2.shape
            have HV2 := Lib.hid hv2
            have HB2 := Lib.hid hb2
            have OW := Lib.hid (blk_up (blk_new wr _) hb2)
            clear hv2 hb2
            have p0 : w2.frozen? ⟨wr.heap.size, 0, none⟩ = false := blk_frozen OW.out 0
            have p1 : w2.frozen? ⟨wr.heap.size, 1, none⟩ = false := blk_frozen OW.out 1
            have p2 : w2.frozen? ⟨wr.heap.size, 2, none⟩ = false := blk_frozen OW.out 2
            have p3 : w2.frozen? ⟨wr.heap.size, 3, none⟩ = false := blk_frozen OW.out 3
            have p4 : w2.frozen? ⟨wr.heap.size, 4, none⟩ = false := blk_frozen OW.out 4
            have r0 := (blk_cell OW.out 0).trans rfl
            have r1 := (blk_cell OW.out 1).trans rfl
            have r2 := (blk_cell OW.out 2).trans rfl
            have r3 := (blk_cell OW.out 3).trans rfl
            have r4 := (blk_cell OW.out 4).trans rfl
            go_wp2
            go_meet
            case rel =>
              refine ⟨f y, ka2, ia2, kc2, ic2, Lib.hid (by rw [if_pos K5.out]), Lib.hid (set5 OW.out _ _ _ _ _), Lib.hid (set5_up (up_trans (up_alloc (Below.refl _ _) _) HB2.out) (Nat.le_refl _) _ _ _ _ _), Lib.hid (HV2.out.upS ?_ ?_)⟩
              · intro k hk
                refine set5_far ?_ _ _ _ _ _
                have q1 := HBW.out.size
                rcases hk with hk | hk
                · have := HS.out k hk
                  omega
                · have := hk.1
                  simp at this
                  omega
              · intro k hk
                refine hk.imp id (fun hk => ⟨?_, ?_⟩)
                · have := hk.1
                  simp at this
                  omega
                · rw [set5_size]
                  exact hk.2
          · have e5 : (y.kind == 5) = false := beq_eq_false_iff_ne.mpr k5
            have K5 := Lib.hid k5
            clear k5
            go_wp2
            go_meet
            case rel =>
              exact ⟨y, ka', ia', kc', ic', Lib.hid (by rw [if_neg K5.out]), Lib.hid (blk_new wr _), Lib.hid (up_alloc (Below.refl _ _) _), Lib.hid (HVI.out.upS (fun k hk => (up_trans HBW.out (up_alloc (Below.refl _ _) _)).block k (HS.out k hk)) (fun k hk => .inl hk))⟩
        case rest =>
          obtain ⟨z, ka2, ia2, kc2, ic2, HZE, HOB, HBC, HVZ⟩ := hcut
          have HI1 := Lib.hid (HZ.out.up (fun k hk => by have := HS.out k hk; simp; omega) HBC.out)
          have hle := allTo_len (f := f) (x := x) (i := i) (by omega)
          have HIR := Lib.hid (show wc.ownsRow (w.alloc zero5v).heap.size 25 5 cv i css.flatten by have := HI1.out.irow; rwa [hle] at this)
          have HLE := Lib.hid hle
          clear hle h0 h1 h2 h3 h4 h1w o3
          have n4 : wc.cell? ⟨ob, 4, none⟩ = some cv := (blk_cell HI1.out.out 4).trans rfl
          have n4' : ∀ o1, (wc.alloc o1).cell? ⟨ob, 4, none⟩ = some cv := fun o1 => cell_up (up_alloc (Below.refl _ _) o1) _ _ n4
          have r0 : wc.cell? ⟨wr.heap.size, 0, none⟩ = some (.int .i64 z.kind) := (blk_cell HOB.out 0).trans rfl
          have r1 : wc.cell? ⟨wr.heap.size, 1, none⟩ = some (.int .i64 z.num) := (blk_cell HOB.out 1).trans rfl
          have r2 : wc.cell? ⟨wr.heap.size, 2, none⟩ = some (.string z.text) := (blk_cell HOB.out 2).trans rfl
          have r3 : wc.cell? ⟨wr.heap.size, 3, none⟩ = some (.slice ka2 z.keys.length kc2) := (blk_cell HOB.out 3).trans rfl
          have r4 : wc.cell? ⟨wr.heap.size, 4, none⟩ = some (.slice ia2 z.items.length ic2) := (blk_cell HOB.out 4).trans rfl
          have hz1 := HI1.out.below.size
          have o3 := HI1.out.lt
          go_wp2_with (first
            | (at_builtin
               refine wpList_append_lies _ rfl (.tmp 27) (.tmp 29) 23 rfl (w.alloc zero5v).heap.size 25 i0 _ 5 80 Tryz.underlying23 hi0 hz0 hzz1 hzz2 rfl (by omega) _ i css.flatten rfl ((HIR.out).alloc _)
                 ⟨wc.heap.size, 0, none⟩ 1 1 [.int .i64 z.kind, .int .i64 z.num, .string z.text, .slice ka2 z.keys.length kc2, .slice ia2 z.items.length ic2] rfl rfl
                 (World.news_of_block (cs := #[.int .i64 z.kind, .int .i64 z.num, .string z.text, .slice ka2 z.keys.length kc2, .slice ia2 z.items.length ic2]) (t := 25) (fr := (0, 0)) (heap_alloc_new wc _)) (by simp [Value.oneCell']) (by omega) (by unfold maxLen; omega) (by omega) (by simp at hz1 ⊢; omega) (wc.heap.size + 1) (by simp) ?_))
          intro gg cap w3 hown hgrow hat hlt3
          have HG := Lib.hid (HZ.out.item (fun k hk => by have := HS.out k hk; simp; omega) HBC.out (HZ.out.fresh HVZ.out) (by rw [HLE.out]; simpa using hown) hgrow hat)
          have N3 := Lib.hid ((hgrow.block ob (by simp; omega) (fun e => HI1.out.iout e.symm)).trans (blk_up HI1.out.out (up_alloc (Below.refl _ _) _)))
          clear hown hgrow hat hlt3 n4 n4' r0 r1 r2 r3 r4
          have s4 : w3.cell? ⟨ob, 4, none⟩ = some cv := (blk_cell N3.out 4).trans rfl
          have s4' : w3.frozen? ⟨ob, 4, none⟩ = false := blk_frozen N3.out 4
          go_wp2
          go_roundg (x.items.length - (i + 1))
          case measure => omega
          case rel =>
            refine ⟨i + 1, .slice (some ⟨gg, 0, none⟩) (i + 1) cap, css ++ [[.int .i64 z.kind, .int .i64 z.num, .string z.text, .slice ka2 z.keys.length kc2, .slice ia2 z.items.length ic2]], by go_num, by omega, Lib.hid ?_⟩
            have h := HG.out
            rw [HLE.out] at h
            rw [allTo_succ hlt, HY.out, ← HZE.out]
            exact h
      · obtain rfl : i = x.items.length := by omega
        obtain ⟨kA, kM, kC, rfl⟩ := own_slice HZ.out.krow
        obtain ⟨cA, cM, cC, rfl⟩ := own_slice HZ.out.irow
        have HV := Lib.hid (HZ.out.val HKS.out)
        have HRB : Hid (wr.heap[w.heap.size]? = some zero5v) := Lib.hid (blk_up (blk_new w _) HZ.out.below)
        have HBW := Lib.hid (HUP.out _ HZ.out.below)
        have HO := Lib.hid HZ.out.out
        have hne : w.heap.size < ob := by have := HZ.out.base; simp at this; omega
        have o3 := HZ.out.lt
        have s0 : wr.cell? ⟨ob, 0, none⟩ = some (.int .i64 x.kind) := (blk_cell HO.out 0).trans rfl
        have s1 : wr.cell? ⟨ob, 1, none⟩ = some (.int .i64 0) := (blk_cell HO.out 1).trans rfl
        have s2 : wr.cell? ⟨ob, 2, none⟩ = some (.string ⟨#[]⟩) := (blk_cell HO.out 2).trans rfl
        have s3 : wr.cell? ⟨ob, 3, none⟩ = some (.slice kA kM kC) := (blk_cell HO.out 3).trans rfl
        have s4 : wr.cell? ⟨ob, 4, none⟩ = some (.slice cA cM cC) := (blk_cell HO.out 4).trans rfl
        have p0 : wr.frozen? ⟨w.heap.size, 0, none⟩ = false := blk_frozen HRB.out 0
        have p1 : wr.frozen? ⟨w.heap.size, 1, none⟩ = false := blk_frozen HRB.out 1
        have p2 : wr.frozen? ⟨w.heap.size, 2, none⟩ = false := blk_frozen HRB.out 2
        have p3 : wr.frozen? ⟨w.heap.size, 3, none⟩ = false := blk_frozen HRB.out 3
        have p4 : wr.frozen? ⟨w.heap.size, 4, none⟩ = false := blk_frozen HRB.out 4
        have r0 := (blk_cell HRB.out 0).trans rfl
        have r1 := (blk_cell HRB.out 1).trans rfl
        have r2 := (blk_cell HRB.out 2).trans rfl
        have r3 := (blk_cell HRB.out 3).trans rfl
        have r4 := (blk_cell HRB.out 4).trans rfl
        clear HZ
        go_wp2
        refine ret_val rfl rfl rfl (set5 HRB.out _ _ _ _ _) ?_
        refine ⟨[.int .i64 x.kind, .int .i64 0, .string ⟨#[]⟩, .slice kA kM kC, .slice cA cM cC], rfl, ?_, set5_up HBW.out (Nat.le_refl _) _ _ _ _ _⟩
        have h := HV.out
        rw [allTo_all] at h
        refine VA.upS h (fun k hk => set5_far ?_ _ _ _ _ _) (fun k hk => hk.imp id (fun hk => ⟨?_, ?_⟩))
        · rcases hk with hk | hk
          · have := HS.out k hk
            omega
          · have := hk.1
            simp at this
            omega
        · have := hk.1
          simp at this
          omega
        · rw [set5_size]
          exact hk.2
end Go.Proofs.YthdnkcofcbinhaaGreatDoor
