/- Normal. -/
import Derived.Test.YthdnkcofcbinhaaGreatDoorTuJ
set_option linter.unusedVariables false
set_option linter.unusedSimpArgs false
namespace Go.Proofs.YthdnkcofcbinhaaGreatDoor
open Go.RowKit

theorem Plain.keys_le {D : Nat} {v : Dat} (hp : Plain D v) : v.keys.length ≤ v.items.length ∧ v.keys.length ≤ 60 ∧ v.items.length ≤ 60 := by
  have flat : Flat v → v.keys.length ≤ v.items.length ∧ v.keys.length ≤ 60 ∧ v.items.length ≤ 60 := by
    rintro (h | h | h | h | h)
    · have := h.2.2.2; simp [this.1, this.2]
    · have := h.2.2.2; simp [this.1, this.2]
    · have := h.2.2.2.2; simp [this.1, this.2]
    · have := h.2.2.2.2.2; simp [this.1, this.2]
    · have := h.2.2.2; simp [this.1, this.2]
  cases D with
  | zero => exact flat hp
  | succ D =>
    rcases hp with h | h | h
    · exact flat h
    · have h1 := h.2.2.2.1
      have h2 := h.2.2.2.2.1
      rw [h1]
      exact ⟨by simp, by simp, h2⟩
    · have h1 := h.2.2.2.1
      have h2 := h.2.2.2.2.1
      omega
theorem Plain.item' {D : Nat} {v : Dat} (hp : Plain D v) {i : Nat} (h : i < v.items.length) : ∃ E, E + 1 = D ∧ Plain E v.items[i] := by
  have flat : ¬ Flat v := by
    rintro (h' | h' | h' | h' | h')
    · rw [h'.2.2.2.2] at h; exact absurd h (Nat.not_lt_zero _)
    · rw [h'.2.2.2.2] at h; exact absurd h (Nat.not_lt_zero _)
    · rw [h'.2.2.2.2.2] at h; exact absurd h (Nat.not_lt_zero _)
    · rw [h'.2.2.2.2.2.2] at h; exact absurd h (Nat.not_lt_zero _)
    · rw [h'.2.2.2.2] at h; exact absurd h (Nat.not_lt_zero _)
  cases D with
  | zero => exact absurd hp flat
  | succ D =>
    rcases hp with h' | h' | h'
    · exact absurd h' flat
    · exact ⟨D, rfl, h'.2.2.2.2.2 i h⟩
    · exact ⟨D, rfl, h'.2.2.2.2.2.2 i h⟩

/-- What is kept of the first keys. -/
def kept (f : Dat → Dat) (v : Dat) (i : Nat) : List (ByteArray × Dat) := ((pairs v).take i).filterMap (keepP f)
theorem kept_succ {f : Dat → Dat} {v : Dat} {i : Nat} (h : i < v.keys.length) (h' : i < v.items.length) : kept f v (i + 1) = kept f v i ++ (match keepP f (v.keys[i], v.items[i]) with | some p => [p] | none => []) := by
  unfold kept
  rw [take_succ_get (pairs_get h h'), List.filterMap_append]
  congr 1
  cases hk : keepP f (v.keys[i], v.items[i]) with
  | none => simp [hk]
  | some p => simp [hk]
theorem kept_all {f : Dat → Dat} {v : Dat} (h : v.keys.length ≤ v.items.length) : kept f v v.keys.length = (pairs v).filterMap (keepP f) := by
  unfold kept
  rw [List.take_of_length_le]
  unfold pairs
  rw [List.length_zip]
  omega
theorem kept_le {f : Dat → Dat} {v : Dat} {i : Nat} : (kept f v i).length ≤ i := by
  unfold kept
  refine Nat.le_trans (List.length_filterMap_le _ _) ?_
  rw [List.length_take]
  omega
theorem kept_key {f : Dat → Dat} {v : Dat} {i : Nat} : ∀ p ∈ kept f v i, p.1 ∈ v.keys := by
  intro p hp
  unfold kept at hp
  rw [List.mem_filterMap] at hp
  obtain ⟨q, hq, he⟩ := hp
  unfold keepP at he
  split at he
  · cases he
  · simp only [Option.some.injEq] at he
    rw [← he]
    exact (List.of_mem_zip (List.mem_of_mem_take hq)).1

/-- Normal's contract at a level. -/
def NormAt (D : Nat) : Prop := ∀ (F : Nat) (S : Nat → Prop) (v : Dat) (w : World) (cs : List Value), D ≤ F → (∀ k, S k → k < w.heap.size) → Plain D v → VA (onS w S) v cs → Calls Tryz.prog 8 #[.agg cs.toArray] w (GivesVA S (normD (F + 1) v) w)

set_option maxRecDepth 100000 in
set_option maxHeartbeats 8000000 in
theorem norm_step (D : Nat) (ih : ∀ E, E < D → NormAt E) : NormAt D := by
  intro F S v w cs hDF hS hp hv
  obtain ⟨hkl, hk60, hi60⟩ := hp.keys_le
  have HKS : Hid (∀ k ∈ v.keys, k.size ≤ maxLen) := Lib.hid (by
    obtain ⟨ka, ia, kc, ic, _, _, hk, _⟩ := hv.inv
    intro k hk2
    obtain ⟨i, hi, rfl⟩ := List.getElem_of_mem hk2
    exact (hk i hi).1)
  have HT := Lib.hid (fun (i : Nat) (h : i < v.items.length) (key : ByteArray) (W : World) (cs' : List Value) (hb : Below w.heap.size w W) (hv' : VA (onS W S) v.items[i] cs') =>
    turned_norm (normD F) S key v.items[i] W cs' (fun k hk => Nat.lt_of_lt_of_le (hS k hk) hb.size) hv' (by obtain ⟨E, _, hE⟩ := hp.item' h; exact hE.keys_le.2.2) (by obtain ⟨E, _, hE⟩ := hp.item' h; exact hE.keys_le.2.1)
      (fun W2 cs2 hb2 hv2 => by
        obtain ⟨E, hED, hE⟩ := hp.item' h
        obtain ⟨F', rfl⟩ : ∃ F', F = F' + 1 := ⟨F - 1, by omega⟩
        exact ih E (by omega) F' S _ W2 cs2 (by omega) (fun k hk => Nat.lt_of_lt_of_le (hS k hk) (up_trans hb hb2).size) hE hv2)
      (fun j hj W2 cs2 hb2 hv2 => by
        obtain ⟨E, hED, hE⟩ := hp.item' h
        obtain ⟨E2, hED2, hE2⟩ := hE.item' hj
        obtain ⟨F', rfl⟩ : ∃ F', F = F' + 1 := ⟨F - 1, by omega⟩
        exact ih E2 (by omega) F' S _ W2 cs2 (by omega) (fun k hk => Nat.lt_of_lt_of_le (hS k hk) (up_trans hb hb2).size) hE2 hv2))
  obtain ⟨ka, ia, kc, ic, rfl, ht, hk, hkc, hkm, hic, him, hit⟩ := hv.inv
  have HS := Lib.hid hS
  have HIT := Lib.hid hit
  have HK := Lib.hid hk
  clear hit hk hv hS ih hp
  obtain ⟨f, hf⟩ : ∃ f, normD F = f := ⟨_, rfl⟩
  have HF := Lib.hid (show normD (F + 1) v = .mk 5 0 ⟨#[]⟩ ((kept f v v.keys.length).map (·.1)) ((kept f v v.keys.length).map (·.2)) by
    rw [kept_all hkl, ← hf]
    rfl)
  rw [hf] at HT
  clear hf hDF
  have HK0 := Lib.hid hkl
  obtain ⟨W1, hW1⟩ : ∃ W1, W1 = (w.alloc (.cells #[.int .i64 v.kind, .int .i64 v.num, .string v.text, .slice ka v.keys.length kc, .slice ia v.items.length ic] 25 (0, 0))).alloc zero5v := ⟨_, rfl⟩
  have HW1 : Hid (Below w.heap.size w W1) := Lib.hid (by rw [hW1]; exact up_alloc (up_alloc (Below.refl _ _) _) _)
  have HZ1 : Hid (W1.heap.size = w.heap.size + 1 + 1) := Lib.hid (by rw [hW1]; simp)
  have HX0 : Hid (W1.heap[w.heap.size]? = some (.cells #[.int .i64 v.kind, .int .i64 v.num, .string v.text, .slice ka v.keys.length kc, .slice ia v.items.length ic] 25 (0, 0))) := Lib.hid (by rw [hW1]; exact blk_up (blk_new w _) (up_alloc (Below.refl _ _) _))
  have HRB : Hid (W1.heap[w.heap.size + 1]? = some zero5v) := Lib.hid (by rw [hW1]; simpa using blk_new (w.alloc (.cells #[.int .i64 v.kind, .int .i64 v.num, .string v.text, .slice ka v.keys.length kc, .slice ia v.items.length ic] 25 (0, 0))) zero5v)
  have HS1 : Hid (∀ k, S k → k < W1.heap.size) := Lib.hid (fun k hk => Nat.lt_of_lt_of_le (HS.out k hk) HW1.out.size)
  have HST : Hid (∀ W, W = W1.alloc (outBlk 5 (.slice none 0 0) (.slice none 0 0)) → ZInv W1 S (w.heap.size + 1 + 1) 5 [] [] (.slice none 0 0) (.slice none 0 0) [] W) := Lib.hid (fun W hW => by
    rw [← HZ1.out]
    subst hW
    exact ZInv.begin (blk_new W1 _) (World.ownsRow_nil _ _ _ _) (by simp [Value.ownBlock]) (Nat.le_refl _) (up_alloc (Below.refl _ _) _))
  have HEQ := Lib.hid hW1
  clear hW1
  obtain ⟨i0, hi0, hz0, hzz1, hzz2⟩ := info_parts info_val
  obtain ⟨is, his0, his1, his2, his3⟩ := info_parts info_str
  have ES := Lib.hid (fun (key : ByteArray) W => shapeOf_any key W)
  unfold GivesShape at ES
  go_enter Tryz.func8, Tryz.ntmps8
  go_wp2
  go_loopg [11] v.keys.length (fun gk v11 wr => ∃ (i : Nat) (kv cv : Value) (css : List (List Value)), v11 = .int .i64 i ∧ i + gk = v.keys.length ∧ Hid (ZInv W1 S (w.heap.size + 1 + 1) 5 ((kept f v i).map (·.1)) ((kept f v i).map (·.2)) kv cv css wr))
  case atStart => exact ⟨0, .slice none 0 0, .slice none 0 0, [], rfl, by omega, Lib.hid (HST.out _ (by rw [HEQ.out]; rfl))⟩
  case round =>
    obtain ⟨i, kv, cv, css, rfl, hi, HZ⟩ := hrel
    have HBW := Lib.hid (up_trans HW1.out HZ.out.below)
    by_cases hlt : i < v.keys.length
    · have hli : i < v.items.length := by omega
      obtain ⟨hl, b, o, hb, hc⟩ := HK.out i hlt
      cases hb
      obtain ⟨b', o', ka', ia', kc', ic', hb', h0, h1, h2, h3, h4, hvi⟩ := HIT.out i hli
      cases hb'
      have mv : ∀ a u, (onS w S).cell? a = some u → wr.cell? a = some u := fun a u h => cell_up HBW.out _ _ (onS_whole a u h)
      replace hc := mv _ _ hc
      replace h0 := mv _ _ h0
      replace h1 := mv _ _ h1
      replace h2 := mv _ _ h2
      replace h3 := mv _ _ h3
      replace h4 := mv _ _ h4
      have hsucc := kept_succ (f := f) hlt hli
      have HTi := Lib.hid (HT.out i hli)
      obtain ⟨x, hx⟩ : ∃ x, v.items[i] = x := ⟨_, rfl⟩
      obtain ⟨key, hkey⟩ : ∃ x, v.keys[i] = x := ⟨_, rfl⟩
      rw [hx] at h0 h1 h2 h3 h4 hvi hsucc HTi
      rw [hkey] at hc hsucc
      have HSU := Lib.hid hsucc
      have HVI := Lib.hid (hvi.upS (T := S) (fun k hk => HBW.out.block k (HS.out k hk)) (fun _ h => h))
      have q4 : wr.cell? ⟨w.heap.size, 4, none⟩ = some (.slice (some ⟨b', o', none⟩) v.items.length ic) := (blk_cell (blk_up HX0.out HZ.out.below) 4).trans rfl
      have j1 : (i : Int) < (v.items.length : Int) := by omega
      have j2 : (i : Int) < (v.keys.length : Int) := by omega
      clear hx hkey hvi hsucc mv hl
      go_wp2_with fail
      go_at_call 16
      refine (ES.out key _).mono ?_
      rintro e w1 ⟨rfl, rfl⟩
      by_cases hn : shapeN key = 0
      · have HN := Lib.hid hn
        rw [hn]
        clear hn
        go_wp2
        go_roundg (v.keys.length - (i + 1))
        case measure => omega
        case rel =>
          refine ⟨i + 1, kv, cv, css, by go_num, by omega, Lib.hid ?_⟩
          have e : kept f v (i + 1) = kept f v i := by
            rw [HSU.out]
            simp [keepP, HN.out]
          rw [e]
          exact HZ.out
      · obtain ⟨n, hn2⟩ : ∃ n, shapeN key = n := ⟨_, rfl⟩
        rw [hn2] at hn ⊢
        have e0 : ((n : Int) == 0) = false := beq_eq_false_iff_ne.mpr (by omega)
        have HN := Lib.hid hn
        have HN2 := Lib.hid hn2
        clear hn hn2
        go_wp2_with fail
        go_at_call 17
        refine (HTi.out key _ _ HBW.out HVI.out).mono ?_
        rintro e w4 ⟨cs4, rfl, hv4, hb4⟩
        obtain ⟨z, hz⟩ : ∃ z, turnD f (shapeN key) x = z := ⟨_, rfl⟩
        rw [hz] at hv4
        have HZE := Lib.hid hz
        clear hz
        obtain ⟨ka4, ia4, kc4, ic4, rfl⟩ := hv4.shape
        obtain ⟨own, hown⟩ : ∃ o : Obj, o = .cells #[.int .i64 z.kind, .int .i64 z.num, .string z.text, .slice ka4 z.keys.length kc4, .slice ia4 z.items.length ic4] 25 (0, 0) := ⟨_, rfl⟩
        have HB5 := Lib.hid (up_alloc hb4 own)
        have HV5 := Lib.hid (hv4.upS (w1 := w4.alloc own) (T := fun k => S k ∨ (wr.heap.size ≤ k ∧ k < (w4.alloc own).heap.size)) (fun k hk => Below.heap_alloc _ _ _ (by have := hb4.size; have := HBW.out.size; rcases hk with hk | hk; have := HS.out k hk; omega; exact hk.2)) (fun k hk => hk.imp id fun hk => ⟨hk.1, by simp; omega⟩))
        have HOW := Lib.hid (blk_new w4 own)
        have HB4Z := Lib.hid (show W1.heap.size ≤ w4.heap.size ∧ wr.heap.size ≤ w4.heap.size ∧ w.heap.size + 1 + 1 < w4.heap.size by have := hb4.size; have := HZ.out.lt; have := HZ.out.below.size; omega)
        clear hv4 hb4
        have HI5 := Lib.hid (HZ.out.up HS1.out HB5.out)
        have hm : (kept f v i).length ≤ 60 := Nat.le_trans kept_le (by omega)
        have HV6 := Lib.hid (HZ.out.fresh HV5.out)
        obtain ⟨ks, hks⟩ : ∃ ks, (kept f v i).map (·.1) = ks := ⟨_, rfl⟩
        obtain ⟨its, hits⟩ : ∃ its, (kept f v i).map (·.2) = its := ⟨_, rfl⟩
        obtain ⟨m, hmm⟩ : ∃ m, (kept f v i).length = m := ⟨_, rfl⟩
        have hk1 : ks.length = m := by rw [← hks, ← hmm, List.length_map]
        have hi1 : its.length = m := by rw [← hits, ← hmm, List.length_map]
        rw [hmm] at hm
        rw [hks, hits] at HI5
        have HKS2 : Hid ((kept f v (i + 1)).map (·.1) = ks ++ [key] ∧ (kept f v (i + 1)).map (·.2) = its ++ [z]) := Lib.hid (by
          rw [HSU.out]
          have e : keepP f (key, x) = some (key, z) := by
            unfold keepP
            rw [if_neg (by rw [HN2.out]; exact HN.out), HZE.out]
          rw [e, List.map_append, List.map_append, hks, hits]
          exact ⟨rfl, rfl⟩)
        have HKR := Lib.hid (show (w4.alloc own).ownsRow W1.heap.size 9 1 kv m (ks.map Value.string) by rw [← hk1]; exact HI5.out.krow)
        have HK1 := Lib.hid hk1
        have HI1 := Lib.hid hi1
        clear hks hits hmm hk1 hi1 h0 h1 h2 h3 h4 hc q4 HTi
        have n3 : (w4.alloc own).cell? ⟨w.heap.size + 1 + 1, 3, none⟩ = some kv := (blk_cell HI5.out.out 3).trans rfl
        have hbase : W1.heap.size ≤ w4.heap.size := HB4Z.out.1
        have o3 : w.heap.size + 1 + 1 < (w4.alloc own).heap.size := HI5.out.lt
        subst hown
        go_wp2_with (first
          | (at_builtin
             refine wpList_append_lies _ rfl (.tmp 27) (.tmp 29) 22 rfl W1.heap.size 9 is _ 1 16 Tryz.underlying22 his0 his1 his2 his3 rfl (by omega) _ m (ks.map Value.string) rfl ((HKR.out).alloc _)
               ⟨(w4.alloc (.cells #[.int .i64 z.kind, .int .i64 z.num, .string z.text, .slice ka4 z.keys.length kc4, .slice ia4 z.items.length ic4] 25 (0, 0))).heap.size, 0, none⟩ 1 1 [.string key] (by simp; rfl) rfl (World.news_of_block (cs := #[.string key]) (t := 9) (fr := (0, 0)) (heap_alloc_new _ _)) (by simp [Value.oneCell']) (by omega) (by unfold maxLen; omega) (by omega) (by simp; omega) (w4.heap.size + 1 + 1) (by simp) ?_))
        intro gq cq w6 hownq hgrowq hatq hltq
        have hatq2 : kv.ownBlock = some gq ∨ gq = (w4.alloc (.cells #[.int .i64 z.kind, .int .i64 z.num, .string z.text, .slice ka4 z.keys.length kc4, .slice ia4 z.items.length ic4] 25 (0, 0))).heap.size + 1 := hatq.imp id (fun h => by simp; omega)
        have HK7 : Hid (ZInv W1 S (w.heap.size + 1 + 1) 5 (ks ++ [key]) its (.slice (some ⟨gq, 0, none⟩) (m + 1) cq) cv css (w6.setCell ⟨w.heap.size + 1 + 1, 3, none⟩ (.slice (some ⟨gq, 0, none⟩) (m + 1) cq))) := Lib.hid (by
          have h := HI5.out.key HS1.out (gg := gq) (cap := cq) (key := key) (by rw [HK1.out]; exact hownq) hgrowq hatq2
          rw [HK1.out] at h
          exact h)
        have HV7 := Lib.hid (HI5.out.key_far HS1.out (n := m + 1) (cap := cq) hgrowq hatq2 HV6.out)
        have HN6 := Lib.hid ((hgrowq.block (w.heap.size + 1 + 1) (by simp at o3 ⊢; omega) (fun e => HI5.out.kout e.symm)).trans (blk_up HI5.out.out (up_alloc (Below.refl _ _) _)))
        have HOW7 : Hid ((w6.setCell ⟨w.heap.size + 1 + 1, 3, none⟩ (.slice (some ⟨gq, 0, none⟩) (m + 1) cq)).heap[w4.heap.size]? = some (.cells #[.int .i64 z.kind, .int .i64 z.num, .string z.text, .slice ka4 z.keys.length kc4, .slice ia4 z.items.length ic4] 25 (0, 0))) := Lib.hid (by
          have q1 := HZ.out.lt
          have q2 := HB5.out.size
          rw [Below.heap_setCell _ _ _ _ (show w4.heap.size ≠ w.heap.size + 1 + 1 from by have := HB4Z.out; omega), hgrowq.block w4.heap.size (by simp; omega) (fun e => by have := (HZ.out.krow.lt _ e.symm).2; have := HB4Z.out; omega)]
          exact blk_up HOW.out (up_alloc (Below.refl _ _) _))
        clear hownq hgrowq hatq hatq2 hltq n3
        have s3 : w6.cell? ⟨w.heap.size + 1 + 1, 3, none⟩ = some kv := (blk_cell HN6.out 3).trans rfl
        have s3' : w6.frozen? ⟨w.heap.size + 1 + 1, 3, none⟩ = false := blk_frozen HN6.out 3
        go_upto_region 8 with fail
        clear s3 s3' HN6 o3
        generalize w6.setCell ⟨w.heap.size + 1 + 1, 3, none⟩ (.slice (some ⟨gq, 0, none⟩) (m + 1) cq) = w7 at HK7 HV7 HOW7 ⊢
        have HIR := Lib.hid (show w7.ownsRow W1.heap.size 25 5 cv m css.flatten by rw [← HI1.out]; exact HK7.out.irow)
        have n4 : w7.cell? ⟨w.heap.size + 1 + 1, 4, none⟩ = some cv := (blk_cell HK7.out.out 4).trans rfl
        have r0 : w7.cell? ⟨w4.heap.size, 0, none⟩ = some (.int .i64 z.kind) := (blk_cell HOW7.out 0).trans rfl
        have r1 : w7.cell? ⟨w4.heap.size, 1, none⟩ = some (.int .i64 z.num) := (blk_cell HOW7.out 1).trans rfl
        have r2 : w7.cell? ⟨w4.heap.size, 2, none⟩ = some (.string z.text) := (blk_cell HOW7.out 2).trans rfl
        have r3 : w7.cell? ⟨w4.heap.size, 3, none⟩ = some (.slice ka4 z.keys.length kc4) := (blk_cell HOW7.out 3).trans rfl
        have r4 : w7.cell? ⟨w4.heap.size, 4, none⟩ = some (.slice ia4 z.items.length ic4) := (blk_cell HOW7.out 4).trans rfl
        have o7 : w.heap.size + 1 + 1 < w7.heap.size := HK7.out.lt
        have hz7 := HK7.out.below.size
        go_wp2_with (first
          | (at_builtin
             refine wpList_append_lies _ rfl (.tmp 33) (.tmp 35) 23 rfl W1.heap.size 25 i0 _ 5 80 Tryz.underlying23 hi0 hz0 hzz1 hzz2 rfl (by omega) _ m css.flatten rfl ((HIR.out).alloc _)
               ⟨w7.heap.size, 0, none⟩ 1 1 [.int .i64 z.kind, .int .i64 z.num, .string z.text, .slice ka4 z.keys.length kc4, .slice ia4 z.items.length ic4] rfl rfl
               (World.news_of_block (cs := #[.int .i64 z.kind, .int .i64 z.num, .string z.text, .slice ka4 z.keys.length kc4, .slice ia4 z.items.length ic4]) (t := 25) (fr := (0, 0)) (heap_alloc_new w7 _)) (by simp [Value.oneCell']) (by omega) (by unfold maxLen; omega) (by omega) (by simp; omega) (w7.heap.size + 1) (by simp) ?_))
        intro gi ci w8 hownI hgrowI hatI hltI
        have HK9 : Hid (ZInv W1 S (w.heap.size + 1 + 1) 5 (ks ++ [key]) (its ++ [z]) (.slice (some ⟨gq, 0, none⟩) (m + 1) cq) (.slice (some ⟨gi, 0, none⟩) (m + 1) ci) (css ++ [[.int .i64 z.kind, .int .i64 z.num, .string z.text, .slice ka4 z.keys.length kc4, .slice ia4 z.items.length ic4]]) (w8.setCell ⟨w.heap.size + 1 + 1, 4, none⟩ (.slice (some ⟨gi, 0, none⟩) (m + 1) ci))) := Lib.hid (by
          have h := HK7.out.item HS1.out (gg := gi) (cap := ci) (y := z) (Below.refl _ _) HV7.out (by rw [HI1.out]; exact hownI) hgrowI hatI
          rw [HI1.out] at h
          exact h)
        have HN8 := Lib.hid ((hgrowI.block (w.heap.size + 1 + 1) (by simp; omega) (fun e => HK7.out.iout e.symm)).trans (blk_up HK7.out.out (up_alloc (Below.refl _ _) _)))
        clear hownI hgrowI hatI hltI n4 r0 r1 r2 r3 r4
        have s4 : w8.cell? ⟨w.heap.size + 1 + 1, 4, none⟩ = some cv := (blk_cell HN8.out 4).trans rfl
        have s4' : w8.frozen? ⟨w.heap.size + 1 + 1, 4, none⟩ = false := blk_frozen HN8.out 4
        go_wp2
        go_roundg (v.keys.length - (i + 1))
        case measure => omega
        case rel =>
          refine ⟨i + 1, .slice (some ⟨gq, 0, none⟩) (m + 1) cq, .slice (some ⟨gi, 0, none⟩) (m + 1) ci, _, by go_num, by omega, Lib.hid (?_ : ZInv W1 S (w.heap.size + 1 + 1) 5 ((kept f v (i + 1)).map (·.1)) ((kept f v (i + 1)).map (·.2)) _ _ (css ++ [[.int .i64 z.kind, .int .i64 z.num, .string z.text, .slice ka4 z.keys.length kc4, .slice ia4 z.items.length ic4]]) _)⟩
          rw [HKS2.out.1, HKS2.out.2]
          exact HK9.out
    · obtain rfl : i = v.keys.length := by omega
      obtain ⟨kA, kM, kC, rfl⟩ := own_slice HZ.out.krow
      obtain ⟨cA, cM, cC, rfl⟩ := own_slice HZ.out.irow
      have HV := Lib.hid (HZ.out.val (fun k hk => by
        obtain ⟨p, hp, rfl⟩ := List.mem_map.1 hk
        exact HKS.out _ (kept_key p hp)))
      have HR := Lib.hid (blk_up HRB.out HZ.out.below)
      have HO := Lib.hid HZ.out.out
      have o3 := HZ.out.lt
      have s0 : wr.cell? ⟨w.heap.size + 1 + 1, 0, none⟩ = some (.int .i64 5) := (blk_cell HO.out 0).trans rfl
      have s1 : wr.cell? ⟨w.heap.size + 1 + 1, 1, none⟩ = some (.int .i64 0) := (blk_cell HO.out 1).trans rfl
      have s2 : wr.cell? ⟨w.heap.size + 1 + 1, 2, none⟩ = some (.string ⟨#[]⟩) := (blk_cell HO.out 2).trans rfl
      have s3 : wr.cell? ⟨w.heap.size + 1 + 1, 3, none⟩ = some (.slice kA kM kC) := (blk_cell HO.out 3).trans rfl
      have s4 : wr.cell? ⟨w.heap.size + 1 + 1, 4, none⟩ = some (.slice cA cM cC) := (blk_cell HO.out 4).trans rfl
      have p0 : wr.frozen? ⟨w.heap.size + 1, 0, none⟩ = false := blk_frozen HR.out 0
      have p1 : wr.frozen? ⟨w.heap.size + 1, 1, none⟩ = false := blk_frozen HR.out 1
      have p2 : wr.frozen? ⟨w.heap.size + 1, 2, none⟩ = false := blk_frozen HR.out 2
      have p3 : wr.frozen? ⟨w.heap.size + 1, 3, none⟩ = false := blk_frozen HR.out 3
      have p4 : wr.frozen? ⟨w.heap.size + 1, 4, none⟩ = false := blk_frozen HR.out 4
      have r0 := (blk_cell HR.out 0).trans rfl
      have r1 := (blk_cell HR.out 1).trans rfl
      have r2 := (blk_cell HR.out 2).trans rfl
      have r3 := (blk_cell HR.out 3).trans rfl
      have r4 := (blk_cell HR.out 4).trans rfl
      have HBL := Lib.hid HZ.out.below
      clear HZ
      go_wp2
      refine ret_val rfl rfl rfl (set5 HR.out _ _ _ _ _) ?_
      rw [HF.out]
      exact give_va HS.out HW1.out HBL.out HV.out (by omega) (by rw [HZ1.out]; omega)

theorem norm_all : ∀ D, NormAt D := by
  intro D
  induction D using Nat.strongRecOn with
  | _ D ih => exact norm_step D ih
end Go.Proofs.YthdnkcofcbinhaaGreatDoor
