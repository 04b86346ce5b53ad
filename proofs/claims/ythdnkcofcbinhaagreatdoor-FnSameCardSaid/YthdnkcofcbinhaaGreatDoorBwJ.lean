/- How much a Value holds, and that its reading holds no less (no program's steps here). -/
import Derived.Test.YthdnkcofcbinhaaGreatDoorSp2J
import Derived.Test.YthdnkcofcbinhaaGreatDoorValJ
import Derived.Test.YthdnkcofcbinhaaGreatDoorRows
import Derived.Deep.Slices
import Derived.Deep.Fields
import Derived.SliceStrings
import Derived.Deep.RegionHeld3
set_option linter.unusedVariables false
set_option linter.unusedSimpArgs false
namespace Go.Proofs.YthdnkcofcbinhaaGreatDoor
open Go.RowKit

/-- How much a Value holds. -/
def keysW : List ByteArray → Nat
  | [] => 0
  | k :: ks => k.size + 1 + keysW ks
mutual
def wt : Dat → Nat
  | .mk _ _ t ks its => 1 + t.size + keysW ks + wtL its
def wtL : List Dat → Nat
  | [] => 0
  | x :: xs => wt x + wtL xs
end
theorem wt_eq (v : Dat) : wt v = 1 + v.text.size + keysW v.keys + wtL v.items := by cases v; rfl

theorem wtL_le {H : Type} : ∀ (xs : List Dat) (ds : List (DataW H)), xs.length = ds.length → (∀ i (h : i < xs.length) (h' : i < ds.length), wt xs[i] ≤ Rows.uptoBulk ds[i]) → wtL xs ≤ Rows.uptoBulkAll ds := by
  intro xs
  induction xs with
  | nil => intro ds _ _; simp [wtL]
  | cons x xs ih =>
    intro ds hl h
    cases ds with
    | nil => simp at hl
    | cons d ds =>
      have h0 := h 0 (by simp) (by simp)
      have h1 := ih ds (by simpa using hl) (fun i hi hi' => by have := h (i + 1) (by simpa using hi) (by simpa using hi'); simpa using this)
      simp only [wtL, Rows.uptoBulkAll]
      simp at h0
      omega

theorem keysW_le {H : Type} : ∀ ss : List ByteArray, keysW ss ≤ Rows.uptoBulkAll (H := H) (Go.ChangeShapes.strs ss) := by
  intro ss
  induction ss with
  | nil => simp [keysW]
  | cons s ss ih =>
    have e : Go.ChangeShapes.strs (H := H) (s :: ss) = .lit (.string s.data.toList) :: Go.ChangeShapes.strs ss := rfl
    rw [e]
    simp only [keysW, Rows.uptoBulkAll, Rows.uptoBulk]
    have : s.data.toList.length = s.size := rfl
    omega

section
variable {H : Type} {enc : TypeId × Value → H} {w : World} {base : Nat} {spare : Nat → Bool} {held : Bool}

theorem addr_bare {w : World} {a : Addr} {v : Value} (h : w.cell? a = some v) : a.spot = none := by
  unfold World.cell? at h
  split at h
  · split at h
    · cases h
    · rename_i hs
      simpa using hs
  · cases h
theorem addr_plus (b o k : Nat) : (⟨b, o, none⟩ : Addr).add k = ⟨b, o + k, none⟩ := by
  unfold Addr.add
  split
  · rename_i h
    subst h
    rfl
  · rfl

theorem cellsOf_val : Tryz.prog.cellsOf 25 = 5 := by kernel_rfl
theorem cellsOf_str : Tryz.prog.cellsOf 9 = 1 := by kernel_rfl
theorem cellsOf_int64 : Tryz.prog.cellsOf 2 = 1 := by kernel_rfl
theorem cellsOf_strs : Tryz.prog.cellsOf 22 = 1 := by kernel_rfl
theorem cellsOf_vals : Tryz.prog.cellsOf 23 = 1 := by kernel_rfl

set_option maxRecDepth 100000 in
/-- What is read as a Value is one, and it holds no more than its reading. -/
theorem val_of : ∀ (fuel : Nat) (cs : List Value) (x : DataW H × List MemPlace), DataW.trod enc Tryz.prog w base spare held fuel 25 cs = some x → ∃ v, VA w v cs ∧ wt v ≤ Rows.uptoBulk x.1 := by
  intro fuel
  induction fuel using Nat.strongRecOn with
  | ind fuel ih =>
    intro cs x h
    obtain ⟨xs, n, hn, rfl, hlen, hxs, hf⟩ := DataW.trod_struct Tryz.underlying25 h
    rw [cellsOf_val] at hlen
    match cs, hlen with
    | [v0, v1, v2, v3, v4], _ =>
    match xs, hxs with
    | [y0, y1, y2, y3, y4], _ =>
    have h0 : DataW.trod enc Tryz.prog w base spare held n 2 (([v0, v1, v2, v3, v4].drop 0).take (Tryz.prog.cellsOf 2)) = [y0, y1, y2, y3, y4][0]? := hf 0 _ rfl
    rw [cellsOf_int64] at h0
    have h1 : DataW.trod enc Tryz.prog w base spare held n 2 (([v0, v1, v2, v3, v4].drop 1).take (Tryz.prog.cellsOf 2)) = [y0, y1, y2, y3, y4][1]? := hf 1 _ rfl
    rw [cellsOf_int64] at h1
    have h2 : DataW.trod enc Tryz.prog w base spare held n 9 (([v0, v1, v2, v3, v4].drop 2).take (Tryz.prog.cellsOf 9)) = [y0, y1, y2, y3, y4][2]? := hf 2 _ rfl
    rw [cellsOf_str] at h2
    have h3 : DataW.trod enc Tryz.prog w base spare held n 22 (([v0, v1, v2, v3, v4].drop 3).take (Tryz.prog.cellsOf 22)) = [y0, y1, y2, y3, y4][3]? := hf 3 _ rfl
    rw [cellsOf_strs] at h3
    have h4 : DataW.trod enc Tryz.prog w base spare held n 23 (([v0, v1, v2, v3, v4].drop 4).take (Tryz.prog.cellsOf 23)) = [y0, y1, y2, y3, y4][4]? := hf 4 _ rfl
    rw [cellsOf_vals] at h4
    simp at h0 h1 h2 h3 h4
    obtain ⟨k, e0, rfl, _⟩ := DataW.trod_int Tryz.underlying2 h0
    obtain ⟨m, e1, rfl, _⟩ := DataW.trod_int Tryz.underlying2 h1
    obtain ⟨t, e2, rfl, ht⟩ := DataW.trod_string Tryz.underlying9 h2
    simp at e0 e1 e2
    subst e0 e1 e2
    have hK : ∃ ka kc ks, v3 = .slice ka ks.length kc ∧ StrsAt w ka ks ∧ ks.length ≤ kc ∧ kc ≤ maxLen ∧ keysW ks ≤ Rows.uptoBulk y3.1 := by
      rcases Go.ChangeShapes.open_strings Tryz.underlying22 Tryz.underlying9 cellsOf_str h3 with ⟨hc, hx⟩ | ⟨a, len, cap, ss, hc, _, hl, hm, hz, hx, hcell, hws⟩
      · simp at hc
        exact ⟨none, 0, [], hc, fun i h => absurd h (Nat.not_lt_zero _), Nat.le_refl _, Nat.zero_le _, by simp [keysW]⟩
      · simp at hc
        have hle : len ≤ ss.length := by rw [hz]; split <;> omega
        have htl : (ss.take len).length = len := by simp; omega
        refine ⟨some a, cap, ss.take len, by rw [hc, htl], fun i hi => ?_, by rw [htl]; exact hl, hm, ?_⟩
        · have hi' : i < ss.length := by rw [htl] at hi; omega
          have hci := hcell i hi'
          have hg : (ss.take len)[i] = ss.getD i ByteArray.empty := by
            rw [List.getElem_take, List.getD_eq_getElem?_getD, List.getElem?_eq_getElem hi']
            rfl
          rw [hg]
          refine ⟨hws _ ?_, ?_⟩
          · rw [List.getD_eq_getElem?_getD, List.getElem?_eq_getElem hi']
            exact List.getElem_mem hi'
          · have h0c := hcell 0 (by omega)
            obtain ⟨b, o, sp⟩ := a
            have hsp := addr_bare h0c
            simp [Addr.add] at hsp
            subst hsp
            exact ⟨b, o, rfl, by rw [← addr_plus]; exact hci⟩
        · rw [hx]
          simp only [Rows.uptoBulk]
          have := keysW_le (H := H) (ss.take len)
          omega
    have hI : ∃ ia ic its, v4 = .slice ia (its : List Dat).length ic ∧ its.length ≤ ic ∧ ic ≤ maxLen ∧ (∃ cf : Nat → List Value, (∀ i, i < its.length → ∃ b o, ia = some ⟨b, o, none⟩ ∧ ∀ j u, (cf i)[j]? = some u → w.cell? ⟨b, o + i * 5 + j, none⟩ = some u) ∧
        ∀ i (h : i < its.length), VA w its[i] (cf i)) ∧ wtL its ≤ Rows.uptoBulk y4.1 := by
      rcases DataW.trod_slice Tryz.underlying23 h4 with ⟨hc, hx⟩ | ⟨a, len, cap, elems, rest, n', hn', hc, hx, _, hl, hm, hel, helt, _, _⟩
      · simp at hc
        exact ⟨none, 0, [], hc, Nat.le_refl _, Nat.zero_le _, ⟨fun _ => [], fun i h => absurd h (Nat.not_lt_zero _), fun i h => absurd h (Nat.not_lt_zero _)⟩, by simp [wtL]⟩
      · simp at hc
        have each : ∀ i, ∃ p : Dat × List Value, ∀ (h : i < len), VA w p.1 p.2 ∧ wt p.1 ≤ Rows.uptoBulk (elems[i]'(by omega)).1 ∧ w.cells? base (a.add (i * 5)) 5 = some p.2 := by
          intro i
          by_cases hi : i < len
          · have h := helt i hi
            rw [cellsOf_val, List.getElem?_eq_getElem (by omega), Option.bind_eq_some_iff] at h
            obtain ⟨cs', hc', ht'⟩ := h
            obtain ⟨v, hv, hw⟩ := ih n' (by omega) cs' _ ht'
            exact ⟨(v, cs'), fun _ => ⟨hv, hw, hc'⟩⟩
          · exact ⟨(.mk 0 0 ByteArray.empty [] [], []), fun h => absurd h hi⟩
        obtain ⟨f, hfx⟩ := Classical.skolem.1 each
        refine ⟨some a, cap, (List.range len).map fun i => (f i).1, by simp [hc], by simpa using hl, hm, ⟨fun i => (f i).2, fun i hi => ?_, fun i hi => ?_⟩, ?_⟩
        · have hi' : i < len := by simpa using hi
          obtain ⟨hv, _, hcs⟩ := hfx i hi'
          obtain ⟨_, _, hat⟩ := World.cells?_some hcs
          have hl5 : (f i).2.length = 5 := by
            obtain ⟨_, _, _, _, e⟩ := hv.shape
            rw [e]; rfl
          have hz0 : ∃ u, w.cell? (a.add 0) = some u := by
            obtain ⟨hv', _, hcs'⟩ := hfx 0 (by omega)
            obtain ⟨_, _, hat'⟩ := World.cells?_some hcs'
            have h5 := hat' 0 (by omega)
            have hl5' : (f 0).2.length = 5 := by
              obtain ⟨_, _, _, _, e⟩ := hv'.shape
              rw [e]; rfl
            rw [List.getElem?_eq_getElem (by omega)] at h5
            exact ⟨_, by simpa [Addr.add] using h5⟩
          obtain ⟨u0, hu0⟩ := hz0
          obtain ⟨b, o, sp⟩ := a
          have hsp := addr_bare hu0
          simp [Addr.add] at hsp
          subst hsp
          refine ⟨b, o, rfl, fun j u hu => ?_⟩
          have hj : j < 5 := by rw [← hl5]; exact (List.getElem?_eq_some_iff.1 hu).1
          have := hat j hj
          rw [addr_plus, addr_plus, hu] at this
          exact this
        · simpa using (hfx i (by simpa using hi)).1
        · rw [hx]
          simp only [Rows.uptoBulk]
          have := wtL_le (H := H) ((List.range len).map fun i => (f i).1) (elems.map (·.1)) (by simp [hel]) (fun i hi hi' => by
            have h := (hfx i (by simpa using hi)).2.1
            simpa using h)
          omega
    obtain ⟨ka, kc, ks, rfl, hk1, hk2, hk3, hk4⟩ := hK
    obtain ⟨ia, ic, its, rfl, hi1, hi2, ⟨cf, hi3, hi4⟩, hi5⟩ := hI
    refine ⟨.mk k m t ks its, VA.mk k m t ks its ka ia kc ic cf ht hk1 hk2 hk3 hi1 hi2 hi3 hi4, ?_⟩
    simp only [wt, List.map_cons, List.map_nil, Rows.uptoBulk, Rows.uptoBulkAll]
    have : t.data.toList.length = t.size := rfl
    omega
end
end Go.Proofs.YthdnkcofcbinhaaGreatDoor

/- Same. -/
namespace Go.Proofs.YthdnkcofcbinhaaGreatDoor
open Go.RowKit

set_option maxRecDepth 100000 in
set_option maxHeartbeats 4000000 in
theorem Same_any (N : Nat) : ∀ (a b : Dat) (w : World) (cs ds : List Value), SizeOf.sizeOf a < N → VA w a cs → VA w b ds → Calls Tryz.prog 7 #[.agg cs.toArray, .agg ds.toArray] w (IsBool (eqD a b) w) := by
  induction N with
  | zero => intro a b w cs ds h; omega
  | succ N ih =>
    intro a b w cs ds hN ha hb
    obtain ⟨ka, ia, kc, ic, rfl, ht, hk, hkc, hkm, hic, him, hit⟩ := ha.inv
    obtain ⟨kb, ib, kd, id_, rfl, ht2, hk2, hkc2, hkm2, hic2, him2, hit2⟩ := hb.inv
    have IH := Lib.hid ih
    have HIT := Lib.hid hit
    have HIT2 := Lib.hid hit2
    have HK := Lib.hid hk
    have HK2 := Lib.hid hk2
    have HN := Lib.hid hN
    clear ih hit hit2 hk hk2 ha hb hN ht ht2
    rcases int_or a.kind b.kind with ⟨e0, f0, q0⟩ | ⟨e0, f0, q0⟩
    case inr =>
      go_enter Tryz.func7, Tryz.ntmps7
      go_wp2
      go_ret
      exact ⟨ret_bool (eqD_false (fun h => q0.out (by rw [h]))).symm, up_alloc (up_alloc (Below.refl _ _) _) _⟩
    rcases int_or a.num b.num with ⟨e1, f1, q1⟩ | ⟨e1, f1, q1⟩
    case inr =>
      go_enter Tryz.func7, Tryz.ntmps7
      go_wp2
      go_ret
      exact ⟨ret_bool (eqD_false (fun h => q1.out (by rw [h]))).symm, up_alloc (up_alloc (Below.refl _ _) _) _⟩
    rcases bytes_or a.text b.text with ⟨e2, q2⟩ | ⟨e2, q2⟩
    case inr =>
      have Q2 := Lib.hid q2
      clear q2
      go_enter Tryz.func7, Tryz.ntmps7
      go_wp2
      go_ret
      exact ⟨ret_bool (eqD_false (fun h => Q2.out (by rw [h]))).symm, up_alloc (up_alloc (Below.refl _ _) _) _⟩
    have Q2 := Lib.hid q2
    clear q2
    rcases nat_or a.keys.length b.keys.length with ⟨e3, f3, g3, i3, q3⟩ | ⟨e3, f3, g3, i3, q3⟩
    case inr =>
      go_enter Tryz.func7, Tryz.ntmps7
      go_wp2
      go_ret
      exact ⟨ret_bool (eqD_false (fun h => q3.out (by rw [h]))).symm, up_alloc (up_alloc (Below.refl _ _) _) _⟩
    rcases nat_or a.items.length b.items.length with ⟨e4, f4, g4, i4, q4⟩ | ⟨e4, f4, g4, i4, q4⟩
    case inr =>
      go_enter Tryz.func7, Tryz.ntmps7
      go_wp2
      go_ret
      exact ⟨ret_bool (eqD_false (fun h => q4.out (by rw [h]))).symm, up_alloc (up_alloc (Below.refl _ _) _) _⟩
    have L3 := q3
    have L4 := q4
    have l3 : a.keys.length ≤ b.keys.length := by have := L3.out; omega
    have l4 : a.items.length ≤ b.items.length := by have := L4.out; omega
    go_enter Tryz.func7, Tryz.ntmps7
    go_wp2
    go_loopg [47] a.keys.length (fun gk v47 wr => ∃ i : Nat, v47 = .int .i64 i ∧ i + gk = a.keys.length ∧ Hid (∀ j, j < i → a.keys[j]? = b.keys[j]?) ∧
      Hid (wr.heap[w.heap.size]? = some (.cells #[.int .i64 a.kind, .int .i64 a.num, .string a.text, .slice ka a.keys.length kc, .slice ia a.items.length ic] 25 (0, 0))) ∧
      Hid (wr.heap[w.heap.size + 1]? = some (.cells #[.int .i64 b.kind, .int .i64 b.num, .string b.text, .slice kb b.keys.length kd, .slice ib b.items.length id_] 25 (0, 0))) ∧ Hid (Below w.heap.size w wr))
    case atStart => exact ⟨0, rfl, by omega, Lib.hid (fun _ h => absurd h (Nat.not_lt_zero _)), Lib.hid (blk_up (blk_new w _) (up_alloc (Below.refl _ _) _)), Lib.hid (by simpa using blk_new (w.alloc _) _), Lib.hid (up_alloc (up_alloc (Below.refl _ _) _) _)⟩
    case round =>
      obtain ⟨i, rfl, hi, HJ, HA, HB, HW⟩ := hrel
      have a3 : wr.cell? ⟨w.heap.size, 3, none⟩ = some (.slice ka a.keys.length kc) := (blk_cell HA.out 3).trans rfl
      have a4 : wr.cell? ⟨w.heap.size, 4, none⟩ = some (.slice ia a.items.length ic) := (blk_cell HA.out 4).trans rfl
      have b3 : wr.cell? ⟨w.heap.size + 1, 3, none⟩ = some (.slice kb b.keys.length kd) := (blk_cell HB.out 3).trans rfl
      by_cases hlt : i < a.keys.length
      · obtain ⟨hsz, x, o, hx, hc⟩ := (HK.out.up HW.out) i hlt
        obtain ⟨hsz2, y, o2, hy, hc2⟩ := (HK2.out.up HW.out) i (by omega)
        cases hx
        cases hy
        obtain ⟨s, hs⟩ : ∃ s, a.keys[i] = s := ⟨_, rfl⟩
        obtain ⟨t, ht⟩ : ∃ t, b.keys[i]'(by omega) = t := ⟨_, rfl⟩
        rw [hs] at hc
        rw [ht] at hc2
        have HS := Lib.hid hs
        have HT := Lib.hid ht
        clear hs ht hsz hsz2
        have i0 : (0 : Int) ≤ (i : Int) := by omega
        have i1 : (i : Int) < (a.keys.length : Int) := by omega
        have i2 : (i : Int) < (b.keys.length : Int) := by omega
        have i3 : i < b.keys.length := by omega
        rcases bytes_or s t with ⟨g0, g1⟩ | ⟨g0, g1⟩
        · have G := Lib.hid g1
          clear g1
          go_wp2
          go_quiet (fail)
          go_wp2
          go_roundg (a.keys.length - (i + 1))
          case measure => omega
          case rel =>
            refine ⟨i + 1, by go_num, by omega, Lib.hid (fun j hj => ?_), HA, HB, Lib.hid (up_drewN HW.out _)⟩
            rcases Nat.lt_or_ge j i with h | h
            · exact HJ.out j h
            · obtain rfl : j = i := by omega
              rw [List.getElem?_eq_getElem hlt, List.getElem?_eq_getElem i3, HS.out, HT.out, G.out]
        · have G := Lib.hid g1
          clear g1
          go_wp2
          go_quiet (fail)
          go_wp2
          go_ret
          exact ⟨ret_bool (eqD_false (fun h => by subst h; exact G.out (HS.out.symm.trans HT.out))).symm, up_drewN HW.out _⟩
      · have HKS : Hid (a.keys = b.keys) := Lib.hid (by
          apply List.ext_getElem?
          intro j
          rcases Nat.lt_or_ge j i with h | h
          · exact HJ.out j h
          · rw [List.getElem?_eq_none (by omega), List.getElem?_eq_none (by have := L3.out; omega)])
        clear HJ
        go_wp2
        go_loopg [65] a.items.length (fun gk v65 wr => ∃ i : Nat, v65 = .int .i64 i ∧ i + gk = a.items.length ∧ Hid (∀ j, j < i → a.items[j]? = b.items[j]?) ∧
          Hid (wr.heap[w.heap.size]? = some (.cells #[.int .i64 a.kind, .int .i64 a.num, .string a.text, .slice ka a.keys.length kc, .slice ia a.items.length ic] 25 (0, 0))) ∧
          Hid (wr.heap[w.heap.size + 1]? = some (.cells #[.int .i64 b.kind, .int .i64 b.num, .string b.text, .slice kb b.keys.length kd, .slice ib b.items.length id_] 25 (0, 0))) ∧ Hid (Below w.heap.size w wr))
        case atStart => exact ⟨0, rfl, by omega, Lib.hid (fun _ h => absurd h (Nat.not_lt_zero _)), HA, HB, HW⟩
        case round =>
          clear a3 a4 b3 HA HB HW
          obtain ⟨i, rfl, hi, HJ, HA, HB, HW⟩ := hrel
          have a4 : wr.cell? ⟨w.heap.size, 4, none⟩ = some (.slice ia a.items.length ic) := (blk_cell HA.out 4).trans rfl
          have b4 : wr.cell? ⟨w.heap.size + 1, 4, none⟩ = some (.slice ib b.items.length id_) := (blk_cell HB.out 4).trans rfl
          by_cases hlt2 : i < a.items.length
          · have i3 : i < b.items.length := by omega
            obtain ⟨bx, o, k1, k2, k3, k4, hx, h0, h1, h2, h3, h4, hvx⟩ := (HIT.out i).up HW.out hlt2
            obtain ⟨by_, o2, m1, m2, m3, m4, hy, g0, g1, g2, g3, g4, hvy⟩ := (HIT2.out i).up HW.out i3
            cases hx
            cases hy
            have hlt' := Dat.get_lt hlt2
            obtain ⟨x, hx⟩ : ∃ x, a.items[i] = x := ⟨_, rfl⟩
            obtain ⟨y, hy⟩ : ∃ y, b.items[i] = y := ⟨_, rfl⟩
            rw [hx] at h0 h1 h2 h3 h4 hvx hlt'
            rw [hy] at g0 g1 g2 g3 g4 hvy
            have HXE := Lib.hid hx
            have HYE := Lib.hid hy
            clear hx hy
            have HC := Lib.hid (fun W (hb : Below wr.heap.size wr W) => IH.out x y W _ _ (by have := HN.out; omega) (hvx.up hb) (hvy.up hb))
            clear hvx hvy hlt'
            have i0 : (0 : Int) ≤ (i : Int) := by omega
            have i1 : (i : Int) < (a.items.length : Int) := by omega
            have i2 : (i : Int) < (b.items.length : Int) := by omega
            by_cases hq : x = y
            · rw [eqD_true hq] at HC
              have HQ := Lib.hid hq
              clear hq
              go_wp2
              go_region_held3 (fun w' => Below wr.heap.size wr w' ∧ w'.cell? ⟨w.heap.size, 4, none⟩ = some (.slice (some ⟨bx, o, none⟩) a.items.length ic) ∧ w'.cell? ⟨w.heap.size + 1, 4, none⟩ = some (.slice (some ⟨by_, o2, none⟩) b.items.length id_) ∧
                  w'.cell? ⟨bx, o + i * 5, none⟩ = some (.int .i64 x.kind) ∧ w'.cell? ⟨bx, o + i * 5 + 1, none⟩ = some (.int .i64 x.num) ∧ w'.cell? ⟨bx, o + i * 5 + 2, none⟩ = some (.string x.text) ∧
                  w'.cell? ⟨bx, o + i * 5 + 3, none⟩ = some (.slice k1 x.keys.length k3) ∧ w'.cell? ⟨bx, o + i * 5 + 4, none⟩ = some (.slice k2 x.items.length k4) ∧
                  w'.cell? ⟨by_, o2 + i * 5, none⟩ = some (.int .i64 y.kind) ∧ w'.cell? ⟨by_, o2 + i * 5 + 1, none⟩ = some (.int .i64 y.num) ∧ w'.cell? ⟨by_, o2 + i * 5 + 2, none⟩ = some (.string y.text) ∧
                  w'.cell? ⟨by_, o2 + i * 5 + 3, none⟩ = some (.slice m1 y.keys.length m3) ∧ w'.cell? ⟨by_, o2 + i * 5 + 4, none⟩ = some (.slice m2 y.items.length m4))
                (first
                  | exact ⟨up_drew (Below.refl _ _), a4, b4, h0, h1, h2, h3, h4, g0, g1, g2, g3, g4⟩
                  | (have hup := up_trans (up_drew (Below.refl _ _)) hbr
                     exact ⟨hup, cell_up hup _ _ a4, cell_up hup _ _ b4, cell_up hup _ _ h0, cell_up hup _ _ h1, cell_up hup _ _ h2, cell_up hup _ _ h3, cell_up hup _ _ h4, cell_up hup _ _ g0, cell_up hup _ _ g1, cell_up hup _ _ g2, cell_up hup _ _ g3, cell_up hup _ _ g4⟩))
                ((go_at_call 7; refine (HC.out _ (up_drew (Below.refl _ _))).mono ?_; rintro e w1 ⟨rfl, hbr⟩))
              clear a4 b4 h0 h1 h2 h3 h4 g0 g1 g2 g3 g4
              have HUP := Lib.hid (up_trans (up_drew (Below.refl _ _)) hbr)
              clear hbr
              go_wp2
              go_roundg (a.items.length - (i + 1))
              case measure => omega
              case rel =>
                refine ⟨i + 1, by go_num, by omega, Lib.hid (fun j hj => ?_), Lib.hid (blk_up HA.out HUP.out), Lib.hid (blk_up HB.out HUP.out), Lib.hid (up_trans HW.out HUP.out)⟩
                rcases Nat.lt_or_ge j i with h | h
                · exact HJ.out j h
                · obtain rfl : j = i := by omega
                  rw [List.getElem?_eq_getElem hlt2, List.getElem?_eq_getElem i3, HXE.out, HYE.out, HQ.out]
            · rw [eqD_false hq] at HC
              have HQ := Lib.hid hq
              clear hq
              go_wp2
              go_region_held3 (fun w' => Below wr.heap.size wr w' ∧ w'.cell? ⟨w.heap.size, 4, none⟩ = some (.slice (some ⟨bx, o, none⟩) a.items.length ic) ∧ w'.cell? ⟨w.heap.size + 1, 4, none⟩ = some (.slice (some ⟨by_, o2, none⟩) b.items.length id_) ∧
                  w'.cell? ⟨bx, o + i * 5, none⟩ = some (.int .i64 x.kind) ∧ w'.cell? ⟨bx, o + i * 5 + 1, none⟩ = some (.int .i64 x.num) ∧ w'.cell? ⟨bx, o + i * 5 + 2, none⟩ = some (.string x.text) ∧
                  w'.cell? ⟨bx, o + i * 5 + 3, none⟩ = some (.slice k1 x.keys.length k3) ∧ w'.cell? ⟨bx, o + i * 5 + 4, none⟩ = some (.slice k2 x.items.length k4) ∧
                  w'.cell? ⟨by_, o2 + i * 5, none⟩ = some (.int .i64 y.kind) ∧ w'.cell? ⟨by_, o2 + i * 5 + 1, none⟩ = some (.int .i64 y.num) ∧ w'.cell? ⟨by_, o2 + i * 5 + 2, none⟩ = some (.string y.text) ∧
                  w'.cell? ⟨by_, o2 + i * 5 + 3, none⟩ = some (.slice m1 y.keys.length m3) ∧ w'.cell? ⟨by_, o2 + i * 5 + 4, none⟩ = some (.slice m2 y.items.length m4))
                (first
                  | exact ⟨up_drew (Below.refl _ _), a4, b4, h0, h1, h2, h3, h4, g0, g1, g2, g3, g4⟩
                  | (have hup := up_trans (up_drew (Below.refl _ _)) hbr
                     exact ⟨hup, cell_up hup _ _ a4, cell_up hup _ _ b4, cell_up hup _ _ h0, cell_up hup _ _ h1, cell_up hup _ _ h2, cell_up hup _ _ h3, cell_up hup _ _ h4, cell_up hup _ _ g0, cell_up hup _ _ g1, cell_up hup _ _ g2, cell_up hup _ _ g3, cell_up hup _ _ g4⟩))
                ((go_at_call 7; refine (HC.out _ (up_drew (Below.refl _ _))).mono ?_; rintro e w1 ⟨rfl, hbr⟩))
              clear a4 b4 h0 h1 h2 h3 h4 g0 g1 g2 g3 g4
              have HUP := Lib.hid (up_trans (up_drew (Below.refl _ _)) hbr)
              clear hbr
              go_wp2
              go_ret
              exact ⟨ret_bool (eqD_false (fun h => by subst h; exact HQ.out (HXE.out.symm.trans HYE.out))).symm, up_trans HW.out HUP.out⟩
          · have HIS : Hid (a.items = b.items) := Lib.hid (by
              apply List.ext_getElem?
              intro j
              rcases Nat.lt_or_ge j i with h | h
              · exact HJ.out j h
              · rw [List.getElem?_eq_none (by omega), List.getElem?_eq_none (by have := L4.out; omega)])
            clear HJ
            go_wp2
            go_ret
            exact ⟨ret_bool (eqD_true (Dat.ext_of q0.out q1.out Q2.out HKS.out HIS.out)).symm, HW.out⟩
end Go.Proofs.YthdnkcofcbinhaaGreatDoor
