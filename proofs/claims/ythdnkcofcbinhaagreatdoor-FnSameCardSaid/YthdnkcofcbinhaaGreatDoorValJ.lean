/- The plain data of the thin package's Value, and how it lies in memory. -/
import Derived.WalkKit
import Derived.WalkSpells
import Derived.Lib.Hide
import Derived.Deep.LoopGhost
import Derived.Deep.Draws
import Derived.Deep.QuietTactic
import Derived.BigQuiet
import Derived.Test.YthdnkcofcbinhaaGreatDoorProg
import Derived.WalkLawsBesides
set_option linter.unusedVariables false
set_option linter.unusedSimpArgs false
namespace Go.Proofs.YthdnkcofcbinhaaGreatDoor
open Go.RowKit

/-- A Value as data. -/
inductive Dat where
  | mk (kind num : Int) (text : ByteArray) (keys : List ByteArray) (items : List Dat)

namespace Dat
def kind : Dat → Int | .mk k _ _ _ _ => k
def num : Dat → Int | .mk _ n _ _ _ => n
def text : Dat → ByteArray | .mk _ _ t _ _ => t
def keys : Dat → List ByteArray | .mk _ _ _ ks _ => ks
def items : Dat → List Dat | .mk _ _ _ _ its => its
theorem eta (v : Dat) : v = .mk v.kind v.num v.text v.keys v.items := by cases v; rfl
theorem item_lt {v x : Dat} (h : x ∈ v.items) : SizeOf.sizeOf x < SizeOf.sizeOf v := by
  cases v with
  | mk k n t ks its =>
    have h1 : x ∈ its := h
    have := List.sizeOf_lt_of_mem h1
    simp
    omega
theorem get_lt {v : Dat} {i : Nat} (h : i < v.items.length) : SizeOf.sizeOf v.items[i] < SizeOf.sizeOf v := item_lt (List.getElem_mem h)
end Dat

/-- A row of strings. -/
def StrsAt (w : World) (a : Option Addr) (ss : List ByteArray) : Prop :=
  ∀ i (h : i < ss.length), ss[i].size ≤ maxLen ∧ ∃ b o, a = some ⟨b, o, none⟩ ∧ w.cell? ⟨b, o + i, none⟩ = some (.string ss[i])

/-- The cells of a Value that lies in the world. -/
inductive VA (w : World) : Dat → List Value → Prop
  | mk (k n : Int) (t : ByteArray) (ks : List ByteArray) (its : List Dat) (ka ia : Option Addr) (kc ic : Nat) (cf : Nat → List Value)
      (ht : t.size ≤ maxLen) (hk : StrsAt w ka ks) (hkc : ks.length ≤ kc) (hkm : kc ≤ maxLen) (hic : its.length ≤ ic) (him : ic ≤ maxLen)
      (hcf : ∀ i, i < its.length → ∃ b o, ia = some ⟨b, o, none⟩ ∧ ∀ j u, (cf i)[j]? = some u → w.cell? ⟨b, o + i * 5 + j, none⟩ = some u)
      (hit : ∀ i (h : i < its.length), VA w its[i] (cf i)) :
      VA w (.mk k n t ks its) [.int .i64 k, .int .i64 n, .string t, .slice ka ks.length kc, .slice ia its.length ic]

theorem StrsAt.mono {w w' : World} (hc : ∀ a u, w.cell? a = some u → w'.cell? a = some u) {a : Option Addr} {ss : List ByteArray} (h : StrsAt w a ss) : StrsAt w' a ss :=
  fun i hi => let ⟨l, b, o, e, c⟩ := h i hi; ⟨l, b, o, e, hc _ _ c⟩

theorem VA.mono {w w' : World} (hc : ∀ a u, w.cell? a = some u → w'.cell? a = some u) {v : Dat} {cs : List Value} (h : VA w v cs) : VA w' v cs := by
  induction h with
  | mk k n t ks its ka ia kc ic cf ht hk hkc hkm hic him hcf _ ih =>
    exact .mk k n t ks its ka ia kc ic cf ht (hk.mono hc) hkc hkm hic him (fun i hi => let ⟨b, o, e, c⟩ := hcf i hi; ⟨b, o, e, fun j u hj => hc _ _ (c j u hj)⟩) ih

theorem cell_up {w w1 : World} (h : Below w.heap.size w w1) : ∀ a u, w.cell? a = some u → w1.cell? a = some u := fun a _ hc => (h.cell (World.block_lt_of_cell? w a hc)).trans hc

theorem VA.up {w w1 : World} (hb : Below w.heap.size w w1) {v : Dat} {cs : List Value} (h : VA w v cs) : VA w1 v cs := h.mono (cell_up hb)
theorem StrsAt.up {w w1 : World} (hb : Below w.heap.size w w1) {a : Option Addr} {ss : List ByteArray} (h : StrsAt w a ss) : StrsAt w1 a ss := h.mono (cell_up hb)

/-- What stands in item i. -/
def ItemAt (w : World) (ia : Option Addr) (v : Dat) (i : Nat) : Prop :=
  ∀ h : i < v.items.length, ∃ b o ka ia' kc ic, ia = some ⟨b, o, none⟩ ∧ w.cell? ⟨b, o + i * 5, none⟩ = some (.int .i64 v.items[i].kind) ∧ w.cell? ⟨b, o + i * 5 + 1, none⟩ = some (.int .i64 v.items[i].num) ∧
    w.cell? ⟨b, o + i * 5 + 2, none⟩ = some (.string v.items[i].text) ∧ w.cell? ⟨b, o + i * 5 + 3, none⟩ = some (.slice ka v.items[i].keys.length kc) ∧
    w.cell? ⟨b, o + i * 5 + 4, none⟩ = some (.slice ia' v.items[i].items.length ic) ∧
    VA w v.items[i] [.int .i64 v.items[i].kind, .int .i64 v.items[i].num, .string v.items[i].text, .slice ka v.items[i].keys.length kc, .slice ia' v.items[i].items.length ic]

theorem VA.shape {w : World} {v : Dat} {cs : List Value} (h : VA w v cs) :
    ∃ ka ia kc ic, cs = [.int .i64 v.kind, .int .i64 v.num, .string v.text, .slice ka v.keys.length kc, .slice ia v.items.length ic] := by
  cases h with
  | mk k n t ks its ka ia kc ic cf ht hk hkc hkm hic him hcf hit => exact ⟨ka, ia, kc, ic, rfl⟩

theorem VA.inv {w : World} {v : Dat} {cs : List Value} (h : VA w v cs) :
    ∃ ka ia kc ic, cs = [.int .i64 v.kind, .int .i64 v.num, .string v.text, .slice ka v.keys.length kc, .slice ia v.items.length ic] ∧ v.text.size ≤ 9223372036854775807 ∧ StrsAt w ka v.keys ∧ v.keys.length ≤ kc ∧ kc ≤ 9223372036854775807 ∧
      v.items.length ≤ ic ∧ ic ≤ 9223372036854775807 ∧ ∀ i, ItemAt w ia v i := by
  cases h with
  | mk k n t ks its ka ia kc ic cf ht hk hkc hkm hic him hcf hit =>
    refine ⟨ka, ia, kc, ic, rfl, by simpa [maxLen, Dat.text] using ht, hk, hkc, by simpa [maxLen] using hkm, hic, by simpa [maxLen] using him, fun i hi => ?_⟩
    obtain ⟨b, o, e, c⟩ := hcf i hi
    have hv := hit i hi
    obtain ⟨ka', ia', kc', ic', hcs⟩ := hv.shape
    rw [hcs] at hv c
    exact ⟨b, o, ka', ia', kc', ic', e, c 0 _ rfl, c 1 _ rfl, c 2 _ rfl, c 3 _ rfl, c 4 _ rfl, hv⟩

theorem ItemAt.up {w w1 : World} (hb : Below w.heap.size w w1) {ia : Option Addr} {v : Dat} {i : Nat} (h : ItemAt w ia v i) : ItemAt w1 ia v i := by
  intro hi
  obtain ⟨b, o, ka, ia', kc, ic, e, c0, c1, c2, c3, c4, hv⟩ := h hi
  exact ⟨b, o, ka, ia', kc, ic, e, cell_up hb _ _ c0, cell_up hb _ _ c1, cell_up hb _ _ c2, cell_up hb _ _ c3, cell_up hb _ _ c4, hv.up hb⟩

/-- Blocks: what lies in one. -/
theorem blk_cell {w : World} {g : Nat} {t : TypeId} {cs : Array Value} (h : w.heap[g]? = some (.cells cs t (0, 0))) (i : Nat) : w.cell? ⟨g, i, none⟩ = cs[i]? := cell_of_row w g i cs t (0, 0) h
theorem blk_frozen {w : World} {g : Nat} {t : TypeId} {cs : Array Value} (h : w.heap[g]? = some (.cells cs t (0, 0))) (i : Nat) : w.frozen? ⟨g, i, none⟩ = false := by simp [World.frozen?, h]
theorem blk_lt {w : World} {g : Nat} {o : Obj} (h : w.heap[g]? = some o) : g < w.heap.size := (Array.getElem?_eq_some_iff.1 h).1
theorem blk_up {w w1 : World} {g : Nat} {o : Obj} (h : w.heap[g]? = some o) (hb : Below w.heap.size w w1) : w1.heap[g]? = some o := (hb.block g (blk_lt h)).trans h
theorem blk_new (w : World) (o : Obj) : (w.alloc o).heap[w.heap.size]? = some o := heap_alloc_new w o

theorem up_alloc {w W : World} (h : Below w.heap.size w W) (o : Obj) : Below w.heap.size w (W.alloc o) := h.alloc h.size o
theorem up_drew {w W : World} (h : Below w.heap.size w W) : Below w.heap.size w W.drew := h.drew
theorem up_drewN {w W : World} (h : Below w.heap.size w W) (n : Nat) : Below w.heap.size w (W.drewN n) := ⟨h.os, h.tape, h.output, h.size, h.block⟩
theorem up_trans {w w1 w2 : World} (h : Below w.heap.size w w1) (k : Below w1.heap.size w1 w2) : Below w.heap.size w w2 := h.trans (k.mono h.size)

/-- Some whole number, and new blocks alone. -/
def SomeInt (w : World) (e : Ending) (w' : World) : Prop := ∃ n : Int, e = .returned (.int .i64 n) ∧ Below w.heap.size w w'
/-- A truth value of which something is known when it is true, and new blocks alone. -/
def SomeBool (p : Prop) (w : World) (e : Ending) (w' : World) : Prop := ∃ b : Bool, e = .returned (.bool b) ∧ (b = true → p) ∧ Below w.heap.size w w'
end Go.Proofs.YthdnkcofcbinhaaGreatDoor

/- The reference's plain functions over Values: what they hand back, and that they only make new blocks. -/
namespace Go.Proofs.YthdnkcofcbinhaaGreatDoor
open Go.RowKit

/-- A text of printable characters, tabs and newlines, not long. -/
def Wordy (s : ByteArray) : Prop := (∀ i (h : i < s.size), (32 ≤ (s[i]'h).toNat ∧ (s[i]'h).toNat ≤ 126) ∨ (s[i]'h).toNat = 9 ∨ (s[i]'h).toNat = 10) ∧ s.size ≤ 200

def WordTo (s : ByteArray) (k : Nat) : Prop := ∀ i (h : i < s.size), i < k → (32 ≤ (s[i]'h).toNat ∧ (s[i]'h).toNat ≤ 126) ∨ (s[i]'h).toNat = 9 ∨ (s[i]'h).toNat = 10
/-- A truth value of which something is known when it is true; the world stays. -/
def QuietBool (p : Prop) (w : World) (e : Ending) (w' : World) : Prop := ∃ b : Bool, e = .returned (.bool b) ∧ (b = true → p) ∧ w = w'
theorem dec_or (p : Prop) [Decidable p] : decide p = true ∨ decide p = false := by cases decide p <;> simp
theorem eq_or (c d : Int) : ((c == d) = true ∧ (c != d) = false) ∨ ((c == d) = false ∧ (c != d) = true) := by
  by_cases h : c = d
  · exact .inl ⟨beq_iff_eq.mpr h, bne_eq_false_iff_eq.mpr h⟩
  · exact .inr ⟨beq_eq_false_iff_ne.mpr h, bne_iff_ne.mpr h⟩
theorem WordTo.succ {s : ByteArray} {k : Nat} (h : WordTo s k) (c : Int) (hc : ∀ hk : k < s.size, ((s[k]'hk).toNat : Int) = c)
    (hg : ((decide (c < 32) || decide (126 < c)) && ((c != 9) && (c != 10))) = false) : WordTo s (k + 1) := by
  intro i hi hik
  rcases Nat.lt_or_ge i k with h1 | h1
  · exact h i hi h1
  · obtain rfl : i = k := by omega
    have := hc hi
    simp at hg
    omega

set_option maxHeartbeats 1000000 in
theorem isWord_any (s : ByteArray) (w : World) (hs : s.size ≤ 9223372036854775807) : Calls Tryz.prog 29 #[.string s] w (QuietBool (Wordy s) w) := by
  go_enter Tryz.func29, Tryz.ntmps29
  go_wp2
  go_loopg [3] s.size (fun gk v3 wr => ∃ i : Nat, v3 = .int .i64 i ∧ i + gk = s.size ∧ Hid (WordTo s i) ∧ wr = w)
  case atStart => exact ⟨0, rfl, by omega, Lib.hid (fun _ _ h => absurd h (Nat.not_lt_zero _)), rfl⟩
  case round =>
    obtain ⟨i, rfl, hi, HW, hwr⟩ := hrel
    subst hwr
    by_cases hlt : i < s.size
    · obtain ⟨c, hc⟩ : ∃ c : Int, ∀ h : i < s.size, ((s[i]'h).toNat : Int) = c := ⟨((s[i]'hlt).toNat : Int), fun _ => rfl⟩
      have HC := Lib.hid hc
      rcases dec_or (c < 32) with b1 | b1 <;> rcases dec_or (126 < c) with b2 | b2 <;> rcases eq_or c 9 with ⟨b3, b4⟩ | ⟨b3, b4⟩ <;> rcases eq_or c 10 with ⟨b5, b6⟩ | ⟨b5, b6⟩
      all_goals
        go_wp2
        first
          | (go_roundg (s.size - (i + 1))
             case measure => omega
             case rel => exact ⟨i + 1, by go_num, by omega, Lib.hid (HW.out.succ c HC.out (by rw [b1, b2, b4, b6]; rfl)), rfl⟩)
          | (go_ret
             exact ⟨false, rfl, by simp, rfl⟩)
    · have hall : i = s.size := by omega
      have HE := Lib.hid hall
      clear hall
      go_wp2
      go_ret
      exact ⟨decide ((s.size : Int) ≤ 200), rfl, fun h => ⟨fun j hj => HW.out j hj (by have := HE.out; omega), by simp at h; omega⟩, rfl⟩

set_option maxHeartbeats 1000000 in
/-- No text is too long for the statement, or one is: whatever it says. -/
theorem zzFits2_any (ka : Option Addr) (kc : Nat) (ks : List ByteArray) (w : World) (hk : StrsAt w ka ks) (hkc : ks.length ≤ kc) (hkm : kc ≤ 9223372036854775807) :
    Calls Tryz.prog 10 #[.slice ka ks.length kc] w (QuietBool True w) := by
  have HK := Lib.hid hk
  clear hk
  by_cases hbig : (2147483647 : Int) < ks.length
  · go_enter Tryz.func10, Tryz.ntmps10
    go_wp2
    go_ret
    exact ⟨false, rfl, fun _ => trivial, rfl⟩
  · have bbig := decide_eq_false hbig
    go_enter Tryz.func10, Tryz.ntmps10
    go_wp2
    go_loopg [10] ks.length (fun gk v10 wr => ∃ i : Nat, v10 = .int .i64 i ∧ i + gk = ks.length ∧ wr = w)
    case atStart => exact ⟨0, rfl, by omega, rfl⟩
    case round =>
      obtain ⟨i, rfl, hi, hwr⟩ := hrel
      subst hwr
      by_cases hlt : i < ks.length
      · obtain ⟨hl, b, o, hb, hc⟩ := HK.out i hlt
        cases hb
        obtain ⟨s, hs⟩ : ∃ s, ks[i] = s := ⟨_, rfl⟩
        rw [hs] at hc
        clear hs hl
        rcases dec_or ((2147483647 : Int) < s.size) with b1 | b1
        all_goals
          go_wp2
          first
            | (go_roundg (ks.length - (i + 1))
               case measure => omega
               case rel => exact ⟨i + 1, by go_num, by omega, rfl⟩)
            | (go_ret
               exact ⟨false, rfl, fun _ => trivial, rfl⟩)
      · go_wp2
        go_ret
        exact ⟨true, rfl, fun _ => trivial, rfl⟩

set_option maxHeartbeats 1000000 in
theorem zzFits1_any (v : Dat) (cs : List Value) (w : World) (hv : VA w v cs) :
    Calls Tryz.prog 4 #[.agg cs.toArray] w (SomeBool True w) := by
  obtain ⟨ka, ia, kc, ic, rfl, ht, hk, hkc, hkm, hic, him, hit⟩ := hv.inv
  have HF := Lib.hid (fun W (hb : Below w.heap.size w W) => zzFits2_any ka kc v.keys W (hk.up hb) hkc hkm)
  clear hit hk
  rcases dec_or ((2147483647 : Int) < v.text.size) with b1 | b1 <;> rcases dec_or ((2147483647 : Int) < v.items.length) with b2 | b2
  all_goals
    go_enter Tryz.func4, Tryz.ntmps4
    go_wp2_with (go_at_call 10; refine (HF.out _ (up_alloc (Below.refl _ _) _)).mono ?_; rintro e w' ⟨b, rfl, _, rfl⟩; cases b)
    all_goals
      go_ret
      exact ⟨_, rfl, fun _ => trivial, up_alloc (Below.refl _ _) _⟩
end Go.Proofs.YthdnkcofcbinhaaGreatDoor

/- Small words on strings, numbers and Values (no program's steps here). -/
namespace Go.Proofs.YthdnkcofcbinhaaGreatDoor
open Go.RowKit

theorem ret_bool {b c : Bool} (h : b = c) : Ending.returned (.bool b) = .returned (.bool c) := by rw [h]
/-- Whether two Values are one. -/
noncomputable def eqD (a b : Dat) : Bool := @decide (a = b) (Classical.propDecidable _)
theorem eqD_true {a b : Dat} (h : a = b) : eqD a b = true := by unfold eqD; simp [h]
theorem eqD_false {a b : Dat} (h : ¬ a = b) : eqD a b = false := by unfold eqD; simp [h]
theorem eqD_iff {a b : Dat} : eqD a b = true ↔ a = b := by unfold eqD; simp
def IsBool (r : Bool) (w : World) (e : Ending) (w' : World) : Prop := e = .returned (.bool r) ∧ Below w.heap.size w w'
theorem Dat.ext_of {a b : Dat} (h0 : a.kind = b.kind) (h1 : a.num = b.num) (h2 : a.text = b.text) (h3 : a.keys = b.keys) (h4 : a.items = b.items) : a = b := by
  cases a; cases b
  simp only [Dat.kind, Dat.num, Dat.text, Dat.keys, Dat.items] at h0 h1 h2 h3 h4
  subst h0 h1 h2 h3 h4
  rfl
theorem bytes_eq {s t : ByteArray} (h : (s.toList == t.toList) = true) : s = t := by
  have h1 : s.toList = t.toList := by simpa using h
  rw [ByteArray.toList_eq, ByteArray.toList_eq] at h1
  exact ByteArray.ext (Array.ext' h1)
theorem bytes_or (s t : ByteArray) : ((s.toList == t.toList) = true ∧ s = t) ∨ ((s.toList == t.toList) = false ∧ s ≠ t) := by
  cases h : (s.toList == t.toList)
  · exact .inr ⟨rfl, fun e => by simp [e] at h⟩
  · exact .inl ⟨rfl, bytes_eq h⟩
theorem nat_or (m n : Nat) : ((m == n) = true ∧ (m != n) = false ∧ ((m : Int) == (n : Int)) = true ∧ ((m : Int) != (n : Int)) = false ∧ Hid (m = n)) ∨
    ((m == n) = false ∧ (m != n) = true ∧ ((m : Int) == (n : Int)) = false ∧ ((m : Int) != (n : Int)) = true ∧ Hid (m ≠ n)) := by
  by_cases h : m = n
  · exact .inl ⟨beq_iff_eq.mpr h, bne_eq_false_iff_eq.mpr h, beq_iff_eq.mpr (by omega), bne_eq_false_iff_eq.mpr (by omega), h⟩
  · exact .inr ⟨beq_eq_false_iff_ne.mpr h, bne_iff_ne.mpr h, beq_eq_false_iff_ne.mpr (by omega), bne_iff_ne.mpr (by omega), h⟩
theorem int_or (m n : Int) : ((m == n) = true ∧ (m != n) = false ∧ Hid (m = n)) ∨ ((m == n) = false ∧ (m != n) = true ∧ Hid (m ≠ n)) := by
  by_cases h : m = n
  · exact .inl ⟨beq_iff_eq.mpr h, bne_eq_false_iff_eq.mpr h, h⟩
  · exact .inr ⟨beq_eq_false_iff_ne.mpr h, bne_iff_ne.mpr h, h⟩
end Go.Proofs.YthdnkcofcbinhaaGreatDoor
