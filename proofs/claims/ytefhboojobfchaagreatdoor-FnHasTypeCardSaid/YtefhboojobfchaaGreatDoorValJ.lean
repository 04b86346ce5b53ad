/- The plain data of the thin package's Value, and how it lies in memory. -/
import Derived.WalkKit
import Derived.WalkSpells
import Derived.Lib.Hide
import Derived.Deep.LoopGhost
import Derived.Deep.Draws
import Derived.Deep.QuietTactic
import Derived.BigQuiet
set_option linter.unusedVariables false
set_option linter.unusedSimpArgs false
namespace Go.Proofs.YtefhboojobfchaaGreatDoor
open Go.RowKit

/-- A Value as data. -/
inductive Dat where
  | mk (kind num : Int) (text : ByteArray) (keys : List ByteArray) (items : List Dat)

namespace Dat
def kind : Dat → Int | .mk k _ _ _ _ => k
def num : Dat → Int | .mk _ n _ _ _ => n
def text : Dat → ByteArray | .mk _ _ t _ _ => t
def keys : Dat → List ByteArray | .mk _ _ _ ks _ => ks
def items : Dat → List Dat | .mk _ _ _ _ its => its
theorem eta (v : Dat) : v = .mk v.kind v.num v.text v.keys v.items := by cases v; rfl
theorem item_lt {v x : Dat} (h : x ∈ v.items) : SizeOf.sizeOf x < SizeOf.sizeOf v := by
  cases v with
  | mk k n t ks its =>
    have h1 : x ∈ its := h
    have := List.sizeOf_lt_of_mem h1
    simp
    omega
theorem get_lt {v : Dat} {i : Nat} (h : i < v.items.length) : SizeOf.sizeOf v.items[i] < SizeOf.sizeOf v := item_lt (List.getElem_mem h)
end Dat

/-- A row of strings. -/
def StrsAt (w : World) (a : Option Addr) (ss : List ByteArray) : Prop :=
  ∀ i (h : i < ss.length), ss[i].size ≤ maxLen ∧ ∃ b o, a = some ⟨b, o, none⟩ ∧ w.cell? ⟨b, o + i, none⟩ = some (.string ss[i])

/-- The cells of a Value that lies in the world. -/
inductive VA (w : World) : Dat → List Value → Prop
  | mk (k n : Int) (t : ByteArray) (ks : List ByteArray) (its : List Dat) (ka ia : Option Addr) (kc ic : Nat) (cf : Nat → List Value)
      (ht : t.size ≤ maxLen) (hk : StrsAt w ka ks) (hkc : ks.length ≤ kc) (hkm : kc ≤ maxLen) (hic : its.length ≤ ic) (him : ic ≤ maxLen)
      (hcf : ∀ i, i < its.length → ∃ b o, ia = some ⟨b, o, none⟩ ∧ ∀ j u, (cf i)[j]? = some u → w.cell? ⟨b, o + i * 5 + j, none⟩ = some u)
      (hit : ∀ i (h : i < its.length), VA w its[i] (cf i)) :
      VA w (.mk k n t ks its) [.int .i64 k, .int .i64 n, .string t, .slice ka ks.length kc, .slice ia its.length ic]

theorem StrsAt.mono {w w' : World} (hc : ∀ a u, w.cell? a = some u → w'.cell? a = some u) {a : Option Addr} {ss : List ByteArray} (h : StrsAt w a ss) : StrsAt w' a ss :=
  fun i hi => let ⟨l, b, o, e, c⟩ := h i hi; ⟨l, b, o, e, hc _ _ c⟩

theorem VA.mono {w w' : World} (hc : ∀ a u, w.cell? a = some u → w'.cell? a = some u) {v : Dat} {cs : List Value} (h : VA w v cs) : VA w' v cs := by
  induction h with
  | mk k n t ks its ka ia kc ic cf ht hk hkc hkm hic him hcf _ ih =>
    exact .mk k n t ks its ka ia kc ic cf ht (hk.mono hc) hkc hkm hic him (fun i hi => let ⟨b, o, e, c⟩ := hcf i hi; ⟨b, o, e, fun j u hj => hc _ _ (c j u hj)⟩) ih

theorem cell_up {w w1 : World} (h : Below w.heap.size w w1) : ∀ a u, w.cell? a = some u → w1.cell? a = some u := fun a _ hc => (h.cell (World.block_lt_of_cell? w a hc)).trans hc

theorem VA.up {w w1 : World} (hb : Below w.heap.size w w1) {v : Dat} {cs : List Value} (h : VA w v cs) : VA w1 v cs := h.mono (cell_up hb)
theorem StrsAt.up {w w1 : World} (hb : Below w.heap.size w w1) {a : Option Addr} {ss : List ByteArray} (h : StrsAt w a ss) : StrsAt w1 a ss := h.mono (cell_up hb)

/-- What stands in item i. -/
def ItemAt (w : World) (ia : Option Addr) (v : Dat) (i : Nat) : Prop :=
  ∀ h : i < v.items.length, ∃ b o ka ia' kc ic, ia = some ⟨b, o, none⟩ ∧ w.cell? ⟨b, o + i * 5, none⟩ = some (.int .i64 v.items[i].kind) ∧ w.cell? ⟨b, o + i * 5 + 1, none⟩ = some (.int .i64 v.items[i].num) ∧
    w.cell? ⟨b, o + i * 5 + 2, none⟩ = some (.string v.items[i].text) ∧ w.cell? ⟨b, o + i * 5 + 3, none⟩ = some (.slice ka v.items[i].keys.length kc) ∧
    w.cell? ⟨b, o + i * 5 + 4, none⟩ = some (.slice ia' v.items[i].items.length ic) ∧
    VA w v.items[i] [.int .i64 v.items[i].kind, .int .i64 v.items[i].num, .string v.items[i].text, .slice ka v.items[i].keys.length kc, .slice ia' v.items[i].items.length ic]

theorem VA.shape {w : World} {v : Dat} {cs : List Value} (h : VA w v cs) :
    ∃ ka ia kc ic, cs = [.int .i64 v.kind, .int .i64 v.num, .string v.text, .slice ka v.keys.length kc, .slice ia v.items.length ic] := by
  cases h with
  | mk k n t ks its ka ia kc ic cf ht hk hkc hkm hic him hcf hit => exact ⟨ka, ia, kc, ic, rfl⟩

theorem VA.inv {w : World} {v : Dat} {cs : List Value} (h : VA w v cs) :
    ∃ ka ia kc ic, cs = [.int .i64 v.kind, .int .i64 v.num, .string v.text, .slice ka v.keys.length kc, .slice ia v.items.length ic] ∧ v.text.size ≤ 9223372036854775807 ∧ StrsAt w ka v.keys ∧ v.keys.length ≤ kc ∧ kc ≤ 9223372036854775807 ∧
      v.items.length ≤ ic ∧ ic ≤ 9223372036854775807 ∧ ∀ i, ItemAt w ia v i := by
  cases h with
  | mk k n t ks its ka ia kc ic cf ht hk hkc hkm hic him hcf hit =>
    refine ⟨ka, ia, kc, ic, rfl, by simpa [maxLen, Dat.text] using ht, hk, hkc, by simpa [maxLen] using hkm, hic, by simpa [maxLen] using him, fun i hi => ?_⟩
    obtain ⟨b, o, e, c⟩ := hcf i hi
    have hv := hit i hi
    obtain ⟨ka', ia', kc', ic', hcs⟩ := hv.shape
    rw [hcs] at hv c
    exact ⟨b, o, ka', ia', kc', ic', e, c 0 _ rfl, c 1 _ rfl, c 2 _ rfl, c 3 _ rfl, c 4 _ rfl, hv⟩

theorem ItemAt.up {w w1 : World} (hb : Below w.heap.size w w1) {ia : Option Addr} {v : Dat} {i : Nat} (h : ItemAt w ia v i) : ItemAt w1 ia v i := by
  intro hi
  obtain ⟨b, o, ka, ia', kc, ic, e, c0, c1, c2, c3, c4, hv⟩ := h hi
  exact ⟨b, o, ka, ia', kc, ic, e, cell_up hb _ _ c0, cell_up hb _ _ c1, cell_up hb _ _ c2, cell_up hb _ _ c3, cell_up hb _ _ c4, hv.up hb⟩

/-- Blocks: what lies in one. -/
theorem blk_cell {w : World} {g : Nat} {t : TypeId} {cs : Array Value} (h : w.heap[g]? = some (.cells cs t (0, 0))) (i : Nat) : w.cell? ⟨g, i, none⟩ = cs[i]? := cell_of_row w g i cs t (0, 0) h
theorem blk_frozen {w : World} {g : Nat} {t : TypeId} {cs : Array Value} (h : w.heap[g]? = some (.cells cs t (0, 0))) (i : Nat) : w.frozen? ⟨g, i, none⟩ = false := by simp [World.frozen?, h]
theorem blk_lt {w : World} {g : Nat} {o : Obj} (h : w.heap[g]? = some o) : g < w.heap.size := (Array.getElem?_eq_some_iff.1 h).1
theorem blk_up {w w1 : World} {g : Nat} {o : Obj} (h : w.heap[g]? = some o) (hb : Below w.heap.size w w1) : w1.heap[g]? = some o := (hb.block g (blk_lt h)).trans h
theorem blk_new (w : World) (o : Obj) : (w.alloc o).heap[w.heap.size]? = some o := heap_alloc_new w o

theorem up_alloc {w W : World} (h : Below w.heap.size w W) (o : Obj) : Below w.heap.size w (W.alloc o) := h.alloc h.size o
theorem up_drew {w W : World} (h : Below w.heap.size w W) : Below w.heap.size w W.drew := h.drew
theorem up_drewN {w W : World} (h : Below w.heap.size w W) (n : Nat) : Below w.heap.size w (W.drewN n) := ⟨h.os, h.tape, h.output, h.size, h.block⟩
theorem up_trans {w w1 w2 : World} (h : Below w.heap.size w w1) (k : Below w1.heap.size w1 w2) : Below w.heap.size w w2 := h.trans (k.mono h.size)

/-- Some whole number, and new blocks alone. -/
def SomeInt (w : World) (e : Ending) (w' : World) : Prop := ∃ n : Int, e = .returned (.int .i64 n) ∧ Below w.heap.size w w'
/-- A truth value of which something is known when it is true, and new blocks alone. -/
def SomeBool (p : Prop) (w : World) (e : Ending) (w' : World) : Prop := ∃ b : Bool, e = .returned (.bool b) ∧ (b = true → p) ∧ Below w.heap.size w w'
end Go.Proofs.YtefhboojobfchaaGreatDoor
