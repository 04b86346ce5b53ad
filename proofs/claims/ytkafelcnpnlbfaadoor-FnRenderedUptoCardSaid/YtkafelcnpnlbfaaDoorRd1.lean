/- The reader of a JSON text: where it stands; blanks, peek, take, need. -/
import Derived.Test.YtkafelcnpnlbfaaDoorSp1
import Derived.Test.YtkafelcnpnlbfaaDoorTx
namespace Go.Proofs.YtkafelcnpnlbfaaDoor
open Go.RowKit

/-- The reader's block: it stands at p, nothing was wrong yet. -/
def At (w : World) (g : Nat) (s : ByteArray) (p : Nat) : Prop := w.heap[g]? = some (.cells #[.string s, .int .i64 p, .bool false] 34 (0, 0))
/-- What is still to be read. -/
def Rem (w : World) (g : Nat) (s : ByteArray) (l : List UInt8) : Prop := ∃ p, p + l.length = s.size ∧ (bs s).drop p = l ∧ At w g s p ∧ s.size ≤ 9223372036854775807

theorem At.moved {w : World} {g : Nat} {s : ByteArray} {p : Nat} (h : At w g s p) (q : Nat) : At (w.setCell ⟨g, 1, none⟩ (.int .i64 q)) g s q := by
  unfold At at *
  simp only [World.setCell, Array.getElem?_modify, if_true, h]
  rfl
theorem At.up {w w1 : World} {g : Nat} {s : ByteArray} {p : Nat} (h : At w g s p) (hb : Below w.heap.size w w1) : At w1 g s p := blk_up h hb
theorem Rem.up {w w1 : World} {g : Nat} {s : ByteArray} {l : List UInt8} (h : Rem w g s l) (hb : Below w.heap.size w w1) : Rem w1 g s l := by
  obtain ⟨p, h1, h2, h3, h4⟩ := h
  exact ⟨p, h1, h2, h3.up hb, h4⟩

theorem grown_refl (w : World) (r : Option Nat) : w.grownBy w r := ⟨rfl, rfl, rfl, Nat.le_refl _, fun _ _ _ => rfl⟩
theorem grown_trans {w w1 w2 : World} {r : Option Nat} (h : w.grownBy w1 r) (k : w1.grownBy w2 r) : w.grownBy w2 r :=
  ⟨k.os.trans h.os, k.tape.trans h.tape, k.output.trans h.output, Nat.le_trans h.size k.size, fun i hi hn => (k.block i (Nat.lt_of_lt_of_le hi h.size) hn).trans (h.block i hi hn)⟩
theorem grown_set {w : World} (g i : Nat) (u : Value) : w.grownBy (w.setCell ⟨g, i, none⟩ u) (some g) :=
  ⟨rfl, rfl, rfl, by simp [World.setCell], fun k _ hn => Below.heap_setCell _ _ _ _ (fun e => hn (by rw [e]))⟩
theorem grown_below {w w1 : World} (r : Option Nat) (h : Below w.heap.size w w1) : w.grownBy w1 r := ⟨h.os, h.tape, h.output, h.size, fun k hk _ => h.block k hk⟩

theorem Rem.head {w : World} {g : Nat} {s : ByteArray} {c : UInt8} {l : List UInt8} (h : Rem w g s (c :: l)) : ∃ p, p < s.size ∧ At w g s p ∧ s.size ≤ 9223372036854775807 ∧ (∀ hp : p < s.size, ((s[p]'hp).toNat : Int) = (c.toNat : Int)) ∧ p + (l.length + 1) = s.size ∧ (bs s).drop (p + 1) = l := by
  obtain ⟨p, h1, h2, h3, h4⟩ := h
  have hp : p < s.size := by simp at h1; omega
  have hp' : p < (bs s).length := hp
  rw [List.drop_eq_getElem_cons hp'] at h2
  injection h2 with h5 h6
  exact ⟨p, hp, h3, h4, fun _ => by rw [← h5]; rfl, by simpa using h1, h6⟩
theorem Rem.tail {w : World} {g : Nat} {s : ByteArray} {l : List UInt8} {p : Nat} (h3 : At w g s (p + 1)) (h4 : s.size ≤ 9223372036854775807) (h1 : p + (l.length + 1) = s.size) (h2 : (bs s).drop (p + 1) = l) : Rem w g s l := ⟨p + 1, by omega, h2, h3, h4⟩

def isBl (c : UInt8) : Bool := c.toNat == 32 || (c.toNat == 10 || (c.toNat == 9 || c.toNat == 13))
def Blank (sp : List UInt8) : Prop := ∀ c ∈ sp, isBl c = true
def Starts (l : List UInt8) : Prop := ∀ c, l.head? = some c → isBl c = false

/-- What a method that gives nothing back leaves. -/
def Moves (g : Nat) (s : ByteArray) (l : List UInt8) (w : World) (e : Ending) (w' : World) : Prop := e = .returned (.tuple #[]) ∧ Rem w' g s l ∧ w.grownBy w' (some g)

set_option maxHeartbeats 2000000 in
theorem blanks_any (g : Nat) (s : ByteArray) (sp l : List UInt8) (w : World) (hsp : Blank sp) (hl : Starts l) (h : Rem w g s (sp ++ l)) :
    Calls Tryd.prog 13 #[.pointer (some ⟨g, 0, none⟩)] w (Moves g s l w) := by
  have HL := Lib.hid hl
  have HSP := Lib.hid hsp
  have H := Lib.hid h
  clear hl hsp h
  go_enter Tryd.func13, Tryd.ntmps13
  go_wp2
  go_loopg [] sp.length (fun gk wr => Hid (∃ sp', gk = sp'.length ∧ Blank sp' ∧ Rem wr g s (sp' ++ l)) ∧ Hid (w.grownBy wr (some g)))
  case atStart => exact ⟨Lib.hid ⟨sp, rfl, HSP.out, H.out⟩, Lib.hid (grown_refl _ _)⟩
  case round =>
    obtain ⟨HR, HG⟩ := hrel
    obtain ⟨sp', hgk, hb, hr⟩ := HR.out
    cases sp' with
    | cons ch sp1 =>
      obtain ⟨p, hp, hat, hs, hc, h1, h2⟩ := Rem.head hr
      have c0 : wr.cell? ⟨g, 0, none⟩ = some (.string s) := (blk_cell hat 0).trans rfl
      have c1 : wr.cell? ⟨g, 1, none⟩ = some (.int .i64 p) := (blk_cell hat 1).trans rfl
      have c1' : wr.frozen? ⟨g, 1, none⟩ = false := blk_frozen hat 1
      have pi : (p : Int) < (s.size : Int) := by omega
      have hbl := hb ch (List.mem_cons_self ..)
      have HREST := Lib.hid (show Blank sp1 ∧ p + ((sp1 ++ l).length + 1) = s.size ∧ (bs s).drop (p + 1) = sp1 ++ l ∧ At wr g s p ∧ gk = sp1.length + 1 from ⟨fun c hc => hb c (List.mem_cons_of_mem _ hc), h1, h2, hat, hgk⟩)
      obtain ⟨c, hcc⟩ : ∃ c : Int, (ch.toNat : Int) = c := ⟨_, rfl⟩
      rw [hcc] at hc
      have hbl2 : ((c == 32) || ((c == 10) || ((c == 9) || (c == 13)))) = true := by
        unfold isBl at hbl
        simp at hbl ⊢
        omega
      clear hb hr h1 h2 hat hbl hcc hgk
      rcases eq_or c 32 with ⟨b1, b1'⟩ | ⟨b1, b1'⟩
      · clear hbl2
        go_wp2
        go_quiet (fail)
        go_wp2
        go_roundg (sp1.length)
        case measure => have := HREST.out.2.2.2.2; omega
        case rel =>
          obtain ⟨q1, q2, q3, q4, q5⟩ := HREST.out
          exact ⟨Lib.hid ⟨sp1, rfl, q1, Rem.tail (At.moved (q4.up (up_drewN (Below.refl _ _) _)) _) hs q2 q3⟩, Lib.hid (grown_trans (grown_trans HG.out (grown_below _ (up_drewN (Below.refl _ _) _))) (grown_set _ _ _))⟩
      rcases eq_or c 10 with ⟨b2, b2'⟩ | ⟨b2, b2'⟩
      · clear hbl2
        go_wp2
        go_quiet (fail)
        go_wp2
        go_roundg (sp1.length)
        case measure => have := HREST.out.2.2.2.2; omega
        case rel =>
          obtain ⟨q1, q2, q3, q4, q5⟩ := HREST.out
          exact ⟨Lib.hid ⟨sp1, rfl, q1, Rem.tail (At.moved (q4.up (up_drewN (Below.refl _ _) _)) _) hs q2 q3⟩, Lib.hid (grown_trans (grown_trans HG.out (grown_below _ (up_drewN (Below.refl _ _) _))) (grown_set _ _ _))⟩
      rcases eq_or c 9 with ⟨b3, b3'⟩ | ⟨b3, b3'⟩
      · clear hbl2
        go_wp2
        go_quiet (fail)
        go_wp2
        go_roundg (sp1.length)
        case measure => have := HREST.out.2.2.2.2; omega
        case rel =>
          obtain ⟨q1, q2, q3, q4, q5⟩ := HREST.out
          exact ⟨Lib.hid ⟨sp1, rfl, q1, Rem.tail (At.moved (q4.up (up_drewN (Below.refl _ _) _)) _) hs q2 q3⟩, Lib.hid (grown_trans (grown_trans HG.out (grown_below _ (up_drewN (Below.refl _ _) _))) (grown_set _ _ _))⟩
      rcases eq_or c 13 with ⟨b4, b4'⟩ | ⟨b4, b4'⟩
      · clear hbl2
        go_wp2
        go_quiet (fail)
        go_wp2
        go_roundg (sp1.length)
        case measure => have := HREST.out.2.2.2.2; omega
        case rel =>
          obtain ⟨q1, q2, q3, q4, q5⟩ := HREST.out
          exact ⟨Lib.hid ⟨sp1, rfl, q1, Rem.tail (At.moved (q4.up (up_drewN (Below.refl _ _) _)) _) hs q2 q3⟩, Lib.hid (grown_trans (grown_trans HG.out (grown_below _ (up_drewN (Below.refl _ _) _))) (grown_set _ _ _))⟩
      rw [b1, b2, b3, b4] at hbl2
      exact absurd hbl2 (by decide)
    | nil =>
      rcases l with _ | ⟨ch, l1⟩
      · obtain ⟨p, h1, h2, hat, hs⟩ := hr
        simp at h1
        subst h1
        have c0 : wr.cell? ⟨g, 0, none⟩ = some (.string s) := (blk_cell hat 0).trans rfl
        have c1 : wr.cell? ⟨g, 1, none⟩ = some (.int .i64 s.size) := (blk_cell hat 1).trans rfl
        have HAT := Lib.hid hat
        clear hat h2
        go_wp2
        go_quiet (fail)
        go_wp2
        refine bodyPost_end (results_none rfl _ _ _) rfl ?_
        exact ⟨rfl, ⟨s.size, by simp, by simp [bs], HAT.out.up (up_drewN (Below.refl _ _) _), hs⟩, grown_trans HG.out (grown_below _ (up_drewN (Below.refl _ _) _))⟩
      · obtain ⟨p, hp, hat, hs, hc, h1, h2⟩ := Rem.head (l := l1) (c := ch) (by simpa using hr)
        have c0 : wr.cell? ⟨g, 0, none⟩ = some (.string s) := (blk_cell hat 0).trans rfl
        have c1 : wr.cell? ⟨g, 1, none⟩ = some (.int .i64 p) := (blk_cell hat 1).trans rfl
        have pi : (p : Int) < (s.size : Int) := by omega
        have hbl := HL.out ch rfl
        obtain ⟨c, hcc⟩ : ∃ c : Int, (ch.toNat : Int) = c := ⟨_, rfl⟩
        rw [hcc] at hc
        have b1 : (c == 32) = false := by unfold isBl at hbl; simp at hbl ⊢; omega
        have b2 : (c == 10) = false := by unfold isBl at hbl; simp at hbl ⊢; omega
        have b3 : (c == 9) = false := by unfold isBl at hbl; simp at hbl ⊢; omega
        have b4 : (c == 13) = false := by unfold isBl at hbl; simp at hbl ⊢; omega
        have HRR := Lib.hid (show Rem wr g s (ch :: l1) from by simpa using hr)
        clear hb hr h1 h2 hat hbl hcc hgk
        go_wp2
        go_quiet (fail)
        go_wp2
        refine bodyPost_end (results_none rfl _ _ _) rfl ?_
        exact ⟨rfl, HRR.out.up (up_drewN (Below.refl _ _) _), grown_trans HG.out (grown_below _ (up_drewN (Below.refl _ _) _))⟩
end Go.Proofs.YtkafelcnpnlbfaaDoor
