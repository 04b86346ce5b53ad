/- Render, and the thin package's Rendered. -/
import Derived.Test.YtkafelcnpnlbfaaDoorRn2
import Derived.Test.YtkafelcnpnlbfaaDoorNd3
import Derived.Test.YtkafelcnpnlbfaaDoorSp4
namespace Go.Proofs.YtkafelcnpnlbfaaDoor
open Go.RowKit

set_option maxHeartbeats 1000000 in
theorem Render_any (D E : Nat) (v : Dat) (b : Nat) (w : World) (S : Nat → Prop) (hn : NodeOf S w D v b) (hp : Prn v) (hpl : Plain E v) (hk : v.kind = 4 ∨ v.kind = 5) (hlen : (tx D [] v).length + 1 ≤ 9223372036854775807) :
    Calls Tryd.prog 14 #[.pointer (some ⟨b, 0, none⟩)] w (GivesText (tx D [] v ++ [10]) w) := by
  have HN := Lib.hid hn
  have HP := Lib.hid hp
  have HPL := Lib.hid hpl
  have HLEN := Lib.hid hlen
  have d : (⟨#[10]⟩ : ByteArray).size = 1 := rfl
  have D10 := Lib.hid d
  clear hp hpl hlen d
  rcases hn.parts with ⟨_, _, _, h, _⟩ | ⟨_, _, _, h, _⟩ | ⟨h4, c, hb⟩ | ⟨h5, c, hb⟩
  · rcases h with ⟨h, _⟩ | ⟨h, _⟩ <;> omega
  · rcases h with ⟨h, _⟩ | ⟨h, _⟩ <;> omega
  · have n0 : w.cell? ⟨b, 0, none⟩ = some (.int .u32 2) := (blk_cell hb 0).trans rfl
    have H4 := Lib.hid h4
    clear hb hn hk h4
    go_enter Tryd.func14, Tryd.ntmps14
    go_wp2_with fail
    go_at_call 28
    refine ((renders D).2 v b E w S ⟨#[]⟩ HN.out HP.out HPL.out H4.out (by have := HLEN.out; show (tx D [] v).length ≤ _; omega)).mono ?_
    rintro e w1 ⟨s, rfl, hs, rfl⟩
    have y : ¬ (9223372036854775807 < s.size + 1) := by
      have h1 := congrArg List.length hs
      have := HLEN.out
      simp only [bs_len] at h1
      have e : bs (⟨#[]⟩ : ByteArray) = [] := rfl
      rw [e] at h1
      omega
    have HS := Lib.hid hs
    clear hs
    go_wp2
    go_ret
    exact ⟨_, rfl, by rw [bs_app, HS.out], rfl⟩
  · have n0 : w.cell? ⟨b, 0, none⟩ = some (.int .u32 4) := (blk_cell hb 0).trans rfl
    have H5 := Lib.hid h5
    clear hb hn hk h5
    go_enter Tryd.func14, Tryd.ntmps14
    go_wp2_with fail
    go_at_call 27
    refine ((renders D).1 v b E w S ⟨#[]⟩ HN.out HP.out HPL.out H5.out (by have := HLEN.out; show (tx D [] v).length ≤ _; omega)).mono ?_
    rintro e w1 ⟨s, rfl, hs, rfl⟩
    have y : ¬ (9223372036854775807 < s.size + 1) := by
      have h1 := congrArg List.length hs
      have := HLEN.out
      simp only [bs_len] at h1
      have e : bs (⟨#[]⟩ : ByteArray) = [] := rfl
      rw [e] at h1
      omega
    have HS := Lib.hid hs
    clear hs
    go_wp2
    go_ret
    exact ⟨_, rfl, by rw [bs_app, HS.out], rfl⟩

/-- What Rendered gives. -/
def GivesTextUp (t : List UInt8) (w : World) (e : Ending) (w' : World) : Prop := ∃ s : ByteArray, e = .returned (.string s) ∧ bs s = t ∧ Below w.heap.size w w'

theorem Rendered_any (v : Dat) (w : World) (cs : List Value) (hv : VA w v cs) (hs : Shown v) (hlen : (tx 13 [] v).length + 1 ≤ 9223372036854775807) :
    Calls Tryd.prog 7 #[.agg cs.toArray] w (GivesTextUp (tx 13 [] v ++ [10]) w) := by
  obtain ⟨hk, hpl, hp⟩ := hs
  have HV := Lib.hid (fun W (hb : Below w.heap.size w W) => node_any 12 v W cs (hv.up hb) hpl hp)
  have HK := Lib.hid hk
  have HP := Lib.hid hp
  have HPL := Lib.hid hpl
  have HLEN := Lib.hid hlen
  obtain ⟨ka, ia, kc, ic, rfl, ht, -, hkc, hkm, hic, him, -⟩ := hv.inv
  clear hv hk hp hpl hlen
  go_enter Tryd.func7, Tryd.ntmps7
  go_wp2_with fail
  go_at_call 15
  refine (HV.out _ (up_alloc (Below.refl _ _) _)).mono ?_
  rintro e w1 ⟨b, rfl, hn, hb⟩
  have HN := Lib.hid hn
  have HB := Lib.hid hb
  clear hn hb
  go_wp2_with fail
  go_at_call 14
  refine (Render_any 13 12 v b w1 _ HN.out HP.out HPL.out HK.out HLEN.out).mono ?_
  rintro e w2 ⟨s, rfl, hs, rfl⟩
  have HS := Lib.hid hs
  clear hs
  go_wp2
  go_ret
  exact ⟨s, rfl, HS.out, up_trans (up_alloc (Below.refl _ _) _) HB.out⟩
end Go.Proofs.YtkafelcnpnlbfaaDoor
