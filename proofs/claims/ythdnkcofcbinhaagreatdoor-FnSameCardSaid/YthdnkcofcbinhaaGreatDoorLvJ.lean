/- The listed tables: what the walk needs of them. -/
import Derived.Test.YthdnkcofcbinhaaGreatDoorGd3J
import Derived.Test.YthdnkcofcbinhaaGreatDoorGnJ
import Derived.Test.YthdnkcofcbinhaaGreatDoorRows
import Derived.Deep.Slices
import Derived.ChangeArms
import Derived.FnData
import Derived.LaidSub
import Derived.ProofKit
import Derived.OpenShut
import Derived.Carry
import Derived.LaidMore
import Derived.Lay
import Derived.Deep.DeepHandedRow
import Derived.Deep.DeepWitnessRowRef
set_option linter.unusedVariables false
set_option linter.unusedSimpArgs false
namespace Go.Proofs.YthdnkcofcbinhaaGreatDoor
open Go.RowKit

theorem laid_one {W : World} (name : String) (d : DataW Unit) (h : laidMetH Tryz.prog Rows.fnSameRow.laid W) (hf : (Rows.fnSameRow.laid.filter fun x => x.1 == name) = [(name, d)]) (hh : d.handleName? = none) : laidMet Tryz.prog [(name, d)] W := by
  have h1 := h.filter (fun x => x.1 == name)
  rw [hf] at h1
  unfold laidMetH at h1
  simpa [hh] using h1

theorem tab_of {W : World} (h : laidMetH Tryz.prog Rows.fnSameRow.laid W) : Lib.TabIs Tryz.prog W "internal/strconv.uint64pow10" .u64 Lib.pow10Tab :=
  Lib.tabIs_of_head (g := 0) (rest := []) (t := 151) (e := 127) (n := 20) (by kernel_rfl) (by kernel_rfl) (by kernel_rfl) (by kernel_rfl) (by kernel_rfl) (by kernel_rfl) (laid_one "internal/strconv.uint64pow10" _ h (by kernel_rfl) (by kernel_rfl))

theorem trod_float {H : Type} {enc : TypeId × Value → H} {P : Program} {w : World} {base fuel : Nat} {sp : Nat → Bool} {held : Bool} {t : TypeId} {k : FloatKind} {cs : List Value} {x : DataW H × List MemPlace} (ht : P.underlying t = some (.float k)) (h : DataW.trod enc P w base sp held fuel t cs = some x) :
    ∃ b, cs = [.float k b] := by
  cases fuel with
  | zero => simp [DataW.trod] at h
  | succ n =>
    unfold DataW.trod at h
    rw [ht] at h
    split at h <;> simp_all

theorem ft_of {W : World} (h : laidMetH Tryz.prog Rows.fnSameRow.laid W) : FT W.heap.size W := by
  obtain ⟨ps1, ⟨g1, t1, cs1, f1, p1, q1, hg1, ht1, hv1, hd1, -, -⟩, -⟩ := laid_one "internal/strconv.optimize" (.lit (.bool true)) h (by kernel_rfl) rfl
  obtain rfl := Option.some.inj ((show Tryz.prog.globalNamed "internal/strconv.optimize" = some 4 by kernel_rfl).symm.trans hg1)
  obtain rfl := Option.some.inj ((show (Tryz.prog.globals[4]?).map (·.type) = some 4 by kernel_rfl).symm.trans ht1)
  obtain ⟨b, hb, hx⟩ := DataW.trod_bool Tryz.underlying4 hd1
  have hb1 : b = true := by
    have := congrArg Prod.fst hx
    simpa using this.symm
  subst hb1
  have c1 : W.cell? ⟨4, 0, none⟩ = some (.bool true) := by
    rw [World.var?_cell hg1 hv1 0, ← Array.getElem?_toList, hb]
    rfl
  obtain ⟨ps2, ⟨g2, t2, cs2, f2, p2, q2, hg2, ht2, hv2, hd2, -, -⟩, -⟩ := laid_one "internal/strconv.float64info" (.agg [.lit (.int .u64 52), .lit (.int .u64 11), .lit (.int .i64 (-1023))]) h (by kernel_rfl) rfl
  obtain rfl := Option.some.inj ((show Tryz.prog.globalNamed "internal/strconv.float64info" = some 5 by kernel_rfl).symm.trans hg2)
  obtain rfl := Option.some.inj ((show (Tryz.prog.globals[5]?).map (·.type) = some 178 by kernel_rfl).symm.trans ht2)
  obtain ⟨xs, n, -, hx2, -, hlen, hf⟩ := DataW.trod_struct Tryz.underlying178 hd2
  have hc2 : DataW.trod (fun _ => ()) Tryz.prog W 0 (fun _ => true) false n 148 ((cs2.toList.drop 0).take (Tryz.prog.cellsOf 148)) = xs[0]? := hf 0 _ rfl
  rw [show Tryz.prog.cellsOf 148 = 1 by kernel_rfl] at hc2
  have hx20 := congrArg Prod.fst hx2
  simp only [DataW.agg.injEq] at hx20
  cases xs with
  | nil => simp at hx20
  | cons x0 xs =>
  simp only [List.map_cons, List.cons.injEq] at hx20
  obtain ⟨k, e2, hk, -⟩ := DataW.trod_int Tryz.underlying148 hc2
  have hk52 : k = 52 := by
    have := congrArg Prod.fst hk
    rw [← hx20.1] at this
    simpa using this.symm
  subst hk52
  have c2 : W.cell? ⟨5, 0, none⟩ = some (.int .u64 52) := by
    rw [World.var?_cell hg2 hv2 0, ← Array.getElem?_toList]
    have := congrArg (·[0]?) e2
    simpa [List.getElem?_take] using this
  obtain ⟨ps3, ⟨g3, t3, cs3, f3, p3, q3, hg3, ht3, hv3, hd3, -, -⟩, -⟩ := laid_one "internal/strconv.float64pow10" Rows.laid_internal_strconv_float64pow10 h (by kernel_rfl) rfl
  obtain rfl := Option.some.inj ((show Tryz.prog.globalNamed "internal/strconv.float64pow10" = some 11 by kernel_rfl).symm.trans hg3)
  obtain rfl := Option.some.inj ((show (Tryz.prog.globals[11]?).map (·.type) = some 226 by kernel_rfl).symm.trans ht3)
  rcases DataW.trod_slice Tryz.underlying226 hd3 with ⟨-, hx⟩ | ⟨a, len, cap, elems, rest, n', hn', hc3, hx3, -, hl, hm, hel, helt, -, -⟩
  · unfold Rows.laid_internal_strconv_float64pow10 at hx
    have := congrArg Prod.fst hx
    simp at this
  have hlen3 : len = 23 := by
    unfold Rows.laid_internal_strconv_float64pow10 at hx3
    have h1 := congrArg Prod.fst hx3
    simp only [DataW.slice.injEq] at h1
    have h2 := congrArg List.length h1.1
    simp at h2
    omega
  subst hlen3
  have each : ∀ i, i < 23 → ∃ f, W.cell? ((a.add i).add 0) = some (.float .f64 f) := by
    intro i hi
    have h := helt i hi
    rw [show Tryz.prog.cellsOf 90 = 1 by kernel_rfl, List.getElem?_eq_getElem (by omega), Option.bind_eq_some_iff, Nat.mul_one] at h
    obtain ⟨cs', hc', ht'⟩ := h
    obtain ⟨f, rfl⟩ := trod_float Tryz.underlying90 ht'
    obtain ⟨_, _, hat⟩ := World.cells?_some hc'
    exact ⟨f, by have := hat 0 (by omega); simpa using this⟩
  obtain ⟨f0, hf0⟩ := each 0 (by omega)
  have hsp : a.spot = none := by
    have e : (a.add 0).add 0 = a := by simp [Addr.add]
    rw [e] at hf0
    unfold World.cell? at hf0
    split at hf0
    · split at hf0
      · cases hf0
      · rename_i hs
        simpa using hs
    · cases hf0
  obtain ⟨b, o, sp⟩ := a
  simp only at hsp
  subst hsp
  have plus : ∀ k, (⟨b, o, none⟩ : Addr).add k = ⟨b, o + k, none⟩ := fun k => by
    unfold Addr.add
    split
    · rename_i h
      subst h
      rfl
    · rfl
  have plus0 : ∀ x : Addr, x.add 0 = x := fun x => by simp [Addr.add]
  have cell : ∀ i, i < 23 → ∃ f, W.cell? ⟨b, o + i, none⟩ = some (.float .f64 f) := fun i hi => by
    obtain ⟨f, hf⟩ := each i hi
    rw [plus0, plus] at hf
    exact ⟨f, hf⟩
  have c3 : W.cell? ⟨11, 0, none⟩ = some (.slice (some ⟨b, o, none⟩) 23 cap) := by
    rw [World.var?_cell hg3 hv3 0, ← Array.getElem?_toList, hc3]
    rfl
  obtain ⟨fb, hfb⟩ := cell 0 (by omega)
  exact ⟨World.block_lt_of_cell? W _ c1, World.block_lt_of_cell? W _ c2, World.block_lt_of_cell? W _ c3, c1, c2, b, o, cap, World.block_lt_of_cell? W _ hfb, c3, hl, hm, cell⟩
end Go.Proofs.YthdnkcofcbinhaaGreatDoor

/- The witness: a start at which the listed tables lie (no program's steps here). -/
namespace Go.Proofs.YthdnkcofcbinhaaGreatDoor
open Go.ChangeShapes Go.WideShapes Go.ChangeAt Go.RowKit

/-- The listed tables' start. -/
theorem door_met (os : Os) (args : Array Value) : laidMetH Tryz.prog Rows.fnSameRow.laid ((World.laidAll Tryz.prog os Rows.fnSameRow.laid).forCall (fun _ _ => 0) ⟨#[], args, []⟩).memory := by
  show laidMet Tryz.prog Rows.fnSameRow.laid _
  exact laidMet_laidAll _ (by kernel_rfl) (by kernel_rfl)
def noVal : Value := .agg #[.int .i64 0, .int .i64 0, .string ⟨#[]⟩, .slice none 0 0, .slice none 0 0]
theorem reads (os : Os) {H : Type} (enc : TypeId × Value → H) : ∃ places, DataW.whole enc Tryz.prog ((World.laidAll Tryz.prog os Rows.fnSameRow.laid).forCall (fun _ _ => 0) ⟨#[], #[noVal, noVal], []⟩).memory Tryz.f3.params.toList Rows.fnSameSpec.vars false #[noVal, noVal].toList 8 =
    some ([.agg [.lit (.int .i64 0), .lit (.int .i64 0), .lit (.string []), .nil, .nil], .agg [.lit (.int .i64 0), .lit (.int .i64 0), .lit (.string []), .nil, .nil]], [], places) :=
  ⟨[], by kernel_rfl⟩

noncomputable def start (os : Os) : World := (World.laidAll Tryz.prog os Rows.fnSameRow.laid).forCall (fun _ _ => 0) ⟨#[], #[noVal, noVal], []⟩
theorem start_vars (os : Os) : (start os).variablesZipB Tryz.prog = true := by kernel_rfl
theorem start_rest (os : Os) : ((start os).heap.toList.drop Tryz.prog.globals.size).take ((begin Tryz.prog (fun _ _ => 0) default).world.heap.size - Tryz.prog.globals.size) =
      (begin Tryz.prog (fun _ _ => 0) default).world.heap.toList.drop Tryz.prog.globals.size := by kernel_rfl
theorem start_ok (os : Os) : Input.okWideB Tryz.prog (start os) 3 ⟨#[], #[noVal, noVal], []⟩ = true := by kernel_rfl
theorem start_sized (os : Os) {H : Type} (enc : TypeId × Value → H) : (OpenSpec.ofChange Rows.fnSameSpec).bare.sizedB enc Tryz.prog Tryz.f3 false (start os).memory #[noVal, noVal] 8 = true := by kernel_rfl

end Go.Proofs.YthdnkcofcbinhaaGreatDoor
