/- THE STATEMENT: whatever the two Values, the library finds two schemas the same where the reference does: FnSame returns true, and its arguments read as they did. CONDITIONS: as the given row says: the listed tables read as the program's text lays them. -/
import Derived.Test.YthdnkcofcbinhaaGreatDoorBwJ
import Derived.Test.YthdnkcofcbinhaaGreatDoorDmJ
import Derived.Test.YthdnkcofcbinhaaGreatDoorLsJ
import Derived.Test.YthdnkcofcbinhaaGreatDoorLvJ
import Derived.Test.YthdnkcofcbinhaaGreatDoorCards
import Derived.Test.YthdnkcofcbinhaaGreatDoorTie
import Derived.ProofKit
import Derived.OpenShut
import Derived.Carry
import Derived.LaidMore
import Derived.Lay
import Derived.Deep.DeepHandedRow
import Derived.Deep.DeepWitnessRowRef
set_option linter.unusedVariables false
set_option linter.unusedSimpArgs false
namespace Go.Proofs.YthdnkcofcbinhaaGreatDoor
open Go.ChangeShapes Go.WideShapes Go.ChangeAt Go.RowKit

theorem own : ownKnob Tryz.prog.godebug = none := by kernel_rfl
theorem laid_out : laidOutB Tryz.prog = true := by kernel_rfl
theorem readable : Tryz.prog.readableRec 25 = true := by kernel_rfl
theorem in_types : 25 < Tryz.prog.types.size := of_decide_eq_true (by kernel_rfl)

/-- Go's table of powers of ten lies as it should in whatever is laid behind. -/
theorem tab_below {W : World} (h : Lib.TabIs Tryz.prog W "internal/strconv.uint64pow10" .u64 Lib.pow10Tab) : Tab W := by
  intro W' hb
  unfold Lib.TabIs World.var? at h ⊢
  rw [show Tryz.prog.globalNamed "internal/strconv.uint64pow10" = some 0 by kernel_rfl] at h ⊢
  simp only [Option.bind_some] at h ⊢
  cases hg : W.heap[0]? with
  | none => rw [hg] at h; cases h
  | some o => rw [hb.block _ (blk_lt hg)]; exact h

set_option maxRecDepth 100000 in
theorem contract (H : Type) (enc : TypeId × Value → H) (W : World) (base : Nat) (args : Array Value) (ds gs : List (DataW H)) (before : List MemPlace)
    (hval : ∀ (j : Nat) t v, Tryz.f3.params[j]? = some t → args[j]? = some v → Value.okWide Tryz.prog W .any base t v)
    (hW : DataW.Whole enc Tryz.prog Tryz.f3.params.toList Rows.fnSameSpec.vars false W args.toList ds gs before) (hl : laidMetH Tryz.prog Rows.fnSameRow.laid W) :
    Calls Tryz.prog 3 args W fun e W' => ∃ v, e = .returned v ∧ Rows.fnSameSpec.post enc Tryz.prog Tryz.f3 false true false false W args v W' := by
  have hW' := hW
  have hlt := hW.lt
  obtain ⟨p, q, hA0, hV, rfl, hfz, hnd⟩ := hW
  have hA : DataW.TrodAll enc Tryz.prog W 0 (fun _ => true) true Tryz.f3.params.toList args.toList ds p := hA0
  rw [Tryz.params3] at hA hval
  obtain ⟨v0, vs0, d0, ds0, p0, q0, hargs, rfl, rfl, h0, r0⟩ := trodAll_cons hA
  obtain ⟨v1, vs1, d1, ds1, p1, q1, hargs1, rfl, rfl, h1, r1⟩ := trodAll_cons r0
  obtain ⟨rfl, rfl, rfl⟩ := trodAll_nil r1
  obtain rfl : args = #[v0, v1] := by cases args; simp_all
  obtain ⟨rfl, rfl⟩ := trodVars_none hV
  clear hA0
  simp only [List.append_nil] at hW' hlt
  obtain ⟨cs, rfl, hsz⟩ := okWide_struct Tryz.underlying25 (hval 0 25 v0 rfl rfl)
  obtain ⟨cs1, rfl, hsz1⟩ := okWide_struct Tryz.underlying25 (hval 1 25 v1 rfl rfl)
  obtain ⟨fuel, hf⟩ := id h0
  obtain ⟨v, hv, -⟩ := val_of fuel cs.toList (d0, p0) hf
  obtain ⟨fuel1, hf1⟩ := id h1
  obtain ⟨u, hu, -⟩ := val_of fuel1 cs1.toList (d1, p1) hf1
  have hl' := law_any v u W cs.toList cs1.toList hv hu (tab_below (tab_of hl)) (ft_of hl) (fun hp => Nat.le_trans (descr_cap 12 13 [] v hp (by simp)) capD_last)
  rw [show cs.toList.toArray = cs from by simp, show cs1.toList.toArray = cs1 from by simp] at hl'
  refine hl'.mono fun e W' ⟨he, hbel⟩ => ?_
  subst he
  refine ⟨_, rfl, [d0, d1], [], p0 ++ p1, [] ++ [], (p0 ++ p1) ++ [], [], hW', trodAll_cons_mk (shut_bool Tryz.underlying4 _) trodAll_mk0, ?_, rfl, hbel.frame _, fun h => by cases h⟩
  have hcons := trodAll_cons_mk (Below.trod laid_out readable in_types h0 hbel (fun p hp => hlt p (by simp [hp]))) (trodAll_cons_mk (Below.trod laid_out readable in_types h1 hbel (fun p hp => hlt p (by simp [hp]))) trodAll_mk0)
  have hc2 : DataW.TrodAll enc Tryz.prog W' 0 (fun b => decide (b < W.heap.size)) true [25, 25] [Value.agg cs, Value.agg cs1] [d0, d1] (p0 ++ p1) := by simpa using hcons
  rw [List.append_nil (p0 ++ p1)]
  exact hc2

set_option maxRecDepth 100000 in
theorem lifted (os : Os) (started : os.Started) (H : Type) (enc : TypeId × Value → H) (F : Stop.Interp) :
    ReturnsInHanded {} Tryz.checked os 3 .any ((OpenSpec.ofChange Rows.fnSameSpec).preRow enc Tryz.prog Tryz.f3 Rows.fnSameRow.domain false Rows.fnSameRow.laid) (((OpenSpec.ofChange Rows.fnSameSpec).at F).post enc Tryz.prog Tryz.f3 false true false false) := by
  obtain ⟨places, hx⟩ := reads os enc
  refine returnsInHanded_of_row (C := Tryz.checked) (s := OpenSpec.ofChange Rows.fnSameSpec) own started (by kernel_rfl) Tryz.func3
    ⟨World.laidAll Tryz.prog os Rows.fnSameRow.laid, fun _ _ => 0, ⟨#[], #[noVal, noVal], []⟩, World.laidAll_os _ _ _, World.shaped_of_ZipB (start_vars os) (start_rest os), (Input.okWide_of_okWideB (base := 0) (start_ok os)).1, (Input.okWide_of_okWideB (start_ok os)).2,
      (OpenSpec.preRow_of_cond 8 hx (by kernel_rfl) (fun k hk => by cases hk) (start_sized os enc) (door_met os _)), by
        simp only [Assume.holds]
        exact ⟨by simp, by simp, fun _ => Modest.zero, by simp, by simp⟩⟩ ?_
  intro W base args ds gs before hval hW _ _ _ hl _ _
  exact contract H enc W base args ds gs before hval hW hl

theorem said : Rows.FnSameSaid :=
  OpenClaim.holds_of_cond 3 Tryz.f3 rfl rfl rfl rfl rfl rfl rfl ⟨rfl, rfl, rfl, rfl, rfl⟩ rfl rfl rfl rfl rfl (by kernel_rfl) Tryz.func3 (by kernel_rfl)
    (of_decide_eq_true (by kernel_rfl)) (by unfold Func.isWrapper; first | (rw [if_pos (by decide +kernel)]; kernel_rfl) | (rw [if_neg (by decide +kernel)]; exact ⟨rfl, rfl⟩))
    (fun os started H enc _ F => by rw [OpenClaim.pre_eq_preRow]; exact lifted os started H enc F)

theorem plain (f : FuncId) (fn : Func) (hf : Tryz.pinned.checked.prog.funcNamed "loop.example/pub-g01522/laws.FnSame" = some f) (hfn : Tryz.pinned.checked.prog.funcs[f]? = some fn) :
    true = Tryz.pinned.checked.prog.looks [] ∧ ∀ (j : Nat) t, fn.params[j]? = some t → Tryz.pinned.checked.prog.wantsStandIn t = false := by
  obtain rfl : f = 3 := Option.some.inj ((show Tryz.prog.funcNamed "loop.example/pub-g01522/laws.FnSame" = some 3 by kernel_rfl).symm.trans hf) |>.symm
  obtain rfl : fn = Tryz.f3 := (Option.some.inj (Tryz.func3.symm.trans hfn)).symm
  refine ⟨by kernel_rfl, fun j t ht => ?_⟩
  rw [Tryz.params3] at ht
  have hm : t = 25 := by simpa using Array.mem_of_getElem? ht
  subst hm
  exact (show Tryz.prog.wantsStandIn 25 = false by kernel_rfl)

/-- The statement. -/
theorem sameAll_holds : Rows.FnSameCardSaid :=
  Claim7.holds_tied_plain_at .later [] _ _ _ _ said (fun _ h => by cases h) (by kernel_rfl) (fun _ h => by cases h) fnSame_row_tie rfl ⟨rfl, rfl⟩ (by kernel_rfl) rfl plain (by kernel_rfl)
#print axioms sameAll_holds
end Go.Proofs.YthdnkcofcbinhaaGreatDoor
