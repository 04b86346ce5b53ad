/- NewSchemaFromObject: rounds at keywords. -/
import Derived.Test.YthdnkcofcbinhaaGreatDoorNs0J
set_option linter.unusedVariables false
set_option linter.unusedSimpArgs false
namespace Go.Proofs.YthdnkcofcbinhaaGreatDoor
open Go.RowKit

set_option maxRecDepth 1000000 in
set_option maxHeartbeats 8000000 in
theorem round_kType (B m n E i j g k nn N c : Nat) (v : Dat) (w wr : World) (u : Nat → Value) (Q0 : Exit → Act → World → Prop) (hB : B ≤ w.heap.size) (hmB : m < B) (hi : i < v.keys.length) (hi' : i < v.items.length) (hkey : v.keys[i] = kType) (hx : FitN IsShp 12 v.items[i])
    (F : RAt w wr m n i j v g k nn N c kType) (I : NInv w B m (E + 1) v i wr) (K : Kid B m E w.heap.size nn v.items[i] wr) :
    Code.wp Tryz.prog nsoBody (Exit.then (WJ w B m n (E + 1) v i j) Q0) (lit n m w.heap.size j u) wr := by
  have hw : (kType, 12, 27) ∈ kws := by unfold kws; simp
  obtain ⟨-, j1, j2, j3, n6, k0, k1, k3, q0⟩ := F
  unfold kType at k3
  have HF := Lib.hid (K.c12 hx)
  have HI := Lib.hid I
  have HW := Lib.hid hw
  have HK := Lib.hid hkey
  have HB := Lib.hid hB
  have HM := Lib.hid hmB
  have HL := Lib.hid hi
  have HL2 := Lib.hid hi'
  clear I K hkey hx hw hB hmB q0
  dsimp only [lit]
  conv => arg 2; whnf
  go_wp2_with fail
  go_at_call 45
  refine HF.out.mono ?_
  rintro e w4 ⟨f4, rfl, hf4, hg4, hm4⟩
  obtain ⟨a4, rfl⟩ := hf4.ptr
  have HS := Lib.hid (HI.out.set HB.out HM.out HL.out HL2.out (kType, 12, 27) HW.out (by decide) HK.out hg4 hm4 hf4)
  obtain ⟨⟨old, b4⟩, b5⟩ := HI.out.cell HB.out HM.out hg4 27 (by omega)
  clear hf4 hg4 hm4
  go_wp2
  exact ⟨_, rfl, (by unfold FrameAt; kernel_rfl), HS.out⟩

set_option maxRecDepth 1000000 in
set_option maxHeartbeats 8000000 in
theorem round_kAllOf (B m n E i j g k nn N c : Nat) (v : Dat) (w wr : World) (u : Nat → Value) (Q0 : Exit → Act → World → Prop) (hB : B ≤ w.heap.size) (hmB : m < B) (hi : i < v.keys.length) (hi' : i < v.items.length) (hkey : v.keys[i] = kAllOf) (hx : FitN IsShp 13 v.items[i])
    (F : RAt w wr m n i j v g k nn N c kAllOf) (I : NInv w B m (E + 1) v i wr) (K : Kid B m E w.heap.size nn v.items[i] wr) :
    Code.wp Tryz.prog nsoBody (Exit.then (WJ w B m n (E + 1) v i j) Q0) (lit n m w.heap.size j u) wr := by
  have hw : (kAllOf, 13, 28) ∈ kws := by unfold kws; simp
  obtain ⟨-, j1, j2, j3, n6, k0, k1, k3, q0⟩ := F
  unfold kAllOf at k3
  have HF := Lib.hid (K.c13 hx)
  have HI := Lib.hid I
  have HW := Lib.hid hw
  have HK := Lib.hid hkey
  have HB := Lib.hid hB
  have HM := Lib.hid hmB
  have HL := Lib.hid hi
  have HL2 := Lib.hid hi'
  clear I K hkey hx hw hB hmB q0
  dsimp only [lit]
  conv => arg 2; whnf
  go_wp2_with fail
  go_at_call 46
  refine HF.out.mono ?_
  rintro e w4 ⟨f4, rfl, hf4, hg4, hm4⟩
  obtain ⟨a4, rfl⟩ := hf4.ptr
  have HS := Lib.hid (HI.out.set HB.out HM.out HL.out HL2.out (kAllOf, 13, 28) HW.out (by decide) HK.out hg4 hm4 hf4)
  obtain ⟨⟨old, b4⟩, b5⟩ := HI.out.cell HB.out HM.out hg4 28 (by omega)
  clear hf4 hg4 hm4
  go_wp2
  exact ⟨_, rfl, (by unfold FrameAt; kernel_rfl), HS.out⟩

set_option maxRecDepth 1000000 in
set_option maxHeartbeats 8000000 in
theorem round_kAnyOf (B m n E i j g k nn N c : Nat) (v : Dat) (w wr : World) (u : Nat → Value) (Q0 : Exit → Act → World → Prop) (hB : B ≤ w.heap.size) (hmB : m < B) (hi : i < v.keys.length) (hi' : i < v.items.length) (hkey : v.keys[i] = kAnyOf) (hx : FitN IsShp 13 v.items[i])
    (F : RAt w wr m n i j v g k nn N c kAnyOf) (I : NInv w B m (E + 1) v i wr) (K : Kid B m E w.heap.size nn v.items[i] wr) :
    Code.wp Tryz.prog nsoBody (Exit.then (WJ w B m n (E + 1) v i j) Q0) (lit n m w.heap.size j u) wr := by
  have hw : (kAnyOf, 13, 29) ∈ kws := by unfold kws; simp
  obtain ⟨-, j1, j2, j3, n6, k0, k1, k3, q0⟩ := F
  unfold kAnyOf at k3
  have HF := Lib.hid (K.c13 hx)
  have HI := Lib.hid I
  have HW := Lib.hid hw
  have HK := Lib.hid hkey
  have HB := Lib.hid hB
  have HM := Lib.hid hmB
  have HL := Lib.hid hi
  have HL2 := Lib.hid hi'
  clear I K hkey hx hw hB hmB q0
  dsimp only [lit]
  conv => arg 2; whnf
  go_wp2_with fail
  go_at_call 46
  refine HF.out.mono ?_
  rintro e w4 ⟨f4, rfl, hf4, hg4, hm4⟩
  obtain ⟨a4, rfl⟩ := hf4.ptr
  have HS := Lib.hid (HI.out.set HB.out HM.out HL.out HL2.out (kAnyOf, 13, 29) HW.out (by decide) HK.out hg4 hm4 hf4)
  obtain ⟨⟨old, b4⟩, b5⟩ := HI.out.cell HB.out HM.out hg4 29 (by omega)
  clear hf4 hg4 hm4
  go_wp2
  exact ⟨_, rfl, (by unfold FrameAt; kernel_rfl), HS.out⟩

set_option maxRecDepth 1000000 in
set_option maxHeartbeats 8000000 in
theorem round_kOneOf (B m n E i j g k nn N c : Nat) (v : Dat) (w wr : World) (u : Nat → Value) (Q0 : Exit → Act → World → Prop) (hB : B ≤ w.heap.size) (hmB : m < B) (hi : i < v.keys.length) (hi' : i < v.items.length) (hkey : v.keys[i] = kOneOf) (hx : FitN IsShp 13 v.items[i])
    (F : RAt w wr m n i j v g k nn N c kOneOf) (I : NInv w B m (E + 1) v i wr) (K : Kid B m E w.heap.size nn v.items[i] wr) :
    Code.wp Tryz.prog nsoBody (Exit.then (WJ w B m n (E + 1) v i j) Q0) (lit n m w.heap.size j u) wr := by
  have hw : (kOneOf, 13, 30) ∈ kws := by unfold kws; simp
  obtain ⟨-, j1, j2, j3, n6, k0, k1, k3, q0⟩ := F
  unfold kOneOf at k3
  have HF := Lib.hid (K.c13 hx)
  have HI := Lib.hid I
  have HW := Lib.hid hw
  have HK := Lib.hid hkey
  have HB := Lib.hid hB
  have HM := Lib.hid hmB
  have HL := Lib.hid hi
  have HL2 := Lib.hid hi'
  clear I K hkey hx hw hB hmB q0
  dsimp only [lit]
  conv => arg 2; whnf
  go_wp2_with fail
  go_at_call 46
  refine HF.out.mono ?_
  rintro e w4 ⟨f4, rfl, hf4, hg4, hm4⟩
  obtain ⟨a4, rfl⟩ := hf4.ptr
  have HS := Lib.hid (HI.out.set HB.out HM.out HL.out HL2.out (kOneOf, 13, 30) HW.out (by decide) HK.out hg4 hm4 hf4)
  obtain ⟨⟨old, b4⟩, b5⟩ := HI.out.cell HB.out HM.out hg4 30 (by omega)
  clear hf4 hg4 hm4
  go_wp2
  exact ⟨_, rfl, (by unfold FrameAt; kernel_rfl), HS.out⟩

set_option maxRecDepth 1000000 in
set_option maxHeartbeats 8000000 in
theorem round_kNot (B m n E i j g k nn N c : Nat) (v : Dat) (w wr : World) (u : Nat → Value) (Q0 : Exit → Act → World → Prop) (hB : B ≤ w.heap.size) (hmB : m < B) (hi : i < v.keys.length) (hi' : i < v.items.length) (hkey : v.keys[i] = kNot) (hx : FitN IsShp 5 v.items[i])
    (F : RAt w wr m n i j v g k nn N c kNot) (I : NInv w B m (E + 1) v i wr) (K : Kid B m E w.heap.size nn v.items[i] wr) :
    Code.wp Tryz.prog nsoBody (Exit.then (WJ w B m n (E + 1) v i j) Q0) (lit n m w.heap.size j u) wr := by
  have hw : (kNot, 5, 31) ∈ kws := by unfold kws; simp
  obtain ⟨-, j1, j2, j3, n6, k0, k1, k3, q0⟩ := F
  unfold kNot at k3
  have HF := Lib.hid (K.c5 hx)
  have HI := Lib.hid I
  have HW := Lib.hid hw
  have HK := Lib.hid hkey
  have HB := Lib.hid hB
  have HM := Lib.hid hmB
  have HL := Lib.hid hi
  have HL2 := Lib.hid hi'
  clear I K hkey hx hw hB hmB
  dsimp only [lit]
  conv => arg 2; whnf
  go_wp2_with fail
  go_at_call 26
  refine HF.out.mono ?_
  rintro e w4 ⟨f4, rfl, hf4, hg4, hm4⟩
  obtain ⟨a4, rfl⟩ := hf4.ptr
  have HS := Lib.hid (HI.out.set HB.out HM.out HL.out HL2.out (kNot, 5, 31) HW.out (by decide) HK.out hg4 hm4 hf4)
  obtain ⟨⟨old, b4⟩, b5⟩ := HI.out.cell HB.out HM.out hg4 31 (by omega)
  clear hf4 hg4 hm4
  go_wp2
  exact ⟨_, rfl, (by unfold FrameAt; kernel_rfl), HS.out⟩

set_option maxRecDepth 1000000 in
set_option maxHeartbeats 8000000 in
theorem round_kDefinitions (B m n E i j g k nn N c : Nat) (v : Dat) (w wr : World) (u : Nat → Value) (Q0 : Exit → Act → World → Prop) (hB : B ≤ w.heap.size) (hmB : m < B) (hi : i < v.keys.length) (hi' : i < v.items.length) (hkey : v.keys[i] = kDefinitions) (hx : FitN IsShp 9 v.items[i])
    (F : RAt w wr m n i j v g k nn N c kDefinitions) (I : NInv w B m (E + 1) v i wr) (K : Kid B m E w.heap.size nn v.items[i] wr) :
    Code.wp Tryz.prog nsoBody (Exit.then (WJ w B m n (E + 1) v i j) Q0) (lit n m w.heap.size j u) wr := by
  have hw : (kDefinitions, 9, 32) ∈ kws := by unfold kws; simp
  obtain ⟨-, j1, j2, j3, n6, k0, k1, k3, q0⟩ := F
  unfold kDefinitions at k3
  have HF := Lib.hid (K.c9 hx)
  have HI := Lib.hid I
  have HW := Lib.hid hw
  have HK := Lib.hid hkey
  have HB := Lib.hid hB
  have HM := Lib.hid hmB
  have HL := Lib.hid hi
  have HL2 := Lib.hid hi'
  clear I K hkey hx hw hB hmB q0
  dsimp only [lit]
  conv => arg 2; whnf
  go_wp2_with fail
  go_at_call 42
  refine HF.out.mono ?_
  rintro e w4 ⟨f4, rfl, hf4, hg4, hm4⟩
  obtain ⟨a4, rfl⟩ := hf4.ptr
  have HS := Lib.hid (HI.out.set HB.out HM.out HL.out HL2.out (kDefinitions, 9, 32) HW.out (by decide) HK.out hg4 hm4 hf4)
  obtain ⟨⟨old, b4⟩, b5⟩ := HI.out.cell HB.out HM.out hg4 32 (by omega)
  clear hf4 hg4 hm4
  go_wp2
  exact ⟨_, rfl, (by unfold FrameAt; kernel_rfl), HS.out⟩

set_option maxRecDepth 1000000 in
set_option maxHeartbeats 8000000 in
theorem round_kTitle (B m n E i j g k nn N c : Nat) (v : Dat) (w wr : World) (u : Nat → Value) (Q0 : Exit → Act → World → Prop) (hB : B ≤ w.heap.size) (hmB : m < B) (hi : i < v.keys.length) (hi' : i < v.items.length) (hkey : v.keys[i] = kTitle) (hx : FitN IsShp 1 v.items[i])
    (F : RAt w wr m n i j v g k nn N c kTitle) (I : NInv w B m (E + 1) v i wr) (K : Kid B m E w.heap.size nn v.items[i] wr) :
    Code.wp Tryz.prog nsoBody (Exit.then (WJ w B m n (E + 1) v i j) Q0) (lit n m w.heap.size j u) wr := by
  have hw : (kTitle, 1, 33) ∈ kws := by unfold kws; simp
  obtain ⟨-, j1, j2, j3, n6, k0, k1, k3, q0⟩ := F
  unfold kTitle at k3
  have HF := Lib.hid (K.c1 hx)
  have HI := Lib.hid I
  have HW := Lib.hid hw
  have HK := Lib.hid hkey
  have HB := Lib.hid hB
  have HM := Lib.hid hmB
  have HL := Lib.hid hi
  have HL2 := Lib.hid hi'
  clear I K hkey hx hw hB hmB q0
  dsimp only [lit]
  conv => arg 2; whnf
  go_wp2_with fail
  go_at_call 35
  refine HF.out.mono ?_
  rintro e w4 ⟨f4, rfl, hf4, hg4, hm4⟩
  obtain ⟨a4, rfl⟩ := hf4.ptr
  have HS := Lib.hid (HI.out.set HB.out HM.out HL.out HL2.out (kTitle, 1, 33) HW.out (by decide) HK.out hg4 hm4 hf4)
  obtain ⟨⟨old, b4⟩, b5⟩ := HI.out.cell HB.out HM.out hg4 33 (by omega)
  clear hf4 hg4 hm4
  go_wp2
  exact ⟨_, rfl, (by unfold FrameAt; kernel_rfl), HS.out⟩

set_option maxRecDepth 1000000 in
set_option maxHeartbeats 8000000 in
theorem round_kDescription (B m n E i j g k nn N c : Nat) (v : Dat) (w wr : World) (u : Nat → Value) (Q0 : Exit → Act → World → Prop) (hB : B ≤ w.heap.size) (hmB : m < B) (hi : i < v.keys.length) (hi' : i < v.items.length) (hkey : v.keys[i] = kDescription) (hx : FitN IsShp 1 v.items[i])
    (F : RAt w wr m n i j v g k nn N c kDescription) (I : NInv w B m (E + 1) v i wr) (K : Kid B m E w.heap.size nn v.items[i] wr) :
    Code.wp Tryz.prog nsoBody (Exit.then (WJ w B m n (E + 1) v i j) Q0) (lit n m w.heap.size j u) wr := by
  have hw : (kDescription, 1, 34) ∈ kws := by unfold kws; simp
  obtain ⟨-, j1, j2, j3, n6, k0, k1, k3, q0⟩ := F
  unfold kDescription at k3
  have HF := Lib.hid (K.c1 hx)
  have HI := Lib.hid I
  have HW := Lib.hid hw
  have HK := Lib.hid hkey
  have HB := Lib.hid hB
  have HM := Lib.hid hmB
  have HL := Lib.hid hi
  have HL2 := Lib.hid hi'
  clear I K hkey hx hw hB hmB q0
  dsimp only [lit]
  conv => arg 2; whnf
  go_wp2_with fail
  go_at_call 35
  refine HF.out.mono ?_
  rintro e w4 ⟨f4, rfl, hf4, hg4, hm4⟩
  obtain ⟨a4, rfl⟩ := hf4.ptr
  have HS := Lib.hid (HI.out.set HB.out HM.out HL.out HL2.out (kDescription, 1, 34) HW.out (by decide) HK.out hg4 hm4 hf4)
  obtain ⟨⟨old, b4⟩, b5⟩ := HI.out.cell HB.out HM.out hg4 34 (by omega)
  clear hf4 hg4 hm4
  go_wp2
  exact ⟨_, rfl, (by unfold FrameAt; kernel_rfl), HS.out⟩

set_option maxRecDepth 1000000 in
set_option maxHeartbeats 8000000 in
theorem round_kDefault (B m n E i j g k nn N c : Nat) (v : Dat) (w wr : World) (u : Nat → Value) (Q0 : Exit → Act → World → Prop) (hB : B ≤ w.heap.size) (hmB : m < B) (hi : i < v.keys.length) (hi' : i < v.items.length) (hkey : v.keys[i] = kDefault) (hx : FitN IsShp 14 v.items[i])
    (F : RAt w wr m n i j v g k nn N c kDefault) (I : NInv w B m (E + 1) v i wr) (K : Kid B m E w.heap.size nn v.items[i] wr) :
    Code.wp Tryz.prog nsoBody (Exit.then (WJ w B m n (E + 1) v i j) Q0) (lit n m w.heap.size j u) wr := by
  have hw : (kDefault, 14, 35) ∈ kws := by unfold kws; simp
  obtain ⟨-, j1, j2, j3, n6, k0, k1, k3, q0⟩ := F
  unfold kDefault at k3
  have HI := Lib.hid I
  have HW := Lib.hid hw
  have HK := Lib.hid hkey
  have HB := Lib.hid hB
  have HM := Lib.hid hmB
  have HL := Lib.hid hi
  have HL2 := Lib.hid hi'
  have HS := Lib.hid (I.set hB hmB hi hi' (kDefault, 14, 35) hw (by decide) hkey (f := .pointer (some ⟨nn, 0, none⟩)) (grown_refl _ _) I.map ⟨_, rfl⟩)
  obtain ⟨⟨old, b4⟩, b5⟩ := I.cell hB hmB (grown_refl _ _) 35 (by omega)
  clear I K hkey hx hw hB hmB q0
  dsimp only [lit]
  conv => arg 2; whnf
  go_wp2
  exact ⟨_, rfl, (by unfold FrameAt; kernel_rfl), HS.out⟩

set_option maxRecDepth 1000000 in
set_option maxHeartbeats 8000000 in
theorem round_kFormat (B m n E i j g k nn N c : Nat) (v : Dat) (w wr : World) (u : Nat → Value) (Q0 : Exit → Act → World → Prop) (hB : B ≤ w.heap.size) (hmB : m < B) (hi : i < v.keys.length) (hi' : i < v.items.length) (hkey : v.keys[i] = kFormat) (hx : FitN IsShp 1 v.items[i])
    (F : RAt w wr m n i j v g k nn N c kFormat) (I : NInv w B m (E + 1) v i wr) (K : Kid B m E w.heap.size nn v.items[i] wr) :
    Code.wp Tryz.prog nsoBody (Exit.then (WJ w B m n (E + 1) v i j) Q0) (lit n m w.heap.size j u) wr := by
  have hw : (kFormat, 1, 36) ∈ kws := by unfold kws; simp
  obtain ⟨-, j1, j2, j3, n6, k0, k1, k3, q0⟩ := F
  unfold kFormat at k3
  have HF := Lib.hid (K.c1 hx)
  have HI := Lib.hid I
  have HW := Lib.hid hw
  have HK := Lib.hid hkey
  have HB := Lib.hid hB
  have HM := Lib.hid hmB
  have HL := Lib.hid hi
  have HL2 := Lib.hid hi'
  clear I K hkey hx hw hB hmB q0
  dsimp only [lit]
  conv => arg 2; whnf
  go_wp2_with fail
  go_at_call 35
  refine HF.out.mono ?_
  rintro e w4 ⟨f4, rfl, hf4, hg4, hm4⟩
  obtain ⟨a4, rfl⟩ := hf4.ptr
  have HS := Lib.hid (HI.out.set HB.out HM.out HL.out HL2.out (kFormat, 1, 36) HW.out (by decide) HK.out hg4 hm4 hf4)
  obtain ⟨⟨old, b4⟩, b5⟩ := HI.out.cell HB.out HM.out hg4 36 (by omega)
  clear hf4 hg4 hm4
  go_wp2
  exact ⟨_, rfl, (by unfold FrameAt; kernel_rfl), HS.out⟩

end Go.Proofs.YthdnkcofcbinhaaGreatDoor
