/- NewSchemaFromObject: rounds at keywords. -/
import Derived.Test.YthdnkcofcbinhaaGreatDoorNs0J
set_option linter.unusedVariables false
set_option linter.unusedSimpArgs false
namespace Go.Proofs.YthdnkcofcbinhaaGreatDoor
open Go.RowKit

set_option maxRecDepth 1000000 in
set_option maxHeartbeats 8000000 in
theorem round_kItems (B m n E i j g k nn N c : Nat) (v : Dat) (w wr : World) (u : Nat → Value) (Q0 : Exit → Act → World → Prop) (hB : B ≤ w.heap.size) (hmB : m < B) (hi : i < v.keys.length) (hi' : i < v.items.length) (hkey : v.keys[i] = kItems) (hx : FitN IsShp 7 v.items[i])
    (F : RAt w wr m n i j v g k nn N c kItems) (I : NInv w B m (E + 1) v i wr) (K : Kid B m E w.heap.size nn v.items[i] wr) :
    Code.wp Tryz.prog nsoBody (Exit.then (WJ w B m n (E + 1) v i j) Q0) (lit n m w.heap.size j u) wr := by
  have hw : (kItems, 7, 15) ∈ kws := by unfold kws; simp
  obtain ⟨-, j1, j2, j3, n6, k0, k1, k3, q0⟩ := F
  unfold kItems at k3
  have HF := Lib.hid (K.c7 hx)
  have HI := Lib.hid I
  have HW := Lib.hid hw
  have HK := Lib.hid hkey
  have HB := Lib.hid hB
  have HM := Lib.hid hmB
  have HL := Lib.hid hi
  have HL2 := Lib.hid hi'
  clear I K hkey hx hw hB hmB q0
  dsimp only [lit]
  conv => arg 2; whnf
  go_wp2_with fail
  go_at_call 40
  refine HF.out.mono ?_
  rintro e w4 ⟨f4, rfl, hf4, hg4, hm4⟩
  obtain ⟨a4, rfl⟩ := hf4.ptr
  have HS := Lib.hid (HI.out.set HB.out HM.out HL.out HL2.out (kItems, 7, 15) HW.out (by decide) HK.out hg4 hm4 hf4)
  obtain ⟨⟨old, b4⟩, b5⟩ := HI.out.cell HB.out HM.out hg4 15 (by omega)
  clear hf4 hg4 hm4
  go_wp2
  exact ⟨_, rfl, (by unfold FrameAt; kernel_rfl), HS.out⟩

set_option maxRecDepth 1000000 in
set_option maxHeartbeats 8000000 in
theorem round_kMaxItems (B m n E i j g k nn N c : Nat) (v : Dat) (w wr : World) (u : Nat → Value) (Q0 : Exit → Act → World → Prop) (hB : B ≤ w.heap.size) (hmB : m < B) (hi : i < v.keys.length) (hi' : i < v.items.length) (hkey : v.keys[i] = kMaxItems) (hx : FitN IsShp 4 v.items[i])
    (F : RAt w wr m n i j v g k nn N c kMaxItems) (I : NInv w B m (E + 1) v i wr) (K : Kid B m E w.heap.size nn v.items[i] wr) :
    Code.wp Tryz.prog nsoBody (Exit.then (WJ w B m n (E + 1) v i j) Q0) (lit n m w.heap.size j u) wr := by
  have hw : (kMaxItems, 4, 16) ∈ kws := by unfold kws; simp
  obtain ⟨-, j1, j2, j3, n6, k0, k1, k3, q0⟩ := F
  unfold kMaxItems at k3
  have HF := Lib.hid (K.c4 hx)
  have HI := Lib.hid I
  have HW := Lib.hid hw
  have HK := Lib.hid hkey
  have HB := Lib.hid hB
  have HM := Lib.hid hmB
  have HL := Lib.hid hi
  have HL2 := Lib.hid hi'
  clear I K hkey hx hw hB hmB q0
  dsimp only [lit]
  conv => arg 2; whnf
  go_wp2_with fail
  go_at_call 38
  refine HF.out.mono ?_
  rintro e w4 ⟨f4, rfl, hf4, hg4, hm4⟩
  obtain ⟨a4, rfl⟩ := hf4.ptr
  have HS := Lib.hid (HI.out.set HB.out HM.out HL.out HL2.out (kMaxItems, 4, 16) HW.out (by decide) HK.out hg4 hm4 hf4)
  obtain ⟨⟨old, b4⟩, b5⟩ := HI.out.cell HB.out HM.out hg4 16 (by omega)
  clear hf4 hg4 hm4
  go_wp2
  exact ⟨_, rfl, (by unfold FrameAt; kernel_rfl), HS.out⟩

set_option maxRecDepth 1000000 in
set_option maxHeartbeats 8000000 in
theorem round_kMinItems (B m n E i j g k nn N c : Nat) (v : Dat) (w wr : World) (u : Nat → Value) (Q0 : Exit → Act → World → Prop) (hB : B ≤ w.heap.size) (hmB : m < B) (hi : i < v.keys.length) (hi' : i < v.items.length) (hkey : v.keys[i] = kMinItems) (hx : FitN IsShp 4 v.items[i])
    (F : RAt w wr m n i j v g k nn N c kMinItems) (I : NInv w B m (E + 1) v i wr) (K : Kid B m E w.heap.size nn v.items[i] wr) :
    Code.wp Tryz.prog nsoBody (Exit.then (WJ w B m n (E + 1) v i j) Q0) (lit n m w.heap.size j u) wr := by
  have hw : (kMinItems, 4, 17) ∈ kws := by unfold kws; simp
  obtain ⟨-, j1, j2, j3, n6, k0, k1, k3, q0⟩ := F
  unfold kMinItems at k3
  have HF := Lib.hid (K.c4 hx)
  have HI := Lib.hid I
  have HW := Lib.hid hw
  have HK := Lib.hid hkey
  have HB := Lib.hid hB
  have HM := Lib.hid hmB
  have HL := Lib.hid hi
  have HL2 := Lib.hid hi'
  clear I K hkey hx hw hB hmB q0
  dsimp only [lit]
  conv => arg 2; whnf
  go_wp2_with fail
  go_at_call 38
  refine HF.out.mono ?_
  rintro e w4 ⟨f4, rfl, hf4, hg4, hm4⟩
  obtain ⟨a4, rfl⟩ := hf4.ptr
  have HS := Lib.hid (HI.out.set HB.out HM.out HL.out HL2.out (kMinItems, 4, 17) HW.out (by decide) HK.out hg4 hm4 hf4)
  obtain ⟨⟨old, b4⟩, b5⟩ := HI.out.cell HB.out HM.out hg4 17 (by omega)
  clear hf4 hg4 hm4
  go_wp2
  exact ⟨_, rfl, (by unfold FrameAt; kernel_rfl), HS.out⟩

set_option maxRecDepth 1000000 in
set_option maxHeartbeats 8000000 in
theorem round_kUniqueItems (B m n E i j g k nn N c : Nat) (v : Dat) (w wr : World) (u : Nat → Value) (Q0 : Exit → Act → World → Prop) (hB : B ≤ w.heap.size) (hmB : m < B) (hi : i < v.keys.length) (hi' : i < v.items.length) (hkey : v.keys[i] = kUniqueItems) (hx : FitN IsShp 2 v.items[i])
    (F : RAt w wr m n i j v g k nn N c kUniqueItems) (I : NInv w B m (E + 1) v i wr) (K : Kid B m E w.heap.size nn v.items[i] wr) :
    Code.wp Tryz.prog nsoBody (Exit.then (WJ w B m n (E + 1) v i j) Q0) (lit n m w.heap.size j u) wr := by
  have hw : (kUniqueItems, 2, 18) ∈ kws := by unfold kws; simp
  obtain ⟨-, j1, j2, j3, n6, k0, k1, k3, q0⟩ := F
  unfold kUniqueItems at k3
  have HF := Lib.hid (K.c2 hx)
  have HI := Lib.hid I
  have HW := Lib.hid hw
  have HK := Lib.hid hkey
  have HB := Lib.hid hB
  have HM := Lib.hid hmB
  have HL := Lib.hid hi
  have HL2 := Lib.hid hi'
  clear I K hkey hx hw hB hmB q0
  dsimp only [lit]
  conv => arg 2; whnf
  go_wp2_with fail
  go_at_call 37
  refine HF.out.mono ?_
  rintro e w4 ⟨f4, rfl, hf4, hg4, hm4⟩
  obtain ⟨a4, rfl⟩ := hf4.ptr
  have HS := Lib.hid (HI.out.set HB.out HM.out HL.out HL2.out (kUniqueItems, 2, 18) HW.out (by decide) HK.out hg4 hm4 hf4)
  obtain ⟨⟨old, b4⟩, b5⟩ := HI.out.cell HB.out HM.out hg4 18 (by omega)
  clear hf4 hg4 hm4
  go_wp2
  exact ⟨_, rfl, (by unfold FrameAt; kernel_rfl), HS.out⟩

set_option maxRecDepth 1000000 in
set_option maxHeartbeats 8000000 in
theorem round_kMaxProperties (B m n E i j g k nn N c : Nat) (v : Dat) (w wr : World) (u : Nat → Value) (Q0 : Exit → Act → World → Prop) (hB : B ≤ w.heap.size) (hmB : m < B) (hi : i < v.keys.length) (hi' : i < v.items.length) (hkey : v.keys[i] = kMaxProperties) (hx : FitN IsShp 4 v.items[i])
    (F : RAt w wr m n i j v g k nn N c kMaxProperties) (I : NInv w B m (E + 1) v i wr) (K : Kid B m E w.heap.size nn v.items[i] wr) :
    Code.wp Tryz.prog nsoBody (Exit.then (WJ w B m n (E + 1) v i j) Q0) (lit n m w.heap.size j u) wr := by
  have hw : (kMaxProperties, 4, 19) ∈ kws := by unfold kws; simp
  obtain ⟨-, j1, j2, j3, n6, k0, k1, k3, q0⟩ := F
  unfold kMaxProperties at k3
  have HF := Lib.hid (K.c4 hx)
  have HI := Lib.hid I
  have HW := Lib.hid hw
  have HK := Lib.hid hkey
  have HB := Lib.hid hB
  have HM := Lib.hid hmB
  have HL := Lib.hid hi
  have HL2 := Lib.hid hi'
  clear I K hkey hx hw hB hmB q0
  dsimp only [lit]
  conv => arg 2; whnf
  go_wp2_with fail
  go_at_call 38
  refine HF.out.mono ?_
  rintro e w4 ⟨f4, rfl, hf4, hg4, hm4⟩
  obtain ⟨a4, rfl⟩ := hf4.ptr
  have HS := Lib.hid (HI.out.set HB.out HM.out HL.out HL2.out (kMaxProperties, 4, 19) HW.out (by decide) HK.out hg4 hm4 hf4)
  obtain ⟨⟨old, b4⟩, b5⟩ := HI.out.cell HB.out HM.out hg4 19 (by omega)
  clear hf4 hg4 hm4
  go_wp2
  exact ⟨_, rfl, (by unfold FrameAt; kernel_rfl), HS.out⟩

set_option maxRecDepth 1000000 in
set_option maxHeartbeats 8000000 in
theorem round_kMinProperties (B m n E i j g k nn N c : Nat) (v : Dat) (w wr : World) (u : Nat → Value) (Q0 : Exit → Act → World → Prop) (hB : B ≤ w.heap.size) (hmB : m < B) (hi : i < v.keys.length) (hi' : i < v.items.length) (hkey : v.keys[i] = kMinProperties) (hx : FitN IsShp 4 v.items[i])
    (F : RAt w wr m n i j v g k nn N c kMinProperties) (I : NInv w B m (E + 1) v i wr) (K : Kid B m E w.heap.size nn v.items[i] wr) :
    Code.wp Tryz.prog nsoBody (Exit.then (WJ w B m n (E + 1) v i j) Q0) (lit n m w.heap.size j u) wr := by
  have hw : (kMinProperties, 4, 20) ∈ kws := by unfold kws; simp
  obtain ⟨-, j1, j2, j3, n6, k0, k1, k3, q0⟩ := F
  unfold kMinProperties at k3
  have HF := Lib.hid (K.c4 hx)
  have HI := Lib.hid I
  have HW := Lib.hid hw
  have HK := Lib.hid hkey
  have HB := Lib.hid hB
  have HM := Lib.hid hmB
  have HL := Lib.hid hi
  have HL2 := Lib.hid hi'
  clear I K hkey hx hw hB hmB q0
  dsimp only [lit]
  conv => arg 2; whnf
  go_wp2_with fail
  go_at_call 38
  refine HF.out.mono ?_
  rintro e w4 ⟨f4, rfl, hf4, hg4, hm4⟩
  obtain ⟨a4, rfl⟩ := hf4.ptr
  have HS := Lib.hid (HI.out.set HB.out HM.out HL.out HL2.out (kMinProperties, 4, 20) HW.out (by decide) HK.out hg4 hm4 hf4)
  obtain ⟨⟨old, b4⟩, b5⟩ := HI.out.cell HB.out HM.out hg4 20 (by omega)
  clear hf4 hg4 hm4
  go_wp2
  exact ⟨_, rfl, (by unfold FrameAt; kernel_rfl), HS.out⟩

set_option maxRecDepth 1000000 in
set_option maxHeartbeats 8000000 in
theorem round_kRequired (B m n E i j g k nn N c : Nat) (v : Dat) (w wr : World) (u : Nat → Value) (Q0 : Exit → Act → World → Prop) (hB : B ≤ w.heap.size) (hmB : m < B) (hi : i < v.keys.length) (hi' : i < v.items.length) (hkey : v.keys[i] = kRequired) (hx : FitN IsShp 8 v.items[i])
    (F : RAt w wr m n i j v g k nn N c kRequired) (I : NInv w B m (E + 1) v i wr) (K : Kid B m E w.heap.size nn v.items[i] wr) :
    Code.wp Tryz.prog nsoBody (Exit.then (WJ w B m n (E + 1) v i j) Q0) (lit n m w.heap.size j u) wr := by
  have hw : (kRequired, 8, 21) ∈ kws := by unfold kws; simp
  obtain ⟨-, j1, j2, j3, n6, k0, k1, k3, q0⟩ := F
  unfold kRequired at k3
  have HF := Lib.hid (K.c8 hx)
  have HI := Lib.hid I
  have HW := Lib.hid hw
  have HK := Lib.hid hkey
  have HB := Lib.hid hB
  have HM := Lib.hid hmB
  have HL := Lib.hid hi
  have HL2 := Lib.hid hi'
  clear I K hkey hx hw hB hmB q0
  dsimp only [lit]
  conv => arg 2; whnf
  go_wp2_with fail
  go_at_call 41
  refine HF.out.mono ?_
  rintro e w4 ⟨f4, rfl, hf4, hg4, hm4⟩
  obtain ⟨a4, rfl⟩ := hf4.ptr
  have HS := Lib.hid (HI.out.set HB.out HM.out HL.out HL2.out (kRequired, 8, 21) HW.out (by decide) HK.out hg4 hm4 hf4)
  obtain ⟨⟨old, b4⟩, b5⟩ := HI.out.cell HB.out HM.out hg4 21 (by omega)
  clear hf4 hg4 hm4
  go_wp2
  exact ⟨_, rfl, (by unfold FrameAt; kernel_rfl), HS.out⟩

set_option maxRecDepth 1000000 in
set_option maxHeartbeats 8000000 in
theorem round_kAdditionalProperties (B m n E i j g k nn N c : Nat) (v : Dat) (w wr : World) (u : Nat → Value) (Q0 : Exit → Act → World → Prop) (hB : B ≤ w.heap.size) (hmB : m < B) (hi : i < v.keys.length) (hi' : i < v.items.length) (hkey : v.keys[i] = kAdditionalProperties) (hx : FitN IsShp 6 v.items[i])
    (F : RAt w wr m n i j v g k nn N c kAdditionalProperties) (I : NInv w B m (E + 1) v i wr) (K : Kid B m E w.heap.size nn v.items[i] wr) :
    Code.wp Tryz.prog nsoBody (Exit.then (WJ w B m n (E + 1) v i j) Q0) (lit n m w.heap.size j u) wr := by
  have hw : (kAdditionalProperties, 6, 22) ∈ kws := by unfold kws; simp
  obtain ⟨-, j1, j2, j3, n6, k0, k1, k3, q0⟩ := F
  unfold kAdditionalProperties at k3
  have HF := Lib.hid (K.c6 hx)
  have HI := Lib.hid I
  have HW := Lib.hid hw
  have HK := Lib.hid hkey
  have HB := Lib.hid hB
  have HM := Lib.hid hmB
  have HL := Lib.hid hi
  have HL2 := Lib.hid hi'
  clear I K hkey hx hw hB hmB q0
  dsimp only [lit]
  conv => arg 2; whnf
  go_wp2_with fail
  go_at_call 39
  refine HF.out.mono ?_
  rintro e w4 ⟨f4, rfl, hf4, hg4, hm4⟩
  obtain ⟨a4, rfl⟩ := hf4.ptr
  have HS := Lib.hid (HI.out.set HB.out HM.out HL.out HL2.out (kAdditionalProperties, 6, 22) HW.out (by decide) HK.out hg4 hm4 hf4)
  obtain ⟨⟨old, b4⟩, b5⟩ := HI.out.cell HB.out HM.out hg4 22 (by omega)
  clear hf4 hg4 hm4
  go_wp2
  exact ⟨_, rfl, (by unfold FrameAt; kernel_rfl), HS.out⟩

set_option maxRecDepth 1000000 in
set_option maxHeartbeats 8000000 in
theorem round_kProperties (B m n E i j g k nn N c : Nat) (v : Dat) (w wr : World) (u : Nat → Value) (Q0 : Exit → Act → World → Prop) (hB : B ≤ w.heap.size) (hmB : m < B) (hi : i < v.keys.length) (hi' : i < v.items.length) (hkey : v.keys[i] = kProperties) (hx : FitN IsShp 9 v.items[i])
    (F : RAt w wr m n i j v g k nn N c kProperties) (I : NInv w B m (E + 1) v i wr) (K : Kid B m E w.heap.size nn v.items[i] wr) :
    Code.wp Tryz.prog nsoBody (Exit.then (WJ w B m n (E + 1) v i j) Q0) (lit n m w.heap.size j u) wr := by
  have hw : (kProperties, 9, 23) ∈ kws := by unfold kws; simp
  obtain ⟨-, j1, j2, j3, n6, k0, k1, k3, q0⟩ := F
  unfold kProperties at k3
  have HF := Lib.hid (K.c9 hx)
  have HI := Lib.hid I
  have HW := Lib.hid hw
  have HK := Lib.hid hkey
  have HB := Lib.hid hB
  have HM := Lib.hid hmB
  have HL := Lib.hid hi
  have HL2 := Lib.hid hi'
  clear I K hkey hx hw hB hmB q0
  dsimp only [lit]
  conv => arg 2; whnf
  go_wp2_with fail
  go_at_call 42
  refine HF.out.mono ?_
  rintro e w4 ⟨f4, rfl, hf4, hg4, hm4⟩
  obtain ⟨a4, rfl⟩ := hf4.ptr
  have HS := Lib.hid (HI.out.set HB.out HM.out HL.out HL2.out (kProperties, 9, 23) HW.out (by decide) HK.out hg4 hm4 hf4)
  obtain ⟨⟨old, b4⟩, b5⟩ := HI.out.cell HB.out HM.out hg4 23 (by omega)
  clear hf4 hg4 hm4
  go_wp2
  exact ⟨_, rfl, (by unfold FrameAt; kernel_rfl), HS.out⟩

set_option maxRecDepth 1000000 in
set_option maxHeartbeats 8000000 in
theorem round_kPatternProperties (B m n E i j g k nn N c : Nat) (v : Dat) (w wr : World) (u : Nat → Value) (Q0 : Exit → Act → World → Prop) (hB : B ≤ w.heap.size) (hmB : m < B) (hi : i < v.keys.length) (hi' : i < v.items.length) (hkey : v.keys[i] = kPatternProperties) (hx : FitN IsShp 9 v.items[i])
    (F : RAt w wr m n i j v g k nn N c kPatternProperties) (I : NInv w B m (E + 1) v i wr) (K : Kid B m E w.heap.size nn v.items[i] wr) :
    Code.wp Tryz.prog nsoBody (Exit.then (WJ w B m n (E + 1) v i j) Q0) (lit n m w.heap.size j u) wr := by
  have hw : (kPatternProperties, 9, 24) ∈ kws := by unfold kws; simp
  obtain ⟨-, j1, j2, j3, n6, k0, k1, k3, q0⟩ := F
  unfold kPatternProperties at k3
  have HF := Lib.hid (K.c9 hx)
  have HI := Lib.hid I
  have HW := Lib.hid hw
  have HK := Lib.hid hkey
  have HB := Lib.hid hB
  have HM := Lib.hid hmB
  have HL := Lib.hid hi
  have HL2 := Lib.hid hi'
  clear I K hkey hx hw hB hmB q0
  dsimp only [lit]
  conv => arg 2; whnf
  go_wp2_with fail
  go_at_call 42
  refine HF.out.mono ?_
  rintro e w4 ⟨f4, rfl, hf4, hg4, hm4⟩
  obtain ⟨a4, rfl⟩ := hf4.ptr
  have HS := Lib.hid (HI.out.set HB.out HM.out HL.out HL2.out (kPatternProperties, 9, 24) HW.out (by decide) HK.out hg4 hm4 hf4)
  obtain ⟨⟨old, b4⟩, b5⟩ := HI.out.cell HB.out HM.out hg4 24 (by omega)
  clear hf4 hg4 hm4
  go_wp2
  exact ⟨_, rfl, (by unfold FrameAt; kernel_rfl), HS.out⟩

set_option maxRecDepth 1000000 in
set_option maxHeartbeats 8000000 in
theorem round_kDependencies (B m n E i j g k nn N c : Nat) (v : Dat) (w wr : World) (u : Nat → Value) (Q0 : Exit → Act → World → Prop) (hB : B ≤ w.heap.size) (hmB : m < B) (hi : i < v.keys.length) (hi' : i < v.items.length) (hkey : v.keys[i] = kDependencies) (hx : FitN IsShp 10 v.items[i])
    (F : RAt w wr m n i j v g k nn N c kDependencies) (I : NInv w B m (E + 1) v i wr) (K : Kid B m E w.heap.size nn v.items[i] wr) :
    Code.wp Tryz.prog nsoBody (Exit.then (WJ w B m n (E + 1) v i j) Q0) (lit n m w.heap.size j u) wr := by
  have hw : (kDependencies, 10, 25) ∈ kws := by unfold kws; simp
  obtain ⟨-, j1, j2, j3, n6, k0, k1, k3, q0⟩ := F
  unfold kDependencies at k3
  have HF := Lib.hid (K.c10 hx)
  have HI := Lib.hid I
  have HW := Lib.hid hw
  have HK := Lib.hid hkey
  have HB := Lib.hid hB
  have HM := Lib.hid hmB
  have HL := Lib.hid hi
  have HL2 := Lib.hid hi'
  clear I K hkey hx hw hB hmB q0
  dsimp only [lit]
  conv => arg 2; whnf
  go_wp2_with fail
  go_at_call 43
  refine HF.out.mono ?_
  rintro e w4 ⟨f4, rfl, hf4, hg4, hm4⟩
  obtain ⟨a4, rfl⟩ := hf4.ptr
  have HS := Lib.hid (HI.out.set HB.out HM.out HL.out HL2.out (kDependencies, 10, 25) HW.out (by decide) HK.out hg4 hm4 hf4)
  obtain ⟨⟨old, b4⟩, b5⟩ := HI.out.cell HB.out HM.out hg4 25 (by omega)
  clear hf4 hg4 hm4
  go_wp2
  exact ⟨_, rfl, (by unfold FrameAt; kernel_rfl), HS.out⟩

set_option maxRecDepth 1000000 in
set_option maxHeartbeats 8000000 in
theorem round_kEnum (B m n E i j g k nn N c : Nat) (v : Dat) (w wr : World) (u : Nat → Value) (Q0 : Exit → Act → World → Prop) (hB : B ≤ w.heap.size) (hmB : m < B) (hi : i < v.keys.length) (hi' : i < v.items.length) (hkey : v.keys[i] = kEnum) (hx : FitN IsShp 11 v.items[i])
    (F : RAt w wr m n i j v g k nn N c kEnum) (I : NInv w B m (E + 1) v i wr) (K : Kid B m E w.heap.size nn v.items[i] wr) :
    Code.wp Tryz.prog nsoBody (Exit.then (WJ w B m n (E + 1) v i j) Q0) (lit n m w.heap.size j u) wr := by
  have hw : (kEnum, 11, 26) ∈ kws := by unfold kws; simp
  obtain ⟨-, j1, j2, j3, n6, k0, k1, k3, q0⟩ := F
  unfold kEnum at k3
  have HF := Lib.hid (K.c11 hx)
  have HI := Lib.hid I
  have HW := Lib.hid hw
  have HK := Lib.hid hkey
  have HB := Lib.hid hB
  have HM := Lib.hid hmB
  have HL := Lib.hid hi
  have HL2 := Lib.hid hi'
  clear I K hkey hx hw hB hmB q0
  dsimp only [lit]
  conv => arg 2; whnf
  go_wp2_with fail
  go_at_call 44
  refine HF.out.mono ?_
  rintro e w4 ⟨f4, rfl, hf4, hg4, hm4⟩
  obtain ⟨a4, rfl⟩ := hf4.ptr
  have HS := Lib.hid (HI.out.set HB.out HM.out HL.out HL2.out (kEnum, 11, 26) HW.out (by decide) HK.out hg4 hm4 hf4)
  obtain ⟨⟨old, b4⟩, b5⟩ := HI.out.cell HB.out HM.out hg4 26 (by omega)
  clear hf4 hg4 hm4
  go_wp2
  exact ⟨_, rfl, (by unfold FrameAt; kernel_rfl), HS.out⟩

end Go.Proofs.YthdnkcofcbinhaaGreatDoor
