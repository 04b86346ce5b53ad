/- NewSchemaFromObject: rounds at keywords. -/
import Derived.Test.YthdnkcofcbinhaaGreatDoorNs0J
set_option linter.unusedVariables false
set_option linter.unusedSimpArgs false
namespace Go.Proofs.YthdnkcofcbinhaaGreatDoor
open Go.RowKit

set_option maxRecDepth 1000000 in
set_option maxHeartbeats 8000000 in
theorem round_kSSchema (B m n E i j g k nn N c : Nat) (v : Dat) (w wr : World) (u : Nat → Value) (Q0 : Exit → Act → World → Prop) (hB : B ≤ w.heap.size) (hmB : m < B) (hi : i < v.keys.length) (hi' : i < v.items.length) (hkey : v.keys[i] = kSSchema) (hx : FitN IsShp 1 v.items[i])
    (F : RAt w wr m n i j v g k nn N c kSSchema) (I : NInv w B m (E + 1) v i wr) (K : Kid B m E w.heap.size nn v.items[i] wr) :
    Code.wp Tryz.prog nsoBody (Exit.then (WJ w B m n (E + 1) v i j) Q0) (lit n m w.heap.size j u) wr := by
  have hw : (kSSchema, 1, 1) ∈ kws := by unfold kws; simp
  obtain ⟨-, j1, j2, j3, n6, k0, k1, k3, q0⟩ := F
  unfold kSSchema at k3
  have HF := Lib.hid (K.c1 hx)
  have HI := Lib.hid I
  have HW := Lib.hid hw
  have HK := Lib.hid hkey
  have HB := Lib.hid hB
  have HM := Lib.hid hmB
  have HL := Lib.hid hi
  have HL2 := Lib.hid hi'
  clear I K hkey hx hw hB hmB q0
  dsimp only [lit]
  conv => arg 2; whnf
  go_wp2_with fail
  go_at_call 35
  refine HF.out.mono ?_
  rintro e w4 ⟨f4, rfl, hf4, hg4, hm4⟩
  obtain ⟨a4, rfl⟩ := hf4.ptr
  have HS := Lib.hid (HI.out.set HB.out HM.out HL.out HL2.out (kSSchema, 1, 1) HW.out (by decide) HK.out hg4 hm4 hf4)
  obtain ⟨⟨old, b4⟩, b5⟩ := HI.out.cell HB.out HM.out hg4 1 (by omega)
  clear hf4 hg4 hm4
  go_wp2
  exact ⟨_, rfl, (by unfold FrameAt; kernel_rfl), HS.out⟩

set_option maxRecDepth 1000000 in
set_option maxHeartbeats 8000000 in
theorem round_kId (B m n E i j g k nn N c : Nat) (v : Dat) (w wr : World) (u : Nat → Value) (Q0 : Exit → Act → World → Prop) (hB : B ≤ w.heap.size) (hmB : m < B) (hi : i < v.keys.length) (hi' : i < v.items.length) (hkey : v.keys[i] = kId) (hx : FitN IsShp 1 v.items[i])
    (F : RAt w wr m n i j v g k nn N c kId) (I : NInv w B m (E + 1) v i wr) (K : Kid B m E w.heap.size nn v.items[i] wr) :
    Code.wp Tryz.prog nsoBody (Exit.then (WJ w B m n (E + 1) v i j) Q0) (lit n m w.heap.size j u) wr := by
  have hw : (kId, 1, 2) ∈ kws := by unfold kws; simp
  obtain ⟨-, j1, j2, j3, n6, k0, k1, k3, q0⟩ := F
  unfold kId at k3
  have HF := Lib.hid (K.c1 hx)
  have HI := Lib.hid I
  have HW := Lib.hid hw
  have HK := Lib.hid hkey
  have HB := Lib.hid hB
  have HM := Lib.hid hmB
  have HL := Lib.hid hi
  have HL2 := Lib.hid hi'
  clear I K hkey hx hw hB hmB q0
  dsimp only [lit]
  conv => arg 2; whnf
  go_wp2_with fail
  go_at_call 35
  refine HF.out.mono ?_
  rintro e w4 ⟨f4, rfl, hf4, hg4, hm4⟩
  obtain ⟨a4, rfl⟩ := hf4.ptr
  have HS := Lib.hid (HI.out.set HB.out HM.out HL.out HL2.out (kId, 1, 2) HW.out (by decide) HK.out hg4 hm4 hf4)
  obtain ⟨⟨old, b4⟩, b5⟩ := HI.out.cell HB.out HM.out hg4 2 (by omega)
  clear hf4 hg4 hm4
  go_wp2
  exact ⟨_, rfl, (by unfold FrameAt; kernel_rfl), HS.out⟩

set_option maxRecDepth 1000000 in
set_option maxHeartbeats 8000000 in
theorem round_kSRef (B m n E i j g k nn N c : Nat) (v : Dat) (w wr : World) (u : Nat → Value) (Q0 : Exit → Act → World → Prop) (hB : B ≤ w.heap.size) (hmB : m < B) (hi : i < v.keys.length) (hi' : i < v.items.length) (hkey : v.keys[i] = kSRef) (hx : FitN IsShp 1 v.items[i])
    (F : RAt w wr m n i j v g k nn N c kSRef) (I : NInv w B m (E + 1) v i wr) (K : Kid B m E w.heap.size nn v.items[i] wr) :
    Code.wp Tryz.prog nsoBody (Exit.then (WJ w B m n (E + 1) v i j) Q0) (lit n m w.heap.size j u) wr := by
  have hw : (kSRef, 1, 3) ∈ kws := by unfold kws; simp
  obtain ⟨-, j1, j2, j3, n6, k0, k1, k3, q0⟩ := F
  unfold kSRef at k3
  have HF := Lib.hid (K.c1 hx)
  have HI := Lib.hid I
  have HW := Lib.hid hw
  have HK := Lib.hid hkey
  have HB := Lib.hid hB
  have HM := Lib.hid hmB
  have HL := Lib.hid hi
  have HL2 := Lib.hid hi'
  clear I K hkey hx hw hB hmB q0
  dsimp only [lit]
  conv => arg 2; whnf
  go_wp2_with fail
  go_at_call 35
  refine HF.out.mono ?_
  rintro e w4 ⟨f4, rfl, hf4, hg4, hm4⟩
  obtain ⟨a4, rfl⟩ := hf4.ptr
  have HS := Lib.hid (HI.out.set HB.out HM.out HL.out HL2.out (kSRef, 1, 3) HW.out (by decide) HK.out hg4 hm4 hf4)
  obtain ⟨⟨old, b4⟩, b5⟩ := HI.out.cell HB.out HM.out hg4 3 (by omega)
  clear hf4 hg4 hm4
  go_wp2
  exact ⟨_, rfl, (by unfold FrameAt; kernel_rfl), HS.out⟩

set_option maxRecDepth 1000000 in
set_option maxHeartbeats 8000000 in
theorem round_kMultipleOf (B m n E i j g k nn N c : Nat) (v : Dat) (w wr : World) (u : Nat → Value) (Q0 : Exit → Act → World → Prop) (hB : B ≤ w.heap.size) (hmB : m < B) (hi : i < v.keys.length) (hi' : i < v.items.length) (hkey : v.keys[i] = kMultipleOf) (hx : FitN IsShp 3 v.items[i])
    (F : RAt w wr m n i j v g k nn N c kMultipleOf) (I : NInv w B m (E + 1) v i wr) (K : Kid B m E w.heap.size nn v.items[i] wr) :
    Code.wp Tryz.prog nsoBody (Exit.then (WJ w B m n (E + 1) v i j) Q0) (lit n m w.heap.size j u) wr := by
  have hw : (kMultipleOf, 3, 6) ∈ kws := by unfold kws; simp
  obtain ⟨-, j1, j2, j3, n6, k0, k1, k3, q0⟩ := F
  unfold kMultipleOf at k3
  have HF := Lib.hid (K.c3 hx)
  have HI := Lib.hid I
  have HW := Lib.hid hw
  have HK := Lib.hid hkey
  have HB := Lib.hid hB
  have HM := Lib.hid hmB
  have HL := Lib.hid hi
  have HL2 := Lib.hid hi'
  clear I K hkey hx hw hB hmB q0
  dsimp only [lit]
  conv => arg 2; whnf
  go_wp2_with fail
  go_at_call 36
  refine HF.out.mono ?_
  rintro e w4 ⟨f4, rfl, hf4, hg4, hm4⟩
  obtain ⟨a4, rfl⟩ := hf4.ptr
  have HS := Lib.hid (HI.out.set HB.out HM.out HL.out HL2.out (kMultipleOf, 3, 6) HW.out (by decide) HK.out hg4 hm4 hf4)
  obtain ⟨⟨old, b4⟩, b5⟩ := HI.out.cell HB.out HM.out hg4 6 (by omega)
  clear hf4 hg4 hm4
  go_wp2
  exact ⟨_, rfl, (by unfold FrameAt; kernel_rfl), HS.out⟩

set_option maxRecDepth 1000000 in
set_option maxHeartbeats 8000000 in
theorem round_kMaximum (B m n E i j g k nn N c : Nat) (v : Dat) (w wr : World) (u : Nat → Value) (Q0 : Exit → Act → World → Prop) (hB : B ≤ w.heap.size) (hmB : m < B) (hi : i < v.keys.length) (hi' : i < v.items.length) (hkey : v.keys[i] = kMaximum) (hx : FitN IsShp 3 v.items[i])
    (F : RAt w wr m n i j v g k nn N c kMaximum) (I : NInv w B m (E + 1) v i wr) (K : Kid B m E w.heap.size nn v.items[i] wr) :
    Code.wp Tryz.prog nsoBody (Exit.then (WJ w B m n (E + 1) v i j) Q0) (lit n m w.heap.size j u) wr := by
  have hw : (kMaximum, 3, 7) ∈ kws := by unfold kws; simp
  obtain ⟨-, j1, j2, j3, n6, k0, k1, k3, q0⟩ := F
  unfold kMaximum at k3
  have HF := Lib.hid (K.c3 hx)
  have HI := Lib.hid I
  have HW := Lib.hid hw
  have HK := Lib.hid hkey
  have HB := Lib.hid hB
  have HM := Lib.hid hmB
  have HL := Lib.hid hi
  have HL2 := Lib.hid hi'
  clear I K hkey hx hw hB hmB q0
  dsimp only [lit]
  conv => arg 2; whnf
  go_wp2_with fail
  go_at_call 36
  refine HF.out.mono ?_
  rintro e w4 ⟨f4, rfl, hf4, hg4, hm4⟩
  obtain ⟨a4, rfl⟩ := hf4.ptr
  have HS := Lib.hid (HI.out.set HB.out HM.out HL.out HL2.out (kMaximum, 3, 7) HW.out (by decide) HK.out hg4 hm4 hf4)
  obtain ⟨⟨old, b4⟩, b5⟩ := HI.out.cell HB.out HM.out hg4 7 (by omega)
  clear hf4 hg4 hm4
  go_wp2
  exact ⟨_, rfl, (by unfold FrameAt; kernel_rfl), HS.out⟩

set_option maxRecDepth 1000000 in
set_option maxHeartbeats 8000000 in
theorem round_kExclusiveMaximum (B m n E i j g k nn N c : Nat) (v : Dat) (w wr : World) (u : Nat → Value) (Q0 : Exit → Act → World → Prop) (hB : B ≤ w.heap.size) (hmB : m < B) (hi : i < v.keys.length) (hi' : i < v.items.length) (hkey : v.keys[i] = kExclusiveMaximum) (hx : FitN IsShp 2 v.items[i])
    (F : RAt w wr m n i j v g k nn N c kExclusiveMaximum) (I : NInv w B m (E + 1) v i wr) (K : Kid B m E w.heap.size nn v.items[i] wr) :
    Code.wp Tryz.prog nsoBody (Exit.then (WJ w B m n (E + 1) v i j) Q0) (lit n m w.heap.size j u) wr := by
  have hw : (kExclusiveMaximum, 2, 8) ∈ kws := by unfold kws; simp
  obtain ⟨-, j1, j2, j3, n6, k0, k1, k3, q0⟩ := F
  unfold kExclusiveMaximum at k3
  have HF := Lib.hid (K.c2 hx)
  have HI := Lib.hid I
  have HW := Lib.hid hw
  have HK := Lib.hid hkey
  have HB := Lib.hid hB
  have HM := Lib.hid hmB
  have HL := Lib.hid hi
  have HL2 := Lib.hid hi'
  clear I K hkey hx hw hB hmB q0
  dsimp only [lit]
  conv => arg 2; whnf
  go_wp2_with fail
  go_at_call 37
  refine HF.out.mono ?_
  rintro e w4 ⟨f4, rfl, hf4, hg4, hm4⟩
  obtain ⟨a4, rfl⟩ := hf4.ptr
  have HS := Lib.hid (HI.out.set HB.out HM.out HL.out HL2.out (kExclusiveMaximum, 2, 8) HW.out (by decide) HK.out hg4 hm4 hf4)
  obtain ⟨⟨old, b4⟩, b5⟩ := HI.out.cell HB.out HM.out hg4 8 (by omega)
  clear hf4 hg4 hm4
  go_wp2
  exact ⟨_, rfl, (by unfold FrameAt; kernel_rfl), HS.out⟩

set_option maxRecDepth 1000000 in
set_option maxHeartbeats 8000000 in
theorem round_kMinimum (B m n E i j g k nn N c : Nat) (v : Dat) (w wr : World) (u : Nat → Value) (Q0 : Exit → Act → World → Prop) (hB : B ≤ w.heap.size) (hmB : m < B) (hi : i < v.keys.length) (hi' : i < v.items.length) (hkey : v.keys[i] = kMinimum) (hx : FitN IsShp 3 v.items[i])
    (F : RAt w wr m n i j v g k nn N c kMinimum) (I : NInv w B m (E + 1) v i wr) (K : Kid B m E w.heap.size nn v.items[i] wr) :
    Code.wp Tryz.prog nsoBody (Exit.then (WJ w B m n (E + 1) v i j) Q0) (lit n m w.heap.size j u) wr := by
  have hw : (kMinimum, 3, 9) ∈ kws := by unfold kws; simp
  obtain ⟨-, j1, j2, j3, n6, k0, k1, k3, q0⟩ := F
  unfold kMinimum at k3
  have HF := Lib.hid (K.c3 hx)
  have HI := Lib.hid I
  have HW := Lib.hid hw
  have HK := Lib.hid hkey
  have HB := Lib.hid hB
  have HM := Lib.hid hmB
  have HL := Lib.hid hi
  have HL2 := Lib.hid hi'
  clear I K hkey hx hw hB hmB q0
  dsimp only [lit]
  conv => arg 2; whnf
  go_wp2_with fail
  go_at_call 36
  refine HF.out.mono ?_
  rintro e w4 ⟨f4, rfl, hf4, hg4, hm4⟩
  obtain ⟨a4, rfl⟩ := hf4.ptr
  have HS := Lib.hid (HI.out.set HB.out HM.out HL.out HL2.out (kMinimum, 3, 9) HW.out (by decide) HK.out hg4 hm4 hf4)
  obtain ⟨⟨old, b4⟩, b5⟩ := HI.out.cell HB.out HM.out hg4 9 (by omega)
  clear hf4 hg4 hm4
  go_wp2
  exact ⟨_, rfl, (by unfold FrameAt; kernel_rfl), HS.out⟩

set_option maxRecDepth 1000000 in
set_option maxHeartbeats 8000000 in
theorem round_kExclusiveMinimum (B m n E i j g k nn N c : Nat) (v : Dat) (w wr : World) (u : Nat → Value) (Q0 : Exit → Act → World → Prop) (hB : B ≤ w.heap.size) (hmB : m < B) (hi : i < v.keys.length) (hi' : i < v.items.length) (hkey : v.keys[i] = kExclusiveMinimum) (hx : FitN IsShp 2 v.items[i])
    (F : RAt w wr m n i j v g k nn N c kExclusiveMinimum) (I : NInv w B m (E + 1) v i wr) (K : Kid B m E w.heap.size nn v.items[i] wr) :
    Code.wp Tryz.prog nsoBody (Exit.then (WJ w B m n (E + 1) v i j) Q0) (lit n m w.heap.size j u) wr := by
  have hw : (kExclusiveMinimum, 2, 10) ∈ kws := by unfold kws; simp
  obtain ⟨-, j1, j2, j3, n6, k0, k1, k3, q0⟩ := F
  unfold kExclusiveMinimum at k3
  have HF := Lib.hid (K.c2 hx)
  have HI := Lib.hid I
  have HW := Lib.hid hw
  have HK := Lib.hid hkey
  have HB := Lib.hid hB
  have HM := Lib.hid hmB
  have HL := Lib.hid hi
  have HL2 := Lib.hid hi'
  clear I K hkey hx hw hB hmB q0
  dsimp only [lit]
  conv => arg 2; whnf
  go_wp2_with fail
  go_at_call 37
  refine HF.out.mono ?_
  rintro e w4 ⟨f4, rfl, hf4, hg4, hm4⟩
  obtain ⟨a4, rfl⟩ := hf4.ptr
  have HS := Lib.hid (HI.out.set HB.out HM.out HL.out HL2.out (kExclusiveMinimum, 2, 10) HW.out (by decide) HK.out hg4 hm4 hf4)
  obtain ⟨⟨old, b4⟩, b5⟩ := HI.out.cell HB.out HM.out hg4 10 (by omega)
  clear hf4 hg4 hm4
  go_wp2
  exact ⟨_, rfl, (by unfold FrameAt; kernel_rfl), HS.out⟩

set_option maxRecDepth 1000000 in
set_option maxHeartbeats 8000000 in
theorem round_kMaxLength (B m n E i j g k nn N c : Nat) (v : Dat) (w wr : World) (u : Nat → Value) (Q0 : Exit → Act → World → Prop) (hB : B ≤ w.heap.size) (hmB : m < B) (hi : i < v.keys.length) (hi' : i < v.items.length) (hkey : v.keys[i] = kMaxLength) (hx : FitN IsShp 4 v.items[i])
    (F : RAt w wr m n i j v g k nn N c kMaxLength) (I : NInv w B m (E + 1) v i wr) (K : Kid B m E w.heap.size nn v.items[i] wr) :
    Code.wp Tryz.prog nsoBody (Exit.then (WJ w B m n (E + 1) v i j) Q0) (lit n m w.heap.size j u) wr := by
  have hw : (kMaxLength, 4, 11) ∈ kws := by unfold kws; simp
  obtain ⟨-, j1, j2, j3, n6, k0, k1, k3, q0⟩ := F
  unfold kMaxLength at k3
  have HF := Lib.hid (K.c4 hx)
  have HI := Lib.hid I
  have HW := Lib.hid hw
  have HK := Lib.hid hkey
  have HB := Lib.hid hB
  have HM := Lib.hid hmB
  have HL := Lib.hid hi
  have HL2 := Lib.hid hi'
  clear I K hkey hx hw hB hmB q0
  dsimp only [lit]
  conv => arg 2; whnf
  go_wp2_with fail
  go_at_call 38
  refine HF.out.mono ?_
  rintro e w4 ⟨f4, rfl, hf4, hg4, hm4⟩
  obtain ⟨a4, rfl⟩ := hf4.ptr
  have HS := Lib.hid (HI.out.set HB.out HM.out HL.out HL2.out (kMaxLength, 4, 11) HW.out (by decide) HK.out hg4 hm4 hf4)
  obtain ⟨⟨old, b4⟩, b5⟩ := HI.out.cell HB.out HM.out hg4 11 (by omega)
  clear hf4 hg4 hm4
  go_wp2
  exact ⟨_, rfl, (by unfold FrameAt; kernel_rfl), HS.out⟩

set_option maxRecDepth 1000000 in
set_option maxHeartbeats 8000000 in
theorem round_kMinLength (B m n E i j g k nn N c : Nat) (v : Dat) (w wr : World) (u : Nat → Value) (Q0 : Exit → Act → World → Prop) (hB : B ≤ w.heap.size) (hmB : m < B) (hi : i < v.keys.length) (hi' : i < v.items.length) (hkey : v.keys[i] = kMinLength) (hx : FitN IsShp 4 v.items[i])
    (F : RAt w wr m n i j v g k nn N c kMinLength) (I : NInv w B m (E + 1) v i wr) (K : Kid B m E w.heap.size nn v.items[i] wr) :
    Code.wp Tryz.prog nsoBody (Exit.then (WJ w B m n (E + 1) v i j) Q0) (lit n m w.heap.size j u) wr := by
  have hw : (kMinLength, 4, 12) ∈ kws := by unfold kws; simp
  obtain ⟨-, j1, j2, j3, n6, k0, k1, k3, q0⟩ := F
  unfold kMinLength at k3
  have HF := Lib.hid (K.c4 hx)
  have HI := Lib.hid I
  have HW := Lib.hid hw
  have HK := Lib.hid hkey
  have HB := Lib.hid hB
  have HM := Lib.hid hmB
  have HL := Lib.hid hi
  have HL2 := Lib.hid hi'
  clear I K hkey hx hw hB hmB q0
  dsimp only [lit]
  conv => arg 2; whnf
  go_wp2_with fail
  go_at_call 38
  refine HF.out.mono ?_
  rintro e w4 ⟨f4, rfl, hf4, hg4, hm4⟩
  obtain ⟨a4, rfl⟩ := hf4.ptr
  have HS := Lib.hid (HI.out.set HB.out HM.out HL.out HL2.out (kMinLength, 4, 12) HW.out (by decide) HK.out hg4 hm4 hf4)
  obtain ⟨⟨old, b4⟩, b5⟩ := HI.out.cell HB.out HM.out hg4 12 (by omega)
  clear hf4 hg4 hm4
  go_wp2
  exact ⟨_, rfl, (by unfold FrameAt; kernel_rfl), HS.out⟩

set_option maxRecDepth 1000000 in
set_option maxHeartbeats 8000000 in
theorem round_kPattern (B m n E i j g k nn N c : Nat) (v : Dat) (w wr : World) (u : Nat → Value) (Q0 : Exit → Act → World → Prop) (hB : B ≤ w.heap.size) (hmB : m < B) (hi : i < v.keys.length) (hi' : i < v.items.length) (hkey : v.keys[i] = kPattern) (hx : FitN IsShp 1 v.items[i])
    (F : RAt w wr m n i j v g k nn N c kPattern) (I : NInv w B m (E + 1) v i wr) (K : Kid B m E w.heap.size nn v.items[i] wr) :
    Code.wp Tryz.prog nsoBody (Exit.then (WJ w B m n (E + 1) v i j) Q0) (lit n m w.heap.size j u) wr := by
  have hw : (kPattern, 1, 13) ∈ kws := by unfold kws; simp
  obtain ⟨-, j1, j2, j3, n6, k0, k1, k3, q0⟩ := F
  unfold kPattern at k3
  have HF := Lib.hid (K.c1 hx)
  have HI := Lib.hid I
  have HW := Lib.hid hw
  have HK := Lib.hid hkey
  have HB := Lib.hid hB
  have HM := Lib.hid hmB
  have HL := Lib.hid hi
  have HL2 := Lib.hid hi'
  clear I K hkey hx hw hB hmB q0
  dsimp only [lit]
  conv => arg 2; whnf
  go_wp2_with fail
  go_at_call 35
  refine HF.out.mono ?_
  rintro e w4 ⟨f4, rfl, hf4, hg4, hm4⟩
  obtain ⟨a4, rfl⟩ := hf4.ptr
  have HS := Lib.hid (HI.out.set HB.out HM.out HL.out HL2.out (kPattern, 1, 13) HW.out (by decide) HK.out hg4 hm4 hf4)
  obtain ⟨⟨old, b4⟩, b5⟩ := HI.out.cell HB.out HM.out hg4 13 (by omega)
  clear hf4 hg4 hm4
  go_wp2
  exact ⟨_, rfl, (by unfold FrameAt; kernel_rfl), HS.out⟩

set_option maxRecDepth 1000000 in
set_option maxHeartbeats 8000000 in
theorem round_kAdditionalItems (B m n E i j g k nn N c : Nat) (v : Dat) (w wr : World) (u : Nat → Value) (Q0 : Exit → Act → World → Prop) (hB : B ≤ w.heap.size) (hmB : m < B) (hi : i < v.keys.length) (hi' : i < v.items.length) (hkey : v.keys[i] = kAdditionalItems) (hx : FitN IsShp 6 v.items[i])
    (F : RAt w wr m n i j v g k nn N c kAdditionalItems) (I : NInv w B m (E + 1) v i wr) (K : Kid B m E w.heap.size nn v.items[i] wr) :
    Code.wp Tryz.prog nsoBody (Exit.then (WJ w B m n (E + 1) v i j) Q0) (lit n m w.heap.size j u) wr := by
  have hw : (kAdditionalItems, 6, 14) ∈ kws := by unfold kws; simp
  obtain ⟨-, j1, j2, j3, n6, k0, k1, k3, q0⟩ := F
  unfold kAdditionalItems at k3
  have HF := Lib.hid (K.c6 hx)
  have HI := Lib.hid I
  have HW := Lib.hid hw
  have HK := Lib.hid hkey
  have HB := Lib.hid hB
  have HM := Lib.hid hmB
  have HL := Lib.hid hi
  have HL2 := Lib.hid hi'
  clear I K hkey hx hw hB hmB q0
  dsimp only [lit]
  conv => arg 2; whnf
  go_wp2_with fail
  go_at_call 39
  refine HF.out.mono ?_
  rintro e w4 ⟨f4, rfl, hf4, hg4, hm4⟩
  obtain ⟨a4, rfl⟩ := hf4.ptr
  have HS := Lib.hid (HI.out.set HB.out HM.out HL.out HL2.out (kAdditionalItems, 6, 14) HW.out (by decide) HK.out hg4 hm4 hf4)
  obtain ⟨⟨old, b4⟩, b5⟩ := HI.out.cell HB.out HM.out hg4 14 (by omega)
  clear hf4 hg4 hm4
  go_wp2
  exact ⟨_, rfl, (by unfold FrameAt; kernel_rfl), HS.out⟩

end Go.Proofs.YthdnkcofcbinhaaGreatDoor
