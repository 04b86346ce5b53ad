/- sort.Slice over an object's places: the keys rise, so all stays where it is. -/
import Derived.Test.YtkafelcnpnlbfaaDoorRd6
import Derived.Test.YtkafelcnpnlbfaaDoorSh
import Derived.Deep.QuietTactic
import Derived.Lib.RowBridge
import Derived.Lib.SortBridge
import Derived.Sort.LotA
import Derived.Shelf.GgSortFunc.Tiny
namespace Go.Proofs.YtkafelcnpnlbfaaDoor
open Go.Shelf Go.RowKit Go.Lib Go.Sort

noncomputable def siT : TypeInfo := (Tryd.prog.info? 60).get (by kernel_rfl)
noncomputable def siE : TypeInfo := (Tryd.prog.info? 3).get (by kernel_rfl)
theorem siK (n : Nat) (h2 : 2 ≤ n) : Lib.swapperK n siE 2 = 5 := by
  have a : siE.hasPointers = false := by kernel_rfl
  have b : siE.bytes = 8 := by kernel_rfl
  have c : (n == 0) = false := by simp; omega
  have d : (n == 1) = false := by simp; omega
  simp [Lib.swapperK, a, b, c, d]

def ltF {n : Nat} (a b : Fin n) : Bool := decide (a.1 < b.1)
theorem swo_ltF {n : Nat} : SWO (ltF (n := n)) := ⟨fun x => by simp [ltF], fun x y z => by simp [ltF]; omega, fun x y z => by simp [ltF]; omega⟩
def encF {n : Nat} (a : Fin n) : Value := .int .i64 (a.1 : Int)
def idF (n : Nat) : Array (Fin n) := Array.ofFn fun i => i

theorem sorted_same {m : Nat} (d' : Array (Fin (m + 2))) (hp : PermIn 0 (idF (m + 2)).size (idF (m + 2)) d') (hs : SortedIn ltF 0 (idF (m + 2)).size d') : d' = idF (m + 2) := by
  have hsz : (idF (m + 2)).size = m + 2 := by simp [idF]
  have anti : ∀ x y : Fin (m + 2), ltF x y = false → ltF y x = false → x = y := fun x y h1 h2 => by simp [ltF] at h1 h2; exact Fin.ext (by omega)
  have h := sorted_unique_holds (lt := ltF) swo_ltF anti (idF (m + 2)) d' hp hs
  have h2 := sorted_unique_holds (lt := ltF) swo_ltF anti (idF (m + 2)) (idF (m + 2)) ⟨rfl, fun _ _ => rfl, List.Perm.refl _⟩ (fun i j _ hij hj => by
    have hj' : j < m + 2 := by omega
    rw [getElem!_pos (idF (m + 2)) j (by omega), getElem!_pos (idF (m + 2)) i (by omega)]
    simp [idF, ltF]
    omega)
  exact Array.toList_inj.1 (h.trans h2.symm)

theorem below_grow (w : World) (n : Nat) (os : Array Obj) : Go.RowKit.Below w.heap.size w (grow (Sort.ahead w n) os) := by
  refine ⟨rfl, rfl, rfl, by simp [grow, Sort.ahead], fun k hk => ?_⟩
  show (w.heap ++ os)[k]? = _
  rw [Array.getElem?_append_left hk]

set_option maxHeartbeats 2000000 in
theorem sort_places (m : Nat) (hm : m + 2 ≤ 60) (ks : Nat → ByteArray) (hrise : ∀ a b : Fin (m + 2), Op.bytesLess (ks a.1).toList (ks b.1).toList = ltF a b) (w : World) (k5 p8 kb kc pb pc : Nat)
    (hk0 : w.cell? ⟨k5, 0, none⟩ = some (.slice (some ⟨kb, 0, none⟩) (m + 2) kc)) (hkc : ∀ t, t < m + 2 → w.cell? ⟨kb, t, none⟩ = some (.string (ks t)))
    (hp0 : w.cell? ⟨p8, 0, none⟩ = some (.slice (some ⟨pb, 0, none⟩) (m + 2) pc)) (hpc : ∀ t, t < m + 2 → w.cell? ⟨pb, t, none⟩ = some (.int .i64 (t : Int)) ∧ w.frozen? ⟨pb, t, none⟩ = false) (n1 : k5 ≠ pb) (n2 : kb ≠ pb) (n3 : p8 ≠ pb) :
    Calls Tryd.prog 34 #[.iface 60 (.slice (some ⟨pb, 0, none⟩) (m + 2) pc), .func (.func 35) #[] #[.pointer (some ⟨k5, 0, none⟩), .pointer (some ⟨p8, 0, none⟩)]] w
      fun e w' => e = .returned (.tuple #[]) ∧ Go.RowKit.Below w.heap.size w w' := by
  have hsz : (idF (m + 2)).size = m + 2 := by simp [idF]
  have hH : Holds (encF (n := m + 2)) w pb 0 (idF (m + 2)) := by
    intro j hj
    rw [hsz] at hj
    rw [getElem!_pos (idF (m + 2)) j (by omega)]
    have h := hpc j hj
    simp only [Nat.zero_add]
    simpa [idF, encF] using h
  have hblk : pb < w.heap.size := World.block_lt_of_cell? w _ (hpc 0 (by omega)).1
  have hless : LessReads Tryd.prog 35 #[.pointer (some ⟨k5, 0, none⟩), .pointer (some ⟨p8, 0, none⟩)] (encF (n := m + 2)) ltF pb 0 (idF (m + 2)).size w := by
    intro q os dk hs i j hi hj
    rw [hsz] at hi hj hs
    have e : sortWorld (encF (n := m + 2)) w pb 0 q dk os = putRow (encF (n := m + 2)) (grow (Sort.ahead w q) os) pb 0 dk := by
      unfold sortWorld
      rw [putRow_grow _ (Sort.ahead w q) _ pb 0 _ hblk]
    have hHg : Holds (encF (n := m + 2)) (grow (Sort.ahead w q) os) pb 0 (idF (m + 2)) := holds_grow _ _ _ pb 0 _ hblk (holds_ahead _ _ _ _ _ _ hH)
    have far : ∀ a u, a.block ≠ pb → w.cell? a = some u → (sortWorld (encF (n := m + 2)) w pb 0 q dk os).cell? a = some u := by
      intro a u ha hc
      rw [e, cell?_putRow_other _ _ pb 0 dk _ (Or.inl ha), cell?_grow (Sort.ahead w q) _ _ (show a.block < (Sort.ahead w q).heap.size from World.block_lt_of_cell? w a hc)]
      exact hc
    have h := less_any k5 p8 (m + 2) kb kc pb pc ks (fun t => (dk[t]!).1) (sortWorld (encF (n := m + 2)) w pb 0 q dk os) (far _ _ n1 hk0) (fun t ht => far _ _ n2 (hkc t ht)) (far _ _ n3 hp0)
      (fun t ht => by
        have := cell?_putRow (encF (n := m + 2)) (grow (Sort.ahead w q) os) pb 0 (idF (m + 2)) dk hHg (by omega) t (by omega)
        rw [e]
        simpa [encF] using this) (fun t _ => (dk[t]!).2) i j hi hj
    refine h.mono ?_
    rintro e1 w1 ⟨rfl, q1, rfl⟩
    exact ⟨by rw [hrise], q1, rfl⟩
  have hS := Any.sort_Slice_sorted Tryd.laysGg6 60 3 siT siE (by kernel_rfl) (by kernel_rfl) (by kernel_rfl) (by kernel_rfl) 2 (fun _ => by kernel_rfl) (by kernel_rfl) (fun _ => by kernel_rfl) (encF (n := m + 2)) (fun _ => rfl) ltF swo_ltF 35 _
    (enters_of Tryd.func35 (by kernel_rfl) rfl) pb 0 pc (idF (m + 2)) (by omega) (by omega) 54 (by rw [siK _ (by omega)]; kernel_rfl) true
    (fun args W => run_callFunc_extern Tryd.func54 (by kernel_rfl) (by kernel_rfl) (by kernel_rfl) (e := Extern.ReflectliteSwapper.swap true) (by kernel_rfl) args W) _ hless hH hblk
  rw [hsz] at hS
  change Calls Tryd.prog 34 _ _ _ at hS
  refine hS.mono ?_
  rintro e w' ⟨rfl, d', q, os, hp, hso, rfl⟩
  rw [sorted_same d' (by rw [hsz]; exact hp) (by rw [hsz]; exact hso), putRow_self _ _ pb 0 _ (holds_ahead _ _ _ _ _ _ hH)]
  exact ⟨rfl, below_grow w q os⟩

theorem sort_none (p : Option Addr) (n c : Nat) (h1 : n ≤ 1) (lb : Array Value) (w : World) :
    Calls Tryd.prog 34 #[.iface 60 (.slice p n c), .func (.func 35) #[] lb] w fun e w' => e = .returned (.tuple #[]) ∧ Go.RowKit.Below w.heap.size w w' := by
  have hK : Lib.swapperK n siE 2 = n + 1 := by
    rcases Nat.eq_zero_or_pos n with h | h
    · subst h
      simp [Lib.swapperK]
    · obtain rfl : n = 1 := by omega
      simp [Lib.swapperK]
  have hS := Any.sort_Slice_tiny Tryd.laysGg6 60 3 siT siE (by kernel_rfl) (by kernel_rfl) (by kernel_rfl) (by kernel_rfl) 2 (fun _ => by kernel_rfl) p n c h1 (50 + n) (by
    rw [hK]
    rcases Nat.eq_zero_or_pos n with h | h
    · subst h
      kernel_rfl
    · obtain rfl : n = 1 := by omega
      kernel_rfl) (.func 35) #[] lb w
  change Calls Tryd.prog 34 _ _ _ at hS
  refine hS.mono ?_
  rintro e w' ⟨rfl, os, rfl⟩
  exact ⟨rfl, below_grow w 0 os⟩

/-- Whatever the number of keys. -/
theorem sort_all (n : Nat) (hm : n ≤ 60) (ks : Nat → ByteArray) (hrise : ∀ a b, a < n → b < n → Op.bytesLess (ks a).toList (ks b).toList = decide (a < b)) (w : World) (k5 p8 kb kc pb pc : Nat)
    (hk0 : w.cell? ⟨k5, 0, none⟩ = some (.slice (some ⟨kb, 0, none⟩) n kc)) (hkc : ∀ t, t < n → w.cell? ⟨kb, t, none⟩ = some (.string (ks t)))
    (hp0 : w.cell? ⟨p8, 0, none⟩ = some (.slice (some ⟨pb, 0, none⟩) n pc)) (hpc : ∀ t, t < n → w.cell? ⟨pb, t, none⟩ = some (.int .i64 (t : Int)) ∧ w.frozen? ⟨pb, t, none⟩ = false) (n1 : k5 ≠ pb) (n2 : kb ≠ pb) (n3 : p8 ≠ pb) :
    Calls Tryd.prog 34 #[.iface 60 (.slice (some ⟨pb, 0, none⟩) n pc), .func (.func 35) #[] #[.pointer (some ⟨k5, 0, none⟩), .pointer (some ⟨p8, 0, none⟩)]] w
      fun e w' => e = .returned (.tuple #[]) ∧ Go.RowKit.Below w.heap.size w w' := by
  rcases Nat.lt_or_ge n 2 with h | h
  · exact sort_none _ _ _ (by omega) _ _
  · obtain ⟨m, rfl⟩ : ∃ m, n = m + 2 := ⟨n - 2, by omega⟩
    exact sort_places m hm ks (fun a b => hrise a.1 b.1 a.2 b.2) w k5 p8 kb kc pb pc hk0 hkc hp0 hpc n1 n2 n3
end Go.Proofs.YtkafelcnpnlbfaaDoor
