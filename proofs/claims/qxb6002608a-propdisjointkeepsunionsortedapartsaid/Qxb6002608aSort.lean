/-
  The sort of a row of ranges, by the library's contract.
-/
import Derived.Test.Qxb6002608aCmp
import Derived.Sort.OwnSorted
import Derived.Shelf.SlSortCmp.NoneTotal
namespace Go.Proofs.Qxb6002608a
open Go.RowKit Go.Shelf Go.Lib Go.Sort

theorem flat_of_array (l : List KR) (d : Array T4) (hd : d.toList.map T4.kr = l) : (flatK enc4 4 d).toList = flat l := by
  have hs : d.size = l.length := by rw [← hd]; simp
  refine flat_ext (by simp [flatK, hs]) fun i j hi hj => ?_
  have hlt : i * 4 + j < d.size * 4 := by omega
  have hdv : (i * 4 + j) / 4 = i := by omega
  have hmd : (i * 4 + j) % 4 = j := by omega
  have hi' : i < d.size := by omega
  rw [Array.getElem?_toList, getElem?_pos (flatK enc4 4 d) (i * 4 + j) (by rw [size_flatK]; exact hlt)]
  rw [← getElem!_pos (flatK enc4 4 d) (i * 4 + j) (by rw [size_flatK]; exact hlt), get_flatK _ _ _ _ hlt, hdv, hmd]
  have e1 : l[i] = d[i].kr := by
    have : l[i]? = some d[i].kr := by rw [← hd]; simp [hi']
    rw [List.getElem?_eq_getElem hi] at this
    exact Option.some.inj this
  rw [e1, getElem!_pos d i hi']
  have h4 : j = 0 ∨ j = 1 ∨ j = 2 ∨ j = 3 := by omega
  rcases h4 with rfl | rfl | rfl | rfl <;> rfl
theorem t4_kr (x : KR) : x.t4.kr = x := rfl
theorem back (l : List KR) : ((l.map KR.t4).toArray.toList.map T4.kr) = l := by
  simp only [List.map_map]
  exact (List.map_congr_left fun x _ => t4_kr x).trans (List.map_id l)

theorem take_put (cur F : Array Value) (h : F.size ≤ cur.size) : (putCells id 0 F cur).toList.take F.size = F.toList := by
  apply List.ext_getElem?
  intro j
  by_cases hj : j < F.size
  · rw [List.getElem?_take_of_lt hj, Array.getElem?_toList]
    simp [putCells, hj, show j < cur.size by omega]
  · rw [List.getElem?_take_eq_none (by omega), List.getElem?_eq_none (by simp; omega)]
theorem heap_put {w : World} {g n : Nat} {os : Array Obj} {cur : Array Value} {e : TypeId} {fr : Nat × Nat} (F : Array Value) (hb : w.heap[g]? = some (.cells cur e fr)) :
    (grow (putRow id (Sort.ahead w n) g 0 F) os).heap[g]? = some (.cells (putCells id 0 F cur) e fr) := by
  have hg : g < w.heap.size := (Array.getElem?_eq_some_iff.1 hb).1
  rw [heap_grow_old _ _ (by simpa using hg)]
  simp [putRow, mapBlock, Sort.ahead, Array.getElem?_modify, hb, onCells]
theorem grownBy_put {w : World} {g n : Nat} {os : Array Obj} (F : Array Value) : w.grownBy (grow (putRow id (Sort.ahead w n) g 0 F) os) (some g) := by
  refine ⟨rfl, rfl, rfl, by simp, fun k hk hne => ?_⟩
  rw [heap_grow_old _ _ (by simpa using hk)]
  have : g ≠ k := fun e => hne (by rw [e])
  simp [putRow, mapBlock, Sort.ahead, Array.getElem?_modify, this]

theorem Row4.parts {w : World} {T g cap : Nat} {l : List KR} (h : Row4 w T g cap l) : ∃ cur, w.heap[g]? = some (.cells cur T (0, 0)) ∧ l.length ≤ cap ∧ cap ≤ maxLen ∧ cur.size = cap * 4 ∧ cur.toList.take (l.length * 4) = flat l := by
  obtain ⟨_, ⟨hx, _⟩ | ⟨g', cap', cur, hx, _, hh, h1, h2, h3, h4⟩⟩ := h
  · simp at hx
  · simp at hx
    obtain ⟨rfl, rfl⟩ := hx
    exact ⟨cur, hh, h1, h2, h3, h4⟩
theorem Row4.of_parts {w : World} {T g cap : Nat} {l : List KR} (cur : Array Value) (hh : w.heap[g]? = some (.cells cur T (0, 0))) (h1 : l.length ≤ cap) (h2 : cap ≤ maxLen) (h3 : cur.size = cap * 4) (h4 : cur.toList.take (l.length * 4) = flat l) : Row4 w T g cap l :=
  ⟨by rw [flat_length], Or.inr ⟨g, cap, cur, rfl, Nat.zero_le _, hh, h1, h2, h3, h4⟩⟩

def SortPost (g cap : Nat) (l : List KR) (w : World) (e' : Ending) (w' : World) : Prop :=
  e' = .returned (.tuple #[]) ∧ Below g w w' ∧ ∃ D : List KR, D.Perm l ∧ Sorted D ∧ Row4 w' 90 g cap D

theorem sort_any (g cap : Nat) (l : List KR) (w : World) (hrow : Row4 w 90 g cap l) (hn : l.length ≤ 4096) :
    Calls Try.prog 51 #[.slice (some ⟨g, 0, none⟩) l.length cap, .func (.func 52) #[] #[]] w fun e' w' => SortPost g cap l w e' w' := by
  have eg : ∀ args w, (callFunc 52 args).run Try.prog w = .ok (.enter 52 args) w := enters_of Try.func52 (by kernel_rfl) rfl
  have hd : ((l.map KR.t4).toArray.toList.map T4.kr) = l := back l
  have hsz : (l.map KR.t4).toArray.size = l.length := by simp
  have hfl := flat_of_array l _ hd
  have hH : HoldsK enc4 4 w g 0 (l.map KR.t4).toArray := by
    intro j hj
    have hj' : j < l.length * 4 := by rw [size_flatK, hsz] at hj; exact hj
    refine ⟨?_, by rw [Nat.zero_add]; exact hrow.frozen j⟩
    rw [Nat.zero_add, hrow.cellAt j hj', ← hfl, Array.getElem?_toList, getElem!_pos _ j hj]
    exact getElem?_pos _ j hj
  have hcon := AnyQ.slices_SortFunc Try.sortL 4 Try.isAgg90 Try.sizeOf90 enc4 (fun _ => rfl) (fun x v hv => by simp [enc4] at hv; rcases hv with rfl | rfl | rfl | rfl <;> rfl) cf4 swo4 52 #[] g 0 cap (l.map KR.t4).toArray w eg (cmpLays52 g 0 _ w) hH hrow.lt (by rw [hsz]; omega)
  change Calls Try.prog 51 _ _ _ at hcon
  rw [hsz] at hcon
  refine hcon.mono ?_
  rintro e' w' ⟨rfl, d', n, os, hp, hs, rfl⟩
  obtain ⟨hp1, _, hp2⟩ := hp
  have hsz' : d'.size = l.length := hp1.trans hsz
  have hperm : d'.toList.Perm (l.map KR.t4) := by
    have e1 : (d'.extract 0 l.length).toList = d'.toList := by rw [← hsz']; simp
    have e2 : ((l.map KR.t4).toArray.extract 0 l.length).toList = l.map KR.t4 := by rw [← hsz, Array.extract_size]
    rw [e1, e2] at hp2
    exact hp2
  have hfl' := flat_of_array (d'.toList.map T4.kr) d' rfl
  have hlen : (d'.toList.map T4.kr).length = l.length := by simp [hsz']
  obtain ⟨cur, hh, h1, h2, h3, h4⟩ := hrow.parts
  refine ⟨rfl, (Below.refl g w).grown (grownBy_put _) (Nat.le_of_lt hrow.lt) (fun k hk => by cases hk; exact Nat.le_refl _), d'.toList.map T4.kr, ?_, ?_, ?_⟩
  · have := hperm.map T4.kr
    rw [← hd]
    simpa using this
  · intro i j hi hj hij
    have hi' : i < d'.size := by rw [hlen] at hi; omega
    have hj' : j < d'.size := by rw [hlen] at hj; omega
    have := hs i j (Nat.zero_le _) hij (by omega)
    rw [lt4, getElem!_pos d' i hi', getElem!_pos d' j hj'] at this
    simpa [T4.kr] using this
  · refine Row4.of_parts _ (heap_put _ hh) (by omega) h2 (by simp [putCells, h3]) ?_
    rw [← hfl']
    have : (d'.toList.map T4.kr).length * 4 = (flatK enc4 4 d').size := by rw [size_flatK, hlen, hsz']
    rw [this]
    exact take_put _ _ (by rw [size_flatK, h3, hsz']; omega)

theorem sort_none (g : Option Addr) (cap : Nat) (w : World) :
    Calls Try.prog 51 #[.slice g 0 cap, .func (.func 52) #[] #[]] w fun e' w' => e' = .returned (.tuple #[]) ∧ w' = w :=
  AnyF.slices_SortFunc_none Try.sortL g cap (.func (.func 52) #[] #[]) w
end Go.Proofs.Qxb6002608a
