/-
  The plain side: the decimal numeral of a number below 256, digit by digit; and the parser's walk at the text 'MessageType(..)'.
-/
import Derived.Test.Qxb6002676aDoorPar
namespace Go.Proofs.Qxb6002676aDoor
open Go.RowKit

def pre : List UInt8 := [77, 101, 115, 115, 97, 103, 101, 84, 121, 112, 101, 40]
def digs (u : Nat) : List UInt8 :=
  if u < 10 then [UInt8.ofNat (48 + u)]
  else if u < 100 then [UInt8.ofNat (48 + u / 10), UInt8.ofNat (48 + u % 10)]
  else [UInt8.ofNat (48 + u / 10 / 10), UInt8.ofNat (48 + u / 10 % 10), UInt8.ofNat (48 + u % 10)]

theorem dec_digs (u : Nat) (h : u < 1000) : Lib.decDigits u = digs u := by
  unfold digs
  rw [Lib.decDigits]
  by_cases h1 : u < 10
  · rw [dif_pos h1, if_pos h1]
  · rw [dif_neg h1, if_neg h1, Lib.decDigits]
    by_cases h2 : u < 100
    · rw [dif_pos (by omega), if_pos h2]; rfl
    · rw [dif_neg (by omega), if_neg h2, Lib.decDigits, dif_pos (by omega)]; rfl

def vals (l : List UInt8) : Int := l.foldl (fun n c => n * 10 + ((c.toNat : Int) - 48)) 0
def ok (u : Nat) : Bool :=
  decide (1 ≤ (digs u).length) && decide ((digs u).length ≤ 3) && (digs u).all (fun c => decide (48 ≤ c.toNat) && decide (c.toNat ≤ 57))
    && (vals (digs u) == (u : Int)) && (List.range 4).all (fun j => decide (0 ≤ vals ((digs u).take j)) && decide (vals ((digs u).take j) ≤ 999))
    && (decide ((digs u).length ≤ 1) || !((digs u).headD 0 == 48))
theorem all_ok : ∀ u : Fin 256, ok u.val = true := by decide +kernel

theorem vals_succ (l : List UInt8) (j : Nat) (h : j < l.length) : vals (l.take (j + 1)) = vals (l.take j) * 10 + ((l[j].toNat : Int) - 48) := by
  unfold vals
  rw [List.take_succ_eq_append_getElem h, List.foldl_append]
  rfl

def txt (l : List UInt8) : ByteArray := ⟨(pre ++ l ++ [41]).toArray⟩
theorem txt_size (l : List UInt8) : (txt l).size = 13 + l.length := by
  show (pre ++ l ++ [41]).toArray.size = _
  simp [pre]; omega
theorem txt_list (l : List UInt8) : (txt l).toList = pre ++ l ++ [41] := by
  rw [ByteArray.toList_eq]; rfl
theorem txt_pre (l : List UInt8) : ((txt l).extract 0 12).toList = pre := by
  rw [ByteArray.toList_eq]
  simp [txt, pre]
theorem txt_mid (l : List UInt8) : (txt l).extract 12 (12 + l.length) = ⟨l.toArray⟩ := by
  apply ByteArray.ext
  apply Array.ext'
  simp [txt, pre]
theorem txt_last (l : List UInt8) (h : 12 + l.length < (txt l).size) : (txt l)[12 + l.length] = 41 := by
  have e : (pre ++ l ++ [41])[12 + l.length]? = some 41 := by
    rw [List.getElem?_append_right (by simp [pre]; omega)]
    have e0 : 12 + l.length - (pre ++ l).length = 0 := by simp [pre]; omega
    rw [e0]; rfl
  obtain ⟨h2, e2⟩ := List.getElem?_eq_some_iff.1 e
  exact e2
theorem txt_ne (l m : List UInt8) (h : m.head? = some 77 ∧ m.tail.head? = some 115) : ((txt l).toList == m) = false := by
  rw [txt_list]
  rw [beq_eq_false_iff_ne]
  intro e
  rw [← e] at h
  simp [pre] at h
theorem mid_at (l : List UInt8) (j : Nat) (h : j < l.length) (h' : j < ((txt l).extract 12 (12 + l.length)).size) : ((txt l).extract 12 (12 + l.length))[j]'h' = l[j] := by
  simp only [txt_mid]
  rfl

theorem par_txt (u : Nat) (hu : u < 256) (w : World) :
    Calls Tryd.prog 7 #[.string (txt (digs u))] w fun e w' => e = .returned (.tuple #[.int .u8 (u : Int), .bool true]) ∧ w' = w := by
  have hok := all_ok ⟨u, hu⟩
  simp only [ok, Bool.and_eq_true, decide_eq_true_eq, List.all_eq_true, beq_iff_eq, Bool.or_eq_true, Bool.not_eq_true', List.mem_range] at hok
  obtain ⟨⟨⟨⟨⟨k1, k3⟩, hd⟩, hv⟩, hb⟩, hz⟩ := hok
  generalize digs u = l at *
  have hlast := txt_last l (by rw [txt_size]; omega)
  have hdig : ∀ (j : Nat) (h : j < l.length) (h' : j < ((txt l).extract 12 (12 + l.length)).size), 48 ≤ ((((txt l).extract 12 (12 + l.length))[j]'h').toNat : Int) ∧ ((((txt l).extract 12 (12 + l.length))[j]'h').toNat : Int) ≤ 57 := by
    intro j h h'
    rw [mid_at l j h h']
    have := hd l[j] (List.getElem_mem h)
    omega
  have hvs : ∀ (j : Nat) (h : j < l.length) (h' : j < ((txt l).extract 12 (12 + l.length)).size), vals (l.take (j + 1)) = vals (l.take j) * 10 + (((((txt l).extract 12 (12 + l.length))[j]'h').toNat : Int) - 48) := by
    intro j h h'
    rw [mid_at l j h h']
    exact vals_succ l j h
  have hbd : ∀ j, j ≤ l.length → 0 ≤ vals (l.take j) ∧ vals (l.take j) ≤ 999 := fun j h => hb j (by omega)
  have hfull : vals (l.take l.length) = u := by rw [List.take_length]; exact hv
  rw [← hfull]
  by_cases hk : 1 < l.length
  · refine par_dec2 (txt l) l.length hk k3 (txt_size l) ?_ ?_ ?_ ?_ ?_ ?_ ?_ ?_ ?_ ?_ ?_ ?_ ?_ ?_ ?_ (fun j h => hdig j h _) (fun j => vals (l.take j)) (show vals (l.take 0) = 0 from rfl) (fun j h => hvs j h _) hbd (by show vals (l.take l.length) ≤ 255; omega) w
    iterate 12 exact txt_ne l _ ⟨rfl, rfl⟩
    · rw [txt_pre]; rfl
    · simp only [hlast]; rfl
    · rw [mid_at l 0 (by omega)]
      rcases hz with hz | hz
      · omega
      · cases l with
        | nil => simp at hk
        | cons c cs =>
          simp only [List.headD_cons, beq_eq_false_iff_ne, ne_eq] at hz
          rw [beq_eq_false_iff_ne]
          intro e
          apply hz
          apply UInt8.toNat_inj.1
          have e' : (c.toNat : Int) = 48 := by simpa using e
          show c.toNat = 48
          omega
  · refine par_dec1 (txt l) l.length k1 hk (txt_size l) ?_ ?_ ?_ ?_ ?_ ?_ ?_ ?_ ?_ ?_ ?_ ?_ ?_ ?_ (fun j h => hdig j h _) (fun j => vals (l.take j)) (show vals (l.take 0) = 0 from rfl) (fun j h => hvs j h _) hbd (by show vals (l.take l.length) ≤ 255; omega) w
    iterate 12 exact txt_ne l _ ⟨rfl, rfl⟩
    · rw [txt_pre]; rfl
    · simp only [hlast]; rfl
end Go.Proofs.Qxb6002676aDoor
