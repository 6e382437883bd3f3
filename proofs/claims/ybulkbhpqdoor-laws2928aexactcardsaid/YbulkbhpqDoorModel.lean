/- The plain part of backwardSearch.after and of the law's own model: first reads, the order of reading, the row of standings. -/
import Derived.Test.YbulkbhpqDoorPlain
namespace Go.Proofs.YbulkbhpqDoor.Plain
set_option linter.unusedVariables false

/-- the state of the law's model: the first read of each item (-1: none yet), the items that are read and not written, in the order of their first reads -/
structure St where
  fr : Nat → Int
  ro : List Nat

def st0 : St := ⟨fun _ => -1, []⟩

def stp (tx : List Nat) (s : St) (x : Nat) (a : Int) : St :=
  if s.fr x < 0 then ⟨fun y => if y = x then a else s.fr y, if x ∈ tx then s.ro else s.ro ++ [x]⟩ else s

structure Inv (tx : List Nat) (s : St) : Prop where
  nd : tx.Nodup
  ndr : s.ro.Nodup
  dis : ∀ x, x ∈ s.ro → x ∉ tx
  rd : ∀ x, x ∉ tx → (0 ≤ s.fr x ↔ x ∈ s.ro)
  low : ∀ x, s.fr x < 0 → s.fr x = -1
  high : ∀ x, s.fr x ≤ 255

abbrev Ent := Nat × Int × Bool

def entW (s : St) (x : Nat) : Ent := (x, s.fr x, false)
def entR (sa : Nat → Int) (sf : Nat → Bool) (s : St) (x : Nat) : Ent := (x, if 0 ≤ sa x ∧ sa x < s.fr x then sa x else s.fr x, sf x)
def nowL (tx : List Nat) (sa : Nat → Int) (sf : Nat → Bool) (s : St) : List Ent := tx.map (entW s) ++ s.ro.map (entR sa sf s)

theorem inv0 (tx : List Nat) (h : tx.Nodup) : Inv tx st0 :=
  ⟨h, by simp [st0], by simp [st0], fun x _ => by simp [st0], fun x _ => rfl, fun x => by simp [st0]⟩

theorem inv_stp {tx : List Nat} {s : St} (h : Inv tx s) (x : Nat) (a : Int) (h0 : 0 ≤ a) (h1 : a ≤ 255) : Inv tx (stp tx s x a) := by
  unfold stp
  by_cases hx : s.fr x < 0
  · rw [if_pos hx]
    refine ⟨h.nd, ?_, ?_, ?_, ?_, ?_⟩
    · show (if x ∈ tx then s.ro else s.ro ++ [x]).Nodup
      split
      · exact h.ndr
      · rename_i hm
        have : x ∉ s.ro := fun hr => by have := (h.rd x hm).2 hr; omega
        rw [List.nodup_append]
        exact ⟨h.ndr, by simp, fun y hy z hz => by simp at hz; subst hz; intro e; subst e; exact this hy⟩
    · show ∀ y, y ∈ (if x ∈ tx then s.ro else s.ro ++ [x]) → y ∉ tx
      intro y
      split
      · exact h.dis y
      · rename_i hm
        simp only [List.mem_append, List.mem_singleton]
        rintro (hy | rfl)
        · exact h.dis y hy
        · exact hm
    · intro y hy
      show 0 ≤ (if y = x then a else s.fr y) ↔ y ∈ (if x ∈ tx then s.ro else s.ro ++ [x])
      by_cases e : y = x
      · subst e
        simp [hy, h0]
      · rw [if_neg e, h.rd y hy]
        split <;> simp [e]
    · intro y hy
      have hy' : (if y = x then a else s.fr y) < 0 := hy
      show (if y = x then a else s.fr y) = -1
      by_cases e : y = x
      · rw [if_pos e] at hy'; omega
      · rw [if_neg e] at hy' ⊢; exact h.low y hy'
    · intro y
      show (if y = x then a else s.fr y) ≤ 255
      split
      · exact h1
      · exact h.high y
  · rw [if_neg hx]; exact h

theorem nowL_length (tx : List Nat) (sa : Nat → Int) (sf : Nat → Bool) (s : St) : (nowL tx sa sf s).length = tx.length + s.ro.length := by simp [nowL]

/-- the item is new -/
theorem now_new {tx : List Nat} {s : St} (h : Inv tx s) (sa : Nat → Int) (sf : Nat → Bool) (x : Nat) (a : Int) (h0 : 0 ≤ a) (hno : ∀ e, e ∈ nowL tx sa sf s → e.1 ≠ x) :
    nowL tx sa sf (stp tx s x a) = nowL tx sa sf s ++ [(x, if 0 ≤ sa x then min a (sa x) else a, sf x)] := by
  have hx1 : x ∉ tx := fun hm => hno (entW s x) (by simp only [nowL, List.mem_append, List.mem_map]; exact .inl ⟨x, hm, rfl⟩) rfl
  have hx2 : x ∉ s.ro := fun hm => hno (entR sa sf s x) (by simp only [nowL, List.mem_append, List.mem_map]; exact .inr ⟨x, hm, rfl⟩) rfl
  have hfr : s.fr x < 0 := by
    have : ¬ (0 ≤ s.fr x) := fun hh => hx2 ((h.rd x hx1).1 hh)
    omega
  unfold stp
  rw [if_pos hfr, if_neg hx1]
  unfold nowL
  rw [List.map_append, ← List.append_assoc]
  congr 1
  · congr 1
    · refine List.map_congr_left (fun y hy => ?_)
      have : y ≠ x := fun e => hx1 (e ▸ hy)
      simp [entW, this]
    · refine List.map_congr_left (fun y hy => ?_)
      have : y ≠ x := fun e => hx2 (e ▸ hy)
      simp [entR, this]
  · simp only [List.map_cons, List.map_nil, entR, if_true]
    congr 2
    by_cases hs : 0 ≤ sa x
    · simp only [hs, true_and, if_true]
      congr 1
      split <;> omega
    · simp [hs]

/-- the item stands in the row and has been read -/
theorem now_old {tx : List Nat} {s : St} (h : Inv tx s) (sa : Nat → Int) (sf : Nat → Bool) (x : Nat) (a : Int) (e : Ent) (hm : e ∈ nowL tx sa sf s) (he : e.1 = x) (hat : 0 ≤ e.2.1) : stp tx s x a = s := by
  have hfr : ¬ s.fr x < 0 := by
    simp only [nowL, List.mem_append, List.mem_map] at hm
    rcases hm with ⟨y, hy, rfl⟩ | ⟨y, hy, rfl⟩
    · simp only [entW] at he hat; subst he; omega
    · simp only [entR] at he; subst he
      have := (h.rd y (h.dis y hy)).2 hy
      omega
  unfold stp
  rw [if_neg hfr]

/-- the item is written and has not been read -/
theorem now_set {tx : List Nat} {s : St} (h : Inv tx s) (sa : Nat → Int) (sf : Nat → Bool) (x : Nat) (a : Int) (i : Nat) (e : Ent) (hm : (nowL tx sa sf s)[i]? = some e) (he : e.1 = x) (hat : e.2.1 < 0) :
    nowL tx sa sf (stp tx s x a) = (nowL tx sa sf s).set i (x, a, e.2.2) := by
  by_cases hi : i < tx.length
  · have hm' : (tx.map (entW s))[i]? = some e := by
      rw [← hm]; unfold nowL; rw [List.getElem?_append_left (by simpa using hi)]
    rw [List.getElem?_map, List.getElem?_eq_getElem hi] at hm'
    simp only [Option.map_some, Option.some.injEq] at hm'
    subst hm'
    have hex : tx[i] = x := he
    have hfr : s.fr x < 0 := by simpa [entW, hex] using hat
    have hxm : x ∈ tx := hex ▸ List.getElem_mem hi
    unfold stp
    rw [if_pos hfr, if_pos hxm]
    unfold nowL
    rw [List.set_append_left _ _ (by simpa using hi)]
    congr 1
    · apply List.ext_getElem?
      intro j
      rw [List.getElem?_set]
      by_cases hj : j < tx.length
      · by_cases e : i = j
        · subst e
          simp [hi, entW, hex]
        · have hne : tx[j] ≠ x := fun hh => e ((List.getElem_inj (h₀ := hi) (h₁ := hj) h.nd).1 (hex.trans hh.symm))
          simp [e, hj, entW, hne]
      · have hne : i ≠ j := by omega
        simp [hne, hj]
    · refine List.map_congr_left (fun y hy => ?_)
      have : y ≠ x := fun e => h.dis y hy (e ▸ hxm)
      simp [entR, this]
  · exfalso
    have hm' : (s.ro.map (entR sa sf s))[i - tx.length]? = some e := by
      rw [← hm]; unfold nowL; rw [List.getElem?_append_right (by simp; omega)]; simp
    rw [List.getElem?_map] at hm'
    obtain ⟨y, hy, rfl⟩ := Option.map_eq_some_iff.1 hm'
    have hyr : y ∈ s.ro := List.mem_of_getElem? hy
    have h2 := (h.rd y (h.dis y hyr)).2 hyr
    simp only [entR] at hat
    split at hat <;> omega

/-- behind the first j items of a read at place a -/
def innTo (tx : List Nat) (s : St) (a : Int) (v : Nat → Nat) : Nat → St
  | 0 => s
  | j + 1 => stp tx (innTo tx s a v j) (v j) a
/-- behind the first i reads -/
def outTo (tx : List Nat) (wr : Nat → Bool) (rat ni : Nat → Nat) (v : Nat → Nat → Nat) : Nat → St
  | 0 => st0
  | i + 1 => if wr i = true then outTo tx wr rat ni v i else innTo tx (outTo tx wr rat ni v i) (rat i : Int) (v i) (ni i)

theorem inv_inn {tx : List Nat} {s : St} (h : Inv tx s) (a : Int) (h0 : 0 ≤ a) (h1 : a ≤ 255) (v : Nat → Nat) (j : Nat) : Inv tx (innTo tx s a v j) := by
  induction j with
  | zero => exact h
  | succ j ih => exact inv_stp ih _ _ h0 h1
theorem inv_out {tx : List Nat} (h : tx.Nodup) (wr : Nat → Bool) (rat ni : Nat → Nat) (v : Nat → Nat → Nat) (n : Nat) (hr : ∀ i, i < n → rat i ≤ 255) (i : Nat) (hi : i ≤ n) : Inv tx (outTo tx wr rat ni v i) := by
  induction i with
  | zero => exact inv0 tx h
  | succ i ih =>
    rw [outTo]
    split
    · exact ih (by omega)
    · exact inv_inn (ih (by omega)) _ (by omega) (by have := hr i (by omega); omega) _ _

theorem stp_ro_length (tx : List Nat) (s : St) (x : Nat) (a : Int) : (stp tx s x a).ro.length ≤ s.ro.length + 1 := by
  unfold stp
  split
  · show (if x ∈ tx then s.ro else s.ro ++ [x]).length ≤ _
    split <;> simp
  · omega
theorem inn_ro_length (tx : List Nat) (s : St) (a : Int) (v : Nat → Nat) (j : Nat) : (innTo tx s a v j).ro.length ≤ s.ro.length + j := by
  induction j with
  | zero => simp [innTo]
  | succ j ih =>
    have := stp_ro_length tx (innTo tx s a v j) (v j) a
    rw [innTo]; omega
theorem out_ro_length (tx : List Nat) (wr : Nat → Bool) (rat ni : Nat → Nat) (v : Nat → Nat → Nat) (n c : Nat) (hn : ∀ i, i < n → ni i ≤ c) (i : Nat) (hi : i ≤ n) : (outTo tx wr rat ni v i).ro.length ≤ i * c := by
  induction i with
  | zero => simp [outTo, st0]
  | succ i ih =>
    have h1 := ih (by omega)
    have h2 := hn i (by omega)
    rw [outTo, Nat.add_mul, Nat.one_mul]
    split
    · omega
    · have := inn_ro_length tx (outTo tx wr rat ni v i) (rat i : Int) (v i) (ni i)
      omega
end Go.Proofs.YbulkbhpqDoor.Plain
