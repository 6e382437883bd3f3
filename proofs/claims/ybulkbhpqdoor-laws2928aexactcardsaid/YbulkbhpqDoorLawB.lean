/- LawS2928AExact (3): rows of ints built by append; small laws on rows. -/
import Derived.Test.YbulkbhpqDoorLawA
import Derived.Test.YbulkbhpqDoorModel2
namespace Go.Proofs.YbulkbhpqDoor
open Go.RowKit Plain
set_option linter.unusedVariables false
set_option linter.unusedSimpArgs false

theorem IntsAt.cell {B : Nat} {a : Option Addr} {n c : Nat} {l : List Nat} {w : World} (h : IntsAt B (.slice a n c) l w) {k x : Nat} (hk : l[k]? = some x) : ∃ g, a = some ⟨g, 0, none⟩ ∧ w.cell? ⟨g, k, none⟩ = some (.int .i64 (x : Int)) := by
  have hlt : k < l.length := (List.getElem?_eq_some_iff.1 hk).1
  rcases h.2 with ⟨_, h'⟩ | ⟨g, cap, cur, hv, h3⟩
  · omega
  · simp only [Value.slice.injEq] at hv
    obtain ⟨rfl, rfl, rfl⟩ := hv
    refine ⟨g, rfl, ?_⟩
    have := World.ownsRow.cellAt h k (by omega)
    rw [this, List.getElem?_map, hk]; rfl
theorem IntsAt.form {B : Nat} {v : Value} {l : List Nat} {w : World} (h : IntsAt B v l w) : ∃ a c, v = .slice a l.length c := by
  rcases h.2 with ⟨hv, h'⟩ | ⟨g, cap, cur, hv, _⟩
  · exact ⟨none, 0, by rw [hv, h']⟩
  · exact ⟨_, _, hv⟩
theorem IntsAt.of_block {B : Nat} {v : Value} {l : List Nat} {w w' : World} (h : IntsAt B v l w) (hb : ∀ b, b < w.heap.size → v.ownBlock = some b → w'.heap[b]? = w.heap[b]?) : IntsAt B v l w' := by
  refine ⟨h.1, ?_⟩
  rcases h.2 with h' | ⟨g, cap, cur, rfl, a, b, c⟩
  · exact .inl h'
  · have hlt : g < w.heap.size := (World.ownsRow.lt h g rfl).2
    exact .inr ⟨g, cap, cur, rfl, a, by rw [hb g hlt rfl]; exact b, c⟩
theorem IntsAt.below {B : Nat} {v : Value} {l : List Nat} {w w' : World} (h : IntsAt B v l w) (hb : Below w.heap.size w w') : IntsAt B v l w' := h.of_block (fun b hlt _ => hb.block b hlt)
theorem IntsAt.base {B : Nat} {a : Option Addr} {n c : Nat} {l : List Nat} {w : World} (h : IntsAt B (.slice a n c) l w) (hl : 0 < l.length) : ∃ g, a = some ⟨g, 0, none⟩ ∧ B ≤ g ∧ g < w.heap.size := by
  rcases h.2 with ⟨_, h'⟩ | ⟨g, cap, cur, hv, _⟩
  · omega
  · simp only [Value.slice.injEq] at hv
    obtain ⟨rfl, rfl, rfl⟩ := hv
    exact ⟨g, rfl, World.ownsRow.lt h g rfl⟩
/-- a block of another type is another block -/
theorem IntsAt.ne {B : Nat} {v : Value} {l : List Nat} {w : World} (h : IntsAt B v l w) {b n : Nat} {t : TypeId} {f : Nat → Value} (hr : w.rowIs b t n f) (ht : t ≠ 3) : v.ownBlock ≠ some b := by
  intro e
  obtain ⟨cur, hg, _⟩ := hr
  rcases h.2 with ⟨h', _⟩ | ⟨g', cap', cur', rfl, _, hg', _⟩
  · subst h'; simp [Value.ownBlock] at e
  · simp [Value.ownBlock] at e
    subst e
    rw [hg] at hg'
    simp at hg'
    exact ht hg'.2
theorem IntsAt.set {B : Nat} {v : Value} {l : List Nat} {w : World} (h : IntsAt B v l w) {b n : Nat} {t : TypeId} {f : Nat → Value} (hr : w.rowIs b t n f) (ht : t ≠ 3) (i : Nat) (u : Value) : IntsAt B v l (w.setCell ⟨b, i, none⟩ u) :=
  h.of_block (fun c _ hc => Below.heap_setCell _ _ _ _ (fun e => h.ne hr ht (by rw [hc]; exact congrArg some e)))
theorem IntsAt.nil (B : Nat) (w : World) : IntsAt B (.slice none 0 0) [] w := ⟨rfl, .inl ⟨rfl, rfl⟩⟩

theorem info3 : (Ybad.prog.info? 3).map (fun i => (i.zero, i.size, i.bytes)) = some (some (.int .i64 0), 1, 8) := by kernel_rfl

/-- 'l = append(l, y)' -/
theorem wp_append_int {ops : Array Oper} {rest : List Oper} {o : Oper} {a : Act} {Q : Exit → Act → World → Prop} {w : World} (hgd : o.guard = none) (s x : Operand)
    (ho : o.op = .call { callee := .builtin .append, args := #[s, x], argTypes := #[31, 31] }) (B : Nat) (v : Value) (l : List Nat) (n : Nat) (hn : n = l.length) (hs : a.eval s = v) (hN : IntsAt B v l w)
    (y : Nat) (ad : Nat) (hx : a.eval x = .slice (some ⟨ad, 0, none⟩) 1 1) (had : ad = w.heap.size) (hl : l.length ≤ 10000000) (hB : B ≤ w.heap.size)
    (K : ∀ g' cap' w', IntsAt B (.slice (some ⟨g', 0, none⟩) (n + 1) cap') (l ++ [y]) w' → (∀ b, b < w.heap.size → v.ownBlock ≠ some b → w'.heap[b]? = w.heap[b]?) → Below B w w' → wpList Ybad.prog ops Q rest (a.put o.dst (.slice (some ⟨g', 0, none⟩) (n + 1) cap')) w') :
    wpList Ybad.prog ops Q (o :: rest) a (w.alloc (.cells #[.int .i64 (y : Int)] 3)) := by
  subst hn
  obtain ⟨i3, hi3, hz3⟩ := Option.map_eq_some_iff.1 info3
  simp only [Prod.mk.injEq] at hz3
  obtain ⟨hz, hsz, hby⟩ := hz3
  refine wpList_append_own_at (w := w.alloc (.cells #[.int .i64 (y : Int)] 3)) hgd s x 31 ho B 3 i3 _ 1 8 Ybad.underlying31 hi3 hz hsz hby rfl (by decide) v l.length _ hs (World.ownsRow.alloc hN _) ⟨ad, 0, none⟩ 1 1 [.int .i64 (y : Int)] hx rfl ?_ ?_ (by unfold maxLen; omega) (by omega) (by simp; omega) ?_
  · subst had
    intro j u hu
    rw [show (⟨w.heap.size, 0, none⟩ : Addr).add j = ⟨w.heap.size, j, none⟩ by unfold Addr.add; split <;> simp_all]
    rw [World.cell?_alloc_at _ _ _ _ rfl]
    simpa using hu
  · intro u hu
    simp at hu
    subst hu; rfl
  · intro v' w' hown hgr _ _
    have hfl : l.map (fun (x : Nat) => Value.int .i64 (x : Int)) ++ [.int .i64 (y : Int)] = (l ++ [y]).map (fun (x : Nat) => Value.int .i64 (x : Int)) := by simp
    rw [hfl] at hown
    have hI : IntsAt B v' (l ++ [y]) w' := by unfold IntsAt; rw [List.length_append]; exact hown
    rcases hown.2 with ⟨_, h'⟩ | ⟨g, cap, cur, rfl, _⟩
    · omega
    · refine K g cap w' hI (fun b hb hne => by rw [hgr.block b (by simp; omega) hne.symm, Below.heap_alloc _ _ _ hb]) ?_
      exact ((Below.refl B w).alloc hB _).grown hgr (by simp; omega) (fun k hk => (World.ownsRow.lt hN k hk).1)
/-- two rows of different types are different blocks -/
theorem rows_ne {w : World} {b c n m : Nat} {t u : TypeId} {f g : Nat → Value} (h : w.rowIs b t n f) (h' : w.rowIs c u m g) (ht : t ≠ u) : b ≠ c := by
  intro e
  subst e
  obtain ⟨cur, hg, _⟩ := h
  obtain ⟨cur', hg', _⟩ := h'
  rw [hg] at hg'
  simp at hg'
  exact ht hg'.2

/-- the cells of the writes of one item, sorted -/
def wcell (s : Nat → Nat) (j : Nat) : Value := if j % 3 = 0 then .int .i64 0 else if j % 3 = 1 then .int .i64 (s (j / 3) : Int) else .int .i64 (-1)
structure ItemsAt (tn : Nat → Nat) (tz : Nat → Nat → Nat) (wb : Nat → Nat) (IB : Nat) (w : World) : Prop where
  it : ∀ x, x < 4 → w.cell? ⟨IB, x * 13 + 1, none⟩ = some (.slice (some ⟨wb x, 0, none⟩) (tn x) (tn x))
  row : ∀ x, x < 4 → w.rowIs (wb x) 35 (tn x * 3) (wcell (soF (tz x) (tn x)))
theorem ItemsAt.below {tn : Nat → Nat} {tz : Nat → Nat → Nat} {wb : Nat → Nat} {IB : Nat} {w w' : World} (h : ItemsAt tn tz wb IB w) (hb : Below w.heap.size w w') : ItemsAt tn tz wb IB w' :=
  ⟨fun x hx => kept hb (h.it x hx), fun x hx => rowIs_below (h.row x hx) hb⟩
structure OpsAt (nr : Nat) (wrt : Nat → Bool) (rat ni : Nat → Nat) (z : Nat → Nat → Nat) (ib : Nat → Nat) (OP : Nat) (w : World) : Prop where
  r0 : ∀ i, i < nr → w.cell? ⟨OP, i * 3, none⟩ = some (.bool (wrt i))
  r1 : ∀ i, i < nr → w.cell? ⟨OP, i * 3 + 1, none⟩ = some (.int .i64 (rat i : Int))
  r2 : ∀ i, i < nr → w.cell? ⟨OP, i * 3 + 2, none⟩ = some (.slice (some ⟨ib i, 0, none⟩) (ni i) (ni i))
  row : ∀ i, i < nr → w.rowIs (ib i) 3 (ni i) (fun j => .int .i64 ((z i j % 4 : Nat) : Int))
theorem OpsAt.below {nr : Nat} {wrt : Nat → Bool} {rat ni : Nat → Nat} {z : Nat → Nat → Nat} {ib : Nat → Nat} {OP : Nat} {w w' : World} (h : OpsAt nr wrt rat ni z ib OP w) (hb : Below w.heap.size w w') : OpsAt nr wrt rat ni z ib OP w' :=
  ⟨fun x hx => kept hb (h.r0 x hx), fun x hx => kept hb (h.r1 x hx), fun x hx => kept hb (h.r2 x hx), fun x hx => rowIs_below (h.row x hx) hb⟩

theorem IntsAt.cells {B : Nat} {a : Option Addr} {n c : Nat} {l : List Nat} {w : World} (h : IntsAt B (.slice a n c) l w) : ∃ TB, (0 < l.length → a = some ⟨TB, 0, none⟩) ∧ ∀ (k x : Nat), l[k]? = some x → w.cell? ⟨TB, k, none⟩ = some (.int .i64 (x : Int)) := by
  by_cases e : 0 < l.length
  · obtain ⟨g, rfl, _⟩ := h.base e
    refine ⟨g, fun _ => rfl, fun k x hk => ?_⟩
    obtain ⟨g', he, hc⟩ := h.cell hk
    simp only [Option.some.injEq, Addr.mk.injEq, and_true] at he
    rw [he]; exact hc
  · refine ⟨0, fun h' => absurd h' e, fun k x hk => ?_⟩
    have := (List.getElem?_eq_some_iff.1 hk).1
    omega

/-- what after is told, out of what the law has laid -/
theorem ain_of {aw : Option Addr} {nw wbk wo : Nat} {ww : Nat → Nat} {ar : Option Addr} {nr rb ro : Nat} {wrt : Nat → Bool} {rat : Nat → Nat} {ia : Nat → Option Addr} {ni ic qb qo : Nat → Nat} {z : Nat → Nat → Nat}
    {ta : Nat → Option Addr} {tn tb to : Nat → Nat} {tz : Nat → Nat → Nat} {sa : Nat → Int} {sf : Nat → Bool} {w : World}
    (HI : CIn aw nw wbk wo ww ar nr rb ro wrt rat ia ni ic qb qo z ta tn tb to tz sa w) (HNI : ∀ i, i < nr → ni i ≤ 1024) (HTN : ∀ x, x < 4 → tn x ≤ 1024)
    {ST : Nat} {wA : World} (HST : StAt sa sf ST wA) (hbw : Below w.heap.size w wA) {tx : List Nat} {tv : Option Addr} {tcp B1 TB : Nat} (HX1 : ∀ y, y ∈ tx → y < 4) (hTB : 0 < tx.length → tv = some ⟨TB, 0, none⟩) (hTC : ∀ (k x : Nat), tx[k]? = some x → wA.cell? ⟨TB, k, none⟩ = some (.int .i64 (x : Int)))
    {IB : Nat} {wb : Nat → Nat} (HIT : ItemsAt tn tz wb IB wA) {OP : Nat} {ib : Nat → Nat} (HOP : OpsAt nr wrt rat ni z ib OP wA)
    {S T : Nat} (s0 : wA.cell? ⟨S, 0, none⟩ = some (.slice (some ⟨T, 0, none⟩) 1 1)) (s1 : wA.cell? ⟨S, 1, none⟩ = some (.slice (some ⟨IB, 0, none⟩) 4 4)) (t1 : wA.cell? ⟨T, 1, none⟩ = some (.slice tv tx.length tcp)) :
    AIn S T IB ST OP tv tcp TB tx (fun x => some ⟨wb x, 0, none⟩) tn tn wb (fun x => soF (tz x) (tn x)) sa sf (some ⟨OP, 0, none⟩) nr wrt rat (fun i => some ⟨ib i, 0, none⟩) ni ni ib (fun i j => z i j % 4) wA where
  s0 := s0
  s1 := s1
  t1 := t1
  tp := hTB
  tcell := fun k x hk => ⟨hTC k x hk, HX1 x (List.mem_of_getElem? hk)⟩
  it := HIT.it
  wp := fun x _ _ => rfl
  wl := HTN
  w0 := fun x hx k hk => ((HIT.row x hx).cell (i := k * 3) (by omega)).trans (by unfold wcell; rw [if_pos (by omega)])
  w1 := fun x hx k hk => ((HIT.row x hx).cell (i := k * 3 + 1) (by omega)).trans (by unfold wcell; rw [if_neg (by omega), if_pos (by omega), show (k * 3 + 1) / 3 = k by omega])
  w2 := fun x hx k hk => ((HIT.row x hx).cell (i := k * 3 + 2) (by omega)).trans (by unfold wcell; rw [if_neg (by omega), if_neg (by omega)])
  sl := fun x hx k hk => by
    obtain ⟨j, hj, he⟩ := soF_mem1 (tz x) (tn x) k hk
    have := (HI.tcell x hx j hj).2
    simp only [he]; exact this
  mono := fun x hx => soF_mono (tz x) (tn x)
  st0 := fun x hx => (HST.cell (i := x * 2) (by omega)).trans (by rw [if_pos (by omega), show x * 2 / 2 = x by omega])
  st1 := fun x hx => (HST.cell (i := x * 2 + 1) (by omega)).trans (by rw [if_neg (by omega), show (x * 2 + 1) / 2 = x by omega])
  sb := HI.sb
  rp := fun _ => rfl
  r0 := HOP.r0
  r1 := HOP.r1
  r2 := HOP.r2
  rl := fun i hi => ⟨(HI.r1 i hi).2, HNI i hi⟩
  ip := fun i _ _ => rfl
  ic' := fun i hi j hj => ⟨(HOP.row i hi).cell hj, Nat.mod_lt _ (by omega)⟩
  g0 := kept hbw HI.g0
  g1 := kept hbw HI.g1

theorem fin_same {tx : List Nat} {s : St} {sa : Nat → Int} {sf : Nat → Bool} (tn : Nat → Nat) (tz : Nat → Nat → Nat) :
    (nowL tx sa sf s).map (fin1 (fun x a => bestTo (soF (tz x) (tn x)) a (tn x))) = (nowL tx sa sf s).map (fin1 (fun x a => bestTo (tz x) a (tn x))) := by
  refine List.map_congr_left (fun e _ => ?_)
  unfold fin1
  show (e.1, (if 0 ≤ e.2.1 then bestTo (soF (tz e.1) (tn e.1)) e.2.1 (tn e.1) else e.2.1), e.2.2) = (e.1, (if 0 ≤ e.2.1 then bestTo (tz e.1) e.2.1 (tn e.1) else e.2.1), e.2.2)
  rw [bestTo_same (tz e.1) (soF (tz e.1) (tn e.1)) e.2.1 (tn e.1) (soF_mem1 _ _) (soF_mem2 _ _)]
end Go.Proofs.YbulkbhpqDoor
