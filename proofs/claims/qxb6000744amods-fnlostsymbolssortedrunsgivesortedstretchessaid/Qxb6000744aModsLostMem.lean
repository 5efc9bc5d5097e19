/-
  THE MEMORY THAT lostSymbols MAKES: a block of slices, each slice's own row apart from the others'; and the append of one stretch to one of them.
-/
import Derived.Test.Qxb6000744aModsLostClone
import Derived.Test.Qxb6000744aModsLostInv
namespace Go.Proofs.Qxb6000744aMods.Lost
open Go.RowKit

/-- The cells of a list of stretches. -/
def flat : List (Int × Int) → List Value
  | [] => []
  | s :: r => .int .i64 s.1 :: .int .i64 s.2 :: flat r

theorem flat_append (l r : List (Int × Int)) : flat (l ++ r) = flat l ++ flat r := by
  induction l with
  | nil => rfl
  | cons s l ih => simp only [List.cons_append, flat, ih]

theorem flat_length (l : List (Int × Int)) : (flat l).length = l.length * 2 := by
  induction l with
  | nil => rfl
  | cons s l ih => simp only [flat, List.length_cons, ih]; omega

theorem flat_at (l : List (Int × Int)) {k : Nat} (h : k < l.length) : (flat l)[k * 2]? = some (.int .i64 (l.getD k (0, 0)).1) ∧ (flat l)[k * 2 + 1]? = some (.int .i64 (l.getD k (0, 0)).2) := by
  induction l generalizing k with
  | nil => simp at h
  | cons s l ih =>
    cases k with
    | zero => exact ⟨rfl, rfl⟩
    | succ k =>
      have := ih (k := k) (by simpa using h)
      have e1 : (k + 1) * 2 = k * 2 + 1 + 1 := by omega
      rw [e1]
      simpa [flat] using this

/-- THE LAW OF AN APPEND TO AN OWNED ROW, and where the row lies behind it: where it lay, or in a new block. -/
theorem run_append_at {P : Program} (w : World) (base : Nat) (t ty e : TypeId) (i : TypeInfo) (z : Value) (size bytes : Nat) (ht : P.underlying t = some (.slice e)) (hi : P.info? e = some i) (hz : i.zero = some z)
    (hsize : i.size = size) (hby : i.bytes = bytes) (hzs : z.cells.size = size) (hsz : 0 < size)
    (v : Value) (n : Nat) (xs : List Value) (hown : w.ownsRow base e size v n xs)
    (a : Addr) (m c : Nat) (news : List Value) (hl : news.length = m * size) (hnews : ∀ j u, news[j]? = some u → w.cell? (a.add j) = some u) (h1 : ∀ u ∈ news, u.oneCell' = true)
    (h63 : n + m ≤ maxLen) (hbytes : (n + m) * bytes ≤ 140737488355328) (hbase : base ≤ w.heap.size) (hm : 0 < m) :
    ∃ g cap w', (Builtin.append_ #[t, t] ty #[v, .slice (some a) m c]).run P w = .ok (.slice (some ⟨g, 0, none⟩) (n + m) cap) w' ∧ w'.ownsRow base e size (.slice (some ⟨g, 0, none⟩) (n + m) cap) (n + m) (xs ++ news) ∧ w.grownBy w' v.ownBlock ∧
      (v.ownBlock = some g ∨ w.heap.size ≤ g) := by
  obtain ⟨v', w', hr, h2, h3, _⟩ := run_append_own (P := P) w base t ty e i z size bytes ht hi hz hsize hby hzs hsz v n xs hown a m c news hl hnews h1 h63 hbytes hbase
  have hex : ∃ g cap, v' = .slice (some ⟨g, 0, none⟩) (n + m) cap ∧ (v.ownBlock = some g ∨ w.heap.size ≤ g) := by
    rcases hown.2 with ⟨rfl, rfl⟩ | ⟨g, cap, cur, rfl, hbg, hg, hnc, hcm, hcs, htake⟩
    · have hx : xs = [] := List.eq_nil_of_length_eq_zero (by simpa using hown.1)
      subst hx
      obtain ⟨v2, w2, hr2, h22, _, _⟩ := run_append_own (P := P) w w.heap.size t ty e i z size bytes ht hi hz hsize hby hzs hsz (.slice none 0 0) 0 [] (World.ownsRow_nil w _ e size) a m c news hl hnews h1 h63 hbytes (Nat.le_refl _)
      rw [hr] at hr2
      simp only [Result.ok.injEq] at hr2
      obtain ⟨rfl, rfl⟩ := hr2
      rcases h22.2 with ⟨_, h⟩ | ⟨g, cap, _, hv, hb, _⟩
      · omega
      · exact ⟨g, cap, hv, .inr hb⟩
    · by_cases hroom : n + m ≤ cap
      · subst hsize
        have hfit : n * i.size + news.length ≤ cur.size := by rw [hl, hcs, ← Nat.add_mul]; exact Nat.mul_le_mul_right _ hroom
        have hr2 := run_append_room (P := P) w t ty e i ht hi g n cap cur hg a m c news hl hnews h1 hroom hfit
        rw [hr] at hr2
        simp only [Result.ok.injEq] at hr2
        exact ⟨g, cap, hr2.1, .inl rfl⟩
      · obtain ⟨v2, w2, hr2, h22, _⟩ := run_append_arg_grows (P := P) w t ty e i z size bytes ht hi hz hsize hby hzs hsz ⟨g, 0, none⟩ n cap xs hown.1 (hown.cells (g := g) rfl) a m c news hl hnews (by omega) h63 hbytes
        rw [hr] at hr2
        simp only [Result.ok.injEq] at hr2
        obtain ⟨rfl, rfl⟩ := hr2
        rcases h22.2 with ⟨_, h⟩ | ⟨g2, cap2, _, hv, hb, _⟩
        · omega
        · exact ⟨g2, cap2, hv, .inr hb⟩
  obtain ⟨g, cap, hv, hb⟩ := hex
  subst hv
  exact ⟨g, cap, w', hr, h2, h3, hb⟩

/-- .. for the walk. -/
theorem wpList_append_at {P : Program} (w : World) {ops : Array Oper} {rest : List Oper} {o : Oper} {a : Act} {Q : Exit → Act → World → Prop} (hgd : o.guard = none) (s x : Operand) (t : TypeId)
    (ho : o.op = .call { callee := .builtin .append, args := #[s, x], argTypes := #[t, t] })
    (base : Nat) (e : TypeId) (i : TypeInfo) (z : Value) (size bytes : Nat) (ht : P.underlying t = some (.slice e)) (hi : P.info? e = some i) (hz : i.zero = some z)
    (hsize : i.size = size) (hby : i.bytes = bytes) (hzs : z.cells.size = size) (hsz : 0 < size)
    (v : Value) (n : Nat) (xs : List Value) (hs : a.eval s = v) (hown : w.ownsRow base e size v n xs)
    (ad : Addr) (m c : Nat) (news : List Value) (hx : a.eval x = .slice (some ad) m c) (hl : news.length = m * size) (hnews : ∀ j u, news[j]? = some u → w.cell? (ad.add j) = some u) (h1 : ∀ u ∈ news, u.oneCell' = true)
    (h63 : n + m ≤ maxLen) (hbytes : (n + m) * bytes ≤ 140737488355328) (hbase : base ≤ w.heap.size) (hm : 0 < m)
    (h : ∀ g cap w', w'.ownsRow base e size (.slice (some ⟨g, 0, none⟩) (n + m) cap) (n + m) (xs ++ news) → w.grownBy w' v.ownBlock → (v.ownBlock = some g ∨ w.heap.size ≤ g) → wpList P ops Q rest (a.put o.dst (.slice (some ⟨g, 0, none⟩) (n + m) cap)) w') : wpList P ops Q (o :: rest) a w := by
  obtain ⟨g, cap, w', hr, h2, h3, h4⟩ := run_append_at (P := P) w base t o.type e i z size bytes ht hi hz hsize hby hzs hsz v n xs hown ad m c news hl hnews h1 h63 hbytes hbase hm
  refine wpList_plain hgd fun K hK => ?_
  unfold Oper.wp execOp
  simp only [ho, resolve, invoke, builtin, Sem.run_bind, Sem.run_pure, Result.andThen_ok, List.map_toArray, List.map_cons, List.map_nil, hs, hx, hr]
  exact hK _ _ (h g cap w' h2 h3 h4)

/-- BLOCK B HOLDS n SLICES; SLICE i OWNS THE CELLS OF THE LIST L i; NO TWO SHARE A BLOCK. -/
structure LostMem (w : World) (B n : Nat) (V : Nat → Value) (L : Lists) : Prop where
  row : w.rowIs B 35 n V
  own : ∀ i, i < n → w.ownsRow (B + 1) 37 2 (V i) (L i).length (flat (L i))
  apart : ∀ i j, i < n → j < n → i ≠ j → (V i).ownBlock = none ∨ (V i).ownBlock ≠ (V j).ownBlock

theorem LostMem.start (w : World) (n : Nat) : LostMem (w.alloc (.cells (madeCells #[.slice none 0 0] n) 35)) w.heap.size n (fun _ => .slice none 0 0) (fun _ => []) where
  row := World.rowIs_made w (.slice none 0 0) n 35
  own := fun _ _ => World.ownsRow_nil _ _ _ _
  apart := fun _ _ _ _ _ => .inl rfl

theorem LostMem.alloc {w : World} {B n : Nat} {V : Nat → Value} {L : Lists} (h : LostMem w B n V L) (o : Obj) : LostMem (w.alloc o) B n V L where
  row := h.row.alloc o
  own := fun i hi => (h.own i hi).alloc o
  apart := h.apart

/-- One stretch more in list i. -/
theorem LostMem.push {w w' : World} {B n : Nat} {V : Nat → Value} {L : Lists} (h : LostMem w B n V L) {i : Nat} (hi : i < n) {s : Int × Int} {g cap : Nat}
    (hown : w'.ownsRow (B + 1) 37 2 (.slice (some ⟨g, 0, none⟩) ((L i).length + 1) cap) ((L i).length + 1) (flat (L i) ++ [.int .i64 s.1, .int .i64 s.2])) (hgrow : w.grownBy w' (V i).ownBlock)
    (hb : (V i).ownBlock = some g ∨ w.heap.size ≤ g) :
    LostMem (w'.setCell ⟨B, i, none⟩ (.slice (some ⟨g, 0, none⟩) ((L i).length + 1) cap)) B n (fun j => if j = i then .slice (some ⟨g, 0, none⟩) ((L i).length + 1) cap else V j) (upd L i s) where
  row := by
    have hB : w'.heap[B]? = w.heap[B]? := hgrow.block B h.row.lt (fun e => by
      have := ((h.own i hi).lt B e.symm).1
      omega)
    exact (h.row.of_block hB).set i _
  own := fun j hj => by
    by_cases e : j = i
    · subst e
      rw [upd_same, flat_append, List.length_append]
      simp only [if_true, List.length_cons, List.length_nil, flat]
      exact ownsRow_setCell_below hown (by simp) _
    · rw [upd_other _ _ e]
      simp only [if_neg e]
      refine ownsRow_setCell_below ((h.own j hj).kept hgrow ?_) (by simp) _
      exact h.apart j i hj hi e
  apart := fun j1 j2 h1 h2 hne => by
    have key : ∀ j, j < n → j ≠ i → ∀ k, (V j).ownBlock = some k → k ≠ g := by
      intro j hj hji k hk e
      subst e
      rcases hb with hb | hb
      · rcases h.apart j i hj hi hji with h5 | h5
        · rw [h5] at hk; cases hk
        · rw [hk, hb] at h5; exact h5 rfl
      · have := ((h.own j hj).lt k hk).2
        omega
    by_cases e1 : j1 = i
    · subst e1
      have e2 : ¬ j2 = j1 := fun e => hne e.symm
      simp only [if_true, if_neg e2]
      right
      intro e
      exact key j2 h2 e2 g e.symm rfl
    · by_cases e2 : j2 = i
      · subst e2
        simp only [if_true, if_neg e1]
        cases hk : (V j1).ownBlock with
        | none => exact .inl rfl
        | some k =>
          right
          intro e
          have e3 : k = g := by simpa [Value.ownBlock] using e
          exact key j1 h1 e1 k hk e3
      · simp only [if_neg e1, if_neg e2]
        exact h.apart j1 j2 h1 h2 hne

/-- A block of another type than a stretch's is none of the rows that are appended to. -/
theorem LostMem.other {w w' : World} {B n : Nat} {V : Nat → Value} {L : Lists} (h : LostMem w B n V L) {i : Nat} (hi : i < n) (hgrow : w.grownBy w' (V i).ownBlock) {U : Nat} {c : Array Value} (hU : w.heap[U]? = some (.cells c 46 (0, 0))) :
    w'.heap[U]? = some (.cells c 46 (0, 0)) := by
  rw [hgrow.block U (Array.getElem?_eq_some_iff.1 hU).1 (fun e => ?_)]
  · exact hU
  · rcases (h.own i hi).2 with ⟨hv, _⟩ | ⟨g, cap, cur, hv, _, hg, _⟩
    · rw [hv] at e; cases e
    · rw [hv] at e
      simp only [Value.ownBlock, Option.some.injEq] at e
      subst e
      rw [hU] at hg
      simp at hg

theorem LostMem.at {w w' : World} {B n : Nat} {V : Nat → Value} {L : Lists} (h : LostMem w B n V L) {i : Nat} (hi : i < n) (hgrow : w.grownBy w' (V i).ownBlock) : w'.cell? ⟨B, i, none⟩ = some (V i) ∧ w'.frozen? ⟨B, i, none⟩ = false := by
  have hB : w'.heap[B]? = w.heap[B]? := hgrow.block B h.row.lt (fun e => by
    have := ((h.own i hi).lt B e.symm).1
    omega)
  exact ⟨(h.row.of_block hB).cell hi, (h.row.of_block hB).frozen i⟩

theorem LostMem.below {w0 w w' : World} {B n : Nat} {V : Nat → Value} {L : Lists} (h : LostMem w B n V L) {i : Nat} (hi : i < n) (hgrow : w.grownBy w' (V i).ownBlock) (hb : Below B w0 w) : Below B w0 w' :=
  hb.grown hgrow (by have := h.row.lt; omega) (fun k hk => by have := ((h.own i hi).lt k hk).1; omega)

/-- A new block of two cells. -/
theorem two_new (w : World) (a b : Value) (t : TypeId) : ∀ (j : Nat) u, [a, b][j]? = some u → (w.alloc (.cells #[a, b] t)).cell? ((⟨w.heap.size, 0, none⟩ : Addr).add j) = some u := by
  intro j u hj
  match j, hj with
  | 0, hj => simp at hj; subst hj; simp [Addr.add]
  | 1, hj => simp at hj; subst hj; simp [Addr.add]
  | j + 2, hj => simp at hj

theorem two_one (a b : Int) : ∀ u ∈ [Value.int .i64 a, Value.int .i64 b], u.oneCell' = true := by
  intro u hu
  simp only [List.mem_cons, List.not_mem_nil, or_false] at hu
  rcases hu with rfl | rfl <;> rfl

/-- The cells of a block of two. -/
theorem two_cells {w : World} {U : Nat} {a b : Value} {t : TypeId} (h : w.heap[U]? = some (.cells #[a, b] t (0, 0))) : w.cell? ⟨U, 0, none⟩ = some a ∧ w.cell? ⟨U, 1, none⟩ = some b := by
  constructor <;> simp [World.cell?, h]

end Go.Proofs.Qxb6000744aMods.Lost
