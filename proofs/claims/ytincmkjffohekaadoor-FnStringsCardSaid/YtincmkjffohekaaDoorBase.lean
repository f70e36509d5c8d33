/-
  Proved here: small lemmas on slices of numbers in memory (a slice that reads as a list; an append of such a slice), for every program. No conditions beyond each lemma's own.
-/
import Derived.WalkKit
import Derived.Below
import Derived.Deep.Draws
import Derived.Deep.AppendLies
namespace Go.Proofs.YtincmkjffohekaaDoor
open Go.RowKit

theorem ret_bool {a b : Bool} (h : a = b) : Ending.returned (.bool a) = .returned (.bool b) := by rw [h]

/-- The slice value '.slice A n _' reads as the numbers xs of kind k, and lies below block B. -/
def IsL (w : World) (B : Nat) (k : IntKind) (A : Option Addr) (n : Nat) (xs : List Int) : Prop :=
  xs.length = n ∧ (∀ x ∈ xs, (Lit.int k x).wf = true) ∧
  (0 < n → ∃ b off, A = some ⟨b, off, none⟩ ∧ b < B ∧ ∀ j, j < n → w.cell? ⟨b, off + j, none⟩ = some (.int k (xs.getD j 0)))

section
variable {w w' : World} {B B' n : Nat} {k : IntKind} {A : Option Addr} {xs : List Int}

theorem IsL.nil_ (w : World) (B : Nat) (k : IntKind) (A : Option Addr) : IsL w B k A 0 [] := ⟨rfl, by simp, fun h => absurd h (by omega)⟩

theorem IsL.len (h : IsL w B k A n xs) : xs.length = n := h.1

theorem IsL.of_open {x : Addr} {l c : Nat} {zs : List Int} (hl : l ≤ c) (hz : zs.length = c) (hcell : ∀ i, i < zs.length → w.cell? (x.add i) = some (.int k (zs.getD i 0))) (hwf : ∀ n ∈ zs, (Lit.int k n).wf = true) :
    IsL w w.heap.size k (some x) l (zs.take l) := by
  refine ⟨by simp; omega, fun y hy => hwf y (List.mem_of_mem_take hy), fun hpos => ?_⟩
  obtain ⟨b, off, spot⟩ := x
  have h0 := hcell 0 (by omega)
  have hspot : spot = none := by simpa [Addr.add] using World.cell?_spot h0
  subst hspot
  have hlt : b < w.heap.size := by simpa [Addr.add] using World.block_lt_of_cell? _ _ h0
  refine ⟨b, off, rfl, hlt, fun j hj => ?_⟩
  have hc := hcell j (by omega)
  rw [Addr.add_lit] at hc
  rw [hc]
  simp [List.getD, hj]

theorem IsL.keep (h : IsL w B k A n xs) (hk : ∀ p : Addr, p.block < B → w'.cell? p = w.cell? p) : IsL w' B k A n xs := by
  refine ⟨h.1, h.2.1, fun hn => ?_⟩
  obtain ⟨b, off, e, hb, hc⟩ := h.2.2 hn
  exact ⟨b, off, e, hb, fun j hj => (hk _ hb).trans (hc j hj)⟩

theorem IsL.more (h : IsL w B k A n xs) (hB : B ≤ B') : IsL w B' k A n xs := by
  refine ⟨h.1, h.2.1, fun hn => ?_⟩
  obtain ⟨b, off, e, hb, hc⟩ := h.2.2 hn
  exact ⟨b, off, e, by omega, hc⟩

theorem IsL.below (h : IsL w B k A n xs) (hb : Below B w w') : IsL w' B k A n xs := h.keep fun _ hp => hb.cell hp

theorem IsL.upto (h : IsL w w.heap.size k A n xs) (hb : Below w.heap.size w w') : IsL w' w'.heap.size k A n xs := (h.below hb).more hb.size

theorem IsL.of_own {base : Nat} {e : TypeId} {c : Nat} (h : w.ownsRow base e 1 (.slice A n c) n (xs.map (Value.int k))) (hwf : ∀ x ∈ xs, (Lit.int k x).wf = true) : IsL w w.heap.size k A n xs := by
  have hl : xs.length = n := by simpa using h.1
  refine ⟨hl, hwf, fun hn => ?_⟩
  obtain ⟨g, cap, hv, _, hlt⟩ := h.form hn
  have hA : A = some ⟨g, 0, none⟩ := by injection hv
  subst hA
  refine ⟨g, 0, rfl, hlt, fun j hj => ?_⟩
  have := h.cells (g := g) rfl j (.int k (xs.getD j 0)) (by simp [List.getD, hl, hj])
  rwa [Addr.add_lit] at this

theorem IsL.wfAt (h : IsL w B k A n xs) {j : Nat} (hj : j < n) : (Lit.int k (xs.getD j 0)).wf = true := by
  have hl : j < xs.length := by rw [h.1]; exact hj
  have : xs.getD j 0 = xs[j] := by simp [List.getD, hl]
  rw [this]
  exact h.2.1 _ (List.getElem_mem hl)

/-- Element j: the address, the number by a name of its own, its cell. -/
theorem IsL.at_ (h : IsL w B k A n xs) {j : Nat} (hj : j < n) :
    ∃ b off x, A = some ⟨b, off, none⟩ ∧ b < B ∧ xs[j]? = some x ∧ (Lit.int k x).wf = true ∧ w.cell? ⟨b, off + j, none⟩ = some (.int k x) := by
  obtain ⟨b, off, e, hb, hc⟩ := h.2.2 (by omega)
  have hl : j < xs.length := by rw [h.1]; exact hj
  have e2 : xs.getD j 0 = xs[j] := by simp [List.getD, hl]
  exact ⟨b, off, xs[j], e, hb, List.getElem?_eq_getElem hl, h.2.1 _ (List.getElem_mem hl), by rw [hc j hj, e2]⟩

/-- A fresh literal of one number. -/
theorem IsL.new1 (w : World) (e : TypeId) (x : Int) (hx : (Lit.int k x).wf = true) : IsL (w.alloc (.cells #[.int k x] e)) (w.heap.size + 1) k (some ⟨w.heap.size, 0, none⟩) 1 [x] := by
  refine ⟨rfl, by simpa using hx, fun _ => ⟨w.heap.size, 0, rfl, by omega, fun j hj => ?_⟩⟩
  obtain rfl : j = 0 := by omega
  simp
/-- A fresh literal of two numbers. -/
theorem IsL.new2 (w : World) (e : TypeId) (x y : Int) (hx : (Lit.int k x).wf = true) (hy : (Lit.int k y).wf = true) :
    IsL (w.alloc (.cells #[.int k x, .int k y] e)) (w.heap.size + 1) k (some ⟨w.heap.size, 0, none⟩) 2 [x, y] := by
  refine ⟨rfl, by simpa using ⟨hx, hy⟩, fun _ => ⟨w.heap.size, 0, rfl, by omega, fun j hj => ?_⟩⟩
  match j, hj with
  | 0, _ => simp
  | 1, _ => simp
theorem IsL.new3 (w : World) (e : TypeId) (x y z : Int) (hx : (Lit.int k x).wf = true) (hy : (Lit.int k y).wf = true) (hz : (Lit.int k z).wf = true) :
    IsL (w.alloc (.cells #[.int k x, .int k y, .int k z] e)) (w.heap.size + 1) k (some ⟨w.heap.size, 0, none⟩) 3 [x, y, z] := by
  refine ⟨rfl, by simpa using ⟨hx, hy, hz⟩, fun _ => ⟨w.heap.size, 0, rfl, by omega, fun j hj => ?_⟩⟩
  match j, hj with
  | 0, _ => simp
  | 1, _ => simp
  | 2, _ => simp
theorem IsL.new4 (w : World) (e : TypeId) (x y z u : Int) (hx : (Lit.int k x).wf = true) (hy : (Lit.int k y).wf = true) (hz : (Lit.int k z).wf = true) (hu : (Lit.int k u).wf = true) :
    IsL (w.alloc (.cells #[.int k x, .int k y, .int k z, .int k u] e)) (w.heap.size + 1) k (some ⟨w.heap.size, 0, none⟩) 4 [x, y, z, u] := by
  refine ⟨rfl, by simpa using ⟨hx, hy, hz, hu⟩, fun _ => ⟨w.heap.size, 0, rfl, by omega, fun j hj => ?_⟩⟩
  match j, hj with
  | 0, _ => simp
  | 1, _ => simp
  | 2, _ => simp
  | 3, _ => simp
end

section
variable {P : Program} (w : World)

theorem run_append_nothing (base : Nat) (t ty e : TypeId) (i : TypeInfo) (size : Nat) (ht : P.underlying t = some (.slice e)) (hi : P.info? e = some i)
    (v : Value) (n : Nat) (ys : List Value) (hown : w.ownsRow base e size v n ys) (c : Nat) : (Builtin.append_ #[t, t] ty #[v, .slice none 0 c]).run P w = .ok v w := by
  rcases hown.2 with ⟨rfl, rfl⟩ | ⟨g, cap, cur, rfl, _, _, hnc, _⟩
  · simp [Builtin.append_, run_underlying ht, sizeOf, typeInfo, hi, Builtin.lenOf, Builtin.firstCells]
  · simp [Builtin.append_, run_underlying ht, sizeOf, typeInfo, hi, Builtin.lenOf, Builtin.firstCells, hnc, storeCells]

/-- An append onto a row of the call's own of whatever reads as a list of numbers, nil or not. -/
theorem run_append_L (base : Nat) (t ty e : TypeId) (i : TypeInfo) (z : Value) (bytes : Nat) (ht : P.underlying t = some (.slice e)) (hi : P.info? e = some i) (hz : i.zero = some z)
    (hsize : i.size = 1) (hby : i.bytes = bytes) (hzs : z.cells.size = 1) (k : IntKind)
    (v : Value) (n : Nat) (xs : List Int) (hown : w.ownsRow base e 1 v n (xs.map (Value.int k)))
    (B : Nat) (A : Option Addr) (m c : Nat) (news : List Int) (hr : IsL w B k A m news)
    (h63 : n + m ≤ maxLen) (hbytes : (n + m) * bytes ≤ 140737488355328) (hbase : base ≤ w.heap.size) :
    ∃ v' w', (Builtin.append_ #[t, t] ty #[v, .slice A m c]).run P w = .ok v' w' ∧ w'.ownsRow base e 1 v' (n + m) ((xs ++ news).map (Value.int k)) ∧ w.grownBy w' v.ownBlock := by
  have hlen := hr.1
  rcases Nat.eq_zero_or_pos m with hm | hm
  · subst hm
    have hn : news = [] := List.eq_nil_of_length_eq_zero hlen
    subst hn
    rcases A with _ | ad
    · exact ⟨v, w, run_append_nothing w base t ty e i 1 ht hi v n _ hown c, by simpa using hown, World.grownBy.refl w _⟩
    · obtain ⟨v', w', h1, h2, h3, _⟩ := run_append_own (P := P) w base t ty e i z 1 bytes ht hi hz hsize hby hzs (by decide) v n _ hown ad 0 c [] rfl (by simp) (by simp) h63 hbytes hbase
      exact ⟨v', w', h1, by simpa using h2, h3⟩
  · obtain ⟨b, off, rfl, _, hc⟩ := hr.2.2 hm
    obtain ⟨v', w', h1, h2, h3, _⟩ := run_append_own (P := P) w base t ty e i z 1 bytes ht hi hz hsize hby hzs (by decide) v n _ hown ⟨b, off, none⟩ m c (news.map (Value.int k)) (by simpa using hlen)
      (by
        intro j u hu
        have hj : j < m := by
          have := (List.getElem?_eq_some_iff.1 hu).1
          simpa [hlen] using this
        rw [Addr.add_lit, hc j hj]
        have e1 : (news.map (Value.int k))[j]? = some (.int k (news.getD j 0)) := by simp [List.getD, hlen, hj]
        rw [e1] at hu
        exact hu)
      (ints_oneCell k news) h63 hbytes hbase
    exact ⟨v', w', h1, by simpa using h2, h3⟩

theorem wpList_append_L {ops : Array Oper} {rest : List Oper} {o : Oper} {a : Act} {Q : Exit → Act → World → Prop} (hgd : o.guard = none) (s x : Operand) (t : TypeId)
    (ho : o.op = .call { callee := .builtin .append, args := #[s, x], argTypes := #[t, t] })
    (base : Nat) (e : TypeId) (i : TypeInfo) (z : Value) (bytes : Nat) (ht : P.underlying t = some (.slice e)) (hi : P.info? e = some i) (hz : i.zero = some z)
    (hsize : i.size = 1) (hby : i.bytes = bytes) (hzs : z.cells.size = 1) (k : IntKind)
    (v : Value) (n : Nat) (xs : List Int) (hs : a.eval s = v) (hown : w.ownsRow base e 1 v n (xs.map (Value.int k)))
    (B : Nat) (A : Option Addr) (m c : Nat) (news : List Int) (hx : a.eval x = .slice A m c) (hr : IsL w B k A m news)
    (h63 : n + m ≤ maxLen) (hbytes : (n + m) * bytes ≤ 140737488355328) (hbase : base ≤ w.heap.size)
    (h : ∀ v' w', w'.ownsRow base e 1 v' (n + m) ((xs ++ news).map (Value.int k)) → w.grownBy w' v.ownBlock → wpList P ops Q rest (a.put o.dst v') w') : wpList P ops Q (o :: rest) a w := by
  refine wpList_plain hgd fun K hK => ?_
  obtain ⟨v', w', hrun, h2, h3⟩ := run_append_L (P := P) w base t o.type e i z bytes ht hi hz hsize hby hzs k v n xs hown B A m c news hr h63 hbytes hbase
  unfold Oper.wp execOp
  simp only [ho, resolve, invoke, builtin, Sem.run_bind, Sem.run_pure, Result.andThen_ok, List.map_toArray, List.map_cons, List.map_nil, hs, hx, hrun]
  exact hK _ _ (h v' w' h2 h3)
end

section
variable {w w' w2 : World} {base e n : Nat} {v : Value} {xs : List Value}
/-- What a row of the call's own keeps below its base. -/
theorem below_of_own {B : Nat} (h : w.ownsRow base e 1 v n xs) (hg : w.grownBy w' v.ownBlock) (hB : B ≤ base) (hBw : B ≤ w.heap.size) : Below B w w' :=
  (Below.refl B w).grown hg hBw fun k hk => by have := h.lt k hk; omega
/-- An owned value is a slice of its length. -/
theorem own_form (h : w.ownsRow base e 1 v n xs) : ∃ A c, v = .slice A n c := by
  rcases h.2 with ⟨rfl, rfl⟩ | ⟨g, cap, _, rfl, _⟩
  · exact ⟨_, _, rfl⟩
  · exact ⟨_, _, rfl⟩
theorem own_below (h : w.ownsRow base e 1 v n xs) (hb : Below w.heap.size w w') : w'.ownsRow base e 1 v n xs := by
  refine ⟨h.1, ?_⟩
  rcases h.2 with h0 | ⟨g, cap, cur, hv, hg, hh, r⟩
  · exact Or.inl h0
  · exact Or.inr ⟨g, cap, cur, hv, hg, (hb.block g (Array.getElem?_eq_some_iff.1 hh).1).trans hh, r⟩
theorem own_low {base' : Nat} (h : w.ownsRow base e 1 v n xs) (hb : base' ≤ base) : w.ownsRow base' e 1 v n xs := by
  refine ⟨h.1, ?_⟩
  rcases h.2 with h0 | ⟨g, cap, cur, hv, hg, r⟩
  · exact Or.inl h0
  · exact Or.inr ⟨g, cap, cur, hv, Nat.le_trans hb hg, r⟩
end
/-- What a call leaves that hands back a new slice of the numbers xs. -/
def GivesL (w : World) (E : TypeId) (k : IntKind) (xs : List Int) (e : Ending) (w' : World) : Prop :=
  ∃ A c, e = .returned (.slice A xs.length c) ∧ w'.ownsRow w.heap.size E 1 (.slice A xs.length c) xs.length (xs.map (Value.int k)) ∧ Below w.heap.size w w'

end Go.Proofs.YtincmkjffohekaaDoor
