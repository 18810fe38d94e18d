/-
  Seat b6605599a: a slice of bytes that the call itself builds by append: what it owns, what each append leaves alone, and the law on append in the walk.
-/
import Derived.Test.Qxb6605599aShift
import Derived.Maps.AppendAt
import Derived.ArgAppend
import Derived.Deep.OwnRows
namespace Go.Proofs.Qxb6605599a
open Go.RowKit

theorem Try.info5 : (Try.prog.info? 5).map (fun i => (i.zero, i.size, i.bytes)) = some (some (.int .u8 0), 1, 1) := by kernel_rfl

/-- The value v owns a row of the call's own, from block B on, whose first bytes are xs (or it is nil and xs is empty). -/
def Own (B : Nat) (w : World) (v : Value) (xs : List Int) : Prop := w.ownsRow B 5 1 v xs.length (xs.map (Value.int .u8))

/-- Bytes that can be read through the value cv: a slice from the head of a block, or nil. -/
def Reads (w : World) (cv : Value) (cs : List Int) : Prop :=
  (cv = .slice none 0 0 ∧ cs = []) ∨ ∃ b c, cv = .slice (some ⟨b, 0, none⟩) cs.length c ∧ b < w.heap.size ∧ ∀ j y, cs[j]? = some y → w.cell? ⟨b, j, none⟩ = some (.int .u8 y)

/-- What appending to v, of n bytes, does to the world: old blocks but v's own stay; v's first n bytes stay; the new value lies in v's block or in a new one. -/
structure Step (n : Nat) (w w' : World) (v v' : Value) : Prop where
  lt : ∀ k, v.ownBlock = some k → k < w.heap.size
  grown : w.grownBy w' v.ownBlock
  moved : v'.ownBlock = v.ownBlock ∨ ∃ k, v'.ownBlock = some k ∧ w.heap.size ≤ k
  keeps : ∀ k, v.ownBlock = some k → ∀ j, j < n → w'.cell? ⟨k, j, none⟩ = w.cell? ⟨k, j, none⟩

theorem Own.nil (B : Nat) (w : World) : Own B w (.slice none 0 0) [] := World.ownsRow_nil _ _ _ _

theorem Own.lt {B : Nat} {w : World} {v : Value} {xs : List Int} (h : Own B w v xs) : ∀ k, v.ownBlock = some k → B ≤ k ∧ k < w.heap.size := World.ownsRow.lt h

theorem Own.alloc {B : Nat} {w : World} {v : Value} {xs : List Int} (h : Own B w v xs) (o : Obj) : Own B (w.alloc o) v xs := World.ownsRow.alloc h o

theorem Own.form {B : Nat} {w : World} {v : Value} {xs : List Int} (h : Own B w v xs) : (v = .slice none 0 0 ∧ xs = []) ∨ ∃ g c, v = .slice (some ⟨g, 0, none⟩) xs.length c ∧ B ≤ g ∧ g < w.heap.size := by
  rcases h.2 with ⟨hv, h0⟩ | ⟨g, cap, cur, hv, hb, hg, _⟩
  · exact .inl ⟨hv, List.eq_nil_of_length_eq_zero h0⟩
  · exact .inr ⟨g, cap, hv, hb, (Array.getElem?_eq_some_iff.1 hg).1⟩

theorem add_off (g j : Nat) : (⟨g, 0, none⟩ : Addr).add j = ⟨g, j, none⟩ := by unfold Addr.add; split <;> simp_all

theorem Own.cell {B : Nat} {w : World} {v : Value} {xs : List Int} (h : Own B w v xs) {g : Nat} (hg : v.ownBlock = some g) {j : Nat} {y : Int} (hy : xs[j]? = some y) : w.cell? ⟨g, j, none⟩ = some (.int .u8 y) := by
  rw [← add_off]
  exact World.ownsRow.cells h hg j _ (by rw [List.getElem?_map, hy]; rfl)

theorem Own.reads {B : Nat} {w : World} {v : Value} {xs : List Int} (h : Own B w v xs) : Reads w v xs := by
  rcases h.form with h0 | ⟨g, c, rfl, _, hlt⟩
  · exact .inl h0
  · exact .inr ⟨g, c, rfl, hlt, fun j y hy => h.cell rfl hy⟩

theorem Step.refl {n B : Nat} {w : World} {v : Value} {xs : List Int} (h : Own B w v xs) : Step n w w v v :=
  ⟨fun k hk => (h.lt k hk).2, ⟨rfl, rfl, rfl, Nat.le_refl _, fun _ _ _ => rfl⟩, .inl rfl, fun _ _ _ _ => rfl⟩

theorem Step.alloc {n : Nat} {w w' : World} {v v' : Value} (h : Step n w w' v v') (o : Obj) : Step n w (w'.alloc o) v v' := by
  refine ⟨h.lt, h.grown.trans (World.grownBy_alloc _ _ _), h.moved, fun k hk j hj => ?_⟩
  rw [← h.keeps k hk j hj]
  exact World.cell?_of_block (w := w') (Below.heap_alloc _ _ _ (Nat.lt_of_lt_of_le (h.lt k hk) h.grown.size))

/-- One append behind another. -/
theorem Step.trans {n n1 : Nat} {w w1 w2 : World} {v v1 v2 : Value} (h : Step n w w1 v v1) (k : Step n1 w1 w2 v1 v2) (hn : n ≤ n1) : Step n w w2 v v2 := by
  have hs := h.grown.size
  refine ⟨h.lt, ⟨k.grown.os.trans h.grown.os, k.grown.tape.trans h.grown.tape, k.grown.output.trans h.grown.output, Nat.le_trans h.grown.size k.grown.size, fun i hi hne => ?_⟩, ?_, fun b hb j hj => ?_⟩
  · refine (k.grown.block i (by omega) ?_).trans (h.grown.block i hi hne)
    rcases h.moved with e | ⟨b, e, hb⟩
    · rw [e]; exact hne
    · rw [e]; intro he; injection he; omega
  · rcases k.moved with e | ⟨b, e, hb⟩
    · rw [e]; exact h.moved
    · exact .inr ⟨b, e, by omega⟩
  · rw [← h.keeps b hb j hj]
    by_cases e : v1.ownBlock = some b
    · exact k.keeps b e j (by omega)
    · exact World.cell?_of_block (w := w1) (k.grown.block b (Nat.lt_of_lt_of_le (h.lt b hb) hs) (fun h => e h.symm))

/-- What lies elsewhere stays as it was. -/
theorem Step.reads {n : Nat} {w w' : World} {v v' cv : Value} {cs : List Int} (h : Step n w w' v v') (hc : Reads w cv cs) (hne : ∀ k, cv.ownBlock = some k → v.ownBlock ≠ some k) : Reads w' cv cs := by
  rcases hc with h0 | ⟨b, c, rfl, hb, hcell⟩
  · exact .inl h0
  · refine .inr ⟨b, c, rfl, Nat.lt_of_lt_of_le hb h.grown.size, fun j y hy => ?_⟩
    rw [← hcell j y hy]
    exact World.cell?_of_block (w := w) (h.grown.block b hb (fun e => hne b rfl e.symm))

theorem Step.own {n B : Nat} {w w' : World} {v v' u : Value} {xs : List Int} (h : Step n w w' v v') (hu : Own B w u xs) (hne : ∀ k, u.ownBlock = some k → v.ownBlock ≠ some k) : Own B w' u xs := by
  refine World.ownsRow.kept hu h.grown ?_
  cases hb : u.ownBlock with
  | none => exact .inl rfl
  | some k => exact .inr (fun e => hne k hb e.symm)

/-- A row of the call's own: all older memory is as it was. -/
theorem Step.below {n B : Nat} {w w' : World} {v v' : Value} (h : Step n w w' v v') (hB : B ≤ w.heap.size) (hv : ∀ k, v.ownBlock = some k → B ≤ k) : Below B w w' :=
  ⟨h.grown.os, h.grown.tape, h.grown.output, h.grown.size, fun k hk => h.grown.block k (by omega) (fun e => by have := hv k e.symm; omega)⟩

/-- THE LAW ON append, for bytes. -/
theorem run_app (B : Nat) (ty : TypeId) {w : World} {v : Value} {xs news : List Int} (hown : Own B w v xs) (ad : Addr) (m c : Nat) (hl : news.length = m)
    (hnews : ∀ j y, news[j]? = some y → w.cell? (ad.add j) = some (.int .u8 y)) (hb : xs.length + m ≤ 1073741824) (hB : B ≤ w.heap.size) :
    ∃ v' w', (Builtin.append_ #[22, 22] ty #[v, .slice (some ad) m c]).run Try.prog w = .ok v' w' ∧ Own B w' v' (xs ++ news) ∧ Step xs.length w w' v v' := by
  obtain ⟨i, hi, hz0, hz1, hz2⟩ := info_parts Try.info5
  have hl' : (news.map (Value.int .u8)).length = m * 1 := by simp [hl]
  have hn' : ∀ j u, (news.map (Value.int .u8))[j]? = some u → w.cell? (ad.add j) = some u := by
    intro j u hu
    rw [List.getElem?_map] at hu
    obtain ⟨y, hy, rfl⟩ := Option.map_eq_some_iff.1 hu
    exact hnews j y hy
  have h1 : ∀ u ∈ news.map (Value.int .u8), u.oneCell' = true := by
    intro u hu
    obtain ⟨y, _, rfl⟩ := List.mem_map.1 hu
    rfl
  have h63 : xs.length + m ≤ maxLen := by unfold maxLen; omega
  obtain ⟨v', w', hr, h2, h3, _, h5⟩ := run_append_own_at (P := Try.prog) w B 22 ty 5 i (.int .u8 0) 1 1 Try.underlying22 hi hz0 hz1 hz2 rfl (by decide) v xs.length (xs.map (Value.int .u8)) hown ad m c (news.map (Value.int .u8)) hl' hn' h1 h63 (by omega) hB
  refine ⟨v', w', hr, ?_, fun k hk => (hown.lt k hk).2, h3, ?_, ?_⟩
  · unfold Own
    rw [List.length_append, hl, List.map_append]
    exact h2
  · rcases h5 with h5 | h5
    · exact .inl h5
    · exact .inr ⟨_, h5, Nat.le_refl _⟩
  · intro k hk j hj
    rcases hown.2 with ⟨rfl, _⟩ | ⟨g, cap, cur, rfl, hbg, hg, hnc, hcm, hcs, htake⟩
    · cases hk
    · simp [Value.ownBlock] at hk
      subst hk
      have holds : ∀ j u, (xs.map (Value.int .u8))[j]? = some u → w.cell? ((⟨g, 0, none⟩ : Addr).add j) = some u := World.ownsRow.cells hown (g := g) rfl
      by_cases hroom : xs.length + m ≤ cap
      · have hfit : xs.length * i.size + (news.map (Value.int .u8)).length ≤ cur.size := by rw [hl', hz1, hcs]; omega
        have hr2 := run_append_room (P := Try.prog) w 22 ty 5 i Try.underlying22 hi g xs.length cap cur hg ad m c (news.map (Value.int .u8)) (by rw [hz1]; exact hl') hn' h1 hroom hfit
        rw [hr] at hr2
        injection hr2 with hv hw
        subst hv
        obtain ⟨y, hy⟩ : ∃ y, xs[j]? = some y := ⟨_, List.getElem?_eq_getElem hj⟩
        have e1 : w.cell? ⟨g, j, none⟩ = some (.int .u8 y) := hown.cell rfl hy
        have e2 : w'.cell? ⟨g, j, none⟩ = some (.int .u8 y) := by
          rw [← add_off]
          refine World.ownsRow.cells h2 (g := g) rfl j _ ?_
          rw [List.getElem?_append_left (by simpa using hj), List.getElem?_map, hy]; rfl
        rw [e1, e2]
      · have hr2 := run_append_grow (P := Try.prog) w 22 ty 5 i (.int .u8 0) Try.underlying22 hi hz0 ⟨g, 0, none⟩ xs.length cap (xs.map (Value.int .u8)) (by simp [hz1]) holds ad m c (news.map (Value.int .u8)) (by rw [hz1]; exact hl') hn' (by omega) (by omega) (growslice_fits (by omega) (by rw [hz2]; omega))
        rw [hr] at hr2
        injection hr2 with hv hw
        subst hw
        exact World.cell?_of_block (w := w) (Below.heap_alloc _ _ _ (Array.getElem?_eq_some_iff.1 hg).1)

/-- .. in the walk. -/
theorem wpList_app {ops : Array Oper} {rest : List Oper} {o : Oper} {a : Act} {Q : Exit → Act → World → Prop} {w : World} (hgd : o.guard = none) (s x : Operand)
    (ho : o.op = .call { callee := .builtin .append, args := #[s, x], argTypes := #[22, 22] })
    (B : Nat) {v : Value} {xs news : List Int} (hs : a.eval s = v) (hown : Own B w v xs) (ad : Addr) (m c : Nat) (hx : a.eval x = .slice (some ad) m c) (hl : news.length = m)
    (hnews : ∀ j y, news[j]? = some y → w.cell? (ad.add j) = some (.int .u8 y)) (hb : xs.length + m ≤ 1073741824) (hB : B ≤ w.heap.size)
    (h : ∀ v' w', Own B w' v' (xs ++ news) → Step xs.length w w' v v' → wpList Try.prog ops Q rest (a.put o.dst v') w') : wpList Try.prog ops Q (o :: rest) a w := by
  refine wpList_plain hgd fun K hK => ?_
  obtain ⟨v', w', hr, h2, h3⟩ := run_app B o.type hown ad m c hl hnews hb hB
  unfold Oper.wp execOp
  simp only [ho, resolve, invoke, builtin, Sem.run_bind, Sem.run_pure, Result.andThen_ok, List.map_toArray, List.map_cons, List.map_nil, hs, hx, hr]
  exact hK _ _ (h v' w' h2 h3)

/-- append(v, nil...): nothing happens. -/
theorem run_app_nil (ty : TypeId) (w : World) (g n c : Nat) (hn : n ≤ c) :
    (Builtin.append_ #[22, 22] ty #[.slice (some ⟨g, 0, none⟩) n c, .slice none 0 0]).run Try.prog w = .ok (.slice (some ⟨g, 0, none⟩) n c) w := by
  obtain ⟨i, hi, hz0, hz1, hz2⟩ := info_parts Try.info5
  simp [Builtin.append_, run_underlying Try.underlying22, sizeOf, typeInfo, hi, Builtin.lenOf, hn, run_firstCells_none, storeCells]

theorem wpList_app_nil {ops : Array Oper} {rest : List Oper} {o : Oper} {a : Act} {Q : Exit → Act → World → Prop} {w : World} (hgd : o.guard = none) (s x : Operand)
    (ho : o.op = .call { callee := .builtin .append, args := #[s, x], argTypes := #[22, 22] })
    (g n c : Nat) (hn : n ≤ c) (hs : a.eval s = .slice (some ⟨g, 0, none⟩) n c) (hx : a.eval x = .slice none 0 0)
    (h : wpList Try.prog ops Q rest (a.put o.dst (.slice (some ⟨g, 0, none⟩) n c)) w) : wpList Try.prog ops Q (o :: rest) a w := by
  refine wpList_plain hgd fun K hK => ?_
  have hr := run_app_nil o.type w g n c hn
  unfold Oper.wp execOp
  simp only [ho, resolve, invoke, builtin, Sem.run_bind, Sem.run_pure, Result.andThen_ok, List.map_toArray, List.map_cons, List.map_nil, hs, hx, hr]
  exact hK _ _ h
end Go.Proofs.Qxb6605599a
