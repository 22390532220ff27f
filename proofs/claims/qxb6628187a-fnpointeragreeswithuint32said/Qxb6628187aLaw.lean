/- A law on append that says where the result lies: the same block, or a new one. No program in it. -/
import Derived.WalkKit
namespace Go.Proofs.Qxb6628187a
open Go.RowKit

/-- Where an append's result lies: in the block where the slice lay, or in a new one. -/
def Lies (w : World) (v v' : Value) : Prop := v'.ownBlock = v.ownBlock ∨ ∃ k, v'.ownBlock = some k ∧ w.heap.size ≤ k

section
variable {P : Program} (w : World)

theorem run_append_lies (base : Nat) (t ty e : TypeId) (i : TypeInfo) (z : Value) (size bytes : Nat) (ht : P.underlying t = some (.slice e)) (hi : P.info? e = some i) (hz : i.zero = some z)
    (hsize : i.size = size) (hby : i.bytes = bytes) (hzs : z.cells.size = size) (hsz : 0 < size)
    (v : Value) (n : Nat) (xs : List Value) (hown : w.ownsRow base e size v n xs)
    (a : Addr) (m c : Nat) (news : List Value) (hl : news.length = m * size) (hnews : ∀ j u, news[j]? = some u → w.cell? (a.add j) = some u) (h1 : ∀ u ∈ news, u.oneCell' = true)
    (h63 : n + m ≤ maxLen) (hbytes : (n + m) * bytes ≤ 140737488355328) (hbase : base ≤ w.heap.size) :
    ∃ v' w', (Builtin.append_ #[t, t] ty #[v, .slice (some a) m c]).run P w = .ok v' w' ∧ w'.ownsRow base e size v' (n + m) (xs ++ news) ∧ w.grownBy w' v.ownBlock ∧ Lies w v v' := by
  obtain ⟨v', w', hr, h2, h3, _⟩ := run_append_own (P := P) w base t ty e i z size bytes ht hi hz hsize hby hzs hsz v n xs hown a m c news hl hnews h1 h63 hbytes hbase
  refine ⟨v', w', hr, h2, h3, ?_⟩
  rcases hown.2 with ⟨rfl, rfl⟩ | ⟨g, cap, cur, rfl, hbg, hg, hnc, hcm, hcs, htake⟩
  · have hx : xs = [] := List.eq_nil_of_length_eq_zero (by simpa using hown.1)
    subst hx
    obtain ⟨v2, w2, hr2, k2, _, _⟩ := run_append_own (P := P) w w.heap.size t ty e i z size bytes ht hi hz hsize hby hzs hsz (.slice none 0 0) 0 [] (World.ownsRow_nil _ _ _ _) a m c news hl hnews h1 h63 hbytes (Nat.le_refl _)
    rw [hr] at hr2
    cases hr2
    cases hb : v'.ownBlock with
    | none => exact .inl hb
    | some k => exact .inr ⟨k, hb, (k2.lt k hb).1⟩
  · by_cases hroom : n + m ≤ cap
    · subst hsize
      have hfit : n * i.size + news.length ≤ cur.size := by rw [hl, hcs, ← Nat.add_mul]; exact Nat.mul_le_mul_right _ hroom
      have hr2 := run_append_room (P := P) w t ty e i ht hi g n cap cur hg a m c news hl hnews h1 hroom hfit
      rw [hr] at hr2
      cases hr2
      exact .inl rfl
    · subst hsize
      subst hby
      have holds : ∀ j u, xs[j]? = some u → w.cell? ((⟨g, 0, none⟩ : Addr).add j) = some u := hown.cells (g := g) rfl
      have hr2 := run_append_grow (P := P) w t ty e i z ht hi hz ⟨g, 0, none⟩ n cap xs hown.1 holds a m c news hl hnews (by omega) (by simp only [maxLen] at h63; omega) (growslice_fits (by omega) hbytes)
      rw [hr] at hr2
      cases hr2
      exact .inr ⟨_, rfl, Nat.le_refl _⟩

theorem wpList_append_lies {ops : Array Oper} {rest : List Oper} {o : Oper} {a : Act} {Q : Exit → Act → World → Prop} (hgd : o.guard = none) (s x : Operand) (t : TypeId)
    (ho : o.op = .call { callee := .builtin .append, args := #[s, x], argTypes := #[t, t] })
    (base : Nat) (e : TypeId) (i : TypeInfo) (z : Value) (size bytes : Nat) (ht : P.underlying t = some (.slice e)) (hi : P.info? e = some i) (hz : i.zero = some z)
    (hsize : i.size = size) (hby : i.bytes = bytes) (hzs : z.cells.size = size) (hsz : 0 < size)
    (v : Value) (n : Nat) (xs : List Value) (hs : a.eval s = v) (hown : w.ownsRow base e size v n xs)
    (ad : Addr) (m c : Nat) (news : List Value) (hx : a.eval x = .slice (some ad) m c) (hl : news.length = m * size) (hnews : ∀ j u, news[j]? = some u → w.cell? (ad.add j) = some u) (h1 : ∀ u ∈ news, u.oneCell' = true)
    (h63 : n + m ≤ maxLen) (hbytes : (n + m) * bytes ≤ 140737488355328) (hbase : base ≤ w.heap.size)
    (h : ∀ v' w', w'.ownsRow base e size v' (n + m) (xs ++ news) → w.grownBy w' v.ownBlock → Lies w v v' → wpList P ops Q rest (a.put o.dst v') w') : wpList P ops Q (o :: rest) a w := by
  refine wpList_plain hgd fun K hK => ?_
  obtain ⟨v', w', hr, h2, h3, h4⟩ := run_append_lies (P := P) w base t o.type e i z size bytes ht hi hz hsize hby hzs hsz v n xs hown ad m c news hl hnews h1 h63 hbytes hbase
  unfold Oper.wp execOp
  simp only [ho, resolve, invoke, builtin, Sem.run_bind, Sem.run_pure, Result.andThen_ok, List.map_toArray, List.map_cons, List.map_nil, hs, hx, hr]
  exact hK _ _ (h v' w' h2 h3 h4)
end

/-- What a method of the writer at block p may have turned: block p, the slice's own block, new blocks. -/
structure Fr (p : Nat) (sv : Value) (w : World) (sv' : Value) (w' : World) : Prop where
  os : w'.os = w.os
  tape : w'.tape = w.tape
  output : w'.output = w.output
  size : w.heap.size ≤ w'.heap.size
  block : ∀ k, k < w.heap.size → k ≠ p → some k ≠ sv.ownBlock → w'.heap[k]? = w.heap[k]?
  lies : Lies w sv sv'

theorem Lies.trans {w w1 : World} {a b c : Value} (h : Lies w a b) (k : Lies w1 b c) (hs : w.heap.size ≤ w1.heap.size) : Lies w a c := by
  rcases k with k | ⟨n, k, hn⟩
  · rcases h with h | ⟨m, h, hm⟩
    · exact .inl (k.trans h)
    · exact .inr ⟨m, k.trans h, hm⟩
  · exact .inr ⟨n, k, by omega⟩

theorem Fr.trans {p : Nat} {a b c : Value} {w w1 w2 : World} (h : Fr p a w b w1) (k : Fr p b w1 c w2) : Fr p a w c w2 := by
  refine ⟨k.os.trans h.os, k.tape.trans h.tape, k.output.trans h.output, Nat.le_trans h.size k.size, fun i hi hp ha => ?_, h.lies.trans k.lies h.size⟩
  refine (k.block i (Nat.lt_of_lt_of_le hi h.size) hp ?_).trans (h.block i hi hp ha)
  rcases h.lies with e | ⟨m, e, hm⟩
  · rw [e]; exact ha
  · rw [e]; intro he; cases he; omega

theorem Fr.refl (p : Nat) (a : Value) (w : World) : Fr p a w a w := ⟨rfl, rfl, rfl, Nat.le_refl _, fun _ _ _ _ => rfl, .inl rfl⟩

theorem Fr.drew {p : Nat} {a b : Value} {w w1 : World} (h : Fr p a w b w1) : Fr p a w b w1.drew := ⟨h.os, h.tape, h.output, h.size, h.block, h.lies⟩

/-- A law that ends in grownBy and Lies. -/
theorem Fr.of_grown {p : Nat} {a b : Value} {w w1 : World} (h : w.grownBy w1 a.ownBlock) (hl : Lies w a b) : Fr p a w b w1 :=
  ⟨h.os, h.tape, h.output, h.size, fun k hk _ ha => h.block k hk ha, hl⟩

theorem Fr.alloc (p : Nat) (a : Value) (w : World) (o : Obj) : Fr p a w a (w.alloc o) :=
  ⟨rfl, rfl, rfl, by simp, fun k hk _ _ => Below.heap_alloc _ _ _ hk, .inl rfl⟩

/-- A store into the writer's own block. -/
theorem Fr.setCell {p : Nat} {a b : Value} {w w1 : World} (h : Fr p a w b w1) (j : Nat) (u : Value) : Fr p a w b (w1.setCell ⟨p, j, none⟩ u) :=
  ⟨h.os, h.tape, h.output, by simpa [World.setCell] using h.size, fun k hk hp ha => (Below.heap_setCell _ _ _ _ hp).trans (h.block k hk hp ha), h.lies⟩

/-- A block of two cells. -/
theorem two_cell0 {w : World} {b : Nat} {u v : Value} {t : TypeId} (h : w.heap[b]? = some (.cells #[u, v] t (0, 0))) : w.cell? ⟨b, 0, none⟩ = some u := by simp [World.cell?, h]
theorem two_cell1 {w : World} {b : Nat} {u v : Value} {t : TypeId} (h : w.heap[b]? = some (.cells #[u, v] t (0, 0))) : w.cell? ⟨b, 1, none⟩ = some v := by simp [World.cell?, h]
theorem two_free {w : World} {b : Nat} {u v : Value} {t : TypeId} (h : w.heap[b]? = some (.cells #[u, v] t (0, 0))) (j : Nat) : w.frozen? ⟨b, j, none⟩ = false := by simp [World.frozen?, h]
theorem two_set0 {w : World} {b : Nat} {u v x : Value} {t : TypeId} (h : w.heap[b]? = some (.cells #[u, v] t (0, 0))) : (w.setCell ⟨b, 0, none⟩ x).heap[b]? = some (.cells #[x, v] t (0, 0)) := by
  rw [heap_setCell_same w b 0 _ t x h]; rfl
theorem two_set1 {w : World} {b : Nat} {u v x : Value} {t : TypeId} (h : w.heap[b]? = some (.cells #[u, v] t (0, 0))) : (w.setCell ⟨b, 1, none⟩ x).heap[b]? = some (.cells #[u, x] t (0, 0)) := by
  rw [heap_setCell_same w b 1 _ t x h]; rfl

/-- The writer's block is no row of bytes. -/
theorem own_ne {w : World} {base : Nat} {e t : TypeId} {size : Nat} {v : Value} {n : Nat} {xs : List Value} (h : w.ownsRow base e size v n xs) {p : Nat} {cs : Array Value} (hp : w.heap[p]? = some (.cells cs t (0, 0))) (hne : t ≠ e) : v.ownBlock ≠ some p := by
  rcases h.2 with ⟨rfl, _⟩ | ⟨g, cap, cur, rfl, _, hg, _⟩
  · simp [Value.ownBlock]
  · intro he
    simp [Value.ownBlock] at he
    subst he
    rw [hg] at hp
    simp at hp
    exact hne hp.2.symm

end Go.Proofs.Qxb6628187a
