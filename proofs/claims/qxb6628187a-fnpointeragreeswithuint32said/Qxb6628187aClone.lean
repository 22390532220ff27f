/- cloneBytes: the contract. -/
import Derived.Test.Qxb6628187aRows
import Derived.WalkKit
import Derived.WalkSpells
import Derived.WalkLawsBesides
namespace Go.Proofs.Qxb6628187a
open Go.RowKit

def U8 (z : Int) : Value := .int .u8 z

theorem info5 : (Try.prog.info? 5).map (fun i => (i.zero, i.size, i.bytes)) = some (some (.int .u8 0), 1, 1) := by kernel_rfl

theorem clone_nil (w : World) : Calls Try.prog 5 #[.slice none 0 0] w fun e w' => e = .returned (.slice none 0 0) ∧ w' = w := by
  have q22 : ∀ (w : World) (a : Option Addr) (n c n' c' : Nat), (binOp .eql 22 (.slice a n c) (.slice none n' c')).run Try.prog w = .ok (.bool a.isNone) w := fun w a n c n' c' => Lib.run_eql_slice_nil w _ _ a n c n' c' Try.underlying22
  go_enter Try.func5, Try.ntmps5
  go_wp2
  go_ret
  exact ⟨rfl, rfl⟩

/-- The first k places hold f, the rest d. -/
def fillK (f : Nat → Value) (d : Value) (len k : Nat) : List Value := (List.range len).map (fun j => if j < k then f j else d)
theorem fillK_set (f : Nat → Value) (d : Value) (len k : Nat) : (fillK f d len k).set k (f k) = fillK f d len (k + 1) := by
  apply List.ext_getElem
  · simp [fillK]
  · intro i h1 h2
    simp only [fillK, List.getElem_set, List.getElem_map, List.getElem_range]
    by_cases e : k = i
    · subst e; simp
    · rw [if_neg e]
      by_cases e2 : i < k
      · rw [if_pos e2, if_pos (by omega)]
      · rw [if_neg e2, if_neg (by omega)]
theorem fillK_zero (f : Nat → Value) (d : Value) (len : Nat) : fillK f d len 0 = List.replicate len d := by
  apply List.ext_getElem <;> simp [fillK]
theorem fillK_full (g : Int → Value) (d : Value) (zs : List Int) : fillK (fun j => g (zs.getD j 0)) d zs.length zs.length = zs.map g := by
  apply List.ext_getElem
  · simp [fillK]
  · intro i h1 h2
    have h : i < zs.length := by simpa [fillK] using h1
    simp [fillK, h]

set_option maxHeartbeats 400000 in
theorem clone_some (b off len cap : Nat) (zs : List Int) (w : World) (hz : zs.length = len) (hlen : len ≤ 1048576)
    (hc : ∀ i, i < len → w.cell? ⟨b, off + i, none⟩ = some (.int .u8 (zs.getD i 0))) :
    Calls Try.prog 5 #[.slice (some ⟨b, off, none⟩) len cap] w fun e w' => e = .returned (.slice (some ⟨w.heap.size, 0, none⟩) len len) ∧
      w'.ownsRow w.heap.size 5 1 (.slice (some ⟨w.heap.size, 0, none⟩) len len) len (zs.map U8) ∧ Below w.heap.size w w' := by
  have q22 : ∀ (w : World) (a : Option Addr) (n c n' c' : Nat), (binOp .eql 22 (.slice a n c) (.slice none n' c')).run Try.prog w = .ok (.bool a.isNone) w := fun w a n c n' c' => Lib.run_eql_slice_nil w _ _ a n c n' c' Try.underlying22
  obtain ⟨i0, hi, hz0, hz1, hz2⟩ := info_parts info5
  go_enter Try.func5, Try.ntmps5
  go_wp2_with (at_make; refine wpList_make_full _ rfl _ _ 22 rfl w.heap.size 5 i0 (.int .u8 0) 1 Try.underlying22 hi hz0 hz1 _ _ _ _ len rfl rfl rfl rfl ?c1 ?c2 ?c3 ?_)
  case c1 => rw [hz2]; omega
  case c2 => unfold maxLen; omega
  case c3 => exact Nat.le_refl _
  intro w1 hown hgrow
  have hb1 : Below w.heap.size w w1 := (Below.refl _ _).grown hgrow (Nat.le_refl _) (fun k hk => by cases hk)
  have hown1 : w1.ownsRow w.heap.size 5 1 (.slice (some ⟨w.heap.size, 0, none⟩) len len) len (fillK (fun j => U8 (zs.getD j 0)) (U8 0) len 0) := by
    rw [fillK_zero]; simpa [Value.cells, toList_madeCells_one, U8] using hown
  clear hown hgrow hi hz0 hz1 hz2
  go_wp2
  go_loopw [4] (fun i wr => ∃ k : Nat, k ≤ len ∧ i = .int .i64 k ∧ wr.ownsRow w.heap.size 5 1 (.slice (some ⟨w.heap.size, 0, none⟩) len len) len (fillK (fun j => U8 (zs.getD j 0)) (U8 0) len k) ∧ Below w.heap.size w wr)
    (fun i _ => len - (intOf i).toNat)
  case atStart => exact ⟨0, Nat.zero_le _, rfl, hown1, hb1⟩
  case round =>
    obtain ⟨k, hk, rfl, hown, hb⟩ := hrel
    clear hown1 hb1
    by_cases hlt : k < len
    · have hck : wr.cell? ⟨b, off + k, none⟩ = some (.int .u8 (zs.getD k 0)) := by
        have h := hc k hlt
        rw [hb.cell (World.block_lt_of_cell? _ _ h)]; exact h
      have hfz := hown.frozenAt k
      have hcl : ∃ v, wr.cell? ⟨w.heap.size, k, none⟩ = some v := by
        rw [hown.cellAt k (by omega)]
        exact ⟨_, List.getElem?_eq_getElem (by have := hown.1; omega)⟩
      obtain ⟨v0, hcl⟩ := hcl
      have hst := (hown.stored k (U8 (zs.getD k 0))).1
      rw [fillK_set (fun j => U8 (zs.getD j 0))] at hst
      obtain ⟨z, hzz⟩ : ∃ z, zs.getD k 0 = z := ⟨_, rfl⟩
      rw [hzz] at hst hck
      have HS : Hid ((wr.setCell ⟨w.heap.size, k, none⟩ (U8 z)).ownsRow w.heap.size 5 1 (.slice (some ⟨w.heap.size, 0, none⟩) len len) len (fillK (fun j => U8 (zs.getD j 0)) (U8 0) len (k + 1))) := hst
      clear hst hown hzz
      go_wp2
      go_roundw
      case rel => exact ⟨k + 1, by omega, by go_num, HS.out, hb.setCell (Nat.le_refl _) _⟩
      case measure => simp [intOf]; omega
    · have : k = len := by omega
      subst this
      go_wp2
      go_ret
      refine ⟨rfl, ?_, hb⟩
      have e := fillK_full U8 (U8 0) zs
      rw [hz] at e
      rw [e] at hown
      exact hown

end Go.Proofs.Qxb6628187a
