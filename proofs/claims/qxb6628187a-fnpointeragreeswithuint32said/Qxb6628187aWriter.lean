/- The writer's methods: AppendUint32, Align, Uint32, Pointer: the contracts. -/
import Derived.Test.Qxb6628187aClone
import Derived.Test.Qxb6628187aLaw
import Derived.Deep.LoopGhost
import Derived.Deep.RegionWith
namespace Go.Proofs.Qxb6628187a
open Go.RowKit

def le4 (v : Nat) : List Value := [.int .u8 ((v : Int) % 256), .int .u8 ((v : Int) / 256 % 256), .int .u8 ((v : Int) / 65536 % 256), .int .u8 ((v : Int) / 16777216)]

set_option maxHeartbeats 1000000 in
theorem append32_any (n v : Nat) (hv : v < 4294967296) (sv : Value) (xs : List Value) (w : World) (hown : w.ownsRow 0 5 1 sv n xs) (hlim : n ≤ 2000000) :
    Calls Try.prog 14 #[.agg #[], sv, .int .u32 v] w fun e w' => ∃ sv', e = .returned sv' ∧ w'.ownsRow 0 5 1 sv' (n + 4) (xs ++ le4 v) ∧ w.grownBy w' sv.ownBlock ∧ Lies w sv sv' := by
  obtain ⟨i0, hi, hz0, hz1, hz2⟩ := info_parts info5
  go_enter Try.func14, Try.ntmps14
  go_wp2_with (at_builtin; refine wpList_append_lies _ rfl _ _ 22 rfl 0 5 i0 (.int .u8 0) 1 1 Try.underlying22 hi hz0 hz1 hz2 rfl (by decide) _ _ _ rfl ((hown.alloc _).alloc _) _ 4 4 (le4 v) rfl rfl ?c1 ?c2 ?c3 ?c4 ?c5 ?_)
  case c1 =>
    intro j u hj
    unfold le4 at hj
    match j, hj with
    | 0, hj => simp at hj; subst hj; simp [Addr.add]
    | 1, hj => simp at hj; subst hj; simp [Addr.add]
    | 2, hj => simp at hj; subst hj; simp [Addr.add]
    | 3, hj => simp at hj; subst hj; simp [Addr.add]
  case c2 => intro u hu; simp [le4] at hu; rcases hu with rfl | rfl | rfl | rfl <;> rfl
  case c3 => unfold maxLen; omega
  case c4 => omega
  case c5 => omega
  intro v' w2 hown' hgrow hlies
  go_wp2
  go_ret
  refine ⟨v', rfl, hown', ?_, ?_⟩
  · have f := ((Fr.alloc 0 sv w _).trans (Fr.alloc 0 sv _ _)).trans (Fr.of_grown (p := 0) hgrow hlies)
    refine ⟨hgrow.os, hgrow.tape, hgrow.output, f.size, fun k hk ha => ?_⟩
    rw [hgrow.block k (by simp; omega) ha, Below.heap_alloc _ _ _ (by simp; omega), Below.heap_alloc _ _ _ hk]
  · rcases hlies with e | ⟨k, e, hk⟩
    · exact .inl e
    · exact .inr ⟨k, e, by simp at hk; omega⟩

def pad (n : Nat) : Nat := (4 - n % 4) % 4

theorem pad_stop {n m : Nat} (_h1 : n ≤ m) (h2 : m ≤ n + pad n) (h3 : m % 4 = 0) : m = n + pad n := by unfold pad at *; omega
theorem pad_go {n m : Nat} (_h1 : n ≤ m) (h2 : m ≤ n + pad n) (h3 : ¬ m % 4 = 0) : m + 1 ≤ n + pad n := by unfold pad at *; omega
theorem pad_le (n : Nat) : pad n ≤ 3 := by unfold pad; omega

/-- The writer at block p: its slice sv holds the n bytes xs, its counter is r. -/
structure Wr (p : Nat) (r : Int) (w : World) (sv : Value) (n : Nat) (xs : List Value) : Prop where
  block : w.heap[p]? = some (.cells #[sv, .int .u32 r] 35 (0, 0))
  own : w.ownsRow 0 5 1 sv n xs

theorem own_shape {w : World} {base : Nat} {e : TypeId} {size : Nat} {v : Value} {n : Nat} {xs : List Value} (h : w.ownsRow base e size v n xs) : ∃ ao c, v = .slice ao n c := by
  rcases h.2 with ⟨rfl, rfl⟩ | ⟨g, cap, cur, rfl, _⟩
  · exact ⟨_, _, rfl⟩
  · exact ⟨_, _, rfl⟩

/-- What an append into the writer's slice, stored back, does. -/
theorem Wr.push {p : Nat} {r : Int} {w w1 w2 : World} {sv sv' : Value} {n m : Nat} {xs ys : List Value} (h : Wr p r w sv n xs) (h1 : w.heap[p]? = w1.heap[p]?)
    (hp : p < w1.heap.size) (hg : w1.grownBy w2 sv.ownBlock) (ho : w2.ownsRow 0 5 1 sv' m ys) : Wr p r (w2.setCell ⟨p, 0, none⟩ sv') sv' m ys := by
  have hne := own_ne h.own h.block (by decide)
  have hb : w2.heap[p]? = some (.cells #[sv, .int .u32 r] 35 (0, 0)) := by rw [hg.block p hp (fun e => hne e.symm), ← h1]; exact h.block
  refine ⟨two_set0 hb, ownsRow_setCell_other ho ?_ _⟩
  exact own_ne ho hb (by decide)

set_option maxHeartbeats 1000000 in
theorem align_any (p : Nat) (r : Int) (sv : Value) (n : Nat) (xs : List Value) (w : World) (h : Wr p r w sv n xs) (hlim : n ≤ 1048576) :
    Calls Try.prog 13 #[.pointer (some ⟨p, 0, none⟩), .int .i64 4] w fun e w' => e = .returned (.tuple #[]) ∧ ∃ sv', Wr p r w' sv' (n + pad n) (xs ++ List.replicate (pad n) (U8 0)) ∧ Fr p sv w sv' w' := by
  have hpd := pad_le n
  obtain ⟨i0, hi, hz0, hz1, hz2⟩ := info_parts info5
  go_enter Try.func13, Try.ntmps13
  go_wp2
  go_loopg [4] (pad n) (fun g _ wr => ∃ (m : Nat) (sv1 : Value), n ≤ m ∧ m ≤ n + pad n ∧ g = n + pad n - m ∧ Wr p r wr sv1 m (xs ++ List.replicate (m - n) (U8 0)) ∧ Fr p sv w sv1 wr)
  case atStart => exact ⟨n, sv, by omega, by omega, by omega, by simpa using h, Fr.refl _ _ _⟩
  case round =>
    obtain ⟨m, sv1, h1, h2, h3, hw, hf⟩ := hrel
    obtain ⟨ao, c, hsh⟩ := own_shape hw.own
    subst hsh
    have hc0 := two_cell0 hw.block
    have hfz := two_free hw.block 0
    by_cases hm : m % 4 = 0
    · have hm' : (m : Int) % 4 = 0 := by omega
      have e := pad_stop h1 h2 hm
      go_wp2
      go_end0
      refine ⟨rfl, _, ?_, hf⟩
      have e2 : m - n = pad n := by omega
      rw [e2, e] at hw
      rw [← e] at hw ⊢
      exact hw
    · have hm' : ((m : Int) % 4 != 0) = true := by simp; omega
      have e := pad_go h1 h2 hm
      go_wp2_with (at_builtin; refine wpList_append_lies _ rfl _ _ 22 rfl 0 5 i0 (.int .u8 0) 1 1 Try.underlying22 hi hz0 hz1 hz2 rfl (by decide) _ _ _ rfl (hw.own.alloc _) _ 1 1 [.int .u8 0] rfl rfl ?c1 ?c2 ?c3 ?c4 ?c5 ?_)
      case c1 =>
        intro j u hj
        match j, hj with
        | 0, hj => simp at hj; subst hj; simp [Addr.add]
      case c2 => intro u hu; simp at hu; subst hu; rfl
      case c3 => unfold maxLen; omega
      case c4 => omega
      case c5 => omega
      intro sv2 w2 hown2 hgrow hlies
      obtain ⟨ao2, c2, hsh2⟩ := own_shape hown2
      subst hsh2
      have hlt := lt_of_block hw.block
      have W2 := Wr.push (w1 := wr.alloc (.cells #[.int .u8 0] 5)) hw (Below.heap_alloc _ _ _ hlt).symm (by simp; omega) hgrow hown2
      have F2 := (hf.trans (Fr.alloc p _ wr (.cells #[.int .u8 0] 5))).trans ((Fr.of_grown (p := p) hgrow hlies).setCell 0 (.slice ao2 (m + 1) c2))
      have hb2 : w2.heap[p]? = some (.cells #[.slice ao m c, .int .u32 r] 35 (0, 0)) := by
        rw [hgrow.block p (by simp; omega) (fun e => own_ne hw.own hw.block (by decide) e.symm), Below.heap_alloc _ _ _ hlt]; exact hw.block
      have hc2 := two_cell0 hb2
      have hf2 := two_free hb2 0
      have WH : Hid (Wr p r (w2.setCell ⟨p, 0, none⟩ (.slice ao2 (m + 1) c2)) (.slice ao2 (m + 1) c2) (m + 1) (xs ++ (List.replicate (m - n) (U8 0) ++ [.int .u8 0]))) := by exact W2
      have FH : Hid (Fr p sv w (.slice ao2 (m + 1) c2) (w2.setCell ⟨p, 0, none⟩ (.slice ao2 (m + 1) c2))) := F2
      clear W2 F2 hown2 hgrow hlies hw hf hb2
      go_wp2
      go_roundg (n + pad n - (m + 1))
      case measure => omega
      case rel =>
        refine ⟨m + 1, .slice ao2 (m + 1) c2, by omega, by omega, rfl, ?_, FH.out⟩
        have e3 : m + 1 - n = (m - n) + 1 := by omega
        rw [e3, List.replicate_succ']
        exact WH.out

set_option maxHeartbeats 1000000 in
theorem uint32_any (p : Nat) (r : Int) (sv : Value) (n v : Nat) (hv : v < 4294967296) (xs : List Value) (w : World) (h : Wr p r w sv n xs) (hlim : n ≤ 1048576) :
    Calls Try.prog 8 #[.pointer (some ⟨p, 0, none⟩), .int .u32 v] w fun e w' => e = .returned (.tuple #[]) ∧ ∃ sv', Wr p r w' sv' (n + pad n + 4) (xs ++ List.replicate (pad n) (U8 0) ++ le4 v) ∧ Fr p sv w sv' w' := by
  have hpd := pad_le n
  go_enter Try.func8, Try.ntmps8
  go_wp2_with fail
  refine (align_any p r sv n xs w h hlim).mono ?_
  rintro e w1 ⟨rfl, sv1, hw1, hf1⟩
  obtain ⟨m, hm⟩ : ∃ m, n + pad n = m := ⟨_, rfl⟩
  rw [hm] at hw1
  obtain ⟨ys, hy⟩ : ∃ ys, xs ++ List.replicate (pad n) (U8 0) = ys := ⟨_, rfl⟩
  rw [hy] at hw1
  have hmb : m ≤ 2000000 := by omega
  have HM : Hid (n + pad n = m ∧ xs ++ List.replicate (pad n) (U8 0) = ys) := ⟨hm, hy⟩
  clear hy hm
  obtain ⟨ao, c, hsh⟩ := own_shape hw1.own
  subst hsh
  have hc0 := two_cell0 hw1.block
  have hfz := two_free hw1.block 0
  have hlt := lt_of_block hw1.block
  go_wp2_with fail
  have hA := append32_any m v hv (.slice ao m c) ys w1.drew hw1.own hmb
  go_region_with (go_at_call 14; refine hA.mono ?_; rintro e w2 ⟨sv2, rfl, hown2, hgrow, hlies⟩; obtain ⟨ao2, c2, hsh2⟩ := own_shape hown2; subst hsh2; have hb2 : w2.heap[p]? = some (.cells #[.slice ao m c, .int .u32 r] 35 (0, 0)) := (hgrow.block p hlt (fun e => own_ne hw1.own hw1.block (by decide) e.symm)).trans hw1.block; have hc2 := two_cell0 hb2; have hf2 := two_free hb2 0)
  all_goals
    obtain ⟨e1, e2⟩ := HM.out
    go_end0
    replace hgrow : w1.grownBy w2 (Value.slice ao m c).ownBlock := ⟨hgrow.os, hgrow.tape, hgrow.output, hgrow.size, hgrow.block⟩
    refine ⟨rfl, .slice ao2 (m + 4) c2, ?_, ?_⟩
    · rw [e1, e2]
      exact Wr.push hw1 rfl hlt hgrow hown2
    · exact hf1.trans ((Fr.of_grown (p := p) (w := w1) hgrow hlies).setCell 0 _)

set_option maxHeartbeats 1000000 in
theorem pointer_no (p : Nat) (r : Int) (sv : Value) (n : Nat) (xs : List Value) (w : World) (h : Wr p r w sv n xs) (hlim : n ≤ 1048576) :
    Calls Try.prog 7 #[.pointer (some ⟨p, 0, none⟩), .bool false] w fun e w' => e = .returned (.tuple #[]) ∧ ∃ sv', Wr p r w' sv' (n + pad n + 4) (xs ++ List.replicate (pad n) (U8 0) ++ le4 0) ∧ Fr p sv w sv' w' := by
  have hU := uint32_any p r sv n 0 (by decide) xs w h hlim
  go_enter Try.func7, Try.ntmps7
  go_wp2_with fail
  refine hU.mono ?_
  rintro e w1 ⟨rfl, sv1, hw1, hf1⟩
  go_wp2_with fail
  exact bodyPost_ret (results_none rfl _ _ _) rfl ⟨rfl, sv1, hw1, hf1⟩

set_option maxHeartbeats 1000000 in
theorem pointer_yes (p : Nat) (r : Nat) (sv : Value) (n : Nat) (xs : List Value) (w : World) (h : Wr p r w sv n xs) (hlim : n ≤ 1048576) :
    Calls Try.prog 7 #[.pointer (some ⟨p, 0, none⟩), .bool true] w fun e w' => e = .returned (.tuple #[]) ∧ ∃ sv', Wr p (((r + 4) % 4294967296 : Nat) : Int) w' sv' (n + pad n + 4) (xs ++ List.replicate (pad n) (U8 0) ++ le4 ((131072 + (r + 4)) % 4294967296)) ∧ Fr p sv w sv' w' := by
  obtain ⟨r', er⟩ : ∃ r', (r + 4) % 4294967296 = r' := ⟨_, rfl⟩
  obtain ⟨v, ev⟩ : ∃ v, (131072 + (r + 4)) % 4294967296 = v := ⟨_, rfl⟩
  have hv2 : v < 4294967296 := by omega
  have er' : ((r : Int) + 4) % 4294967296 = (r' : Int) := by omega
  have ev' : (131072 + ((r : Int) + 4)) % 4294967296 = (v : Int) := by omega
  rw [er, ev]
  have h1 : Wr p (r' : Int) (w.setCell ⟨p, 1, none⟩ (.int .u32 (r' : Int))) sv n xs := ⟨two_set1 h.block, ownsRow_setCell_other h.own (own_ne h.own h.block (by decide)) _⟩
  have hU := uint32_any p (r' : Int) sv n v hv2 xs _ h1 hlim
  have hc1 := two_cell1 h.block
  have hfz := two_free h.block 1
  have HE : Hid (((r : Int) + 4) % 4294967296 = (r' : Int) ∧ (131072 + ((r : Int) + 4)) % 4294967296 = (v : Int)) := ⟨er', ev'⟩
  clear er ev er' ev'
  go_enter Try.func7, Try.ntmps7
  go_wp2_with fail
  rw [HE.out.1, HE.out.2]
  refine hU.mono ?_
  rintro e w1 ⟨rfl, sv1, hw1, hf1⟩
  go_wp2_with fail
  go_end0
  exact ⟨rfl, sv1, hw1, ((Fr.refl p sv w).setCell 1 _).trans hf1⟩

end Go.Proofs.Qxb6628187a
