/- sort.SearchFloat64s: the contract. -/
import Derived.Test.Qxb6628331aSlices
namespace Go.Proofs.Qxb6628331a
open Go.RowKit

set_option maxHeartbeats 400000 in
theorem pred_any (B b1 b2 : Nat) (ao : Option Addr) (n cap i v : Nat) (f : Nat → Nat) (w : World) (hi : i < n) (hf : Fl B w ao n f)
    (h1 : w.cell? ⟨b1, 0, none⟩ = some (.slice ao n cap)) (h2 : w.cell? ⟨b2, 0, none⟩ = some (.float .f64 v)) :
    Calls Try.prog 24 #[.int .i64 i, .pointer (some ⟨b1, 0, none⟩), .pointer (some ⟨b2, 0, none⟩)] w fun e w' => e = .returned (.bool (le v (f i))) ∧ ∃ nq, w' = w.drewN nq := by
  obtain ⟨g, off, rfl, _, hc⟩ : ∃ g off, ao = some ⟨g, off, none⟩ ∧ g < B ∧ ∀ i, i < n → w.cell? ⟨g, off + i, none⟩ = some (.float .f64 (f i)) := by
    rcases hf with h | h
    · omega
    · exact h
  have c1 := hc i hi
  have hi' : (i : Int) < (n : Int) := by omega
  clear hc
  rw [← ge_eq]
  go_enter Try.func24, Try.ntmps24
  go_wp2
  go_quiet (fail)
  go_wp2
  go_ret
  exact ⟨rfl, _, rfl⟩

set_option maxHeartbeats 1000000 in
theorem search_any (n : Nat) (pa px : Value) (P : Nat → Bool) (w : World) (hn : n ≤ 65536) (hm : Mono n P)
    (hp : ∀ nq i, i < n → Calls Try.prog 24 #[.int .i64 i, pa, px] (w.drewN nq) fun e w' => e = .returned (.bool (P i)) ∧ ∃ nq', w' = (w.drewN nq).drewN nq') :
    Calls Try.prog 23 #[.int .i64 n, .func (.func 24) #[] #[pa, px]] w fun e w' => (∃ k : Nat, e = .returned (.int .i64 k) ∧ IsIx n P k) ∧ ∃ nq, w' = w.drewN nq := by
  have HP : Hid (∀ nq i, i < n → Calls Try.prog 24 #[.int .i64 i, pa, px] (w.drewN nq) fun e w' => e = .returned (.bool (P i)) ∧ ∃ nq', w' = (w.drewN nq).drewN nq') := hp
  have HM : Hid (Mono n P) := hm
  clear hp hm
  go_enter Try.func23, Try.ntmps23
  go_wp2
  go_loopg [5, 6] n (fun q i j wr => ∃ lo hi nq : Nat, lo ≤ hi ∧ hi ≤ n ∧ q = hi - lo ∧ i = .int .i64 lo ∧ j = .int .i64 hi ∧ wr = w.drewN nq ∧ (∀ t, t < lo → P t = false) ∧ ∀ t, hi ≤ t → t < n → P t = true)
  case atStart => exact ⟨0, n, 0, Nat.zero_le _, Nat.le_refl _, by omega, rfl, rfl, rfl, fun t ht => by omega, fun t h1 h2 => by omega⟩
  case round =>
    obtain ⟨lo, hi, nq, h1, h2, rfl, rfl, rfl, rfl, hlo, hhi⟩ := hrel
    have HX : Hid ((∀ t, t < lo → P t = false) ∧ ∀ t, hi ≤ t → t < n → P t = true) := ⟨hlo, hhi⟩
    clear hlo hhi
    by_cases hlt : lo < hi
    · obtain ⟨m, em⟩ : ∃ m, (lo + hi) / 2 = m := ⟨_, rfl⟩
      have hm1 : lo ≤ m := by omega
      have hm2 : m < hi := by omega
      have em' : ((lo : Int) + (hi : Int)) / 2 = (m : Int) := by omega
      clear em
      cases hpm : P m
      · have HB : Hid (∀ t, t < m + 1 → P t = false) := by
          intro t ht
          cases ht2 : P t
          · rfl
          · have := HM.out t m (by omega) (by omega) ht2
            rw [hpm] at this; cases this
        go_wp2_with fail
        refine (HP.out nq m (by omega)).mono ?_
        rw [hpm]
        rintro e w1 ⟨rfl, nq', rfl⟩
        clear hpm
        go_wp2_with fail
        go_roundg (hi - (m + 1))
        case measure => omega
        case rel => exact ⟨m + 1, hi, _, by omega, h2, rfl, by go_num, rfl, rfl, HB.out, HX.out.2⟩
      · have HB : Hid (∀ t, m ≤ t → t < n → P t = true) := fun t h3 h4 => HM.out m t h3 h4 hpm
        go_wp2_with fail
        refine (HP.out nq m (by omega)).mono ?_
        rw [hpm]
        rintro e w1 ⟨rfl, nq', rfl⟩
        clear hpm
        go_wp2_with fail
        go_roundg (m - lo)
        case measure => omega
        case rel => exact ⟨lo, m, _, by omega, by omega, rfl, rfl, rfl, rfl, HX.out.1, HB.out⟩
    · have e : lo = hi := by omega
      subst e
      go_wp2_with fail
      go_ret
      exact ⟨⟨lo, rfl, h2, HX.out.1, HX.out.2⟩, _, rfl⟩

set_option maxHeartbeats 1000000 in
theorem searchF_any (B : Nat) (ao : Option Addr) (n cap v : Nat) (f : Nat → Nat) (w : World) (hn : n ≤ 65536) (hB : B ≤ w.heap.size) (hf : Fl B w ao n f) (ha : Asc n f) :
    Calls Try.prog 17 #[.slice ao n cap, .float .f64 v] w fun e w' => (∃ k : Nat, e = .returned (.int .i64 k) ∧ IsIx n (fun i => le v (f i)) k) ∧ Below w.heap.size w w' := by
  have hmf : ∀ (fn : Fn) (first cap : Array Value) (w : World), (Instr.makeFunc fn first cap).run Try.prog w = .ok (.func fn first cap) w := fun _ _ _ _ => rfl
  have hmono := ha.mono v
  have hb : Below w.heap.size w ((w.alloc (.cells #[.slice ao n cap] 22)).alloc (.cells #[.float .f64 v] 25)) := ((Below.refl _ _).alloc (Nat.le_refl _) _).alloc (by simp) _
  have hf2 : Fl B ((w.alloc (.cells #[.slice ao n cap] 22)).alloc (.cells #[.float .f64 v] 25)) ao n f := hf.later (hb.mono hB)
  have hS := search_any n (.pointer (some ⟨w.heap.size, 0, none⟩)) (.pointer (some ⟨w.heap.size + 1, 0, none⟩)) (fun i => le v (f i)) ((w.alloc (.cells #[.slice ao n cap] 22)).alloc (.cells #[.float .f64 v] 25)) hn hmono
    (fun nq i hi => pred_any B w.heap.size (w.heap.size + 1) ao n cap i v f _ hi hf2 (by simp) (by simp))
  clear hf hf2 ha hmono
  go_enter Try.func17, Try.ntmps17
  go_wp2_with fail
  refine hS.mono ?_
  rintro e w1 ⟨⟨k, rfl, hk⟩, nq, rfl⟩
  have HK : Hid (IsIx n (fun i => le v (f i)) k) := hk
  clear hk hS
  go_wp2_with fail
  go_ret
  exact ⟨⟨k, rfl, HK.out⟩, hb.os, hb.tape, hb.output, hb.size, hb.block⟩

end Go.Proofs.Qxb6628331a
