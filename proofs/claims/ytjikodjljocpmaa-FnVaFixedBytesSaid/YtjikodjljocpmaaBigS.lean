/- math/big: nat.add of one word to a number, in place or not. -/
import Derived.Test.YtjikodjljocpmaaBigR
namespace Go.Proofs.Ytjikodjljocpmaa.Kb
open Go Go.RowKit
set_option linter.unusedVariables false
set_option linter.unusedSimpArgs false
set_option maxHeartbeats 1000000
/-- What nat.add answers where one of the two is none. -/
def PutOut (w : World) (g c b : Nat) (e : Ending) (w' : World) : Prop := e = .returned (.slice (some ⟨g, 0, none⟩) 1 c) ∧ w' = w.setCell ⟨g, 0, none⟩ (.int .u64 b)
set_option maxRecDepth 100000 in
theorem addSwap (g c gy cy b N : Nat) (f : Nat → Value) (t : List Value) (w : World) (hz : Blk w g (mapR f N t) 91) (hN : 1 ≤ N) (hc0 : 1 ≤ c) (hc : c ≤ 8796093022208) (hy : w.cell? ⟨gy, 0, none⟩ = some (.int .u64 b)) :
    Calls Try.prog 67 #[.slice (some ⟨g, 0, none⟩) 0 c, .slice (some ⟨gy, 0, none⟩) 1 cy, .slice (some ⟨g, 0, none⟩) 0 c] w fun e w' => PutOut w g c b e w' := by
  have C := Hd.mk (natSet1 g 0 c gy cy b N f t w hz hN hc0 hc hy)
  clear hz hy
  go_enter Try.func67, Try.ntmps67
  go_wp2_with fail
  with_reducible refine C.out.mono ?_
  rintro e w2 ⟨rfl, rfl⟩
  go_wp2
  go_ret
  exact ⟨rfl, rfl⟩
set_option maxRecDepth 100000 in
theorem addNone (g c gy cy b N : Nat) (f : Nat → Value) (t : List Value) (w : World) (hz : Blk w g (mapR f N t) 91) (hN : 1 ≤ N) (hc0 : 1 ≤ c) (hc : c ≤ 8796093022208) (hy : w.cell? ⟨gy, 0, none⟩ = some (.int .u64 b)) :
    Calls Try.prog 67 #[.slice (some ⟨g, 0, none⟩) 0 c, .slice (some ⟨g, 0, none⟩) 0 c, .slice (some ⟨gy, 0, none⟩) 1 cy] w fun e w' => PutOut w g c b e w' := by
  have C := Hd.mk (addSwap g c gy cy b N f t w hz hN hc0 hc hy)
  clear hz hy
  go_enter Try.func67, Try.ntmps67
  go_wp2_with fail
  with_reducible refine C.out.mono ?_
  rintro e w2 ⟨rfl, rfl⟩
  go_wp2
  go_ret
  exact ⟨rfl, rfl⟩
theorem natAddW (g l c cy gy a b : Nat) (f : Nat → Value) (t : List Value) (w : World) (hz : Blk w g (mapR f c t) 91) (hlc : l ≤ c) (hc0 : 1 ≤ c) (hc : c ≤ 1000) (ha : a < WB ^ l) (hf : ∀ j, j < l → f j = .int .u64 (limb WB a j))
    (hb0 : 0 < b) (hb : b < WB) (hy : w.cell? ⟨gy, 0, none⟩ = some (.int .u64 b)) (hy2 : gy < w.heap.size) (hy3 : gy ≠ g) (hcy : 1 ≤ cy) :
    Calls Try.prog 67 #[.slice (some ⟨g, 0, none⟩) l c, .slice (some ⟨g, 0, none⟩) l c, .slice (some ⟨gy, 0, none⟩) 1 cy] w fun e w' => SumOut w g (a + b) e w' := by
  rcases Nat.eq_zero_or_pos l with rfl | hl
  · obtain rfl : a = 0 := by simpa using ha
    refine (addNone g c gy cy b c f t w hz hc0 hc0 (by omega) hy).mono ?_
    rintro e w' ⟨rfl, rfl⟩
    rw [Nat.zero_add]
    refine ⟨_, _, _, rfl, ⟨?_, .inr (by rw [Nat.sub_self, Nat.pow_zero]; exact hb0)⟩, gb_set w g 0 _, fun ad h => by cases h; exact .inl rfl⟩
    refine blk_dig ((hz.set 0 (.int .u64 b)).cast (mapR_set (by omega))) hc0 hc0 (by omega) (by rwa [Nat.pow_one]) (fun j hj => ?_)
    obtain rfl : j = 0 := by omega
    rw [if_pos rfl]
    unfold limb
    rw [Nat.pow_zero, Nat.div_one, Nat.mod_eq_of_lt hb]
  · rcases Nat.lt_or_ge l c with h | h
    · exact addPlace g l c cy gy a b f t w hz hl h (by omega) ha hf hb hy hy2 hy3 hcy
    · exact addGrow g l c cy gy a b f t w hz hl (by omega) hc ha hf hb hy hy2 hcy
end Go.Proofs.Ytjikodjljocpmaa.Kb
