/- Versions: strconv.FormatUint at base 10, formatUint64. -/
import Derived.Test.YtagmjdhjhjlffaaDoorVerP
import Derived.Test.YtagmjdhjhjlffaaDoorShelf
import Derived.Test.YtagmjdhjhjlffaaDoorStep
import Derived.Lib.Walk
namespace Go.Proofs.YtagmjdhjhjlffaaDoor.Kb
open Go Go.RowKit Go.Sort
set_option linter.unusedVariables false
set_option linter.unusedSimpArgs false
set_option maxHeartbeats 6400000
def Pow (w : World) : Prop := Lib.TabIs Tryd.prog w "internal/strconv.uint64pow10" .u64 Lib.pow10Tab
/-- What FormatUint(u, 10) leaves. -/
def FmtU (u : Nat) (w : World) (e : Ending) (w' : World) : Prop := e = .returned (.string (S (Lib.decDigits u))) ∧ Below w.heap.size w w'
theorem bel_grow (w : World) (k : Nat) (os : Array Obj) : Below w.heap.size w (grow (w.drewN k) os) :=
  ⟨rfl, rfl, rfl, by simp [grow, World.drewN], fun j hj => by simp [grow, World.drewN, Array.getElem?_append, hj]⟩
theorem holds_zero0 (w : World) (T : TypeId) (nd : Nat) (hs : nd ≤ 24) : Holds (fun (b : UInt8) => Value.int .u8 (b.toNat : Int)) (w.alloc (.cells Lib.zeros24 T)) w.heap.size 0 (Array.replicate nd (0 : UInt8)) := fun j hj => by
  have hj' : j < nd := by simpa using hj
  refine ⟨?_, World.frozen?_alloc_new _ _ _ _⟩
  rw [World.cell?_alloc_new, Lib.zeros24_at _ (by omega), getElem!_pos _ j hj]
  simp
set_option maxRecDepth 100000 in
theorem inner_format (u : Nat) (hu64 : u < 18446744073709551616) (w : World) (htab : Pow w) : Calls Tryd.prog 31 #[.int .u64 u, .int .i64 10] w fun e w' => FmtU u w e w' := by
  by_cases hs : u < 100
  · have C := fun w => Hd.mk (Tryd.internal_strconv_small u hs w)
    have hlt : (u : Int) < 100 := by omega
    go_enter Tryd.func31, Tryd.ntmps31
    go_wp2_with fail
    with_reducible refine (C _).out.mono ?_
    rintro e w1 ⟨rfl, rfl⟩
    go_wp2
    go_ret
    exact ⟨rfl, Below.refl _ _⟩
  · have hge : ¬ (u : Int) < 100 := by omega
    have hu1 : 1 ≤ u := by omega
    have hnd20 : Lib.nDigits u ≤ 20 := by have := Lib.numDigits_eq u hu1 hu64; split at this <;> omega
    have hb3 : Lib.nDigits u ≤ 24 := by omega
    have hal : Tryd.prog.arrayLen 69 = 24 := by kernel_rfl
    have hsl1 : ∀ W, (Instr.sliceAt 69 (.pointer (some ⟨w.heap.size, 0, none⟩)) none (some (.int .i64 (Lib.nDigits u : Int))) none).run Tryd.prog W = .ok (.slice (some ⟨w.heap.size, 0, none⟩) (Lib.nDigits u) 24) W := fun W => by
      rw [run_sliceAt_array_h W 69 ⟨w.heap.size, 0, none⟩ (by kernel_rfl) .i64 (Lib.nDigits u : Int) (by omega) (by rw [hal]; omega), hal]
      rfl
    have hH0 := holds_zero0 w 69 (Lib.nDigits u) hb3
    have hnum := fun W h => Tryd.internal_strconv_numDigits u hu1 hu64 W h
    have hfmt := Tryd.internal_strconv_formatBase10 w.heap.size 0 24 u (Array.replicate (Lib.nDigits u) 0) (w.alloc (.cells Lib.zeros24 69)) hH0 (by rw [Array.size_replicate]; exact Lib.lt_pow_nDigits u) hu64 (by rw [Array.size_replicate]; omega)
    rw [Array.size_replicate] at hfmt
    have HN := Hd.mk (hnum _ (Lib.tabIs_alloc htab (.cells Lib.zeros24 69)))
    have HF := Hd.mk hfmt
    have HH0 := Hd.mk hH0
    clear hH0 hal hfmt hnum htab
    go_enter Tryd.func31, Tryd.ntmps31
    go_wp2_with fail
    refine HN.out.mono ?_
    rintro e w1 ⟨rfl, rfl⟩
    go_wp2_with fail
    refine HF.out.mono ?_
    rintro e w1 ⟨rfl, k, v', dk, rfl, hF⟩
    have hcv : (convert 40 9 (.slice (some ⟨w.heap.size, 0, none⟩) (Lib.nDigits u) 24)).run Tryd.prog ((putRow (fun (b : UInt8) => Value.int .u8 (b.toNat : Int)) (w.alloc (.cells Lib.zeros24 69)) w.heap.size 0 dk).drewN k) = .ok (.string ⟨(Lib.decDigits u).toArray⟩) ((putRow (fun (b : UInt8) => Value.int .u8 (b.toNat : Int)) (w.alloc (.cells Lib.zeros24 69)) w.heap.size 0 dk).drewN k) := by
      have h := run_convert_bytes_back (P := Tryd.prog) ((putRow (fun (b : UInt8) => Value.int .u8 (b.toNat : Int)) (w.alloc (.cells Lib.zeros24 69)) w.heap.size 0 dk).drewN k) 40 9 5 ⟨w.heap.size, 0, none⟩ 24 (Lib.decDigits u) Tryd.underlying40 Tryd.underlying5 Tryd.underlying9 (fun j hj => by
        rw [Lib.row_is_numeral hF j hj, Lib.add_plain, World.cell?_drewN]
        exact cell?_putRow (fun (b : UInt8) => Value.int .u8 (b.toNat : Int)) _ w.heap.size 0 _ dk HH0.out (by rw [hF.size, Array.size_replicate]) j (by rw [hF.size]; rw [Lib.decDigits_length] at hj; exact hj))
      rw [Lib.decDigits_length] at h
      exact h
    have HB : Hd (Below w.heap.size w ((putRow (fun (b : UInt8) => Value.int .u8 (b.toNat : Int)) (w.alloc (.cells Lib.zeros24 69)) w.heap.size 0 dk).drewN k)) := ⟨by
      obtain ⟨os', _, e⟩ := putRow_grow_new (fun (b : UInt8) => Value.int .u8 (b.toNat : Int)) w #[.cells Lib.zeros24 69] w.heap.size 0 dk (Nat.le_refl _)
      rw [alloc_eq_grow, e]
      exact bel_grow w k os'⟩
    clear hF
    go_wp2
    go_ret
    exact ⟨rfl, HB.out⟩
set_option maxRecDepth 100000 in
theorem formatUint (u : Nat) (hu64 : u < 18446744073709551616) (w : World) (htab : Pow w) : Calls Tryd.prog 22 #[.int .u64 u, .int .i64 10] w fun e w' => FmtU u w e w' := by
  have C := Hd.mk (inner_format u hu64 w htab)
  clear htab
  go_enter Tryd.func22, Tryd.ntmps22
  go_wp2_with fail
  with_reducible refine C.out.mono ?_
  rintro e w1 ⟨rfl, hb⟩
  have HB := Hd.mk hb
  clear hb C
  go_wp2
  go_ret
  exact ⟨rfl, HB.out⟩
end Go.Proofs.YtagmjdhjhjlffaaDoor.Kb
