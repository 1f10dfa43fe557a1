/- FnLobChars: the walks of countChars and of the law. -/
import Derived.Test.YtenefomcbjeccaaLocB
namespace Go.Proofs.Ytenefomcbjeccaa.Kb
open Go Go.RowKit
set_option linter.unusedVariables false
set_option linter.unusedSimpArgs false
set_option maxHeartbeats 2000000
set_option maxRecDepth 100000 in
theorem countChars (p : Value) (A : Option Addr) (n c : Nat) (F bs : List Int) (w : World) (hr : Rd w [] A n bs) (hbs : strOfNums bs = runesBytes F) (hF : F.length ≤ 1000) (hv : ∀ r ∈ F, isV r) :
    Calls Try.prog 35 #[p, .slice A n c] w fun e w' => e = .returned (.int .i64 (cnt F)) ∧ Below w.heap.size w w' := by
  have s1 := str_run (P := Try.prog) (src := 23) (dst := 9) (c := c) Try.underlying23 Try.underlying5 Try.underlying9 hr
  rw [hbs] at s1
  have HV := Hd.mk hv; have HFL := Hd.mk hF
  clear hr hbs hv hF
  obtain ⟨s, hs⟩ : ∃ s, runesBytes F = s := ⟨_, rfl⟩
  rw [hs] at s1
  have HS := Hd.mk hs
  clear hs
  go_enter Try.func35, Try.ntmps35
  go_wp2
  go_loopw [4] (fun a wr => ∃ k pos : Nat, k ≤ F.length ∧ a = .int .i64 (cnt (F.take k)) ∧ wr = w.iter s pos ∧ pos = (runesBytes (F.take k)).size) (fun _ w' => s.size - w'.iterPos w.heap.size)
  case atStart => exact ⟨0, 0, Nat.zero_le _, by simp [cnt], rfl, by simp [runesBytes]⟩
  case round =>
    obtain ⟨k, pos, hk, rfl, rfl, hpos⟩ := hrel
    have hc := cnt_le (F.take k)
    have hfl := HFL.out
    rw [List.length_take] at hc
    by_cases hkl : k < F.length
    · have hvk := HV.out F[k] (List.getElem_mem hkl)
      obtain ⟨hp, hd, hnext⟩ := decode_runes F k hkl hvk
      rw [HS.out, ← hpos] at hp hd
      rw [← hpos] at hnext
      have hnx : ∀ ty, (Instr.next (.pointer (some ⟨w.heap.size, 0, none⟩)) true ty).run Try.prog (w.iter s pos) = _ := fun ty => run_next_any w s pos ty hp
      simp only [hd] at hnx
      have hcn := cnt_next F k hkl
      obtain ⟨r, hr⟩ : ∃ r, F[k] = r := ⟨_, rfl⟩
      rw [hr] at hvk hnext hcn hnx
      have hrn : ((r.toNat : Nat) : Int) = r := by have := hvk.1; omega
      rw [hrn] at hnx
      have hen := encode_pos r
      obtain ⟨m, hm⟩ : ∃ m, (Utf8.encode r).size = m := ⟨_, rfl⟩
      rw [hm] at hnext hnx hen
      obtain ⟨a, ha⟩ : ∃ a, cnt (F.take k) = a := ⟨_, rfl⟩
      rw [ha] at hcn hc ⊢
      have C := Hd.mk (runeLen r (w.iter s (pos + m)) hvk)
      have HCN := Hd.mk hcn; have HN := Hd.mk hnext
      clear hd hvk hr hnext hcn hrn hm ha hpos
      go_wp2_with fail
      with_reducible refine C.out.mono ?_
      rintro e w2 ⟨rfl, q, rfl, hq⟩
      clear C
      by_cases hr : r > 65535
      · rw [if_pos hr] at HCN
        obtain rfl : q = 4 := hq.2 hr
        clear hq hr
        go_wp2
        go_roundw
        case rel => exact ⟨k + 1, pos + m, by omega, by rw [HCN.out]; go_num, rfl, HN.out.symm⟩
        case measure => simp; omega
      · rw [if_neg hr] at HCN
        have hq4 : ¬ q = 4 := fun h => hr (hq.1 h)
        clear hq hr
        go_wp2
        go_roundw
        case rel => exact ⟨k + 1, pos + m, by omega, by rw [HCN.out]; go_num, rfl, HN.out.symm⟩
        case measure => simp; omega
    · have hp : ¬ pos < s.size := by
        rw [hpos, ← HS.out, List.take_of_length_le (by omega)]
        omega
      have hnx : ∀ ty, (Instr.next (.pointer (some ⟨w.heap.size, 0, none⟩)) true ty).run Try.prog (w.iter s pos) = _ := fun ty => run_next_end w s pos ty hp
      rw [List.take_of_length_le (by omega)]
      clear hpos
      go_wp2
      go_ret
      exact ⟨rfl, (Below.refl _ _).alloc (Nat.le_refl _) _⟩
set_option maxRecDepth 100000 in
theorem zzChars (A : Option Addr) (n c : Nat) (F bs : List Int) (w : World) (hr : Rd w [] A n bs) (hbs : strOfNums bs = runesBytes F) (hF : F.length ≤ 1000) (hv : ∀ r ∈ F, isV r) :
    Calls Try.prog 18 #[.slice A n c] w fun e w' => e = .returned (.int .i64 (cnt F)) ∧ Below w.heap.size w w' := by
  have C := Hd.mk (fun (p : Value) (w1 : World) (hb : Below w.heap.size w w1) => countChars p A n c F bs w1 (hr.below hb) hbs hF hv)
  clear hr hbs hv hF
  go_enter Try.func18, Try.ntmps18
  go_wp2_with fail
  have hb1 : ∀ o, Below w.heap.size w (w.alloc o) := fun o => (Below.refl _ _).alloc (Nat.le_refl _) o
  with_reducible refine (C.out _ _ (hb1 _)).mono ?_
  rintro e w2 ⟨rfl, hb⟩
  have HB := Hd.mk ((hb1 _).trans (hb.mono (by simp)))
  clear hb hb1 C
  go_wp2
  go_ret
  exact ⟨rfl, HB.out⟩
set_option maxRecDepth 100000 in
theorem lobChars (A : Option Addr) (n c : Nat) (F bs : List Int) (w : World) (hr : Rd w [] A n bs) (hbs : strOfNums bs = runesBytes F) (hF : F.length ≤ 1000) (hv : ∀ r ∈ F, isV r) :
    Calls Try.prog 9 #[.slice A n c] w fun e w' => e = .returned (.int .i64 (cnt F)) ∧ Below w.heap.size w w' := by
  have C := Hd.mk (zzChars A n c F bs w hr hbs hF hv)
  clear hr hbs hv hF
  go_enter Try.func9, Try.ntmps9
  go_wp2_with fail
  with_reducible refine C.out.mono ?_
  rintro e w2 ⟨rfl, hb⟩
  have HB := Hd.mk hb
  clear hb C
  go_wp2
  go_ret
  exact ⟨rfl, HB.out⟩
/-- []byte(b) of a new row of bytes: the same row. -/
theorem same_run {P : Program} {T t : TypeId} (w : World) (cs : Array Value) (n c : Nat) (hs : P.underlying T = some (.slice t)) (he : P.underlying t = some (.int .u8)) :
    ∃ w', (convert T T (.slice (some ⟨w.heap.size, 0, none⟩) n c)).run P (w.alloc (.cells cs t)) = .ok (.slice (some ⟨w.heap.size, 0, none⟩) n c) w' ∧ w'.heap[w.heap.size]? = some (.cells cs t (cs.size, cs.size + 1)) ∧ w'.heap.size = w.heap.size + 1 ∧ Below w.heap.size w w' := by
  have hsh : (w.alloc (.cells cs t)).shape? w.heap.size = some (t, cs.size) := by
    simp [World.shape?, World.alloc, -World.alloc_eq]
  refine ⟨(w.alloc (.cells cs t)).freeze ⟨w.heap.size, cs.size, none⟩ 1, ?_, ?_, ?_, ?_⟩
  · simp [convert, run_underlying hs, run_underlying he, markStringish, hsh, Result.andThen]
  · simp [World.freeze, World.alloc, -World.alloc_eq]
    rw [Array.getElem_modify_self]
    simp
  · simp [World.freeze, World.alloc, -World.alloc_eq]
  · refine ⟨rfl, rfl, rfl, by simp [World.freeze, World.alloc, -World.alloc_eq], fun k hk => ?_⟩
    have h1 : w.heap.size ≠ k := by omega
    simp [World.freeze, World.alloc, -World.alloc_eq, Array.getElem?_modify, Array.getElem?_push, h1, Ne.symm h1]
theorem map_ok (xs : List Int) : ∀ r ∈ xs.map fit1, isV r := by
  intro r hr
  obtain ⟨x, _, rfl⟩ := List.mem_map.1 hr
  have := fit1_ok x
  exact ⟨this.1, this.2.1, this.2.2.1⟩
set_option maxRecDepth 100000 in
theorem law_lobChars (A : Option Addr) (n c m : Nat) (xs : List Int) (w : World) (hm : n ≤ 60 ∧ m = n ∨ 60 < n ∧ m = 60) (hbig : n ≤ 2147483647) (hnc : n ≤ c) (hcc : c ≤ 9223372036854775807) (hr : RdI w A n xs) :
    Calls Try.prog 3 #[.slice A n c] w fun e w' => e = .returned (.bool true) ∧ Below w.heap.size w w' := by
  have C := Hd.mk (ceChars A n c m xs w hm hnc hcc hr)
  have hv := map_ok (xs.take m)
  have hl : ((xs.take m).map fit1).length = m := by have := hr.len; simp; omega
  have hm60 : m ≤ 60 := by omega
  obtain ⟨F, hF⟩ : ∃ F, (xs.take m).map fit1 = F := ⟨_, rfl⟩
  rw [hF] at C hv hl
  have HV := Hd.mk hv; have HL := Hd.mk hl
  have hnb : ¬ (2147483647 : Int) < n := by omega
  clear hF hr hm hv hl
  go_enter Try.func3, Try.ntmps3
  go_wp2_with fail
  with_reducible refine C.out.mono ?_
  rintro e w1 ⟨A1, c1, A2, c2, rfl, hr1, hr2, hb⟩
  have R1 := Hd.mk hr1; have HB := Hd.mk hb
  have C1 := Hd.mk (lobChars (some A2) _ c2 F _ w1 hr2 (str_nums _) (by have := HL.out; omega) HV.out)
  obtain ⟨z, hz⟩ : ∃ z, (runesBytes F).size = z := ⟨_, rfl⟩
  rw [hz] at C1 ⊢
  clear hr1 hr2 hb C hz
  go_wp2
  go_loopw [4, 17] (fun a i wr => ∃ k : Nat, k ≤ m ∧ a = .int .i64 (cnt (F.take k)) ∧ i = .int .i64 k ∧ wr = w1) (fun _ i _ => m - (intOf i).toNat)
  case atStart => exact ⟨0, Nat.zero_le _, by simp [cnt], rfl, rfl⟩
  case round =>
    obtain ⟨k, hk, rfl, rfl, rfl⟩ := hrel
    have hl := HL.out
    have hc := cnt_le (F.take k)
    rw [List.length_take] at hc
    by_cases hkl : k < m
    · have hkf : k < F.length := by omega
      obtain ⟨ad, rfl, hc1, _⟩ := R1.out.at_ k hkf
      have hcn := cnt_next F k hkf
      obtain ⟨r, hr⟩ : ∃ r, F[k] = r := ⟨_, rfl⟩
      obtain ⟨a, ha⟩ : ∃ a, cnt (F.take k) = a := ⟨_, rfl⟩
      rw [ha] at hcn hc ⊢
      rw [hr] at hcn hc1
      have HCN := Hd.mk hcn
      clear hcn hl ha hr
      by_cases hr : r > 65535
      · rw [if_pos hr] at HCN
        go_wp2
        go_roundw
        case rel => exact ⟨k + 1, by omega, by rw [HCN.out]; go_num, by go_num, by simp⟩
        case measure => simp [intOf]; omega
      · rw [if_neg hr] at HCN
        go_wp2
        go_roundw
        case rel => exact ⟨k + 1, by omega, by rw [HCN.out]; go_num, by go_num, by simp⟩
        case measure => simp [intOf]; omega
    · obtain rfl : k = m := by omega
      rw [List.take_of_length_le (by omega)] at hc ⊢
      obtain ⟨a, ha⟩ : ∃ a, cnt F = a := ⟨_, rfl⟩
      rw [ha] at hc ⊢
      simp only [ha] at C1
      clear hl ha
      go_wp2_with fail
      with_reducible refine C1.out.mono ?_
      rintro e w2 ⟨rfl, hb2⟩
      obtain ⟨w4, hcv, hcell, hsz, hb4⟩ := same_run (P := Try.prog) (T := 23) (t := 5) w2 #[.int .u8 97] 1 1 Try.underlying23 Try.underlying5
      have hrd : Rd w4 [] (some ⟨w2.heap.size, 0, none⟩) 1 [97] := ⟨rfl, by decide, fun j hj => ⟨_, rfl, by
        have : j = 0 := by simp at hj; exact hj
        subst this
        show w4.cell? ⟨w2.heap.size, 0, none⟩ = _
        simp [World.cell?, hcell], by rw [hsz]; exact Nat.lt_succ_self _, by simp⟩⟩
      have hb2' := HB.out.trans (hb2.mono HB.out.size)
      have HB2 := Hd.mk (hb2'.trans (hb4.mono hb2'.size))
      have C2 := Hd.mk (lobChars (some ⟨w2.heap.size, 0, none⟩) 1 1 [97] [97] w4 hrd (by decide +kernel) (by decide) (by simp [isV]))
      clear hrd hb2 hb2' hb4 hcell hsz C1
      go_wp2_with fail
      with_reducible refine C2.out.mono ?_
      rintro e w3 ⟨rfl, hb3⟩
      have HB3 := Hd.mk (HB2.out.trans (hb3.mono HB2.out.size))
      clear hb3 C2
      go_wp2
      go_ret
      exact ⟨by simp [cnt], HB3.out⟩
theorem FnLobChars (a : Option Addr) (len cap : Nat) (zs : List Int) (w : World) (h : (a = none ∧ len = 0 ∧ cap = 0 ∧ zs = []) ∨ ∃ x, a = some x ∧ len ≤ cap ∧ cap ≤ maxLen ∧ zs.length = cap ∧ (∀ i, i < zs.length → w.cell? (x.add i) = some (.int .i32 (zs.getD i 0))) ∧ ∀ n ∈ zs, (Lit.int .i32 n).wf = true) (hs : len * 4 ≤ 140737488351232) :
    Calls Try.prog 3 #[.slice a len cap] w fun e w' => e = .returned (.bool true) ∧ Below w.heap.size w w' := by
  by_cases hbig : len > 2147483647
  · have hbig' : (2147483647 : Int) < len := by omega
    clear h hs
    go_enter Try.func3, Try.ntmps3
    go_wp2
    go_ret
    exact ⟨rfl, Below.refl _ _⟩
  obtain ⟨m, hm⟩ : ∃ m : Nat, len ≤ 60 ∧ m = len ∨ 60 < len ∧ m = 60 := by
    by_cases h : len ≤ 60
    · exact ⟨len, .inl ⟨h, rfl⟩⟩
    · exact ⟨60, .inr ⟨by omega, rfl⟩⟩
  rcases h with ⟨rfl, rfl, rfl, rfl⟩ | ⟨x, rfl, h1, h2, h3, h4, h5⟩
  · exact law_lobChars none 0 0 m [] w hm (by omega) (Nat.le_refl _) (by omega) ⟨rfl, fun j hj => by simp at hj⟩
  · unfold maxLen at h2
    refine law_lobChars (some x) len cap m (zs.take len) w hm (by omega) h1 h2 ⟨by simp; omega, fun j hj => ⟨x, rfl, ?_, ?_⟩⟩
    · simp at hj
      rw [h4 j (by omega)]
      have hjz : j < zs.length := by omega
      simp [List.getD_eq_getElem?_getD, hjz]
    · simp at hj
      have := lt_of_cell (h4 j (by omega))
      rwa [add_block] at this
end Go.Proofs.Ytenefomcbjeccaa.Kb
