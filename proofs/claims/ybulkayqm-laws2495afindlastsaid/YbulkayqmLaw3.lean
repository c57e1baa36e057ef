/-
  SEAT b2495a: LawS2495AFindLast (3): the walk.
-/
import Derived.Test.YbulkayqmStep
import Derived.Deep.Cut
import Derived.Deep.CutRange
import Derived.Deep.OwnRows
namespace Go.Proofs.Ybulkayqm
open Go.RowKit Go.Bufs

theorem Yba.info3 : (Yba.prog.info? 3).map (fun i => (i.zero, i.size, i.bytes)) = some (some (.int .i64 0), 1, 8) := by kernel_rfl

/-- The row of firsts that make lays. -/
def madeF (len : Nat) : Array Value := madeCells #[.int .i64 0] len
theorem make33 (len : Nat) (hl : len ≤ 1024) (w : World) : (Instr.makeSlice 33 (.int .i64 (len : Int)) (.int .i64 (len : Int))).run Yba.prog w = .ok (.slice (some ⟨w.heap.size, 0, none⟩) len len) (w.alloc (.cells (madeF len) 3)) :=
  run_make_row' 33 3 _ 8 Yba.underlying33 Yba.info3 rfl .i64 .i64 len (by omega) (by omega) w

theorem firsts_new (wr : World) (len : Nat) : ∀ i, i < len → (wr.alloc (.cells (madeF len) 3)).frozen? ⟨wr.heap.size, i, none⟩ = false ∧ ((wr.alloc (.cells (madeF len) 3)).cell? ⟨wr.heap.size, i, none⟩).isSome = true := by
  intro i hi
  refine ⟨World.frozen?_alloc_new wr _ _ i, ?_⟩
  have e : (wr.alloc (.cells (madeF len) 3)).cell? ⟨wr.heap.size, i, none⟩ = _ := World.cell?_alloc_new wr _ _ i
  rw [e, Array.getElem?_eq_getElem (by unfold madeF; rw [size_madeCells]; exact hi)]
  rfl

/-- What the walk is told of the steps. -/
def StepsIs (w : World) (a : Option Addr) (len : Nat) (P : Nat → Nat) (ys : Nat → Int) : Prop :=
  len = 0 ∨ ∃ b off, a = some ⟨b, off, none⟩ ∧ b < w.heap.size ∧ ∀ i, i < len → w.cell? ⟨b, off + i * 2, none⟩ = some (.int .u8 (P i : Int)) ∧ w.cell? ⟨b, off + i * 2 + 1, none⟩ = some (.int .i64 (ys i)) ∧ P i < 256

theorem back (i : Nat) : (i = 0 ∧ Value.int .i64 ((i : Int) - 1) = .int .i64 (-1)) ∨ ∃ j : Nat, i = j + 1 ∧ Value.int .i64 ((i : Int) - 1) = .int .i64 (j : Int) := by
  cases i with
  | zero => exact .inl ⟨rfl, rfl⟩
  | succ j => exact .inr ⟨j, rfl, by congr 1; omega⟩

set_option maxRecDepth 100000 in
set_option maxHeartbeats 3200000 in
theorem last_small (n q pick M : Nat) (y : Int) (a : Option Addr) (len c : Nat) (P : Nat → Nat) (fs ys : Nat → Int) (w : World) (hn : n < 256) (hq : q < 256) (hp : pick < 256) (hM : n % 8 + 1 = M) (hlen : len ≤ 1024)
    (hst : StepsIs w a len P ys) (hfs : ∀ i, (P i : Int) % ((M : Int) + 1) - 1 = fs i) :
    Calls Yba.prog 3 #[.int .u8 (n : Int), .slice a len c, .int .u8 (q : Int), .int .u8 (pick : Int), .int .i64 y] w fun e w' => e = .returned (.bool true) ∧ Below w.heap.size w w' := by
  have HS : Hid (StepsIs w a len P ys) := hst
  have HF : Hid (∀ i, (P i : Int) % ((M : Int) + 1) - 1 = fs i) := hfs
  clear hst hfs
  have hM8 : M ≤ 8 := by omega
  have hM' : (n : Int) % 8 + 1 = (M : Int) := by omega
  have mk24 := make24 M hM8
  have mk25 := make25 len hlen
  have mk33 := make33 len hlen
  go_enter Yba.func3, Yba.ntmps3
  go_upto_region 4 with fail
  go_cut [12] from 30 to 36 (fun p wx => ∃ X H C, p = .pointer (some ⟨X, 0, none⟩) ∧ R1 w wx X H C M len 0)
  case first =>
    go_region
    all_goals go_wp2_with fail
    all_goals go_meet
    · exact ⟨_, _, _, rfl, R1.start1 w M len hlen⟩
    · exact ⟨_, _, _, rfl, R1.start2 w M len hlen⟩
  case rest =>
    obtain ⟨X, H, C, rfl, hR⟩ := hcut
    clear mk24 mk25
    have x2 := hR.x2
    go_wp2_with fail
    go_loopw [42] (fun u wr => ∃ i : Nat, i ≤ M ∧ u = .int .i64 (i : Int) ∧ R1 w wr X H C M len i) (fun u _ => M - (intOf u).toNat)
    case atStart => exact ⟨0, Nat.zero_le _, rfl, hR⟩
    case round =>
      obtain ⟨i, hi, rfl, hRi⟩ := hrel
      clear hR x2
      by_cases hlt : i < M
      · have x2 := hRi.x2
        obtain ⟨c1, c2, c3, c4⟩ := hRi.heads i hlt
        go_wp2_with fail
        go_roundw
        case rel => exact ⟨i + 1, by omega, by go_num, hRi.set hlt⟩
        case measure => simp [intOf]; omega
      · obtain rfl : M = i := by omega
        obtain ⟨w1, hw1⟩ : ∃ x, x = wr := ⟨wr, rfl⟩
        subst hw1
        go_wp2_with fail
        go_loopw [58] (fun u wl => ∃ (k : Nat) (cv : Value) (xs : List Value), k ≤ len ∧ u = .int .i64 (k : Int) ∧ St w wl fs ys X H w1.heap.size M len cv xs k k k) (fun u _ => len - (intOf u).toNat)
        case atStart => exact ⟨0, _, _, Nat.zero_le _, rfl, St.start fs ys hRi ((Below.refl _ _).alloc (Nat.le_refl _) _) (by simp) (firsts_new w1 len)⟩
        case round =>
          obtain ⟨k, cv, xs, hk, rfl, hSt⟩ := hrel
          clear hRi mk33
          generalize w1.heap.size = F at *
          by_cases hkl : k < len
          · rcases HS.out with h | ⟨b, off, rfl, hb, hcs⟩
            · omega
            obtain ⟨c0, c1, hPk⟩ := hcs k hkl
            have hfk := HF.out k
            have m0 := Int.emod_nonneg (P k : Int) (show ((M : Int) + 1) ≠ 0 by omega)
            have m1 := Int.emod_lt_of_pos (P k : Int) (show 0 < (M : Int) + 1 by omega)
            have n0 : -1 ≤ fs k := by omega
            have n1 : fs k < 8 := by omega
            have hfr : fs k = -1 ∨ ∃ f : Nat, f < M ∧ fs k = f := by
              by_cases h : fs k = -1
              · exact .inl h
              · exact .inr ⟨(fs k).toNat, by omega, by omega⟩
            have d0 : wr.cell? ⟨b, off + k * 2, none⟩ = some (.int .u8 (P k : Int)) := (hSt.below.cell (p := ⟨b, off + k * 2, none⟩) hb).trans c0
            have d1 : wr.cell? ⟨b, off + k * 2 + 1, none⟩ = some (.int .i64 (ys k)) := (hSt.below.cell (p := ⟨b, off + k * 2 + 1, none⟩) hb).trans c1
            obtain ⟨f1, f2, _⟩ := hSt.firsts k hkl
            obtain ⟨fv, f3⟩ := Option.isSome_iff_exists.1 f2
            have hF := hSt.hF.2
            clear hcs c0 c1 f2
            go_upto_region 16 with fail
            have hS2 := (hSt.setF hkl).keep ((Below.refl (wr.setCell ⟨F, k, none⟩ (.int .i64 (fs k))).heap.size _).alloc (Nat.le_refl _) (.cells #[.int .u8 (P k : Int), .int .i64 (ys k)] 35))
            have hcy : ((wr.setCell ⟨F, k, none⟩ (.int .i64 (fs k))).alloc (.cells #[.int .u8 (P k : Int), .int .i64 (ys k)] 35)).cell? ⟨wr.heap.size, 1, none⟩ = some (.int .i64 (ys k)) := by
              have := World.cell?_alloc_new (wr.setCell ⟨F, k, none⟩ (.int .i64 (fs k))) #[.int .u8 (P k : Int), .int .i64 (ys k)] 35 1
              simpa using this
            generalize (wr.setCell ⟨F, k, none⟩ (.int .i64 (fs k))).alloc (.cells #[.int .u8 (P k : Int), .int .i64 (ys k)] 35) = W at hS2 hcy ⊢
            have x3 := hS2.x3
            have hX := hS2.hX.2
            have hL := link_st (hS2.keep ((Below.refl _ _).drew)) hM8 (by omega) hfr
            obtain ⟨i0, hi0, hz0, hz1, hz2⟩ := info_parts Yba.info37
            clear d0 d1 f1 f3 hF
            go_region_law (first
              | (refine step_append_pair rfl (.tmp 78) (.tmp 84) 25 25 rfl 37 37 i0 _ 16 Yba.underlying25 Yba.underlying25 hi0 hz0 hz1 hz2 rfl cv k xs (by simp [Act.eval]) w3 _ _ _ rfl (by simp [Act.eval]) rfl rfl hS4.chain (by unfold maxLen; omega) (by omega) ?_; intro v4 w4 hB4 hSt4; obtain ⟨x3', fx', hS5⟩ := hS4.appended hB4 hSt4 he3; obtain ⟨a4, c4, rfl, -⟩ := buf_slice hB4)
              | (go_simp; go_wp2_with (go_at_call 6; refine hL.mono ?_; rintro e w3 ⟨l3, rfl, hS4, he3⟩; have x3b := hS4.x3; have hXb := hS4.hX.2)))
            all_goals
              go_wp2_with fail
              go_roundw
              case rel => exact ⟨k + 1, _, _, by omega, by go_num, hS5⟩
              case measure => simp [intOf]; omega
          · obtain rfl : len = k := by omega
            obtain ⟨w2, hw2⟩ : ∃ x, x = wr := ⟨wr, rfl⟩
            subst hw2
            obtain ⟨Q, hQ⟩ : ∃ Q, Q = q % M := ⟨_, rfl⟩
            have hQM : Q < M := by rw [hQ]; exact Nat.mod_lt _ (by omega)
            have hQ' : (q : Int) % (M : Int) = (Q : Int) := by rw [hQ, Int.natCast_emod]
            clear hQ
            by_cases hA : 0 < len
            · rcases HS.out with h | ⟨b, off, rfl, hb, hcs0⟩
              · omega
              have hcs : Hid (∀ i, i < len → w.cell? ⟨b, off + i * 2, none⟩ = some (.int .u8 (P i : Int)) ∧ w.cell? ⟨b, off + i * 2 + 1, none⟩ = some (.int .i64 (ys i)) ∧ P i < 256) := hcs0
              clear hcs0
              by_cases hB : pick % 2 = 0
              · have hB' : ((pick : Int) % 2 == 0) = true := by rw [beq_iff_eq]; omega
                obtain ⟨I, hI⟩ : ∃ I, I = pick / 2 % len := ⟨_, rfl⟩
                have hIl : I < len := by rw [hI]; exact Nat.mod_lt _ hA
                have hI' : (pick : Int) / 2 % (len : Int) = (I : Int) := by rw [hI, Int.natCast_emod]; rfl
                have d1 : w2.cell? ⟨b, off + I * 2 + 1, none⟩ = some (.int .i64 (ys I)) := (hSt.below.cell (p := ⟨b, off + I * 2 + 1, none⟩) hb).trans (hcs.out I hIl).2.1
                clear hI
                go_wp2_with fail
                generalize ys I = qy
                refine (find_st hSt hM8 hlen Q hQM qy).mono ?_
                rintro e w5 ⟨r, rfl, hr, hb5⟩
                have hS5 := hSt.keep hb5
                have HR : Hid (IsLast (hit fs ys Q qy) len 1 r) := hr
                clear hr
                go_wp2_with fail
                go_loopw [21, 22] (fun u v wl => ∃ kk : Nat, kk ≤ len ∧ u = .int .i64 (-1) ∧ ((kk = 0 ∧ v = .int .i64 (-1)) ∨ ∃ i : Nat, kk = i + 1 ∧ v = .int .i64 (i : Int)) ∧ wl = w5 ∧ Hid (∀ i, kk ≤ i → i < len → hit fs ys Q qy i ≠ 1)) (fun _ v _ => (intOf v + 1).toNat)
                case atStart => exact ⟨len, Nat.le_refl _, rfl, back len, rfl, fun i h1 h2 => by omega⟩
                case round =>
                  obtain ⟨kk, hkk, rfl, hv, rfl, hno⟩ := hrel
                  rcases hv with ⟨rfl, rfl⟩ | ⟨i, rfl, rfl⟩
                  · obtain rfl : r = -1 := HR.out.unique (.inl ⟨rfl, fun i hi => hno.out i (Nat.zero_le _) hi⟩)
                    go_wp2_with fail
                    go_ret
                    exact ⟨rfl, hS5.below⟩
                  · have hi : i < len := by omega
                    have d1' : wr.cell? ⟨b, off + i * 2 + 1, none⟩ = some (.int .i64 (ys i)) := (hS5.below.cell (p := ⟨b, off + i * 2 + 1, none⟩) hb).trans (hcs.out i hi).2.1
                    have d2' : wr.cell? ⟨F, i, none⟩ = some (.int .i64 (fs i)) := (hS5.firsts i hi).2.2 hi
                    by_cases h1 : fs i = Q
                    · have h1' : (fs i == (Q : Int)) = true := by rw [beq_iff_eq]; exact h1
                      by_cases h2 : ys i = qy
                      · have h2' : (ys i == qy) = true := by rw [beq_iff_eq]; exact h2
                        obtain rfl : r = (i : Int) := HR.out.unique (.inr ⟨i, rfl, hi, hit_one h1 h2, fun j h3 h4 => hno.out j h3 h4⟩)
                        clear h1 h2
                        go_wp2_with fail
                        go_ret
                        exact ⟨rfl, hS5.below⟩
                      · have h2' : (ys i == qy) = false := by rw [beq_eq_false_iff_ne]; exact h2
                        have hz : hit fs ys Q qy i ≠ 1 := hit_zero fun e => h2 e.2
                        clear h1 h2
                        go_wp2_with fail
                        go_roundw
                        case rel => exact ⟨i, by omega, by first | rfl | trivial, back i, by first | rfl | trivial, fun j h3 h4 => by rcases Nat.eq_or_lt_of_le h3 with h | h; (subst h; exact hz); exact hno.out j h h4⟩
                        case measure => simp [intOf] <;> omega
                    · have h1' : (fs i == (Q : Int)) = false := by rw [beq_eq_false_iff_ne]; exact h1
                      have hz : hit fs ys Q qy i ≠ 1 := hit_zero fun e => h1 e.1
                      clear h1
                      go_wp2_with fail
                      go_roundw
                      case rel => exact ⟨i, by omega, by first | rfl | trivial, back i, by first | rfl | trivial, fun j h3 h4 => by rcases Nat.eq_or_lt_of_le h3 with h | h; (subst h; exact hz); exact hno.out j h h4⟩
                      case measure => simp [intOf] <;> omega
              · have hB' : ((pick : Int) % 2 == 0) = false := by rw [beq_eq_false_iff_ne]; omega
                go_wp2_with fail
                generalize y = qy
                refine (find_st hSt hM8 hlen Q hQM qy).mono ?_
                rintro e w5 ⟨r, rfl, hr, hb5⟩
                have hS5 := hSt.keep hb5
                have HR : Hid (IsLast (hit fs ys Q qy) len 1 r) := hr
                clear hr
                go_wp2_with fail
                go_loopw [21, 22] (fun u v wl => ∃ kk : Nat, kk ≤ len ∧ u = .int .i64 (-1) ∧ ((kk = 0 ∧ v = .int .i64 (-1)) ∨ ∃ i : Nat, kk = i + 1 ∧ v = .int .i64 (i : Int)) ∧ wl = w5 ∧ Hid (∀ i, kk ≤ i → i < len → hit fs ys Q qy i ≠ 1)) (fun _ v _ => (intOf v + 1).toNat)
                case atStart => exact ⟨len, Nat.le_refl _, rfl, back len, rfl, fun i h1 h2 => by omega⟩
                case round =>
                  obtain ⟨kk, hkk, rfl, hv, rfl, hno⟩ := hrel
                  rcases hv with ⟨rfl, rfl⟩ | ⟨i, rfl, rfl⟩
                  · obtain rfl : r = -1 := HR.out.unique (.inl ⟨rfl, fun i hi => hno.out i (Nat.zero_le _) hi⟩)
                    go_wp2_with fail
                    go_ret
                    exact ⟨rfl, hS5.below⟩
                  · have hi : i < len := by omega
                    have d1' : wr.cell? ⟨b, off + i * 2 + 1, none⟩ = some (.int .i64 (ys i)) := (hS5.below.cell (p := ⟨b, off + i * 2 + 1, none⟩) hb).trans (hcs.out i hi).2.1
                    have d2' : wr.cell? ⟨F, i, none⟩ = some (.int .i64 (fs i)) := (hS5.firsts i hi).2.2 hi
                    by_cases h1 : fs i = Q
                    · have h1' : (fs i == (Q : Int)) = true := by rw [beq_iff_eq]; exact h1
                      by_cases h2 : ys i = qy
                      · have h2' : (ys i == qy) = true := by rw [beq_iff_eq]; exact h2
                        obtain rfl : r = (i : Int) := HR.out.unique (.inr ⟨i, rfl, hi, hit_one h1 h2, fun j h3 h4 => hno.out j h3 h4⟩)
                        clear h1 h2
                        go_wp2_with fail
                        go_ret
                        exact ⟨rfl, hS5.below⟩
                      · have h2' : (ys i == qy) = false := by rw [beq_eq_false_iff_ne]; exact h2
                        have hz : hit fs ys Q qy i ≠ 1 := hit_zero fun e => h2 e.2
                        clear h1 h2
                        go_wp2_with fail
                        go_roundw
                        case rel => exact ⟨i, by omega, by first | rfl | trivial, back i, by first | rfl | trivial, fun j h3 h4 => by rcases Nat.eq_or_lt_of_le h3 with h | h; (subst h; exact hz); exact hno.out j h h4⟩
                        case measure => simp [intOf] <;> omega
                    · have h1' : (fs i == (Q : Int)) = false := by rw [beq_eq_false_iff_ne]; exact h1
                      have hz : hit fs ys Q qy i ≠ 1 := hit_zero fun e => h1 e.1
                      clear h1
                      go_wp2_with fail
                      go_roundw
                      case rel => exact ⟨i, by omega, by first | rfl | trivial, back i, by first | rfl | trivial, fun j h3 h4 => by rcases Nat.eq_or_lt_of_le h3 with h | h; (subst h; exact hz); exact hno.out j h h4⟩
                      case measure => simp [intOf] <;> omega
            · go_wp2_with fail
              generalize y = qy
              refine (find_st hSt hM8 hlen Q hQM qy).mono ?_
              rintro e w5 ⟨r, rfl, hr, hb5⟩
              have hS5 := hSt.keep hb5
              have HR : Hid (IsLast (hit fs ys Q qy) len 1 r) := hr
              clear hr
              go_wp2_with fail
              go_loopw [21, 22] (fun u v wl => ∃ kk : Nat, kk ≤ len ∧ u = .int .i64 (-1) ∧ ((kk = 0 ∧ v = .int .i64 (-1)) ∨ ∃ i : Nat, kk = i + 1 ∧ v = .int .i64 (i : Int)) ∧ wl = w5 ∧ Hid (∀ i, kk ≤ i → i < len → hit fs ys Q qy i ≠ 1)) (fun _ v _ => (intOf v + 1).toNat)
              case atStart => exact ⟨len, Nat.le_refl _, rfl, back len, rfl, fun i h1 h2 => by omega⟩
              case round =>
                obtain ⟨kk, hkk, rfl, hv, rfl, hno⟩ := hrel
                rcases hv with ⟨rfl, rfl⟩ | ⟨i, rfl, rfl⟩
                · obtain rfl : r = -1 := HR.out.unique (.inl ⟨rfl, fun i hi => hno.out i (Nat.zero_le _) hi⟩)
                  go_wp2_with fail
                  go_ret
                  exact ⟨rfl, hS5.below⟩
                · omega
end Go.Proofs.Ybulkayqm
