/-
  SEAT b2490aD: reduced whole, addSmall (6).
-/
import Derived.Test.YbulkaynuDoorWalkE
namespace Go.Proofs.YbulkaynuDoor
open Go.RowKit

/-- reduced: lowest terms. -/
theorem reduced_any (num : Int) (den : Nat) (h1 : -4611686018427387904 < num) (h2 : num < 4611686018427387904) (h3 : den < 4611686018427387904) (hd : den ≠ 0) (w : World) (hT : Tab w) :
    Calls Ybad.prog 10 #[.int .i64 num, .int .i64 den] w fun e w' => e = .returned (.agg #[.int .i64 (num / (Nat.gcd num.natAbs den : Int)), .int .i64 (dstored ((den / Nat.gcd num.natAbs den : Nat) : Int)), .pointer none]) ∧ Below w.heap.size w w' := by
  have hp := Plain.gcd_pos_r num.natAbs den hd
  have hl := Plain.gcd_le_r num.natAbs den hd
  by_cases h : Nat.gcd num.natAbs den = 1
  · have := reduced_one num den h1 h2 h3 hd h w hT
    rw [h]
    simpa using this
  · exact reduced_more num den _ h1 h2 h3 hd hl rfl (by omega) w hT

/-- What addSmall comes to: a fraction in lowest terms, and its value. -/
def Low (n : Int) (dd : Nat) (p s : Int) : Prop := Nat.gcd n.natAbs dd = 1 ∧ n * p = s * (dd : Int) ∧ dd ≠ 0 ∧ dd ≤ 65536 ∧ n.natAbs ≤ 16777216

theorem low_of (num : Int) (den : Nat) (hd : den ≠ 0) (hd2 : den ≤ 65536) (hn : num.natAbs ≤ 16777216) (p s : Int) (h : num * p = s * (den : Int)) :
    Low (num / (Nat.gcd num.natAbs den : Int)) (den / Nat.gcd num.natAbs den) p s := by
  obtain ⟨f1, f2⟩ := Plain.frac num den hd p s h
  have hl := Plain.gcd_le_r num.natAbs den hd
  have hp := Plain.gcd_pos_r num.natAbs den hd
  refine ⟨f1, f2, ?_, ?_, ?_⟩
  · have := Nat.div_pos hl hp
    omega
  · have := Nat.div_le_self den (Nat.gcd num.natAbs den)
    omega
  · have h1 : ((Nat.gcd num.natAbs den : Nat) : Int) ∣ num := by
      rw [← Int.dvd_natAbs]; exact Int.ofNat_dvd.2 (Nat.gcd_dvd_left _ _)
    rw [Int.natAbs_ediv_of_dvd h1, Int.natAbs_natCast]
    have := Nat.div_le_self num.natAbs (Nat.gcd num.natAbs den)
    omega

set_option maxHeartbeats 800000 in
theorem addSmall_same (a c : Int) (b : Nat) (h1 : -32768 ≤ a) (h2 : a ≤ 32768) (h3 : -32768 ≤ c) (h4 : c ≤ 32768) (hb0 : b ≠ 0) (hb : b ≤ 256) (w : World) (hT : Tab w) :
    Calls Ybad.prog 6 #[.int .i64 a, .int .i64 b, .int .i64 c, .int .i64 b] w fun e w' =>
      ∃ n dd, e = .returned (.tuple #[.agg #[.int .i64 n, .int .i64 (dstored ((dd : Nat) : Int)), .pointer none], .bool true]) ∧ Low n dd ((b : Int) * b) (a * b + c * b) ∧ Below w.heap.size w w' := by
  have hlow := low_of (a + c) b hb0 (by omega) (by omega) ((b : Int) * b) (a * b + c * b) (by rw [← Int.add_mul, Int.mul_assoc])
  have HL : Hid (Low ((a + c) / (Nat.gcd (a + c).natAbs b : Int)) (b / Nat.gcd (a + c).natAbs b) ((b : Int) * b) (a * b + c * b)) := hlow
  clear hlow
  go_enter Ybad.func6, Ybad.ntmps6
  go_wp2_with fail
  refine (add_any a c (by omega) (by omega) (by omega) (by omega) _).mono ?_
  rintro e w' ⟨rfl, hw⟩
  rw [hw]; clear hw
  go_wp2_with fail
  refine (reduced_any (a + c) b (by omega) (by omega) (by omega) hb0 _ (hT.alloc _)).mono ?_
  rintro e w1 ⟨rfl, hb⟩
  obtain ⟨hc, hf⟩ := bcell hb
  have hbase : Below w.heap.size w w1 := below_under _ 0 hb
  go_wp2_with fail
  exact bodyPost_ret (v := .tuple #[.agg #[.int .i64 ((a + c) / (Nat.gcd (a + c).natAbs b : Int)), .int .i64 (dstored ((b / Nat.gcd (a + c).natAbs b : Nat) : Int)), .pointer none], .bool true]) (by simp [results, Ybad.results6, go_sem, hc]) rfl ⟨_, _, rfl, HL.out, below_set3 hbase _ _ _⟩

theorem cross (a c g b1 d1 : Int) : (a * d1 + c * b1) * ((g * b1) * (g * d1)) = (a * (g * d1) + c * (g * b1)) * ((g * b1) * d1) := by
  have e1 : a * (g * d1) + c * (g * b1) = g * (a * d1 + c * b1) := by
    rw [Int.mul_add, Int.mul_left_comm a g d1, Int.mul_left_comm c g b1]
  rw [e1]
  generalize a * d1 + c * b1 = t
  rw [Int.mul_comm g t, Int.mul_assoc t g, Int.mul_left_comm g (g * b1) d1]

set_option maxHeartbeats 1600000 in
theorem addSmall_other (a c : Int) (b d g b1 d1 : Nat) (h1 : -32768 ≤ a) (h2 : a ≤ 32768) (h3 : -32768 ≤ c) (h4 : c ≤ 32768) (hb : b ≤ 256) (hd0 : d ≠ 0) (hd : d ≤ 256)
    (hne : ((b : Int) == (d : Int)) = false) (hg0 : 0 < g) (hg2 : g ≤ 256) (hb1 : b1 ≤ 256) (hd1 : d1 ≤ 256)
    (Hg : Hid (Nat.gcd b d = g)) (Hb : Hid (wrap64 ((b : Int) / (g : Int)) = (b1 : Int))) (Hd : Hid (wrap64 ((d : Int) / (g : Int)) = (d1 : Int)))
    (m1 m2 n' : Int) (m3 dd : Nat) (E1 : Hid (a * (d1 : Int) = m1)) (E2 : Hid (c * (b1 : Int) = m2)) (E3 : Hid ((b : Int) * (d1 : Int) = (m3 : Int)))
    (k1 : -8388608 ≤ m1) (k2 : m1 ≤ 8388608) (k3 : -8388608 ≤ m2) (k4 : m2 ≤ 8388608) (k5 : m3 ≠ 0) (k6 : m3 ≤ 65536)
    (En : Hid ((m1 + m2) / (Nat.gcd (m1 + m2).natAbs m3 : Int) = n')) (Ed : Hid (m3 / Nat.gcd (m1 + m2).natAbs m3 = dd)) (w : World) (hT : Tab w) :
    Calls Ybad.prog 6 #[.int .i64 a, .int .i64 b, .int .i64 c, .int .i64 d] w fun e w' =>
      e = .returned (.tuple #[.agg #[.int .i64 n', .int .i64 (dstored (dd : Int)), .pointer none], .bool true]) ∧ Below w.heap.size w w' := by
  go_enter Ybad.func6, Ybad.ntmps6
  go_wp2_with fail
  refine (gcd_any b d (by omega) (by omega) hd0 _ (hT.alloc _)).mono ?_
  rintro e w' ⟨rfl, hw⟩
  rw [hw, Hg.out]; clear hw
  go_wp2_with fail
  go_quiet (fail)
  go_wp2_with fail
  rw [Hb.out, Hd.out]
  refine (mul_any a d1 (by omega) (by omega) (by omega) (by omega) _).mono ?_
  rintro e w' ⟨rfl, hw⟩
  rw [hw, E1.out]; clear hw
  go_wp2_with fail
  refine (mul_any c b1 (by omega) (by omega) (by omega) (by omega) _).mono ?_
  rintro e w' ⟨rfl, hw⟩
  rw [hw, E2.out]; clear hw
  go_wp2_with fail
  refine (add_any m1 m2 (by omega) (by omega) (by omega) (by omega) _).mono ?_
  rintro e w' ⟨rfl, hw⟩
  rw [hw]; clear hw
  go_wp2_with fail
  refine (mul_any b d1 (by omega) (by omega) (by omega) (by omega) _).mono ?_
  rintro e w' ⟨rfl, hw⟩
  rw [hw, E3.out]; clear hw
  go_wp2_with fail
  refine (reduced_any (m1 + m2) m3 (by omega) (by omega) (by omega) k5 _ ((hT.alloc _).below (below_drewN (Below.refl _ _) nq))).mono ?_
  rintro e w1 ⟨rfl, hb⟩
  rw [En.out, Ed.out]
  obtain ⟨hc, hf⟩ := bcell hb
  have hbase : Below w.heap.size w w1 := below_under _ nq hb
  go_wp2_with fail
  exact bodyPost_ret (v := .tuple #[.agg #[.int .i64 n', .int .i64 (dstored (dd : Int)), .pointer none], .bool true]) (by simp [results, Ybad.results6, go_sem, hc]) rfl ⟨rfl, below_set3 hbase _ _ _⟩
theorem prod_bd (a : Int) (d : Nat) (h1 : -32768 ≤ a) (h2 : a ≤ 32768) (hd : d ≤ 256) : -8388608 ≤ a * (d : Int) ∧ a * (d : Int) ≤ 8388608 := by
  have h := Nat.mul_le_mul (show a.natAbs ≤ 32768 by omega) hd
  have e : (a * (d : Int)).natAbs = a.natAbs * d := by rw [Int.natAbs_mul, Int.natAbs_natCast]
  omega

/-- addSmall. -/
theorem addSmall_any (a c : Int) (b d : Nat) (h1 : -32768 ≤ a) (h2 : a ≤ 32768) (h3 : -32768 ≤ c) (h4 : c ≤ 32768) (hb0 : b ≠ 0) (hb : b ≤ 256) (hd0 : d ≠ 0) (hd : d ≤ 256) (w : World) (hT : Tab w) :
    Calls Ybad.prog 6 #[.int .i64 a, .int .i64 b, .int .i64 c, .int .i64 d] w fun e w' =>
      ∃ n dd, e = .returned (.tuple #[.agg #[.int .i64 n, .int .i64 (dstored ((dd : Nat) : Int)), .pointer none], .bool true]) ∧ Low n dd ((b : Int) * d) (a * d + c * b) ∧ Below w.heap.size w w' := by
  by_cases h : b = d
  · subst h
    exact addSmall_same a c b h1 h2 h3 h4 hb0 hb w hT
  · have gp := Plain.gcd_pos_r b d hd0
    have gl := Plain.gcd_le_r b d hd0
    obtain ⟨b1, eb⟩ := Nat.gcd_dvd_left b d
    obtain ⟨d1, ed⟩ := Nat.gcd_dvd_right b d
    generalize hg : Nat.gcd b d = g at *
    have qb : b / g = b1 := by rw [eb]; exact Nat.mul_div_cancel_left _ gp
    have qd : d / g = d1 := by rw [ed]; exact Nat.mul_div_cancel_left _ gp
    have lb : b1 ≤ 256 := by have := Nat.div_le_self b g; omega
    have ld : d1 ≤ 256 := by have := Nat.div_le_self d g; omega
    have d10 : d1 ≠ 0 := by intro e; subst e; simp at ed; omega
    have p1 := prod_bd a d1 h1 h2 ld
    have p2 := prod_bd c b1 h3 h4 lb
    have p3 := Nat.mul_le_mul hb ld
    have m30 : b * d1 ≠ 0 := Nat.mul_ne_zero hb0 d10
    refine (addSmall_other a c b d g b1 d1 h1 h2 h3 h4 hb hd0 hd (by simp; omega) gp (by omega) lb ld hg (by rw [den_exact b g (by omega), qb]; rfl) (by rw [den_exact d g (by omega), qd]; rfl)
      (a * d1) (c * b1) _ (b * d1) _ rfl rfl (Int.natCast_mul b d1).symm p1.1 p1.2 p2.1 p2.2 m30 p3 rfl rfl w hT).mono ?_
    rintro e w' ⟨he, hw⟩
    refine ⟨_, _, he, low_of _ _ m30 p3 (by omega) _ _ ?_, hw⟩
    rw [Int.natCast_mul]
    have := cross a c g b1 d1
    rw [← Int.natCast_mul g b1, ← Int.natCast_mul g d1, ← eb, ← ed] at this
    exact this
end Go.Proofs.YbulkaynuDoor
