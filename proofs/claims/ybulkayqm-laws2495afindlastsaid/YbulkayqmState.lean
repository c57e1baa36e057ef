/-
  SEAT b2495a: LawS2495AFindLast (3): the index behind k ratings, and how each step keeps it.
-/
import Derived.Test.YbulkayqmLast
import Derived.Deep.RegionLaw
namespace Go.Proofs.Ybulkayqm
open Go.RowKit Go.Bufs

theorem set1 (w : World) (B o : Nat) (v : Value) (hs : (w.cell? ⟨B, o, none⟩).isSome = true) :
    (w.setCell ⟨B, o, none⟩ v).cell? ⟨B, o, none⟩ = some v ∧ (∀ j, j ≠ o → (w.setCell ⟨B, o, none⟩ v).cell? ⟨B, j, none⟩ = w.cell? ⟨B, j, none⟩) ∧ (∀ a, (w.setCell ⟨B, o, none⟩ v).frozen? a = w.frozen? a) ∧ w.grownBy (w.setCell ⟨B, o, none⟩ v) (some B) := by
  have hsome : ∀ j, j < [v].length → (w.cell? ⟨B, o + j, none⟩).isSome = true := by
    intro j hj
    obtain rfl : j = 0 := by simp at hj; omega
    exact hs
  refine ⟨World.cell?_setCells_in B [v] o w hsome 0 (by simp), fun j hj => World.cell?_setCells_out B [v] o w _ (fun _ _ => by show j < o ∨ o + 1 ≤ j; omega), fun a => World.frozen?_setCells B [v] o w a, rfl, rfl, rfl, by simp, fun k hk hne => ?_⟩
  exact World.heap_setCells_other w B o [v] hk (fun e => hne (by rw [e]))

theorem grown_cell {w w' : World} {g : Option Nat} (h : w.grownBy w' g) {b o : Nat} (hb : b < w.heap.size) (hne : some b ≠ g) : w'.cell? ⟨b, o, none⟩ = w.cell? ⟨b, o, none⟩ := World.cell?_of_block (a := ⟨b, o, none⟩) (h.block b hb hne)
theorem grown_frozen {w w' : World} {g : Option Nat} (h : w.grownBy w' g) {b o : Nat} (hb : b < w.heap.size) (hne : some b ≠ g) : w'.frozen? ⟨b, o, none⟩ = w.frozen? ⟨b, o, none⟩ := World.frozen?_of_block (a := ⟨b, o, none⟩) (h.block b hb hne)
theorem grown_below {w w' : World} {g B : Nat} (h : w.grownBy w' (some g)) (hB : B ≤ w.heap.size) (hg : B ≤ g) : Below B w w' := ⟨h.os, h.tape, h.output, h.size, fun k hk => h.block k (by omega) (fun e => by cases e; omega)⟩

theorem R1.set {w wr : World} {X H C M len i : Nat} (h : R1 w wr X H C M len i) (hi : i < M) : R1 w (wr.setCell ⟨H, i * 2, none⟩ (.int .i32 (-1))) X H C M len (i + 1) := by
  obtain ⟨s1, s2, s3, s4⟩ := set1 wr H (i * 2) (.int .i32 (-1)) (by rw [(h.heads i hi).1]; rfl)
  have hsz := s4.size
  have eX : some X ≠ some H := fun e => h.ne.1 (Option.some.inj e)
  refine ⟨h.below.trans (grown_below s4 h.below.size h.hH.1), ⟨h.hX.1, by have := h.hX.2; omega⟩, ⟨h.hH.1, by have := h.hH.2; omega⟩, h.hC, h.ne, (grown_cell s4 h.hX.2 eX).trans h.x2, (grown_cell s4 h.hX.2 eX).trans h.x3, (s3 _).trans h.fx, h.chain.kept hsz (fun k hk => ?_), fun t ht => ?_⟩
  · have := h.chain.lt k hk
    refine s4.block k this (fun e => ?_)
    simp [Value.ownBlock] at hk e
    exact h.ne.2.2 (by omega)
  · obtain ⟨t1, t2, t3, t4⟩ := h.heads t ht
    refine ⟨?_, (s2 _ (by omega)).trans t2, (s3 _).trans t3, (s3 _).trans t4⟩
    by_cases e : t = i
    · subst e; rw [s1, if_pos (by omega)]
    · rw [s2 _ (by omega), t1]
      by_cases hlt : t < i
      · rw [if_pos hlt, if_pos (by omega)]
      · rw [if_neg hlt, if_neg (by omega)]

/-- THE INDEX: h ratings in the heads, k in the chain, j among the firsts. -/
structure St (w wr : World) (fs ys : Nat → Int) (X H F M len : Nat) (cv : Value) (xs : List Value) (h k j : Nat) : Prop where
  below : Below w.heap.size w wr
  hX : w.heap.size ≤ X ∧ X < wr.heap.size
  hH : w.heap.size ≤ H ∧ H < wr.heap.size
  hF : w.heap.size ≤ F ∧ F < wr.heap.size
  ne : X ≠ H ∧ X ≠ F ∧ H ≠ F
  x2 : wr.cell? ⟨X, 2, none⟩ = some (.slice (some ⟨H, 0, none⟩) M M)
  x3 : wr.cell? ⟨X, 3, none⟩ = some cv
  fx : wr.frozen? ⟨X, 3, none⟩ = false
  heads : ∀ t, t < M → ∃ (l : Int) (z : Nat), wr.cell? ⟨H, t * 2, none⟩ = some (.int .i32 l) ∧ wr.cell? ⟨H, t * 2 + 1, none⟩ = some (.int .u32 (z : Int)) ∧ wr.frozen? ⟨H, t * 2, none⟩ = false ∧ wr.frozen? ⟨H, t * 2 + 1, none⟩ = false ∧ HeadIs fs ys h (t : Int) l z
  chain : Buf wr 2 cv k xs
  links : ∀ i, i < k → xs[i * 2]? = some (.int .i64 (ys i)) ∧ ∃ e, xs[i * 2 + 1]? = some (.int .i32 e) ∧ (0 ≤ fs i → IsLast fs i (fs i) e)
  own : ∀ b, cv.ownBlock = some b → w.heap.size ≤ b ∧ b ≠ X ∧ b ≠ H ∧ b ≠ F
  firsts : ∀ i, i < len → wr.frozen? ⟨F, i, none⟩ = false ∧ (wr.cell? ⟨F, i, none⟩).isSome = true ∧ (i < j → wr.cell? ⟨F, i, none⟩ = some (.int .i64 (fs i)))

section
variable {w wr : World} {fs ys : Nat → Int} {X H F M len : Nat} {cv : Value} {xs : List Value} {h k j : Nat}

/-- All old blocks kept. -/
theorem St.keep (s : St w wr fs ys X H F M len cv xs h k j) {wr' : World} (hb : Below wr.heap.size wr wr') : St w wr' fs ys X H F M len cv xs h k j := by
  have hsz := hb.size
  refine ⟨s.below.trans (hb.mono s.below.size), ⟨s.hX.1, by have := s.hX.2; omega⟩, ⟨s.hH.1, by have := s.hH.2; omega⟩, ⟨s.hF.1, by have := s.hF.2; omega⟩, s.ne, (hb.cell (p := ⟨X, 2, none⟩) s.hX.2).trans s.x2, (hb.cell (p := ⟨X, 3, none⟩) s.hX.2).trans s.x3,
    (World.frozen?_of_block (a := ⟨X, 3, none⟩) (hb.block X s.hX.2)).trans s.fx, fun t ht => ?_, s.chain.below hb, s.links, s.own, fun i hi => ?_⟩
  · obtain ⟨l, z, h1, h2, h3, h4, h5⟩ := s.heads t ht
    exact ⟨l, z, (hb.cell (p := ⟨H, t * 2, none⟩) s.hH.2).trans h1, (hb.cell (p := ⟨H, t * 2 + 1, none⟩) s.hH.2).trans h2, (World.frozen?_of_block (a := ⟨H, t * 2, none⟩) (hb.block H s.hH.2)).trans h3, (World.frozen?_of_block (a := ⟨H, t * 2 + 1, none⟩) (hb.block H s.hH.2)).trans h4, h5⟩
  · rw [World.frozen?_of_block (a := ⟨F, i, none⟩) (hb.block F s.hF.2), hb.cell (p := ⟨F, i, none⟩) s.hF.2]
    exact s.firsts i hi

/-- firsts[j] = f. -/
theorem St.setF (s : St w wr fs ys X H F M len cv xs h k j) (hj : j < len) : St w (wr.setCell ⟨F, j, none⟩ (.int .i64 (fs j))) fs ys X H F M len cv xs h k (j + 1) := by
  obtain ⟨s1, s2, s3, s4⟩ := set1 wr F j (.int .i64 (fs j)) (s.firsts j hj).2.1
  have hsz := s4.size
  have eX : some X ≠ some F := fun e => s.ne.2.1 (Option.some.inj e)
  have eH : some H ≠ some F := fun e => s.ne.2.2 (Option.some.inj e)
  refine ⟨s.below.trans (grown_below s4 s.below.size s.hF.1), ⟨s.hX.1, by have := s.hX.2; omega⟩, ⟨s.hH.1, by have := s.hH.2; omega⟩, ⟨s.hF.1, by have := s.hF.2; omega⟩, s.ne, (grown_cell s4 s.hX.2 eX).trans s.x2, (grown_cell s4 s.hX.2 eX).trans s.x3, (s3 _).trans s.fx, fun t ht => ?_, s.chain.kept hsz (fun b hb => ?_), s.links, s.own, fun i hi => ?_⟩
  · obtain ⟨l, z, h1, h2, h3, h4, h5⟩ := s.heads t ht
    exact ⟨l, z, (grown_cell s4 s.hH.2 eH).trans h1, (grown_cell s4 s.hH.2 eH).trans h2, (s3 _).trans h3, (s3 _).trans h4, h5⟩
  · exact s4.block b (s.chain.lt b hb) (fun e => (s.own b hb).2.2.2 (Option.some.inj e))
  · obtain ⟨f1, f2, f3⟩ := s.firsts i hi
    by_cases e : i = j
    · subst e
      rw [s1]
      exact ⟨(s3 _).trans f1, rfl, fun _ => rfl⟩
    · rw [s2 i e]
      exact ⟨(s3 _).trans f1, f2, fun hij => f3 (by omega)⟩

/-- A rating of no participant. -/
theorem St.skip (s : St w wr fs ys X H F M len cv xs h k j) (hf : ∀ t : Nat, fs h ≠ (t : Int)) : St w wr fs ys X H F M len cv xs (h + 1) k j :=
  ⟨s.below, s.hX, s.hH, s.hF, s.ne, s.x2, s.x3, s.fx, fun t ht => by
    obtain ⟨l, z, h1, h2, h3, h4, h5⟩ := s.heads t ht
    exact ⟨l, z, h1, h2, h3, h4, h5.other (hf t)⟩, s.chain, s.links, s.own, s.firsts⟩

/-- A rating of participant f. -/
theorem St.linked (s : St w wr fs ys X H F M len cv xs h k j) {wr' : World} {f : Nat} {l : Int} {z : Nat} (hf : f < M) (hfs : fs h = (f : Int)) (hd : HeadIs fs ys h (f : Int) l z) (hl : Linked wr wr' H f h (z ||| bitOf (ys h))) :
    St w wr' fs ys X H F M len cv xs (h + 1) k j := by
  have hsz := hl.grown.size
  have eX : some X ≠ some H := fun e => s.ne.1 (Option.some.inj e)
  have eF : some F ≠ some H := fun e => s.ne.2.2 (Option.some.inj e).symm
  refine ⟨s.below.trans (grown_below hl.grown s.below.size s.hH.1), ⟨s.hX.1, by have := s.hX.2; omega⟩, ⟨s.hH.1, by have := s.hH.2; omega⟩, ⟨s.hF.1, by have := s.hF.2; omega⟩, s.ne, (grown_cell hl.grown s.hX.2 eX).trans s.x2, (grown_cell hl.grown s.hX.2 eX).trans s.x3, (grown_frozen hl.grown s.hX.2 eX).trans s.fx, fun t ht => ?_, s.chain.kept hsz (fun b hb => ?_), s.links, s.own, fun i hi => ?_⟩
  · obtain ⟨l', z', h1, h2, h3, h4, h5⟩ := s.heads t ht
    by_cases e : t = f
    · subst e
      exact ⟨h, _, hl.head0, hl.head1, (hl.frozen _).trans h3, (hl.frozen _).trans h4, hd.same hfs⟩
    · exact ⟨l', z', (hl.rest _ (by omega) (by omega)).trans h1, (hl.rest _ (by omega) (by omega)).trans h2, (hl.frozen _).trans h3, (hl.frozen _).trans h4, h5.other (fun e' => e (by omega))⟩
  · exact hl.grown.block b (s.chain.lt b hb) (fun e => (s.own b hb).2.2.1 (Option.some.inj e))
  · rw [grown_frozen hl.grown s.hF.2 eF, grown_cell hl.grown s.hF.2 eF]
    exact s.firsts i hi

theorem links_snoc {xs : List Value} {k : Nat} {e : Int} (hl : xs.length = k * 2) (h : ∀ i, i < k → xs[i * 2]? = some (.int .i64 (ys i)) ∧ ∃ e, xs[i * 2 + 1]? = some (.int .i32 e) ∧ (0 ≤ fs i → IsLast fs i (fs i) e)) (he : 0 ≤ fs k → IsLast fs k (fs k) e) :
    ∀ i, i < k + 1 → (xs ++ [.int .i64 (ys k), .int .i32 e])[i * 2]? = some (.int .i64 (ys i)) ∧ ∃ e', (xs ++ [.int .i64 (ys k), .int .i32 e])[i * 2 + 1]? = some (.int .i32 e') ∧ (0 ≤ fs i → IsLast fs i (fs i) e') := by
  intro i hi
  by_cases hik : i < k
  · rw [List.getElem?_append_left (by omega), List.getElem?_append_left (by omega)]
    exact h i hik
  · obtain rfl : i = k := by omega
    rw [List.getElem?_append_right (by omega), List.getElem?_append_right (by omega), hl, Nat.sub_self, show i * 2 + 1 - i * 2 = 1 by omega]
    exact ⟨rfl, e, rfl, he⟩

/-- x.chain = append(x.chain, ..). -/
theorem St.appended (s : St w wr fs ys X H F M len cv xs h k j) {w2 : World} {v : Value} {e : Int} (hB : Buf w2 2 v (k + 1) (xs ++ [.int .i64 (ys k), .int .i32 e])) (hS : Step wr w2 cv v) (he : 0 ≤ fs k → IsLast fs k (fs k) e) :
    w2.cell? ⟨X, 3, none⟩ = some cv ∧ w2.frozen? ⟨X, 3, none⟩ = false ∧ St w (w2.setCell ⟨X, 3, none⟩ v) fs ys X H F M len v (xs ++ [.int .i64 (ys k), .int .i32 e]) h (k + 1) j := by
  have oX : some X ≠ cv.ownBlock := fun e => (s.own X e.symm).2.1 rfl
  have oH : some H ≠ cv.ownBlock := fun e => (s.own H e.symm).2.2.1 rfl
  have oF : some F ≠ cv.ownBlock := fun e => (s.own F e.symm).2.2.2 rfl
  have hx3 : w2.cell? ⟨X, 3, none⟩ = some cv := (hS.cell s.hX.2 oX).trans s.x3
  have hfx : w2.frozen? ⟨X, 3, none⟩ = false := (hS.frozen s.hX.2 oX).trans s.fx
  obtain ⟨s1, s2, s3, s4⟩ := set1 w2 X 3 v (by rw [hx3]; rfl)
  have hsz := hS.grown.size
  have hsz2 := s4.size
  have X2 : X < w2.heap.size := by have := s.hX.2; omega
  have H2 : H < w2.heap.size := by have := s.hH.2; omega
  have F2 : F < w2.heap.size := by have := s.hF.2; omega
  have eH : some H ≠ some X := fun e => s.ne.1 (Option.some.inj e).symm
  have eF : some F ≠ some X := fun e => s.ne.2.1 (Option.some.inj e).symm
  have hown : ∀ b, v.ownBlock = some b → w.heap.size ≤ b ∧ b ≠ X ∧ b ≠ H ∧ b ≠ F := by
    intro b hb
    rcases hS.own with e | ⟨q, e, hq⟩
    · exact s.own b (by rw [← e]; exact hb)
    · rw [e] at hb
      cases hb
      have := s.hX.2; have := s.hH.2; have := s.hF.2; have := s.below.size
      omega
  have hb2 : Below w.heap.size wr w2 := hS.below s.below.size (fun b hb => (s.own b hb).1)
  refine ⟨hx3, hfx, ⟨(s.below.trans hb2).trans (grown_below s4 (Nat.le_trans s.below.size hsz) s.hX.1), ⟨s.hX.1, by omega⟩, ⟨s.hH.1, by omega⟩, ⟨s.hF.1, by omega⟩, s.ne, ?_, s1, (s3 _).trans hfx, fun t ht => ?_, hB.kept hsz2 (fun b hb => ?_), links_snoc s.chain.1 s.links he, hown, fun i hi => ?_⟩⟩
  · rw [s2 2 (by omega), hS.cell s.hX.2 oX]; exact s.x2
  · obtain ⟨l, z, h1, h2, h3, h4, h5⟩ := s.heads t ht
    refine ⟨l, z, ?_, ?_, ?_, ?_, h5⟩
    · rw [grown_cell s4 H2 eH, hS.cell s.hH.2 oH]; exact h1
    · rw [grown_cell s4 H2 eH, hS.cell s.hH.2 oH]; exact h2
    · rw [s3, hS.frozen s.hH.2 oH]; exact h3
    · rw [s3, hS.frozen s.hH.2 oH]; exact h4
  · exact s4.block b (hB.lt b hb) (fun e => (hown b hb).2.1 (Option.some.inj e))
  · rw [s3, hS.frozen s.hF.2 oF, grown_cell s4 F2 eF, hS.cell s.hF.2 oF]
    exact s.firsts i hi
end

/-- The start: the row of firsts is new. -/
theorem St.start {w wr wr' : World} {X H C M len : Nat} (fs ys : Nat → Int) (r : R1 w wr X H C M len M) (hb : Below wr.heap.size wr wr') (hsz : wr.heap.size < wr'.heap.size)
    (hF : ∀ i, i < len → wr'.frozen? ⟨wr.heap.size, i, none⟩ = false ∧ (wr'.cell? ⟨wr.heap.size, i, none⟩).isSome = true) :
    St w wr' fs ys X H wr.heap.size M len (.slice (some ⟨C, 0, none⟩) 0 len) [] 0 0 0 := by
  have hCs : C < wr.heap.size := r.chain.lt C rfl
  refine ⟨r.below.trans (hb.mono r.below.size), ⟨r.hX.1, by have := r.hX.2; omega⟩, ⟨r.hH.1, by have := r.hH.2; omega⟩, ⟨r.below.size, hsz⟩, ⟨r.ne.1, by have := r.hX.2; omega, by have := r.hH.2; omega⟩, (hb.cell (p := ⟨X, 2, none⟩) r.hX.2).trans r.x2, (hb.cell (p := ⟨X, 3, none⟩) r.hX.2).trans r.x3,
    (World.frozen?_of_block (a := ⟨X, 3, none⟩) (hb.block X r.hX.2)).trans r.fx, fun t ht => ?_, r.chain.below hb, fun i hi => by omega, fun b hb' => ?_, fun i hi => ⟨(hF i hi).1, (hF i hi).2, fun h => by omega⟩⟩
  · obtain ⟨h1, h2, h3, h4⟩ := r.heads t ht
    rw [if_pos ht] at h1
    exact ⟨-1, 0, (hb.cell (p := ⟨H, t * 2, none⟩) r.hH.2).trans h1, (hb.cell (p := ⟨H, t * 2 + 1, none⟩) r.hH.2).trans h2, (World.frozen?_of_block (a := ⟨H, t * 2, none⟩) (hb.block H r.hH.2)).trans h3, (World.frozen?_of_block (a := ⟨H, t * 2 + 1, none⟩) (hb.block H r.hH.2)).trans h4, HeadIs.zero fs ys t⟩
  · simp [Value.ownBlock] at hb'
    subst hb'
    exact ⟨r.hC, r.ne.2.1, r.ne.2.2, by omega⟩
end Go.Proofs.Ybulkayqm
