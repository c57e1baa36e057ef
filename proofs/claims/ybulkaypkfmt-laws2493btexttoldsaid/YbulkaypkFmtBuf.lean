/-
  A SLICE THAT GROWS BY append, TOLD BY ITS CELLS, WHATEVER BLOCK IT LIES IN (an array variable's, or a row of its own). Of no program.
  'Buf w size v n xs': the slice value v of n elements holds the cells xs; all cells up to its capacity are there and none is frozen.
  'Step w w' v v'': w' is w with new blocks and with writes to v's own block alone; v' lies in v's block or in a new one.
-/
import Derived.WalkKit
import Derived.Deep.AppendSrc
import Derived.Deep.Upon
namespace Go.Bufs
open Go.RowKit

/-- The slice's own cells. -/
def Buf (w : World) (size : Nat) (v : Value) (n : Nat) (xs : List Value) : Prop :=
  xs.length = n * size ∧
  ((v = .slice none 0 0 ∧ n = 0) ∨
   ∃ g cap, v = .slice (some ⟨g, 0, none⟩) n cap ∧ n ≤ cap ∧ cap ≤ maxLen ∧ g < w.heap.size ∧
     (∀ j u, xs[j]? = some u → w.cell? ⟨g, j, none⟩ = some u) ∧
     (∀ j, j < cap * size → (w.cell? ⟨g, j, none⟩).isSome = true ∧ w.frozen? ⟨g, j, none⟩ = false))

/-- What an append does to the world and the value. -/
structure Step (w w' : World) (v v' : Value) : Prop where
  grown : w.grownBy w' v.ownBlock
  own : v'.ownBlock = v.ownBlock ∨ ∃ k, v'.ownBlock = some k ∧ w.heap.size ≤ k

theorem Step.refl (w : World) (v : Value) : Step w w v v := ⟨⟨rfl, rfl, rfl, Nat.le_refl _, fun _ _ _ => rfl⟩, .inl rfl⟩

theorem Step.trans {a b c : World} {u v x : Value} (h : Step a b u v) (k : Step b c v x) : Step a c u x := by
  refine ⟨⟨k.grown.os.trans h.grown.os, k.grown.tape.trans h.grown.tape, k.grown.output.trans h.grown.output, Nat.le_trans h.grown.size k.grown.size, fun i hi hne => ?_⟩, ?_⟩
  · rw [k.grown.block i (Nat.lt_of_lt_of_le hi h.grown.size) ?_]
    · exact h.grown.block i hi hne
    · rcases h.own with e | ⟨q, e, hq⟩
      · rw [e]; exact hne
      · rw [e]; intro e'; cases e'; omega
  · rcases k.own with e | ⟨q, e, hq⟩
    · rw [e]; exact h.own
    · exact .inr ⟨q, e, Nat.le_trans h.grown.size hq⟩

/-- Any world that keeps all old blocks. -/
theorem Step.ofKeep {w w' : World} (v : Value) (hb : Below w.heap.size w w') : Step w w' v v :=
  ⟨⟨hb.os, hb.tape, hb.output, hb.size, fun k hk _ => hb.block k hk⟩, .inl rfl⟩

theorem Step.alloc (w : World) (v : Value) (o : Obj) : Step w (w.alloc o) v v := Step.ofKeep v ((Below.refl _ _).alloc (Nat.le_refl _) o)

theorem Step.below {w w' : World} {v v' : Value} {B : Nat} (h : Step w w' v v') (hB : B ≤ w.heap.size) (hv : ∀ k, v.ownBlock = some k → B ≤ k) : Below B w w' :=
  ⟨h.grown.os, h.grown.tape, h.grown.output, h.grown.size, fun k hk => h.grown.block k (by omega) (fun e => by have := hv k e.symm; omega)⟩

theorem Step.cell {w w' : World} {v v' : Value} (h : Step w w' v v') {b o : Nat} (hb : b < w.heap.size) (hne : some b ≠ v.ownBlock) : w'.cell? ⟨b, o, none⟩ = w.cell? ⟨b, o, none⟩ :=
  World.cell?_of_block (a := ⟨b, o, none⟩) (h.grown.block b hb hne)

theorem Step.frozen {w w' : World} {v v' : Value} (h : Step w w' v v') {b o : Nat} (hb : b < w.heap.size) (hne : some b ≠ v.ownBlock) : w'.frozen? ⟨b, o, none⟩ = w.frozen? ⟨b, o, none⟩ :=
  World.frozen?_of_block (a := ⟨b, o, none⟩) (h.grown.block b hb hne)

/-- The value's own block: a base stays a base. -/
theorem Step.base {w w' : World} {v v' : Value} {B : Nat} (h : Step w w' v v') (hB : B ≤ w.heap.size) (hv : ∀ k, v.ownBlock = some k → B ≤ k) : ∀ k, v'.ownBlock = some k → B ≤ k := by
  intro k hk
  rcases h.own with e | ⟨q, e, hq⟩
  · exact hv k (by rw [← e]; exact hk)
  · rw [e] at hk; cases hk; omega

/-- A block that is not the value's own, and is old, is not the new value's own. -/
theorem Step.other {w w' : World} {v v' : Value} (h : Step w w' v v') {b : Nat} (hb : b < w.heap.size) (hne : some b ≠ v.ownBlock) : some b ≠ v'.ownBlock := by
  rcases h.own with e | ⟨q, e, hq⟩
  · rw [e]; exact hne
  · rw [e]; intro e'; cases e'; omega

theorem Buf.nil (w : World) (size : Nat) : Buf w size (.slice none 0 0) 0 [] := ⟨by simp, .inl ⟨rfl, rfl⟩⟩

theorem Buf.len {w : World} {size : Nat} {v : Value} {n : Nat} {xs : List Value} (h : Buf w size v n xs) : xs.length = n * size := h.1

theorem Buf.lt {w : World} {size : Nat} {v : Value} {n : Nat} {xs : List Value} (h : Buf w size v n xs) : ∀ k, v.ownBlock = some k → k < w.heap.size := by
  intro k hk
  rcases h.2 with ⟨rfl, _⟩ | ⟨g, cap, rfl, _, _, hg, _⟩
  · simp [Value.ownBlock] at hk
  · simp [Value.ownBlock] at hk; omega

/-- It stays where its own block is kept. -/
theorem Buf.kept {w w' : World} {size : Nat} {v : Value} {n : Nat} {xs : List Value} (h : Buf w size v n xs) (hs : w.heap.size ≤ w'.heap.size) (hb : ∀ k, v.ownBlock = some k → w'.heap[k]? = w.heap[k]?) : Buf w' size v n xs := by
  refine ⟨h.1, ?_⟩
  rcases h.2 with hn | ⟨g, cap, rfl, h1, h2, hg, hc, hf⟩
  · exact .inl hn
  · have e := hb g rfl
    refine .inr ⟨g, cap, rfl, h1, h2, by omega, fun j u hj => ?_, fun j hj => ?_⟩
    · rw [World.cell?_of_block (a := ⟨g, j, none⟩) e]; exact hc j u hj
    · rw [World.cell?_of_block (a := ⟨g, j, none⟩) e, World.frozen?_of_block (a := ⟨g, j, none⟩) e]; exact hf j hj

theorem Buf.below {w w' : World} {size : Nat} {v : Value} {n : Nat} {xs : List Value} (h : Buf w size v n xs) (hb : Below w.heap.size w w') : Buf w' size v n xs :=
  h.kept hb.size (fun k hk => hb.block k (h.lt k hk))

theorem Buf.alloc {w : World} {size : Nat} {v : Value} {n : Nat} {xs : List Value} (h : Buf w size v n xs) (o : Obj) : Buf (w.alloc o) size v n xs :=
  h.below ((Below.refl _ _).alloc (Nat.le_refl _) o)

/-- What is read off it. -/
theorem Buf.shape {w : World} {size : Nat} {v : Value} {n : Nat} {xs : List Value} (h : Buf w size v n xs) (hn : 0 < n) :
    ∃ g cap, v = .slice (some ⟨g, 0, none⟩) n cap ∧ n ≤ cap ∧ cap ≤ maxLen ∧ g < w.heap.size ∧ (∀ j u, xs[j]? = some u → w.cell? ⟨g, j, none⟩ = some u) ∧
     (∀ j, j < cap * size → (w.cell? ⟨g, j, none⟩).isSome = true ∧ w.frozen? ⟨g, j, none⟩ = false) := by
  rcases h.2 with ⟨_, h0⟩ | h'
  · omega
  · exact h'

/-- A new array variable's slice of no element. -/
theorem Buf.ofNew (w : World) (cs : Array Value) (T : TypeId) (cap size : Nat) (hm : cap ≤ maxLen) (hs : cs.size = cap * size) :
    Buf (w.alloc (.cells cs T)) size (.slice (some ⟨w.heap.size, 0, none⟩) 0 cap) 0 [] := by
  refine ⟨by simp, .inr ⟨w.heap.size, cap, rfl, Nat.zero_le _, hm, by simp, by simp, fun j hj => ?_⟩⟩
  have e1 : (w.alloc (.cells cs T)).cell? ⟨w.heap.size, j, none⟩ = _ := World.cell?_alloc_new w _ _ j
  have e2 : (w.alloc (.cells cs T)).frozen? ⟨w.heap.size, j, none⟩ = _ := World.frozen?_alloc_new w _ _ j
  rw [e1, e2, Array.getElem?_eq_getElem (by omega)]
  exact ⟨rfl, rfl⟩

theorem run_append_none_nothing {P : Program} (w : World) (t tx ty e : TypeId) (i : TypeInfo) (ht : P.underlying t = some (.slice e)) (hi : P.info? e = some i) (x : Value) (hs : Src P i.size tx x 0 [] w) :
    (Builtin.append_ #[t, tx] ty #[.slice none 0 0, x]).run P w = .ok (.slice none 0 0) w :=
  run_append_nothing w t tx ty e i ht hi none 0 0 (Nat.le_refl _) x hs

section
variable {P : Program}

theorem below_setCells0 {B b : Nat} {a : World} (hb : B ≤ b) : ∀ (vs : List Value) (o : Nat) (w : World), Below B a w → Below B a (w.setCells b o vs)
  | [], _, _, h => h
  | v :: r, o, w, h => below_setCells0 hb r (o + 1) (w.setCell ⟨b, o, none⟩ v) (h.setCell (p := ⟨b, o, none⟩) hb v)

/-- n ELEMENTS MORE, OUT OF WHATEVER SOURCE. -/
theorem run_append_buf (t tx ty e : TypeId) (i : TypeInfo) (z : Value) (size bytes : Nat) (ht : P.underlying t = some (.slice e)) (hi : P.info? e = some i) (hz : i.zero = some z) (hsize : i.size = size) (hby : i.bytes = bytes) (hzs : z.cells.size = size)
    {w : World} {v : Value} {n : Nat} {xs : List Value} (h : Buf w size v n xs) (x : Value) (m : Nat) (news : List Value) (hs : Src P size tx x m news w) (h63 : n + m ≤ maxLen) (hbytes : (n + m) * bytes ≤ 140737488355328) :
    ∃ v' w', (Builtin.append_ #[t, tx] ty #[v, x]).run P w = .ok v' w' ∧ Buf w' size v' (n + m) (xs ++ news) ∧ Step w w' v v' := by
  subst hsize
  subst hby
  have hl := h.1
  have hnl := hs.newsLen
  have hL : (xs ++ news).length = (n + m) * i.size := by rw [List.length_append, hl, hnl, Nat.add_mul]
  have hsmall : n + m ≤ 9223372036854775807 := by simp only [maxLen] at h63; omega
  -- a new row
  have grow : ∀ (bs : Option Addr) (sc : Nat), v = .slice bs n sc → sc < n + m → (Builtin.firstCells i.size n (.slice bs n sc)).run P w.drew = .ok xs.toArray w.drew →
      ∃ v' w', (Builtin.append_ #[t, tx] ty #[v, x]).run P w = .ok v' w' ∧ Buf w' i.size v' (n + m) (xs ++ news) ∧ Step w w' v v' := by
    rintro bs sc rfl hg hold
    have hrun := run_append_grow_src (P := P) w t tx ty e i z ht hi hz bs n sc xs hold x m news hs hg (by omega) (growslice_fits hg hbytes)
    have hge := grownCap_ge w (n + m) sc e
    have hcm := grownCap_le_maxLen w (n + m) sc e h63
    generalize hW : w.drew.alloc (.cells ((xs ++ news).toArray ++ Builtin.zeroCells z.cells (grownCap w (n + m) sc e - (n + m))) e) = W' at hrun
    have e1 : ∀ j, W'.cell? ⟨w.heap.size, j, none⟩ = ((xs ++ news).toArray ++ Builtin.zeroCells z.cells (grownCap w (n + m) sc e - (n + m)))[j]? := fun j => by
      rw [← hW]; exact World.cell?_alloc_new w.drew _ _ j
    have e2 : ∀ j, W'.frozen? ⟨w.heap.size, j, none⟩ = false := fun j => by
      rw [← hW]; exact World.frozen?_alloc_new w.drew _ _ j
    have hsz : ((xs ++ news).toArray ++ Builtin.zeroCells z.cells (grownCap w (n + m) sc e - (n + m))).size = grownCap w (n + m) sc e * i.size := by
      rw [Array.size_append, List.size_toArray, hL, size_zeroCells, hzs, ← Nat.add_mul]
      congr 1
      omega
    refine ⟨_, W', hrun, ⟨hL, .inr ⟨w.heap.size, _, rfl, hge, hcm, by rw [← hW]; simp, fun j u hj => ?_, fun j hj => ⟨?_, e2 j⟩⟩⟩, ⟨⟨by rw [← hW]; rfl, by rw [← hW]; rfl, by rw [← hW]; rfl, by rw [← hW]; simp, fun k hk _ => by rw [← hW]; exact Below.heap_alloc w.drew _ k hk⟩, .inr ⟨w.heap.size, rfl, Nat.le_refl _⟩⟩⟩
    · rw [e1, Array.getElem?_append_left (by rw [List.size_toArray]; exact (List.getElem?_eq_some_iff.1 hj).1), List.getElem?_toArray]
      exact hj
    · rw [e1, Array.getElem?_eq_getElem (by rw [hsz]; exact hj)]
      rfl
  rcases h.2 with ⟨rfl, h0⟩ | ⟨g, cap, rfl, hle, hmx, hg, hc, hf⟩
  · subst h0
    obtain rfl : xs = [] := List.eq_nil_of_length_eq_zero (by simpa using hl)
    rcases Nat.eq_zero_or_pos m with hm | hm
    · subst hm
      obtain rfl : news = [] := List.eq_nil_of_length_eq_zero (by simpa using hnl)
      exact ⟨_, w, run_append_none_nothing w t tx ty e i ht hi x hs, by simpa using h, Step.refl _ _⟩
    · exact grow none 0 rfl (by omega) (run_firstCells_none w.drew i.size 0 0 0)
  · by_cases hfit : n + m ≤ cap
    · have hrc : (n + m) * i.size ≤ cap * i.size := Nat.mul_le_mul_right _ hfit
      rw [Nat.add_mul] at hrc
      have hsome : ∀ j, j < news.length → (w.cell? ⟨g, 0 + n * i.size + j, none⟩).isSome = true := fun j hj => (hf _ (by omega)).1
      have hrun := run_append_room_src (P := P) w t tx ty e i ht hi g 0 n cap x m news hs hfit hsome (fun j hj => (hf _ (by omega)).2)
      have hsame : ∀ k, k < w.heap.size → k ≠ g → (w.setCells g (0 + n * i.size) news).heap[k]? = w.heap[k]? := fun k hk hne => World.heap_setCells_other w g _ news hk hne
      have hbl := below_setCells0 (B := 0) (b := g) (a := w) (Nat.zero_le _) news (0 + n * i.size) w (Below.refl _ _)
      refine ⟨_, _, hrun, ⟨hL, .inr ⟨g, cap, rfl, hfit, hmx, Nat.lt_of_lt_of_le hg hbl.size, fun j u hj => ?_, fun j hj => ⟨?_, ?_⟩⟩⟩, ⟨⟨hbl.os, hbl.tape, hbl.output, hbl.size, fun k hk hne => hsame k hk (fun e' => hne (by rw [e']; rfl))⟩, .inl rfl⟩⟩
      · by_cases hjo : j < xs.length
        · rw [World.cell?_setCells_out g _ _ _ _ (fun _ _ => Or.inl (by show j < 0 + n * i.size; omega))]
          rw [List.getElem?_append_left hjo] at hj
          exact hc j u hj
        · rw [List.getElem?_append_right (by omega)] at hj
          have ht' : j - xs.length < news.length := (List.getElem?_eq_some_iff.1 hj).1
          have hin := World.cell?_setCells_in g news (0 + n * i.size) w hsome (j - xs.length) ht'
          rw [show 0 + n * i.size + (j - xs.length) = j by omega] at hin
          rw [hin, ← List.getElem?_eq_getElem ht']
          exact hj
      · by_cases hin : n * i.size ≤ j ∧ j < n * i.size + news.length
        · have hin' := World.cell?_setCells_in g news (0 + n * i.size) w hsome (j - n * i.size) (by omega)
          rw [show 0 + n * i.size + (j - n * i.size) = j by omega] at hin'
          rw [hin']; rfl
        · rw [World.cell?_setCells_out g _ _ _ _ (fun _ _ => by show j < 0 + n * i.size ∨ 0 + n * i.size + news.length ≤ j; omega)]
          exact (hf j hj).1
      · rw [World.frozen?_setCells]; exact (hf j hj).2
    · refine grow _ cap rfl (by omega) ?_
      exact run_firstCells_some w.drew i.size n ⟨g, 0, none⟩ n cap xs hl (fun j u hj => by rw [Addr.add_lit, Nat.zero_add]; exact hc j u hj)

/-- FOR THE WALK. -/
theorem wpList_append_buf (w : World) {ops : Array Oper} {rest : List Oper} {o : Oper} {a : Act} {Q : Exit → Act → World → Prop}
    (hg : o.guard = none) (s x : Operand) (t tx : TypeId) (hop : o.op = Op.call { callee := Callee.builtin Builtin.append, args := #[s, x], argTypes := #[t, tx] })
    (e : TypeId) (i : TypeInfo) (z : Value) (size bytes : Nat) (h1 : P.underlying t = some (.slice e)) (h2 : P.info? e = some i) (h3 : i.zero = some z) (h4 : i.size = size) (h5 : i.bytes = bytes) (h6 : z.cells.size = size)
    (v : Value) (n : Nat) (xs : List Value) (hv : a.eval s = v) (hbuf : Buf w size v n xs) (xv : Value) (m : Nat) (news : List Value) (hx : a.eval x = xv) (hs : Src P size tx xv m news w)
    (b1 : n + m ≤ maxLen) (b2 : (n + m) * bytes ≤ 140737488355328)
    (hK : ∀ v' w', Buf w' size v' (n + m) (xs ++ news) → Step w w' v v' → wpList P ops Q rest (a.put o.dst v') w') :
    wpList P ops Q (o :: rest) a w := by
  refine wpList_plain hg fun K hK' => ?_
  obtain ⟨v', w', hrun, r1, r2⟩ := run_append_buf (P := P) t tx o.type e i z size bytes h1 h2 h3 h4 h5 h6 hbuf xv m news hs b1 b2
  unfold Oper.wp
  simp [execOp, hop, resolve, invoke, builtin, hv, hx, hrun, Result.andThen]
  exact hK' _ _ (hK v' w' r1 r2)
end

end Go.Bufs

namespace Go.Bufs
open Go.RowKit

/-- A byte as a cell. -/
def bcell (b : UInt8) : Value := .int .u8 b.toNat

/-- A byte buffer in block g of capacity cap, the bytes bs so far. -/
structure Fit (w : World) (g cap : Nat) (bs : List UInt8) : Prop where
  le : bs.length ≤ cap
  max : cap ≤ maxLen
  lt : g < w.heap.size
  holds : ∀ j (b : UInt8), bs[j]? = some b → w.cell? ⟨g, j, none⟩ = some (bcell b)
  there : ∀ j, j < cap → (w.cell? ⟨g, j, none⟩).isSome = true ∧ w.frozen? ⟨g, j, none⟩ = false

theorem Fit.kept {w w' : World} {g cap : Nat} {bs : List UInt8} (h : Fit w g cap bs) (hs : w.heap.size ≤ w'.heap.size) (hb : w'.heap[g]? = w.heap[g]?) : Fit w' g cap bs := by
  refine ⟨h.le, h.max, Nat.lt_of_lt_of_le h.lt hs, fun j b hj => ?_, fun j hj => ?_⟩
  · rw [World.cell?_of_block (a := ⟨g, j, none⟩) hb]; exact h.holds j b hj
  · rw [World.cell?_of_block (a := ⟨g, j, none⟩) hb, World.frozen?_of_block (a := ⟨g, j, none⟩) hb]; exact h.there j hj

theorem Fit.below {w w' : World} {g cap : Nat} {bs : List UInt8} (h : Fit w g cap bs) (hb : Below w.heap.size w w') : Fit w' g cap bs := h.kept hb.size (hb.block g h.lt)
theorem Fit.alloc {w : World} {g cap : Nat} {bs : List UInt8} (h : Fit w g cap bs) (o : Obj) : Fit (w.alloc o) g cap bs := h.below ((Below.refl _ _).alloc (Nat.le_refl _) o)

theorem Fit.ofNew (w : World) (cs : Array Value) (T : TypeId) (hm : cs.size ≤ maxLen) : Fit (w.alloc (.cells cs T)) w.heap.size cs.size [] := by
  refine ⟨by simp, hm, by simp, by simp, fun j hj => ?_⟩
  have e1 : (w.alloc (.cells cs T)).cell? ⟨w.heap.size, j, none⟩ = _ := World.cell?_alloc_new w _ _ j
  have e2 : (w.alloc (.cells cs T)).frozen? ⟨w.heap.size, j, none⟩ = _ := World.frozen?_alloc_new w _ _ j
  rw [e1, e2, Array.getElem?_eq_getElem hj]
  exact ⟨rfl, rfl⟩

/-- New blocks, and writes to block g alone. -/
abbrev Only (w w' : World) (g : Nat) : Prop := w.grownBy w' (some g)

theorem Only.refl (w : World) (g : Nat) : Only w w g := ⟨rfl, rfl, rfl, Nat.le_refl _, fun _ _ _ => rfl⟩
theorem Only.trans {a b c : World} {g : Nat} (h : Only a b g) (k : Only b c g) : Only a c g :=
  ⟨k.os.trans h.os, k.tape.trans h.tape, k.output.trans h.output, Nat.le_trans h.size k.size, fun i hi hne => (k.block i (Nat.lt_of_lt_of_le hi h.size) hne).trans (h.block i hi hne)⟩
theorem Only.ofBelow {w w' : World} {g : Nat} (hb : Below w.heap.size w w') : Only w w' g := ⟨hb.os, hb.tape, hb.output, hb.size, fun k hk _ => hb.block k hk⟩
theorem Only.alloc (w : World) (g : Nat) (o : Obj) : Only w (w.alloc o) g := Only.ofBelow ((Below.refl _ _).alloc (Nat.le_refl _) o)
theorem Only.cell {w w' : World} {g : Nat} (h : Only w w' g) {b o : Nat} (hb : b < w.heap.size) (hne : b ≠ g) : w'.cell? ⟨b, o, none⟩ = w.cell? ⟨b, o, none⟩ :=
  World.cell?_of_block (a := ⟨b, o, none⟩) (h.block b hb (fun e => hne (Option.some.inj e)))
theorem Only.frozen {w w' : World} {g : Nat} (h : Only w w' g) {b o : Nat} (hb : b < w.heap.size) (hne : b ≠ g) : w'.frozen? ⟨b, o, none⟩ = w.frozen? ⟨b, o, none⟩ :=
  World.frozen?_of_block (a := ⟨b, o, none⟩) (h.block b hb (fun e => hne (Option.some.inj e)))
theorem Only.below {w w' : World} {g B : Nat} (h : Only w w' g) (hB : B ≤ w.heap.size) (hg : B ≤ g) : Below B w w' :=
  ⟨h.os, h.tape, h.output, h.size, fun k hk => h.block k (by omega) (fun e => by cases e; omega)⟩

section
variable {P : Program}
/-- append WITHIN THE CAPACITY. -/
theorem run_append_fit (t tx ty e : TypeId) (i : TypeInfo) (ht : P.underlying t = some (.slice e)) (hi : P.info? e = some i) (hsize : i.size = 1)
    {w : World} {g cap : Nat} {bs : List UInt8} (h : Fit w g cap bs) (x : Value) (news : List UInt8) (hs : Src P 1 tx x news.length (news.map bcell) w) (hfit : bs.length + news.length ≤ cap) :
    ∃ w', (Builtin.append_ #[t, tx] ty #[.slice (some ⟨g, 0, none⟩) bs.length cap, x]).run P w = .ok (.slice (some ⟨g, 0, none⟩) (bs.length + news.length) cap) w' ∧ Fit w' g cap (bs ++ news) ∧ Only w w' g := by
  rw [← hsize] at hs
  have hsome : ∀ j, j < (news.map bcell).length → (w.cell? ⟨g, 0 + bs.length * i.size + j, none⟩).isSome = true := fun j hj => by
    rw [List.length_map] at hj
    exact (h.there _ (by rw [hsize]; omega)).1
  have hrun := run_append_room_src (P := P) w t tx ty e i ht hi g 0 bs.length cap x news.length (news.map bcell) hs hfit hsome (fun j hj => by
    rw [List.length_map] at hj
    exact (h.there _ (by rw [hsize]; omega)).2)
  rw [hsize] at hrun hsome
  rw [show 0 + bs.length * 1 = bs.length by omega] at hrun hsome
  have hbl := below_setCells0 (B := 0) (b := g) (a := w) (Nat.zero_le _) (news.map bcell) bs.length w (Below.refl _ _)
  have hl : (news.map bcell).length = news.length := List.length_map ..
  refine ⟨_, hrun, ⟨by simpa using hfit, h.max, Nat.lt_of_lt_of_le h.lt hbl.size, fun j b hj => ?_, fun j hj => ⟨?_, ?_⟩⟩, ⟨hbl.os, hbl.tape, hbl.output, hbl.size, fun k hk hne => World.heap_setCells_other w g _ _ hk (fun e' => hne (by rw [e']))⟩⟩
  · by_cases hjo : j < bs.length
    · rw [World.cell?_setCells_out g _ _ _ _ (fun _ _ => Or.inl hjo)]
      rw [List.getElem?_append_left hjo] at hj
      exact h.holds j b hj
    · rw [List.getElem?_append_right (by omega)] at hj
      have ht' : j - bs.length < news.length := (List.getElem?_eq_some_iff.1 hj).1
      have hin := World.cell?_setCells_in g (news.map bcell) bs.length w hsome (j - bs.length) (by omega)
      rw [show bs.length + (j - bs.length) = j by omega] at hin
      rw [hin, ← List.getElem?_eq_getElem, List.getElem?_map, hj]
      rfl
  · by_cases hin : bs.length ≤ j ∧ j < bs.length + news.length
    · have hin' := World.cell?_setCells_in g (news.map bcell) bs.length w hsome (j - bs.length) (by omega)
      rw [show bs.length + (j - bs.length) = j by omega] at hin'
      rw [hin']; rfl
    · rw [World.cell?_setCells_out g _ _ _ _ (fun _ _ => by show j < bs.length ∨ bs.length + (news.map bcell).length ≤ j; omega)]
      exact (h.there j hj).1
  · rw [World.frozen?_setCells]; exact (h.there j hj).2

/-- FOR THE WALK. -/
theorem wpList_append_fit (w : World) {ops : Array Oper} {rest : List Oper} {o : Oper} {a : Act} {Q : Exit → Act → World → Prop}
    (hg : o.guard = none) (s x : Operand) (t tx : TypeId) (hop : o.op = Op.call { callee := Callee.builtin Builtin.append, args := #[s, x], argTypes := #[t, tx] })
    (e : TypeId) (i : TypeInfo) (h1 : P.underlying t = some (.slice e)) (h2 : P.info? e = some i) (h4 : i.size = 1)
    (g cap n : Nat) (bs : List UInt8) (hn : bs.length = n) (hv : a.eval s = .slice (some ⟨g, 0, none⟩) n cap) (hbuf : Fit w g cap bs) (xv : Value) (news : List UInt8) (hx : a.eval x = xv) (hs : Src P 1 tx xv news.length (news.map bcell) w)
    (b1 : n + news.length ≤ cap)
    (hK : ∀ w', Fit w' g cap (bs ++ news) → Only w w' g → wpList P ops Q rest (a.put o.dst (.slice (some ⟨g, 0, none⟩) (n + news.length) cap)) w') :
    wpList P ops Q (o :: rest) a w := by
  refine wpList_plain hg fun K hK' => ?_
  subst hn
  obtain ⟨w', hrun, r1, r2⟩ := run_append_fit (P := P) t tx o.type e i h1 h2 h4 hbuf xv news hs b1
  unfold Oper.wp
  simp [execOp, hop, resolve, invoke, builtin, hv, hx, hrun, Result.andThen]
  exact hK' _ _ (hK w' r1 r2)

/-- ONE byte, laid in a new block of its own. -/
theorem src_one (w : World) {tx e' : TypeId} (hk : P.underlying tx = some (.slice e')) (b : UInt8) (x : Value) (hx : x = bcell b) (T : TypeId) :
    Src P 1 tx (.slice (some ⟨w.heap.size, 0, none⟩) 1 1) [b].length ([b].map bcell) (w.alloc (.cells #[x] T)) := by
  subst hx
  refine Src.ofSlice (P := P) _ hk ⟨w.heap.size, 0, none⟩ 1 1 _ (by simp) (fun j u hj => ?_) (fun u hu => ?_)
  · match j, hj with
    | 0, hj =>
      simp at hj; subst hj
      rw [Addr.add_lit]
      exact World.cell?_alloc_new w _ _ 0
  · simp at hu; subst hu; rfl
end
end Go.Bufs
