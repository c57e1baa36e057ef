/-
  SEAT b2495a: LawS2495AFindLast (3): link and find over the index; append as a step of a region that draws.
-/
import Derived.Test.YbulkayqmState
namespace Go.Bufs
open Go.RowKit

/-- append(buf, e), e of two cells, as one step of a region that draws. -/
theorem step_append_pair {P : Program} {w : World} {ops : Array Oper} {o : Oper} {a : Act} {K : Act → World → Prop} {Q : Exit → Act → World → Prop} {E : Prop}
    (hg : o.guard = none) (s x : Operand) (t tx : TypeId) (hop : o.op = Op.call { callee := Callee.builtin Builtin.append, args := #[s, x], argTypes := #[t, tx] })
    (e e' : TypeId) (i : TypeInfo) (z : Value) (bytes : Nat) (h1 : P.underlying t = some (.slice e)) (hk : P.underlying tx = some (.slice e')) (h2 : P.info? e = some i) (h3 : i.zero = some z) (h4 : i.size = 2) (h5 : i.bytes = bytes) (h6 : z.cells.size = 2)
    (v : Value) (n : Nat) (xs : List Value) (hv : a.eval s = v) (w0 : World) (T : TypeId) (xv yv : Value) (hw : w = w0.alloc (.cells #[xv, yv] T)) (hx : a.eval x = .slice (some ⟨w0.heap.size, 0, none⟩) 1 1)
    (hone : xv.oneCell' = true) (hone' : yv.oneCell' = true) (hbuf : Buf w0 2 v n xs) (b1 : n + 1 ≤ maxLen) (b2 : (n + 1) * bytes ≤ 140737488355328)
    (hK : ∀ v' w', Buf w' 2 v' (n + 1) (xs ++ [xv, yv]) → Step w0 w' v v' → K (a.put o.dst v') w') :
    if Region.wanted o (yielded ops a.tmps) = true then Oper.wp P o a w K Q else E := by
  have hw' : Region.wanted o (yielded ops a.tmps) = true := by simp [Region.wanted, hg]
  rw [if_pos hw']
  subst hw
  obtain ⟨v', w', hrun, r1, r2⟩ := run_append_buf (P := P) t tx o.type e i z 2 bytes h1 h2 h3 h4 h5 h6 (hbuf.alloc (.cells #[xv, yv] T)) _ 1 [xv, yv] (src_pair w0 hk xv yv hone hone' T) b1 b2
  unfold Oper.wp
  simp [execOp, hop, resolve, invoke, builtin, hv, hx, hrun, Result.andThen]
  exact hK v' w' r1 ((Step.alloc w0 v _).trans r2)
end Go.Bufs

namespace Go.Proofs.Ybulkayqm
open Go.RowKit Go.Bufs

theorem buf_slice {w : World} {v : Value} {n : Nat} {xs : List Value} (h : Buf w 2 v n xs) : ∃ a c, v = .slice a n c ∧ (n = 0 ∨ ∃ C, a = some ⟨C, 0, none⟩ ∧ C < w.heap.size ∧ ∀ j u, xs[j]? = some u → w.cell? ⟨C, j, none⟩ = some u) := by
  rcases h.2 with ⟨rfl, rfl⟩ | ⟨g, cap, rfl, _, _, hg, hc, _⟩
  · exact ⟨none, 0, rfl, .inl rfl⟩
  · exact ⟨_, cap, rfl, .inr ⟨g, rfl, hg, hc⟩⟩

section
variable {w wr : World} {fs ys : Nat → Int} {X H F M len : Nat} {cv : Value} {xs : List Value} {k j : Nat}

theorem link_st (s : St w wr fs ys X H F M len cv xs k k j) (hM : M ≤ 8) (hk : k ≤ 1024) (hf : fs k = -1 ∨ ∃ f : Nat, f < M ∧ fs k = f) :
    Calls Yba.prog 6 #[.pointer (some ⟨X, 0, none⟩), .int .i64 (fs k), .int .i64 (ys k)] wr fun e w' => ∃ l, e = .returned (.agg #[.int .i64 (ys k), .int .i32 l]) ∧ St w w' fs ys X H F M len cv xs (k + 1) k j ∧ (0 ≤ fs k → IsLast fs k (fs k) l) := by
  rcases hf with hf | ⟨f, hfM, hf⟩
  · rw [hf]
    refine (link_none X (ys k) wr).mono ?_
    rintro e w' ⟨rfl, hb⟩
    exact ⟨-1, rfl, (s.keep hb).skip (fun t => by omega), fun h => by omega⟩
  · obtain ⟨l, z, h1, h2, h3, h4, h5⟩ := s.heads f hfM
    obtain ⟨a, c, rfl, _⟩ := buf_slice s.chain
    have hL := link_some X H M k c f a (ys k) l z wr hfM hM hk s.hX.2 s.hH.2 s.ne.1 s.x2 s.x3 h1 h2 h3 h4 h5.2.1
    rw [← hf] at hL
    refine hL.mono ?_
    rintro e w' ⟨rfl, hl⟩
    exact ⟨l, rfl, s.linked hfM hf h5 hl, fun _ => by rw [hf]; exact h5.1⟩

theorem find_st (s : St w wr fs ys X H F M len cv xs len len j) (hM : M ≤ 8) (hk : len ≤ 1024) (q : Nat) (hq : q < M) (qy : Int) :
    Calls Yba.prog 7 #[.pointer (some ⟨X, 0, none⟩), .int .i64 (q : Int), .int .i64 qy] wr fun e w' => ∃ r, e = .returned (.int .i64 r) ∧ IsLast (hit fs ys q qy) len 1 r ∧ Below wr.heap.size wr w' := by
  obtain ⟨l, z, h1, h2, _, _, h5⟩ := s.heads q hq
  have hl := s.links
  obtain ⟨a, c, rfl, hch⟩ := buf_slice s.chain
  refine find_any X H M len c q a fs ys qy l z wr hq hM hk s.hX.2 s.hH.2 s.x2 s.x3 h1 h2 h5 ?_
  rcases hch with h0 | ⟨C, rfl, hC, hc⟩
  · exact .inl h0
  · refine .inr ⟨C, rfl, hC, fun i hi => ?_⟩
    obtain ⟨l1, e, l2, l3⟩ := hl i hi
    exact ⟨hc _ _ l1, e, hc _ _ l2, l3⟩
end
end Go.Proofs.Ybulkayqm
