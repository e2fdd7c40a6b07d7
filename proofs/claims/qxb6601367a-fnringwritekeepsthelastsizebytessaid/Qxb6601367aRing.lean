/-
  The ring in memory; which blocks a step leaves alone; append and copy as steps of a region that draws its order.
-/
import Derived.Test.Qxb6601367aBytes
import Derived.Test.Qxb6601367aPlain
import Derived.Deep.RegionLaw
import Derived.Deep.RegionLawGrows
namespace Go.Proofs.Qxb6601367a.Bytes
open Go.RowKit

/-- Every block that was there and is not in 'S' is as it was. -/
structure Kept (S : Nat → Prop) (w w' : World) : Prop where
  os : w'.os = w.os
  tape : w'.tape = w.tape
  output : w'.output = w.output
  size : w.heap.size ≤ w'.heap.size
  block : ∀ k, k < w.heap.size → ¬ S k → w'.heap[k]? = w.heap[k]?

theorem Kept.refl (S : Nat → Prop) (w : World) : Kept S w w := ⟨rfl, rfl, rfl, Nat.le_refl _, fun _ _ _ => rfl⟩

theorem Kept.trans {S : Nat → Prop} {a b c : World} (h : Kept S a b) (k : Kept S b c) : Kept S a c :=
  ⟨k.os.trans h.os, k.tape.trans h.tape, k.output.trans h.output, Nat.le_trans h.size k.size, fun i hi hs => (k.block i (Nat.lt_of_lt_of_le hi h.size) hs).trans (h.block i hi hs)⟩

theorem Kept.mono {S T : Nat → Prop} {a b : World} (h : Kept S a b) (hst : ∀ k, S k → T k) : Kept T a b :=
  ⟨h.os, h.tape, h.output, h.size, fun i hi hs => h.block i hi (fun hx => hs (hst i hx))⟩

theorem Kept.drawn {S : Nat → Prop} {a b : World} (h : Kept S a b) (n : Nat) : Kept S a (b.drewN n) := ⟨h.os, h.tape, h.output, h.size, h.block⟩

theorem Kept.drew {S : Nat → Prop} {a b : World} (h : Kept S a b) : Kept S a b.drew := ⟨h.os, h.tape, h.output, h.size, h.block⟩

theorem Kept.setCell {S : Nat → Prop} {a b : World} (h : Kept S a b) (p : Addr) (hp : S p.block) (u : Value) : Kept S a (b.setCell p u) :=
  h.trans ⟨rfl, rfl, rfl, by simp [World.setCell], fun k _ hk => Below.heap_setCell _ _ _ _ (fun e => hk (e ▸ hp))⟩

theorem Kept.grown {S : Nat → Prop} {a b c : World} {row : Option Nat} (h : Kept S a b) (hg : b.grownBy c row) (hr : ∀ k, row = some k → S k) : Kept S a c :=
  h.trans ⟨hg.os, hg.tape, hg.output, hg.size, fun k hk hs => hg.block k hk (fun e => hs (hr k e.symm))⟩

theorem Kept.below {S : Nat → Prop} {a b : World} (h : Kept S a b) {B : Nat} (hB : B ≤ a.heap.size) (hS : ∀ k, S k → B ≤ k) : Below B a b :=
  ⟨h.os, h.tape, h.output, h.size, fun k hk => h.block k (by omega) (fun hs => by have := hS k hs; omega)⟩

theorem Kept.cell {S : Nat → Prop} {a b : World} (h : Kept S a b) {x : Addr} {v : Value} (hs : ¬ S x.block) (hc : a.cell? x = some v) : b.cell? x = some v := by
  rw [World.cell?_of_block (h.block x.block (World.block_lt_of_cell? _ _ hc) hs)]
  exact hc

theorem Row.kept {S : Nat → Prop} {w w' : World} {a : Option Addr} {len : Nat} {xs : List Int} (h : Row w a len xs) (hk : Kept S w w') (hs : ∀ x, a = some x → ¬ S x.block) : Row w' a len xs := by
  rcases h with h | ⟨b, off, rfl, hc⟩
  · exact .inl h
  · exact .inr ⟨b, off, rfl, fun i hi => hk.cell (show ¬ S b from hs ⟨b, off, none⟩ rfl) (hc i hi)⟩

theorem owns_kept {S : Nat → Prop} {w w' : World} {base n size : Nat} {e : TypeId} {v : Value} {xs : List Value} (h : w.ownsRow base e size v n xs) (hk : Kept S w w') (hs : ∀ k, v.ownBlock = some k → ¬ S k) : w'.ownsRow base e size v n xs := by
  obtain ⟨h1, h2⟩ := h
  refine ⟨h1, ?_⟩
  rcases h2 with h2 | ⟨g, cap, cur, hv, hg, hh, r⟩
  · exact .inl h2
  · exact .inr ⟨g, cap, cur, hv, hg, by rw [hk.block g (lt_of_block hh) (hs g (by rw [hv]; rfl))]; exact hh, r⟩

/-- The ring lies in block 'R'. -/
def RingAt (w : World) (R : Nat) (size : Int) (ao : Option Addr) (n cap : Nat) (next wr : Int) : Prop :=
  w.heap[R]? = some (.cells #[.int .i64 size, .slice ao n cap, .int .i64 next, .int .i64 wr] 50 (0, 0))

section
variable {w : World} {R : Nat} {size next wr : Int} {ao : Option Addr} {n cap : Nat}

theorem RingAt.c0 (h : RingAt w R size ao n cap next wr) : w.cell? ⟨R, 0, none⟩ = some (.int .i64 size) := by rw [cell_of_row w R 0 _ _ _ h]; rfl
theorem RingAt.c1 (h : RingAt w R size ao n cap next wr) : w.cell? ⟨R, 1, none⟩ = some (.slice ao n cap) := by rw [cell_of_row w R 1 _ _ _ h]; rfl
theorem RingAt.c2 (h : RingAt w R size ao n cap next wr) : w.cell? ⟨R, 2, none⟩ = some (.int .i64 next) := by rw [cell_of_row w R 2 _ _ _ h]; rfl
theorem RingAt.c3 (h : RingAt w R size ao n cap next wr) : w.cell? ⟨R, 3, none⟩ = some (.int .i64 wr) := by rw [cell_of_row w R 3 _ _ _ h]; rfl
theorem RingAt.free (h : RingAt w R size ao n cap next wr) (i : Nat) : w.frozen? ⟨R, i, none⟩ = false := by
  have : w.heap[R]? = _ := h
  simp [World.frozen?, this]
theorem RingAt.lt (h : RingAt w R size ao n cap next wr) : R < w.heap.size := lt_of_block h

theorem block_setA {g k : Nat} {L : Array Value} {t : TypeId} (h : w.heap[g]? = some (.cells L t (0, 0))) (u : Value) :
    (w.setCell ⟨g, k, none⟩ u).heap[g]? = some (.cells (L.setIfInBounds k u) t (0, 0)) := by
  have hlt := lt_of_block h
  have h' : w.heap[g] = .cells L t (0, 0) := by simpa [Array.getElem?_eq_getElem hlt] using h
  show (w.heap.modify g _)[g]? = _
  rw [Array.getElem?_eq_getElem (by simpa using hlt), Array.getElem_modify_self, h']
  rfl

theorem RingAt.set1 (h : RingAt w R size ao n cap next wr) (ao' : Option Addr) (n' cap' : Nat) : RingAt (w.setCell ⟨R, 1, none⟩ (.slice ao' n' cap')) R size ao' n' cap' next wr := block_setA h _
theorem RingAt.set2 (h : RingAt w R size ao n cap next wr) (x : Int) : RingAt (w.setCell ⟨R, 2, none⟩ (.int .i64 x)) R size ao n cap x wr := block_setA h _
theorem RingAt.set3 (h : RingAt w R size ao n cap next wr) (x : Int) : RingAt (w.setCell ⟨R, 3, none⟩ (.int .i64 x)) R size ao n cap next x := block_setA h _

theorem RingAt.kept {S : Nat → Prop} {w' : World} (h : RingAt w R size ao n cap next wr) (hk : Kept S w w') (hs : ¬ S R) : RingAt w' R size ao n cap next wr := by
  unfold RingAt
  rw [hk.block R h.lt hs]
  exact h

/-- A row of bytes is not the ring's block. -/
theorem RingAt.other {base n' : Nat} {v : Value} {xs : List Value} (h : RingAt w R size ao n cap next wr) (ho : w.ownsRow base 5 1 v n' xs) : v.ownBlock ≠ some R := by
  intro e
  rcases ho.2 with ⟨rfl, _⟩ | ⟨g, cap', cur, rfl, _, hh, _⟩
  · simp [Value.ownBlock] at e
  · simp [Value.ownBlock] at e
    subst e
    have : w.heap[g]? = _ := h
    rw [this] at hh
    simp at hh
end

theorem own_ge {w : World} {base n : Nat} {e : TypeId} {v : Value} {xs : List Value} (h : w.ownsRow base e 1 v n xs) : ∀ k, v.ownBlock = some k → base ≤ k := fun k hk => (h.lt k hk).1

/-- append TO THE RING's BUFFER, as one step of a region that draws its order. -/
theorem step_append_ring {ops : Array Oper} {o : Oper} {a : Act} {w : World} {K : Act → World → Prop} {Q : Exit → Act → World → Prop} {E : Prop}
    (hg : o.guard = none) (s x : Operand) (hop : o.op = Op.call { callee := Callee.builtin Builtin.append, args := #[s, x], argTypes := #[23, 23] })
    (B g n cap : Nat) (xs : List Int) (hs : a.eval s = .slice (some ⟨g, 0, none⟩) n cap) (hown : w.ownsRow B 5 1 (.slice (some ⟨g, 0, none⟩) n cap) n (ints xs))
    (ad : Addr) (m c : Nat) (ps : List Int) (hx : a.eval x = .slice (some ad) m c) (hxl : xs.length = n) (hpl : ps.length = m) (hp : Row w (some ad) m ps)
    (hb : n + m ≤ 2097152) (hB : B ≤ w.heap.size) (R : Nat) (size next wr : Int) (hring : RingAt w R size (some ⟨g, 0, none⟩) n cap next wr)
    (hK : ∀ g' cap' w', Hid (w'.ownsRow B 5 1 (.slice (some ⟨g', 0, none⟩) (n + m) cap') (n + m) (ints (xs ++ ps))) → Hid (g' = g ∨ w.heap.size ≤ g') → Kept (fun k => k = g) w w' → w'.cell? ⟨R, 1, none⟩ = some (.slice (some ⟨g, 0, none⟩) n cap) → w'.frozen? ⟨R, 1, none⟩ = false → K (a.put o.dst (.slice (some ⟨g', 0, none⟩) (n + m) cap')) w') :
    if Region.wanted o (yielded ops a.tmps) = true then Oper.wp Try.prog o a w K Q else E := by
  obtain ⟨i0, hi, hz0, hz1, hz2⟩ := info_parts info5
  have hne : ¬ R = g := fun e => (hring.other hown) (by simp [Value.ownBlock]; exact e.symm)
  by_cases hcap : n + m ≤ cap
  · have hw : Region.wanted o (yielded ops a.tmps) = true := by simp [Region.wanted, hg]
    rw [if_pos hw]
    obtain ⟨w', hrun, hown', hgrow⟩ := run_append_fits (P := Try.prog) w B 23 o.type 5 i0 1 Try.underlying23 hi hz1 g n cap (ints xs) hown ad m c (ints ps) (by rw [length_ints, hpl]; omega) (news_of hpl hp) (one_ints ps) hcap
    have hk : Kept (fun k => k = g) w w' := (Kept.refl _ w).grown hgrow (fun k hk => by simpa using hk.symm)
    have hr' := hring.kept hk hne
    rw [ints_app] at hown'
    unfold Oper.wp
    simp [execOp, hop, resolve, invoke, builtin, hs, hx, hrun, Result.andThen]
    exact hK g cap w' hown' (.inl rfl) hk hr'.c1 (hr'.free 1)
  · refine step_append_grows hg s x 23 hop 5 i0 (.int .u8 0) 1 1 Try.underlying23 hi hz0 hz1 hz2 rfl (by decide) (some ⟨g, 0, none⟩) n cap (ints xs) hs (by simp) (by rw [length_ints, hxl]; omega) ?_ ad m c (ints ps) hx (by rw [length_ints, hpl]; omega) (news_of hpl hp) (one_ints ps) (by omega) (by unfold maxLen; omega) (by omega) ?_
    · intro b hb'
      simp only [Option.some.injEq] at hb'
      subst hb'
      exact news_of hxl (row_of_owns hown)
    · intro v' w' hown' hgrow
      have hk : Kept (fun k => k = g) w w' := (Kept.refl _ w).grown hgrow (fun k hk => by simp at hk)
      have hr' := hring.kept hk hne
      rw [ints_app] at hown'
      have hown2 := owns_mono hown' hB
      rcases hown'.2 with ⟨rfl, h0⟩ | ⟨g', cap', cur, rfl, hgg, _⟩
      · omega
      · exact hK g' cap' w' hown2 (.inr hgg) hk hr'.c1 (hr'.free 1)

/-- copy INTO THE RING's BUFFER, as one step of a region that draws its order. -/
theorem step_copy_ring {ops : Array Oper} {o : Oper} {a : Act} {w : World} {K : Act → World → Prop} {Q : Exit → Act → World → Prop} {E : Prop} (hgd : o.guard = none) (d s : Operand)
    (ho : o.op = .call { callee := .builtin .copy, args := #[d, s], argTypes := #[23, 23] })
    (g off dLen dCap : Nat) (ad : Addr) (sLen sCap : Nat) (hd : a.eval d = .slice (some ⟨g, off, none⟩) dLen dCap) (hs : a.eval s = .slice (some ad) sLen sCap)
    (cur : List Value) (hg : w.heap[g]? = some (.cells cur.toArray 5 (0, 0))) (cs : List Value) (k : Nat) (hk : cs.length = k) (hn : k = Nat.min sLen dLen)
    (hsrc : ∀ j v, cs[j]? = some v → w.cell? (ad.add j) = some v) (hfit : off + k ≤ cur.length) (h1 : ∀ v ∈ cs, v.oneCell' = true)
    (h : ∀ w', Hid (w'.heap[g]? = some (.cells (splice cur off cs).toArray 5 (0, 0))) → Kept (fun k => k = g) w w' → K (a.put o.dst (.int .i64 (k : Int))) w') :
    if Region.wanted o (yielded ops a.tmps) = true then Oper.wp Try.prog o a w K Q else E := by
  have hw : Region.wanted o (yielded ops a.tmps) = true := by simp [Region.wanted, hgd]
  rw [if_pos hw]
  obtain ⟨i0, hi, hz0, hz1, hz2⟩ := info_parts info5
  have hsz : (Try.prog.info? 5).map (·.size) = some 1 := by rw [hi]; simp [hz1]
  have hrun := run_copy_row (P := Try.prog) w 23 23 o.type 5 g off dLen dCap ad sLen sCap cur.toArray 5 cs Try.underlying23 hsz hg (by rw [hk]; exact hn) hsrc (by simpa [hk] using hfit) h1
  unfold Oper.wp
  simp [execOp, ho, resolve, invoke, builtin, hd, hs, hrun, Result.andThen]
  rw [hk]
  exact h _ (show _ = _ by simpa [splice, hk] using setRow_heap w g _ _ 5 _ hg) ⟨rfl, rfl, rfl, by simp [World.setRow], fun i _ hi => setRow_other w g i _ hi⟩

end Go.Proofs.Qxb6601367a.Bytes
