/- Records made into the reference's. -/
import Derived.Test.YtcecfjblgakfeaaS4
namespace Go.Proofs.Ytcecfjblgakfeaa
open Go.RowKit
theorem a39 : (Try.prog.info? 39).map (fun i => (i.zero, i.size, i.bytes)) = some (some (.agg #[.int .u64 0, .int .u64 0, .int .u64 0, .int .u64 0, .int .u64 0, .int .u64 0, .int .u64 0, .int .u64 0, .int .u64 0, .int .u64 0, .string ⟨#[]⟩, .slice none 0 0]), 12, 120) := by kernel_rfl
/-- append of one record of the reference's. -/
theorem wpList_app39 {ops : Array Oper} {rest : List Oper} {o : Oper} {a : Act} {Q : Exit → Act → World → Prop} (w : World) (hgd : o.guard = none) (s x : Operand)
    (ho : o.op = .call { callee := .builtin .append, args := #[s, x], argTypes := #[24, 24] })
    (base : Nat) (v : Value) (rs : List In) (y : In) (n : Nat) (hs : a.eval s = v) (hown : Own w base 39 12 v n (inCells rs))
    (B : Nat) (A : Option Addr) (c : Nat) (hx : a.eval x = .slice A 1 c) (hr : Rd w B 12 A 1 (inCells [y])) (hlen : n ≤ 1000000000000) (hbase : base ≤ w.heap.size)
    (h : ∀ v' w', Own w' base 39 12 v' (n + 1) (inCells (rs ++ [y])) → w.grownBy w' v.ownBlock → (∀ g, v'.ownBlock = some g → v.ownBlock = some g ∨ w.heap.size ≤ g) → wpList Try.prog ops Q rest (a.put o.dst v') w') :
    wpList Try.prog ops Q (o :: rest) a w := by
  obtain ⟨i0, hi, hz0, hz1, hz2⟩ := info_parts a39
  refine wpList_app w hgd s x 24 ho base 39 i0 _ 12 120 Try.underlying24 hi hz0 hz1 hz2 rfl (by decide) v n (inCells rs) hs hown B A 1 c (inCells [y]) hx hr (fun u hu => ?_) (by unfold maxLen; omega) (by omega) hbase fun v' w' h1 h2 h3 => h v' w' ?_ h2 h3
  · simp only [inCells, List.flatMap_cons, List.flatMap_nil, List.append_nil] at hu
    exact (Array.all_eq_true_iff_forall_mem.1 (in_one y)) u (by simpa using hu)
  · have e : inCells (rs ++ [y]) = inCells rs ++ inCells [y] := by simp [inCells]
    rw [e]
    exact h1
theorem new_in (w : World) (y : In) (t : TypeId) : Rd (w.alloc (.cells (recCells y.r y.A y.c) t)) (w.heap.size + 1) 12 (some ⟨w.heap.size, 0, none⟩) 1 (inCells [y]) :=
  ⟨by simp [inCells], fun _ => ⟨w.heap.size, 0, rfl, by omega, fun j u hj => by rw [Nat.zero_add, (Blk.new w t (recCells y.r y.A y.c)).cell]; simpa [inCells] using hj⟩⟩
/-- What the records are made into. -/
def Conv (rs : List In) (w : World) (e : Ending) (w' : World) : Prop := ∃ v, e = .returned v ∧ Own w' w.heap.size 39 12 v rs.length (inCells rs) ∧ Below w.heap.size w w'
set_option maxRecDepth 100000 in
set_option maxHeartbeats 1000000 in
theorem conv_any (rs : List In) (n c : Nat) (A : Option Addr) (hn : n = rs.length) (hbig : rs.length ≤ 2147483647) (w : World) (hr : Rd w w.heap.size 12 A n (inCells rs)) :
    Calls Try.prog 9 #[.slice A n c] w (Conv rs w) := by
  subst hn
  go_enter Try.func9, Try.ntmps9
  go_wp2
  go_loopw [3, 8] (fun v i wr => ∃ k : Nat, k ≤ rs.length ∧ i = .int .i64 k ∧ Own wr w.heap.size 39 12 v k (inCells (rs.take k)) ∧ Below w.heap.size w wr)
    (fun _ i _ => rs.length - (RowKit.intOf i).toNat)
  case atStart => exact ⟨0, Nat.zero_le _, rfl, Own.nil_ _ _ _ _, Below.refl _ _⟩
  case round =>
    obtain ⟨k, hk, rfl, hown, hb⟩ := hrel
    by_cases hlt : k < rs.length
    · obtain ⟨b, off, x, rfl, hx, hbb, hrg⟩ := in_range hr hb rfl hlt
      obtain ⟨cs, hcs⟩ : ∃ cs, cs = (recCells x.r x.A x.c).toList := ⟨_, rfl⟩
      rw [← hcs] at hrg
      have hsz : cs.length = 12 := by rw [hcs]; rfl
      have hi44 : (Try.prog.info? 44).map (·.size) = some cs.length := by rw [hsz]; exact info44
      have hone : cs.toArray.all (·.oneCell') = true := by rw [hcs]; exact in_one x
      obtain ⟨w1, hw1⟩ : ∃ w1, w1 = (wr.alloc (.cells #[.int .u64 0, .int .u64 0, .int .u64 0, .int .u64 0, .int .u64 0, .int .u64 0, .int .u64 0, .int .u64 0, .int .u64 0, .int .u64 0, .string ⟨#[]⟩, .slice none 0 0] 44)).setRow wr.heap.size cs.toArray := ⟨_, rfl⟩
      have hbx : Blk w1 wr.heap.size 44 (recCells x.r x.A x.c) := by
        rw [hw1, hcs]
        exact setRow_blk (Blk.new _ _ _)
      have hbw : Below wr.heap.size wr w1 := by rw [hw1]; exact ((Below.refl _ _).alloc (Nat.le_refl _) _).grown (setRow_grown _ _ _) (by simp) (fun j hj => by cases hj; exact Nat.le_refl _)
      have hbc := hbx.cell
      rw [hw1] at hbc
      have hwr := hb.size
      have hws := hbw.size
      have hown1 := (hown.old hbw).alloc (.cells (recCells x.r x.A x.c) 39)
      have hs1 : w1.heap.size = wr.heap.size + 1 := by rw [hw1]; simp
      have hnew := new_in w1 x 39
      rw [hs1] at hnew
      have hbb1 : w.heap.size ≤ (w1.alloc (.cells (recCells x.r x.A x.c) 39)).heap.size := by simp; omega
      have hb1 := (hb.trans (hbw.mono hwr)).alloc (by omega) (.cells (recCells x.r x.A x.c) 39)
      rw [hw1] at hown1 hnew hbb1 hb1
      have HB := Lib.hid hbb1
      clear hcs hbx hbb1
      go_wp2_with (first
        | (refine wpList_load_mid rfl 44 (.tmp 10) rfl b (off + k * 12) rfl cs _ hrg Try.underlying44 rfl hi44 ?_)
        | (refine wpList_store_row rfl 44 (.tmp 5) (.tmp 11) rfl wr.heap.size cs.toArray rfl rfl 44 _ (Blk.new _ _ _) (by simpa using hi44) (by simp [hsz]) hone ?_)
        | (at_builtin
           refine wpList_app39 _ rfl (.tmp 12) (.tmp 38) rfl w.heap.size u3 (rs.take k) x k rfl hown1 (wr.heap.size + 1 + 1) _ 1 rfl hnew (by omega) HB.out ?_
           intro v' w2 hown2 hg2 hat2))
      have etk : rs.take (k + 1) = rs.take k ++ [x] := by rw [List.take_add_one, hx]; rfl
      exact ⟨⟨k + 1, by omega, by go_num, etk ▸ hown2, hb1.grown hg2 HB.out (fun j hj => (hown1.lt j hj).1)⟩, by simp [RowKit.intOf]; omega⟩
    · obtain rfl : k = rs.length := by omega
      rw [List.take_length] at hown
      go_wp2
      go_ret
      exact ⟨_, rfl, hown, hb⟩
end Go.Proofs.Ytcecfjblgakfeaa
