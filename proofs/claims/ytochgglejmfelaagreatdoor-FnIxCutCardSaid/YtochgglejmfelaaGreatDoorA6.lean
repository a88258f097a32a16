/- The stable sort of entries: swaps, rotations, insertion sort. -/
import Derived.Test.YtochgglejmfelaaGreatDoorA5
import Derived.Lib.ReflectliteSwap
namespace Go.Proofs
open Go Go.Sl
set_option maxRecDepth 100000

theorem cut_skip (p : List Value) {l vs : List Value} {i n : Nat} (h : CutL l i n vs) : CutL (p ++ l) (p.length + i) n vs := by
  induction p with
  | nil => simpa using h
  | cons a p ih => rw [List.length_cons, Nat.add_right_comm]; exact .skip ih
theorem put_skip (p : List Value) {l vs l' : List Value} {i : Nat} (h : PutL l i vs l') : PutL (p ++ l) (p.length + i) vs (p ++ l') := by
  induction p with
  | nil => simpa using h
  | cons a p ih => rw [List.length_cons, Nat.add_right_comm]; exact .skip ih
theorem cells5_cut {l : List En} {i : Nat} (h : i < l.length) (rest : List Value) : CutL (cells5 l ++ rest) (i * 5) 5 (cE l[i]) := by
  induction l generalizing i with
  | nil => cases h
  | cons x l ih =>
    cases i with
    | zero => exact .take (.take (.take (.take (.take .done))))
    | succ i =>
      have := ih (i := i) (by simpa using h)
      have e1 : cells5 (x :: l) ++ rest = cE x ++ (cells5 l ++ rest) := by simp [cells5]
      rw [e1, show (i + 1) * 5 = (cE x).length + i * 5 by simp [cE]; omega]
      exact cut_skip _ this
theorem cells5_put {l : List En} {i : Nat} (y : En) (h : i < l.length) (rest : List Value) : PutL (cells5 l ++ rest) (i * 5) (cE y) (cells5 (l.set i y) ++ rest) := by
  induction l generalizing i with
  | nil => cases h
  | cons x l ih =>
    cases i with
    | zero => exact .take (.take (.take (.take (.take .done))))
    | succ i =>
      have := ih (i := i) (by simpa using h)
      have e1 : cells5 (x :: l) ++ rest = cE x ++ (cells5 l ++ rest) := by simp [cells5]
      have e2 : cells5 ((x :: l).set (i + 1) y) ++ rest = cE x ++ (cells5 (l.set i y) ++ rest) := by simp [cells5]
      rw [e1, e2, show (i + 1) * 5 = (cE x).length + i * 5 by simp [cE]; omega]
      exact put_skip _ this
/-- Two entries exchanged. -/
def swapL (l : List En) (i j : Nat) (hi : i < l.length) (hj : j < l.length) : List En := (l.set i l[j]).set j l[i]
theorem swapL_length {l : List En} {i j : Nat} (hi : i < l.length) (hj : j < l.length) : (swapL l i j hi hj).length = l.length := by simp [swapL]
theorem cE_one (x : En) : ∀ v ∈ cE x, v.oneCell' = true := by
  intro v hv
  simp [cE] at hv
  rcases hv with rfl | rfl | rfl | rfl | rfl <;> rfl

section
variable {x : Cx} {s : Slots} {H H' : HP} {d : Nat} {p q r : Operand} {ty : TypeId} {pos : String} {af : Array Edge} {gd : Option (Nat × Bool)} {ats : Array TypeId}
/-- The run of the exchange. -/
theorem exchange_run {w : World} {g : Nat} {l : List En} {rest : List Value} {lo hi i j : Nat} (h : w.heap[g]? = some (.cells (cells5 l ++ rest).toArray 56 (lo, hi))) (hi' : i < l.length) (hj : j < l.length) (hf : l.length * 5 ≤ lo ∨ hi = 0) :
    ∃ w', (Extern.ReflectliteSwapper.exchange 56 ⟨g, 0, none⟩ i j).run Tryz.prog w = .ok (.tuple #[]) w' ∧ w'.heap[g]? = some (.cells (cells5 (swapL l i j hi' hj) ++ rest).toArray 56 (lo, hi)) ∧ (∀ k, k ≠ g → w'.heap[k]? = w.heap[k]?) ∧
      w'.os = w.os ∧ w'.tape = w.tape ∧ w'.output = w.output ∧ w'.heap.size = w.heap.size := by
  have hx := Sl.run_loadCells (P := Tryz.prog) h (cells5_cut hi' rest)
  have hy := Sl.run_loadCells (P := Tryz.prog) h (cells5_cut hj rest)
  have hA := Tryz.isAgg56
  have hS := Tryz.sizeOf56
  obtain ⟨w1, a1, a2, a3, a4, a5, a6, a7⟩ := Sl.run_storeCells (P := Tryz.prog) (off := i * 5) (cE l[j]) w 0 _ h (by simp [cells5_length, cE]; omega) (cE_one _) (by intro k h1 h2; simp [cE] at h1 h2; omega)
  have b2 : w1.heap[g]? = some (.cells (cells5 (l.set i l[j]) ++ rest).toArray 56 (lo, hi)) := by
    rw [(cells5_put l[j] hi' rest).eq]; simpa using a2
  obtain ⟨w2, c1, c2, c3, c4, c5, c6, c7⟩ := Sl.run_storeCells (P := Tryz.prog) (off := j * 5) (cE l[i]) w1 0 _ b2 (by simp [cells5_length, cE]; omega) (cE_one _) (by intro k h1 h2; simp [cE] at h1 h2; omega)
  have d2 : w2.heap[g]? = some (.cells (cells5 (swapL l i j hi' hj) ++ rest).toArray 56 (lo, hi)) := by
    rw [swapL, (cells5_put l[i] (by simpa using hj) rest).eq]; simpa using c2
  refine ⟨w2, ?_, d2, fun k hk => (c3 k hk).trans (a3 k hk), c4.trans a4, c5.trans a5, c6.trans a6, c7.trans a7⟩
  have e1 : ∀ z : En, (cE z).toArray.size = 5 := fun z => rfl
  simp only [Extern.ReflectliteSwapper.exchange, Sem.run_bind, hS, Result.andThen_ok, add_addr, Nat.zero_add, loadVar, hA, if_true, hx, hy, Sem.run_pure, storeVar, Value.cells, e1, ne_eq, not_true_eq_false, if_false, a1, c1]
theorem ofHandle56 (w : World) : (Extern.Rtype.ofHandle (.pointer (some ⟨26, 56, none⟩))).run Tryz.prog w = .ok 56 w := by kernel_rfl
theorem swap_run {w : World} {g n cap : Nat} {l : List En} {rest : List Value} {lo hi i j : Nat} (h : w.heap[g]? = some (.cells (cells5 l ++ rest).toArray 56 (lo, hi))) (hi' : i < l.length) (hj : j < l.length) (hn : l.length = n) (hf : l.length * 5 ≤ lo ∨ hi = 0) :
    ∃ w', (callFunc 121 #[.int .i64 (i : Nat), .int .i64 (j : Nat), .slice (some ⟨g, 0, none⟩) n cap, .pointer (some ⟨26, 56, none⟩)]).run Tryz.prog w = .ok (.value (.tuple #[])) w' ∧ w'.heap[g]? = some (.cells (cells5 (swapL l i j hi' hj) ++ rest).toArray 56 (lo, hi)) ∧ (∀ k, k ≠ g → w'.heap[k]? = w.heap[k]?) ∧
      w'.os = w.os ∧ w'.tape = w.tape ∧ w'.output = w.output ∧ w'.heap.size = w.heap.size := by
  obtain ⟨w', e1, e2⟩ := exchange_run h hi' hj hf
  refine ⟨w', ?_, e2⟩
  rw [run_callFunc_extern Tryz.func121 (by kernel_rfl) (by kernel_rfl) (by kernel_rfl) (e := Extern.ReflectliteSwapper.swap false) (by kernel_rfl)]
  have hr : (Extern.ReflectliteSwapper.swap false #[.int .i64 (i : Nat), .int .i64 (j : Nat), .slice (some ⟨g, 0, none⟩) n cap, .pointer (some ⟨26, 56, none⟩)]).run Tryz.prog w = .ok (.tuple #[]) w' := by
    have i0 : ¬ ((i : Int) < 0) := by omega
    have i1 : ¬ ((i : Int) ≥ n) := by omega
    have j0 : ¬ ((j : Int) < 0) := by omega
    have j1 : ¬ ((j : Int) ≥ n) := by omega
    rw [Lib.rl_swap]
    simp [i0, i1, j0, j1, ofHandle56, e1]
  rw [hr]; rfl
theorem l_swapE {g n cap : Nat} {l : List En} {rest : List Value} {lo hi i j : Nat} (hx : x.P = Tryz.prog) (hN : Nat.blt d x.N = true) (hp : ev s p = some (.func (.func 121) #[] #[.slice (some ⟨g, 0, none⟩) n cap, .pointer (some ⟨26, 56, none⟩)])) (hq : ev s q = some (.int .i64 (i : Nat))) (hr : ev s r = some (.int .i64 (j : Nat)))
    (hn : l.length = n) (hi' : i < l.length) (hj : j < l.length) (hf : l.length * 5 ≤ lo ∨ hi = 0) (hu : UpB H g (.cells (cells5 l ++ rest).toArray 56 (lo, hi)) (.cells (cells5 (swapL l i j hi' hj) ++ rest).toArray 56 (lo, hi)) H') :
    Lo x s H ⟨some d, .call { callee := .value p, args := #[q, r], argTypes := ats }, ty, pos, af, gd⟩ (Y := Unit) (fun _ => (d, .tuple #[]) :: s) (fun _ => H') (fun _ => True) :=
  l_gen (Y := Unit) (fun _ => .tuple #[]) (fun _ => H') (fun _ => True) rfl hN (fun a w hs => by
    obtain ⟨w', e1, e2, e3, e4, e5, e6, e7⟩ := swap_run (cap := cap) (hs.heap _ hu.mem) hi' hj hn hf
    refine ⟨w', (), ?_, trivial, hs.up hu e2 e3 e4 e5 e6 e7⟩
    rw [hx]
    simp [execOp, resolve, hs.eval hp, hs.eval hq, hs.eval hr, Deferred.ofValue, invoke, e1])
end
end Go.Proofs
namespace Go.Proofs
open Go Go.Sl
set_option maxRecDepth 100000

/-- By digests, then by offsets. -/
def ltE (x y : En) : Bool := if x.d ≠ y.d then Op.bytesLess x.d y.d else decide (x.o < y.o)
theorem less_is {G : HP} {l : List En} {rest : List Value} {g3 g n cap : Nat} {lo hi i j : Nat} (h3 : (g3, C [.slice (some ⟨g, 0, none⟩) n cap] 22) ∈ G) (hg : (g, Obj.cells (cells5 l ++ rest).toArray 56 (lo, hi)) ∈ G) (hn : l.length = n) (hi' : i < l.length) (hj : j < l.length) :
    Ctr Tryz.prog 193 [.int .i64 (i : Nat), .int .i64 (j : Nat), .pointer (some ⟨g3, 0, none⟩)] G [] (fun r _ => r = .bool (ltE l[i] l[j])) := by
  have hci : CutL (cells5 l ++ rest) (0 + i * 5) 5 (cE l[i]) := by rw [Nat.zero_add]; exact cells5_cut hi' rest
  have hcj : CutL (cells5 l ++ rest) (0 + j * 5) 5 (cE l[j]) := by rw [Nat.zero_add]; exact cells5_cut hj rest
  generalize l[i] = x at *
  generalize l[j] = y at *
  obtain ⟨xv, xc, xh, xd, xo⟩ := x
  obtain ⟨yv, yc, yh, yd, yo⟩ := y
  simp only [cE] at hci hcj
  refine fn_enter 35 Tryz.func193 rfl Tryz.ntmps193 rfl ?_
  intro w0
  refine c_seq ?_
  refine c_region ?_
  refine o_e rfl rfl rfl (e_assign rfl) ?_
  refine o_nil ?_
  refine n_code ?_
  refine c_seq ?_
  refine c_regiond ([]) (by kernel_rfl) (by first | exact List.Sublist.refl _ | exact List.nil_sublist _ | (repeat constructor)) ?_
  refine d_e 0 (fun _ _ _ _ _ h => h) rfl (by kernel_rfl) (by kernel_rfl) (by kernel_rfl) rfl rfl rfl (e_load Tryz.isAgg22 rfl (by first | exact .inr (by assumption) | exact .inl (by repeat (first | exact List.Mem.head _ | refine List.Mem.tail _ ?_))) (by first | rfl | assumption)) ?_
  refine d_e 1 (fun _ _ _ _ _ h => h) rfl (by kernel_rfl) (by kernel_rfl) (by kernel_rfl) rfl rfl rfl (e_move rfl) ?_
  first | refine d_e 2 (fun _ _ _ _ _ h => h) rfl (by kernel_rfl) (by kernel_rfl) (by kernel_rfl) rfl rfl rfl (e_ian Tryz.runUnderlying22 Tryz.sizeOf56 rfl rfl (by omega)) ?_ | refine d_e 2 (fun _ _ _ _ _ h => h) rfl (by kernel_rfl) (by kernel_rfl) (by kernel_rfl) rfl rfl rfl (e_ia Tryz.runUnderlying22 Tryz.sizeOf56 rfl rfl (by omega) (by omega)) ?_
  refine d_e 3 (fun _ _ _ _ _ h => h) rfl (by kernel_rfl) (by kernel_rfl) (by kernel_rfl) rfl rfl rfl (e_loada Tryz.isAgg56 Tryz.sizeOf56 rfl (by first | exact .inr (by assumption) | exact .inl (by repeat (first | exact List.Mem.head _ | refine List.Mem.tail _ ?_))) (by first | assumption | repeat constructor)) ?_
  refine d_e 4 (fun _ _ _ _ _ h => h) rfl (by kernel_rfl) (by kernel_rfl) (by kernel_rfl) rfl rfl rfl (e_load Tryz.isAgg22 rfl (by first | exact .inr (by assumption) | exact .inl (by repeat (first | exact List.Mem.head _ | refine List.Mem.tail _ ?_))) (by first | rfl | assumption)) ?_
  refine d_e 5 (fun _ _ _ _ _ h => h) rfl (by kernel_rfl) (by kernel_rfl) (by kernel_rfl) rfl rfl rfl (e_move rfl) ?_
  first | refine d_e 6 (fun _ _ _ _ _ h => h) rfl (by kernel_rfl) (by kernel_rfl) (by kernel_rfl) rfl rfl rfl (e_ian Tryz.runUnderlying22 Tryz.sizeOf56 rfl rfl (by omega)) ?_ | refine d_e 6 (fun _ _ _ _ _ h => h) rfl (by kernel_rfl) (by kernel_rfl) (by kernel_rfl) rfl rfl rfl (e_ia Tryz.runUnderlying22 Tryz.sizeOf56 rfl rfl (by omega) (by omega)) ?_
  refine d_e 7 (fun _ _ _ _ _ h => h) rfl (by kernel_rfl) (by kernel_rfl) (by kernel_rfl) rfl rfl rfl (e_loada Tryz.isAgg56 Tryz.sizeOf56 rfl (by first | exact .inr (by assumption) | exact .inl (by repeat (first | exact List.Mem.head _ | refine List.Mem.tail _ ?_))) (by first | assumption | repeat constructor)) ?_
  refine d_l2 8 9 (by kernel_rfl) rfl rfl rfl rfl (l_alloc Tryz.zeroValue56 rfl rfl) (l_alloc Tryz.zeroValue56 rfl rfl) (by first | exact fun _ _ => hs_nil | (intro y hy p hp; simp only [List.mem_cons, List.mem_append, List.not_mem_nil, or_false, false_or] at hp ⊢; first | exact hp.elim | (simp only [hp, true_or, or_true]) | (rcases hp with rfl | rfl | rfl <;> simp))) (by first | exact fun _ _ => hs_nil | (intro y hy p hp; simp only [List.mem_cons, List.mem_append, List.not_mem_nil, or_false, false_or] at hp ⊢; first | exact hp.elim | (simp only [hp, true_or, or_true]) | (rcases hp with rfl | rfl | rfl <;> simp))) ?_ ?_
  · intro g6 _
    refine d_l 9 (by kernel_rfl) rfl rfl (l_alloc Tryz.zeroValue56 rfl rfl) (by first | exact fun _ _ => hs_nil | (intro y hy p hp; simp only [List.mem_cons, List.mem_append, List.not_mem_nil, or_false, false_or] at hp ⊢; first | exact hp.elim | (simp only [hp, true_or, or_true]) | (rcases hp with rfl | rfl | rfl <;> simp))) ?_; intro g7 _
    refine d_l 10 (by kernel_rfl) rfl rfl (l_storea Tryz.sizeOf56 rfl rfl rfl (by simp [Value.oneCell']) (.tail .head) (.take (.take (.take (.take (.take .done))))) nofrs0) (by first | exact fun _ _ => hs_nil | (intro y hy p hp; simp only [List.mem_cons, List.mem_append, List.not_mem_nil, or_false, false_or] at hp ⊢; first | exact hp.elim | (simp only [hp, true_or, or_true]) | (rcases hp with rfl | rfl | rfl <;> simp))) ?_
    intro _ _
    refine d_l 11 (by kernel_rfl) rfl rfl (l_storea Tryz.sizeOf56 rfl rfl rfl (by simp [Value.oneCell']) .head (.take (.take (.take (.take (.take .done))))) nofrs0) (by first | exact fun _ _ => hs_nil | (intro y hy p hp; simp only [List.mem_cons, List.mem_append, List.not_mem_nil, or_false, false_or] at hp ⊢; first | exact hp.elim | (simp only [hp, true_or, or_true]) | (rcases hp with rfl | rfl | rfl <;> simp))) ?_
    intro _ _
    refine d_nil (by kernel_rfl) ?_
    refine n_code ?_
    refine c_seq ?_
    refine c_seq ?_
    refine c_region ?_
    refine o_e rfl rfl rfl (e_fa Tryz.runUnderlying56 rfl Tryz.sizeOf25 rfl rfl) ?_
    refine o_e rfl rfl rfl (e_fa Tryz.runUnderlying25 rfl Tryz.sizeOf9 rfl rfl) ?_
    refine o_e rfl rfl rfl (e_load Tryz.isAgg9 rfl (by first | exact .inr (by assumption) | exact .inl (by repeat (first | exact List.Mem.head _ | refine List.Mem.tail _ ?_))) (by first | rfl | assumption)) ?_
    refine o_e rfl rfl rfl (e_fa Tryz.runUnderlying56 rfl Tryz.sizeOf25 rfl rfl) ?_
    refine o_e rfl rfl rfl (e_fa Tryz.runUnderlying25 rfl Tryz.sizeOf9 rfl rfl) ?_
    refine o_e rfl rfl rfl (e_load Tryz.isAgg9 rfl (by first | exact .inr (by assumption) | exact .inl (by repeat (first | exact List.Mem.head _ | refine List.Mem.tail _ ?_))) (by first | rfl | assumption)) ?_
    refine o_e rfl rfl rfl (e_sne rfl rfl) ?_
    refine o_nil ?_
    refine n_code ?_
    refine c_ifp rfl (fun h1 => ?_) (fun h1 => ?_)
    · refine c_seq ?_
      refine c_region ?_
      refine o_e rfl rfl rfl (e_fa Tryz.runUnderlying56 rfl Tryz.sizeOf25 rfl rfl) ?_
      refine o_e rfl rfl rfl (e_fa Tryz.runUnderlying25 rfl Tryz.sizeOf9 rfl rfl) ?_
      refine o_e rfl rfl rfl (e_load Tryz.isAgg9 rfl (by first | exact .inr (by assumption) | exact .inl (by repeat (first | exact List.Mem.head _ | refine List.Mem.tail _ ?_))) (by first | rfl | assumption)) ?_
      refine o_e rfl rfl rfl (e_fa Tryz.runUnderlying56 rfl Tryz.sizeOf25 rfl rfl) ?_
      refine o_e rfl rfl rfl (e_fa Tryz.runUnderlying25 rfl Tryz.sizeOf9 rfl rfl) ?_
      refine o_e rfl rfl rfl (e_load Tryz.isAgg9 rfl (by first | exact .inr (by assumption) | exact .inl (by repeat (first | exact List.Mem.head _ | refine List.Mem.tail _ ?_))) (by first | rfl | assumption)) ?_
      refine o_e rfl rfl rfl (e_slt rfl rfl) ?_
      refine o_e rfl rfl rfl (e_assign rfl) ?_
      refine o_nil ?_
      refine n_code ?_
      refine c_ret ?_
      refine r_fn1 Tryz.results193 rfl ?_
      simp [ltE, show ¬ xd = yd from h1]
    · skip
      refine c_skip ?_
      refine n_code ?_
      refine c_seq ?_
      refine c_region ?_
      refine o_e rfl rfl rfl (e_fa Tryz.runUnderlying56 rfl Tryz.sizeOf23 rfl rfl) ?_
      refine o_e rfl rfl rfl (e_load Tryz.isAgg23 rfl (by first | exact .inr (by assumption) | exact .inl (by repeat (first | exact List.Mem.head _ | refine List.Mem.tail _ ?_))) (by first | rfl | assumption)) ?_
      refine o_e rfl rfl rfl (e_fa Tryz.runUnderlying56 rfl Tryz.sizeOf23 rfl rfl) ?_
      refine o_e rfl rfl rfl (e_load Tryz.isAgg23 rfl (by first | exact .inr (by assumption) | exact .inl (by repeat (first | exact List.Mem.head _ | refine List.Mem.tail _ ?_))) (by first | rfl | assumption)) ?_
      refine o_e rfl rfl rfl (e_lss rfl rfl) ?_
      refine o_e rfl rfl rfl (e_assign rfl) ?_
      refine o_nil ?_
      refine n_code ?_
      refine c_ret ?_
      refine r_fn1 Tryz.results193 rfl ?_
      simp [ltE, show xd = yd from Classical.byContradiction h1]
  · skip
    intro g7 _
    refine d_l 8 (by kernel_rfl) rfl rfl (l_alloc Tryz.zeroValue56 rfl rfl) (by first | exact fun _ _ => hs_nil | (intro y hy p hp; simp only [List.mem_cons, List.mem_append, List.not_mem_nil, or_false, false_or] at hp ⊢; first | exact hp.elim | (simp only [hp, true_or, or_true]) | (rcases hp with rfl | rfl | rfl <;> simp))) ?_; intro g6 _
    refine d_l 10 (by kernel_rfl) rfl rfl (l_storea Tryz.sizeOf56 rfl rfl rfl (by simp [Value.oneCell']) .head (.take (.take (.take (.take (.take .done))))) nofrs0) (by first | exact fun _ _ => hs_nil | (intro y hy p hp; simp only [List.mem_cons, List.mem_append, List.not_mem_nil, or_false, false_or] at hp ⊢; first | exact hp.elim | (simp only [hp, true_or, or_true]) | (rcases hp with rfl | rfl | rfl <;> simp))) ?_
    intro _ _
    refine d_l 11 (by kernel_rfl) rfl rfl (l_storea Tryz.sizeOf56 rfl rfl rfl (by simp [Value.oneCell']) (.tail .head) (.take (.take (.take (.take (.take .done))))) nofrs0) (by first | exact fun _ _ => hs_nil | (intro y hy p hp; simp only [List.mem_cons, List.mem_append, List.not_mem_nil, or_false, false_or] at hp ⊢; first | exact hp.elim | (simp only [hp, true_or, or_true]) | (rcases hp with rfl | rfl | rfl <;> simp))) ?_
    intro _ _
    refine d_nil (by kernel_rfl) ?_
    refine n_code ?_
    refine c_seq ?_
    refine c_seq ?_
    refine c_region ?_
    refine o_e rfl rfl rfl (e_fa Tryz.runUnderlying56 rfl Tryz.sizeOf25 rfl rfl) ?_
    refine o_e rfl rfl rfl (e_fa Tryz.runUnderlying25 rfl Tryz.sizeOf9 rfl rfl) ?_
    refine o_e rfl rfl rfl (e_load Tryz.isAgg9 rfl (by first | exact .inr (by assumption) | exact .inl (by repeat (first | exact List.Mem.head _ | refine List.Mem.tail _ ?_))) (by first | rfl | assumption)) ?_
    refine o_e rfl rfl rfl (e_fa Tryz.runUnderlying56 rfl Tryz.sizeOf25 rfl rfl) ?_
    refine o_e rfl rfl rfl (e_fa Tryz.runUnderlying25 rfl Tryz.sizeOf9 rfl rfl) ?_
    refine o_e rfl rfl rfl (e_load Tryz.isAgg9 rfl (by first | exact .inr (by assumption) | exact .inl (by repeat (first | exact List.Mem.head _ | refine List.Mem.tail _ ?_))) (by first | rfl | assumption)) ?_
    refine o_e rfl rfl rfl (e_sne rfl rfl) ?_
    refine o_nil ?_
    refine n_code ?_
    refine c_ifp rfl (fun h1 => ?_) (fun h1 => ?_)
    · refine c_seq ?_
      refine c_region ?_
      refine o_e rfl rfl rfl (e_fa Tryz.runUnderlying56 rfl Tryz.sizeOf25 rfl rfl) ?_
      refine o_e rfl rfl rfl (e_fa Tryz.runUnderlying25 rfl Tryz.sizeOf9 rfl rfl) ?_
      refine o_e rfl rfl rfl (e_load Tryz.isAgg9 rfl (by first | exact .inr (by assumption) | exact .inl (by repeat (first | exact List.Mem.head _ | refine List.Mem.tail _ ?_))) (by first | rfl | assumption)) ?_
      refine o_e rfl rfl rfl (e_fa Tryz.runUnderlying56 rfl Tryz.sizeOf25 rfl rfl) ?_
      refine o_e rfl rfl rfl (e_fa Tryz.runUnderlying25 rfl Tryz.sizeOf9 rfl rfl) ?_
      refine o_e rfl rfl rfl (e_load Tryz.isAgg9 rfl (by first | exact .inr (by assumption) | exact .inl (by repeat (first | exact List.Mem.head _ | refine List.Mem.tail _ ?_))) (by first | rfl | assumption)) ?_
      refine o_e rfl rfl rfl (e_slt rfl rfl) ?_
      refine o_e rfl rfl rfl (e_assign rfl) ?_
      refine o_nil ?_
      refine n_code ?_
      refine c_ret ?_
      refine r_fn1 Tryz.results193 rfl ?_
      simp [ltE, show ¬ xd = yd from h1]
    · skip
      refine c_skip ?_
      refine n_code ?_
      refine c_seq ?_
      refine c_region ?_
      refine o_e rfl rfl rfl (e_fa Tryz.runUnderlying56 rfl Tryz.sizeOf23 rfl rfl) ?_
      refine o_e rfl rfl rfl (e_load Tryz.isAgg23 rfl (by first | exact .inr (by assumption) | exact .inl (by repeat (first | exact List.Mem.head _ | refine List.Mem.tail _ ?_))) (by first | rfl | assumption)) ?_
      refine o_e rfl rfl rfl (e_fa Tryz.runUnderlying56 rfl Tryz.sizeOf23 rfl rfl) ?_
      refine o_e rfl rfl rfl (e_load Tryz.isAgg23 rfl (by first | exact .inr (by assumption) | exact .inl (by repeat (first | exact List.Mem.head _ | refine List.Mem.tail _ ?_))) (by first | rfl | assumption)) ?_
      refine o_e rfl rfl rfl (e_lss rfl rfl) ?_
      refine o_e rfl rfl rfl (e_assign rfl) ?_
      refine o_nil ?_
      refine n_code ?_
      refine c_ret ?_
      refine r_fn1 Tryz.results193 rfl ?_
      simp [ltE, show xd = yd from Classical.byContradiction h1]
end Go.Proofs
namespace Go.Proofs
open Go Go.Sl
set_option maxRecDepth 100000

def sw (l : List En) (i j : Nat) : List En := if h : i < l.length ∧ j < l.length then swapL l i j h.1 h.2 else l
theorem sw_of {l : List En} {i j : Nat} (hi : i < l.length) (hj : j < l.length) : swapL l i j hi hj = sw l i j := by simp [sw, hi, hj]
theorem sw_length (l : List En) (i j : Nat) : (sw l i j).length = l.length := by
  unfold sw; split
  · simp [swapL]
  · rfl
/-- m swaps, of what begins at a and at b. -/
def swR (l : List En) (a b : Nat) : Nat → List En
  | 0 => l
  | i + 1 => sw (swR l a b i) (a + i) (b + i)
theorem swR_length (l : List En) (a b m : Nat) : (swR l a b m).length = l.length := by
  induction m with
  | zero => rfl
  | succ m ih => rw [swR, sw_length, ih]

/-- The memory that is sorted, and what says so. -/
abbrev SH (gs g n cap : Nat) (rest : List Value) (lo hi : Nat) (l : List En) : HP := [(gs, C [.slice (some ⟨g, 0, none⟩) n cap] 22), (g, .cells (cells5 l ++ rest).toArray 56 (lo, hi))]
abbrev Dv (gs g n cap : Nat) : List Value := [.func (.func 193) #[] #[.pointer (some ⟨gs, 0, none⟩)], .func (.func 121) #[] #[.slice (some ⟨g, 0, none⟩) n cap, .pointer (some ⟨26, 56, none⟩)]]

section
variable {G : HP} {gs g n cap lo hi : Nat} {rest : List Value}
theorem swapRange_is {l : List En} {a b m : Nat} (hn : l.length = n) (hf : n * 5 ≤ lo ∨ hi = 0) (h1 : n ≤ 1000) (ha : a + m ≤ n) (hb : b + m ≤ n) :
    Ctr Tryz.prog 267 [.agg (Dv gs g n cap).toArray, .int .i64 (a : Nat), .int .i64 (b : Nat), .int .i64 (m : Nat)] G (SH gs g n cap rest lo hi l) (fun r H' => r = .tuple #[] ∧ H' = SH gs g n cap rest lo hi (swR l a b m)) := by
  simp only [Dv, SH]
  refine fn_enter 23 Tryz.func267 rfl Tryz.ntmps267 rfl ?_
  intro w0
  refine c_seq ?_
  refine c_region ?_
  refine o_l rfl (l_box rfl rfl rfl) ?_; intro g4 _
  refine o_nil ?_
  refine n_code ?_
  refine c_seq ?_
  refine c_region ?_
  refine o_e rfl rfl rfl (e_assign rfl) ?_
  refine o_nil ?_
  refine n_code ?_
  refine c_block ?_
  refine c_loop (X := Nat) (fun i => [(1, .int .i64 a), (2, .int .i64 b), (3, .int .i64 m), (4, .pointer (some ⟨g4, 0, none⟩)), (8, .int .i64 i)]) (fun i => (g4, C [.func (.func 193) #[] #[.pointer (some ⟨gs, 0, none⟩)], .func (.func 121) #[] #[.slice (some ⟨g, 0, none⟩) n cap, .pointer (some ⟨26, 56, none⟩)]] 134) :: SH gs g n cap rest lo hi (swR l a b i)) (fun i => i ≤ m) (fun i => m - i) 0 (Nat.zero_le _) (sub_cons rfl (sub_cons rfl (sub_cons rfl (sub_cons rfl (sub_cons rfl sub_nil))))) (.refl _) ?_
  intro i hi2
  simp only [SH]
  have hl := (swR_length l a b i).trans hn
  generalize hgen : swR l a b i = l' at hl ⊢
  refine c_seq ?_
  refine c_seq ?_
  refine c_region ?_
  refine o_e rfl rfl rfl (e_move rfl) ?_
  refine o_e rfl rfl rfl (e_move rfl) ?_
  refine o_e rfl rfl rfl (e_lss rfl rfl) ?_
  refine o_nil ?_
  refine n_code ?_
  refine c_ifp rfl (fun h2 => ?_) (fun h2 => ?_)
  · refine c_skip ?_
    refine n_code ?_
    refine c_seq ?_
    refine c_block ?_
    refine c_region ?_
    refine o_e rfl rfl rfl (e_fa Tryz.runUnderlying134 rfl Tryz.sizeOf128 rfl rfl) ?_
    refine o_e rfl rfl rfl (e_load Tryz.isAgg128 rfl (by first | exact .inr (by assumption) | exact .inl (by repeat (first | exact List.Mem.head _ | refine List.Mem.tail _ ?_))) (by first | rfl | assumption)) ?_
    refine o_e rfl rfl rfl (e_move rfl) ?_
    refine o_e rfl rfl rfl (e_move rfl) ?_
    first | refine o_e rfl rfl rfl (e_addN rfl rfl (by omega)) ?_ | refine o_e rfl rfl rfl (e_addn rfl rfl (by simp only [inR]; omega)) ?_ | refine o_e rfl rfl rfl (e_add rfl rfl) ?_
    refine o_e rfl rfl rfl (e_move rfl) ?_
    refine o_e rfl rfl rfl (e_move rfl) ?_
    first | refine o_e rfl rfl rfl (e_addN rfl rfl (by omega)) ?_ | refine o_e rfl rfl rfl (e_addn rfl rfl (by simp only [inR]; omega)) ?_ | refine o_e rfl rfl rfl (e_add rfl rfl) ?_
    refine o_l rfl (l_swapE rfl rfl rfl (i := a + i) (j := b + i) rfl rfl hl (by omega) (by omega) (by rw [hl]; exact hf) (.tail (.tail .head))) ?_
    intro _ _
    rw [sw_of]
    refine o_nil ?_
    refine n_block ?_
    refine n_code ?_
    refine c_region ?_
    refine o_e rfl rfl rfl (e_move rfl) ?_
    first | refine o_e rfl rfl rfl (e_addN rfl rfl (by omega)) ?_ | refine o_e rfl rfl rfl (e_addn rfl rfl (by simp only [inR]; omega)) ?_ | refine o_e rfl rfl rfl (e_add rfl rfl) ?_
    refine o_e rfl rfl rfl (e_assign rfl) ?_
    refine o_nil ?_
    refine n_round (i + 1) (by omega) (by omega) (sub_cons rfl (sub_cons rfl (sub_cons rfl (sub_cons rfl (sub_cons rfl sub_nil))))) ?_
    simp only [swR, hgen]
    exact .refl _
  · skip
    refine c_exit ?_; refine x_code ?_; refine x_upto ?_; refine x_here ?_
    refine WN.less (fun _ _ h => h) (List.sublist_cons_self _ _) ?_
    refine n_fn0 Tryz.results267 ?_
    have : i = m := by omega
    subst this
    exact ⟨rfl, by rw [hgen]⟩

/-- Two neighbouring parts exchanged: the left one i long, the right one j. -/
def rotL (m : Nat) : Nat → List En → Nat → Nat → List En
  | 0, l, _, _ => l
  | f + 1, l, i, j => if i = j then swR l (m - i) m i else if j < i then rotL m f (swR l (m - i) m j) (i - j) j else rotL m f (swR l (m - i) (m + j - i) i) i (j - i)
theorem rotL_length (m f : Nat) (l : List En) (i j : Nat) : (rotL m f l i j).length = l.length := by
  induction f generalizing l i j with
  | zero => rfl
  | succ f ih =>
    simp only [rotL]
    split
    · exact swR_length ..
    · split <;> rw [ih, swR_length]
/-- As many rounds as it likes. -/
theorem rotL_fuel (m : Nat) : ∀ (f f' : Nat) (l : List En) (i j : Nat), 0 < i → 0 < j → i + j ≤ f → i + j ≤ f' → rotL m f l i j = rotL m f' l i j := by
  intro f
  induction f with
  | zero => intro f' l i j h1 h2 h3; omega
  | succ f ih =>
    intro f' l i j h1 h2 h3 h4
    cases f' with
    | zero => omega
    | succ f' =>
      simp only [rotL]
      split
      · rfl
      · split
        · exact ih _ _ _ _ (by omega) h2 (by omega) (by omega)
        · exact ih _ _ _ _ h1 (by omega) (by omega) (by omega)
theorem rotate_is {l : List En} {a m b : Nat} (hn : l.length = n) (hf : n * 5 ≤ lo ∨ hi = 0) (h1 : n ≤ 1000) (ha : a < m) (hb : m < b) (hbn : b ≤ n) :
    Ctr Tryz.prog 250 [.agg (Dv gs g n cap).toArray, .int .i64 (a : Nat), .int .i64 (m : Nat), .int .i64 (b : Nat)] G (SH gs g n cap rest lo hi l) (fun r H' => r = .tuple #[] ∧ H' = SH gs g n cap rest lo hi (rotL m (b - a) l (m - a) (b - m))) := by
  simp only [Dv, SH]
  refine fn_enter 53 Tryz.func250 rfl Tryz.ntmps250 rfl ?_
  intro w0
  refine c_seq ?_
  refine c_region ?_
  refine o_l rfl (l_box rfl rfl rfl) ?_; intro g4 _
  refine o_nil ?_
  refine n_code ?_
  refine c_seq ?_
  refine c_region ?_
  refine o_e rfl rfl rfl (e_move rfl) ?_
  refine o_e rfl rfl rfl (e_move rfl) ?_
  first | refine o_e rfl rfl rfl (e_subN rfl rfl (by omega)) ?_ | refine o_e rfl rfl rfl (e_subn rfl rfl (by simp only [inR]; omega)) ?_ | refine o_e rfl rfl rfl (e_sub rfl rfl) ?_
  refine o_e rfl rfl rfl (e_assign rfl) ?_
  refine o_nil ?_
  refine n_code ?_
  refine c_seq ?_
  refine c_region ?_
  refine o_e rfl rfl rfl (e_move rfl) ?_
  refine o_e rfl rfl rfl (e_move rfl) ?_
  first | refine o_e rfl rfl rfl (e_subN rfl rfl (by omega)) ?_ | refine o_e rfl rfl rfl (e_subn rfl rfl (by simp only [inR]; omega)) ?_ | refine o_e rfl rfl rfl (e_sub rfl rfl) ?_
  refine o_e rfl rfl rfl (e_assign rfl) ?_
  refine o_nil ?_
  refine n_code ?_
  refine c_seq ?_
  refine c_block ?_
  refine c_loop (X := List En × Nat × Nat) (fun y => [(2, .int .i64 m), (4, .pointer (some ⟨g4, 0, none⟩)), (8, .int .i64 y.2.1), (9, .int .i64 y.2.2)]) (fun y => (g4, C [.func (.func 193) #[] #[.pointer (some ⟨gs, 0, none⟩)], .func (.func 121) #[] #[.slice (some ⟨g, 0, none⟩) n cap, .pointer (some ⟨26, 56, none⟩)]] 134) :: SH gs g n cap rest lo hi y.1)
    (fun y => y.1.length = n ∧ 0 < y.2.1 ∧ 0 < y.2.2 ∧ y.2.1 + y.2.2 ≤ b - a ∧ y.2.1 ≤ m ∧ m + y.2.2 ≤ n ∧ rotL m (b - a) y.1 y.2.1 y.2.2 = rotL m (b - a) l (m - a) (b - m)) (fun y => y.2.1 + y.2.2) (l, m - a, b - m) ⟨hn, by show 0 < m - a; omega, by show 0 < b - m; omega, by show m - a + (b - m) ≤ b - a; omega, by show m - a ≤ m; omega, by show m + (b - m) ≤ n; omega, rfl⟩ (sub_cons rfl (sub_cons rfl (sub_cons rfl (sub_cons rfl sub_nil)))) (.refl _) ?_
  rintro ⟨l', i, j⟩ ⟨hl, hi0, hj0, hs, him, hjn, hr⟩
  simp only at hl hi0 hj0 hs him hjn hr
  simp only [SH]
  refine c_seq ?_
  refine c_seq ?_
  refine c_region ?_
  refine o_e rfl rfl rfl (e_move rfl) ?_
  refine o_e rfl rfl rfl (e_move rfl) ?_
  refine o_e rfl rfl rfl (e_neq rfl rfl) ?_
  refine o_nil ?_
  refine n_code ?_
  refine c_ifp rfl (fun h2 => ?_) (fun h2 => ?_)
  · refine c_skip ?_
    refine n_code ?_
    refine c_block ?_
    refine c_seq ?_
    refine c_region ?_
    refine o_e rfl rfl rfl (e_move rfl) ?_
    refine o_e rfl rfl rfl (e_move rfl) ?_
    refine o_e rfl rfl rfl (e_gtr rfl rfl) ?_
    refine o_nil ?_
    refine n_code ?_
    refine c_ifp rfl (fun h3 => ?_) (fun h3 => ?_)
    · refine c_seq ?_
      refine c_region ?_
      refine o_e rfl rfl rfl (e_loada Tryz.isAgg134 Tryz.sizeOf134 rfl (by first | exact .inr (by assumption) | exact .inl (by repeat (first | exact List.Mem.head _ | refine List.Mem.tail _ ?_))) (by first | assumption | repeat constructor)) ?_
      refine o_e rfl rfl rfl (e_move rfl) ?_
      refine o_e rfl rfl rfl (e_move rfl) ?_
      first | refine o_e rfl rfl rfl (e_subN rfl rfl (by omega)) ?_ | refine o_e rfl rfl rfl (e_subn rfl rfl (by simp only [inR]; omega)) ?_ | refine o_e rfl rfl rfl (e_sub rfl rfl) ?_
      refine o_e rfl rfl rfl (e_move rfl) ?_
      refine o_e rfl rfl rfl (e_move rfl) ?_
      refine o_l rfl (l_call Tryz.call267 (swapRange_is (rest := rest) (l := l') (a := m - i) (b := m) (m := j) hl hf h1 (by omega) (by omega)) rfl rfl (.cons (.tail .head) (.cons (.tail .head) .nil))) ?_
      rintro ⟨r, H'⟩ ⟨rfl, rfl⟩
      simp only [SH, List.cons_append, List.nil_append]
      refine o_nil ?_
      refine n_code ?_
      refine c_region ?_
      refine o_e rfl rfl rfl (e_move rfl) ?_
      refine o_e rfl rfl rfl (e_move rfl) ?_
      first | refine o_e rfl rfl rfl (e_subN rfl rfl (by omega)) ?_ | refine o_e rfl rfl rfl (e_subn rfl rfl (by simp only [inR]; omega)) ?_ | refine o_e rfl rfl rfl (e_sub rfl rfl) ?_
      refine o_e rfl rfl rfl (e_assign rfl) ?_
      refine o_nil ?_
      refine n_block ?_
      refine n_round' (y := (l', i, j)) (swR l' (m - i) m j, i - j, j) (by show i - j + j < i + j; omega) ?_ (sub_cons rfl (sub_cons rfl (sub_cons rfl (sub_cons rfl sub_nil)))) _ (List.perm_append_comm (l₁ := [_, _])) (List.Sublist.refl _)
      refine ⟨by show (swR l' (m - i) m j).length = n; rw [swR_length, hl], by show 0 < i - j; omega, hj0, by show i - j + j ≤ b - a; omega, by show i - j ≤ m; omega, hjn, ?_⟩
      rw [← hr]
      obtain ⟨f, hfu⟩ : ∃ f, b - a = f + 1 := ⟨b - a - 1, by omega⟩
      show rotL m (b - a) _ (i - j) j = rotL m (b - a) l' i j
      rw [rotL_fuel m (b - a) f _ _ _ (by omega) hj0 (by omega) (by omega), hfu]
      simp only [rotL]
      rw [if_neg (by omega), if_pos (by omega)]
    · skip
      refine c_seq ?_
      refine c_region ?_
      refine o_e rfl rfl rfl (e_loada Tryz.isAgg134 Tryz.sizeOf134 rfl (by first | exact .inr (by assumption) | exact .inl (by repeat (first | exact List.Mem.head _ | refine List.Mem.tail _ ?_))) (by first | assumption | repeat constructor)) ?_
      refine o_e rfl rfl rfl (e_move rfl) ?_
      refine o_e rfl rfl rfl (e_move rfl) ?_
      first | refine o_e rfl rfl rfl (e_subN rfl rfl (by omega)) ?_ | refine o_e rfl rfl rfl (e_subn rfl rfl (by simp only [inR]; omega)) ?_ | refine o_e rfl rfl rfl (e_sub rfl rfl) ?_
      refine o_e rfl rfl rfl (e_move rfl) ?_
      refine o_e rfl rfl rfl (e_move rfl) ?_
      first | refine o_e rfl rfl rfl (e_addN rfl rfl (by omega)) ?_ | refine o_e rfl rfl rfl (e_addn rfl rfl (by simp only [inR]; omega)) ?_ | refine o_e rfl rfl rfl (e_add rfl rfl) ?_
      refine o_e rfl rfl rfl (e_move rfl) ?_
      first | refine o_e rfl rfl rfl (e_subN rfl rfl (by omega)) ?_ | refine o_e rfl rfl rfl (e_subn rfl rfl (by simp only [inR]; omega)) ?_ | refine o_e rfl rfl rfl (e_sub rfl rfl) ?_
      refine o_e rfl rfl rfl (e_move rfl) ?_
      refine o_l rfl (l_call Tryz.call267 (swapRange_is (rest := rest) (l := l') (a := m - i) (b := m + j - i) (m := i) hl hf h1 (by omega) (by omega)) rfl rfl (.cons (.tail .head) (.cons (.tail .head) .nil))) ?_
      rintro ⟨r, H'⟩ ⟨rfl, rfl⟩
      simp only [SH, List.cons_append, List.nil_append]
      refine o_nil ?_
      refine n_code ?_
      refine c_region ?_
      refine o_e rfl rfl rfl (e_move rfl) ?_
      refine o_e rfl rfl rfl (e_move rfl) ?_
      first | refine o_e rfl rfl rfl (e_subN rfl rfl (by omega)) ?_ | refine o_e rfl rfl rfl (e_subn rfl rfl (by simp only [inR]; omega)) ?_ | refine o_e rfl rfl rfl (e_sub rfl rfl) ?_
      refine o_e rfl rfl rfl (e_assign rfl) ?_
      refine o_nil ?_
      refine n_block ?_
      refine n_round' (y := (l', i, j)) (swR l' (m - i) (m + j - i) i, i, j - i) (by show i + (j - i) < i + j; omega) ?_ (sub_cons rfl (sub_cons rfl (sub_cons rfl (sub_cons rfl sub_nil)))) _ (List.perm_append_comm (l₁ := [_, _])) (List.Sublist.refl _)
      refine ⟨by show (swR l' (m - i) (m + j - i) i).length = n; rw [swR_length, hl], hi0, by show 0 < j - i; omega, by show i + (j - i) ≤ b - a; omega, him, by show m + (j - i) ≤ n; omega, ?_⟩
      rw [← hr]
      obtain ⟨f, hfu⟩ : ∃ f, b - a = f + 1 := ⟨b - a - 1, by omega⟩
      show rotL m (b - a) _ i (j - i) = rotL m (b - a) l' i j
      rw [rotL_fuel m (b - a) f _ _ _ hi0 (by omega) (by omega) (by omega), hfu]
      simp only [rotL]
      rw [if_neg (by omega), if_neg (by omega)]
  · skip
    have hij : i = j := by omega
    refine c_exit ?_; refine x_code ?_; refine x_upto ?_; refine x_here ?_
    refine n_code ?_
    refine c_region ?_
    refine o_e rfl rfl rfl (e_loada Tryz.isAgg134 Tryz.sizeOf134 rfl (by first | exact .inr (by assumption) | exact .inl (by repeat (first | exact List.Mem.head _ | refine List.Mem.tail _ ?_))) (by first | assumption | repeat constructor)) ?_
    refine o_e rfl rfl rfl (e_move rfl) ?_
    refine o_e rfl rfl rfl (e_move rfl) ?_
    first | refine o_e rfl rfl rfl (e_subN rfl rfl (by omega)) ?_ | refine o_e rfl rfl rfl (e_subn rfl rfl (by simp only [inR]; omega)) ?_ | refine o_e rfl rfl rfl (e_sub rfl rfl) ?_
    refine o_e rfl rfl rfl (e_move rfl) ?_
    refine o_e rfl rfl rfl (e_move rfl) ?_
    refine o_l rfl (l_call Tryz.call267 (swapRange_is (rest := rest) (l := l') (a := m - i) (b := m) (m := i) hl hf h1 (by omega) (by omega)) rfl rfl (.cons (.tail .head) (.cons (.tail .head) .nil))) ?_
    rintro ⟨r, H'⟩ ⟨rfl, rfl⟩
    simp only [SH, List.cons_append, List.nil_append]
    refine o_nil ?_
    refine WN.sel (.cons .head (.cons .head .nil)) ?_
    refine n_fn0 Tryz.results250 ?_
    refine ⟨rfl, ?_⟩
    rw [← hr]
    obtain ⟨f, hfu⟩ : ∃ f, b - a = f + 1 := ⟨b - a - 1, by omega⟩
    rw [hfu]
    simp only [rotL, hij, if_true]
end
end Go.Proofs
namespace Go.Proofs
open Go Go.Sl
set_option maxRecDepth 100000

def ltAt (l : List En) (i j : Nat) : Bool := match l[i]?, l[j]? with
  | some x, some y => ltE x y
  | _, _ => false
theorem ltAt_of {l : List En} {i j : Nat} (hi : i < l.length) (hj : j < l.length) : ltE l[i] l[j] = ltAt l i j := by simp [ltAt, hi, hj]
def insJ (a : Nat) : Nat → List En → List En
  | 0, l => l
  | j + 1, l => if a < j + 1 ∧ ltAt l (j + 1) j = true then insJ a j (sw l (j + 1) j) else l
theorem insJ_length (a j : Nat) (l : List En) : (insJ a j l).length = l.length := by
  induction j generalizing l with
  | zero => rfl
  | succ j ih => simp only [insJ]; split <;> simp [ih, sw_length]
def isortN (a : Nat) : Nat → List En → List En
  | 0, l => l
  | k + 1, l => insJ a (a + 1 + k) (isortN a k l)
theorem isortN_length (a k : Nat) (l : List En) : (isortN a k l).length = l.length := by
  induction k with
  | zero => rfl
  | succ k ih => rw [isortN, insJ_length, ih]
section
variable {G : HP} {gs g n cap lo hi : Nat} {rest : List Value}
theorem isort_is {l : List En} {a b : Nat} (hn : l.length = n) (hf : n * 5 ≤ lo ∨ hi = 0) (h1 : n ≤ 1000) (hb : b ≤ n) (ha : a ≤ 1000) :
    Ctr Tryz.prog 124 [.agg (Dv gs g n cap).toArray, .int .i64 (a : Nat), .int .i64 (b : Nat)] G (SH gs g n cap rest lo hi l) (fun r H' => r = .tuple #[] ∧ H' = SH gs g n cap rest lo hi (isortN a (b - (a + 1)) l)) := by
  simp only [Dv, SH]
  refine fn_enter 35 Tryz.func124 rfl Tryz.ntmps124 rfl ?_
  intro w0
  refine c_seq ?_
  refine c_region ?_
  refine o_l rfl (l_box rfl rfl rfl) ?_; intro g3 _
  refine o_nil ?_
  refine n_code ?_
  refine c_seq ?_
  refine c_region ?_
  refine o_e rfl rfl rfl (e_move rfl) ?_
  first | refine o_e rfl rfl rfl (e_addN rfl rfl (by omega)) ?_ | refine o_e rfl rfl rfl (e_addn rfl rfl (by simp only [inR]; omega)) ?_ | refine o_e rfl rfl rfl (e_add rfl rfl) ?_
  refine o_e rfl rfl rfl (e_assign rfl) ?_
  refine o_nil ?_
  refine n_code ?_
  refine c_block ?_
  refine c_loop (X := Nat) (fun i => [(1, .int .i64 a), (2, .int .i64 b), (3, .pointer (some ⟨g3, 0, none⟩)), (6, .int .i64 (a + 1 + i : Nat))]) (fun i => (g3, C [.func (.func 193) #[] #[.pointer (some ⟨gs, 0, none⟩)], .func (.func 121) #[] #[.slice (some ⟨g, 0, none⟩) n cap, .pointer (some ⟨26, 56, none⟩)]] 134) :: SH gs g n cap rest lo hi (isortN a i l)) (fun i => i ≤ b - (a + 1)) (fun i => b - (a + 1) - i) 0 (Nat.zero_le _) (sub_cons rfl (sub_cons rfl (sub_cons rfl (sub_cons rfl sub_nil)))) (.refl _) ?_
  intro i hi2
  simp only [SH]
  have hl := (isortN_length a i l).trans hn
  generalize hgen : isortN a i l = l' at hl ⊢
  refine c_seq ?_
  refine c_seq ?_
  refine c_region ?_
  refine o_e rfl rfl rfl (e_move rfl) ?_
  refine o_e rfl rfl rfl (e_move rfl) ?_
  refine o_e rfl rfl rfl (e_lss rfl rfl) ?_
  refine o_nil ?_
  refine n_code ?_
  refine c_ifp rfl (fun h2 => ?_) (fun h2 => ?_)
  · refine c_skip ?_
    refine n_code ?_
    refine c_seq ?_
    refine c_block ?_
    refine c_seq ?_
    refine c_region ?_
    refine o_e rfl rfl rfl (e_move rfl) ?_
    refine o_e rfl rfl rfl (e_assign rfl) ?_
    refine o_nil ?_
    refine n_code ?_
    refine c_block ?_
    refine c_loop (X := Nat × List En) (fun y => [(1, .int .i64 a), (2, .int .i64 b), (3, .pointer (some ⟨g3, 0, none⟩)), (6, .int .i64 (a + 1 + i : Nat)), (7, .int .i64 y.1)]) (fun y => (g3, C [.func (.func 193) #[] #[.pointer (some ⟨gs, 0, none⟩)], .func (.func 121) #[] #[.slice (some ⟨g, 0, none⟩) n cap, .pointer (some ⟨26, 56, none⟩)]] 134) :: SH gs g n cap rest lo hi y.2) (fun y => y.1 ≤ a + 1 + i ∧ y.2.length = n ∧ insJ a y.1 y.2 = insJ a (a + 1 + i) l') (fun y => y.1) (a + 1 + i, l') ⟨Nat.le_refl _, hl, rfl⟩ (sub_cons rfl (sub_cons rfl (sub_cons rfl (sub_cons rfl (sub_cons rfl sub_nil))))) (.refl _) ?_
    rintro ⟨j, m⟩ ⟨hj, hm, hins⟩
    simp only at hj hm hins
    simp only [SH]
    refine c_seq ?_
    refine c_seq ?_
    refine c_region ?_
    refine o_e rfl rfl rfl (e_move rfl) ?_
    refine o_e rfl rfl rfl (e_move rfl) ?_
    refine o_e rfl rfl rfl (e_gtr rfl rfl) ?_
    refine o_e rfl rfl rfl (e_move rfl) ?_
    refine o_splitp 19 rfl (fun h3 => ?_) (fun h3 => ?_)
    · obtain ⟨j, rfl⟩ : ∃ j', j = j' + 1 := ⟨j - 1, by omega⟩
      refine o_e rfl rfl rfl (e_fa Tryz.runUnderlying134 rfl Tryz.sizeOf71 rfl rfl) ?_
      refine o_e rfl rfl rfl (e_load Tryz.isAgg71 rfl (by first | exact .inr (by assumption) | exact .inl (by repeat (first | exact List.Mem.head _ | refine List.Mem.tail _ ?_))) (by first | rfl | assumption)) ?_
      refine o_e rfl rfl rfl (e_move rfl) ?_
      refine o_e rfl rfl rfl (e_move rfl) ?_
      first | refine o_e rfl rfl rfl (e_pred rfl rfl (by omega)) ?_ | refine o_e rfl rfl rfl (e_sub1 rfl rfl (by omega)) ?_ | refine o_e rfl rfl rfl (e_subn rfl rfl (by simp only [inR]; omega)) ?_ | refine o_e rfl rfl rfl (e_sub rfl rfl) ?_
      refine o_l rfl (l_callcq (HI := []) (HJ := SH gs g n cap rest lo hi m) Tryz.call193 (less_is (g3 := gs) (g := g) (l := m) (rest := rest) (lo := lo) (hi := hi) (n := n) (cap := cap) (i := j + 1) (j := j) (by simp) (by simp) hm (by omega) (by omega)) rfl rfl rfl rfl .nil (by simp)) ?_
      rintro ⟨r, H'⟩ rfl
      rw [ltAt_of]
      refine o_less (fun _ _ h => h) (List.sublist_append_right _ _) ?_
      refine o_e rfl rfl rfl (e_pick_t rfl rfl) ?_
      refine o_nil ?_
      refine n_code ?_
      refine c_if rfl (fun h4 => ?_) (fun h4 => ?_)
      · refine c_skip ?_
        refine n_code ?_
        refine c_seq ?_
        refine c_block ?_
        refine c_region ?_
        refine o_e rfl rfl rfl (e_fa Tryz.runUnderlying134 rfl Tryz.sizeOf128 rfl rfl) ?_
        refine o_e rfl rfl rfl (e_load Tryz.isAgg128 rfl (by first | exact .inr (by assumption) | exact .inl (by repeat (first | exact List.Mem.head _ | refine List.Mem.tail _ ?_))) (by first | rfl | assumption)) ?_
        refine o_e rfl rfl rfl (e_move rfl) ?_
        refine o_e rfl rfl rfl (e_move rfl) ?_
        first | refine o_e rfl rfl rfl (e_pred rfl rfl (by omega)) ?_ | refine o_e rfl rfl rfl (e_sub1 rfl rfl (by omega)) ?_ | refine o_e rfl rfl rfl (e_subn rfl rfl (by simp only [inR]; omega)) ?_ | refine o_e rfl rfl rfl (e_sub rfl rfl) ?_
        refine o_l rfl (l_swapE rfl rfl rfl (i := j + 1) (j := j) rfl rfl hm (by omega) (by omega) (by rw [hm]; exact hf) (.tail (.tail .head))) ?_
        intro _ _
        rw [sw_of]
        refine o_nil ?_
        refine n_block ?_
        refine n_code ?_
        refine c_region ?_
        refine o_e rfl rfl rfl (e_move rfl) ?_
        first | refine o_e rfl rfl rfl (e_pred rfl rfl (by omega)) ?_ | refine o_e rfl rfl rfl (e_sub1 rfl rfl (by omega)) ?_ | refine o_e rfl rfl rfl (e_subn rfl rfl (by simp only [inR]; omega)) ?_ | refine o_e rfl rfl rfl (e_sub rfl rfl) ?_
        refine o_e rfl rfl rfl (e_assign rfl) ?_
        refine o_nil ?_
        refine n_round (y := (j + 1, m)) (j, sw m (j + 1) j) (by show j < j + 1; omega) ?_ (sub_cons rfl (sub_cons rfl (sub_cons rfl (sub_cons rfl (sub_cons rfl sub_nil))))) (.refl _)
        refine ⟨by show j ≤ a + 1 + i; omega, by show (sw m (j + 1) j).length = n; rw [sw_length, hm], ?_⟩
        rw [← hins]
        simp only [insJ]
        rw [if_pos ⟨by omega, h4⟩]
      · skip
        refine c_exit ?_; refine x_code ?_; refine x_upto ?_; refine x_here ?_
        refine n_block ?_
        refine n_code ?_
        refine c_region ?_
        refine o_e rfl rfl rfl (e_move rfl) ?_
        first | refine o_e rfl rfl rfl (e_addN rfl rfl (by omega)) ?_ | refine o_e rfl rfl rfl (e_addn rfl rfl (by simp only [inR]; omega)) ?_ | refine o_e rfl rfl rfl (e_add rfl rfl) ?_
        refine o_e rfl rfl rfl (e_assign rfl) ?_
        refine o_nil ?_
        refine n_round (i + 1) (by omega) (by omega) (sub_cons rfl (sub_cons rfl (sub_cons rfl (sub_cons rfl sub_nil)))) ?_
        have : isortN a (i + 1) l = m := by
          rw [isortN, hgen, ← hins]
          simp only [insJ]
          rw [if_neg (by rintro ⟨_, h⟩; rw [h4] at h; cases h)]
        rw [this]
    · skip
      refine o_skip rfl rfl rfl ?_
      refine o_skip rfl rfl rfl ?_
      refine o_skip rfl rfl rfl ?_
      refine o_skip rfl rfl rfl ?_
      refine o_skip rfl rfl rfl ?_
      refine o_skip rfl rfl rfl ?_
      refine o_e rfl rfl rfl (e_pick_f rfl rfl) ?_
      refine o_nil ?_
      refine n_code ?_
      refine c_else rfl ?_
      refine c_exit ?_; refine x_code ?_; refine x_upto ?_; refine x_here ?_
      refine n_block ?_
      refine n_code ?_
      refine c_region ?_
      refine o_e rfl rfl rfl (e_move rfl) ?_
      first | refine o_e rfl rfl rfl (e_addN rfl rfl (by omega)) ?_ | refine o_e rfl rfl rfl (e_addn rfl rfl (by simp only [inR]; omega)) ?_ | refine o_e rfl rfl rfl (e_add rfl rfl) ?_
      refine o_e rfl rfl rfl (e_assign rfl) ?_
      refine o_nil ?_
      refine n_round (i + 1) (by omega) (by omega) (sub_cons rfl (sub_cons rfl (sub_cons rfl (sub_cons rfl sub_nil)))) ?_
      have : isortN a (i + 1) l = m := by
        rw [isortN, hgen, ← hins]
        cases j with
        | zero => rfl
        | succ j =>
          simp only [insJ]
          rw [if_neg (by rintro ⟨h, _⟩; omega)]
      rw [this]
  · skip
    refine c_exit ?_; refine x_code ?_; refine x_upto ?_; refine x_here ?_
    refine WN.less (fun _ _ h => h) (List.sublist_cons_self _ _) ?_
    refine n_fn0 Tryz.results124 ?_
    have : i = b - (a + 1) := by omega
    subst this
    exact ⟨rfl, by rw [hgen]⟩
end
end Go.Proofs
namespace Go.Proofs
open Go Go.Sl
set_option maxRecDepth 100000

def bsch (p : Nat → Bool) : Nat → Nat → Nat → Nat
  | 0, i, _ => i
  | f + 1, i, j => if i < j then (if p ((i + j) / 2) then bsch p f ((i + j) / 2 + 1) j else bsch p f i ((i + j) / 2)) else i
theorem bsch_bounds (p : Nat → Bool) : ∀ (f i j : Nat), i ≤ j → i ≤ bsch p f i j ∧ bsch p f i j ≤ j := by
  intro f
  induction f with
  | zero => intro i j h; simp [bsch, h]
  | succ f ih =>
    intro i j h
    simp only [bsch]
    split
    · split
      · have := ih ((i + j) / 2 + 1) j (by omega); omega
      · have := ih i ((i + j) / 2) (by omega); omega
    · omega
theorem bsch_fuel (p : Nat → Bool) : ∀ (f f' i j : Nat), j - i ≤ f → j - i ≤ f' → bsch p f i j = bsch p f' i j := by
  intro f
  induction f with
  | zero =>
    intro f' i j h h'
    cases f' with
    | zero => rfl
    | succ f' => simp only [bsch]; rw [if_neg (by omega)]
  | succ f ih =>
    intro f' i j h h'
    cases f' with
    | zero => simp only [bsch]; rw [if_neg (by omega)]
    | succ f' =>
      simp only [bsch]
      split
      · split
        · exact ih _ _ _ (by omega) (by omega)
        · exact ih _ _ _ (by omega) (by omega)
      · rfl
def upS (l : List En) (k : Nat) : Nat → List En
  | 0 => l
  | c + 1 => sw (upS l k c) (k + c) (k + c + 1)
def dnS (l : List En) (k : Nat) : Nat → List En
  | 0 => l
  | c + 1 => sw (dnS l k c) (k - c) (k - c - 1)
theorem upS_length (l : List En) (k c : Nat) : (upS l k c).length = l.length := by
  induction c with
  | zero => rfl
  | succ c ih => rw [upS, sw_length, ih]
theorem dnS_length (l : List En) (k c : Nat) : (dnS l k c).length = l.length := by
  induction c with
  | zero => rfl
  | succ c ih => rw [dnS, sw_length, ih]
def symM : Nat → List En → Nat → Nat → Nat → List En
  | 0, l, _, _, _ => l
  | f + 1, l, a, m, b =>
    if m - a = 1 then upS l a (bsch (fun h => ltAt l h a) (b - m) m b - 1 - a)
    else if b - m = 1 then dnS l m (m - bsch (fun h => !ltAt l m h) (m - a) a m)
    else
      let mid := (a + b) / 2
      let st := if mid < m then bsch (fun c => !ltAt l (mid + m - 1 - c) c) (b - a) (mid + m - b) mid else bsch (fun c => !ltAt l (mid + m - 1 - c) c) (b - a) a m
      let en := mid + m - st
      let l1 := if st < m ∧ m < en then rotL m (en - st) l (m - st) (en - m) else l
      let l2 := if a < st ∧ st < mid then symM f l1 a st mid else l1
      if mid < en ∧ en < b then symM f l2 mid en b else l2
theorem symM_length : ∀ (f : Nat) (l : List En) (a m b : Nat), (symM f l a m b).length = l.length := by
  intro f
  induction f with
  | zero => intros; rfl
  | succ f ih =>
    intro l a m b
    simp only [symM]
    split
    · exact upS_length ..
    · split
      · exact dnS_length ..
      · split <;> (repeat (first | rfl | rw [ih] | rw [rotL_length] | split))
end Go.Proofs
