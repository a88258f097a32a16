/- The program's functions for which the machine stands in, and its deferred closure; The swap that sort.SliceStable is handed, at entries; Which of two entries comes first; What sort.SliceStable does with entries, step by step; Insertion sort of entries; Merging of sorted parts, as it is done; symMerge, walked. (A part of the proof of this: for every input laws.FnWrOptions returns true and its arguments read as they did, the listed package variables being what the program lays) -/
import Derived.Test.YtochgglejmfelaaGreatDoorLSlZ
import Derived.Test.YtochgglejmfelaaGreatDoorProg
import Derived.KernelRfl
import Derived.WalkKit
import Derived.Lib.ReflectliteSlice
import Derived.Lib.Bytealg
import Derived.Test.YtochgglejmfelaaGreatDoorL02
import Derived.Test.YtochgglejmfelaaGreatDoorL06
import Derived.Lib.ReflectliteSwap
set_option linter.unusedVariables false
set_option linter.unusedSimpArgs false
namespace Go.Proofs
open Go Go.Sl Tryz
section
variable {x : Cx} {s : Slots} {H : HP} {d : Nat} {p : Operand} {ty : TypeId} {pos : String} {af : Array Edge} {gd : Option (Nat × Bool)}
theorem handle_eq (t : TypeId) : typeHandle prog t = .pointer (some ⟨26, t, none⟩) := by
  unfold typeHandle
  have : prog.globals.size = 26 := by kernel_rfl
  rw [this]
theorem ext63 {t e : TypeId} {i : TypeInfo} (hi : ∀ w, (typeInfo t).run prog w = .ok i w) (hd : i.desc = .slice e) (q : Option Addr) (n c : Nat) (w : World) :
    (callFunc 63 #[.iface t (.slice q n c)]).run prog w = .ok (.value (.agg #[.pointer (some ⟨26, t, none⟩), .pointer (some ⟨w.heap.size, 0, none⟩), .int .u64 151])) (w.alloc (.cells #[.slice q n c] t)) := by
  have hv := Lib.run_valueOf_slice (P := prog) t e i (info_of hi) hd q n c w
  rw [run_callFunc_extern func63 (by kernel_rfl) (by kernel_rfl) (by kernel_rfl) (e := fun args => Extern.ReflectliteValue.unpack (args.getD 0 (.tuple #[]))) (by kernel_rfl),
    show Sem.run prog ((fun args : Array Value => Extern.ReflectliteValue.unpack (args.getD 0 (.tuple #[]))) #[.iface t (.slice q n c)]) w = _ from hv]
  simp only [Result.andThen, handle_eq]
theorem ext64 {t e : TypeId} {i ie : TypeInfo} (hi : ∀ w, (typeInfo t).run prog w = .ok i w) (hd : i.desc = .slice e) (hie : ∀ w, (typeInfo e).run prog w = .ok ie w) (ke : Nat) (hke : ∀ w, (Extern.Rtype.kind e).run prog w = .ok ke w)
    (q : Option Addr) (n c : Nat) (k f : Nat) (hk : Lib.swapperK n ie ke = k) (hf : prog.funcs.findIdx? (·.name == "internal/reflectlite" ++ ".Swapper$" ++ toString k) = some f) (w : World) :
    (callFunc 64 #[.iface t (.slice q n c)]).run prog w = .ok (.value (.func (.func f) #[] (if k ≤ 2 then #[] else #[.slice q n c, .pointer (some ⟨26, e, none⟩)]))) w := by
  have hs := Lib.run_swapper_slice (P := prog) t e i ie (info_of hi) hd (info_of hie) ke hke q n c f (by rw [hk]; exact hf) w
  rw [run_callFunc_extern func64 (by kernel_rfl) (by kernel_rfl) (by kernel_rfl) (e := Extern.ReflectliteSwapper.swapper "internal/reflectlite" (Extern.ReflectliteValue.valueError "Swapper")) (by kernel_rfl), hs]
  simp only [Result.andThen, handle_eq, hk]
theorem e_vlen {t e : TypeId} {i : TypeInfo} {g off n c : Nat} {q : Option Addr} {l : List Value} {el : TypeId} {fr : Nat × Nat} {ats : Array TypeId} (hx : x.P = prog) (hi : ∀ w, (typeInfo t).run prog w = .ok i w) (hd : i.desc = .slice e) (hpk : prog.packed t = false)
    (hp : ev s p = some (.agg #[.pointer (some ⟨26, t, none⟩), .pointer (some ⟨g, off, none⟩), .int .u64 151])) (hm : (g, .cells l.toArray el fr) ∈ H ∨ (g, Obj.cells l.toArray el fr) ∈ x.G) (hv : l[off]? = some (.slice q n c)) :
    Ex x s H ⟨some d, .call { callee := .value (.func 65), args := #[p], argTypes := ats }, ty, pos, af, gd⟩ (.int .i64 n) := fun a w hs => by
  have hl := Lib.run_valueLen_slice (P := prog) t e i (info_of hi) hd hpk ⟨g, off, none⟩ q n c w (by rw [cell_of (hs.mem hm)]; exact hv)
  rw [handle_eq] at hl
  have hc : (callFunc 65 #[.agg #[.pointer (some ⟨26, t, none⟩), .pointer (some ⟨g, off, none⟩), .int .u64 151]]).run prog w = .ok (.value (.int .i64 n)) w := by
    rw [run_callFunc_extern func65 (by kernel_rfl) (by kernel_rfl) (by kernel_rfl) (e := Extern.ReflectliteValue.method (Extern.ReflectliteValue.valueError "reflectlite.Value.Len" 0) Extern.ReflectliteValue.len) (by kernel_rfl), hl]
    rfl
  rw [hx]
  have he : a.eval (.func 65) = .func (.func 65) #[] #[] := rfl
  simp [execOp, resolve, he, Deferred.ofValue, invoke, hs.eval hp, hc]
/-- A value that holds these bytes. -/
inductive Bv (x : Cx) (H : HP) : Value → List UInt8 → Prop where
  | nil {n cap : Nat} : Bv x H (.slice none n cap) []
  | blk {bs : List UInt8} {g off n cap : Nat} {l : List Value} {e : TypeId} {fr : Nat × Nat} (hm : (g, .cells l.toArray e fr) ∈ H ∨ (g, Obj.cells l.toArray e fr) ∈ x.G) (hn : bs.length = n) (hc : CutL l off n (B bs)) : Bv x H (.slice (some ⟨g, off, none⟩) n cap) bs
theorem run_loadB {P : Program} {w : World} : ∀ (l : List UInt8) (a : Addr) (acc : ByteArray), (∀ j x, l[j]? = some x → w.cell? (a.add j) = some (.int .u8 x.toNat)) → (Extern.Bytes.loadBytes a l.length acc).run P w = .ok ⟨acc.data ++ l.toArray⟩ w
  | [], a, acc, _ => by simp [Extern.Bytes.loadBytes]
  | x :: l, a, acc, h => by
    have h0 : w.cell? a = some (.int .u8 x.toNat) := by
      have := h 0 x rfl
      simpa [Addr.add] using this
    have ih := run_loadB (P := P) l (a.add 1) (acc.push x) (fun j y hj => by
      have := h (j + 1) y (by simpa using hj)
      rwa [show (a.add 1).add j = a.add (j + 1) by simp [Addr.add_add, Nat.add_comm]])
    have hx : ((x.toNat : Int).toNat).toUInt8 = x := by simp
    simp only [List.length_cons, Extern.Bytes.loadBytes, Sem.run_bind, run_load, h0, Result.andThen, hx]
    rw [ih]
    congr 1
    apply ByteArray.ext
    simp [ByteArray.push]
theorem Bv.run {a : Act} {w : World} (hs : St x s H a w) {v : Value} {bs : List UInt8} (h : Bv x H v bs) : (Extern.Bytes.bytesOf v).run x.P w = .ok ⟨bs.toArray⟩ w := by
  cases h with
  | nil => rfl
  | @blk _ g off n cap l e fr hm hn hc =>
    subst hn
    have := run_loadB (P := x.P) (w := w) bs ⟨g, off, none⟩ .empty (fun j b hj => by
      rw [add_addr, cell_of (hs.mem hm)]
      have hlt := (List.getElem?_eq_some_iff.1 hj).1
      have := congrArg (fun z => z[j]?) hc.eq
      simp only [List.getElem?_take_of_lt hlt, List.getElem?_drop] at this
      rw [← this]
      simp [B, hj])
    simp only [Extern.Bytes.bytesOf, this]
    have he : ByteArray.empty.data = #[] := rfl
    rw [he]
    simp
end
end Go.Proofs
namespace Go.Proofs
open Go Go.Sl Tryz
set_option maxRecDepth 100000

theorem cut_skip (p : List Value) {l vs : List Value} {i n : Nat} (h : CutL l i n vs) : CutL (p ++ l) (p.length + i) n vs := by
  induction p with
  | nil => simpa using h
  | cons a p ih => rw [List.length_cons, Nat.add_right_comm]; exact .skip ih
theorem put_skip (p : List Value) {l vs l' : List Value} {i : Nat} (h : PutL l i vs l') : PutL (p ++ l) (p.length + i) vs (p ++ l') := by
  induction p with
  | nil => simpa using h
  | cons a p ih => rw [List.length_cons, Nat.add_right_comm]; exact .skip ih
theorem cells5_cut {l : List En} {i : Nat} (h : i < l.length) (rest : List Value) : CutL (cells5 l ++ rest) (i * 5) 5 (cE l[i]) := by
  induction l generalizing i with
  | nil => cases h
  | cons x l ih =>
    cases i with
    | zero => exact .take (.take (.take (.take (.take .done))))
    | succ i =>
      have := ih (i := i) (by simpa using h)
      have e1 : cells5 (x :: l) ++ rest = cE x ++ (cells5 l ++ rest) := by simp [cells5]
      rw [e1, show (i + 1) * 5 = (cE x).length + i * 5 by simp [cE]; omega]
      exact cut_skip _ this
theorem cells5_put {l : List En} {i : Nat} (y : En) (h : i < l.length) (rest : List Value) : PutL (cells5 l ++ rest) (i * 5) (cE y) (cells5 (l.set i y) ++ rest) := by
  induction l generalizing i with
  | nil => cases h
  | cons x l ih =>
    cases i with
    | zero => exact .take (.take (.take (.take (.take .done))))
    | succ i =>
      have := ih (i := i) (by simpa using h)
      have e1 : cells5 (x :: l) ++ rest = cE x ++ (cells5 l ++ rest) := by simp [cells5]
      have e2 : cells5 ((x :: l).set (i + 1) y) ++ rest = cE x ++ (cells5 (l.set i y) ++ rest) := by simp [cells5]
      rw [e1, e2, show (i + 1) * 5 = (cE x).length + i * 5 by simp [cE]; omega]
      exact put_skip _ this
/-- Two entries exchanged. -/
def swapL (l : List En) (i j : Nat) (hi : i < l.length) (hj : j < l.length) : List En := (l.set i l[j]).set j l[i]
theorem cE_one (x : En) : ∀ v ∈ cE x, v.oneCell' = true := by
  intro v hv
  simp [cE] at hv
  rcases hv with rfl | rfl | rfl | rfl | rfl <;> rfl

section
variable {x : Cx} {s : Slots} {H H' : HP} {d : Nat} {p q r : Operand} {ty : TypeId} {pos : String} {af : Array Edge} {gd : Option (Nat × Bool)} {ats : Array TypeId}
/-- The run of the exchange. -/
theorem exchange_run {w : World} {g : Nat} {l : List En} {rest : List Value} {lo hi i j : Nat} (h : w.heap[g]? = some (.cells (cells5 l ++ rest).toArray 56 (lo, hi))) (hi' : i < l.length) (hj : j < l.length) (hf : l.length * 5 ≤ lo ∨ hi = 0) :
    ∃ w', (Extern.ReflectliteSwapper.exchange 56 ⟨g, 0, none⟩ i j).run prog w = .ok (.tuple #[]) w' ∧ w'.heap[g]? = some (.cells (cells5 (swapL l i j hi' hj) ++ rest).toArray 56 (lo, hi)) ∧ (∀ k, k ≠ g → w'.heap[k]? = w.heap[k]?) ∧
      w'.os = w.os ∧ w'.tape = w.tape ∧ w'.output = w.output ∧ w'.heap.size = w.heap.size := by
  have hx := Sl.run_loadCells (P := prog) h (cells5_cut hi' rest)
  have hy := Sl.run_loadCells (P := prog) h (cells5_cut hj rest)
  have hA := isAgg56
  have hS := sizeOf56
  obtain ⟨w1, a1, a2, a3, a4, a5, a6, a7⟩ := Sl.run_storeCells (P := prog) (off := i * 5) (cE l[j]) w 0 _ h (by simp [cells5_length, cE]; omega) (cE_one _) (by intro k h1 h2; simp [cE] at h1 h2; omega)
  have b2 : w1.heap[g]? = some (.cells (cells5 (l.set i l[j]) ++ rest).toArray 56 (lo, hi)) := by
    rw [(cells5_put l[j] hi' rest).eq]; simpa using a2
  obtain ⟨w2, c1, c2, c3, c4, c5, c6, c7⟩ := Sl.run_storeCells (P := prog) (off := j * 5) (cE l[i]) w1 0 _ b2 (by simp [cells5_length, cE]; omega) (cE_one _) (by intro k h1 h2; simp [cE] at h1 h2; omega)
  have d2 : w2.heap[g]? = some (.cells (cells5 (swapL l i j hi' hj) ++ rest).toArray 56 (lo, hi)) := by
    rw [swapL, (cells5_put l[i] (by simpa using hj) rest).eq]; simpa using c2
  refine ⟨w2, ?_, d2, fun k hk => (c3 k hk).trans (a3 k hk), c4.trans a4, c5.trans a5, c6.trans a6, c7.trans a7⟩
  have e1 : ∀ z : En, (cE z).toArray.size = 5 := fun z => rfl
  simp only [Extern.ReflectliteSwapper.exchange, Sem.run_bind, hS, Result.andThen_ok, add_addr, Nat.zero_add, loadVar, hA, if_true, hx, hy, Sem.run_pure, storeVar, Value.cells, e1, ne_eq, not_true_eq_false, if_false, a1, c1]
theorem ofHandle56 (w : World) : (Extern.Rtype.ofHandle (.pointer (some ⟨26, 56, none⟩))).run prog w = .ok 56 w := by kernel_rfl
theorem swap_run {w : World} {g n cap : Nat} {l : List En} {rest : List Value} {lo hi i j : Nat} (h : w.heap[g]? = some (.cells (cells5 l ++ rest).toArray 56 (lo, hi))) (hi' : i < l.length) (hj : j < l.length) (hn : l.length = n) (hf : l.length * 5 ≤ lo ∨ hi = 0) :
    ∃ w', (callFunc 121 #[.int .i64 (i : Nat), .int .i64 (j : Nat), .slice (some ⟨g, 0, none⟩) n cap, .pointer (some ⟨26, 56, none⟩)]).run prog w = .ok (.value (.tuple #[])) w' ∧ w'.heap[g]? = some (.cells (cells5 (swapL l i j hi' hj) ++ rest).toArray 56 (lo, hi)) ∧ (∀ k, k ≠ g → w'.heap[k]? = w.heap[k]?) ∧
      w'.os = w.os ∧ w'.tape = w.tape ∧ w'.output = w.output ∧ w'.heap.size = w.heap.size := by
  obtain ⟨w', e1, e2⟩ := exchange_run h hi' hj hf
  refine ⟨w', ?_, e2⟩
  rw [run_callFunc_extern func121 (by kernel_rfl) (by kernel_rfl) (by kernel_rfl) (e := Extern.ReflectliteSwapper.swap false) (by kernel_rfl)]
  have hr : (Extern.ReflectliteSwapper.swap false #[.int .i64 (i : Nat), .int .i64 (j : Nat), .slice (some ⟨g, 0, none⟩) n cap, .pointer (some ⟨26, 56, none⟩)]).run prog w = .ok (.tuple #[]) w' := by
    have i0 : ¬ ((i : Int) < 0) := by omega
    have i1 : ¬ ((i : Int) ≥ n) := by omega
    have j0 : ¬ ((j : Int) < 0) := by omega
    have j1 : ¬ ((j : Int) ≥ n) := by omega
    rw [Lib.rl_swap]
    simp [i0, i1, j0, j1, ofHandle56, e1]
  rw [hr]; rfl
theorem l_swapE {g n cap : Nat} {l : List En} {rest : List Value} {lo hi i j : Nat} (hx : x.P = prog) (hN : Nat.blt d x.N = true) (hp : ev s p = some (.func (.func 121) #[] #[.slice (some ⟨g, 0, none⟩) n cap, .pointer (some ⟨26, 56, none⟩)])) (hq : ev s q = some (.int .i64 (i : Nat))) (hr : ev s r = some (.int .i64 (j : Nat)))
    (hn : l.length = n) (hi' : i < l.length) (hj : j < l.length) (hf : l.length * 5 ≤ lo ∨ hi = 0) (hu : UpB H g (.cells (cells5 l ++ rest).toArray 56 (lo, hi)) (.cells (cells5 (swapL l i j hi' hj) ++ rest).toArray 56 (lo, hi)) H') :
    Lo x s H ⟨some d, .call { callee := .value p, args := #[q, r], argTypes := ats }, ty, pos, af, gd⟩ (Y := Unit) (fun _ => (d, .tuple #[]) :: s) (fun _ => H') (fun _ => True) :=
  l_gen (Y := Unit) (fun _ => .tuple #[]) (fun _ => H') (fun _ => True) rfl hN (fun a w hs => by
    obtain ⟨w', e1, e2, e3, e4, e5, e6, e7⟩ := swap_run (cap := cap) (hs.heap _ hu.mem) hi' hj hn hf
    refine ⟨w', (), ?_, trivial, hs.up hu e2 e3 e4 e5 e6 e7⟩
    rw [hx]
    simp [execOp, resolve, hs.eval hp, hs.eval hq, hs.eval hr, Deferred.ofValue, invoke, e1])
end
end Go.Proofs
namespace Go.Proofs
open Go Go.Sl Tryz
set_option maxRecDepth 100000

/-- By digests, then by offsets. -/
def ltE (x y : En) : Bool := if x.d ≠ y.d then Op.bytesLess x.d y.d else decide (x.o < y.o)
theorem less_is {G : HP} {l : List En} {rest : List Value} {g3 g n cap : Nat} {lo hi i j : Nat} (h3 : (g3, C [.slice (some ⟨g, 0, none⟩) n cap] 22) ∈ G) (hg : (g, Obj.cells (cells5 l ++ rest).toArray 56 (lo, hi)) ∈ G) (hn : l.length = n) (hi' : i < l.length) (hj : j < l.length) :
    Ctr prog 193 [.int .i64 (i : Nat), .int .i64 (j : Nat), .pointer (some ⟨g3, 0, none⟩)] G [] (fun r _ => r = .bool (ltE l[i] l[j])) := by
  have hci : CutL (cells5 l ++ rest) (0 + i * 5) 5 (cE l[i]) := by rw [Nat.zero_add]; exact cells5_cut hi' rest
  have hcj : CutL (cells5 l ++ rest) (0 + j * 5) 5 (cE l[j]) := by rw [Nat.zero_add]; exact cells5_cut hj rest
  generalize l[i] = x at *
  generalize l[j] = y at *
  obtain ⟨xv, xc, xh, xd, xo⟩ := x
  obtain ⟨yv, yc, yh, yd, yo⟩ := y
  simp only [cE] at hci hcj
  refine fn_enter 35 func193 rfl ntmps193 rfl ?_
  intro w0
  refine gn 6 ?_
  refine c_regiond ([]) (by kernel_rfl) (by first | exact List.Sublist.refl _ | exact List.nil_sublist _ | (repeat constructor)) ?_
  refine ld [0, 1, 2, 3, 4, 5, 6, 7] ?_
  refine d_l2 8 9 (by kernel_rfl) rfl rfl rfl rfl (l_alloc zeroValue56 rfl rfl) (l_alloc zeroValue56 rfl rfl) aH aH ?_ ?_
  · intro g6 _
    refine dZ 9 ?_; intro g7 _
    refine dL 10 rfl (l_storea sizeOf56 rfl rfl rfl (by simp [Value.oneCell']) (.tail .head) (.take (.take (.take (.take (.take .done))))) nofrs0) ?_
    intro _ _
    refine dL 11 rfl (l_storea sizeOf56 rfl rfl rfl (by simp [Value.oneCell']) .head (.take (.take (.take (.take (.take .done))))) nofrs0) ?_
    intro _ _
    refine gn 5 ?_
    refine oX (e_fa runUnderlying56 rfl sizeOf25 rfl rfl) ?_
    refine oX (e_fa runUnderlying25 rfl sizeOf9 rfl rfl) ?_
    refine gn 1 ?_
    refine oX (e_fa runUnderlying56 rfl sizeOf25 rfl rfl) ?_
    refine oX (e_fa runUnderlying25 rfl sizeOf9 rfl rfl) ?_
    refine gn 4 ?_
    refine c_ifp rfl (fun h1 => ?_) (fun h1 => ?_)
    · refine gn 2 ?_
      refine oX (e_fa runUnderlying56 rfl sizeOf25 rfl rfl) ?_
      refine oX (e_fa runUnderlying25 rfl sizeOf9 rfl rfl) ?_
      refine gn 1 ?_
      refine oX (e_fa runUnderlying56 rfl sizeOf25 rfl rfl) ?_
      refine oX (e_fa runUnderlying25 rfl sizeOf9 rfl rfl) ?_
      refine gn 6 ?_
      refine r_fn1 results193 rfl ?_
      simp [ltE, show ¬ xd = yd from h1]
    · skip
      refine gn 4 ?_
      refine oX (e_fa runUnderlying56 rfl sizeOf23 rfl rfl) ?_
      refine gn 1 ?_
      refine oX (e_fa runUnderlying56 rfl sizeOf23 rfl rfl) ?_
      refine gn 6 ?_
      refine r_fn1 results193 rfl ?_
      simp [ltE, show xd = yd from Classical.byContradiction h1]
  · skip
    intro g7 _
    refine dZ 8 ?_; intro g6 _
    refine dL 10 rfl (l_storea sizeOf56 rfl rfl rfl (by simp [Value.oneCell']) .head (.take (.take (.take (.take (.take .done))))) nofrs0) ?_
    intro _ _
    refine dL 11 rfl (l_storea sizeOf56 rfl rfl rfl (by simp [Value.oneCell']) (.tail .head) (.take (.take (.take (.take (.take .done))))) nofrs0) ?_
    intro _ _
    refine gn 5 ?_
    refine oX (e_fa runUnderlying56 rfl sizeOf25 rfl rfl) ?_
    refine oX (e_fa runUnderlying25 rfl sizeOf9 rfl rfl) ?_
    refine gn 1 ?_
    refine oX (e_fa runUnderlying56 rfl sizeOf25 rfl rfl) ?_
    refine oX (e_fa runUnderlying25 rfl sizeOf9 rfl rfl) ?_
    refine gn 4 ?_
    refine c_ifp rfl (fun h1 => ?_) (fun h1 => ?_)
    · refine gn 2 ?_
      refine oX (e_fa runUnderlying56 rfl sizeOf25 rfl rfl) ?_
      refine oX (e_fa runUnderlying25 rfl sizeOf9 rfl rfl) ?_
      refine gn 1 ?_
      refine oX (e_fa runUnderlying56 rfl sizeOf25 rfl rfl) ?_
      refine oX (e_fa runUnderlying25 rfl sizeOf9 rfl rfl) ?_
      refine gn 6 ?_
      refine r_fn1 results193 rfl ?_
      simp [ltE, show ¬ xd = yd from h1]
    · skip
      refine gn 4 ?_
      refine oX (e_fa runUnderlying56 rfl sizeOf23 rfl rfl) ?_
      refine gn 1 ?_
      refine oX (e_fa runUnderlying56 rfl sizeOf23 rfl rfl) ?_
      refine gn 6 ?_
      refine r_fn1 results193 rfl ?_
      simp [ltE, show xd = yd from Classical.byContradiction h1]
end Go.Proofs
namespace Go.Proofs
open Go Go.Sl Tryz
set_option maxRecDepth 100000

def sw (l : List En) (i j : Nat) : List En := if h : i < l.length ∧ j < l.length then swapL l i j h.1 h.2 else l
theorem sw_of {l : List En} {i j : Nat} (hi : i < l.length) (hj : j < l.length) : swapL l i j hi hj = sw l i j := by simp [sw, hi, hj]
theorem sw_length (l : List En) (i j : Nat) : (sw l i j).length = l.length := by
  unfold sw; split
  · simp [swapL]
  · rfl
/-- m swaps, of what begins at a and at b. -/
def swR (l : List En) (a b : Nat) : Nat → List En
  | 0 => l
  | i + 1 => sw (swR l a b i) (a + i) (b + i)
theorem swR_length (l : List En) (a b m : Nat) : (swR l a b m).length = l.length := by
  induction m with
  | zero => rfl
  | succ m ih => rw [swR, sw_length, ih]

/-- The memory that is sorted, and what says so. -/
abbrev SH (gs g n cap : Nat) (rest : List Value) (lo hi : Nat) (l : List En) : HP := [(gs, C [.slice (some ⟨g, 0, none⟩) n cap] 22), (g, .cells (cells5 l ++ rest).toArray 56 (lo, hi))]
abbrev Dv (gs g n cap : Nat) : List Value := [.func (.func 193) #[] #[.pointer (some ⟨gs, 0, none⟩)], .func (.func 121) #[] #[.slice (some ⟨g, 0, none⟩) n cap, .pointer (some ⟨26, 56, none⟩)]]

section
variable {G : HP} {gs g n cap lo hi : Nat} {rest : List Value}
theorem swapRange_is {l : List En} {a b m : Nat} (hn : l.length = n) (hf : n * 5 ≤ lo ∨ hi = 0) (h1 : n ≤ 1000) (ha : a + m ≤ n) (hb : b + m ≤ n) :
    Ctr prog 267 [.agg (Dv gs g n cap).toArray, .int .i64 (a : Nat), .int .i64 (b : Nat), .int .i64 (m : Nat)] G (SH gs g n cap rest lo hi l) (fun r H' => r = .tuple #[] ∧ H' = SH gs g n cap rest lo hi (swR l a b m)) := by
  simp only [Dv, SH]
  refine fn_enter 23 func267 rfl ntmps267 rfl ?_
  intro w0
  refine gn 2 ?_
  refine oB ?_; intro g4 _
  refine gn 8 ?_
  refine c_loop (X := Nat) (fun i => [(1, .int .i64 a), (2, .int .i64 b), (3, .int .i64 m), (4, .pointer (some ⟨g4, 0, none⟩)), (8, .int .i64 i)]) (fun i => (g4, C [.func (.func 193) #[] #[.pointer (some ⟨gs, 0, none⟩)], .func (.func 121) #[] #[.slice (some ⟨g, 0, none⟩) n cap, .pointer (some ⟨26, 56, none⟩)]] 134) :: SH gs g n cap rest lo hi (swR l a b i)) (fun i => i ≤ m) (fun i => m - i) 0 (Nat.zero_le _) aK (.refl _) ?_
  intro i hi2
  simp only [SH]
  have hl := (swR_length l a b i).trans hn
  generalize hgen : swR l a b i = l' at hl ⊢
  refine gn 8 ?_
  refine c_ifp rfl (fun h2 => ?_) (fun h2 => ?_)
  · refine gn 5 ?_
    refine oX (e_fa runUnderlying134 rfl sizeOf128 rfl rfl) ?_
    refine gn 7 ?_
    refine oL (l_swapE rfl rfl rfl (i := a + i) (j := b + i) rfl rfl hl (by omega) (by omega) (by rw [hl]; exact hf) (.tail (.tail .head))) ?_
    intro _ _
    rw [sw_of]
    refine gn 8 ?_
    refine n_round (i + 1) (by omega) (by omega) aK ?_
    simp only [swR, hgen]
    exact .refl _
  · skip
    refine gn 4 ?_
    refine WN.less (fun _ _ h => h) (List.sublist_cons_self _ _) ?_
    refine n_fn0 results267 ?_
    have : i = m := by omega
    subst this
    exact ⟨rfl, by rw [hgen]⟩

/-- Two neighbouring parts exchanged: the left one i long, the right one j. -/
def rotL (m : Nat) : Nat → List En → Nat → Nat → List En
  | 0, l, _, _ => l
  | f + 1, l, i, j => if i = j then swR l (m - i) m i else if j < i then rotL m f (swR l (m - i) m j) (i - j) j else rotL m f (swR l (m - i) (m + j - i) i) i (j - i)
theorem rotL_length (m f : Nat) (l : List En) (i j : Nat) : (rotL m f l i j).length = l.length := by
  induction f generalizing l i j with
  | zero => rfl
  | succ f ih =>
    simp only [rotL]
    split
    · exact swR_length ..
    · split <;> rw [ih, swR_length]
/-- As many rounds as it likes. -/
theorem rotL_fuel (m : Nat) : ∀ (f f' : Nat) (l : List En) (i j : Nat), 0 < i → 0 < j → i + j ≤ f → i + j ≤ f' → rotL m f l i j = rotL m f' l i j := by
  intro f
  induction f with
  | zero => intro f' l i j h1 h2 h3; omega
  | succ f ih =>
    intro f' l i j h1 h2 h3 h4
    cases f' with
    | zero => omega
    | succ f' =>
      simp only [rotL]
      split
      · rfl
      · split
        · exact ih _ _ _ _ (by omega) h2 (by omega) (by omega)
        · exact ih _ _ _ _ h1 (by omega) (by omega) (by omega)
theorem rotate_is {l : List En} {a m b : Nat} (hn : l.length = n) (hf : n * 5 ≤ lo ∨ hi = 0) (h1 : n ≤ 1000) (ha : a < m) (hb : m < b) (hbn : b ≤ n) :
    Ctr prog 250 [.agg (Dv gs g n cap).toArray, .int .i64 (a : Nat), .int .i64 (m : Nat), .int .i64 (b : Nat)] G (SH gs g n cap rest lo hi l) (fun r H' => r = .tuple #[] ∧ H' = SH gs g n cap rest lo hi (rotL m (b - a) l (m - a) (b - m))) := by
  simp only [Dv, SH]
  refine fn_enter 53 func250 rfl ntmps250 rfl ?_
  intro w0
  refine gn 2 ?_
  refine oB ?_; intro g4 _
  refine gn 20 ?_
  refine c_loop (X := List En × Nat × Nat) (fun y => [(2, .int .i64 m), (4, .pointer (some ⟨g4, 0, none⟩)), (8, .int .i64 y.2.1), (9, .int .i64 y.2.2)]) (fun y => (g4, C [.func (.func 193) #[] #[.pointer (some ⟨gs, 0, none⟩)], .func (.func 121) #[] #[.slice (some ⟨g, 0, none⟩) n cap, .pointer (some ⟨26, 56, none⟩)]] 134) :: SH gs g n cap rest lo hi y.1)
    (fun y => y.1.length = n ∧ 0 < y.2.1 ∧ 0 < y.2.2 ∧ y.2.1 + y.2.2 ≤ b - a ∧ y.2.1 ≤ m ∧ m + y.2.2 ≤ n ∧ rotL m (b - a) y.1 y.2.1 y.2.2 = rotL m (b - a) l (m - a) (b - m)) (fun y => y.2.1 + y.2.2) (l, m - a, b - m) ⟨hn, by show 0 < m - a; omega, by show 0 < b - m; omega, by show m - a + (b - m) ≤ b - a; omega, by show m - a ≤ m; omega, by show m + (b - m) ≤ n; omega, rfl⟩ aK (.refl _) ?_
  rintro ⟨l', i, j⟩ ⟨hl, hi0, hj0, hs, him, hjn, hr⟩
  simp only at hl hi0 hj0 hs him hjn hr
  simp only [SH]
  refine gn 8 ?_
  refine c_ifp rfl (fun h2 => ?_) (fun h2 => ?_)
  · refine gn 10 ?_
    refine c_ifp rfl (fun h3 => ?_) (fun h3 => ?_)
    · refine gn 8 ?_
      refine oL (lC (swapRange_is (rest := rest) (l := l') (a := m - i) (b := m) (m := j) hl hf h1 (by omega) (by omega)) rfl (.cons (.tail .head) (.cons (.tail .head) .nil))) ?_
      rintro ⟨r, H'⟩ ⟨rfl, rfl⟩
      simp only [SH, List.cons_append, List.nil_append]
      refine gn 9 ?_
      refine n_round' (y := (l', i, j)) (swR l' (m - i) m j, i - j, j) (by show i - j + j < i + j; omega) ?_ aK _ (List.perm_append_comm (l₁ := [_, _])) (List.Sublist.refl _)
      refine ⟨by show (swR l' (m - i) m j).length = n; rw [swR_length, hl], by show 0 < i - j; omega, hj0, by show i - j + j ≤ b - a; omega, by show i - j ≤ m; omega, hjn, ?_⟩
      rw [← hr]
      obtain ⟨f, hfu⟩ : ∃ f, b - a = f + 1 := ⟨b - a - 1, by omega⟩
      show rotL m (b - a) _ (i - j) j = rotL m (b - a) l' i j
      rw [rotL_fuel m (b - a) f _ _ _ (by omega) hj0 (by omega) (by omega), hfu]
      simp only [rotL]
      rw [if_neg (by omega), if_pos (by omega)]
    · skip
      refine gn 12 ?_
      refine oL (lC (swapRange_is (rest := rest) (l := l') (a := m - i) (b := m + j - i) (m := i) hl hf h1 (by omega) (by omega)) rfl (.cons (.tail .head) (.cons (.tail .head) .nil))) ?_
      rintro ⟨r, H'⟩ ⟨rfl, rfl⟩
      simp only [SH, List.cons_append, List.nil_append]
      refine gn 9 ?_
      refine n_round' (y := (l', i, j)) (swR l' (m - i) (m + j - i) i, i, j - i) (by show i + (j - i) < i + j; omega) ?_ aK _ (List.perm_append_comm (l₁ := [_, _])) (List.Sublist.refl _)
      refine ⟨by show (swR l' (m - i) (m + j - i) i).length = n; rw [swR_length, hl], hi0, by show 0 < j - i; omega, by show i + (j - i) ≤ b - a; omega, him, by show m + (j - i) ≤ n; omega, ?_⟩
      rw [← hr]
      obtain ⟨f, hfu⟩ : ∃ f, b - a = f + 1 := ⟨b - a - 1, by omega⟩
      show rotL m (b - a) _ i (j - i) = rotL m (b - a) l' i j
      rw [rotL_fuel m (b - a) f _ _ _ hi0 (by omega) (by omega) (by omega), hfu]
      simp only [rotL]
      rw [if_neg (by omega), if_neg (by omega)]
  · skip
    have hij : i = j := by omega
    refine gn 12 ?_
    refine oL (lC (swapRange_is (rest := rest) (l := l') (a := m - i) (b := m) (m := i) hl hf h1 (by omega) (by omega)) rfl (.cons (.tail .head) (.cons (.tail .head) .nil))) ?_
    rintro ⟨r, H'⟩ ⟨rfl, rfl⟩
    simp only [SH, List.cons_append, List.nil_append]
    refine gn 1 ?_
    refine WN.sel (.cons .head (.cons .head .nil)) ?_
    refine n_fn0 results250 ?_
    refine ⟨rfl, ?_⟩
    rw [← hr]
    obtain ⟨f, hfu⟩ : ∃ f, b - a = f + 1 := ⟨b - a - 1, by omega⟩
    rw [hfu]
    simp only [rotL, hij, if_true]
end
end Go.Proofs
namespace Go.Proofs
open Go Go.Sl Tryz
set_option maxRecDepth 100000

def ltAt (l : List En) (i j : Nat) : Bool := match l[i]?, l[j]? with
  | some x, some y => ltE x y
  | _, _ => false
theorem ltAt_of {l : List En} {i j : Nat} (hi : i < l.length) (hj : j < l.length) : ltE l[i] l[j] = ltAt l i j := by simp [ltAt, hi, hj]
def insJ (a : Nat) : Nat → List En → List En
  | 0, l => l
  | j + 1, l => if a < j + 1 ∧ ltAt l (j + 1) j = true then insJ a j (sw l (j + 1) j) else l
theorem insJ_length (a j : Nat) (l : List En) : (insJ a j l).length = l.length := by
  induction j generalizing l with
  | zero => rfl
  | succ j ih => simp only [insJ]; split <;> simp [ih, sw_length]
def isortN (a : Nat) : Nat → List En → List En
  | 0, l => l
  | k + 1, l => insJ a (a + 1 + k) (isortN a k l)
theorem isortN_length (a k : Nat) (l : List En) : (isortN a k l).length = l.length := by
  induction k with
  | zero => rfl
  | succ k ih => rw [isortN, insJ_length, ih]
section
variable {G : HP} {gs g n cap lo hi : Nat} {rest : List Value}
theorem isort_is {l : List En} {a b : Nat} (hn : l.length = n) (hf : n * 5 ≤ lo ∨ hi = 0) (h1 : n ≤ 1000) (hb : b ≤ n) (ha : a ≤ 1000) :
    Ctr prog 124 [.agg (Dv gs g n cap).toArray, .int .i64 (a : Nat), .int .i64 (b : Nat)] G (SH gs g n cap rest lo hi l) (fun r H' => r = .tuple #[] ∧ H' = SH gs g n cap rest lo hi (isortN a (b - (a + 1)) l)) := by
  simp only [Dv, SH]
  refine fn_enter 35 func124 rfl ntmps124 rfl ?_
  intro w0
  refine gn 2 ?_
  refine oB ?_; intro g3 _
  refine gn 10 ?_
  refine c_loop (X := Nat) (fun i => [(1, .int .i64 a), (2, .int .i64 b), (3, .pointer (some ⟨g3, 0, none⟩)), (6, .int .i64 (a + 1 + i : Nat))]) (fun i => (g3, C [.func (.func 193) #[] #[.pointer (some ⟨gs, 0, none⟩)], .func (.func 121) #[] #[.slice (some ⟨g, 0, none⟩) n cap, .pointer (some ⟨26, 56, none⟩)]] 134) :: SH gs g n cap rest lo hi (isortN a i l)) (fun i => i ≤ b - (a + 1)) (fun i => b - (a + 1) - i) 0 (Nat.zero_le _) aK (.refl _) ?_
  intro i hi2
  simp only [SH]
  have hl := (isortN_length a i l).trans hn
  generalize hgen : isortN a i l = l' at hl ⊢
  refine gn 8 ?_
  refine c_ifp rfl (fun h2 => ?_) (fun h2 => ?_)
  · refine gn 11 ?_
    refine c_loop (X := Nat × List En) (fun y => [(1, .int .i64 a), (2, .int .i64 b), (3, .pointer (some ⟨g3, 0, none⟩)), (6, .int .i64 (a + 1 + i : Nat)), (7, .int .i64 y.1)]) (fun y => (g3, C [.func (.func 193) #[] #[.pointer (some ⟨gs, 0, none⟩)], .func (.func 121) #[] #[.slice (some ⟨g, 0, none⟩) n cap, .pointer (some ⟨26, 56, none⟩)]] 134) :: SH gs g n cap rest lo hi y.2) (fun y => y.1 ≤ a + 1 + i ∧ y.2.length = n ∧ insJ a y.1 y.2 = insJ a (a + 1 + i) l') (fun y => y.1) (a + 1 + i, l') ⟨Nat.le_refl _, hl, rfl⟩ aK (.refl _) ?_
    rintro ⟨j, m⟩ ⟨hj, hm, hins⟩
    simp only at hj hm hins
    simp only [SH]
    refine gn 7 ?_
    refine o_splitp 19 rfl (fun h3 => ?_) (fun h3 => ?_)
    · obtain ⟨j, rfl⟩ : ∃ j', j = j' + 1 := ⟨j - 1, by omega⟩
      refine oX (e_fa runUnderlying134 rfl sizeOf71 rfl rfl) ?_
      refine gn 4 ?_
      refine oL (l_callcq (HI := []) (HJ := SH gs g n cap rest lo hi m) call193 (less_is (g3 := gs) (g := g) (l := m) (rest := rest) (lo := lo) (hi := hi) (n := n) (cap := cap) (i := j + 1) (j := j) (by simp) (by simp) hm (by omega) (by omega)) rfl rfl rfl rfl .nil (by simp)) ?_
      rintro ⟨r, H'⟩ rfl
      rw [ltAt_of]
      refine o_less (fun _ _ h => h) (List.sublist_append_right _ _) ?_
      refine gn 3 ?_
      refine c_if rfl (fun h4 => ?_) (fun h4 => ?_)
      · refine gn 5 ?_
        refine oX (e_fa runUnderlying134 rfl sizeOf128 rfl rfl) ?_
        refine gn 4 ?_
        refine oL (l_swapE rfl rfl rfl (i := j + 1) (j := j) rfl rfl hm (by omega) (by omega) (by rw [hm]; exact hf) (.tail (.tail .head))) ?_
        intro _ _
        rw [sw_of]
        refine gn 8 ?_
        refine n_round (y := (j + 1, m)) (j, sw m (j + 1) j) (by show j < j + 1; omega) ?_ aK (.refl _)
        refine ⟨by show j ≤ a + 1 + i; omega, by show (sw m (j + 1) j).length = n; rw [sw_length, hm], ?_⟩
        rw [← hins]
        simp only [insJ]
        rw [if_pos ⟨by omega, h4⟩]
      · skip
        refine gn 11 ?_
        refine n_round (i + 1) (by omega) (by omega) aK ?_
        have : isortN a (i + 1) l = m := by
          rw [isortN, hgen, ← hins]
          simp only [insJ]
          rw [if_neg (by rintro ⟨_, h⟩; rw [h4] at h; cases h)]
        rw [this]
    · skip
      refine gn 21 ?_
      refine n_round (i + 1) (by omega) (by omega) aK ?_
      have : isortN a (i + 1) l = m := by
        rw [isortN, hgen, ← hins]
        cases j with
        | zero => rfl
        | succ j =>
          simp only [insJ]
          rw [if_neg (by rintro ⟨h, _⟩; omega)]
      rw [this]
  · skip
    refine gn 4 ?_
    refine WN.less (fun _ _ h => h) (List.sublist_cons_self _ _) ?_
    refine n_fn0 results124 ?_
    have : i = b - (a + 1) := by omega
    subst this
    exact ⟨rfl, by rw [hgen]⟩
end
end Go.Proofs
namespace Go.Proofs
open Go Go.Sl
set_option maxRecDepth 100000

def bsch (p : Nat → Bool) : Nat → Nat → Nat → Nat
  | 0, i, _ => i
  | f + 1, i, j => if i < j then (if p ((i + j) / 2) then bsch p f ((i + j) / 2 + 1) j else bsch p f i ((i + j) / 2)) else i
theorem bsch_bounds (p : Nat → Bool) : ∀ (f i j : Nat), i ≤ j → i ≤ bsch p f i j ∧ bsch p f i j ≤ j := by
  intro f
  induction f with
  | zero => intro i j h; simp [bsch, h]
  | succ f ih =>
    intro i j h
    simp only [bsch]
    split
    · split
      · have := ih ((i + j) / 2 + 1) j (by omega); omega
      · have := ih i ((i + j) / 2) (by omega); omega
    · omega
theorem bsch_fuel (p : Nat → Bool) : ∀ (f f' i j : Nat), j - i ≤ f → j - i ≤ f' → bsch p f i j = bsch p f' i j := by
  intro f
  induction f with
  | zero =>
    intro f' i j h h'
    cases f' with
    | zero => rfl
    | succ f' => simp only [bsch]; rw [if_neg (by omega)]
  | succ f ih =>
    intro f' i j h h'
    cases f' with
    | zero => simp only [bsch]; rw [if_neg (by omega)]
    | succ f' =>
      simp only [bsch]
      split
      · split
        · exact ih _ _ _ (by omega) (by omega)
        · exact ih _ _ _ (by omega) (by omega)
      · rfl
def upS (l : List En) (k : Nat) : Nat → List En
  | 0 => l
  | c + 1 => sw (upS l k c) (k + c) (k + c + 1)
def dnS (l : List En) (k : Nat) : Nat → List En
  | 0 => l
  | c + 1 => sw (dnS l k c) (k - c) (k - c - 1)
theorem upS_length (l : List En) (k c : Nat) : (upS l k c).length = l.length := by
  induction c with
  | zero => rfl
  | succ c ih => rw [upS, sw_length, ih]
theorem dnS_length (l : List En) (k c : Nat) : (dnS l k c).length = l.length := by
  induction c with
  | zero => rfl
  | succ c ih => rw [dnS, sw_length, ih]
def symM : Nat → List En → Nat → Nat → Nat → List En
  | 0, l, _, _, _ => l
  | f + 1, l, a, m, b =>
    if m - a = 1 then upS l a (bsch (fun h => ltAt l h a) (b - m) m b - 1 - a)
    else if b - m = 1 then dnS l m (m - bsch (fun h => !ltAt l m h) (m - a) a m)
    else
      let mid := (a + b) / 2
      let st := if mid < m then bsch (fun c => !ltAt l (mid + m - 1 - c) c) (b - a) (mid + m - b) mid else bsch (fun c => !ltAt l (mid + m - 1 - c) c) (b - a) a m
      let en := mid + m - st
      let l1 := if st < m ∧ m < en then rotL m (en - st) l (m - st) (en - m) else l
      let l2 := if a < st ∧ st < mid then symM f l1 a st mid else l1
      if mid < en ∧ en < b then symM f l2 mid en b else l2
theorem symM_length : ∀ (f : Nat) (l : List En) (a m b : Nat), (symM f l a m b).length = l.length := by
  intro f
  induction f with
  | zero => intros; rfl
  | succ f ih =>
    intro l a m b
    simp only [symM]
    split
    · exact upS_length ..
    · split
      · exact dnS_length ..
      · split <;> (repeat (first | rfl | rw [ih] | rw [rotL_length] | split))
end Go.Proofs
namespace Go.Proofs
open Go Go.Sl Tryz
set_option maxRecDepth 100000
set_option maxHeartbeats 1000000

section
variable {G : HP} {gs g n cap lo hi : Nat} {rest : List Value}
theorem symM_is (hf : n * 5 ≤ lo ∨ hi = 0) (h1 : n ≤ 1000) : ∀ (f : Nat) {l : List En} {a m b : Nat}, l.length = n → a < m → m < b → b ≤ n → b - a ≤ f →
    Ctr prog 228 [.agg (Dv gs g n cap).toArray, .int .i64 (a : Nat), .int .i64 (m : Nat), .int .i64 (b : Nat)] G (SH gs g n cap rest lo hi l) (fun r H' => r = .tuple #[] ∧ H' = SH gs g n cap rest lo hi (symM f l a m b)) := by
  intro f
  induction f with
  | zero => intro l a m b _ _ _ _ _; omega
  | succ f ih =>
  intro l a m b hn ham hmb hbn hba
  simp only [Dv, SH] at ih ⊢
  refine fn_enter 177 func228 rfl ntmps228 rfl ?_
  intro w0
  refine gn 2 ?_
  refine oB ?_; intro g4 _
  refine gn 11 ?_
  refine c_ifp rfl (fun c1 => ?_) (fun c1 => ?_)
  · refine gn 14 ?_
    have hma : m = a + 1 := by omega
    refine c_loop (X := Nat × Nat) (fun y => [(1, .int .i64 a), (2, .int .i64 m), (3, .int .i64 b), (4, .pointer (some ⟨g4, 0, none⟩)), (8, .int .i64 y.1), (9, .int .i64 y.2)]) (fun _ => (g4, C [.func (.func 193) #[] #[.pointer (some ⟨gs, 0, none⟩)], .func (.func 121) #[] #[.slice (some ⟨g, 0, none⟩) n cap, .pointer (some ⟨26, 56, none⟩)]] 134) :: SH gs g n cap rest lo hi l)
      (fun y => m ≤ y.1 ∧ y.1 ≤ y.2 ∧ y.2 ≤ b ∧ bsch (fun h => ltAt l h a) (b - m) y.1 y.2 = bsch (fun h => ltAt l h a) (b - m) m b) (fun y => y.2 - y.1) (m, b) ⟨Nat.le_refl _, Nat.le_of_lt hmb, Nat.le_refl _, rfl⟩ aK (.refl _) ?_
    rintro ⟨i, j⟩ ⟨hmi, hij, hjb, hbs⟩
    simp only at hmi hij hjb hbs
    simp only [SH]
    refine gn 8 ?_
    refine c_ifp rfl (fun c2 => ?_) (fun c2 => ?_)
    · refine gn 16 ?_
      refine oX (e_fa runUnderlying134 rfl sizeOf71 rfl rfl) ?_
      refine gn 3 ?_
      refine oL (l_callcq (HI := []) (HJ := SH gs g n cap rest lo hi l) call193 (less_is (g3 := gs) (g := g) (l := l) (rest := rest) (lo := lo) (hi := hi) (n := n) (cap := cap) (i := (i + j) / 2) (j := a) (by simp) (by simp) hn (by omega) (by omega)) rfl rfl rfl rfl .nil (by simp)) ?_
      rintro ⟨r, H'⟩ rfl
      rw [ltAt_of]
      refine o_less (fun _ _ h => h) (List.sublist_append_right _ _) ?_
      refine gn 2 ?_
      refine c_if rfl (fun c3 => ?_) (fun c3 => ?_)
      · refine gn 6 ?_
        refine n_round (y := (i, j)) ((i + j) / 2 + 1, j) (by show j - ((i + j) / 2 + 1) < j - i; omega) ?_ aK (.refl _)
        refine ⟨by show m ≤ (i + j) / 2 + 1; omega, by show (i + j) / 2 + 1 ≤ j; omega, hjb, ?_⟩
        rw [← hbs, bsch_fuel _ (b - m) (b - m - 1) _ _ (by show j - ((i + j) / 2 + 1) ≤ b - m; omega) (by show j - ((i + j) / 2 + 1) ≤ b - m - 1; omega)]
        obtain ⟨q, hq⟩ : ∃ q, b - m = q + 1 := ⟨b - m - 1, by omega⟩
        rw [hq]
        simp only [bsch, Nat.add_sub_cancel]
        rw [if_pos (show i < j by omega), if_pos c3]
      · skip
        refine gn 5 ?_
        refine n_round (y := (i, j)) (i, (i + j) / 2) (by show (i + j) / 2 - i < j - i; omega) ?_ aK (.refl _)
        refine ⟨hmi, by show i ≤ (i + j) / 2; omega, by show (i + j) / 2 ≤ b; omega, ?_⟩
        rw [← hbs, bsch_fuel _ (b - m) (b - m - 1) _ _ (by show (i + j) / 2 - i ≤ b - m; omega) (by show (i + j) / 2 - i ≤ b - m - 1; omega)]
        obtain ⟨q, hq⟩ : ∃ q, b - m = q + 1 := ⟨b - m - 1, by omega⟩
        rw [hq]
        simp only [bsch, Nat.add_sub_cancel]
        rw [if_pos (show i < j by omega), if_neg (by rw [c3]; simp)]
    · skip
      have hfin : bsch (fun h => ltAt l h a) (b - m) m b = i := by
        rw [← hbs]
        obtain ⟨q, hq⟩ : ∃ q, b - m = q + 1 := ⟨b - m - 1, by omega⟩
        rw [hq]
        simp only [bsch]
        rw [if_neg (by omega)]
      refine gn 13 ?_
      refine c_loop (X := Nat) (fun c => [(4, .pointer (some ⟨g4, 0, none⟩)), (8, .int .i64 i), (11, .int .i64 (a + c : Nat))]) (fun c => (g4, C [.func (.func 193) #[] #[.pointer (some ⟨gs, 0, none⟩)], .func (.func 121) #[] #[.slice (some ⟨g, 0, none⟩) n cap, .pointer (some ⟨26, 56, none⟩)]] 134) :: SH gs g n cap rest lo hi (upS l a c)) (fun c => c ≤ i - 1 - a) (fun c => i - 1 - a - c) 0 (Nat.zero_le _) aK (.refl _) ?_
      intro c hc
      simp only [SH]
      have hl := (upS_length l a c).trans hn
      generalize hgen : upS l a c = l' at hl ⊢
      refine gn 9 ?_
      refine c_ifp rfl (fun c4 => ?_) (fun c4 => ?_)
      · refine gn 5 ?_
        refine oX (e_fa runUnderlying134 rfl sizeOf128 rfl rfl) ?_
        refine gn 4 ?_
        refine oL (l_swapE rfl rfl rfl (i := a + c) (j := a + c + 1) rfl rfl hl (by omega) (by omega) (by rw [hl]; exact hf) (.tail (.tail .head))) ?_
        intro _ _
        rw [sw_of]
        refine gn 8 ?_
        refine n_round (c + 1) (by omega) (by omega) aK ?_
        simp only [upS, hgen]
        exact .refl _
      · skip
        refine gn 6 ?_
        refine WR.sel (.cons (.tail .head) (.cons (.tail .head) .nil)) ?_
        refine r_fn0 results228 ?_
        have : c = i - 1 - a := by omega
        subst this
        refine ⟨rfl, ?_⟩
        simp only [symM]
        rw [if_pos (by omega), hfin, hgen]
  · skip
    have c1 : ¬ (m - a = 1) := by omega
    refine gn 11 ?_
    refine c_ifp rfl (fun d1 => ?_) (fun d1 => ?_)
    · refine gn 14 ?_
      have hbm : b = m + 1 := by omega
      refine c_loop (X := Nat × Nat) (fun y => [(1, .int .i64 a), (2, .int .i64 m), (3, .int .i64 b), (4, .pointer (some ⟨g4, 0, none⟩)), (12, .int .i64 y.1), (13, .int .i64 y.2)]) (fun _ => (g4, C [.func (.func 193) #[] #[.pointer (some ⟨gs, 0, none⟩)], .func (.func 121) #[] #[.slice (some ⟨g, 0, none⟩) n cap, .pointer (some ⟨26, 56, none⟩)]] 134) :: SH gs g n cap rest lo hi l)
        (fun y => a ≤ y.1 ∧ y.1 ≤ y.2 ∧ y.2 ≤ m ∧ bsch (fun h => !ltAt l m h) (m - a) y.1 y.2 = bsch (fun h => !ltAt l m h) (m - a) a m) (fun y => y.2 - y.1) (a, m) ⟨Nat.le_refl _, Nat.le_of_lt ham, Nat.le_refl _, rfl⟩ aK (.refl _) ?_
      rintro ⟨i, j⟩ ⟨hmi, hij, hjb, hbs⟩
      simp only at hmi hij hjb hbs
      simp only [SH]
      refine gn 8 ?_
      refine c_ifp rfl (fun c2 => ?_) (fun c2 => ?_)
      · refine gn 16 ?_
        refine oX (e_fa runUnderlying134 rfl sizeOf71 rfl rfl) ?_
        refine gn 3 ?_
        refine oL (l_callcq (HI := []) (HJ := SH gs g n cap rest lo hi l) call193 (less_is (g3 := gs) (g := g) (l := l) (rest := rest) (lo := lo) (hi := hi) (n := n) (cap := cap) (i := m) (j := (i + j) / 2) (by simp) (by simp) hn (by omega) (by omega)) rfl rfl rfl rfl .nil (by simp)) ?_
        rintro ⟨r, H'⟩ rfl
        rw [ltAt_of]
        refine o_less (fun _ _ h => h) (List.sublist_append_right _ _) ?_
        refine gn 3 ?_
        refine c_if rfl (fun c3 => ?_) (fun c3 => ?_)
        · refine gn 6 ?_
          refine n_round (y := (i, j)) ((i + j) / 2 + 1, j) (by show j - ((i + j) / 2 + 1) < j - i; omega) ?_ aK (.refl _)
          refine ⟨by show a ≤ (i + j) / 2 + 1; omega, by show (i + j) / 2 + 1 ≤ j; omega, hjb, ?_⟩
          rw [← hbs, bsch_fuel _ (m - a) (m - a - 1) _ _ (by show j - ((i + j) / 2 + 1) ≤ m - a; omega) (by show j - ((i + j) / 2 + 1) ≤ m - a - 1; omega)]
          obtain ⟨q, hq⟩ : ∃ q, m - a = q + 1 := ⟨m - a - 1, by omega⟩
          rw [hq]
          simp only [bsch, Nat.add_sub_cancel]
          rw [if_pos (show i < j by omega), if_pos c3]
        · skip
          refine gn 5 ?_
          refine n_round (y := (i, j)) (i, (i + j) / 2) (by show (i + j) / 2 - i < j - i; omega) ?_ aK (.refl _)
          refine ⟨hmi, by show i ≤ (i + j) / 2; omega, by show (i + j) / 2 ≤ m; omega, ?_⟩
          rw [← hbs, bsch_fuel _ (m - a) (m - a - 1) _ _ (by show (i + j) / 2 - i ≤ m - a; omega) (by show (i + j) / 2 - i ≤ m - a - 1; omega)]
          obtain ⟨q, hq⟩ : ∃ q, m - a = q + 1 := ⟨m - a - 1, by omega⟩
          rw [hq]
          simp only [bsch, Nat.add_sub_cancel]
          rw [if_pos (show i < j by omega), if_neg (by rw [c3]; simp)]
      · skip
        have hfin : bsch (fun h => !ltAt l m h) (m - a) a m = i := by
          rw [← hbs]
          obtain ⟨q, hq⟩ : ∃ q, m - a = q + 1 := ⟨m - a - 1, by omega⟩
          rw [hq]
          simp only [bsch]
          rw [if_neg (by omega)]
        refine gn 13 ?_
        refine c_loop (X := Nat) (fun c => [(4, .pointer (some ⟨g4, 0, none⟩)), (12, .int .i64 i), (15, .int .i64 (m - c : Nat))]) (fun c => (g4, C [.func (.func 193) #[] #[.pointer (some ⟨gs, 0, none⟩)], .func (.func 121) #[] #[.slice (some ⟨g, 0, none⟩) n cap, .pointer (some ⟨26, 56, none⟩)]] 134) :: SH gs g n cap rest lo hi (dnS l m c)) (fun c => c ≤ m - i) (fun c => m - i - c) 0 (Nat.zero_le _) aK (.refl _) ?_
        intro c hc
        simp only [SH]
        have hl := (dnS_length l m c).trans hn
        generalize hgen : dnS l m c = l' at hl ⊢
        refine gn 8 ?_
        refine c_ifp rfl (fun c4 => ?_) (fun c4 => ?_)
        · obtain ⟨k, hk⟩ : ∃ k, m - c = k + 1 := ⟨m - c - 1, by omega⟩
          rw [hk]
          refine gn 5 ?_
          refine oX (e_fa runUnderlying134 rfl sizeOf128 rfl rfl) ?_
          refine gn 4 ?_
          refine oL (l_swapE rfl rfl rfl (i := k + 1) (j := k) rfl rfl hl (by omega) (by omega) (by rw [hl]; exact hf) (.tail (.tail .head))) ?_
          intro _ _
          rw [sw_of]
          refine gn 8 ?_
          have hk2 : m - (c + 1) = k := by omega
          refine n_round (y := c) (c + 1) (by show m - i - (c + 1) < m - i - c; omega) (by show c + 1 ≤ m - i; omega) ?_ ?_
          · simp only [hk2]
            exact sub_cons rfl aK
          · simp only [dnS, hgen, hk, Nat.add_sub_cancel]
            exact .refl _
        · skip
          refine gn 6 ?_
          refine WR.sel (.cons (.tail .head) (.cons (.tail .head) .nil)) ?_
          refine r_fn0 results228 ?_
          have : c = m - i := by omega
          subst this
          refine ⟨rfl, ?_⟩
          simp only [symM]
          rw [if_neg c1, if_pos (by omega), hfin, hgen]
    · skip
      have d1 : ¬ (b - m = 1) := by omega
      refine gn 35 ?_
      refine c_cut (X := Nat × Nat) (fun y => [(1, .int .i64 a), (2, .int .i64 m), (3, .int .i64 b), (4, .pointer (some ⟨g4, 0, none⟩)), (16, .int .i64 ((a + b) / 2 : Nat)), (17, .int .i64 ((a + b) / 2 + m : Nat)), (18, .int .i64 y.1), (19, .int .i64 y.2)]) (fun _ => (g4, C [.func (.func 193) #[] #[.pointer (some ⟨gs, 0, none⟩)], .func (.func 121) #[] #[.slice (some ⟨g, 0, none⟩) n cap, .pointer (some ⟨26, 56, none⟩)]] 134) :: SH gs g n cap rest lo hi l) (fun y => ((a + b) / 2 < m ∧ y = ((a + b) / 2 + m - b, (a + b) / 2)) ∨ (¬ (a + b) / 2 < m ∧ y = (a, m))) ?_ ?_
      · skip
        refine c_ifp rfl (fun e1 => ?_) (fun e1 => ?_)
        · refine gn 12 ?_
          exact n_cut ((a + b) / 2 + m - b, (a + b) / 2) (.inl ⟨by omega, rfl⟩) aK (.refl _)
        · skip
          refine gn 10 ?_
          exact n_cut (a, m) (.inr ⟨by omega, rfl⟩) aK (.refl _)
      rintro ⟨s0, r0⟩ hs0
      simp only [Prod.mk.injEq] at hs0
      simp only [SH]
      refine gn 10 ?_
      generalize hmid : (a + b) / 2 = mid at *
      refine c_loop (X := Nat × Nat) (fun y => [(1, .int .i64 a), (2, .int .i64 m), (3, .int .i64 b), (4, .pointer (some ⟨g4, 0, none⟩)), (16, .int .i64 mid), (17, .int .i64 (mid + m : Nat)), (18, .int .i64 y.1), (19, .int .i64 y.2), (20, .int .i64 (mid + m - 1 : Nat))]) (fun _ => (g4, C [.func (.func 193) #[] #[.pointer (some ⟨gs, 0, none⟩)], .func (.func 121) #[] #[.slice (some ⟨g, 0, none⟩) n cap, .pointer (some ⟨26, 56, none⟩)]] 134) :: SH gs g n cap rest lo hi l)
        (fun y => s0 ≤ y.1 ∧ y.1 ≤ y.2 ∧ y.2 ≤ r0 ∧ bsch (fun c => !ltAt l (mid + m - 1 - c) c) (b - a) y.1 y.2 = bsch (fun c => !ltAt l (mid + m - 1 - c) c) (b - a) s0 r0) (fun y => y.2 - y.1) (s0, r0) ⟨Nat.le_refl _, by show s0 ≤ r0; omega, Nat.le_refl _, rfl⟩ aK (.refl _) ?_
      rintro ⟨i, j⟩ ⟨hmi, hij, hjb, hbs⟩
      simp only at hmi hij hjb hbs
      simp only [SH]
      refine gn 8 ?_
      refine c_ifp rfl (fun c2 => ?_) (fun c2 => ?_)
      · refine gn 16 ?_
        refine oX (e_fa runUnderlying134 rfl sizeOf71 rfl rfl) ?_
        refine gn 5 ?_
        refine oL (l_callcq (HI := []) (HJ := SH gs g n cap rest lo hi l) call193 (less_is (g3 := gs) (g := g) (l := l) (rest := rest) (lo := lo) (hi := hi) (n := n) (cap := cap) (i := mid + m - 1 - (i + j) / 2) (j := (i + j) / 2) (by simp) (by simp) hn (by omega) (by omega)) rfl rfl rfl rfl .nil (by simp)) ?_
        rintro ⟨r, H'⟩ rfl
        rw [ltAt_of]
        refine o_less (fun _ _ h => h) (List.sublist_append_right _ _) ?_
        refine gn 3 ?_
        refine c_if rfl (fun c3 => ?_) (fun c3 => ?_)
        · refine gn 6 ?_
          refine n_round (y := (i, j)) ((i + j) / 2 + 1, j) (by show j - ((i + j) / 2 + 1) < j - i; omega) ?_ aK (.refl _)
          refine ⟨by show s0 ≤ (i + j) / 2 + 1; omega, by show (i + j) / 2 + 1 ≤ j; omega, hjb, ?_⟩
          rw [← hbs, bsch_fuel _ (b - a) (b - a - 1) _ _ (by show j - ((i + j) / 2 + 1) ≤ b - a; omega) (by show j - ((i + j) / 2 + 1) ≤ b - a - 1; omega)]
          obtain ⟨q, hq⟩ : ∃ q, b - a = q + 1 := ⟨b - a - 1, by omega⟩
          rw [hq]
          simp only [bsch, Nat.add_sub_cancel]
          rw [if_pos (show i < j by omega), if_pos c3]
        · skip
          refine gn 5 ?_
          refine n_round (y := (i, j)) (i, (i + j) / 2) (by show (i + j) / 2 - i < j - i; omega) ?_ aK (.refl _)
          refine ⟨hmi, by show i ≤ (i + j) / 2; omega, by show (i + j) / 2 ≤ r0; omega, ?_⟩
          rw [← hbs, bsch_fuel _ (b - a) (b - a - 1) _ _ (by show (i + j) / 2 - i ≤ b - a; omega) (by show (i + j) / 2 - i ≤ b - a - 1; omega)]
          obtain ⟨q, hq⟩ : ∃ q, b - a = q + 1 := ⟨b - a - 1, by omega⟩
          rw [hq]
          simp only [bsch, Nat.add_sub_cancel]
          rw [if_pos (show i < j by omega), if_neg (by rw [c3]; simp)]
      · skip
        have hfin : bsch (fun c => !ltAt l (mid + m - 1 - c) c) (b - a) s0 r0 = i := by
          rw [← hbs]
          obtain ⟨q, hq⟩ : ∃ q, b - a = q + 1 := ⟨b - a - 1, by omega⟩
          rw [hq]
          simp only [bsch]
          rw [if_neg (by omega)]
        have hst : (if mid < m then bsch (fun c => !ltAt l (mid + m - 1 - c) c) (b - a) (mid + m - b) mid else bsch (fun c => !ltAt l (mid + m - 1 - c) c) (b - a) a m) = i := by
          rcases hs0 with ⟨h, rfl, rfl⟩ | ⟨h, rfl, rfl⟩
          · rw [if_pos h]; exact hfin
          · rw [if_neg h]; exact hfin
        refine gn 14 ?_
        refine c_cut (X := List En) (fun _ => [(1, .int .i64 a), (3, .int .i64 b), (4, .pointer (some ⟨g4, 0, none⟩)), (16, .int .i64 mid), (18, .int .i64 i), (22, .int .i64 (mid + m - i : Nat))]) (fun y => (g4, C [.func (.func 193) #[] #[.pointer (some ⟨gs, 0, none⟩)], .func (.func 121) #[] #[.slice (some ⟨g, 0, none⟩) n cap, .pointer (some ⟨26, 56, none⟩)]] 134) :: SH gs g n cap rest lo hi y) (fun y => y = if i < m ∧ m < mid + m - i then rotL m (mid + m - i - i) l (m - i) (mid + m - i - m) else l) ?_ ?_
        · skip
          refine gn 6 ?_
          refine o_splitp 141 rfl (fun f1 => ?_) (fun f1 => ?_)
          · refine gn 6 ?_
            refine c_ifp rfl (fun f2 => ?_) (fun f2 => ?_)
            · refine gn 5 ?_
              refine oL (lC (rotate_is (rest := rest) (l := l) (a := i) (m := m) (b := mid + m - i) hn hf h1 (by omega) (by omega) (by omega)) rfl (.cons (.tail .head) (.cons (.tail .head) .nil))) ?_
              rintro ⟨r, H'⟩ ⟨rfl, rfl⟩
              simp only [SH, List.cons_append, List.nil_append]
              refine gn 1 ?_
              exact n_cut (rotL m (mid + m - i - i) l (m - i) (mid + m - i - m)) (by rw [if_pos ⟨by omega, by omega⟩]) aK (List.perm_append_comm (l₁ := [_, _]))
            · skip
              refine gn 1 ?_
              exact n_cut l (by rw [if_neg (by omega)]) aK (.refl _)
          · skip
            refine gn 8 ?_
            exact n_cut l (by rw [if_neg (by omega)]) aK (.refl _)
        intro l1 hl1
        have hn1 : l1.length = n := by rw [hl1]; split <;> simp [rotL_length, hn]
        simp only [SH]
        refine gn 2 ?_
        refine c_cut (X := List En) (fun _ => [(1, .int .i64 a), (3, .int .i64 b), (4, .pointer (some ⟨g4, 0, none⟩)), (16, .int .i64 mid), (18, .int .i64 i), (22, .int .i64 (mid + m - i : Nat))]) (fun y => (g4, C [.func (.func 193) #[] #[.pointer (some ⟨gs, 0, none⟩)], .func (.func 121) #[] #[.slice (some ⟨g, 0, none⟩) n cap, .pointer (some ⟨26, 56, none⟩)]] 134) :: SH gs g n cap rest lo hi y) (fun y => y = if a < i ∧ i < mid then symM f l1 a i mid else l1) ?_ ?_
        · skip
          refine gn 6 ?_
          refine o_splitp 154 rfl (fun f1 => ?_) (fun f1 => ?_)
          · refine gn 6 ?_
            refine c_ifp rfl (fun f2 => ?_) (fun f2 => ?_)
            · refine gn 5 ?_
              refine oL (lC (ih (l := l1) (a := a) (m := i) (b := mid) hn1 (by omega) (by omega) (by omega) (by omega)) rfl (.cons (.tail .head) (.cons (.tail .head) .nil))) ?_
              rintro ⟨r, H'⟩ ⟨rfl, rfl⟩
              simp only [SH, List.cons_append, List.nil_append]
              refine gn 1 ?_
              exact n_cut (symM f l1 a i mid) (by rw [if_pos ⟨by omega, by omega⟩]) aK (List.perm_append_comm (l₁ := [_, _]))
            · skip
              refine gn 1 ?_
              exact n_cut l1 (by rw [if_neg (by omega)]) aK (.refl _)
          · skip
            refine gn 8 ?_
            exact n_cut l1 (by rw [if_neg (by omega)]) aK (.refl _)
        intro l2 hl2
        have hn2 : l2.length = n := by rw [hl2]; split <;> simp [symM_length, hn1]
        simp only [SH]
        have hall : symM (f + 1) l a m b = if mid < mid + m - i ∧ mid + m - i < b then symM f l2 mid (mid + m - i) b else l2 := by
          rw [hl2, hl1]
          simp only [symM, hmid]
          rw [if_neg c1, if_neg d1, hst]
        refine gn 7 ?_
        refine o_splitp 167 rfl (fun f1 => ?_) (fun f1 => ?_)
        · refine gn 6 ?_
          refine c_ifp rfl (fun f2 => ?_) (fun f2 => ?_)
          · refine gn 5 ?_
            refine oL (lC (ih (l := l2) (a := mid) (m := mid + m - i) (b := b) hn2 (by omega) (by omega) (by omega) (by omega)) rfl (.cons (.tail .head) (.cons (.tail .head) .nil))) ?_
            rintro ⟨r, H'⟩ ⟨rfl, rfl⟩
            simp only [SH, List.cons_append, List.nil_append]
            refine gn 1 ?_
            refine WN.sel (.cons .head (.cons .head .nil)) ?_
            refine n_fn0 results228 ?_
            exact ⟨rfl, by rw [hall, if_pos ⟨by omega, by omega⟩]⟩
          · skip
            refine gn 1 ?_
            refine WN.sel (.cons (.tail .head) (.cons (.tail .head) .nil)) ?_
            refine n_fn0 results228 ?_
            exact ⟨rfl, by rw [hall, if_neg (by omega)]⟩
        · skip
          refine gn 8 ?_
          refine WN.sel (.cons (.tail .head) (.cons (.tail .head) .nil)) ?_
          refine n_fn0 results228 ?_
          exact ⟨rfl, by rw [hall, if_neg (by omega)]⟩
end
end Go.Proofs
