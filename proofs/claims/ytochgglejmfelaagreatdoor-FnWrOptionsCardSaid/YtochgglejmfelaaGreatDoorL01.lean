/- The calculus, 3: memory and calls; The calculus, 4: regions that draw their order; The calculus, 5: comparisons, strings, slices, structs, maps. (A part of the proof of this: for every input laws.FnWrOptions returns true and its arguments read as they did, the listed package variables being what the program lays) -/
import Derived.Test.YtochgglejmfelaaGreatDoorL00
import Derived.OrdersHeld
import Derived.Deep.AppendSrc
import Derived.LoopN
set_option linter.unusedVariables false
set_option linter.unusedSimpArgs false
namespace Go.Sl
open Go

abbrev S (l : List UInt8) : Value := Value.string ⟨l.toArray⟩
abbrev C (l : List Value) (e : TypeId) : Obj := Obj.cells l.toArray e (0, 0)

/-! ### Lists, told step by step -/
/-- H', which is H but for one block's object. -/
inductive UpB : HP → Nat → Obj → Obj → HP → Prop where
  | head {g : Nat} {o o' : Obj} {H : HP} : UpB ((g, o) :: H) g o o' ((g, o') :: H)
  | tail {p : Nat × Obj} {g : Nat} {o o' : Obj} {H H' : HP} : UpB H g o o' H' → UpB (p :: H) g o o' (p :: H')
inductive Rem : HP → Nat × Obj → HP → Prop where
  | head {p : Nat × Obj} {H : HP} : Rem (p :: H) p H
  | tail {p q : Nat × Obj} {H H' : HP} : Rem H p H' → Rem (q :: H) p (q :: H')
inductive Sel : HP → HP → HP → Prop where
  | nil {H : HP} : Sel H [] H
  | cons {p : Nat × Obj} {H H1 HI Hr : HP} : Rem H p H1 → Sel H1 HI Hr → Sel H (p :: HI) Hr
inductive SetAt : List Value → Nat → Value → List Value → Prop where
  | head {a v : Value} {l : List Value} : SetAt (a :: l) 0 v (v :: l)
  | tail {a v : Value} {i : Nat} {l l' : List Value} : SetAt l i v l' → SetAt (a :: l) (i + 1) v (a :: l')
inductive CutL : List Value → Nat → Nat → List Value → Prop where
  | skip {a : Value} {i n : Nat} {l vs : List Value} : CutL l i n vs → CutL (a :: l) (i + 1) n vs
  | take {a : Value} {n : Nat} {l vs : List Value} : CutL l 0 n vs → CutL (a :: l) 0 (n + 1) (a :: vs)
  | done {l : List Value} : CutL l 0 0 []
inductive PutL : List Value → Nat → List Value → List Value → Prop where
  | skip {a : Value} {i : Nat} {l vs l' : List Value} : PutL l i vs l' → PutL (a :: l) (i + 1) vs (a :: l')
  | take {a v : Value} {l vs l' : List Value} : PutL l 0 vs l' → PutL (a :: l) 0 (v :: vs) (v :: l')
  | done {l : List Value} : PutL l 0 [] l

theorem UpB.mem {H H' : HP} {g : Nat} {o o' : Obj} (h : UpB H g o o' H') : (g, o) ∈ H := by
  induction h with
  | head => exact .head _
  | tail _ ih => exact .tail _ ih
theorem UpB.keys {H H' : HP} {g : Nat} {o o' : Obj} (h : UpB H g o o' H') : keys H' = keys H := by
  induction h with
  | head => rfl
  | tail _ ih => simp only [Sl.keys, List.map_cons] at ih ⊢; rw [ih]
theorem UpB.has {H H' : HP} {g : Nat} {o o' : Obj} {w w' : World} (h : UpB H g o o' H') (hH : Has w H) (hn : (Sl.keys H).Nodup) (hg : w'.heap[g]? = some o') (ho : ∀ j, j ≠ g → w'.heap[j]? = w.heap[j]?) : Has w' H' := by
  induction h with
  | @head g o o' H =>
    intro p hp
    rcases List.mem_cons.1 hp with rfl | hp
    · exact hg
    · have hne : p.1 ≠ g := fun e => by
        have := List.nodup_cons.1 hn
        exact this.1 (List.mem_map.2 ⟨p, hp, e⟩)
      rw [ho _ hne]
      exact hH p (.tail _ hp)
  | @tail q g o o' H H' h ih =>
    have hn' := List.nodup_cons.1 hn
    intro p hp
    rcases List.mem_cons.1 hp with rfl | hp
    · have hne : p.1 ≠ g := fun e => hn'.1 (List.mem_map.2 ⟨_, h.mem, e.symm⟩)
      rw [ho _ hne]
      exact hH p (.head _)
    · exact ih (fun p hp => hH p (.tail _ hp)) hn'.2 hg ho p hp
theorem Rem.perm {H H' : HP} {p : Nat × Obj} (h : Rem H p H') : H.Perm (p :: H') := by
  induction h with
  | head => exact .refl _
  | tail _ ih => exact (ih.cons _).trans (.swap ..)
theorem Sel.perm {H HI Hr : HP} (h : Sel H HI Hr) : H.Perm (HI ++ Hr) := by
  induction h with
  | nil => exact .refl _
  | cons h1 _ ih => exact h1.perm.trans (ih.cons _)
theorem SetAt.lt {l l' : List Value} {i : Nat} {v : Value} (h : SetAt l i v l') : i < l.length := by
  induction h with
  | head => simp
  | tail _ ih => simp; exact ih
theorem SetAt.eq {l l' : List Value} {i : Nat} {v : Value} (h : SetAt l i v l') : l' = l.set i v := by
  induction h with
  | head => rfl
  | tail _ ih => rw [ih]; rfl
theorem SetAt.of {l : List Value} {i : Nat} (v : Value) (h : i < l.length) : SetAt l i v (l.set i v) := by
  induction l generalizing i with
  | nil => cases h
  | cons a l ih =>
    cases i with
    | zero => exact .head
    | succ i => exact .tail (ih (by simpa using h))
theorem CutL.le {l vs : List Value} {i n : Nat} (h : CutL l i n vs) : i + n ≤ l.length := by
  induction h with
  | skip _ ih => simp; omega
  | take _ ih => simp; omega
  | done => simp
theorem CutL.eq {l vs : List Value} {i n : Nat} (h : CutL l i n vs) : vs = (l.drop i).take n := by
  induction h with
  | skip _ ih => rw [ih]; rfl
  | take _ ih => rw [ih]; simp
  | done => simp
theorem CutL.of {l : List Value} {i n : Nat} (h : i + n ≤ l.length) : CutL l i n ((l.drop i).take n) := by
  induction l generalizing i n with
  | nil =>
    obtain ⟨rfl, rfl⟩ : i = 0 ∧ n = 0 := by simpa using h
    exact .done
  | cons a l ih =>
    cases i with
    | succ i => exact .skip (ih (by simp at h; omega))
    | zero =>
      cases n with
      | zero => exact .done
      | succ n => have := ih (i := 0) (n := n) (by simp at h ⊢; omega); exact .take (by simpa using this)
theorem PutL.le {l vs l' : List Value} {i : Nat} (h : PutL l i vs l') : i + vs.length ≤ l.length := by
  induction h with
  | skip _ ih => simp; omega
  | take _ ih => simp; omega
  | done => simp
theorem PutL.eq {l vs l' : List Value} {i : Nat} (h : PutL l i vs l') : l' = l.take i ++ vs ++ l.drop (i + vs.length) := by
  induction h with
  | skip _ ih => rw [ih]; simp [Nat.add_right_comm]
  | take _ ih => rw [ih]; simp
  | done => simp
theorem PutL.of {l vs : List Value} {i : Nat} (h : i + vs.length ≤ l.length) : PutL l i vs (l.take i ++ vs ++ l.drop (i + vs.length)) := by
  induction l generalizing i vs with
  | nil =>
    obtain ⟨rfl, hv⟩ : i = 0 ∧ vs = [] := by simpa using h
    subst hv; exact .done
  | cons a l ih =>
    cases i with
    | succ i =>
      have := ih (i := i) (vs := vs) (by simp at h; omega)
      have e : i + 1 + vs.length = (i + vs.length) + 1 := by omega
      rw [e]; exact .skip this
    | zero =>
      cases vs with
      | nil => simpa using PutL.done
      | cons v vs => have := ih (i := 0) (vs := vs) (by simp at h ⊢; omega); exact .take (by simpa using this)

/-! ### Cells -/
theorem cell_of {w : World} {g off : Nat} {l : List Value} {e : TypeId} {fr : Nat × Nat} (h : w.heap[g]? = some (.cells l.toArray e fr)) : w.cell? ⟨g, off, none⟩ = l[off]? := by
  simp [World.cell?, h]
theorem frozen_of {w : World} {g off : Nat} {l : List Value} {e : TypeId} {lo hi : Nat} (h : w.heap[g]? = some (.cells l.toArray e (lo, hi))) (hf : ¬ (lo ≤ off ∧ off < hi)) : w.frozen? ⟨g, off, none⟩ = false := by
  simp only [World.frozen?, h]
  simpa using hf
theorem add_addr (g o n : Nat) : (⟨g, o, none⟩ : Addr).add n = ⟨g, o + n, none⟩ := by
  unfold Addr.add; split
  · rename_i h; subst h; rfl
  · rfl
theorem heap_set_same {w : World} {g off : Nat} {l : List Value} {e : TypeId} {fr : Nat × Nat} (v : Value) (h : w.heap[g]? = some (.cells l.toArray e fr)) : (w.setCell ⟨g, off, none⟩ v).heap[g]? = some (.cells (l.set off v).toArray e fr) := by
  simp [World.setCell, Array.getElem?_modify, h]
theorem heap_set_other {w : World} {g off j : Nat} (v : Value) (h : j ≠ g) : (w.setCell ⟨g, off, none⟩ v).heap[j]? = w.heap[j]? := by
  simp only [World.setCell, Array.getElem?_modify]
  rw [if_neg (Ne.symm h)]

theorem run_load_of {P : Program} {w : World} {g off : Nat} {l : List Value} {e : TypeId} {fr : Nat × Nat} {v : Value} (h : w.heap[g]? = some (.cells l.toArray e fr)) (hv : l[off]? = some v) (m : Mode) :
    (load ⟨g, off, none⟩ m).run P w = .ok v w := by
  rw [run_load, cell_of h, hv]
theorem run_store_of {P : Program} {w : World} {g off : Nat} {l : List Value} {e : TypeId} {lo hi : Nat} {v : Value} (h : w.heap[g]? = some (.cells l.toArray e (lo, hi))) (hv : off < l.length) (h1 : v.oneCell' = true) (hf : ¬ (lo ≤ off ∧ off < hi)) (m : Mode) :
    (store ⟨g, off, none⟩ v m).run P w = .ok () (w.setCell ⟨g, off, none⟩ v) := by
  rw [run_store _ _ _ _ _ h1, cell_of h, List.getElem?_eq_getElem hv, frozen_of h hf]
  rfl
theorem run_loadCellsFrom {P : Program} {w : World} {g off : Nat} {l : List Value} {e : TypeId} {fr : Nat × Nat} (h : w.heap[g]? = some (.cells l.toArray e fr)) : ∀ (n i : Nat) (acc : Array Value), off + i + n ≤ l.length →
    (loadCellsFrom ⟨g, off, none⟩ i n acc).run P w = .ok (acc ++ ((l.drop (off + i)).take n).toArray) w := by
  intro n
  induction n with
  | zero => intro i acc _; simp [loadCellsFrom]
  | succ n ih =>
    intro i acc hl
    have hlt : off + i < l.length := by omega
    simp only [loadCellsFrom, Sem.run_bind, add_addr, run_load_of h (List.getElem?_eq_getElem hlt), Result.andThen_ok]
    rw [ih (i + 1) _ (by omega)]
    congr 1
    rw [List.drop_eq_getElem_cons hlt]
    simp [Nat.add_assoc]
theorem run_loadCells {P : Program} {w : World} {g off n : Nat} {l vs : List Value} {e : TypeId} {fr : Nat × Nat} (h : w.heap[g]? = some (.cells l.toArray e fr)) (hc : CutL l off n vs) :
    (loadCells ⟨g, off, none⟩ n).run P w = .ok vs.toArray w := by
  unfold loadCells
  rw [run_loadCellsFrom h n 0 _ (by have := hc.le; omega), hc.eq]
  simp
theorem run_storeCells {P : Program} {g off : Nat} {e : TypeId} {lo hi : Nat} : ∀ (vs : List Value) (w : World) (i : Nat) (l : List Value), w.heap[g]? = some (.cells l.toArray e (lo, hi)) → off + i + vs.length ≤ l.length →
    (∀ v ∈ vs, v.oneCell' = true) → (∀ j, off + i ≤ j → j < off + i + vs.length → ¬ (lo ≤ j ∧ j < hi)) →
    ∃ w', (storeCells ⟨g, off, none⟩ vs i).run P w = .ok () w' ∧ w'.heap[g]? = some (.cells (l.take (off + i) ++ vs ++ l.drop (off + i + vs.length)).toArray e (lo, hi)) ∧ (∀ j, j ≠ g → w'.heap[j]? = w.heap[j]?) ∧
      w'.os = w.os ∧ w'.tape = w.tape ∧ w'.output = w.output ∧ w'.heap.size = w.heap.size := by
  intro vs
  induction vs with
  | nil => intro w i l h hl _ _; exact ⟨w, by simp [storeCells], by simpa using h, fun _ _ => rfl, rfl, rfl, rfl, rfl⟩
  | cons v vs ih =>
    intro w i l h hl h1 hf
    simp only [List.length_cons] at hl hf
    have hst := run_store_of (P := P) (m := .plain) (v := v) (off := off + i) h (by omega) (h1 v (.head _)) (hf _ (Nat.le_refl _) (by omega))
    obtain ⟨w', e1, e2, e3, e4, e5, e6, e7⟩ := ih (w.setCell ⟨g, off + i, none⟩ v) (i + 1) (l.set (off + i) v) (heap_set_same v h) (by simp; omega) (fun u hu => h1 u (.tail _ hu)) (fun j hj1 hj2 => hf j (by omega) (by omega))
    refine ⟨w', ?_, ?_, fun j hj => (e3 j hj).trans (heap_set_other v hj), e4, e5, e6, by rw [e7]; simp⟩
    · simp only [storeCells, Sem.run_bind, add_addr, hst, Result.andThen_ok, e1]
    · rw [e2]
      congr 3
      have hlt : off + i < l.length := by omega
      rw [show off + (i + 1) = (off + i) + 1 by omega, List.take_set, List.drop_set_of_lt (by omega)]
      rw [List.take_succ_eq_append_getElem hlt, List.set_append_right _ _ (by simp; omega)]
      simp [Nat.min_eq_left (Nat.le_of_lt hlt)]
      omega

theorem St.mem {x : Cx} {s : Slots} {H : HP} {a : Act} {w : World} {p : Nat × Obj} (h : St x s H a w) (hm : p ∈ H ∨ p ∈ x.G) : w.heap[p.1]? = some p.2 := by
  rcases hm with hm | hm
  · exact h.heap p hm
  · exact h.glob p hm

/-- One block has turned. -/
theorem St.up {x : Cx} {s : Slots} {H H' : HP} {a : Act} {w w' : World} {g : Nat} {o o' : Obj} (h : St x s H a w) (hu : UpB H g o o' H') (hg : w'.heap[g]? = some o') (ho : ∀ j, j ≠ g → w'.heap[j]? = w.heap[j]?)
    (h1 : w'.os = w.os) (h2 : w'.tape = w.tape) (h3 : w'.output = w.output) (h4 : w'.heap.size = w.heap.size) : St x s H' a w' :=
  h.world (hu.has h.heap h.nodup hg ho) (by rw [hu.keys]; exact h.nodup) (fun j hj => .inl (by rwa [hu.keys] at hj))
    ⟨h1, h2, h3, by omega, fun j hj hn => ho j (fun e => hn (e ▸ List.mem_map_of_mem hu.mem))⟩
theorem alloc_old (w : World) (o : Obj) (j : Nat) (h : j < w.heap.size) : (w.alloc o).heap[j]? = w.heap[j]? := by
  show (w.heap.push o)[j]? = _
  rw [Array.getElem?_push, if_neg (by omega)]
theorem alloc_new (w : World) (o : Obj) : (w.alloc o).heap[w.heap.size]? = some o := by
  show (w.heap.push o)[w.heap.size]? = _
  simp
/-- A block more. -/
theorem St.new {x : Cx} {s : Slots} {H : HP} {a : Act} {w : World} (h : St x s H a w) (o : Obj) : St x s ((w.heap.size, o) :: H) a (w.alloc o) :=
  h.world (fun p hp => by
      rcases List.mem_cons.1 hp with rfl | hp
      · exact alloc_new w o
      · rw [alloc_old _ _ _ (h.heap.lt (List.mem_map_of_mem hp))]; exact h.heap p hp)
    (List.nodup_cons.2 ⟨fun hk => Nat.lt_irrefl _ (h.heap.lt (g := w.heap.size) hk), h.nodup⟩)
    (fun j hj => by
      rcases List.mem_cons.1 hj with rfl | hj
      · exact .inr (Nat.le_refl _)
      · exact .inl hj)
    ⟨rfl, rfl, rfl, by simp, fun j hj _ => alloc_old _ _ _ hj⟩
theorem St.drew {x : Cx} {s : Slots} {H : HP} {a : Act} {w : World} (h : St x s H a w) : St x s H a w.drew :=
  h.world h.heap h.nodup (fun _ hj => .inl hj) ⟨rfl, rfl, rfl, Nat.le_refl _, fun _ _ _ => rfl⟩

section
variable {x : Cx} {ops : Array Oper} {k : List KI} {rest : List Oper} {s : Slots} {H H' : HP}
variable {d : Nat} {p q c : Operand} {ty t t' : TypeId} {pos : String} {af : Array Edge} {gd : Option (Nat × Bool)} {v u : Value} {g off n m : Nat} {l l' vs : List Value} {e : TypeId} {fr : Nat × Nat} {lo hi : Nat}

/-! ### Loads and stores -/
theorem e_load (hA : ∀ w, (isAgg t).run x.P w = .ok false w) (hp : ev s p = some (.pointer (some ⟨g, off, none⟩)))
    (hm : (g, .cells l.toArray e fr) ∈ H ∨ (g, Obj.cells l.toArray e fr) ∈ x.G) (hv : l[off]? = some v) : Ex x s H ⟨some d, .load t p, ty, pos, af, gd⟩ (v) := fun a w hs => by
      simp only [execOp, hs.eval hp, Instr.loadAt, Instr.sureAddr, loadVar, Sem.run_bind, Sem.run_pure, Result.andThen_ok, hA, Bool.false_eq_true, if_false, run_load_of (hs.mem hm) hv]

theorem e_loada (hA : ∀ w, (isAgg t).run x.P w = .ok true w) (hS : ∀ w, (sizeOf t).run x.P w = .ok n w) (hp : ev s p = some (.pointer (some ⟨g, off, none⟩)))
    (hm : (g, .cells l.toArray e fr) ∈ H ∨ (g, Obj.cells l.toArray e fr) ∈ x.G) (hv : CutL l off n vs) : Ex x s H ⟨some d, .load t p, ty, pos, af, gd⟩ (.agg vs.toArray) := fun a w hs => by
      simp only [execOp, hs.eval hp, Instr.loadAt, Instr.sureAddr, loadVar, Sem.run_bind, Sem.run_pure, Result.andThen_ok, hA, hS, if_true, run_loadCells (hs.mem hm) hv]

theorem l_store (hS : ∀ w, (sizeOf t).run x.P w = .ok 1 w) (hp : ev s p = some (.pointer (some ⟨g, off, none⟩))) (hq : ev s q = some v) (h1 : v.oneCell' = true)
    (hu : UpB H g (.cells l.toArray e (lo, hi)) (.cells l'.toArray e (lo, hi)) H') (hs' : SetAt l off v l') (hf : ¬ (lo ≤ off ∧ off < hi)) : Lo x s H ⟨none, .store t p q, ty, pos, af, gd⟩ (Y := Unit) (fun _ => s) (fun _ => H') (fun _ => True) :=
  l_genu (Y := Unit) (fun _ => H') (fun _ => True) rfl (fun a w hs => by
    have hh := hs.heap _ hu.mem
    have hc : v.cells = #[v] := by cases v <;> first | rfl | simp [Value.oneCell'] at h1
    refine ⟨_, (), ?_, trivial, hs.up hu (w' := w.setCell ⟨g, off, none⟩ v) (by rw [hs'.eq]; exact heap_set_same v hh) (fun j hj => heap_set_other v hj) rfl rfl rfl (by simp)⟩
    have := run_store_of (P := x.P) hh hs'.lt h1 hf .plain
    simp [execOp, hs.eval hp, hs.eval hq, Instr.storeAt, Instr.sureAddr, storeVar, hS, hc, storeCells, this, add_addr])
theorem l_storea {vs : List Value} (hS : ∀ w, (sizeOf t).run x.P w = .ok n w) (hp : ev s p = some (.pointer (some ⟨g, off, none⟩))) (hq : ev s q = some (.agg vs.toArray)) (hn : vs.length = n) (h1 : ∀ v ∈ vs, v.oneCell' = true)
    (hu : UpB H g (.cells l.toArray e (lo, hi)) (.cells l'.toArray e (lo, hi)) H') (hs' : PutL l off vs l') (hf : ∀ j, off ≤ j → j < off + n → ¬ (lo ≤ j ∧ j < hi)) : Lo x s H ⟨none, .store t p q, ty, pos, af, gd⟩ (Y := Unit) (fun _ => s) (fun _ => H') (fun _ => True) :=
  l_genu (Y := Unit) (fun _ => H') (fun _ => True) rfl (fun a w hs => by
    subst hn
    have hh := hs.heap _ hu.mem
    obtain ⟨w', e1, e2, e3, e4, e5, e6, e7⟩ := run_storeCells (P := x.P) vs w 0 l (off := off) hh (by have := hs'.le; omega) h1 (by simpa using hf)
    refine ⟨w', (), ?_, trivial, hs.up hu (by rw [hs'.eq]; simpa using e2) e3 e4 e5 e6 e7⟩
    simp [execOp, hs.eval hp, hs.eval hq, Instr.storeAt, Instr.sureAddr, storeVar, hS, Value.cells, e1])

/-! ### Addresses -/
theorem e_fa {fs : Array Field} {f : Field} {i sz : Nat} (hU : ∀ w, (underlying t).run x.P w = .ok (.struct fs) w) (hf : fs[i]? = some f) (hS : ∀ w, (sizeOf f.type).run x.P w = .ok sz w) (hsz : Nat.beq sz 0 = false)
    (hp : ev s p = some (.pointer (some ⟨g, off, none⟩))) : Ex x s H ⟨some d, .fieldAddr t p i, ty, pos, af, gd⟩ (.pointer (some ⟨g, off + f.offset, none⟩)) := fun a w hs => by
      have h0 : sz ≠ 0 := by intro e; subst e; cases hsz
      simp only [execOp, hs.eval hp, Instr.fieldAt, Sem.run_bind, hU, Result.andThen_ok, hf, Instr.sureAddr, Sem.run_pure, fieldPlace, hS, if_neg h0, add_addr]

theorem e_ia {sz : Nat} {kd : IntKind} {i : Int} {cap : Nat} (hU : ∀ w, (underlying t).run x.P w = .ok (.slice e) w) (hS : ∀ w, (sizeOf e).run x.P w = .ok sz w)
    (hp : ev s p = some (.slice (some ⟨g, off, none⟩) n cap)) (hq : ev s q = some (.int kd i)) (h0 : 0 ≤ i) (h1 : i < n) : Ex x s H ⟨some d, .indexAddr t p q, ty, pos, af, gd⟩ (.pointer (some ⟨g, off + i.toNat * sz, none⟩)) := fun a w hs => by
      simp [execOp, hs.eval hp, hs.eval hq, Instr.indexAt, asIntOf, hU, hS, h0, h1, add_addr]

theorem e_iaa {sz : Nat} {kd : IntKind} {i : Int} (hU : ∀ w, (underlying t).run x.P w = .ok (.array n e) w) (hS : ∀ w, (sizeOf e).run x.P w = .ok sz w)
    (hp : ev s p = some (.pointer (some ⟨g, off, none⟩))) (hq : ev s q = some (.int kd i)) (h0 : 0 ≤ i) (h1 : i < n) : Ex x s H ⟨some d, .indexAddr t p q, ty, pos, af, gd⟩ (.pointer (some ⟨g, off + i.toNat * sz, none⟩)) := fun a w hs => by
      simp [execOp, hs.eval hp, hs.eval hq, Instr.indexAt, Instr.sureAddr, asIntOf, hU, hS, h0, h1, add_addr]

theorem e_nilCheck {A : Addr} (hp : ev s p = some (.pointer (some A))) : Ex x s H ⟨some d, .nilCheck p, ty, pos, af, gd⟩ (.pointer (some A)) := fun a w hs => by simp [execOp, hs.eval hp]

/-! ### New blocks -/
theorem l_new {o : Oper} {ob : Obj} (V : Nat → Value) (hd : o.dst = some d) (hN : Nat.blt d x.N = true)
    (hrun : ∀ a w, St x s H a w → (execOp a.eval o).run x.P w = .ok (.value (V w.heap.size)) (w.alloc ob)) : Lo x s H o (Y := Nat) (fun g => (d, V g) :: s) (fun g => (g, ob) :: H) (fun _ => True) :=
  l_gen (Y := Nat) V (fun g => (g, ob) :: H) (fun _ => True) hd hN (fun a w hs => ⟨_, _, hrun a w hs, trivial, hs.new ob⟩)
theorem l_box (hN : Nat.blt d x.N = true) (hp : ev s p = some v) (hc : v.cells = l.toArray) :
    Lo x s H ⟨some d, .box e p, ty, pos, af, gd⟩ (Y := Nat) (fun g => (d, .pointer (some ⟨g, 0, none⟩)) :: s) (fun g => (g, C l e) :: H) (fun _ => True) :=
  l_new (fun g => .pointer (some ⟨g, 0, none⟩)) rfl hN (fun a w hs => by simp [execOp, hs.eval hp, Instr.box, newVar, newRow, hc])
theorem l_alloc {z : Value} (hz : ∀ w, (zeroValue e).run x.P w = .ok z w) (hN : Nat.blt d x.N = true) (hc : z.cells = l.toArray) :
    Lo x s H ⟨some d, .alloc e, ty, pos, af, gd⟩ (Y := Nat) (fun g => (d, .pointer (some ⟨g, 0, none⟩)) :: s) (fun g => (g, C l e) :: H) (fun _ => True) :=
  l_new (fun g => .pointer (some ⟨g, 0, none⟩)) rfl hN (fun a w hs => by simp [execOp, Instr.alloc, hz, newVar, newRow, hc])
/-- A slice literal of one element of one cell (what append makes of its last argument). -/
theorem l_bs1 {z : Value} (hU : ∀ w, (underlying t).run x.P w = .ok (.slice e) w) (hS : ∀ w, (sizeOf e).run x.P w = .ok 1 w) (hz : ∀ w, (zeroValue e).run x.P w = .ok z w) (hN : Nat.blt d x.N = true) (hp : ev s p = some v) (h1 : v.oneCell' = true) :
    Lo x s H ⟨some d, .buildSlice t 1 #[(0, p)], ty, pos, af, gd⟩ (Y := Nat) (fun g => (d, .slice (some ⟨g, 0, none⟩) 1 1) :: s) (fun g => (g, C [v] e) :: H) (fun _ => True) :=
  l_new (fun g => .slice (some ⟨g, 0, none⟩) 1 1) rfl hN (fun a w hs => by
    have hc : v.cells = #[v] := by cases v <;> first | rfl | simp [Value.oneCell'] at h1
    simp [execOp, hs.eval hp, Instr.buildSlice, hU, hS, hz, Instr.fill, hc, newRow, Array.range]; rfl)
theorem e_mkif {ds : TypeDesc} (hU : ∀ w, (underlying t).run x.P w = .ok ds w) (hn : (match ds with | .interface _ => true | _ => false) = false) (hp : ev s p = some v) : Ex x s H ⟨some d, .makeInterface t p, ty, pos, af, gd⟩ (.iface t v) := fun a w hs => by
      simp only [execOp, hs.eval hp, Instr.makeInterface, Sem.run_bind, hU, Result.andThen_ok]
      cases ds <;> first | rfl | cases hn

/-! ### Conversions of numbers -/
theorem e_conv {ds : TypeDesc} {kd kd' : IntKind} {z : Int} (hU : ∀ w, (underlying t).run x.P w = .ok ds w) (hU' : ∀ w, (underlying t').run x.P w = .ok (.int kd') w) (hp : ev s p = some (.int kd z)) : Ex x s H ⟨some d, .convert t t' p, ty, pos, af, gd⟩ (.int kd' (kd'.wrap z)) := fun a w hs => by
      simp only [execOp, hs.eval hp, convert, Sem.run_bind, hU, hU', Result.andThen_ok]
      cases ds <;> rfl

theorem e_convn {ds : TypeDesc} {kd kd' : IntKind} {z : Int} (hU : ∀ w, (underlying t).run x.P w = .ok ds w) (hU' : ∀ w, (underlying t').run x.P w = .ok (.int kd') w) (hp : ev s p = some (.int kd z)) (hr : inR kd' z) : Ex x s H ⟨some d, .convert t t' p, ty, pos, af, gd⟩ (.int kd' z) := by have hh := e_conv (x := x) (s := s) (H := H) (pos := pos) (af := af) (gd := gd) (d := d) (ty := ty) (t := t)  hU hU' hp; rw [wrap_inR hr] at hh; exact hh

/-! ### len -/
theorem size_S (l : List UInt8) : (⟨l.toArray⟩ : ByteArray).size = l.length := by
  show l.toArray.size = _
  simp
theorem e_len {o : Oper} {z : Value} (ho : o.op = .call { callee := .builtin .len, args := #[p], argTypes := #[t] }) (hp : ev s p = some v)
    (hz : ∀ w, (Builtin.len_ #[t] o.type #[v]).run x.P w = .ok z w) : Ex x s H o z := fun a w hs => by
      simp [execOp, ho, resolve, invoke, builtin, hs.eval hp, hz]

theorem e_lens {bs : List UInt8} (hU : ∀ w, (underlying t).run x.P w = .ok .string w) (hp : ev s p = some (S bs)) : Ex x s H ⟨some d, .call { callee := .builtin .len, args := #[p], argTypes := #[t] }, ty, pos, af, gd⟩ (.int .i64 bs.length) := e_len rfl hp (fun w => by simp [Builtin.len_, hU, goInt, size_S])

theorem e_lenl {A : Option Addr} {cap : Nat} (hU : ∀ w, (underlying t).run x.P w = .ok (.slice e) w) (hp : ev s p = some (.slice A n cap)) : Ex x s H ⟨some d, .call { callee := .builtin .len, args := #[p], argTypes := #[t] }, ty, pos, af, gd⟩ (.int .i64 n) := e_len rfl hp (fun w => by simp [Builtin.len_, hU, goInt])

/-! ### Strings -/
theorem e_sidx {bs : List UInt8} {kd : IntKind} {i : Int} {b : UInt8} (hU : ∀ w, (underlying t).run x.P w = .ok .string w) (hp : ev s p = some (S bs)) (hq : ev s q = some (.int kd i)) (h0 : 0 ≤ i) (hb : bs[i.toNat]? = some b) : Ex x s H ⟨some d, .index t p q, ty, pos, af, gd⟩ (.int .u8 b.toNat) := fun a w hs => by
      have hlt : i.toNat < bs.length := (List.getElem?_eq_some_iff.1 hb).1
      have e1 : (⟨bs.toArray⟩ : ByteArray)[i.toNat]? = some b := by
        have h2 : i.toNat < (⟨bs.toArray⟩ : ByteArray).size := by rw [size_S]; exact hlt
        rw [getElem?_pos (⟨bs.toArray⟩ : ByteArray) i.toNat h2]
        have := (List.getElem?_eq_some_iff.1 hb).2
        exact congrArg some this
      simp [execOp, hs.eval hp, hs.eval hq, Instr.index, asIntOf, hU, h0, e1]

/-! ### Calls -/
def evs (s : Slots) : List Operand → Option (List Value)
  | [] => some []
  | p :: l => (ev s p).bind fun v => (evs s l).map (v :: ·)
theorem evs_map {x : Cx} {s : Slots} {H : HP} {a : Act} {w : World} (hs : St x s H a w) : ∀ {l : List Operand} {vs : List Value}, evs s l = some vs → l.map a.eval = vs := by
  intro l
  induction l with
  | nil => intro vs h; simp [evs] at h; subst h; rfl
  | cons p l ih =>
    intro vs h
    simp only [evs, Option.bind_eq_some_iff, Option.map_eq_some_iff] at h
    obtain ⟨v, hv, vs', hvs, rfl⟩ := h
    simp [hs.eval hv, ih hvs]

theorem keys_append (H K : HP) : keys (H ++ K) = keys H ++ keys K := by simp [keys]

/-- A call, by the callee's contract: HI what it may write, HJ what it reads beside G. -/
theorem l_calls {o : Oper} {f : FuncId} {args : List Value} {HI HJ Hr : HP} {R : Value → HP → Prop} (hc : Ctr x.P f args (x.G ++ HJ) HI R) (hd : o.dst = some d) (hN : Nat.blt d x.N = true)
    (hrun : ∀ a w, St x s H a w → (execOp a.eval o).run x.P w = .ok (.enter f args.toArray) w) (hsel : Sel H HI Hr) (hj : ∀ p ∈ HJ, p ∈ Hr) :
    Lo x s H o (Y := Value × HP) (fun y => (d, y.1) :: s) (fun y => y.2 ++ Hr) (fun y => R y.1 y.2) := fun a w hs K Q hK => by
  unfold Oper.wp
  rw [hrun a w hs, Oper.upon_enter]
  have hst := hs.perm hsel.perm
  have hnd := hst.nodup
  rw [keys_append, List.nodup_append] at hnd
  have hG : Has w (x.G ++ HJ) := fun p hp => by
    rcases List.mem_append.1 hp with hp | hp
    · exact hst.glob p hp
    · exact hst.heap p (List.mem_append_right _ (hj p hp))
  have hI : Has w HI := fun p hp => hst.heap p (List.mem_append_left _ hp)
  have hap : ∀ g ∈ keys HI, g ∉ keys (x.G ++ HJ) := fun g hg hk => by
    rw [keys_append, List.mem_append] at hk
    rcases hk with hk | hk
    · exact hst.apart g (by rw [keys_append]; exact List.mem_append_left _ hg) hk
    · obtain ⟨p, hp, rfl⟩ := List.mem_map.1 hk
      exact hnd.2.2 _ hg _ (List.mem_map_of_mem (hj p hp)) rfl
  refine (hc w hG hI hnd.1 hap).mono ?_
  rintro e w' ⟨v, H', rfl, hR, h1, h2, h3, h4⟩
  simp only []
  have hst' : St x s (H' ++ Hr) a w' := hst.world (fun p hp => by
      rcases List.mem_append.1 hp with hp | hp
      · exact h1 p hp
      · have hk : p.1 ∈ keys Hr := List.mem_map_of_mem hp
        rw [h3.keep _ (hst.heap.lt (by rw [keys_append]; exact List.mem_append_right _ hk)) (fun hm => hnd.2.2 _ hm _ hk rfl)]
        exact hst.heap p (List.mem_append_right _ hp))
    (by
      rw [keys_append, List.nodup_append]
      refine ⟨h2, hnd.2.1, fun g hg j hj' e => ?_⟩
      subst e
      rcases h4 g hg with hk | hk
      · exact hnd.2.2 _ hk _ hj' rfl
      · have := hst.heap.lt (by rw [keys_append]; exact List.mem_append_right _ hj' : g ∈ keys (HI ++ Hr)); omega)
    (fun g hg => by
      rw [keys_append, List.mem_append] at hg
      rcases hg with hg | hg
      · rcases h4 g hg with hk | hk
        · exact .inl (by rw [keys_append]; exact List.mem_append_left _ hk)
        · exact .inr hk
      · exact .inl (by rw [keys_append]; exact List.mem_append_right _ hg))
    (h3.mono (fun g hg => by rw [keys_append]; exact List.mem_append_left _ hg))
  rw [hd]
  exact hK (v, H') _ _ hR (hst'.put _ (by simpa [Nat.blt_eq] using hN))

theorem l_call {f : FuncId} {args : List Value} {HI Hr : HP} {R : Value → HP → Prop} {ps : List Operand} {ats : Array TypeId} (hf : ∀ az w, (callFunc f az).run x.P w = .ok (.enter f az) w) (hc : Ctr x.P f args x.G HI R)
    (hN : Nat.blt d x.N = true) (hps : evs s ps = some args) (hsel : Sel H HI Hr) :
    Lo x s H ⟨some d, .call { callee := .value (.func f), args := ps.toArray, argTypes := ats }, ty, pos, af, gd⟩ (Y := Value × HP) (fun y => (d, y.1) :: s) (fun y => y.2 ++ Hr) (fun y => R y.1 y.2) :=
  l_calls (HJ := []) (by simpa using hc) rfl hN (fun a w hs => by
    have := evs_map hs hps
    simp [execOp, resolve, Act.eval, Deferred.ofValue, invoke, this, hf]) hsel (by simp)
theorem l_callj {f : FuncId} {args : List Value} {HI HJ Hr : HP} {R : Value → HP → Prop} {ps : List Operand} {ats : Array TypeId} (hf : ∀ az w, (callFunc f az).run x.P w = .ok (.enter f az) w) (hc : Ctr x.P f args (x.G ++ HJ) HI R)
    (hN : Nat.blt d x.N = true) (hps : evs s ps = some args) (hsel : Sel H HI Hr) (hj : ∀ p ∈ HJ, p ∈ Hr) :
    Lo x s H ⟨some d, .call { callee := .value (.func f), args := ps.toArray, argTypes := ats }, ty, pos, af, gd⟩ (Y := Value × HP) (fun y => (d, y.1) :: s) (fun y => y.2 ++ Hr) (fun y => R y.1 y.2) :=
  l_calls hc rfl hN (fun a w hs => by
    have := evs_map hs hps
    simp [execOp, resolve, Act.eval, Deferred.ofValue, invoke, this, hf]) hsel hj
/-- A closure, called through a slot. -/
theorem l_callc {f : FuncId} {args cap : List Value} {HI HJ Hr : HP} {R : Value → HP → Prop} {ps : List Operand} {ats : Array TypeId} (hf : ∀ az w, (callFunc f az).run x.P w = .ok (.enter f az) w) (hc : Ctr x.P f (args ++ cap) (x.G ++ HJ) HI R)
    (hN : Nat.blt d x.N = true) (hp : ev s p = some (.func (.func f) #[] cap.toArray)) (hps : evs s ps = some args) (hsel : Sel H HI Hr) (hj : ∀ p ∈ HJ, p ∈ Hr) :
    Lo x s H ⟨some d, .call { callee := .value p, args := ps.toArray, argTypes := ats }, ty, pos, af, gd⟩ (Y := Value × HP) (fun y => (d, y.1) :: s) (fun y => y.2 ++ Hr) (fun y => R y.1 y.2) :=
  l_calls hc rfl hN (fun a w hs => by
    have := evs_map hs hps
    simp [execOp, resolve, hs.eval hp, Deferred.ofValue, invoke, this, hf]) hsel hj
/-- A method of an interface value whose make is known. -/
theorem l_calli {f : FuncId} {args : List Value} {rv : Value} {nm : String} {HI HJ Hr : HP} {R : Value → HP → Prop} {ps : List Operand} {ats : Array TypeId} {tv : TypeId} (hf : ∀ az w, (callFunc f az).run x.P w = .ok (.enter f az) w)
    (hm : ∀ w, (method (x.P.types.size + Made.depth) tv v nm).run x.P w = .ok (f, rv) w) (hc : Ctr x.P f (rv :: args) (x.G ++ HJ) HI R)
    (hN : Nat.blt d x.N = true) (hp : ev s p = some (.iface tv v)) (hps : evs s ps = some args) (hsel : Sel H HI Hr) (hj : ∀ p ∈ HJ, p ∈ Hr) :
    Lo x s H ⟨some d, .call { callee := .invoke p nm, args := ps.toArray, argTypes := ats }, ty, pos, af, gd⟩ (Y := Value × HP) (fun y => (d, y.1) :: s) (fun y => y.2 ++ Hr) (fun y => R y.1 y.2) :=
  l_calls hc rfl hN (fun a w hs => by
    have := evs_map hs hps
    simp [execOp, resolve, hs.eval hp, invoke, callMethod, this, hm, hf]) hsel hj
end
end Go.Sl
namespace Go.Sl
open Go

/-- The part of a state that speaks of the world alone. -/
structure Sw (x : Cx) (H : HP) (w : World) : Prop where
  heap : Has w H
  glob : Has w x.G
  fr : Fr x.M x.w0 w
theorem St.sw {x : Cx} {s : Slots} {H HS : HP} {a : Act} {w : World} (h : St x s H a w) (hS : ∀ p ∈ HS, p ∈ H) : Sw x HS w := ⟨fun p hp => h.heap p (hS p hp), h.glob, h.fr⟩
theorem St.of_sw {x : Cx} {s : Slots} {H : HP} {a : Act} {w w' : World} (h : St x s H a w) (h' : Sw x H w') : St x s H a w' :=
  { size := h.size, defers := h.defers, slots := h.slots, heap := h'.heap, glob := h'.glob, nodup := h.nodup, apart := h.apart, own := h.own, gown := h.gown, fr := h'.fr }

/-! ### All operations read alone: the text's order serves -/
def QO (x : Cx) (ops : Array Oper) (k : List KI) (rest : List Oper) (s : Slots) (H : HP) : Prop :=
  ∀ a w, St x s H a w → wpQuiet x.P ops (Sw x H) (fun a' => ∀ w', Sw x H w' → kp x.P x.Q k .normal a' w') rest a

section
variable {x : Cx} {ops : Array Oper} {k : List KI} {rest : List Oper} {s : Slots} {H : HP}

theorem c_regionq {id : Nat} {l : List Oper} (hm : x.P.follows .mixedOrders = true) (hB : Region.lexB .any l.toArray = true) (h : QO x l.toArray k l s H) : WC x k (.region id l.toArray true) s H := fun a w hs =>
  wp_region_quiet (C := Sw x H) hm hB (hs.drew.sw fun _ hp => hp) (by simpa using h a _ hs)
theorem q_nil (h : WN x k s H) : QO x ops k [] s H := fun a w hs => wpQuiet_nil (fun w' hw' => h a w' (hs.of_sw hw'))
theorem q_e {o : Oper} {d : Nat} {v : Value} (hw : wantS ops s o = some true) (hd : o.dst = some d) (hN : Nat.blt d x.N = true) (he : Ex x s H o v) (h : QO x ops k rest ((d, v) :: s) H) : QO x ops k (o :: rest) s H := fun a w hs => by
  refine wpQuiet_step fun K hK => ?_
  rw [if_pos (want_of hs hw)]
  refine ⟨v, fun w' hw' => ?_, ?_⟩
  · unfold Oper.quietAt
    rw [he a w' (hs.of_sw hw')]
    exact ⟨rfl, rfl⟩
  · rw [hd]; exact hK _ (h _ w (hs.put _ (by simpa [Nat.blt_eq] using hN)))
theorem q_skip {o : Oper} {d : Nat} (hw : wantS ops s o = some false) (hd : o.dst = some d) (hN : Nat.blt d x.N = true) (h : QO x ops k rest ((d, .tuple #[]) :: s) H) : QO x ops k (o :: rest) s H := fun a w hs => by
  refine wpQuiet_step fun K hK => ?_
  rw [if_neg (by rw [want_of hs hw]; simp)]
  rw [hd]; exact hK _ (h _ w (hs.put _ (by simpa [Nat.blt_eq] using hN)))
theorem q_split (t : Nat) {b : Bool} (hb : lk s t = some (.bool b)) (h1 : b = true → QO x ops k rest ((t, .bool true) :: s) H) (h2 : b = false → QO x ops k rest ((t, .bool false) :: s) H) : QO x ops k rest s H := fun a w hs => by
  have hn : ∀ u, lk ((t, Value.bool b) :: s) u = lk s u := fun u => by
    rw [lk_cons]; split
    · rename_i e; simp at e; subst e; exact hb.symm
    · rfl
  cases b with
  | true => exact h1 rfl a w (hs.less (fun n v hv => by rwa [hn] at hv) (List.Sublist.refl _))
  | false => exact h2 rfl a w (hs.less (fun n v hv => by rwa [hn] at hv) (List.Sublist.refl _))
theorem q_splitp (t : Nat) {p : Prop} [Decidable p] (hb : lk s t = some (.bool (decide p))) (h1 : p → QO x ops k rest ((t, .bool true) :: s) H) (h2 : ¬ p → QO x ops k rest ((t, .bool false) :: s) H) : QO x ops k rest s H :=
  q_split t hb (fun h => h1 (by simpa using h)) (fun h => h2 (by simpa using h))
/-- A call of a function that writes nothing that is known and whose answer is one. -/
theorem q_call {f : FuncId} {args : List Value} {HJ : HP} {r : Value} {R : Value → HP → Prop} {ps : List Operand} {ats : Array TypeId} {d : Nat} {ty : TypeId} {pos : String} {af : Array Edge} {gd : Option (Nat × Bool)}
    (hf : ∀ az w, (callFunc f az).run x.P w = .ok (.enter f az) w) (hc : Ctr x.P f args (x.G ++ HJ) [] R) (hR : ∀ v H', R v H' → v = r)
    (hw : wantS ops s ⟨some d, .call { callee := .value (.func f), args := ps.toArray, argTypes := ats }, ty, pos, af, gd⟩ = some true) (hN : Nat.blt d x.N = true) (hps : evs s ps = some args) (hj : ∀ p ∈ HJ, p ∈ H)
    (h : QO x ops k rest ((d, r) :: s) H) : QO x ops k (⟨some d, .call { callee := .value (.func f), args := ps.toArray, argTypes := ats }, ty, pos, af, gd⟩ :: rest) s H := fun a w hs => by
  refine wpQuiet_step fun K hK => ?_
  rw [if_pos (want_of hs hw)]
  refine ⟨r, fun w' hw' => ?_, hK _ (h _ w (hs.put _ (by simpa [Nat.blt_eq] using hN)))⟩
  have hs' := hs.of_sw hw'
  have hpe := evs_map hs' hps
  unfold Oper.quietAt
  have hrun : (execOp a.eval ⟨some d, .call { callee := .value (.func f), args := ps.toArray, argTypes := ats }, ty, pos, af, gd⟩).run x.P w' = .ok (.enter f args.toArray) w' := by
    simp [execOp, resolve, Act.eval, Deferred.ofValue, invoke, hpe, hf]
  rw [hrun]
  refine ⟨rfl, ?_⟩
  refine (hc w' (fun p hp => by
    rcases List.mem_append.1 hp with hp | hp
    · exact hs'.glob p hp
    · exact hs'.heap p (hj p hp)) (fun p hp => by cases hp) (by simp [keys]) (fun g hg => by cases hg)).mono ?_
  rintro e w'' ⟨v, H', rfl, hv, h1, h2, h3, h4⟩
  obtain rfl := hR v H' hv
  refine ⟨rfl, ?_, ?_, ?_⟩
  · exact hs'.heap.fr h3 (fun _ _ hk => by cases hk)
  · exact hs'.glob.fr h3 (fun _ _ hk => by cases hk)
  · exact hs'.fr.step h3 (fun _ hk => by cases hk)

/-! ### Any order, what is quiet taken first -/
def DO (x : Cx) (ops : Array Oper) (k : List KI) (HS : HP) (fuel : Nat) (listed : Array Bool) (s : Slots) (H : HP) : Prop :=
  ∀ a w, St x s H a w → St x s HS a w → wpAnyH x.P .any ops (kp x.P x.Q k) (Sw x HS) fuel listed a w

theorem kp_panic (P : Program) (Q : Exit → Act → World → Prop) (c : List PanicEntry) (a : Act) (w : World) : ∀ k, kp P Q k (.panic c) a w = Q (.panic c) a w
  | [] => rfl
  | .code _ :: k => kp_panic P Q c a w k
  | .block _ :: k => kp_panic P Q c a w k
  | .upto _ :: k => kp_panic P Q c a w k

theorem c_regiond {id : Nat} {l : List Oper} (HS : HP) (hm : x.P.follows .mixedOrders = true) (hHS : HS.Sublist H) (h : DO x l.toArray k HS l.length (Array.replicate l.length false) s H) : WC x k (.region id l.toArray true) s H := fun a w hs =>
  wp_region_held (S := Sw x HS) hm (by simpa using h a _ hs.drew (hs.drew.less (fun _ _ hv => hv) hHS))
theorem d_nil {HS : HP} {fuel : Nat} {listed : Array Bool} (hr : (Region.ready .any ops listed) = []) (h : WN x k s H) : DO x ops k HS fuel listed s H := fun a w hs _ => wpAnyH_done hr (h a w hs) fuel
theorem d_e (i : Nat) {o : Oper} {d : Nat} {v : Value} {HS : HP} {fuel : Nat} {listed : Array Bool} (hQ : ∀ c a w d v, x.Q (.panic c) (Act.put a (some d) v) w → x.Q (.panic c) a w) (hi : ops[i]? = some o) (hs0 : Region.noSelect ops = true) (hf : Region.free .any ops listed i = true) (hr : (Region.ready .any ops listed).contains i = true)
    (hw : wantS ops s o = some true) (hd : o.dst = some d) (hN : Nat.blt d x.N = true) (he : Ex x s HS o v) (h : DO x ops k HS fuel (listed.setIfInBounds i true) ((d, v) :: s) H) : DO x ops k HS (fuel + 1) listed s H := fun a w hs hS => by
  have hN' : d < x.N := by simpa [Nat.blt_eq] using hN
  refine wpAnyH_take hi hs0 hf hr (fun c a w hq => by rw [kp_panic] at hq ⊢; rw [hd] at hq; exact hQ _ _ _ _ _ hq) (.inl ⟨want_of hs hw, fun w' hw' => he a w' (hS.of_sw hw')⟩) (hS.sw fun _ hp => hp) ?_
  rw [hd]
  exact h _ w (hs.put _ hN') (hS.put _ hN')
theorem d_skip (i : Nat) {o : Oper} {d : Nat} {HS : HP} {fuel : Nat} {listed : Array Bool} (hQ : ∀ c a w d v, x.Q (.panic c) (Act.put a (some d) v) w → x.Q (.panic c) a w) (hi : ops[i]? = some o) (hs0 : Region.noSelect ops = true) (hf : Region.free .any ops listed i = true) (hr : (Region.ready .any ops listed).contains i = true)
    (hw : wantS ops s o = some false) (hd : o.dst = some d) (hN : Nat.blt d x.N = true) (h : DO x ops k HS fuel (listed.setIfInBounds i true) ((d, .tuple #[]) :: s) H) : DO x ops k HS (fuel + 1) listed s H := fun a w hs hS => by
  have hN' : d < x.N := by simpa [Nat.blt_eq] using hN
  refine wpAnyH_take (v := undef) hi hs0 hf hr (fun c a w hq => by rw [kp_panic] at hq ⊢; rw [hd] at hq; exact hQ _ _ _ _ _ hq) (.inr ⟨want_of hs hw, rfl⟩) (hS.sw fun _ hp => hp) ?_
  rw [hd]
  exact h _ w (hs.put _ hN') (hS.put _ hN')
theorem d_op {i : Nat} {o : Oper} {HS : HP} {fuel : Nat} {listed : Array Bool} {Y : Type} {s' : Y → Slots} {J : Y → HP} {A : Y → Prop} {a : Act} {w : World} (hi : ops[i]? = some o) (hw : wantS ops s o = some true) (hl : Lo x s H o s' J A) (hHS : ∀ y, A y → ∀ p ∈ HS, p ∈ J y)
    (h : ∀ y, A y → DO x ops k HS fuel (listed.setIfInBounds i true) (s' y) (J y)) (hs : St x s H a w) (hS : St x s HS a w) : wpOp x.P ops (kp x.P x.Q k) i (fun a' w' => Sw x HS w' ∧ wpAnyH x.P .any ops (kp x.P x.Q k) (Sw x HS) fuel (listed.setIfInBounds i true) a' w') a w := by
  unfold wpOp
  rw [hi]
  simp only [want_of hs hw, if_true]
  refine .inl (hl a w hs _ _ fun y a' w' hA hst => ?_)
  have hsw := hst.sw (hHS y hA)
  refine ⟨hsw, h y hA a' w' hst ?_⟩
  exact { size := hst.size, defers := hst.defers, slots := hst.slots, heap := hsw.heap, glob := hst.glob, nodup := hS.nodup, apart := hS.apart, own := hS.own, gown := hst.gown, fr := hst.fr }
/-- Only this one may come up. -/
theorem d_l (i : Nat) {o : Oper} {HS : HP} {fuel : Nat} {listed : Array Bool} {Y : Type} {s' : Y → Slots} {J : Y → HP} {A : Y → Prop} (hr : Region.ready .any ops listed = [i]) (hi : ops[i]? = some o) (hw : wantS ops s o = some true) (hl : Lo x s H o s' J A) (hHS : ∀ y, A y → ∀ p ∈ HS, p ∈ J y)
    (h : ∀ y, A y → DO x ops k HS fuel (listed.setIfInBounds i true) (s' y) (J y)) : DO x ops k HS (fuel + 1) listed s H := fun a w hs hS =>
  wpAnyH_all hr (by simp) fun j hj => by
    obtain rfl := List.mem_singleton.1 hj
    exact d_op hi hw hl hHS h hs hS
/-- One of two comes up. -/
theorem d_l2 (i j : Nat) {o o' : Oper} {HS : HP} {fuel : Nat} {listed : Array Bool} {Y Y' : Type} {s1 : Y → Slots} {J : Y → HP} {A : Y → Prop} {s2 : Y' → Slots} {J' : Y' → HP} {A' : Y' → Prop} (hr : Region.ready .any ops listed = [i, j]) (hi : ops[i]? = some o) (hj : ops[j]? = some o') (hw : wantS ops s o = some true) (hw' : wantS ops s o' = some true)
    (hl : Lo x s H o s1 J A) (hl' : Lo x s H o' s2 J' A') (hHS : ∀ y, A y → ∀ p ∈ HS, p ∈ J y) (hHS' : ∀ y, A' y → ∀ p ∈ HS, p ∈ J' y)
    (h : ∀ y, A y → DO x ops k HS fuel (listed.setIfInBounds i true) (s1 y) (J y)) (h' : ∀ y, A' y → DO x ops k HS fuel (listed.setIfInBounds j true) (s2 y) (J' y)) : DO x ops k HS (fuel + 1) listed s H := fun a w hs hS =>
  wpAnyH_all hr (by simp) fun n hn => by
    rcases List.mem_cons.1 hn with rfl | hn
    · exact d_op hi hw hl hHS h hs hS
    · obtain rfl := List.mem_singleton.1 hn
      exact d_op hj hw' hl' hHS' h' hs hS
end
end Go.Sl
namespace Go.Sl
open Go

section
variable {x : Cx} {ops : Array Oper} {k : List KI} {rest : List Oper} {s : Slots} {H H' : HP}
variable {d : Nat} {p q c : Operand} {ty t t' : TypeId} {pos : String} {af : Array Edge} {gd : Option (Nat × Bool)} {v u r : Value} {g off n m : Nat} {l l' vs : List Value} {e : TypeId} {fr : Nat × Nat} {lo hi : Nat}

theorem WR.less {s' : Slots} (hs : ∀ n v, lk s' n = some v → lk s n = some v) (hH : H'.Sublist H) (h : WR x k s' H') : WR x k s H := fun a w hst => h a w (hst.less hs hH)
theorem WR.perm (hH : H.Perm H') (h : WR x k s H') : WR x k s H := fun a w hst => h a w (hst.perm hH)
theorem WN.perm (hH : H.Perm H') (h : WN x k s H') : WN x k s H := fun a w hst => h a w (hst.perm hH)
/-- Round by round, at most so often. -/
theorem c_rounds (n : Nat) {b : Code} (h : WC x (.upto (Code.rounds x.P b (kp x.P x.Q k) n) :: k) b s H) : WC x k (.loop b) s H := fun a w hs => wp_loop_rounds (n + 1) (h a w hs)
theorem n_rounds {n : Nat} {b : Code} (h : WC x (.upto (Code.rounds x.P b (kp x.P x.Q k) n) :: k) b s H) : WN x (.upto (Code.rounds x.P b (kp x.P x.Q k) (n + 1)) :: k) s H := n_upto fun a w hs => h a w hs

/-! ### Known numbers and strings -/
def pint (op : BinOp) (k : IntKind) (a b : Int) : Option Value :=
  match op with
  | .add => some (.int k (k.wrap (a + b)))
  | .sub => some (.int k (k.wrap (a - b)))
  | .mul => some (.int k (k.wrap (a * b)))
  | .quo => if b = 0 then none else some (.int k (k.wrap (a.tdiv b)))
  | .rem => if b = 0 then none else some (.int k (a.tmod b))
  | .and => some (.int k (ib .and k a b))
  | .or => some (.int k (ib .or k a b))
  | .xor => some (.int k (ib .xor k a b))
  | .andNot => some (.int k (ib .andNot k a b))
  | .eql => some (.bool (decide (a = b)))
  | .neq => some (.bool (decide (a ≠ b)))
  | .lss => some (.bool (decide (a < b)))
  | .leq => some (.bool (decide (a ≤ b)))
  | .gtr => some (.bool (decide (b < a)))
  | .geq => some (.bool (decide (b ≤ a)))
  | _ => none
theorem e_int {op : BinOp} {kd : IntKind} {a b : Int} (hp : ev s p = some (.int kd a)) (hq : ev s q = some (.int kd b)) (h : pint op kd a b = some r) : Ex x s H ⟨some d, .binOp op t p q t', ty, pos, af, gd⟩ r := by
  cases op <;> simp only [pint, Option.some.injEq, reduceCtorEq] at h
  case add => subst h; exact e_add hp hq
  case sub => subst h; exact e_sub hp hq
  case mul => subst h; exact e_mul hp hq
  case quo => split at h <;> cases h; exact e_quo hp hq (by assumption)
  case rem => split at h <;> cases h; exact e_rem hp hq (by assumption)
  case and => subst h; exact e_and hp hq
  case or => subst h; exact e_or hp hq
  case xor => subst h; exact e_xor hp hq
  case andNot => subst h; exact e_andNot hp hq
  case eql => subst h; exact e_eql hp hq
  case neq => subst h; exact e_neq hp hq
  case lss => subst h; exact e_lss hp hq
  case leq => subst h; exact e_leq hp hq
  case gtr => subst h; exact e_gtr hp hq
  case geq => subst h; exact e_geq hp hq
theorem bdec (a b : List UInt8) : (a == b) = decide (a = b) := by by_cases h : a = b <;> simp [h]
theorem e_seq {a b : List UInt8} (hp : ev s p = some (S a)) (hq : ev s q = some (S b)) : Ex x s H ⟨some d, .binOp .eql t p q t', ty, pos, af, gd⟩ (.bool (decide (a = b))) := e_bin hp hq (fun w => by
  simp [eqGuard, binOp, Op.stringOp, bdec])
theorem e_sne {a b : List UInt8} (hp : ev s p = some (S a)) (hq : ev s q = some (S b)) : Ex x s H ⟨some d, .binOp .neq t p q t', ty, pos, af, gd⟩ (.bool (decide (a ≠ b))) := e_bin hp hq (fun w => by
  simp [eqGuard, binOp, Op.stringOp, bdec])
theorem e_slt {a b : List UInt8} (hp : ev s p = some (S a)) (hq : ev s q = some (S b)) : Ex x s H ⟨some d, .binOp .lss t p q t', ty, pos, af, gd⟩ (.bool (Op.bytesLess a b)) := e_bin hp hq (fun w => by
  simp [eqGuard, binOp, Op.stringOp])
theorem e_sadd {a b : List UInt8} (hp : ev s p = some (S a)) (hq : ev s q = some (S b)) (hn : a.length + b.length ≤ 9223372036854775807) : Ex x s H ⟨some d, .binOp .add t p q t', ty, pos, af, gd⟩ (S (a ++ b)) := e_bin hp hq (fun w => by
  have h1 : ¬ (((⟨a.toArray⟩ : ByteArray).size + (⟨b.toArray⟩ : ByteArray).size : Nat) : Int) > IntKind.i64.max := by
    rw [size_S, size_S]; simp [IntKind.max, IntKind.bits, IntKind.signed]; omega
  have h2 : (⟨a.toArray⟩ : ByteArray) ++ ⟨b.toArray⟩ = ⟨(a ++ b).toArray⟩ := by
    apply ByteArray.ext; simp
  have h3 : Op.stringOp .add ⟨a.toArray⟩ ⟨b.toArray⟩ = pure (S (a ++ b)) := by
    simp only [Op.stringOp]
    rw [if_neg h1, h2]
  show (do eqGuard .add t p q (S a) (S b); Op.stringOp .add ⟨a.toArray⟩ ⟨b.toArray⟩ : Sem Value).run x.P w = _
  rw [h3]; rfl)
theorem eq_in : ∃ d, ∀ t v u, Op.equal t v u = Op.equalIn (d + 1) t v u := ⟨9999, fun _ _ _ => rfl⟩
theorem eq_in2 : ∃ d, ∀ t v u, Op.equal t v u = Op.equalIn (d + 1 + 1) t v u := ⟨9998, fun _ _ _ => rfl⟩
/-- What is compared by Op.equal. -/
theorem e_eqx {b : Bool} (he : binOp .eql t v u = (do pure (.bool (← Op.equal t v u)))) (hg : ∀ w, (eqGuard .eql t p q v u).run x.P w = .ok () w) (hE : ∀ w, (Op.equal t v u).run x.P w = .ok b w)
    (hp : ev s p = some v) (hq : ev s q = some u) : Ex x s H ⟨some d, .binOp .eql t p q t', ty, pos, af, gd⟩ (.bool b) := e_bin hp hq (fun w => by simp only [Sem.run_bind, hg, Result.andThen_ok, he, hE, Sem.run_pure])
theorem e_nex {b : Bool} (he : binOp .neq t v u = (do pure (.bool (!(← Op.equal t v u))))) (hg : ∀ w, (eqGuard .neq t p q v u).run x.P w = .ok () w) (hE : ∀ w, (Op.equal t v u).run x.P w = .ok b w)
    (hp : ev s p = some v) (hq : ev s q = some u) : Ex x s H ⟨some d, .binOp .neq t p q t', ty, pos, af, gd⟩ (.bool (!b)) := e_bin hp hq (fun w => by simp only [Sem.run_bind, hg, Result.andThen_ok, he, hE, Sem.run_pure])
/-! ### nil -/
section nils
variable {ms : Array (String × TypeId)} {tv tu : TypeId} {P : Program} {w : World}
theorem q_in (hU : ∀ w, (underlying t).run P w = .ok (.interface ms) w) : (Op.equal t (.iface tv v) .nilIface).run P w = .ok false w := by
  obtain ⟨dd, hdd⟩ := eq_in; rw [hdd]; simp only [Op.equalIn, Sem.run_bind, hU, Result.andThen_ok, Sem.run_pure]
theorem q_ni (hU : ∀ w, (underlying t).run P w = .ok (.interface ms) w) : (Op.equal t .nilIface (.iface tv v)).run P w = .ok false w := by
  obtain ⟨dd, hdd⟩ := eq_in; rw [hdd]; simp only [Op.equalIn, Sem.run_bind, hU, Result.andThen_ok, Sem.run_pure]
theorem q_nn (hU : ∀ w, (underlying t).run P w = .ok (.interface ms) w) : (Op.equal t .nilIface .nilIface).run P w = .ok true w := by
  obtain ⟨dd, hdd⟩ := eq_in; rw [hdd]; simp only [Op.equalIn, Sem.run_bind, hU, Result.andThen_ok, Sem.run_pure]
theorem same_addr (A : Addr) : (sameAddr A A).run P w = .ok true w := by
  simp [sameAddr]
theorem q_pp {ti : TypeInfo} {el : TypeId} {A : Addr} (hU : ∀ w, (underlying t).run P w = .ok (.interface ms) w) (hI : ∀ w, (typeInfo tv).run P w = .ok ti w) (hc : ti.comparable = true)
    (hU' : ∀ w, (underlying tv).run P w = .ok (.pointer el) w) (hS : ∀ w, (sizeOf el).run P w = .ok n w) (hn : n ≠ 0) : (Op.equal t (.iface tv (.pointer (some A))) (.iface tv (.pointer (some A)))).run P w = .ok true w := by
  obtain ⟨dd, hdd⟩ := eq_in2; rw [hdd]
  simp only [Op.equalIn, Sem.run_bind, hU, Result.andThen_ok, Sem.run_pure, ne_eq, not_true_eq_false, if_false, hI, hc, Bool.not_true, Bool.false_eq_true, hU', hS, hn, not_false_eq_true, if_true, same_addr]
theorem q_pn (hU : ∀ w, (underlying t).run P w = .ok (.pointer e) w) {A : Option Addr} : (Op.equal t (.pointer A) (.pointer none)).run P w = .ok A.isNone w := by
  obtain ⟨dd, hdd⟩ := eq_in; rw [hdd]; cases A <;> simp only [Op.equalIn, Sem.run_bind, hU, Result.andThen_ok, Sem.run_pure, Option.isNone]
theorem q_ln (hU : ∀ w, (underlying t).run P w = .ok (.slice e) w) {A : Option Addr} : (Op.equal t (.slice A n m) (.slice none 0 0)).run P w = .ok A.isNone w := by
  obtain ⟨dd, hdd⟩ := eq_in; rw [hdd]; cases A <;> simp only [Op.equalIn, Sem.run_bind, hU, Result.andThen_ok, Sem.run_pure, Option.isNone]
theorem e_ieqn (hU : ∀ w, (underlying t).run x.P w = .ok (.interface ms) w) (hp : ev s p = some (.iface tv v)) : Ex x s H ⟨some d, .binOp .eql t p (.const .nilIface) t', ty, pos, af, gd⟩ (.bool false) := e_eqx rfl (fun _ => rfl) (fun _ => q_in hU) hp rfl
theorem e_inen (hU : ∀ w, (underlying t).run x.P w = .ok (.interface ms) w) (hp : ev s p = some (.iface tv v)) : Ex x s H ⟨some d, .binOp .neq t p (.const .nilIface) t', ty, pos, af, gd⟩ (.bool true) := e_nex rfl (fun _ => rfl) (fun _ => q_in hU) hp rfl
theorem e_neqn (hU : ∀ w, (underlying t).run x.P w = .ok (.interface ms) w) (hp : ev s p = some .nilIface) : Ex x s H ⟨some d, .binOp .eql t p (.const .nilIface) t', ty, pos, af, gd⟩ (.bool true) := e_eqx rfl (fun _ => by cases p <;> rfl) (fun _ => q_nn hU) hp rfl
theorem e_nnen (hU : ∀ w, (underlying t).run x.P w = .ok (.interface ms) w) (hp : ev s p = some .nilIface) : Ex x s H ⟨some d, .binOp .neq t p (.const .nilIface) t', ty, pos, af, gd⟩ (.bool false) := e_nex rfl (fun _ => by cases p <;> rfl) (fun _ => q_nn hU) hp rfl
/-- Two interface values, one of them nil, or of other types, or one pointer. -/
theorem e_ieq_n (hU : ∀ w, (underlying t).run x.P w = .ok (.interface ms) w) (hp : ev s p = some .nilIface) (hq : ev s q = some (.iface tv v)) : Ex x s H ⟨some d, .binOp .eql t p q t', ty, pos, af, gd⟩ (.bool false) := e_eqx rfl (fun _ => rfl) (fun _ => q_ni hU) hp hq
theorem e_ieq_same {ti : TypeInfo} {el : TypeId} {A : Addr} (hU : ∀ w, (underlying t).run x.P w = .ok (.interface ms) w) (hI : ∀ w, (typeInfo tv).run x.P w = .ok ti w) (hc : ti.comparable = true)
    (hU' : ∀ w, (underlying tv).run x.P w = .ok (.pointer el) w) (hS : ∀ w, (sizeOf el).run x.P w = .ok n w) (hn : n ≠ 0)
    (hp : ev s p = some (.iface tv (.pointer (some A)))) (hq : ev s q = some (.iface tv (.pointer (some A)))) : Ex x s H ⟨some d, .binOp .eql t p q t', ty, pos, af, gd⟩ (.bool true) := e_eqx rfl (fun _ => rfl) (fun _ => q_pp hU hI hc hU' hS hn) hp hq
theorem e_peqn (hU : ∀ w, (underlying t).run x.P w = .ok (.pointer e) w) {A : Option Addr} (hp : ev s p = some (.pointer A)) : Ex x s H ⟨some d, .binOp .eql t p (.const (.pointer none)) t', ty, pos, af, gd⟩ (.bool A.isNone) := e_eqx rfl (fun _ => rfl) (fun _ => q_pn hU) hp rfl
theorem e_leqn (hU : ∀ w, (underlying t).run x.P w = .ok (.slice e) w) {A : Option Addr} (hp : ev s p = some (.slice A n m)) : Ex x s H ⟨some d, .binOp .eql t p (.const (.slice none 0 0)) t', ty, pos, af, gd⟩ (.bool A.isNone) := e_eqx rfl (fun _ => rfl) (fun _ => q_ln hU) hp rfl
end nils

/-! ### Slices of strings and of slices -/
section slices
variable {kl kh : IntKind} {a b : Int} {bs : List UInt8} {sz cap : Nat} {A : Option Addr} {pl ph : Operand}
theorem extract_S (bs : List UInt8) (i j : Nat) : (⟨bs.toArray⟩ : ByteArray).extract i j = ⟨((bs.take j).drop i).toArray⟩ := by
  apply ByteArray.ext
  simp [ByteArray.extract, ByteArray.copySlice, List.take_drop]
  by_cases h : i ≤ j
  · rw [show i + (j - i) = j by omega]
  · rw [List.drop_eq_nil_of_le (by simp; omega), List.drop_eq_nil_of_le (by simp; omega)]
theorem e_ss_h (hU : ∀ w, (underlying t).run x.P w = .ok .string w) (hp : ev s p = some (S bs)) (hh : ev s ph = some (.int kh b)) (h1 : 0 ≤ b) (h2 : b ≤ bs.length) : Ex x s H ⟨some d, .slice t p none (some ph) none, ty, pos, af, gd⟩ (S (bs.take b.toNat)) := fun a' w hs => by
  have h3 : (b : Int) ≤ ((⟨bs.toArray⟩ : ByteArray).size : Int) := by rw [size_S]; exact h2
  simp [execOp, hs.eval hp, hs.eval hh, Instr.sliceAt, Instr.slice, hU, Instr.sliceBounds, Instr.sliceBound, asIntOf, h1, h3, extract_S]
theorem e_ss_l (hU : ∀ w, (underlying t).run x.P w = .ok .string w) (hp : ev s p = some (S bs)) (hl : ev s pl = some (.int kl a)) (h1 : 0 ≤ a) (h2 : a ≤ bs.length) : Ex x s H ⟨some d, .slice t p (some pl) none none, ty, pos, af, gd⟩ (S (bs.drop a.toNat)) := fun a' w hs => by
  have h3 : (a : Int) ≤ ((⟨bs.toArray⟩ : ByteArray).size : Int) := by rw [size_S]; exact h2
  simp [execOp, hs.eval hp, hs.eval hl, Instr.sliceAt, Instr.slice, hU, Instr.sliceBounds, Instr.sliceBound, asIntOf, h1, h3, extract_S]
  rw [size_S, List.take_length]
theorem e_sl_h (hU : ∀ w, (underlying t).run x.P w = .ok (.slice e) w) (hS : ∀ w, (sizeOf e).run x.P w = .ok sz w) (hp : ev s p = some (.slice A n cap)) (hh : ev s ph = some (.int kh b)) (h1 : 0 ≤ b) (h2 : b ≤ cap) : Ex x s H ⟨some d, .slice t p none (some ph) none, ty, pos, af, gd⟩ (.slice A b.toNat cap) := fun a' w hs => by
  simp [execOp, hs.eval hp, hs.eval hh, Instr.sliceAt, Instr.slice, hU, hS, Instr.sliceBounds, Instr.sliceBound, asIntOf, h1, h2, Addr.add]
theorem e_sl_n (hU : ∀ w, (underlying t).run x.P w = .ok (.slice e) w) (hS : ∀ w, (sizeOf e).run x.P w = .ok sz w) (hp : ev s p = some (.slice A n cap)) : Ex x s H ⟨some d, .slice t p none none none, ty, pos, af, gd⟩ (.slice A n cap) := fun a' w hs => by
  simp [execOp, hs.eval hp, Instr.sliceAt, Instr.slice, hU, hS, Instr.sliceBounds, Addr.add]
theorem e_sl_l (hU : ∀ w, (underlying t).run x.P w = .ok (.slice e) w) (hS : ∀ w, (sizeOf e).run x.P w = .ok sz w) (hp : ev s p = some (.slice (some ⟨g, off, none⟩) n cap)) (hl : ev s pl = some (.int kl a)) (h1 : 0 ≤ a) (h2 : a ≤ n) (h3 : a < cap) : Ex x s H ⟨some d, .slice t p (some pl) none none, ty, pos, af, gd⟩ (.slice (some ⟨g, off + a.toNat * sz, none⟩) (n - a.toNat) (cap - a.toNat)) := fun a' w hs => by
  have : ¬ cap = a.toNat := by omega
  simp [execOp, hs.eval hp, hs.eval hl, Instr.sliceAt, Instr.slice, hU, hS, Instr.sliceBounds, Instr.sliceBound, asIntOf, h1, h2, this, add_addr]
theorem e_sl_le (hU : ∀ w, (underlying t).run x.P w = .ok (.slice e) w) (hS : ∀ w, (sizeOf e).run x.P w = .ok sz w) (hp : ev s p = some (.slice A n cap)) (hl : ev s pl = some (.int kl a)) (h1 : 0 ≤ a) (h2 : a ≤ n) (h3 : a = cap) : Ex x s H ⟨some d, .slice t p (some pl) none none, ty, pos, af, gd⟩ (.slice A (n - a.toNat) 0) := fun a' w hs => by
  have : cap = a.toNat := by omega
  simp [execOp, hs.eval hp, hs.eval hl, Instr.sliceAt, Instr.slice, hU, hS, Instr.sliceBounds, Instr.sliceBound, asIntOf, h1, h2]
  rw [this]; simp
theorem e_sl_lh (hU : ∀ w, (underlying t).run x.P w = .ok (.slice e) w) (hS : ∀ w, (sizeOf e).run x.P w = .ok sz w) (hp : ev s p = some (.slice (some ⟨g, off, none⟩) n cap)) (hl : ev s pl = some (.int kl a)) (hh : ev s ph = some (.int kh b)) (h1 : 0 ≤ a) (h2 : a ≤ b) (h3 : b ≤ cap) (h4 : a < cap) : Ex x s H ⟨some d, .slice t p (some pl) (some ph) none, ty, pos, af, gd⟩ (.slice (some ⟨g, off + a.toNat * sz, none⟩) (b.toNat - a.toNat) (cap - a.toNat)) := fun a' w hs => by
  obtain ⟨i, rfl⟩ := Int.eq_ofNat_of_zero_le h1
  obtain ⟨j, rfl⟩ := Int.eq_ofNat_of_zero_le (show 0 ≤ b by omega)
  have h5 : ¬ cap = i := by omega
  have h6 : i ≤ j := by omega
  have h7 : j ≤ cap := by omega
  simp [execOp, hs.eval hp, hs.eval hl, hs.eval hh, Instr.sliceAt, Instr.slice, hU, hS, Instr.sliceBounds, Instr.sliceBound, asIntOf, h5, h6, h7, add_addr]
theorem e_sa_n (hU : ∀ w, (underlying t).run x.P w = .ok (.array n e) w) (hS : ∀ w, (sizeOf e).run x.P w = .ok sz w) (hp : ev s p = some (.pointer (some ⟨g, off, none⟩))) : Ex x s H ⟨some d, .slice t p none none none, ty, pos, af, gd⟩ (.slice (some ⟨g, off, none⟩) n n) := fun a' w hs => by
  simp [execOp, hs.eval hp, Instr.sliceAt, Instr.sureAddr, hU, hS, Instr.sliceBounds, Addr.add]
theorem e_sa_h (hU : ∀ w, (underlying t).run x.P w = .ok (.array n e) w) (hS : ∀ w, (sizeOf e).run x.P w = .ok sz w) (hp : ev s p = some (.pointer (some ⟨g, off, none⟩))) (hh : ev s ph = some (.int kh b)) (h1 : 0 ≤ b) (h2 : b ≤ n) : Ex x s H ⟨some d, .slice t p none (some ph) none, ty, pos, af, gd⟩ (.slice (some ⟨g, off, none⟩) b.toNat n) := fun a' w hs => by
  simp [execOp, hs.eval hp, hs.eval hh, Instr.sliceAt, Instr.sureAddr, hU, hS, Instr.sliceBounds, Instr.sliceBound, asIntOf, h1, h2, Addr.add]
end slices
end
end Go.Sl
