/- What the listed variables give a walk: io.EOF; a world that meets the condition of laws.FnWrOptions. (A part of the proof of this: for every input laws.FnWrOptions returns true and its arguments read as they did, the listed package variables being what the program lays) -/
import Derived.Test.YtochgglejmfelaaGreatDoorLNG
set_option linter.unusedVariables false
set_option linter.unusedSimpArgs false
namespace Go.Proofs.YtochgglejmfelaaGreatDoor
open Go Go.Sl Go.Proofs Go.ChangeShapes Go.WideShapes Go.RowKit
set_option maxRecDepth 100000
theorem own : ownKnob Tryz.prog.godebug = none := by kernel_rfl
theorem c262 : Tryz.prog.cellsOf 262 = 1 := by kernel_rfl
theorem starE : "*" ++ "errors.errorString" = "*errors.errorString" := by decide
theorem row260 (u : TypeId) (h : Tryz.prog.typeName? 3 u = some "*errors.errorString") : u = 260 :=
  typeName_ptr_named (nm := "errors.errorString") (by rw [starE]; kernel_rfl) (by kernel_rfl) (by decide) u (by rw [starE]; exact h)
theorem obj_of_cell {W : World} {b off : Nat} {c : Array Value} {t : TypeId} {fr : Nat × Nat} {v : Value} (hb : W.heap[b]? = some (.cells c t fr)) (hc : W.cell? ⟨b, 0, none⟩ = some v) : ∃ tl, W.heap[b]? = some (.cells (v :: tl).toArray t fr) := by
  rw [World.cell?, hb] at hc
  have h0 : c.toList[0]? = some v := by simpa using hc
  cases hl : c.toList with
  | nil => rw [hl] at h0; simp at h0
  | cons a tl =>
    rw [hl] at h0
    simp only [List.getElem?_cons_zero, Option.some.injEq] at h0
    subst h0
    refine ⟨tl, ?_⟩
    rw [hb, ← hl]
theorem gEOF : Tryz.prog.globalNamed "io.EOF" = some 3 := by kernel_rfl
theorem tEOF : (Tryz.prog.globals[3]?).map (·.type) = some 80 := by kernel_rfl
theorem laid_at {P : Program} {W : World} {n : String} {d : DataW Unit} : ∀ {l : List (String × DataW Unit)} {ps : List MemPlace}, DataW.LaidVars P W l ps → (n, d) ∈ l →
    ∃ g t cs fuel p, P.globalNamed n = some g ∧ (P.globals[g]?).map (·.type) = some t ∧ W.var? P n = some cs ∧ DataW.trod (fun _ => ()) P W 0 (fun _ => true) false fuel t cs.toList = some (d, p) ∧ ∀ x ∈ MemPlace.row ⟨g, 0, none⟩ cs.size ++ p, x ∈ ps
  | (m, e) :: r, ps, h, hm => by
    obtain ⟨g, t, cs, fuel, p, q, h1, h2, h3, h4, h5, rfl⟩ := h
    rcases List.mem_cons.1 hm with e' | hm
    · obtain ⟨rfl, rfl⟩ := Prod.mk.injEq .. ▸ e'
      exact ⟨g, t, cs, fuel, p, h1, h2, h3, h4, fun x hx => List.mem_append_left _ hx⟩
    · obtain ⟨g', t', cs', f', p', k1, k2, k3, k4, k5⟩ := laid_at h5 hm
      exact ⟨g', t', cs', f', p', k1, k2, k3, k4, fun x hx => List.mem_append_right _ (k5 x hx)⟩
theorem eof_of_laid {l : List (String × DataW Unit)} {W : World} (h : laidMet Tryz.prog l W) (hm : ("io.EOF", Rows.laid_io_EOF) ∈ l) : ∃ (G : HP) (gE : Addr) (t3 : List Value) (e3 : TypeId) (f3 : Nat × Nat), Has W G ∧ (3, Obj.cells (EV gE :: t3).toArray e3 f3) ∈ G := by
  obtain ⟨ps, hv, _, hrows⟩ := h
  obtain ⟨g0, t0, cs0, f0, p0, hg0, ht0, hv0, hd0, hin⟩ := laid_at hv hm
  obtain rfl := Option.some.inj (gEOF.symm.trans hg0)
  obtain rfl := Option.some.inj (tEOF.symm.trans ht0)
  obtain ⟨l0⟩ := cs0
  have ok0 : ∀ u v, l0 = [.iface u v] → Value.okWide Tryz.prog W .any 0 u v := fun u v e => by
    subst e
    exact (hrows 3 0 (hin _ (by simp [MemPlace.row]))).2 u v (by simpa using World.var?_cell hg0 hv0 0)
  obtain ⟨a0, s0, rfl, hc0, hs0, hz0, rfl⟩ := errorString_of_trod Tryz.underlying80 row260 Tryz.underlying260 Tryz.underlying262 rfl rfl Tryz.underlying9 c262 c9 hd0 ok0
  obtain ⟨c3, u3, hb3⟩ := (hrows 3 0 (hin _ (by simp [MemPlace.row]))).1
  obtain ⟨t3, h3⟩ := obj_of_cell (off := 0) hb3 (v := EV a0) (by simpa using World.var?_cell hg0 hv0 0)
  exact ⟨[(3, .cells (EV a0 :: t3).toArray u3 (0, 0))], a0, t3, u3, (0, 0), (fun p hp => by rcases List.mem_singleton.1 hp with rfl; exact h3), .head _⟩
/-- Strings of the listed errors, the variables that hold them. -/
def errs : List (Nat × List UInt8) := [(10, [115, 104, 111, 114, 116, 32, 119, 114, 105, 116, 101]),
  (13, [115, 104, 111, 114, 116, 32, 98, 117, 102, 102, 101, 114]),
  (3, [69, 79, 70]),
  (5, [117, 110, 101, 120, 112, 101, 99, 116, 101, 100, 32, 69, 79, 70]),
  (16, [99, 98, 111, 114, 58, 32, 105, 110, 100, 101, 102, 105, 110, 105, 116, 101, 45, 108, 101, 110, 103, 116, 104, 32, 101, 110, 99, 111, 100, 105, 110, 103, 32, 114, 101, 106, 101, 99, 116, 101, 100]),
  (24, [99, 98, 111, 114, 58, 32, 105, 110, 100, 101, 102, 105, 110, 105, 116, 101, 45, 108, 101, 110, 103, 116, 104, 32, 115, 116, 114, 105, 110, 103, 47, 98, 121, 116, 101, 115, 32, 116, 111, 116, 97, 108, 32, 115, 105, 122, 101, 32, 101, 120, 99, 101, 101, 100, 115, 32, 108, 105, 109, 105, 116]),
  (23, [99, 98, 111, 114, 58, 32, 105, 110, 116, 101, 103, 101, 114, 32, 110, 111, 116, 32, 109, 105, 110, 105, 109, 97, 108, 108, 121, 32, 101, 110, 99, 111, 100, 101, 100]),
  (21, [99, 98, 111, 114, 58, 32, 78, 97, 78, 32, 102, 108, 111, 97, 116, 32, 118, 97, 108, 117, 101, 32, 114, 101, 106, 101, 99, 116, 101, 100]),
  (22, [99, 98, 111, 114, 58, 32, 105, 110, 102, 105, 110, 105, 116, 101, 32, 102, 108, 111, 97, 116, 32, 118, 97, 108, 117, 101, 32, 114, 101, 106, 101, 99, 116, 101, 100]),
  (15, [99, 98, 111, 114, 58, 32, 102, 108, 111, 97, 116, 32, 110, 97, 114, 114, 111, 119, 101, 114, 32, 116, 104, 97, 110, 32, 54, 52, 32, 98, 105, 116, 115, 32, 114, 101, 106, 101, 99, 116, 101, 100]),
  (6, [118, 97, 114, 105, 110, 116, 115, 32, 108, 97, 114, 103, 101, 114, 32, 116, 104, 97, 110, 32, 117, 105, 110, 116, 54, 51, 32, 110, 111, 116, 32, 115, 117, 112, 112, 111, 114, 116, 101, 100]),
  (11, [118, 97, 114, 105, 110, 116, 115, 32, 109, 97, 108, 102, 111, 114, 109, 101, 100, 44, 32, 99, 111, 117, 108, 100, 32, 110, 111, 116, 32, 114, 101, 97, 99, 104, 32, 116, 104, 101, 32, 101, 110, 100]),
  (7, [118, 97, 114, 105, 110, 116, 32, 110, 111, 116, 32, 109, 105, 110, 105, 109, 97, 108, 108, 121, 32, 101, 110, 99, 111, 100, 101, 100]),
  (14, [109, 117, 108, 116, 105, 104, 97, 115, 104, 32, 116, 111, 111, 32, 115, 104, 111, 114, 116, 46, 32, 109, 117, 115, 116, 32, 98, 101, 32, 62, 61, 32, 50, 32, 98, 121, 116, 101, 115]),
  (17, [117, 118, 97, 114, 105, 110, 116, 58, 32, 98, 117, 102, 102, 101, 114, 32, 116, 111, 111, 32, 115, 109, 97, 108, 108]),
  (18, [117, 118, 97, 114, 105, 110, 116, 58, 32, 118, 97, 114, 105, 110, 116, 32, 116, 111, 111, 32, 98, 105, 103, 32, 40, 109, 97, 120, 32, 54, 52, 98, 105, 116, 41]),
  (0, [105, 110, 118, 97, 108, 105, 100, 32, 115, 101, 99, 116, 105, 111, 110, 32, 100, 97, 116, 97, 44, 32, 108, 101, 110, 103, 116, 104, 32, 111, 102, 32, 114, 101, 97, 100, 32, 98, 101, 121, 111, 110, 100, 32, 97, 108, 108, 111, 119, 97, 98, 108, 101, 32, 109, 97, 120, 105, 109, 117, 109]),
  (1, [105, 110, 118, 97, 108, 105, 100, 32, 104, 101, 97, 100, 101, 114, 32, 100, 97, 116, 97, 44, 32, 108, 101, 110, 103, 116, 104, 32, 111, 102, 32, 114, 101, 97, 100, 32, 98, 101, 121, 111, 110, 100, 32, 97, 108, 108, 111, 119, 97, 98, 108, 101, 32, 109, 97, 120, 105, 109, 117, 109]),
  (8, [105, 110, 118, 97, 108, 105, 100, 32, 104, 101, 97, 100, 101, 114])]
noncomputable def low : Nat := (World.holding Tryz.prog default ⟨#[], #[], []⟩).heap.size
def setVar (h : Array Obj) (g b : Nat) : Array Obj := h.modify g fun
  | .cells _ t fr => .cells #[.iface 260 (.pointer (some ⟨b, 0, none⟩))] t fr
  | o => o
/-- A world that meets the condition. -/
noncomputable def laidWorld (os : Os) : World :=
  let w0 := World.holding Tryz.prog os ⟨(errs.map fun p => Obj.cells #[S p.2] 262).toArray, #[], []⟩
  { w0 with heap := (errs.zipIdx.foldl (fun h p => setVar h p.1.1 (low + p.2)) w0.heap) }
theorem laidWorld_met (os : Os) (args : Array Value) : laidMet Tryz.prog Rows.fnWrOptionsRow.laid ((laidWorld os).forCall (fun _ _ => 0) ⟨#[], args, []⟩).memory :=
  laidMet_of_run' 8 (by kernel_rfl) (by kernel_rfl)
end Go.Proofs.YtochgglejmfelaaGreatDoor
