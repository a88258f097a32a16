/- The listed error of package index, as the walk knows it. (A part of the proof of this: for every input laws.FnIxStop returns true and its arguments read as they did, the listed package variables being what the program lays.) -/
import Derived.Test.YtochgglejmfelaaGreatDoorJ3
namespace Go.Proofs.YtochgglejmfelaaGreatDoor
open Go Go.Sl Go.Proofs Go.ChangeShapes Go.WideShapes Go.RowKit
set_option maxRecDepth 100000
theorem own : ownKnob Tryz.prog.godebug = none := by kernel_rfl
theorem c262 : Tryz.prog.cellsOf 262 = 1 := by kernel_rfl
theorem starE : "*" ++ "errors.errorString" = "*errors.errorString" := by decide
theorem row260 (u : TypeId) (h : Tryz.prog.typeName? 3 u = some "*errors.errorString") : u = 260 :=
  typeName_ptr_named (nm := "errors.errorString") (by rw [starE]; kernel_rfl) (by kernel_rfl) (by decide) u (by rw [starE]; exact h)
theorem obj_of_cell {W : World} {b off : Nat} {c : Array Value} {t : TypeId} {fr : Nat × Nat} {v : Value} (hb : W.heap[b]? = some (.cells c t fr)) (hc : W.cell? ⟨b, 0, none⟩ = some v) : ∃ tl, W.heap[b]? = some (.cells (v :: tl).toArray t fr) := by
  rw [World.cell?, hb] at hc
  have h0 : c.toList[0]? = some v := by simpa using hc
  cases hl : c.toList with
  | nil => rw [hl] at h0; simp at h0
  | cons a tl =>
    rw [hl] at h0
    simp only [List.getElem?_cons_zero, Option.some.injEq] at h0
    subst h0
    refine ⟨tl, ?_⟩
    rw [hb, ← hl]
theorem gNF : Tryz.prog.globalNamed "pub-droshky/pub/index.ErrNotFound" = some 4 := by kernel_rfl
theorem tNF : (Tryz.prog.globals[4]?).map (·.type) = some 80 := by kernel_rfl
theorem laid_at {P : Program} {W : World} {n : String} {d : DataW Unit} : ∀ {l : List (String × DataW Unit)} {ps : List MemPlace}, DataW.LaidVars P W l ps → (n, d) ∈ l →
    ∃ g t cs fuel p, P.globalNamed n = some g ∧ (P.globals[g]?).map (·.type) = some t ∧ W.var? P n = some cs ∧ DataW.trod (fun _ => ()) P W 0 (fun _ => true) false fuel t cs.toList = some (d, p) ∧ ∀ x ∈ MemPlace.row ⟨g, 0, none⟩ cs.size ++ p, x ∈ ps
  | (m, e) :: r, ps, h, hm => by
    obtain ⟨g, t, cs, fuel, p, q, h1, h2, h3, h4, h5, rfl⟩ := h
    rcases List.mem_cons.1 hm with e' | hm
    · obtain ⟨rfl, rfl⟩ := Prod.mk.injEq .. ▸ e'
      exact ⟨g, t, cs, fuel, p, h1, h2, h3, h4, fun x hx => List.mem_append_left _ hx⟩
    · obtain ⟨g', t', cs', f', p', k1, k2, k3, k4, k5⟩ := laid_at h5 hm
      exact ⟨g', t', cs', f', p', k1, k2, k3, k4, fun x hx => List.mem_append_right _ (k5 x hx)⟩
theorem notFound_of_laid {l : List (String × DataW Unit)} {W : World} (h : laidMet Tryz.prog l W) (hm : ("pub-droshky/pub/index.ErrNotFound", Rows.laid_pub_droshky_pub_index_ErrNotFound) ∈ l) : ∃ (G : HP) (gN : Addr) (t4 : List Value) (e4 : TypeId) (f4 : Nat × Nat), Has W G ∧ (4, Obj.cells (EV gN :: t4).toArray e4 f4) ∈ G := by
  obtain ⟨ps, hv, _, hrows⟩ := h
  obtain ⟨g0, t0, cs0, f0, p0, hg0, ht0, hv0, hd0, hin⟩ := laid_at hv hm
  obtain rfl := Option.some.inj (gNF.symm.trans hg0)
  obtain rfl := Option.some.inj (tNF.symm.trans ht0)
  obtain ⟨l0⟩ := cs0
  have ok0 : ∀ u v, l0 = [.iface u v] → Value.okWide Tryz.prog W .any 0 u v := fun u v e => by
    subst e
    exact (hrows 4 0 (hin _ (by simp [MemPlace.row]))).2 u v (by simpa using World.var?_cell hg0 hv0 0)
  obtain ⟨a0, s0, rfl, hc0, hs0, hz0, rfl⟩ := errorString_of_trod Tryz.underlying80 row260 Tryz.underlying260 Tryz.underlying262 rfl rfl Tryz.underlying9 c262 c9 hd0 ok0
  obtain ⟨c3, u3, hb3⟩ := (hrows 4 0 (hin _ (by simp [MemPlace.row]))).1
  obtain ⟨t3, h3⟩ := obj_of_cell (off := 0) hb3 (v := EV a0) (by simpa using World.var?_cell hg0 hv0 0)
  exact ⟨[(4, .cells (EV a0 :: t3).toArray u3 (0, 0))], a0, t3, u3, (0, 0), (fun p hp => by rcases List.mem_singleton.1 hp with rfl; exact h3), .head _⟩
end Go.Proofs.YtochgglejmfelaaGreatDoor
