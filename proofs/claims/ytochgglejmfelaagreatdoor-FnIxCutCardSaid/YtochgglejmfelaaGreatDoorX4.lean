/- The listed errors, as the walk knows them. -/
import Derived.Test.YtochgglejmfelaaGreatDoorX3
namespace Go.Proofs.YtochgglejmfelaaGreatDoor
open Go Go.Sl Go.Proofs Go.ChangeShapes Go.WideShapes Go.RowKit
set_option maxRecDepth 100000
theorem own : ownKnob Tryz.prog.godebug = none := by kernel_rfl
theorem gEOF : Tryz.prog.globalNamed "io.EOF" = some 3 := by kernel_rfl
theorem gUEX : Tryz.prog.globalNamed "io.ErrUnexpectedEOF" = some 5 := by kernel_rfl
theorem tEOF : (Tryz.prog.globals[3]?).map (·.type) = some 80 := by kernel_rfl
theorem tUEX : (Tryz.prog.globals[5]?).map (·.type) = some 80 := by kernel_rfl
theorem c262 : Tryz.prog.cellsOf 262 = 1 := by kernel_rfl
theorem starE : "*" ++ "errors.errorString" = "*errors.errorString" := by decide
theorem row260 (u : TypeId) (h : Tryz.prog.typeName? 3 u = some "*errors.errorString") : u = 260 :=
  typeName_ptr_named (nm := "errors.errorString") (by rw [starE]; kernel_rfl) (by kernel_rfl) (by decide) u (by rw [starE]; exact h)
theorem obj_of_cell {W : World} {b off : Nat} {c : Array Value} {t : TypeId} {fr : Nat × Nat} {v : Value} (hb : W.heap[b]? = some (.cells c t fr)) (hc : W.cell? ⟨b, 0, none⟩ = some v) : ∃ tl, W.heap[b]? = some (.cells (v :: tl).toArray t fr) := by
  rw [World.cell?, hb] at hc
  have h0 : c.toList[0]? = some v := by simpa using hc
  cases hl : c.toList with
  | nil => rw [hl] at h0; simp at h0
  | cons a tl =>
    rw [hl] at h0
    simp only [List.getElem?_cons_zero, Option.some.injEq] at h0
    subst h0
    refine ⟨tl, ?_⟩
    rw [hb, ← hl]
/-- What the listed variables give a walk. -/
theorem errors_of_laid {l : List (String × DataW Unit)} {W : World} (h : laidMet Tryz.prog (("io.EOF", Rows.laid_io_EOF) :: ("io.ErrUnexpectedEOF", Rows.laid_io_ErrUnexpectedEOF) :: l) W) : ∃ (G : HP) (gE gU : Addr), Has W G ∧ Ge G gE gU := by
  obtain ⟨ps, ⟨g0, t0, cs0, f0, p0, q0, hg0, ht0, hv0, hd0, ⟨g1, t1, cs1, f1, p1, q1, hg1, ht1, hv1, hd1, hq1, e1⟩, e0⟩, hnd, hrows⟩ := h
  obtain rfl := Option.some.inj (gEOF.symm.trans hg0)
  obtain rfl := Option.some.inj (gUEX.symm.trans hg1)
  obtain rfl := Option.some.inj (tEOF.symm.trans ht0)
  obtain rfl := Option.some.inj (tUEX.symm.trans ht1)
  clear hq1
  subst e1
  subst e0
  obtain ⟨l0⟩ := cs0
  obtain ⟨l1⟩ := cs1
  have ok0 : ∀ u v, l0 = [.iface u v] → Value.okWide Tryz.prog W .any 0 u v := fun u v e => by
    subst e
    exact (hrows 3 0 (by simp [MemPlace.row])).2 u v (by simpa using World.var?_cell hg0 hv0 0)
  have ok1 : ∀ u v, l1 = [.iface u v] → Value.okWide Tryz.prog W .any 0 u v := fun u v e => by
    subst e
    exact (hrows 5 0 (by simp [MemPlace.row])).2 u v (by simpa using World.var?_cell hg1 hv1 0)
  obtain ⟨a0, s0, rfl, hc0, hs0, hz0, rfl⟩ := errorString_of_trod Tryz.underlying80 row260 Tryz.underlying260 Tryz.underlying262 rfl rfl Tryz.underlying9 c262 c9 hd0 ok0
  obtain ⟨a1, s1, rfl, hc1, hs1, hz1, rfl⟩ := errorString_of_trod Tryz.underlying80 row260 Tryz.underlying260 Tryz.underlying262 rfl rfl Tryz.underlying9 c262 c9 hd1 ok1
  obtain ⟨c0, u0, hb0⟩ := (hrows a0.block a0.off (by simp [MemPlace.row])).1
  obtain ⟨c1, u1, hb1⟩ := (hrows a1.block a1.off (by simp [MemPlace.row])).1
  obtain ⟨c3, u3, hb3⟩ := (hrows 3 0 (by simp [MemPlace.row])).1
  obtain ⟨c5, u5, hb5⟩ := (hrows 5 0 (by simp [MemPlace.row])).1
  obtain ⟨t3, h3⟩ := obj_of_cell (off := 0) hb3 (v := EV a0) (by simpa using World.var?_cell hg0 hv0 0)
  obtain ⟨t5, h5⟩ := obj_of_cell (off := 0) hb5 (v := EV a1) (by simpa using World.var?_cell hg1 hv1 0)
  refine ⟨[(3, .cells (EV a0 :: t3).toArray u3 (0, 0)), (5, .cells (EV a1 :: t5).toArray u5 (0, 0)), (a0.block, C c0.toList u0), (a1.block, C c1.toList u1)], a0, a1, ?_, ⟨⟨t3, u3, (0, 0), .head _⟩, ⟨t5, u5, (0, 0), .tail _ (.head _)⟩, ⟨c0.toList, u0, .tail _ (.tail _ (.head _))⟩, ⟨c1.toList, u1, .tail _ (.tail _ (.tail _ (.head _)))⟩, ?_⟩⟩
  · intro p hp
    simp only [List.mem_cons, List.not_mem_nil, or_false] at hp
    rcases hp with rfl | rfl | rfl | rfl
    · exact h3
    · exact h5
    · simpa using hb0
    · simpa using hb1
  · rintro rfl
    simp [MemPlace.row] at hnd
end Go.Proofs.YtochgglejmfelaaGreatDoor
