/- What the row says of memory, in the walk's terms: entries that were handed in; the two errors of package io. (A part of the proof of this: for every input laws.FnIxStop returns true and its arguments read as they did, the listed package variables being what the program lays.) -/
import Derived.Test.YtochgglejmfelaaGreatDoorRows
import Derived.Deep.Slices
import Derived.ChangeSame
import Derived.ChangeVars
import Derived.JoinedOf
import Derived.RowKit
import Derived.RowKitTokens
import Derived.LaidLaws
import Derived.Stop.Joined
import Derived.Carry
import Derived.ChangeMaps5
import Derived.Test.YtochgglejmfelaaGreatDoorG11
namespace Go.Proofs.YtochgglejmfelaaGreatDoor
set_option maxRecDepth 100000
open Go Go.Sl Go.Proofs Go.ChangeShapes Go.WideShapes Go.RowKit
instance : Inhabited En := ⟨⟨0, 0, 0, [], 0⟩⟩
theorem len5 {α : Type} {l : List α} (h : l.length = 5) : ∃ a b c d e, l = [a, b, c, d, e] := by
  match l, h with
  | [a, b, c, d, e], _ => exact ⟨a, b, c, d, e, rfl⟩
theorem len4 {α : Type} {l : List α} (h : l.length = 4) : ∃ a b c d, l = [a, b, c, d] := by
  match l, h with
  | [a, b, c, d], _ => exact ⟨a, b, c, d, rfl⟩
theorem len2 {α : Type} {l : List α} (h : l.length = 2) : ∃ a b, l = [a, b] := by
  match l, h with
  | [a, b], _ => exact ⟨a, b, rfl⟩
section
variable {H : Type} {enc : TypeId × Value → H} {W : World} {spare : Nat → Bool} {held : Bool}
theorem c56 : Tryz.prog.cellsOf 56 = 5 := by kernel_rfl
theorem c25 : Tryz.prog.cellsOf 25 = 4 := by kernel_rfl
theorem c23 : Tryz.prog.cellsOf 23 = 1 := by kernel_rfl
theorem c9 : Tryz.prog.cellsOf 9 = 1 := by kernel_rfl
/-- An identifier's four cells. -/
theorem cid_of_trod {fuel : Nat} {cs : List Value} {x : DataW H × List MemPlace} (h : DataW.trod enc Tryz.prog W 0 spare held fuel 25 cs = some x) : ∃ (a b c : Int) (d : List UInt8), cs = [.int .u64 a, .int .u64 b, .int .u64 c, S d] ∧ (Lit.int .u64 a).wf = true ∧ (Lit.int .u64 b).wf = true ∧ (Lit.int .u64 c).wf = true := by
  obtain ⟨xs, n, _, _, hl, hxl, hf⟩ := DataW.trod_struct Tryz.underlying25 h
  rw [c25] at hl
  have k0 := hf 0 _ rfl
  have k1 := hf 1 _ rfl
  have k2 := hf 2 _ rfl
  have k3 := hf 3 _ rfl
  have hx : xs.length = 4 := by rw [hxl]; rfl
  clear hf
  obtain ⟨u0, u1, u2, u3, rfl⟩ := len4 hl
  obtain ⟨y0, y1, y2, y3, rfl⟩ := len4 hx
  simp only [c23, c9, List.getElem?_cons_zero, List.getElem?_cons_succ] at k0 k1 k2 k3
  obtain ⟨a, h0, _, wa⟩ := DataW.trod_int Tryz.underlying23 (x := y0) (cs := [u0]) k0
  obtain ⟨b, h1, _, wb⟩ := DataW.trod_int Tryz.underlying23 (x := y1) (cs := [u1]) k1
  obtain ⟨c, h2, _, wc⟩ := DataW.trod_int Tryz.underlying23 (x := y2) (cs := [u2]) k2
  obtain ⟨s, h3, _⟩ := DataW.trod_string Tryz.underlying9 (x := y3) (cs := [u3]) k3
  simp only [List.cons.injEq, and_true] at h0 h1 h2 h3
  exact ⟨a, b, c, s.data.toList, by rw [h0, h1, h2, h3], wa, wb, wc⟩
/-- A number of 64 bits is within its bounds. -/
theorem u64_wf {n : Int} (h : (Lit.int .u64 n).wf = true) : 0 ≤ n ∧ n < 18446744073709551616 := by
  simp [Lit.wf, IntKind.min, IntKind.max, IntKind.bits, IntKind.signed] at h
  omega
/-- An entry's five cells. -/
theorem entry_of_trod {fuel : Nat} {cs : List Value} {x : DataW H × List MemPlace} (h : DataW.trod enc Tryz.prog W 0 spare held fuel 56 cs = some x) : ∃ e : En, cs = cE e ∧ EnFit e := by
  obtain ⟨xs, n, _, _, hl, hxl, hf⟩ := DataW.trod_struct Tryz.underlying56 h
  rw [c56] at hl
  have k0 := hf 0 _ rfl
  have k1 := hf 1 _ rfl
  have hx : xs.length = 2 := by rw [hxl]; rfl
  clear hf
  obtain ⟨u0, u1, u2, u3, u4, rfl⟩ := len5 hl
  obtain ⟨y0, y1, rfl⟩ := len2 hx
  simp only [c23, c25, List.getElem?_cons_zero, List.getElem?_cons_succ] at k0 k1
  obtain ⟨a, b, c, d, h0, wa, wb, wc⟩ := cid_of_trod (x := y0) (cs := [u0, u1, u2, u3]) k0
  obtain ⟨o, h1, _, wo⟩ := DataW.trod_int Tryz.underlying23 (x := y1) (cs := [u4]) k1
  simp only [List.cons.injEq, and_true] at h0 h1
  obtain ⟨r0, r1, r2, r3⟩ := h0
  exact ⟨⟨a, b, c, d, o⟩, by rw [r0, r1, r2, r3, h1]; rfl, ⟨(u64_wf wa).1, (u64_wf wa).2, (u64_wf wb).1, (u64_wf wb).2, (u64_wf wc).1, (u64_wf wc).2, (u64_wf wo).1, (u64_wf wo).2⟩⟩
theorem cut_of_cells {b off n : Nat} (h0 : 0 < n) {c : Array Value} {e : TypeId} {fr : Nat × Nat} {cs : List Value} (hb : W.heap[b]? = some (.cells c e fr)) (h : W.cells? 0 ⟨b, off, none⟩ n = some cs) : CutL c.toList off n cs := by
  obtain ⟨_, hl, hc⟩ := World.cells?_some h
  have hc' : ∀ i, i < n → c.toList[off + i]? = cs[i]? := fun i hi => by
    rw [← hc i hi, add_addr, World.cell?, hb]; simp
  have hle : off + n ≤ c.toList.length := by
    have h1 := hc' (n - 1) (by omega)
    rw [List.getElem?_eq_getElem (by omega : n - 1 < cs.length)] at h1
    have := (List.getElem?_eq_some_iff.1 h1).1
    omega
  have e : cs = (c.toList.drop off).take n := by
    apply List.ext_getElem?
    intro i
    by_cases hi : i < n
    · rw [← hc' i hi, List.getElem?_take_of_lt hi, List.getElem?_drop]
    · rw [List.getElem?_eq_none (by omega), List.getElem?_eq_none (by simp; omega)]
  rw [e]
  exact CutL.of hle
/-- Entries that were handed in. -/
theorem entries_of_trod {v : Value} {d : DataW H} {ps : List MemPlace} (ho : v.oneCell' = true) (h : DataW.Trod enc Tryz.prog W 0 spare held 22 v d ps) : ∃ (G : HP) (l : List En), Has W G ∧ EnS G v l ∧ l.length ≤ maxLen ∧ (∀ A n cap, v = .slice A n cap → n ≤ cap) ∧ ∀ x ∈ l, EnFit x := by
  obtain ⟨fuel, h⟩ := h
  have hv : v.cells.toList = [v] := by cases v <;> first | rfl | simp [Value.oneCell'] at ho
  rw [hv] at h
  rcases Deep.open_slice Tryz.underlying22 h with ⟨h0, _⟩ | ⟨a, len, cap, m, n, D, Pl, hcs, _, hlc, hcap, hm, _, hel⟩
  · simp only [List.cons.injEq, and_true] at h0
    subst h0
    exact ⟨[], [], (fun _ h => by cases h), .none, Nat.zero_le _, (fun _ _ _ e => by cases e; omega), fun _ h => by cases h⟩
  · simp only [List.cons.injEq, and_true] at hcs
    subst hcs
    by_cases hl0 : len = 0
    · subst hl0
      exact ⟨[], [], (fun _ h => by cases h), .none, Nat.zero_le _, (fun _ _ _ e => by cases e; omega), fun _ h => by cases h⟩
    · have hlm : len ≤ m := by rw [hm]; split <;> omega
      rw [c56] at hel
      obtain ⟨cs0, hc0, _⟩ := hel 0 (by omega)
      obtain ⟨b, off, sp⟩ := a
      have hsp : sp = none ∧ ∃ c e fr, W.heap[b]? = some (.cells c e fr) := by
        obtain ⟨_, hl5, hc⟩ := World.cells?_some hc0
        have h1 := hc 0 (by decide)
        rw [List.getElem?_eq_getElem (by omega : 0 < cs0.length)] at h1
        have e0 : ((⟨b, off, sp⟩ : Addr).add (0 * 5)).add 0 = ⟨b, off, sp⟩ := by simp [Addr.add]
        rw [e0, World.cell?] at h1
        split at h1
        · rename_i c e fr hb
          split at h1
          · cases h1
          · rename_i hs
            exact ⟨by simpa using hs, c, e, fr, hb⟩
        · cases h1
      obtain ⟨rfl, c, e, fr, hb⟩ := hsp
      obtain ⟨f, hf⟩ := Deep.choose_lt (α := En) (n := len) (p := fun i x => CutL c.toList (off + i * 5) 5 (cE x) ∧ EnFit x) (fun i hi => by
        obtain ⟨cs, h1, h2⟩ := hel i (by omega)
        obtain ⟨x, rfl, hfx⟩ := entry_of_trod h2
        rw [add_addr] at h1
        exact ⟨x, cut_of_cells (by decide) hb h1, hfx⟩)
      refine ⟨[(b, .cells c.toList.toArray e fr)], (List.range len).map f, ?_, ?_, by simp; omega, (fun _ _ _ e => by cases e; exact hlc), ?_⟩
      · intro p hp
        rcases List.mem_singleton.1 hp with rfl
        simpa using hb
      · refine .blk (.head _) (by simp) (fun i hi => ?_)
        have hi' : i < len := by simpa using hi
        simpa using (hf i hi').1
      · intro x hx
        obtain ⟨i, hi, rfl⟩ := List.mem_map.1 hx
        exact (hf i (List.mem_range.1 hi)).2
/-- An identifier that was handed in. -/
theorem cid_of_arg {v : Value} {d : DataW H} {ps : List MemPlace} (h : DataW.Trod enc Tryz.prog W 0 spare held 25 v d ps) : ∃ x : En, v = .agg (cC x).toArray ∧ EnFit x := by
  obtain ⟨fuel, h⟩ := h
  obtain ⟨a, b, c, d, h0, wa, wb, wc⟩ := cid_of_trod h
  refine ⟨⟨a, b, c, d, 0⟩, ?_, ⟨(u64_wf wa).1, (u64_wf wa).2, (u64_wf wb).1, (u64_wf wb).2, (u64_wf wc).1, (u64_wf wc).2, Int.le_refl _, (show (0 : Int) < 18446744073709551616 by decide)⟩⟩
  cases v with
  | agg cs =>
    simp only [Value.cells] at h0
    show Value.agg cs = Value.agg [Value.int .u64 a, .int .u64 b, .int .u64 c, S d].toArray
    rw [← h0]
  | _ => simp [Value.cells] at h0
end
end Go.Proofs.YtochgglejmfelaaGreatDoor
