/- The stable sort gives the same entries in another order; The lengths of digests, each once, in order; The library's sort.Slice over numbers; The codes of hash functions, each once, in order; What an index has besides its codes: the entries sorted by digests, by lengths; spec.IndexBody; spec.IndexBytes; What is cut off of an index within its numbers; The parts of an index, read; A part written; The parts of an index with codes, read; Rows of numbers, sorted in memory: comparisons, insertion sort; Rows of numbers, sorted in memory: heaps; Rows of numbers, sorted in memory: the pivot; Rows of numbers, sorted in memory: turning a range, partial insertion. (A part of the proof of this: for every input laws.FnIxMakeHeads returns true and its arguments read as they did, the listed package variables being what the program lays) -/
import Derived.Test.YtochgglejmfelaaGreatDoorG06
import Derived.Test.YtochgglejmfelaaGreatDoorSlZ
import Derived.Test.YtochgglejmfelaaGreatDoorProg
import Derived.Shelf.Slices.In.SortNone2
import Derived.Shelf.Sort.Plain
import Derived.Shelf.GgSortFunc.Whole
import Derived.KernelRfl
import Derived.Test.YtochgglejmfelaaGreatDoorG03
import Derived.Sort.Grow
import Derived.Deep.QuietTactic
import Derived.Shelf.GgSortFunc.Tiny
import Derived.Sort.LotA
import Derived.WalkKit
set_option linter.unusedVariables false
set_option linter.unusedSimpArgs false
namespace Go.Proofs
open Go Go.Sl
theorem sw_perm (l : List En) (i j : Nat) : (sw l i j).Perm l := by
  unfold sw
  split
  · rename_i h
    have h2 := Array.swap_perm (xs := l.toArray) (i := i) (j := j) (by simpa using h.1) (by simpa using h.2)
    rw [Array.perm_iff_toList_perm] at h2
    simpa [swapL] using h2
  · exact .refl _
theorem swR_perm (l : List En) (a b m : Nat) : (swR l a b m).Perm l := by
  induction m with
  | zero => exact .refl _
  | succ m ih => rw [swR]; exact (sw_perm ..).trans ih
theorem rotL_perm (m f : Nat) (l : List En) (i j : Nat) : (rotL m f l i j).Perm l := by
  induction f generalizing l i j with
  | zero => exact .refl _
  | succ f ih =>
    simp only [rotL]
    split
    · exact swR_perm ..
    · split
      · exact (ih ..).trans (swR_perm ..)
      · exact (ih ..).trans (swR_perm ..)
theorem insJ_perm (a j : Nat) (l : List En) : (insJ a j l).Perm l := by
  induction j generalizing l with
  | zero => exact .refl _
  | succ j ih =>
    simp only [insJ]
    split
    · exact (ih _).trans (sw_perm ..)
    · exact .refl _
theorem isortN_perm (a k : Nat) (l : List En) : (isortN a k l).Perm l := by
  induction k with
  | zero => exact .refl _
  | succ k ih => rw [isortN]; exact (insJ_perm ..).trans ih
theorem upS_perm (l : List En) (k c : Nat) : (upS l k c).Perm l := by
  induction c with
  | zero => exact .refl _
  | succ c ih => rw [upS]; exact (sw_perm ..).trans ih
theorem dnS_perm (l : List En) (k c : Nat) : (dnS l k c).Perm l := by
  induction c with
  | zero => exact .refl _
  | succ c ih => rw [dnS]; exact (sw_perm ..).trans ih
theorem symM_perm : ∀ (f : Nat) (l : List En) (a m b : Nat), (symM f l a m b).Perm l := by
  intro f
  induction f with
  | zero => intros; exact .refl _
  | succ f ih =>
    intro l a m b
    simp only [symM]
    split
    · exact upS_perm ..
    · split
      · exact dnS_perm ..
      · split <;> (repeat (first | exact .refl _ | exact rotL_perm .. | refine (ih ..).trans ?_ | split))
theorem isP_perm (n : Nat) : ∀ (f a : Nat) (l : List En), (isP n f a l).Perm l := by
  intro f
  induction f with
  | zero => intro a l; exact isortN_perm ..
  | succ f ih =>
    intro a l; simp only [isP]
    split
    · exact (ih ..).trans (isortN_perm ..)
    · exact isortN_perm ..
theorem mgP_perm (n s : Nat) : ∀ (f a : Nat) (l : List En), (mgP n s f a l).Perm l := by
  intro f
  induction f with
  | zero =>
    intro a l; simp only [mgP]
    split
    · exact symM_perm ..
    · exact .refl _
  | succ f ih =>
    intro a l; simp only [mgP]
    split
    · exact (ih ..).trans (symM_perm ..)
    · split
      · exact symM_perm ..
      · exact .refl _
theorem stM_perm (n : Nat) : ∀ (f s : Nat) (l : List En), (stM n f s l).Perm l := by
  intro f
  induction f with
  | zero => intros; exact .refl _
  | succ f ih =>
    intro s l; simp only [stM]
    split
    · exact (ih ..).trans (mgP_perm ..)
    · exact .refl _
theorem stable_perm (l : List En) : (stable l).Perm l := by rw [stable]; exact (stM_perm ..).trans (isP_perm ..)
end Go.Proofs
namespace Go.Proofs
open Go Go.Sl Tryz
set_option maxRecDepth 100000
set_option maxHeartbeats 1000000
def lens (l : List En) : List Int := l.map fun x => (x.d.length : Int)
def widths (l : List En) : List Int := srt (distI (lens l))
end Go.Proofs
namespace Go.Proofs
open Go Go.Sl Tryz Go.RowKit
set_option maxRecDepth 100000
theorem k5 {n : Nat} (h : 2 ≤ n) : Lib.swapperK n t23 11 = 5 := by
  have h0 : (n == 0) = false := by simp; omega
  have h1 : (n == 1) = false := by simp; omega
  simp only [Lib.swapperK, h0, h1, Bool.false_eq_true, if_false]
  rfl
end Go.Proofs
namespace Go.Proofs
open Go Go.Sl Tryz
set_option maxRecDepth 100000
set_option maxHeartbeats 1000000
def hcs (l : List En) : List Int := l.map fun x => x.h
def codes (l : List En) : List Int := srt (distI (hcs l))
end Go.Proofs
namespace Go.Proofs
open Go Go.Sl
set_option maxRecDepth 100000
set_option maxHeartbeats 1000000
def rowsB (st : List En) (n : Int) : List UInt8 := (st.filter fun x => decide ((x.d.length : Int) = n)).flatMap fun x => x.d ++ lowB x.o 8
def partB (st : List En) (n : Int) : List UInt8 := lowB (n + 8) 4 ++ (lowB ((rowsB st n).length : Nat) 8 ++ rowsB st n)
def sortedB (l : List En) : List UInt8 := lowB ((widths l).length : Nat) 4 ++ (widths l).flatMap (partB (stable l))
theorem rowsB_length (st : List En) (n : Int) (k : Nat) (hd : ∀ x ∈ st, x.d.length ≤ k) : (rowsB st n).length ≤ st.length * (k + 8) := by
  induction st with
  | nil => simp [rowsB]
  | cons x st ih =>
    have h1 := ih (fun y hy => hd y (.tail _ hy))
    have h2 := hd x (.head _)
    have e : rowsB (x :: st) n = (if (x.d.length : Int) = n then x.d ++ lowB x.o 8 else []) ++ rowsB st n := by
      simp only [rowsB, List.filter_cons]
      by_cases hc : (x.d.length : Int) = n <;> simp [hc]
    rw [e, List.length_append, List.length_cons, Nat.add_mul]
    have : (if (x.d.length : Int) = n then x.d ++ lowB x.o 8 else []).length ≤ k + 8 := by
      split
      · simp [lowB_length]; omega
      · simp
    omega
theorem partB_length (st : List En) (n : Int) (hd : ∀ x ∈ st, x.d.length ≤ 200) (hl : st.length ≤ 100) : (partB st n).length ≤ 21000 := by
  have := rowsB_length st n 200 hd
  have h2 : st.length * 208 ≤ 100 * 208 := Nat.mul_le_mul_right _ hl
  simp only [partB, List.length_append, lowB_length]
  omega
theorem flat_length (W : List Int) (f : Int → List UInt8) (k : Nat) (h : ∀ n, (f n).length ≤ k) : (W.flatMap f).length ≤ W.length * k := by
  induction W with
  | nil => simp
  | cons a W ih => simp only [List.flatMap_cons, List.length_append, List.length_cons, Nat.add_mul]; have := h a; omega
theorem widths_mem {l : List En} {a : Int} : a ∈ widths l ↔ ∃ x ∈ l, (x.d.length : Int) = a := by
  rw [widths, srt_mem, distI_mem, lens, List.mem_map]
theorem widths_len (l : List En) : (widths l).length ≤ l.length := by
  rw [widths, srt_length]
  exact Nat.le_trans (distI_length _) (by simp [lens])
theorem sortedB_length (l : List En) (hd : ∀ x ∈ l, x.d.length ≤ 200) (hl : l.length ≤ 100) : (sortedB l).length ≤ 2200000 := by
  have h1 := flat_length (widths l) (partB (stable l)) 21000 (fun n => partB_length _ n (fun x hx => hd x ((stable_perm l).mem_iff.1 hx)) (by rw [stable_length]; exact hl))
  have h2 := widths_len l
  have h3 : (widths l).length * 21000 ≤ 100 * 21000 := Nat.mul_le_mul_right _ (by omega)
  simp only [sortedB, List.length_append, lowB_length]
  omega
end Go.Proofs
namespace Go.Sl
open Go
theorem B_inj {a b : List UInt8} (h : B a = B b) : a = b := by
  induction a generalizing b with
  | nil => cases b with
    | nil => rfl
    | cons y b => simp [B] at h
  | cons x a ih => cases b with
    | nil => simp [B] at h
    | cons y b =>
      simp only [B, List.map_cons, List.cons.injEq, Value.int.injEq, true_and] at h
      rw [ih (show B a = B b from h.2), UInt8.toNat_inj.1 (by omega : x.toNat = y.toNat)]
/-- A string of bytes that a slice holds. -/
theorem e_bsO {x : Cx} {s : Slots} {H HB : HP} {d n : Nat} {p : Operand} {ty t t' e : TypeId} {pos : String} {af : Array Edge} {gd' : Option (Nat × Bool)} {v : Value} {bs : List UInt8} (hU : x.P.underlying t = some (.slice e)) (hU8 : x.P.underlying e = some (.int .u8)) (hU' : x.P.underlying t' = some .string) (ho : Osl e 1 v n (B bs) HB) (hm : ∀ p ∈ HB, p ∈ H) (hp : ev s p = some v) :
    Ex x s H ⟨some d, .convert t t' p, ty, pos, af, gd'⟩ (S bs) := by
  generalize hX : B bs = X at ho
  cases ho with
  | nil =>
    obtain rfl : bs = [] := B_inj (b := []) hX
    exact e_bsn hU hU8 hU' hp
  | @own g n cap lo hi xs rest a1 a2 a3 a4 a5 =>
    subst hX
    refine e_bs hU hU8 hU' hp (.inl (hm _ (.head _))) ?_
    have := CutL.of (l := B bs ++ rest) (i := 0) (n := n) (by simp; omega)
    simpa [← (show (B bs).length = n by omega)] using this
end Go.Sl
namespace Go.Proofs
open Go Go.Sl Tryz
set_option maxRecDepth 100000
set_option maxHeartbeats 2000000
def codeB (l : List En) (c : Int) : List UInt8 := lowB c 8 ++ sortedB (codedL l c)
def bodyB (l : List En) (kind : Int) : List UInt8 := if kind = 1024 then sortedB l else lowB ((codes l).length : Nat) 4 ++ (codes l).flatMap (codeB l)
theorem codedL_len (l : List En) (c : Int) : (codedL l c).length ≤ l.length := List.length_filter_le _ _
theorem codedL_mem {l : List En} {c : Int} {x : En} (h : x ∈ codedL l c) : x ∈ l := (List.mem_filter.1 h).1
theorem codeB_length (l : List En) (c : Int) (hd : ∀ x ∈ l, x.d.length ≤ 200) (hl : l.length ≤ 100) : (codeB l c).length ≤ 2200008 := by
  have := sortedB_length (codedL l c) (fun x hx => hd x (codedL_mem hx)) (Nat.le_trans (codedL_len l c) hl)
  simp only [codeB, List.length_append, lowB_length]
  omega
theorem codes_len (l : List En) : (codes l).length ≤ l.length := by
  rw [codes, srt_length]
  exact Nat.le_trans (distI_length _) (by simp [hcs])
end Go.Proofs
namespace Go.Proofs
open Go Go.Sl Tryz
set_option maxRecDepth 100000
set_option maxHeartbeats 2000000
/-- What begins an index. -/
def kindB (kind : Int) : List UInt8 := if kind = 1024 then [128, 8] else [129, 8]
def indexB (l : List En) (kind : Int) : List UInt8 := kindB kind ++ bodyB l kind
theorem kindB_length (kind : Int) : (kindB kind).length = 2 := by unfold kindB; split <;> rfl
end Go.Proofs
namespace Go.Proofs
open Go Go.Sl
theorem codes_mem {l : List En} {a : Int} : a ∈ codes l ↔ ∃ x ∈ l, x.h = a := by
  rw [codes, srt_mem, distI_mem, hcs, List.mem_map]
end Go.Proofs
namespace Go.Proofs
open Go Go.Sl Tryz
set_option maxRecDepth 100000
set_option maxHeartbeats 1000000
/-- A part: the width of its rows, the rows. -/
abbrev Part := Nat × List UInt8
def pbB (p : Part) : List UInt8 := lowB (p.1 : Nat) 4 ++ (lowB (p.2.length : Nat) 8 ++ p.2)
theorem pbB_length (p : Part) : (pbB p).length = 12 + p.2.length := by simp [pbB, lowB_length]; omega
/-- A part in memory: its rows' block, the part. -/
abbrev Mpart := Nat × Part
def MV (ts : List Mpart) : List (Int × Value) := ts.map fun t => ((t.2.1 : Nat), .agg #[.int .u32 (t.2.1 : Nat), .int .u64 (t.2.2.length / t.2.1 : Nat), .slice (some ⟨t.1, 0, none⟩) t.2.2.length t.2.2.length])
def MB (ts : List Mpart) : HP := ts.map fun t => (t.1, C (B t.2.2) 5)
theorem MV_none {ts : List Mpart} {w : Nat} (h : w ∉ ts.map fun t => t.2.1) : mget (MV ts) (w : Nat) = none := by
  induction ts with
  | nil => rfl
  | cons t ts ih =>
    simp only [List.map_cons, List.mem_cons, not_or] at h
    simp only [MV, List.map_cons, mget]
    rw [if_neg (by omega)]
    exact ih h.2
/-- What a part may be. -/
structure PartOk (p : Part) : Prop where
  h1 : 8 ≤ p.1
  h2 : p.1 ≤ 33554432
  h3 : 0 < p.2.length
theorem drop_at {a b bs : List UInt8} {p : Nat} (h : bs = a ++ b) (hp : a.length = p) : bs.drop p = b := by
  subst hp; subst h; simp
theorem flat_split {ps : List Part} {i : Nat} (h : i < ps.length) : ps.flatMap pbB = (ps.take i).flatMap pbB ++ (pbB ps[i] ++ (ps.drop (i + 1)).flatMap pbB) := by
  have e : ps = ps.take i ++ (ps[i] :: ps.drop (i + 1)) := by simp
  conv => lhs; rw [e]
  rw [List.flatMap_append, List.flatMap_cons]
theorem flat_succ {ps : List Part} {i : Nat} (h : i < ps.length) : (ps.take (i + 1)).flatMap pbB = (ps.take i).flatMap pbB ++ pbB ps[i] := by
  rw [List.take_succ_eq_append_getElem h, List.flatMap_append]; simp
end Go.Proofs
namespace Go.Proofs
open Go Go.Sl Tryz
set_option maxRecDepth 100000
set_option maxHeartbeats 1000000
section
variable {G : HP} {g gb gd : Nat} {bs d : List UInt8} {HB : HP} {lr : Int} {v : Value}
theorem swiM_is {w : Nat} {q : Int} (hb : Bb v bs HB) (hg : (g, C [.int .u32 w, .int .u64 q, .slice (some ⟨gd, 0, none⟩) d.length d.length] 448) ∈ G) (hd : (gd, DB d [] 0 0) ∈ G) (h0 : 0 < d.length) (h1 : d.length < 536870912) (h2 : bs.length < 536870912) :
    Ctr prog 340 [.pointer (some ⟨g, 0, none⟩), .iface 89 (.pointer (some ⟨gb, 0, none⟩))] G ((gb, Bu v lr) :: HB) (fun r H' => ∃ (z : Int) (v' : Value) (HB' : HP), r = .tuple #[.int .u64 z, .nilIface] ∧ Bb v' (bs ++ pbB (w, d)) HB' ∧ H' = (gb, Bu v' 0) :: HB') := by
  refine fn_enter 53 func340 rfl ntmps340 rfl ?_
  intro w0
  refine gn 19 ?_
  refine oL (lC (w32_is (k := w) hb (by omega)) rfl (.cons .head (by simpa using Sel.app HB []))) ?_
  rintro ⟨r, H'⟩ ⟨rfl, v1, HB1, hb1, rfl⟩
  simp only [List.cons_append, List.append_nil]
  refine gn 29 ?_
  refine oL (lC (w64_is (k := d.length) hb1 (by simp [lowB_length]; omega)) rfl (.cons .head (by simpa using Sel.app HB1 []))) ?_
  rintro ⟨r, H'⟩ ⟨rfl, v2, HB2, hb2, rfl⟩
  simp only [List.cons_append, List.append_nil]
  refine gn 20 ?_
  refine c_regiong [8] (by kernel_rfl) ?_
  refine lg [0, 1, 2, 3, 1004, 5, 6, 7] ?_
  refine gL 8 rfl (lI (write_is hb2 hd rfl h0 (by omega) (by simp [lowB_length]; omega) (by intro h; simp [lowB] at h) (Nat.le_refl _)) rfl rfl (.cons .head (by simpa using Sel.app HB2 []))) ?_
  rintro ⟨r, H'⟩ ⟨v3, HB3, rfl, hb3, rfl⟩
  simp only [List.cons_append, List.append_nil]
  refine ld [9, 10, 11, 12, 13] ?_
  refine gn 14 ?_
  refine r_fn (l := [.tmp 4, .tmp 5]) results340 rfl rfl ?_
  refine ⟨_, v3, HB3, rfl, ?_, rfl⟩
  simpa [pbB] using hb3
end
end Go.Proofs
namespace Go.Proofs
open Go Go.Sl Tryz
set_option maxRecDepth 100000
set_option maxHeartbeats 1000000
/-- A code and its parts. -/
abbrev Cpart := Nat × List Part
def pmB (ps : List Part) : List UInt8 := lowB (ps.length : Nat) 4 ++ ps.flatMap pbB
def pcB (c : Cpart) : List UInt8 := lowB (c.1 : Nat) 8 ++ pmB c.2
theorem pmB_length (ps : List Part) : (pmB ps).length = 4 + (ps.flatMap pbB).length := by simp [pmB, lowB_length]
theorem pcB_length (c : Cpart) : (pcB c).length = 12 + (c.2.flatMap pbB).length := by simp [pcB, pmB_length, lowB_length]; omega
/-- A code's parts in memory: the block, the map's block, the code, the parts. -/
structure Mcode where
  gc : Nat
  gx : Nat
  code : Nat
  ts : List Mpart
def Mcode.hp (m : Mcode) : HP := (m.gc, C [.map (some m.gx), .int .u64 m.code] 437) :: (m.gx, Mo .u32 (MV m.ts)) :: MB m.ts
def KV (cs : List Mcode) : List (Int × Value) := cs.map fun m => ((m.code : Nat), .pointer (some ⟨m.gc, 0, none⟩))
def KB (cs : List Mcode) : HP := cs.flatMap Mcode.hp
theorem KV_snoc (cs : List Mcode) (m : Mcode) : KV (cs ++ [m]) = KV cs ++ KV [m] := by simp [KV]
theorem KB_snoc (cs : List Mcode) (m : Mcode) : KB (cs ++ [m]) = KB cs ++ m.hp := by simp [KB]
theorem KV_none {cs : List Mcode} {c : Nat} (h : c ∉ cs.map fun t => t.code) : mget (KV cs) (c : Nat) = none := by
  induction cs with
  | nil => rfl
  | cons t cs ih =>
    simp only [List.map_cons, List.mem_cons, not_or] at h
    simp only [KV, List.map_cons, mget]
    rw [if_neg (by omega)]
    exact ih h.2
theorem cflat_split {cs : List Cpart} {i : Nat} (h : i < cs.length) : cs.flatMap pcB = (cs.take i).flatMap pcB ++ (pcB cs[i] ++ (cs.drop (i + 1)).flatMap pcB) := by
  have e : cs = cs.take i ++ (cs[i] :: cs.drop (i + 1)) := by simp
  conv => lhs; rw [e]
  rw [List.flatMap_append, List.flatMap_cons]
theorem cflat_succ {cs : List Cpart} {i : Nat} (h : i < cs.length) : (cs.take (i + 1)).flatMap pcB = (cs.take i).flatMap pcB ++ pcB cs[i] := by
  rw [List.take_succ_eq_append_getElem h, List.flatMap_append]; simp
theorem Rem.app (A : HP) {B B' : HP} {p : Nat × Obj} (h : Rem B p B') : Rem (A ++ B) p (A ++ B') := by
  induction A with
  | nil => exact h
  | cons _ _ ih => exact .tail ih
section
variable {G : HP} {gr gs gm gx gc gX em n cap i0 lo hi : Nat} {bs pre post : List UInt8} {rest zs : List Value}
theorem put_is {gh c : Nat} {ks : List (Int × Value)} {z : Value} (hz : mget ks (c : Nat) = none) :
    Ctr prog 317 [.pointer (some ⟨gh, 0, none⟩), .pointer (some ⟨gc, 0, none⟩)] G [(gX, Mo .u64 ks), (gc, C [z, .int .u64 c] 437), (gh, C [.map (some gX)] em)] (fun _ H' => H' = [(gX, Mo .u64 (ks ++ [(((c : Nat) : Int), Value.pointer (some ⟨gc, 0, none⟩))])), (gc, C [z, .int .u64 c] 437), (gh, C [.map (some gX)] em)]) := by
  refine fn_enter 12 func317 rfl ntmps317 rfl ?_
  intro w0
  refine c_regiong [8] (by kernel_rfl) ?_
  refine lg [0, 1, 1002, 3, 4, 5, 1006, 7] ?_
  refine gL 8 rfl (l_mapup runUnderlying330 runUnderlying23 rfl rfl rfl .head) ?_
  intro _ _
  rw [mset_new _ hz]
  refine gn 1 ?_
  refine n_fn0 results317 ?_
  rfl
end
end Go.Proofs
namespace Go.Proofs.A4
open Go Go.Sl Tryz
set_option maxRecDepth 100000
set_option maxHeartbeats 1000000
section
variable {G : HP} {g n cap lo hi : Nat} {rest : List Value} {l : List Int}
theorem nan_is {a : Int} : CtrP prog 384 [.int .u32 a] G (.bool false) := by
  refine fn_enter 6 func384 rfl ntmps384 rfl ?_
  intro w0
  refine gn 14 ?_
  refine r_fn1 results384 rfl ?_
  simp
theorem less_is {a b : Int} : CtrP prog 376 [.int .u32 a, .int .u32 b] G (.bool (decide (a < b))) := by
  refine fn_enter 17 func376 rfl ntmps376 rfl ?_
  intro w0
  refine gn 8 ?_
  refine o_pure rfl call384 (nan_is) rfl rfl ?_
  refine gn 14 ?_
  refine r_fn1 results376 rfl ?_
  exact ⟨rfl, rfl⟩
theorem ins_is {a b : Nat} (hn : l.length = n) (hf : n ≤ lo ∨ hi = 0) (h1 : n ≤ 100000) (hab : a ≤ b) (hb : b ≤ n) :
    Ctr prog 370 [.slice (some ⟨g, 0, none⟩) n cap, .int .i64 a, .int .i64 b] G [(g, VB .u32 l rest 212 lo hi)] (fun r H' => r = .tuple #[] ∧ ∃ l', (PR a b l l' ∧ SR a b l') ∧ H' = [(g, VB .u32 l' rest 212 lo hi)]) := by
  refine fn_enter 49 func370 rfl ntmps370 rfl ?_
  intro w0
  refine gn 8 ?_
  refine c_loop (X := List Int × Nat) (fun y => [(0, .slice (some ⟨g, 0, none⟩) n cap), (1, .int .i64 a), (2, .int .i64 b), (6, .int .i64 (a + 1 + y.2 : Nat))]) (fun y => [(g, VB .u32 y.1 rest 212 lo hi)]) (fun y => PR a b l y.1 ∧ SR a (a + 1 + y.2) y.1 ∧ (y.2 = 0 ∨ a + 1 + y.2 ≤ b)) (fun y => b - y.2) (l, 0) ⟨.refl, .small (by omega), .inl rfl⟩ aK (.refl _) ?_
  rintro ⟨m, i⟩ ⟨hp, hs, hi0⟩
  simp only at hp hs hi0 ⊢
  refine gn 8 ?_
  refine c_ifp rfl (fun h2 => ?_) (fun h2 => ?_)
  · refine gn 11 ?_
    refine c_loop (X := List Int × Nat) (fun y => [(0, .slice (some ⟨g, 0, none⟩) n cap), (1, .int .i64 a), (2, .int .i64 b), (6, .int .i64 (a + 1 + i : Nat)), (7, .int .i64 y.2)]) (fun y => [(g, VB .u32 y.1 rest 212 lo hi)]) (fun y => PR a b l y.1 ∧ Ins a y.2 (a + 1 + i + 1) y.1 ∧ a ≤ y.2 ∧ y.2 ≤ a + 1 + i) (fun y => y.2) (m, a + 1 + i) ⟨hp, .start hs, by omega, Nat.le_refl _⟩ aK (.refl _) ?_
    rintro ⟨q, j⟩ ⟨hq, hi, haj, hj⟩
    simp only at hq hi haj hj ⊢
    have hl := hq.len
    refine gn 7 ?_
    refine q_splitp 19 rfl (fun h3 => ?_) (fun h3 => ?_)
    · refine gr 9 ?_
      refine q_pure rfl call376 (less_is) rfl rfl ?_
      refine gn 3 ?_
      refine c_if rfl (fun h4 => ?_) (fun h4 => ?_)
      · refine gn 4 ?_
        refine c_regiong [15, 17] (by kernel_rfl) ?_
        refine rg [0, 1, 2, 3, 4, 5, 6, 7, 8, 1009, 10, 11, 12, 1013, 14] ?_
        refine gR 15 ?_
        intro _ _
        refine ld [16] ?_
        refine dR 17 ?_
        intro _ _
        refine gn 8 ?_
        have hjl : j < q.length := by omega
        refine n_round' (y := (q, j)) (swp q j (j - 1), j - 1) (by show j - 1 < j; omega) ?_ aK _ (.refl _) (List.Sublist.refl _)
        exact ⟨hq.swap (by omega) (by omega) (by omega) (by omega) (by omega), hi.step (of_decide_eq_true h4) (by omega) (by omega) (by omega), by show a ≤ j - 1; omega, by show j - 1 ≤ a + 1 + i; omega⟩
      · skip
        refine gn 11 ?_
        refine n_round' (y := (m, i)) (q, i + 1) (by show b - (i + 1) < b - i; omega) ?_ aK _ (.refl _) (List.Sublist.refl _)
        exact ⟨hq, hi.stop (.inr (of_decide_eq_false h4)), .inr (by show a + 1 + (i + 1) ≤ b; omega)⟩
    · skip
      refine gn 25 ?_
      refine n_round' (y := (m, i)) (q, i + 1) (by show b - (i + 1) < b - i; omega) ?_ aK _ (.refl _) (List.Sublist.refl _)
      exact ⟨hq, hi.stop (.inl (by omega)), .inr (by show a + 1 + (i + 1) ≤ b; omega)⟩
  · skip
    refine gn 4 ?_
    refine n_fn0 results370 ?_
    exact ⟨rfl, m, ⟨hp, hs.less (Nat.le_refl _) (by omega)⟩, rfl⟩
end
end Go.Proofs.A4
namespace Go.Proofs.A4
open Go Go.Sl Tryz
set_option maxRecDepth 100000
set_option maxHeartbeats 1000000
section
variable {G : HP} {g n cap lo hi : Nat} {rest : List Value} {l : List Int}
theorem sift_is {f s h : Nat} (hn : l.length = n) (hf : n ≤ lo ∨ hi = 0) (h1 : n ≤ 100000) (hb : f + h ≤ n) (hs : s ≤ h) (hp : Hp f (s + 1) h l) :
    Ctr prog 381 [.slice (some ⟨g, 0, none⟩) n cap, .int .i64 s, .int .i64 h, .int .i64 f] G [(g, VB .u32 l rest 212 lo hi)] (fun r H' => r = .tuple #[] ∧ ∃ l', (PR (f + s) (f + h) l l' ∧ Hp f s h l') ∧ H' = [(g, VB .u32 l' rest 212 lo hi)]) := by
  refine fn_enter 76 func381 rfl ntmps381 rfl ?_
  intro w0
  refine gn 7 ?_
  refine c_loop (X := List Int × Nat) (fun y => [(0, .slice (some ⟨g, 0, none⟩) n cap), (2, .int .i64 h), (3, .int .i64 f), (8, .int .i64 y.2)]) (fun y => [(g, VB .u32 y.1 rest 212 lo hi)]) (fun y => PR (f + s) (f + h) l y.1 ∧ HQ f s h y.2 y.1 ∧ (y.2 = s ∨ y.2 < h)) (fun y => 2 * h - y.2) (l, s) ⟨.refl, .start hp, .inl rfl⟩ aK (.refl _) ?_
  rintro ⟨m, i⟩ ⟨hm, hq, hi0⟩
  simp only at hm hq hi0 ⊢
  have hl := hm.len
  have hsi := hq.le
  refine gn 17 ?_
  refine c_ifp rfl (fun h2 => ?_) (fun h2 => ?_)
  · refine gn 5 ?_
    refine n_fn0 results381 ?_
    exact ⟨rfl, m, ⟨hm, hq.stop fun c h3 h4 => by omega⟩, rfl⟩
  · skip
    refine gn 3 ?_
    refine c_cut (X := Nat) (fun c => [(0, .slice (some ⟨g, 0, none⟩) n cap), (2, .int .i64 h), (3, .int .i64 f), (8, .int .i64 i), (9, .int .i64 c)]) (fun _ => [(g, VB .u32 m rest 212 lo hi)]) (fun d => (d = 2 * i + 1 ∨ d = 2 * i + 2) ∧ d < h ∧ ∀ c, c = 2 * i + 1 ∨ c = 2 * i + 2 → c < h → gd m (f + c) ≤ gd m (f + d)) ?_ ?_
    · skip
      refine gn 7 ?_
      refine q_splitp 21 rfl (fun h3 => ?_) (fun h3 => ?_)
      · refine gr 13 ?_
        refine q_pure rfl call376 (less_is) rfl rfl ?_
        refine gn 3 ?_
        refine c_if rfl (fun h4 => ?_) (fun h4 => ?_)
        · have h4' := of_decide_eq_true h4
          refine gn 5 ?_
          refine n_cut (2 * i + 2) ⟨.inr rfl, by omega, fun c h5 h6 => ?_⟩ aK (.refl _)
          rcases h5 with rfl | rfl
          · rw [← Nat.add_assoc f]; exact Int.le_of_lt h4'
          · exact Int.le_refl _
        · have h4' := of_decide_eq_false h4
          refine gn 1 ?_
          refine n_cut (2 * i + 1) ⟨.inl rfl, by omega, fun c h5 h6 => ?_⟩ aK (.refl _)
          rcases h5 with rfl | rfl
          · exact Int.le_refl _
          · exact Int.not_lt.1 h4'
      · skip
        refine gn 19 ?_
        refine n_cut (2 * i + 1) ⟨.inl rfl, by omega, fun c h5 h6 => ?_⟩ aK (.refl _)
        rcases h5 with rfl | rfl
        · exact Int.le_refl _
        · omega
    · rintro d ⟨hd, hdh, hmax⟩
      refine gr 16 ?_
      refine q_pure rfl call376 (less_is) rfl rfl ?_
      refine gn 3 ?_
      refine c_if rfl (fun h5 => ?_) (fun h5 => ?_)
      · have h5' : ¬ gd m (f + i) < gd m (f + d) := by simpa using h5
        refine gn 1 ?_
        refine r_fn0 results381 ?_
        exact ⟨rfl, m, ⟨hm, hq.stop fun c h6 h7 => Int.le_trans (hmax c h6 h7) (Int.not_lt.1 h5')⟩, rfl⟩
      · skip
        have h5' : gd m (f + i) < gd m (f + d) := by simpa using h5
        refine gn 3 ?_
        refine c_regiong [21, 23] (by kernel_rfl) ?_
        refine rg [0, 1, 2, 3, 4, 5, 6, 7, 8, 9, 10, 11, 12, 1013, 14, 15, 16, 17, 18, 1019, 20] ?_
        refine gR 21 ?_
        intro _ _
        refine ld [22] ?_
        refine dR 23 ?_
        intro _ _
        refine gn 7 ?_
        refine n_round' (y := (m, i)) (swp m (f + i) (f + d), d) (by show 2 * h - d < 2 * h - i; omega) ?_ aK _ (.refl _) (List.Sublist.refl _)
        exact ⟨hm.swap (by omega) (by omega) (by omega) (by omega) (by omega), hq.step hd hdh (by omega) hmax h5', .inr hdh⟩
theorem heap_is {a b : Nat} (hn : l.length = n) (hf : n ≤ lo ∨ hi = 0) (h1 : n ≤ 100000) (hab : a < b) (hb : b ≤ n) :
    Ctr prog 371 [.slice (some ⟨g, 0, none⟩) n cap, .int .i64 a, .int .i64 b] G [(g, VB .u32 l rest 212 lo hi)] (fun r H' => r = .tuple #[] ∧ ∃ l', (PR a b l l' ∧ SR a b l') ∧ H' = [(g, VB .u32 l' rest 212 lo hi)]) := by
  obtain ⟨h, rfl⟩ : ∃ h, b = a + h := ⟨b - a, by omega⟩
  refine fn_enter 56 func371 rfl ntmps371 rfl ?_
  intro w0
  refine gn 29 ?_
  simp only [Nat.add_sub_cancel_left]
  refine c_loop (X := List Int × Int) (fun y => [(0, .slice (some ⟨g, 0, none⟩) n cap), (6, .int .i64 a), (7, .int .i64 (0 : Nat)), (8, .int .i64 h), (9, .int .i64 y.2)]) (fun y => [(g, VB .u32 y.1 rest 212 lo hi)]) (fun y => PR a (a + h) l y.1 ∧ -1 ≤ y.2 ∧ y.2 < h ∧ Hp a (y.2 + 1).toNat h y.1) (fun y => (y.2 + 1).toNat) (l, ((h - 1 : Nat) : Int) / 2) ⟨.refl, by omega, by omega, .none (by omega)⟩ aK (.refl _) ?_
  rintro ⟨m, i⟩ ⟨hm, hi0, hi1, hp⟩
  simp only at hm hi0 hi1 hp ⊢
  have hl := hm.len
  refine gn 7 ?_
  refine c_ifp rfl (fun h2 => ?_) (fun h2 => ?_)
  · obtain ⟨k, rfl⟩ := Int.eq_ofNat_of_zero_le h2
    refine gn 9 ?_
    refine oL (lC (sift_is (f := a) (s := k) (h := h) (hl.trans hn) hf h1 hb (by omega) hp) rfl (.cons .head .nil)) ?_
    rintro ⟨r, H'⟩ ⟨rfl, m', ⟨hp1, hp2⟩, rfl⟩
    simp only [List.cons_append, List.nil_append]
    refine gn 8 ?_
    refine n_round' (y := (m, (k : Int))) (m', (k : Int) - 1) (by show ((k : Int) - 1 + 1).toNat < ((k : Int) + 1).toNat; omega) ?_ aK _ (.refl _) (List.Sublist.refl _)
    refine ⟨hm.trans (hp1.mono (by omega) (Nat.le_refl _) (by omega)), by show -1 ≤ (k : Int) - 1; omega, by show (k : Int) - 1 < h; omega, ?_⟩
    show Hp a ((k : Int) - 1 + 1).toNat h m'
    rw [show ((k : Int) - 1 + 1).toNat = k by omega]
    exact hp2
  · skip
    have hp0 : Hp a 0 h m := by rw [show (i + 1).toNat = 0 by omega] at hp; exact hp
    refine gn 13 ?_
    refine c_loop (X := List Int × Int) (fun y => [(0, .slice (some ⟨g, 0, none⟩) n cap), (6, .int .i64 a), (7, .int .i64 (0 : Nat)), (10, .int .i64 y.2)]) (fun y => [(g, VB .u32 y.1 rest 212 lo hi)]) (fun y => PR a (a + h) l y.1 ∧ -1 ≤ y.2 ∧ y.2 < h ∧ Pop a (y.2 + 1).toNat h y.1) (fun y => (y.2 + 1).toNat) (m, ((h - 1 : Nat) : Int)) ⟨hm, by omega, by omega, by show Pop a (((h - 1 : Nat) : Int) + 1).toNat h m; rw [show (((h - 1 : Nat) : Int) + 1).toNat = h by omega]; exact .start hp0⟩ aK (.refl _) ?_
    clear hm hi0 hi1 hp hl hp0 h2
    rintro ⟨m, i⟩ ⟨hm, hi0, hi1, hp⟩
    simp only at hm hi0 hi1 hp ⊢
    have hl := hm.len
    refine gn 7 ?_
    refine c_ifp rfl (fun h2 => ?_) (fun h2 => ?_)
    · obtain ⟨k, rfl⟩ := Int.eq_ofNat_of_zero_le h2
      rw [show ((k : Int) + 1).toNat = k + 1 by omega] at hp
      refine gn 5 ?_
      refine c_regiong [17, 19] (by kernel_rfl) ?_
      refine rg [0, 1, 2, 3, 4, 5, 6, 7, 8, 9, 10, 1011, 12, 13, 14, 1015, 16] ?_
      refine gR 17 ?_
      intro _ _
      refine ld [18] ?_
      refine dR 19 ?_
      intro _ _
      refine gn 7 ?_
      have hp1 := hp.swap (by omega) (by omega)
      trace_state
      refine oL (lC (sift_is (f := a) (s := 0) (h := k) (l := swp m a (a + k)) (by rw [swp_length]; omega) hf h1 (by omega) (Nat.zero_le _) hp1.heap) rfl (.cons .head .nil)) ?_
      rintro ⟨r, H'⟩ ⟨rfl, m', ⟨hp2, hp3⟩, rfl⟩
      simp only [List.cons_append, List.nil_append]
      refine gn 8 ?_
      have hsw : PR a (a + h) m (swp m a (a + k)) := .one (by omega) (by omega) (by omega) (by omega) (by omega)
      refine n_round' (y := (m, (k : Int))) (m', (k : Int) - 1) (by show ((k : Int) - 1 + 1).toNat < ((k : Int) + 1).toNat; omega) ?_ aK _ (.refl _) (List.Sublist.refl _)
      refine ⟨(hm.trans hsw).trans (hp2.mono (by omega) (by omega) (by rw [swp_length]; omega)), by show -1 ≤ (k : Int) - 1; omega, by show (k : Int) - 1 < h; omega, ?_⟩
      show Pop a ((k : Int) - 1 + 1).toNat h m'
      rw [show ((k : Int) - 1 + 1).toNat = k by omega]
      exact hp1.sift hp2 hp3
    · skip
      refine gn 4 ?_
      refine n_fn0 results371 ?_
      rw [show (i + 1).toNat = 0 by omega] at hp
      exact ⟨rfl, m, ⟨hm, hp.done⟩, rfl⟩
end
end Go.Proofs.A4
namespace Go.Proofs.A4
open Go Go.Sl Tryz
set_option maxRecDepth 100000
set_option maxHeartbeats 1000000
section
variable {G : HP} {g n cap lo hi gz u v : Nat} {rest : List Value} {l : List Int} {z : Int}
theorem ord_is {a b : Nat} (hn : l.length = n) (h1 : n ≤ 100000) (ha : u ≤ a ∧ a < v) (hb : u ≤ b ∧ b < v) (hv : v ≤ n) :
    Ctr prog 385 [.slice (some ⟨g, 0, none⟩) n cap, .int .i64 a, .int .i64 b, .pointer (some ⟨gz, 0, none⟩)] G [(g, VB .u32 l rest 212 lo hi), (gz, C [.int .i64 z] 3)] (fun r H' => ∃ (x y : Nat) (z' : Int), r = .tuple #[.int .i64 x, .int .i64 y] ∧ (u ≤ x ∧ x < v) ∧ (u ≤ y ∧ y < v) ∧ H' = [(g, VB .u32 l rest 212 lo hi), (gz, C [.int .i64 z'] 3)]) := by
  refine fn_enter 28 func385 rfl ntmps385 rfl ?_
  intro w0
  refine gr 17 ?_
  refine q_pure rfl call376 (less_is) rfl rfl ?_
  refine gn 2 ?_
  refine c_if rfl (fun h2 => ?_) (fun h2 => ?_)
  · refine gr 7 ?_
    refine oR ?_
    intro _ _
    refine gn 11 ?_
    refine r_fn (l := [.tmp 8, .tmp 9]) results385 rfl rfl ?_
    exact ⟨b, a, _, rfl, hb, ha, rfl⟩
  · skip
    refine gn 11 ?_
    refine r_fn (l := [.tmp 8, .tmp 9]) results385 rfl rfl ?_
    exact ⟨a, b, _, rfl, ha, hb, rfl⟩
theorem med_is {a b c : Nat} (hn : l.length = n) (h1 : n ≤ 100000) (ha : u ≤ a ∧ a < v) (hb : u ≤ b ∧ b < v) (hc : u ≤ c ∧ c < v) (hv : v ≤ n) :
    Ctr prog 383 [.slice (some ⟨g, 0, none⟩) n cap, .int .i64 a, .int .i64 b, .int .i64 c, .pointer (some ⟨gz, 0, none⟩)] G [(g, VB .u32 l rest 212 lo hi), (gz, C [.int .i64 z] 3)] (fun r H' => ∃ (x : Nat) (z' : Int), r = .int .i64 x ∧ (u ≤ x ∧ x < v) ∧ H' = [(g, VB .u32 l rest 212 lo hi), (gz, C [.int .i64 z'] 3)]) := by
  refine fn_enter 36 func383 rfl ntmps383 rfl ?_
  intro w0
  refine gn 11 ?_
  refine oL (lC (ord_is hn h1 ha hb hv) rfl (.cons .head (.cons .head .nil))) ?_
  rintro ⟨r, H'⟩ ⟨x0, y0, z0, rfl, hx0, hy0, rfl⟩
  simp only [List.cons_append, List.nil_append]
  refine gn 13 ?_
  refine oL (lC (ord_is hn h1 hy0 hc hv) rfl (.cons .head (.cons .head .nil))) ?_
  rintro ⟨r, H'⟩ ⟨x1, y1, z1, rfl, hx1, hy1, rfl⟩
  simp only [List.cons_append, List.nil_append]
  refine gn 13 ?_
  refine oL (lC (ord_is hn h1 hx0 hx1 hv) rfl (.cons .head (.cons .head .nil))) ?_
  rintro ⟨r, H'⟩ ⟨x2, y2, z2, rfl, hx2, hy2, rfl⟩
  simp only [List.cons_append, List.nil_append]
  refine gn 14 ?_
  refine r_fn1 results383 rfl ?_
  exact ⟨_, _, rfl, hy2, rfl⟩
theorem adj_is {a : Nat} (hn : l.length = n) (h1 : n ≤ 100000) (ha : u + 1 ≤ a ∧ a + 1 < v) (hv : v ≤ n) :
    Ctr prog 382 [.slice (some ⟨g, 0, none⟩) n cap, .int .i64 a, .pointer (some ⟨gz, 0, none⟩)] G [(g, VB .u32 l rest 212 lo hi), (gz, C [.int .i64 z] 3)] (fun r H' => ∃ (x : Nat) (z' : Int), r = .int .i64 x ∧ (u ≤ x ∧ x < v) ∧ H' = [(g, VB .u32 l rest 212 lo hi), (gz, C [.int .i64 z'] 3)]) := by
  obtain ⟨a, rfl⟩ : ∃ a', a = a' + 1 := ⟨a - 1, by omega⟩
  refine fn_enter 15 func382 rfl ntmps382 rfl ?_
  intro w0
  refine gn 14 ?_
  refine oL (lC (med_is (a := a) (b := a + 1) (c := a + 2) (u := u) (v := v) hn h1 (by omega) (by omega) (by omega) hv) rfl (.cons .head (.cons .head .nil))) ?_
  rintro ⟨r, H'⟩ ⟨x, z', rfl, hx, rfl⟩
  simp only [List.cons_append, List.nil_append]
  refine gn 4 ?_
  refine r_fn1 results382 rfl ?_
  exact ⟨_, _, rfl, hx, rfl⟩
theorem piv_is {a b : Nat} (hn : l.length = n) (h1 : n ≤ 100000) (hab : a + 8 ≤ b) (hb : b ≤ n) :
    Ctr prog 373 [.slice (some ⟨g, 0, none⟩) n cap, .int .i64 a, .int .i64 b] G [(g, VB .u32 l rest 212 lo hi)] (fun r H' => ∃ (x : Nat) (z' : Int), r = .tuple #[.int .i64 x, .int .i64 z'] ∧ (a ≤ x ∧ x < b) ∧ H' = [(g, VB .u32 l rest 212 lo hi)]) := by
  obtain ⟨h, rfl⟩ : ∃ h, b = a + h := ⟨b - a, by omega⟩
  refine fn_enter 57 func373 rfl ntmps373 rfl ?_
  intro w0
  refine gn 16 ?_
  refine oZ ?_; intro g9 _
  refine gn 39 ?_
  have e1 : (a : Int) + ((a + h - a : Nat) : Int) / 4 * 1 = ((a + h / 4 : Nat) : Int) := by omega
  have e2 : (a : Int) + ((a + h - a : Nat) : Int) / 4 * 2 = ((a + h / 4 * 2 : Nat) : Int) := by omega
  have e3 : (a : Int) + ((a + h - a : Nat) : Int) / 4 * 3 = ((a + h / 4 * 3 : Nat) : Int) := by omega
  rw [e1, e2, e3]
  refine c_ifp rfl (fun h2 => ?_) (fun h2 => ?_)
  · refine c_cut (X := Nat × Int) (fun y => [(11, .int .i64 y.1), (9, .pointer (some ⟨g9, 0, none⟩))]) (fun y => [(g, VB .u32 l rest 212 lo hi), (g9, C [.int .i64 y.2] 3)]) (fun y => a ≤ y.1 ∧ y.1 < a + h) ?_ ?_
    · skip
      refine gn 1 ?_
      refine c_cut (X := Nat × Nat × Nat × Int) (fun y => [(0, .slice (some ⟨g, 0, none⟩) n cap), (9, .pointer (some ⟨g9, 0, none⟩)), (10, .int .i64 y.1), (11, .int .i64 y.2.1), (12, .int .i64 y.2.2.1)]) (fun y => [(g, VB .u32 l rest 212 lo hi), (g9, C [.int .i64 y.2.2.2] 3)]) (fun y => (a ≤ y.1 ∧ y.1 < a + h) ∧ (a ≤ y.2.1 ∧ y.2.1 < a + h) ∧ (a ≤ y.2.2.1 ∧ y.2.2.1 < a + h)) ?_ ?_
      · skip
        refine gn 6 ?_
        refine c_ifp rfl (fun h3 => ?_) (fun h3 => ?_)
        · refine gn 4 ?_
          refine oL (lC (adj_is (u := a) (v := a + h) hn h1 (by omega) hb) rfl (.cons (.tail .head) (.cons .head .nil))) ?_
          rintro ⟨r, H'⟩ ⟨x1, z1, rfl, hx1, rfl⟩
          simp only [List.cons_append, List.nil_append]
          refine gn 7 ?_
          refine oL (lC (adj_is (u := a) (v := a + h) hn h1 (by omega) hb) rfl (.cons .head (.cons .head .nil))) ?_
          rintro ⟨r, H'⟩ ⟨x2, z2, rfl, hx2, rfl⟩
          simp only [List.cons_append, List.nil_append]
          refine gn 6 ?_
          refine oL (lC (adj_is (u := a) (v := a + h) hn h1 (by omega) hb) rfl (.cons .head (.cons .head .nil))) ?_
          rintro ⟨r, H'⟩ ⟨x3, z3, rfl, hx3, rfl⟩
          simp only [List.cons_append, List.nil_append]
          refine gn 2 ?_
          exact n_cut (x1, x2, x3, z3) ⟨hx1, hx2, hx3⟩ aK (.refl _)
        · skip
          refine gn 1 ?_
          exact n_cut (a + h / 4, a + h / 4 * 2, a + h / 4 * 3, 0) ⟨by show a ≤ a + h / 4 ∧ a + h / 4 < a + h; omega, by show a ≤ a + h / 4 * 2 ∧ a + h / 4 * 2 < a + h; omega, by show a ≤ a + h / 4 * 3 ∧ a + h / 4 * 3 < a + h; omega⟩ aK (List.Perm.swap _ _ _)
      · rintro ⟨x1, x2, x3, z3⟩ ⟨hx1, hx2, hx3⟩
        simp only at hx1 hx2 hx3 ⊢
        refine gn 6 ?_
        refine oL (lC (med_is (u := a) (v := a + h) hn h1 hx1 hx2 hx3 hb) rfl (.cons .head (.cons .head .nil))) ?_
        rintro ⟨r, H'⟩ ⟨x4, z4, rfl, hx4, rfl⟩
        simp only [List.cons_append, List.nil_append]
        refine gn 2 ?_
        exact n_cut (x4, z4) hx4 aK (.refl _)
    · rintro ⟨x4, z4⟩ hx4
      simp only at hx4 ⊢
      refine gr 13 ?_
      refine c_if rfl (fun h5 => ?_) (fun h5 => ?_)
      · refine gn 8 ?_
        refine WR.sel (.cons .head .nil) ?_
        refine r_fn (l := [.tmp 6, .tmp 7]) results373 rfl rfl ?_
        exact ⟨_, _, rfl, hx4, rfl⟩
      · skip
        refine gn 6 ?_
        refine c_if rfl (fun h6 => ?_) (fun h6 => ?_)
        · refine gn 8 ?_
          refine WR.sel (.cons .head .nil) ?_
          refine r_fn (l := [.tmp 6, .tmp 7]) results373 rfl rfl ?_
          exact ⟨_, _, rfl, hx4, rfl⟩
        · skip
          refine gn 8 ?_
          refine WR.sel (.cons .head .nil) ?_
          refine r_fn (l := [.tmp 6, .tmp 7]) results373 rfl rfl ?_
          exact ⟨_, _, rfl, hx4, rfl⟩
  · exact absurd h2 (by omega)
end
end Go.Proofs.A4
namespace Go.Proofs.A4
open Go Go.Sl Tryz
set_option maxRecDepth 100000
set_option maxHeartbeats 1000000
section
variable {G : HP} {g n cap lo hi : Nat} {rest : List Value} {l : List Int}
theorem rev_is {a b : Nat} (hn : l.length = n) (hf : n ≤ lo ∨ hi = 0) (h1 : n ≤ 100000) (hab : a < b) (hb : b ≤ n) :
    Ctr prog 374 [.slice (some ⟨g, 0, none⟩) n cap, .int .i64 a, .int .i64 b] G [(g, VB .u32 l rest 212 lo hi)] (fun r H' => r = .tuple #[] ∧ ∃ l', PR a b l l' ∧ H' = [(g, VB .u32 l' rest 212 lo hi)]) := by
  refine fn_enter 32 func374 rfl ntmps374 rfl ?_
  intro w0
  refine gn 14 ?_
  refine c_loop (X := List Int × Nat × Nat) (fun y => [(0, .slice (some ⟨g, 0, none⟩) n cap), (6, .int .i64 y.2.1), (7, .int .i64 y.2.2)]) (fun y => [(g, VB .u32 y.1 rest 212 lo hi)]) (fun y => PR a b l y.1 ∧ a ≤ y.2.1 ∧ y.2.2 < b) (fun y => y.2.2 - y.2.1) (l, a, b - 1) ⟨.refl, Nat.le_refl _, by show b - 1 < b; omega⟩ aK (.refl _) ?_
  rintro ⟨m, i, j⟩ ⟨hm, hi0, hj⟩
  simp only at hm hi0 hj ⊢
  have hl := hm.len
  refine gn 8 ?_
  refine c_ifp rfl (fun h2 => ?_) (fun h2 => ?_)
  · refine gn 4 ?_
    refine c_regiong [13, 15] (by kernel_rfl) ?_
    refine rg [0, 1, 2, 3, 4, 5, 6, 1007, 8, 9, 10, 1011, 12] ?_
    refine gR 13 ?_
    intro _ _
    refine ld [14] ?_
    refine dR 15 ?_
    intro _ _
    refine gn 15 ?_
    refine n_round' (y := (m, i, j)) (swp m i j, i + 1, j - 1) (by show j - 1 - (i + 1) < j - i; omega) ?_ aK _ (.refl _) (List.Sublist.refl _)
    exact ⟨hm.swap (by omega) (by omega) (by omega) (by omega) (by omega), by show a ≤ i + 1; omega, by show j - 1 < b; omega⟩
  · skip
    refine gn 4 ?_
    refine n_fn0 results374 ?_
    exact ⟨rfl, m, hm, rfl⟩
theorem part_is {a b : Nat} (hn : l.length = n) (hf : n ≤ lo ∨ hi = 0) (h1 : n ≤ 100000) (hab : a < b) (hb : b ≤ n) (hlb : Lb a b l) :
    Ctr prog 375 [.slice (some ⟨g, 0, none⟩) n cap, .int .i64 a, .int .i64 b] G [(g, VB .u32 l rest 212 lo hi)] (fun r H' => ∃ (t : Bool) (l' : List Int), r = .bool t ∧ PR a b l l' ∧ (t = true → SR a b l') ∧ H' = [(g, VB .u32 l' rest 212 lo hi)]) := by
  refine fn_enter 133 func375 rfl ntmps375 rfl ?_
  intro w0
  refine gn 19 ?_
  refine c_loop (X := List Int × Nat × Nat) (fun y => [(0, .slice (some ⟨g, 0, none⟩) n cap), (1, .int .i64 a), (2, .int .i64 b), (7, .int .i64 y.2.1), (8, .int .i64 y.2.2)]) (fun y => [(g, VB .u32 y.1 rest 212 lo hi)]) (fun y => PR a b l y.1 ∧ a < y.2.1 ∧ y.2.1 ≤ b ∧ SR a y.2.1 y.1 ∧ y.2.2 ≤ 5) (fun y => 5 - y.2.2) (l, a + 1, 0) ⟨.refl, by show a < a + 1; omega, by show a + 1 ≤ b; omega, .small (Nat.le_refl _), Nat.zero_le _⟩ aK (.refl _) ?_
  rintro ⟨m, i, j⟩ ⟨hm, hi0, hi1, hs, hj⟩
  simp only at hm hi0 hi1 hs hj ⊢
  have hl := hm.len
  refine gn 7 ?_
  refine c_ifp rfl (fun h2 => ?_) (fun h2 => ?_)
  · refine gn 5 ?_
    refine c_cut (X := Nat) (fun i => [(0, .slice (some ⟨g, 0, none⟩) n cap), (1, .int .i64 a), (2, .int .i64 b), (7, .int .i64 i), (8, .int .i64 j)]) (fun _ => [(g, VB .u32 m rest 212 lo hi)]) (fun i => a < i ∧ i ≤ b ∧ SR a i m ∧ (i < b → gd m i < gd m (i - 1))) ?_ ?_
    · skip
      refine gn 1 ?_
      refine c_loop (X := Nat) (fun i => [(0, .slice (some ⟨g, 0, none⟩) n cap), (1, .int .i64 a), (2, .int .i64 b), (7, .int .i64 i), (8, .int .i64 j)]) (fun _ => [(g, VB .u32 m rest 212 lo hi)]) (fun i => a < i ∧ i ≤ b ∧ SR a i m) (fun i => b - i) i ⟨hi0, hi1, hs⟩ aK (.refl _) ?_
      clear hi0 hi1 hs
      rintro i ⟨hi0, hi1, hs⟩
      refine gn 7 ?_
      refine q_splitp 20 rfl (fun h3 => ?_) (fun h3 => ?_)
      · refine gr 9 ?_
        refine q_pure rfl call376 (less_is) rfl rfl ?_
        refine gn 4 ?_
        refine c_if rfl (fun h4 => ?_) (fun h4 => ?_)
        · have h4' : ¬ gd m i < gd m (i - 1) := by simpa using h4
          refine gn 9 ?_
          refine n_round' (y := i) (i + 1) (by omega) ⟨by omega, by omega, hs.snoc hi0 (Int.not_lt.1 h4')⟩ aK _ (.refl _) (List.Sublist.refl _)
        · skip
          have h4' : gd m i < gd m (i - 1) := by simpa using h4
          refine gn 4 ?_
          exact n_cut i ⟨hi0, hi1, hs, fun _ => h4'⟩ aK (.refl _)
      · skip
        refine gn 19 ?_
        exact n_cut i ⟨hi0, hi1, hs, fun _ => by omega⟩ aK (.refl _)
    · clear hi0 hi1 hs
      rintro i ⟨hi0, hi1, hs, hlt⟩
      refine gn 9 ?_
      refine c_ifp rfl (fun h3 => ?_) (fun h3 => ?_)
      · refine gn 6 ?_
        refine r_fn1 results375 rfl ?_
        obtain rfl : i = b := by omega
        exact ⟨true, m, rfl, hm, fun _ => hs, rfl⟩
      · skip
        have hlt' := hlt (by omega)
        refine gn 11 ?_
        refine c_ifp rfl (fun h4 => ?_) (fun h4 => ?_)
        · refine gn 6 ?_
          refine r_fn1 results375 rfl ?_
          exact ⟨false, m, rfl, hm, by simp, rfl⟩
        · skip
          refine gn 3 ?_
          refine c_regiong [15, 17] (by kernel_rfl) ?_
          refine rg [0, 1, 2, 3, 4, 5, 6, 7, 8, 1009, 10, 11, 12, 1013, 14] ?_
          refine gR 15 ?_
          intro _ _
          refine ld [16] ?_
          refine dR 17 ?_
          intro _ _
          refine gn 3 ?_
          have hsw : PR a b m (swp m i (i - 1)) := .one (by omega) (by omega) (by omega) (by omega) (by omega)
          have hpre : SR a (i - 1) (swp m i (i - 1)) := (hs.less (Nat.le_refl _) (by omega)).congr fun k k1 k2 => by rw [gd_swp (by omega) (by omega), if_neg (by omega), if_neg (by omega)]
          refine c_cut (X := List Int) (fun _ => [(0, .slice (some ⟨g, 0, none⟩) n cap), (1, .int .i64 a), (2, .int .i64 b), (7, .int .i64 i), (8, .int .i64 j)]) (fun m => [(g, VB .u32 m rest 212 lo hi)]) (fun m => PR a b l m ∧ SR a i m) ?_ ?_
          · skip
            refine gn 8 ?_
            refine c_ifp rfl (fun h5 => ?_) (fun h5 => ?_)
            · refine gn 8 ?_
              refine c_loop (X := List Int × Nat) (fun y => [(0, .slice (some ⟨g, 0, none⟩) n cap), (1, .int .i64 a), (2, .int .i64 b), (7, .int .i64 i), (8, .int .i64 j), (9, .int .i64 y.2)]) (fun y => [(g, VB .u32 y.1 rest 212 lo hi)]) (fun y => PR a b l y.1 ∧ Ins a y.2 i y.1 ∧ a ≤ y.2 ∧ y.2 < i) (fun y => y.2) (swp m i (i - 1), i - 1) ⟨hm.trans hsw, by have := Ins.start hpre; rwa [show i - 1 + 1 = i by omega] at this, by show a ≤ i - 1; omega, by show i - 1 < i; omega⟩ aK (.refl _) ?_
              rintro ⟨q, k⟩ ⟨hq, hin, hk0, hk1⟩
              simp only at hq hin hk0 hk1 ⊢
              have hlq := hq.len
              refine gn 7 ?_
              refine c_ifp rfl (fun h6 => ?_) (fun h6 => ?_)
              · refine gr 16 ?_
                refine q_pure rfl call376 (less_is) rfl rfl ?_
                refine gn 3 ?_
                refine c_if rfl (fun h7 => ?_) (fun h7 => ?_)
                · refine gn 6 ?_
                  have h7' : ¬ gd q k < gd q (k - 1) := by simpa using h7
                  exact n_cut q ⟨hq, hin.stop (.inr h7')⟩ aK (.refl _)
                · skip
                  have h7' : gd q k < gd q (k - 1) := by simpa using h7
                  have hka : a < k := by
                    rcases hlb.pr hq (Nat.le_refl _) (Nat.le_refl _) with h | h
                    · omega
                    · by_cases he : k = a
                      · subst he; exact absurd h7' (Int.not_lt.2 (h k (Nat.le_refl _) (by omega)))
                      · omega
                  refine gn 2 ?_
                  refine c_regiong [15, 17] (by kernel_rfl) ?_
                  refine rg [0, 1, 2, 3, 4, 5, 6, 7, 8, 1009, 10, 11, 12, 1013, 14] ?_
                  refine gR 15 ?_
                  intro _ _
                  refine ld [16] ?_
                  refine dR 17 ?_
                  intro _ _
                  refine gn 8 ?_
                  refine n_round' (y := (q, k)) (swp q k (k - 1), k - 1) (by show k - 1 < k; omega) ?_ aK _ (.refl _) (List.Sublist.refl _)
                  exact ⟨hq.swap (by omega) (by omega) (by omega) (by omega) (by omega), hin.step h7' hka hk1 (by omega), by show a ≤ k - 1; omega, by show k - 1 < i; omega⟩
              · skip
                refine gn 4 ?_
                exact n_cut q ⟨hq, hin.stop (.inl (by omega))⟩ aK (.refl _)
            · skip
              refine gn 1 ?_
              exact n_cut (swp m i (i - 1)) ⟨hm.trans hsw, .small (by omega)⟩ aK (.refl _)
          · clear hs hpre hsw hlt hlt' hm hl
            rintro m ⟨hm, hs⟩
            have hl := hm.len
            refine gn 1 ?_
            refine c_cut (X := List Int) (fun _ => [(0, .slice (some ⟨g, 0, none⟩) n cap), (1, .int .i64 a), (2, .int .i64 b), (7, .int .i64 i), (8, .int .i64 j)]) (fun m => [(g, VB .u32 m rest 212 lo hi)]) (fun m => PR a b l m ∧ SR a i m) ?_ ?_
            · skip
              refine gn 8 ?_
              refine c_ifp rfl (fun h5 => ?_) (fun h5 => ?_)
              · refine gn 8 ?_
                refine c_loop (X := List Int × Nat) (fun y => [(0, .slice (some ⟨g, 0, none⟩) n cap), (1, .int .i64 a), (2, .int .i64 b), (7, .int .i64 i), (8, .int .i64 j), (10, .int .i64 y.2)]) (fun y => [(g, VB .u32 y.1 rest 212 lo hi)]) (fun y => PR i b m y.1 ∧ i < y.2) (fun y => b - y.2) (m, i + 1) ⟨.refl, by show i < i + 1; omega⟩ aK (.refl _) ?_
                rintro ⟨q, k⟩ ⟨hq, hk0⟩
                simp only at hq hk0 ⊢
                have hlq := hq.len
                have hfin : PR a b l q ∧ SR a i q := ⟨hm.trans (hq.mono (by omega) (Nat.le_refl _) (by omega)), hs.congr fun p _ hp => hq.out (.inl hp)⟩
                refine gn 8 ?_
                refine c_ifp rfl (fun h6 => ?_) (fun h6 => ?_)
                · refine gr 16 ?_
                  refine q_pure rfl call376 (less_is) rfl rfl ?_
                  refine gn 3 ?_
                  refine c_if rfl (fun h7 => ?_) (fun h7 => ?_)
                  · refine gn 6 ?_
                    exact n_cut q hfin aK (.refl _)
                  · skip
                    refine gn 2 ?_
                    refine c_regiong [15, 17] (by kernel_rfl) ?_
                    refine rg [0, 1, 2, 3, 4, 5, 6, 7, 8, 1009, 10, 11, 12, 1013, 14] ?_
                    refine gR 15 ?_
                    intro _ _
                    refine ld [16] ?_
                    refine dR 17 ?_
                    intro _ _
                    refine gn 8 ?_
                    refine n_round' (y := (q, k)) (swp q k (k - 1), k + 1) (by show b - (k + 1) < b - k; omega) ?_ aK _ (.refl _) (List.Sublist.refl _)
                    exact ⟨hq.swap (by omega) (by omega) (by omega) (by omega) (by omega), by show i < k + 1; omega⟩
                · skip
                  refine gn 4 ?_
                  exact n_cut q hfin aK (.refl _)
              · skip
                refine gn 1 ?_
                exact n_cut m ⟨hm, hs⟩ aK (.refl _)
            · clear hs hm hl
              rintro m ⟨hm, hs⟩
              refine gn 7 ?_
              refine n_round (y := (l, 0, j)) (m, i, j + 1) (by show 5 - (j + 1) < 5 - j; omega) ?_ aK (.refl _)
              exact ⟨hm, hi0, hi1, hs, by show j + 1 ≤ 5; omega⟩
  · skip
    refine gn 11 ?_
    refine r_fn1 results375 rfl ?_
    exact ⟨false, m, rfl, hm, by simp, rfl⟩
end
end Go.Proofs.A4
