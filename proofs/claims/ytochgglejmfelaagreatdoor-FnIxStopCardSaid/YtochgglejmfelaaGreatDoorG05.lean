/- A row that the library's sort has turned; Slices whose shape is not told; A bytes.Buffer: its length, room for more; A multihash, made and taken apart; The program's functions for which the machine stands in, and its deferred closure; A strings.Builder that is written, its string; identifiers made; A multihash made; an identifier made; The guards on sizes: they answer something; The statements' own guard: what it lets in; A part of an index, read; The shelf's contracts of sort.Ints and sort.Slice hold of this program: the bodies are the shelf's, other numbers in them; Numbers, their lowest byte first. (A part of the proof of this: for every input laws.FnIxStop returns true and its arguments read as they did, the listed package variables being what the program lays.) -/
import Derived.Test.YtochgglejmfelaaGreatDoorG03
import Derived.Sort.Grow
import Derived.Test.YtochgglejmfelaaGreatDoorG02
import Derived.Test.YtochgglejmfelaaGreatDoorG04
import Derived.Test.YtochgglejmfelaaGreatDoorProg
import Derived.KernelRfl
import Derived.WalkKit
import Derived.Lib.ReflectliteSlice
import Derived.Lib.Bytealg
import Derived.Shelf.Slices.In.SortNone2
import Derived.Shelf.Sort.Plain
import Derived.Shelf.GgSortFunc.Whole
namespace Go.Sl
open Go
theorem putCells_row {kd : IntKind} {l l' : List Int} {rest : List Value} (hl : l'.length = l.length) : Sort.putCells (Value.int kd) 0 l'.toArray (V kd l ++ rest).toArray = (V kd l' ++ rest).toArray := by
  apply Array.ext_getElem?
  intro k
  simp only [Sort.putCells, Array.getElem?_mapIdx]
  by_cases hk : k < l'.length
  · have h1 : k < l.length := by omega
    simp [hk]
    rw [List.getElem?_append_left (by simpa using h1), List.getElem?_append_left (by simpa using hk)]
    simp [h1, hk]
  · simp [hk]
    rw [List.getElem?_append_right (by simp; omega), List.getElem?_append_right (by simp; omega)]
    simp [hl]
theorem holds_row {kd : IntKind} {l : List Int} {rest : List Value} {w : World} {g : Nat} {e : TypeId} {lo hi : Nat} (hb : w.heap[g]? = some (VB kd l rest e lo hi)) (hf : l.length ≤ lo ∨ hi = 0) : Sort.Holds (Value.int kd) w g 0 l.toArray := by
  intro j hj
  have hj' : j < l.length := by simpa using hj
  refine ⟨?_, frozen_of hb (by omega)⟩
  rw [cell_of hb, Nat.zero_add, List.getElem?_append_left (by simpa using hj')]
  simp [hj']
theorem post_put {kd : IntKind} {l l' : List Int} {rest : List Value} {w w' : World} {g : Nat} {e : TypeId} {lo hi n : Nat} {os : Array Obj} (hb : w.heap[g]? = some (VB kd l rest e lo hi)) (hl : l'.length = l.length) (hw : w' = Sort.grow (Sort.putRow (Value.int kd) (Sort.ahead w n) g 0 l'.toArray) os) :
    Has w' [(g, VB kd l' rest e lo hi)] ∧ Fr [g] w w' := by
  have hlt : g < w.heap.size := (Array.getElem?_eq_some_iff.1 hb).1
  subst hw
  refine ⟨fun p hp => ?_, rfl, rfl, rfl, by simp [Sort.putRow, Sort.mapBlock, Sort.ahead], fun k hk hne => ?_⟩
  · rcases List.mem_singleton.1 hp with rfl
    rw [Sort.heap_grow_old _ _ (by simpa [Sort.putRow, Sort.mapBlock, Sort.ahead] using hlt)]
    have : (Sort.ahead w n).heap[g]? = some (VB kd l rest e lo hi) := hb
    simp only [Sort.putRow, Sort.mapBlock, Array.getElem?_modify, if_true, this, Option.map_some, Sort.onCells, putCells_row hl]
  · rw [Sort.heap_grow_old _ _ (by simpa [Sort.putRow, Sort.mapBlock, Sort.ahead] using hk)]
    have : g ≠ k := fun h => hne (by simp [h])
    simp [Sort.putRow, Sort.mapBlock, Sort.ahead, Array.getElem?_modify, this]
end Go.Sl
namespace Go.Sl
open Go
theorem Sel.app : ∀ (A B : HP), Sel (A ++ B) A B
  | [], _ => .nil
  | p :: A, B => .cons .head (Sel.app A B)
theorem Rem.mid : ∀ (A : HP) (p : Nat × Obj) (B : HP), Rem (A ++ p :: B) p (A ++ B)
  | [], _, _ => .head
  | _ :: A, p, B => .tail (Rem.mid A p B)
theorem Sel.appR (A : HP) : ∀ B : HP, Sel (A ++ B) B A
  | [] => by simpa using Sel.nil
  | p :: B => .cons (Rem.mid A p B) (Sel.appR A B)
theorem Sel.mid (A : HP) : ∀ (B D : HP), Sel (A ++ (B ++ D)) B (A ++ D)
  | [], _ => .nil
  | p :: B, D => .cons (Rem.mid A p (B ++ D)) (Sel.mid A B D)
theorem perm_mid (A R B : HP) : (A ++ (R ++ B)).Perm (R ++ (A ++ B)) := by
  rw [← List.append_assoc, ← List.append_assoc]
  exact List.perm_append_comm.append_right _
section
variable {x : Cx} {s : Slots} {H HB : HP} {d n sz : Nat} {p : Operand} {ty t e e' : TypeId} {pos : String} {af : Array Edge} {gd' : Option (Nat × Bool)} {v : Value} {xs : List Value}
theorem e_lenO (hU : ∀ w, (underlying t).run x.P w = .ok (.slice e) w) (ho : Osl e' sz v n xs HB) (hp : ev s p = some v) : Ex x s H ⟨some d, .call { callee := .builtin .len, args := #[p], argTypes := #[t] }, ty, pos, af, gd'⟩ (.int .i64 n) := by
  cases ho with
  | nil => exact e_lenl hU hp
  | own => exact e_lenl hU hp
theorem Osl.sv (ho : Osl e' sz v n xs HB) (hU : x.P.underlying t = some (.slice e)) (hm : ∀ p ∈ HB, p ∈ H) (h1 : ∀ u ∈ xs, u.oneCell' = true) : Sv x H sz t v n xs := by
  cases ho with
  | nil => exact .nil hU
  | @own g n cap lo hi xs rest a1 a2 a3 a4 a5 =>
    refine .blk hU (.inl (hm _ (.head _))) ?_ h1
    have := CutL.of (l := xs ++ rest) (i := 0) (n := n * sz) (by simp; omega)
    simpa [← a1] using this
end
end Go.Sl
namespace Go.Proofs
open Go Go.Sl Tryz
set_option maxRecDepth 100000
set_option maxHeartbeats 1000000
/-- A buffer that is written only. -/
abbrev Bu (v : Value) (lr : Int) : Obj := C [v, .int .i64 0, .int .i8 lr] 86
section
variable {G : HP} {gb g n cap lo hi L : Nat} {A : Option Addr} {lr : Int}
theorem bufLen_is (h3 : n < 9223372036854775808) : Ctr Tryz.prog 298 [.pointer (some ⟨gb, 0, none⟩)] G [(gb, Bu (.slice A n cap) lr)] (fun r H' => r = .int .i64 n ∧ H' = [(gb, Bu (.slice A n cap) lr)]) := by
  refine fn_enter 13 func298 rfl ntmps298 rfl ?_
  intro w0
  refine cR <| oA rfl <| oN <| c_seq <| cQ <| qM rfl <| qC rfl <| qX (e_fak 0 runUnderlying86 rfl sizeOf72 rfl rfl rfl) <| qX (e_load isAgg72 rfl (.inl M0) rfl) <| qX (e_lenl runUnderlying72 rfl) <| qM rfl <| qC rfl <| qX (e_fak 1 runUnderlying86 rfl sizeOf3 rfl rfl rfl) <| qX (e_load isAgg3 rfl (.inl M0) rfl) <| qX (e_subn rfl rfl (by simp only [inR]; omega)) <| qA rfl <| qN <| c_ret ?_
  refine r_fn1 results298 rfl ?_
  exact ⟨by simp only [Int.sub_zero], rfl⟩
theorem tg_none (h1 : cap < n + L) (h2 : n ≤ cap) (h3 : cap < 9223372036854775808) : Ctr Tryz.prog 296 [.pointer (some ⟨gb, 0, none⟩), .int .i64 L] G [(gb, Bu (.slice A n cap) lr)] (fun r H' => r = .tuple #[.int .i64 0, .bool false] ∧ H' = [(gb, Bu (.slice A n cap) lr)]) := by
  refine fn_enter 33 func296 rfl ntmps296 rfl ?_
  intro w0
  refine cR <| oA rfl <| oA rfl <| oN <| c_seq <| cR <| oM rfl <| oC rfl <| oX (e_fak 0 runUnderlying86 rfl sizeOf72 rfl rfl rfl) <| oX (e_load isAgg72 rfl (.inl M0) rfl) <| oX (e_lenl runUnderlying72 rfl) <| oA rfl <| oN <| cR <| oM rfl <| oM rfl <| oC rfl <| oX (e_fak 0 runUnderlying86 rfl sizeOf72 rfl rfl rfl) <| oX (e_load isAgg72 rfl (.inl M0) rfl) <| oX (e_cap runUnderlying72 rfl) <| oM rfl <| oX (e_subN rfl rfl (by omega)) <| oX (e_leq rfl rfl) <| o_nil ?_
  refine n_code ?_
  refine c_ifp rfl (fun h5 => ?_) (fun h5 => ?_)
  · exact absurd h5 (by omega)
  · skip
    refine c_skip <| n_code <| cR <| oA rfl <| oA rfl <| oN <| c_ret ?_
    refine r_fn (l := [.tmp 4, .tmp 5]) results296 rfl rfl ?_
    exact ⟨rfl, rfl⟩
theorem tg_room (h1 : n + L ≤ cap) (h3 : cap < 9223372036854775808) : Ctr Tryz.prog 296 [.pointer (some ⟨gb, 0, none⟩), .int .i64 L] G [(gb, Bu (.slice (some ⟨g, 0, none⟩) n cap) lr)] (fun r H' => r = .tuple #[.int .i64 n, .bool true] ∧ H' = [(gb, Bu (.slice (some ⟨g, 0, none⟩) (n + L) cap) lr)]) := by
  refine fn_enter 33 func296 rfl ntmps296 rfl ?_
  intro w0
  refine cR <| oA rfl <| oA rfl <| oN <| c_seq <| cR <| oM rfl <| oC rfl <| oX (e_fak 0 runUnderlying86 rfl sizeOf72 rfl rfl rfl) <| oX (e_load isAgg72 rfl (.inl M0) rfl) <| oX (e_lenl runUnderlying72 rfl) <| oA rfl <| oN <| cR <| oM rfl <| oM rfl <| oC rfl <| oX (e_fak 0 runUnderlying86 rfl sizeOf72 rfl rfl rfl) <| oX (e_load isAgg72 rfl (.inl M0) rfl) <| oX (e_cap runUnderlying72 rfl) <| oM rfl <| oX (e_subN rfl rfl (by omega)) <| oX (e_leq rfl rfl) <| o_nil ?_
  refine n_code ?_
  refine c_ifp rfl (fun h5 => ?_) (fun h5 => ?_)
  · refine cR <| oM rfl <| oM rfl <| oC rfl <| oX (e_fak 0 runUnderlying86 rfl sizeOf72 rfl rfl rfl) <| oX (e_load isAgg72 rfl (.inl M0) rfl) <| oM rfl <| oM rfl <| oX (e_addN rfl rfl (by omega)) <| oX (e_sl_h runUnderlying72 sizeOf5 rfl rfl (by omega) (by omega)) <| oC rfl <| oX (e_fak 0 runUnderlying86 rfl sizeOf72 rfl rfl rfl) ?_
    refine o_l rfl (l_store sizeOf72 rfl rfl rfl .head .head (by omega)) ?_; intro _ _
    refine oN <| cR <| oM rfl <| oA rfl <| oA rfl <| oN <| c_ret ?_
    refine r_fn (l := [.tmp 4, .tmp 5]) results296 rfl rfl ?_
    exact ⟨rfl, rfl⟩
  · exact absurd h5 (by omega)
end
end Go.Proofs
namespace Go.Sl
open Go
section
variable {x : Cx} {ops : Array Oper} {k : List KI} {rest : List Oper} {s : Slots} {H : HP} {d : Nat} {p pl : Operand} {ty t : TypeId} {pos : String} {af : Array Edge} {gd : Option (Nat × Bool)} {e g off n a cap : Nat} {kl : IntKind}
theorem o_ex {o : Oper} {d : Nat} {A : Value → Prop} (hw : wantS ops s o = some true) (hd : o.dst = some d) (hN : Nat.blt d x.N = true) (he : ∃ v, A v ∧ Ex x s H o v) (h : ∀ v, A v → WO x ops k rest ((d, v) :: s) H) : WO x ops k (o :: rest) s H := by
  obtain ⟨v, h1, h2⟩ := he
  exact o_e hw hd hN h2 (h v h1)
theorem q_ex {o : Oper} {d : Nat} {A : Value → Prop} (hw : wantS ops s o = some true) (hd : o.dst = some d) (hN : Nat.blt d x.N = true) (he : ∃ v, A v ∧ Ex x s H o v) (h : ∀ v, A v → QO x ops k rest ((d, v) :: s) H) : QO x ops k (o :: rest) s H := by
  obtain ⟨v, h1, h2⟩ := he
  exact q_e hw hd hN h2 (h v h1)
/-- A slice cut at its front, maybe at its room's end. -/
theorem e_slb (hU : ∀ w, (underlying t).run x.P w = .ok (.slice e) w) (hS : ∀ w, (sizeOf e).run x.P w = .ok 1 w) (hp : ev s p = some (.slice (some ⟨g, off, none⟩) n cap)) (hl : ev s pl = some (.int kl (a : Nat))) (h2 : a ≤ n) (h3 : n ≤ cap) :
    ∃ v, (∃ A, v = .slice A (n - a) (cap - a) ∧ (a < cap → A = some ⟨g, off + a, none⟩)) ∧ Ex x s H ⟨some d, .slice t p (some pl) none none, ty, pos, af, gd⟩ v := by
  by_cases hc : a < cap
  · refine ⟨_, ⟨some ⟨g, off + a, none⟩, rfl, fun _ => rfl⟩, ?_⟩
    have := e_sl_l (x := x) (s := s) (H := H) (d := d) (ty := ty) (pos := pos) (af := af) (gd := gd) hU hS hp hl (by omega) (by omega) (by omega)
    simpa using this
  · refine ⟨_, ⟨some ⟨g, off, none⟩, rfl, fun h => absurd h hc⟩, ?_⟩
    have := e_sl_le (x := x) (s := s) (H := H) (d := d) (ty := ty) (pos := pos) (af := af) (gd := gd) hU hS hp hl (by omega) (by omega) (by omega)
    have e1 : cap - a = 0 := by omega
    rw [e1]
    simpa using this
end
/-- A slice value that holds these bytes; of an empty one nothing more is told. -/
inductive BS (H : HP) : Value → List UInt8 → Prop where
  | emp {A : Option Addr} {cap : Nat} : BS H (.slice A 0 cap) []
  | blk {g off n cap : Nat} {l : List Value} {e : TypeId} {fr : Nat × Nat} {bs : List UInt8} (hm : (g, Obj.cells l.toArray e fr) ∈ H) (hc : CutL l off n (B bs)) (hn : n ≤ cap) (h63 : cap < 9223372036854775808) : BS H (.slice (some ⟨g, off, none⟩) n cap) bs
theorem BS.of {H : HP} {g off n cap : Nat} {A : Option Addr} {l : List Value} {e : TypeId} {fr : Nat × Nat} {bs : List UInt8} (hm : (g, Obj.cells l.toArray e fr) ∈ H) (hc : CutL l off n (B bs)) (hn : n ≤ cap) (h63 : cap < 9223372036854775808) (hA : 0 < cap → A = some ⟨g, off, none⟩) : BS H (.slice A n cap) bs := by
  by_cases h : 0 < cap
  · rw [hA h]; exact .blk hm hc hn h63
  · obtain rfl : n = 0 := by omega
    have : bs = [] := by
      have := congrArg List.length hc.eq
      simpa [B_length] using this
    subst this
    exact .emp
theorem CutL.len {l : List Value} {off n : Nat} {bs : List UInt8} (h : CutL l off n (B bs)) : bs.length = n := by
  have h1 := congrArg List.length h.eq
  have h2 := h.le
  simp [B_length] at h1
  omega
/-- What is cut out, cut at its front. -/
theorem CutL.front {l : List Value} {off n a : Nat} {u tl : List UInt8} (h : CutL l off n (B (u ++ tl))) (ha : u.length = a) : CutL l (off + a) (n - a) (B tl) := by
  have h1 := h.eq
  have h2 := h.le
  have h3 := h.len
  have h4 := CutL.of (l := l) (i := off + a) (n := n - a) (by rw [List.length_append] at h3; omega)
  have e : B tl = (l.drop (off + a)).take (n - a) := by
    have := congrArg (List.drop a) h1
    rw [B_append, List.drop_left' (by rw [B_length]; exact ha), List.drop_take, List.drop_drop] at this
    exact this
  rw [e]; exact h4
end Go.Sl
namespace Go.Proofs
open Go Go.Sl Tryz
set_option maxRecDepth 100000
set_option maxHeartbeats 1000000
/-- A multihash. -/
def mhB (h : Nat) (d : List UInt8) : List UInt8 := uv h ++ (uv d.length ++ d)
theorem mhB_length (h : Nat) (d : List UInt8) : (mhB h d).length = (uv h).length + (uv d.length).length + d.length := by simp [mhB]; omega
section
variable {G : HP} {g x h off n cap lo hi : Nat} {bs tl d : List UInt8} {l rest : List Value} {e : TypeId} {fr : Nat × Nat}
theorem muv_is (hx : x < 9223372036854775808) (hm : (g, .cells l.toArray e fr) ∈ G) (hcut : CutL l off n (B (uv x ++ tl))) (hc : n ≤ cap) (hcap : cap < 9223372036854775808) :
    Ctr Tryz.prog 224 [.slice (some ⟨g, off, none⟩) n cap] G [] (fun r H' => ∃ A, r = .tuple #[.int .u64 (x : Nat), .slice A (n - (uv x).length) (cap - (uv x).length), .nilIface] ∧ ((uv x).length < cap → A = some ⟨g, off + (uv x).length, none⟩) ∧ H' = []) := by
  have hp := uv_pos x
  have hL : (uv x).length ≤ n := by have := hcut.len; rw [List.length_append] at this; omega
  refine fn_enter 36 func224 rfl ntmps224 rfl ?_
  intro w0
  refine cR <| oA rfl <| oA rfl <| oA rfl <| oN <| cR <| oM rfl ?_
  refine o_l rfl (l_call call157 (fromU_is hx hm hcut rfl hc hcap) rfl rfl .nil) ?_
  rintro ⟨r, H'⟩ ⟨rfl, rfl⟩
  simp only [List.nil_append]
  refine oM rfl <| oX (e_extract rfl rfl) <| oX (e_extract rfl rfl) <| oX (e_extract rfl rfl) <| oA rfl <| oA rfl <| oA rfl <| oN <| c_seq <| cR <| oM rfl <| oX (e_nnen runUnderlying80 rfl) <| oN <| cL rfl <| cR <| oM rfl <| oX (e_eql rfl rfl) <| oN ?_
  refine c_ifp rfl (fun h1 => ?_) (fun h1 => ?_)
  · exact absurd h1 (by omega)
  · skip
    refine cR <| oM rfl <| oX (e_lss rfl rfl) <| oN ?_
    refine c_ifp rfl (fun h2 => ?_) (fun h2 => ?_)
    · exact absurd h2 (by omega)
    · skip
      refine c_seq <| cQ <| qM rfl <| qM rfl <| qM rfl <| q_ex rfl rfl rfl (e_slb runUnderlying72 sizeOf5 rfl rfl hL hc) ?_
      rintro v ⟨A, rfl, hA⟩
      refine qA rfl <| qA rfl <| qA rfl <| qN <| c_ret ?_
      refine r_fn (l := [.tmp 2, .tmp 3, .tmp 4]) results224 rfl rfl ?_
      exact ⟨A, rfl, hA, rfl⟩
theorem rmh_is (hh : h < 9223372036854775808) (hd : d.length ≤ 1000) (hm : (g, .cells l.toArray e fr) ∈ G) (hcut : CutL l off n (B (mhB h d))) (hc : n ≤ cap) (hcap : cap < 9223372036854775808) :
    Ctr Tryz.prog 211 [.slice (some ⟨g, off, none⟩) n cap] G [] (fun r H' => ∃ v, r = .tuple #[.int .i64 n, .int .u64 (h : Nat), v, .nilIface] ∧ (∃ A c, v = .slice A d.length c) ∧ BS G v d ∧ H' = []) := by
  have hp := uv_pos h
  have hp2 := uv_pos d.length
  have hn := hcut.len
  rw [mhB_length] at hn
  have hc2 := hcut.front (u := uv h) rfl
  have hc3 := hc2.front (u := uv d.length) rfl
  refine fn_enter 55 func211 rfl ntmps211 rfl ?_
  intro w0
  refine cR <| oA rfl <| oA rfl <| oA rfl <| oA rfl <| oN <| cR <| oM rfl <| oX (e_lenl runUnderlying72 rfl) <| oA rfl <| oN <| c_seq <| cR <| oM rfl <| oX (e_lss rfl rfl) <| oN ?_
  refine c_ifp rfl (fun h1 => ?_) (fun h1 => ?_)
  · exact absurd h1 (by omega)
  · skip
    refine c_skip <| n_code <| cR <| oA rfl <| oN <| cR <| oA rfl <| oA rfl <| oN <| cR <| oM rfl ?_
    refine o_l rfl (l_call call224 (muv_is hh hm hcut hc hcap) rfl rfl .nil) ?_
    rintro ⟨r, H'⟩ ⟨A, rfl, hA, rfl⟩
    rw [hA (by omega)]
    simp only [List.nil_append]
    refine oM rfl <| oX (e_extract rfl rfl) <| oX (e_extract rfl rfl) <| oX (e_extract rfl rfl) <| oA rfl <| oA rfl <| oA rfl <| oN <| c_seq <| cR <| oM rfl <| oX (e_nnen runUnderlying80 rfl) <| oN <| cL rfl <| cR <| oM rfl ?_
    refine o_l rfl (l_call call224 (muv_is (x := d.length) (by omega) hm hc2 (by omega) (by omega)) rfl rfl .nil) ?_
    rintro ⟨r, H'⟩ ⟨A2, rfl, hA2, rfl⟩
    simp only [List.nil_append]
    refine oM rfl <| oX (e_extract rfl rfl) <| oX (e_extract rfl rfl) <| oX (e_extract rfl rfl) <| oA rfl <| oA rfl <| oA rfl <| oN <| c_seq <| cR <| oM rfl <| oX (e_nnen runUnderlying80 rfl) <| oN <| cL rfl <| c_seq <| cR <| oM rfl <| oX (e_gtr rfl rfl) <| oN ?_
    refine c_ifp rfl (fun h2 => ?_) (fun h2 => ?_)
    · exact absurd h2 (by omega)
    · skip
      refine c_skip <| n_code <| c_seq <| cR <| oM rfl <| oX (e_convn runUnderlying23 runUnderlying3 rfl (by simp only [inR]; omega)) <| oM rfl <| oX (e_lenl runUnderlying72 rfl) <| oX (e_gtr rfl rfl) <| oN ?_
      refine c_ifp rfl (fun h3 => ?_) (fun h3 => ?_)
      · exact absurd h3 (by omega)
      · skip
        refine c_skip <| n_code <| cR <| oM rfl <| oM rfl <| oX (e_lenl runUnderlying72 rfl) <| oX (e_subN rfl rfl (by omega)) <| oM rfl <| oX (e_convn runUnderlying23 runUnderlying3 rfl (by simp only [inR]; omega)) <| oX (e_addN rfl rfl (by omega)) <| oA rfl <| oN <| c_seq <| cQ <| qM rfl <| qM rfl <| qM rfl <| qM rfl <| qX (e_sl_h runUnderlying72 sizeOf5 rfl rfl (by omega) (by omega)) <| qA rfl <| qA rfl <| qA rfl <| qA rfl <| qN <| c_ret ?_
        refine r_fn (l := [.tmp 2, .tmp 3, .tmp 4, .tmp 5]) results211 rfl rfl ?_
        refine ⟨_, ?_, ⟨A2, _, rfl⟩, BS.of hm (n := d.length) (cap := cap - (uv h).length - (uv d.length).length) (by have := hc3; rwa [show n - (uv h).length - (uv d.length).length = d.length by omega] at this) (by omega) (by omega) (fun h0 => hA2 (by omega)), rfl⟩
        rw [show n - (n - (uv h).length - (uv d.length).length) + d.length = n by omega, Int.toNat_natCast]
        rfl
theorem decode_is (hh : h < 9223372036854775808) (hd : d.length ≤ 1000) (hm : (g, .cells l.toArray e fr) ∈ G) (hcut : CutL l off n (B (mhB h d))) (hc : n ≤ cap) (hcap : cap < 9223372036854775808) :
    Ctr Tryz.prog 162 [.slice (some ⟨g, off, none⟩) n cap] G [] (fun r H' => ∃ v, r = .tuple #[.agg #[.int .u64 (h : Nat), S [], .int .i64 d.length, v], .nilIface] ∧ (∃ A c, v = .slice A d.length c) ∧ BS G v d ∧ H' = []) := by
  refine fn_enter 33 func162 rfl ntmps162 rfl ?_
  intro w0
  refine cR ?_
  refine o_l rfl (l_alloc zeroValue181 rfl rfl) ?_; intro g2 _
  refine oA rfl <| oN <| cR <| oM rfl ?_
  refine o_l rfl (l_call call211 (rmh_is hh hd hm hcut hc hcap) rfl rfl .nil) ?_
  rintro ⟨r, H'⟩ ⟨v, rfl, ⟨A, c, rfl⟩, hb, rfl⟩
  simp only [List.nil_append]
  refine oM rfl <| oX (e_extract rfl rfl) <| oX (e_extract rfl rfl) <| oX (e_extract rfl rfl) <| oX (e_extract rfl rfl) <| oA rfl <| oA rfl <| oA rfl <| oA rfl <| oN <| c_seq <| cR <| oM rfl <| oX (e_nnen runUnderlying80 rfl) <| oN <| cL rfl <| cR <| oM rfl <| oM rfl <| oX (e_lenl runUnderlying72 rfl) <| oM rfl ?_
  refine oX (e_build (vs := [.int .u64 (h : Nat), S [], .int .i64 d.length, .slice A d.length c]) runUnderlying181 zeroValue181 (.cons sizeOf23 (.cons sizeOf9 (.cons sizeOf3 (.cons sizeOf72 .nil)))) rfl rfl) ?_
  refine o_l rfl (l_storea sizeOf181 rfl rfl rfl (by simp [Value.oneCell']) .head (.take (.take (.take (.take .done)))) nofrs0) ?_
  intro _ _
  refine oN <| c_seq <| cR <| oM rfl <| oX (e_lenl runUnderlying72 rfl) <| oM rfl <| oX (e_neq rfl rfl) <| oN ?_
  refine c_ifp rfl (fun h1 => ?_) (fun h1 => ?_)
  · exact absurd h1 (by omega)
  · skip
    refine c_skip <| n_code <| cR ?_
    refine oX (e_loada isAgg181 sizeOf181 rfl (.inl M0) (by first | assumption | repeat constructor)) ?_
    refine o_l rfl (l_storea sizeOf181 rfl rfl rfl (by simp [Value.oneCell']) .head (.take (.take (.take (.take .done)))) nofrs0) ?_
    intro _ _
    refine oA rfl <| oN <| c_ret ?_
    refine r_fnx results162 (.cella isAgg181 sizeOf181 rfl (.inl M0) (.take (.take (.take (.take .done)))) (.tmp rfl .nil)) .nil rfl ?_
    exact ⟨_, rfl, ⟨A, c, rfl⟩, hb, rfl⟩
theorem Decode_is (hh : h < 9223372036854775808) (hd : d.length ≤ 1000) (hm : (g, .cells l.toArray e fr) ∈ G) (hcut : CutL l off n (B (mhB h d))) (hc : n ≤ cap) (hcap : cap < 9223372036854775808) :
    Ctr Tryz.prog 92 [.slice (some ⟨g, off, none⟩) n cap] G [] (fun r H' => ∃ (gm : Nat) (v : Value), r = .tuple #[.pointer (some ⟨gm, 0, none⟩), .nilIface] ∧ (∃ A c, v = .slice A d.length c) ∧ BS G v d ∧ H' = [(gm, C [.int .u64 (h : Nat), S [], .int .i64 d.length, v] 181)]) := by
  refine fn_enter 14 func92 rfl ntmps92 rfl ?_
  intro w0
  refine cR <| oA rfl <| oA rfl <| oN <| cR <| oM rfl ?_
  refine o_l rfl (l_call call162 (decode_is hh hd hm hcut hc hcap) rfl rfl .nil) ?_
  rintro ⟨r, H'⟩ ⟨v, rfl, ⟨A, c, rfl⟩, hb, rfl⟩
  simp only [List.nil_append]
  refine oM rfl <| oX (e_extract rfl rfl) <| oX (e_extract rfl rfl) ?_
  refine o_l rfl (l_alloc zeroValue181 rfl rfl) ?_; intro g4 _
  refine o_l rfl (l_storea sizeOf181 rfl rfl rfl (by simp [Value.oneCell']) .head (.take (.take (.take (.take .done)))) nofrs0) ?_
  intro _ _
  refine oA rfl <| oN <| c_seq <| cR <| oM rfl <| oX (e_nnen runUnderlying80 rfl) <| oN <| cL rfl <| cR <| oA rfl <| oA rfl <| oN <| c_ret ?_
  refine r_fn (l := [.tmp 2, .tmp 3]) results92 rfl rfl ?_
  exact ⟨_, _, rfl, ⟨A, c, rfl⟩, hb, rfl⟩
end
end Go.Proofs
namespace Go.Proofs
open Go Go.Sl
theorem idle132 (a b : Addr) : Idle Tryz.prog 132 #[.pointer (some a), .pointer (some b)] := by
  refine ⟨#[.pointer (some a), .pointer (some b)], fun w => by simp [invoke, Tryz.call132], fun w => ?_⟩
  refine callsD_of_wpS Tryz.func132 rfl fun c₀ cs hu => ?_
  apply wpS_seq
  apply wpS_region
  simp [wpOpsS, go_sem, recoverD, hu, Tryz.ntmps132, Exit.thenS]
  refine wpS_cond (t := false) (by simp [Act.eval, Array.replicate]) ?_
  simp only [Bool.false_eq_true, if_false]
  refine wpS_of_wp (wp_skip ?_)
  cases c₀
  simp_all [bodyPostS, results, Tryz.results132]

section
variable {x : Cx} {s : Slots} {H : HP} {d : Nat} {p : Operand} {ty : TypeId} {pos : String} {af : Array Edge} {gd : Option (Nat × Bool)}
theorem handle_eq (t : TypeId) : typeHandle Tryz.prog t = .pointer (some ⟨26, t, none⟩) := by
  unfold typeHandle
  have : Tryz.prog.globals.size = 26 := by kernel_rfl
  rw [this]
theorem ext63 {t e : TypeId} {i : TypeInfo} (hi : ∀ w, (typeInfo t).run Tryz.prog w = .ok i w) (hd : i.desc = .slice e) (q : Option Addr) (n c : Nat) (w : World) :
    (callFunc 63 #[.iface t (.slice q n c)]).run Tryz.prog w = .ok (.value (.agg #[.pointer (some ⟨26, t, none⟩), .pointer (some ⟨w.heap.size, 0, none⟩), .int .u64 151])) (w.alloc (.cells #[.slice q n c] t)) := by
  have hv := Lib.run_valueOf_slice (P := Tryz.prog) t e i (info_of hi) hd q n c w
  rw [run_callFunc_extern Tryz.func63 (by kernel_rfl) (by kernel_rfl) (by kernel_rfl) (e := fun args => Extern.ReflectliteValue.unpack (args.getD 0 (.tuple #[]))) (by kernel_rfl),
    show Sem.run Tryz.prog ((fun args : Array Value => Extern.ReflectliteValue.unpack (args.getD 0 (.tuple #[]))) #[.iface t (.slice q n c)]) w = _ from hv]
  simp only [Result.andThen, handle_eq]
theorem ext64 {t e : TypeId} {i ie : TypeInfo} (hi : ∀ w, (typeInfo t).run Tryz.prog w = .ok i w) (hd : i.desc = .slice e) (hie : ∀ w, (typeInfo e).run Tryz.prog w = .ok ie w) (ke : Nat) (hke : ∀ w, (Extern.Rtype.kind e).run Tryz.prog w = .ok ke w)
    (q : Option Addr) (n c : Nat) (k f : Nat) (hk : Lib.swapperK n ie ke = k) (hf : Tryz.prog.funcs.findIdx? (·.name == "internal/reflectlite" ++ ".Swapper$" ++ toString k) = some f) (w : World) :
    (callFunc 64 #[.iface t (.slice q n c)]).run Tryz.prog w = .ok (.value (.func (.func f) #[] (if k ≤ 2 then #[] else #[.slice q n c, .pointer (some ⟨26, e, none⟩)]))) w := by
  have hs := Lib.run_swapper_slice (P := Tryz.prog) t e i ie (info_of hi) hd (info_of hie) ke hke q n c f (by rw [hk]; exact hf) w
  rw [run_callFunc_extern Tryz.func64 (by kernel_rfl) (by kernel_rfl) (by kernel_rfl) (e := Extern.ReflectliteSwapper.swapper "internal/reflectlite" (Extern.ReflectliteValue.valueError "Swapper")) (by kernel_rfl), hs]
  simp only [Result.andThen, handle_eq, hk]
theorem e_vlen {t e : TypeId} {i : TypeInfo} {g off n c : Nat} {q : Option Addr} {l : List Value} {el : TypeId} {fr : Nat × Nat} {ats : Array TypeId} (hx : x.P = Tryz.prog) (hi : ∀ w, (typeInfo t).run Tryz.prog w = .ok i w) (hd : i.desc = .slice e) (hpk : Tryz.prog.packed t = false)
    (hp : ev s p = some (.agg #[.pointer (some ⟨26, t, none⟩), .pointer (some ⟨g, off, none⟩), .int .u64 151])) (hm : (g, .cells l.toArray el fr) ∈ H ∨ (g, Obj.cells l.toArray el fr) ∈ x.G) (hv : l[off]? = some (.slice q n c)) :
    Ex x s H ⟨some d, .call { callee := .value (.func 65), args := #[p], argTypes := ats }, ty, pos, af, gd⟩ (.int .i64 n) := fun a w hs => by
  have hl := Lib.run_valueLen_slice (P := Tryz.prog) t e i (info_of hi) hd hpk ⟨g, off, none⟩ q n c w (by rw [cell_of (hs.mem hm)]; exact hv)
  rw [handle_eq] at hl
  have hc : (callFunc 65 #[.agg #[.pointer (some ⟨26, t, none⟩), .pointer (some ⟨g, off, none⟩), .int .u64 151]]).run Tryz.prog w = .ok (.value (.int .i64 n)) w := by
    rw [run_callFunc_extern Tryz.func65 (by kernel_rfl) (by kernel_rfl) (by kernel_rfl) (e := Extern.ReflectliteValue.method (Extern.ReflectliteValue.valueError "reflectlite.Value.Len" 0) Extern.ReflectliteValue.len) (by kernel_rfl), hl]
    rfl
  rw [hx]
  have he : a.eval (.func 65) = .func (.func 65) #[] #[] := rfl
  simp [execOp, resolve, he, Deferred.ofValue, invoke, hs.eval hp, hc]
/-- A value that holds these bytes. -/
inductive Bv (x : Cx) (H : HP) : Value → List UInt8 → Prop where
  | nil {n cap : Nat} : Bv x H (.slice none n cap) []
  | blk {bs : List UInt8} {g off n cap : Nat} {l : List Value} {e : TypeId} {fr : Nat × Nat} (hm : (g, .cells l.toArray e fr) ∈ H ∨ (g, Obj.cells l.toArray e fr) ∈ x.G) (hn : bs.length = n) (hc : CutL l off n (B bs)) : Bv x H (.slice (some ⟨g, off, none⟩) n cap) bs
theorem run_loadB {P : Program} {w : World} : ∀ (l : List UInt8) (a : Addr) (acc : ByteArray), (∀ j x, l[j]? = some x → w.cell? (a.add j) = some (.int .u8 x.toNat)) → (Extern.Bytes.loadBytes a l.length acc).run P w = .ok ⟨acc.data ++ l.toArray⟩ w
  | [], a, acc, _ => by simp [Extern.Bytes.loadBytes]
  | x :: l, a, acc, h => by
    have h0 : w.cell? a = some (.int .u8 x.toNat) := by
      have := h 0 x rfl
      simpa [Addr.add] using this
    have ih := run_loadB (P := P) l (a.add 1) (acc.push x) (fun j y hj => by
      have := h (j + 1) y (by simpa using hj)
      rwa [show (a.add 1).add j = a.add (j + 1) by simp [Addr.add_add, Nat.add_comm]])
    have hx : ((x.toNat : Int).toNat).toUInt8 = x := by simp
    simp only [List.length_cons, Extern.Bytes.loadBytes, Sem.run_bind, run_load, h0, Result.andThen, hx]
    rw [ih]
    congr 1
    apply ByteArray.ext
    simp [ByteArray.push]
theorem Bv.run {a : Act} {w : World} (hs : St x s H a w) {v : Value} {bs : List UInt8} (h : Bv x H v bs) : (Extern.Bytes.bytesOf v).run x.P w = .ok ⟨bs.toArray⟩ w := by
  cases h with
  | nil => rfl
  | @blk _ g off n cap l e fr hm hn hc =>
    subst hn
    have := run_loadB (P := x.P) (w := w) bs ⟨g, off, none⟩ .empty (fun j b hj => by
      rw [add_addr, cell_of (hs.mem hm)]
      have hlt := (List.getElem?_eq_some_iff.1 hj).1
      have := congrArg (fun z => z[j]?) hc.eq
      simp only [List.getElem?_take_of_lt hlt, List.getElem?_drop] at this
      rw [← this]
      simp [B, hj])
    simp only [Extern.Bytes.bytesOf, this]
    have he : ByteArray.empty.data = #[] := rfl
    rw [he]
    simp
theorem e_cmp {q : Operand} {u v : Value} {la lb : List UInt8} {ats : Array TypeId} (hx : x.P = Tryz.prog) (hp : ev s p = some v) (hq : ev s q = some u) (ha : Bv x H v la) (hb : Bv x H u lb) :
    Ex x s H ⟨some d, .call { callee := .value (.func 362), args := #[p, q], argTypes := ats }, ty, pos, af, gd⟩ (.int .i64 (Lib.compareBytes la lb)) := fun a w hs => by
  have h1 := ha.run hs
  have h2 := hb.run hs
  rw [hx] at h1 h2
  have hc : (callFunc 362 #[v, u]).run Tryz.prog w = .ok (.value (.int .i64 (Lib.compareBytes la lb))) w := by
    rw [run_callFunc_extern Tryz.func362 (by kernel_rfl) (by kernel_rfl) (by kernel_rfl) (e := Extern.BytealgCompare.compare) (by kernel_rfl)]
    have : (Extern.BytealgCompare.compare #[v, u]).run Tryz.prog w = .ok (.int .i64 (Lib.compareBytes la lb)) w := by
      change Sem.run Tryz.prog (do pure (goInt (Extern.BytealgCompare.cmp (← Extern.Bytes.bytesOf v) (← Extern.Bytes.bytesOf u)))) w = _
      simp only [Sem.run_bind, h1, h2, Result.andThen_ok, Sem.run_pure, Lib.cmp_eq, goInt]
    rw [this]
    rfl
  rw [hx]
  have he : a.eval (.func 362) = .func (.func 362) #[] #[] := rfl
  simp [execOp, resolve, he, Deferred.ofValue, invoke, hs.eval hp, hs.eval hq, hc]
theorem ext225 (v : Value) (w : World) : (callFunc 225 #[v]).run Tryz.prog w = .ok (.value v) w := by
  rw [run_callFunc_extern Tryz.func225 (by kernel_rfl) (by kernel_rfl) (by kernel_rfl) (e := Extern.AbiNoEscape.same) (by kernel_rfl), Lib.run_noEscape]
  rfl
end
end Go.Proofs
namespace Go.Proofs
open Go Go.Sl Tryz
set_option maxRecDepth 100000
set_option maxHeartbeats 1000000
/-- A strings.Builder. -/
abbrev Sb (gb : Nat) (v : Value) : Obj := C [.pointer (some ⟨gb, 0, none⟩), v] 307
section
variable {G HB : HP} {gb gd n m c off cap : Nat} {bs ds mh : List UInt8} {v : Value} {l : List Value} {e : TypeId} {fr : Nat × Nat}
theorem cc0_is : Ctr Tryz.prog 216 [.pointer (some ⟨gb, 0, none⟩)] G [(gb, C [.pointer none, v] 307)] (fun r H' => r = .tuple #[] ∧ H' = [(gb, Sb gb v)]) := by
  refine fn_enter 20 func216 rfl ntmps216 rfl ?_
  intro w0
  refine cR <| oM rfl <| oC rfl <| oX (e_fak 0 runUnderlying307 rfl sizeOf305 rfl rfl rfl) <| oX (e_load isAgg305 rfl (.inl M0) rfl) <| oX (e_peqn runUnderlying305 rfl) <| oN <| c_then rfl <| c_region <| oM rfl <| oM rfl <| oX (e_tou underlying305 underlying123 (info_of typeInfo307) rfl rfl (.inl M0) rfl) ?_
  refine oX (e_ext rfl (fun w => ext225 _ w)) ?_
  refine oX (e_fromu underlying123 underlying305 (info_of typeInfo307) rfl (.inl M0) (by kernel_rfl)) <| oC rfl <| oX (e_fak 0 runUnderlying307 rfl sizeOf305 rfl rfl rfl) ?_
  refine o_l rfl (l_store sizeOf305 rfl rfl rfl .head .head (by omega)) ?_; intro _ _
  refine o_nil ?_
  refine n_fn0 results216 ?_
  exact ⟨rfl, rfl⟩
theorem cc1_is : Ctr Tryz.prog 216 [.pointer (some ⟨gb, 0, none⟩)] G [(gb, Sb gb v)] (fun r H' => r = .tuple #[] ∧ H' = [(gb, Sb gb v)]) := by
  refine fn_enter 20 func216 rfl ntmps216 rfl ?_
  intro w0
  refine cR <| oM rfl <| oC rfl <| oX (e_fak 0 runUnderlying307 rfl sizeOf305 rfl rfl rfl) <| oX (e_load isAgg305 rfl (.inl M0) rfl) <| oX (e_peqn runUnderlying305 rfl) <| oN <| c_else rfl <| cR <| oM rfl <| oC rfl <| oX (e_fak 0 runUnderlying307 rfl sizeOf305 rfl rfl rfl) <| oX (e_load isAgg305 rfl (.inl M0) rfl) <| oM rfl <| oX (e_pne_same runUnderlying305 sizeOf307 (by decide) rfl rfl) <| oN <| c_else rfl <| c_skip ?_
  refine n_fn0 results216 ?_
  exact ⟨rfl, rfl⟩
theorem sgrow_is (h0 : 0 < m) (hm : m ≤ 1000000) : Ctr Tryz.prog 217 [.pointer (some ⟨gb, 0, none⟩), .int .i64 m] G [(gb, Sb gb (.slice none 0 0))] (fun r H' => ∃ y : Tl, TlOk 1 0 y ∧ r = .tuple #[] ∧ H' = [(gb, Sb gb (.slice (some ⟨y.g, 0, none⟩) 0 y.cap)), (y.g, Ob [] y 5)]) := by
  refine fn_enter 30 func217 rfl ntmps217 rfl ?_
  intro w0
  refine c_seq ?_
  refine c_regiond ([(gb, Sb gb (.slice none 0 0))]) (by kernel_rfl) (by first | exact List.Sublist.refl _ | exact List.nil_sublist _ | (repeat constructor)) ?_
  refine dX 0 rfl (e_move rfl) <| dX 1 rfl (e_nilCheck rfl) <| dX 2 rfl (e_fak 1 runUnderlying307 rfl sizeOf72 rfl rfl rfl) <| dX 3 rfl (e_load isAgg72 rfl (.inl M0) rfl) <| dX 4 rfl (e_cap runUnderlying72 rfl) <| dX 5 rfl (e_muln rfl rfl (by simp only [inR]; omega)) <| dX 6 rfl (e_move rfl) <| dX 7 rfl (e_addN rfl rfl (by omega)) <| dX 9 rfl (e_move rfl) <| dX 10 rfl (e_nilCheck rfl) <| dX 11 rfl (e_fak 1 runUnderlying307 rfl sizeOf72 rfl rfl rfl) <| dX 12 rfl (e_load isAgg72 rfl (.inl M0) rfl) <| dX 13 rfl (e_lenl runUnderlying72 rfl) ?_
  refine d_l 8 (by kernel_rfl) rfl rfl (l_mnz (ps := #[3]) (rt := 72) func226 (by kernel_rfl) (by kernel_rfl) (by kernel_rfl) (by kernel_rfl) underlying72 rfl rfl (by simp; omega)) (by first | exact fun _ _ => hs_nil | (intro y hy p hp; simp only [List.mem_cons, List.mem_append, List.not_mem_nil, or_false, false_or] at hp ⊢; first | exact hp.elim | (simp only [hp, true_or, or_true]) | (rcases hp with rfl | rfl | rfl <;> simp))) ?_
  intro y hy
  refine dX 14 rfl (e_sl_h runUnderlying72 sizeOf5 rfl rfl (by omega) (by omega)) <| dX 15 rfl (e_assign rfl) <| dN <| n_code <| cR <| oM rfl <| oM rfl <| oC rfl <| oX (e_fak 1 runUnderlying307 rfl sizeOf72 rfl rfl rfl) ?_
  refine oX (e_load isAgg72 rfl (by first | exact .inr (by assumption) | exact .inl (by repeat (first | exact List.Mem.head _ | refine List.Mem.tail _ ?_))) rfl) ?_
  refine oX (e_copyn runUnderlying72 sizeOf5 rfl rfl (Sv.nil underlying72) rfl) <| oN <| c_region <| oM rfl <| oM rfl <| oC rfl <| oX (e_fak 1 runUnderlying307 rfl sizeOf72 rfl rfl rfl) ?_
  refine o_l rfl (l_store sizeOf72 rfl rfl rfl (.tail .head) (.tail .head) (by omega)) ?_; intro _ _
  refine o_nil <| WN.sel (.cons (.tail .head) (.cons .head .nil)) ?_
  refine n_fn0 results217 ?_
  exact ⟨y, hy.1, rfl, rfl⟩
theorem sGrow_is (h0 : 0 < m) (hm : m ≤ 1000000) : Ctr Tryz.prog 187 [.pointer (some ⟨gb, 0, none⟩), .int .i64 m] G [(gb, C [.pointer none, .slice none 0 0] 307)] (fun r H' => ∃ y : Tl, TlOk 1 0 y ∧ r = .tuple #[] ∧ H' = [(gb, Sb gb (.slice (some ⟨y.g, 0, none⟩) 0 y.cap)), (y.g, Ob [] y 5)]) := by
  refine fn_enter 25 func187 rfl ntmps187 rfl ?_
  intro w0
  refine cR <| oM rfl ?_
  refine o_l rfl (l_call call216 cc0_is rfl rfl (.cons .head .nil)) ?_
  rintro ⟨r, H'⟩ ⟨rfl, rfl⟩
  simp only [List.cons_append, List.nil_append]
  refine oN <| c_seq <| cR <| oM rfl <| oX (e_lss rfl rfl) <| oN ?_
  refine c_ifp rfl (fun h1 => ?_) (fun h1 => ?_)
  · exact absurd h1 (by omega)
  · skip
    refine c_skip <| n_code <| c_seq <| cQ <| qM rfl <| qC rfl <| qX (e_fak 1 runUnderlying307 rfl sizeOf72 rfl rfl rfl) <| qX (e_load isAgg72 rfl (.inl M0) rfl) <| qX (e_cap runUnderlying72 rfl) <| qM rfl <| qC rfl <| qX (e_fak 1 runUnderlying307 rfl sizeOf72 rfl rfl rfl) <| qX (e_load isAgg72 rfl (.inl M0) rfl) <| qX (e_lenl runUnderlying72 rfl) <| qX (e_subN rfl rfl (by omega)) <| qM rfl <| qX (e_lss rfl rfl) <| qN ?_
    refine c_ifp rfl (fun h2 => ?_) (fun h2 => ?_)
    · refine c_region <| oM rfl <| oM rfl ?_
      refine o_l rfl (l_call call217 (sgrow_is h0 hm) rfl rfl (.cons .head .nil)) ?_
      rintro ⟨r, H'⟩ ⟨y, hy, rfl, rfl⟩
      simp only [List.cons_append, List.nil_append]
      refine o_nil ?_
      refine n_fn0 results187 ?_
      exact ⟨y, hy, rfl, rfl⟩
    · exact absurd h2 (by omega)
theorem swb_is {b : UInt8} (ho : Osl 5 1 v n (B bs) HB) (hn : n ≤ 1000000) : Ctr Tryz.prog 188 [.pointer (some ⟨gb, 0, none⟩), .int .u8 b.toNat] G ((gb, Sb gb v) :: HB) (fun r H' => ∃ (v' : Value) (HB' : HP), Osl 5 1 v' (n + 1) (B (bs ++ [b])) HB' ∧ r = .nilIface ∧ H' = (gb, Sb gb v') :: HB') := by
  refine fn_enter 17 func188 rfl ntmps188 rfl ?_
  intro w0
  refine cR <| oA rfl <| oN <| cR <| oM rfl ?_
  refine o_l rfl (l_call call216 cc1_is rfl rfl (.cons .head .nil)) ?_
  rintro ⟨r, H'⟩ ⟨rfl, rfl⟩
  simp only [List.cons_append, List.nil_append]
  refine oN <| cR <| oM rfl <| oM rfl <| oC rfl <| oX (e_fak 1 runUnderlying307 rfl sizeOf72 rfl rfl rfl) <| oX (e_load isAgg72 rfl (.inl M0) rfl) <| oM rfl ?_
  refine o_l rfl (l_bs1 runUnderlying72 sizeOf5 zeroValue5 rfl rfl rfl) ?_; intro g13 _
  refine o_l rfl (l_append (sz := 1) underlying72 (info_of typeInfo5) rfl rfl rfl rfl rfl rfl ho (List.perm_append_comm (l₁ := [_, _])) (.blk (vs := [.int .u8 b.toNat]) underlying72 (.inl M0) (.take .done) (by simp [Value.oneCell'])) (by show (n + 1) * 1 ≤ _; omega) (by omega)) ?_
  rintro ⟨v2, HB2⟩ ho2
  simp only at ho2 ⊢
  refine o_perm (List.perm_append_comm (l₂ := [_, _])) ?_
  simp only [List.cons_append, List.nil_append]
  have h1c : v2.oneCell' = true := ho2.one
  refine oC rfl <| oX (e_fak 1 runUnderlying307 rfl sizeOf72 rfl rfl rfl) ?_
  refine o_l rfl (l_store sizeOf72 rfl rfl h1c (.tail .head) (.tail .head) nofr0) ?_
  intro _ _
  refine oN <| cR <| oA rfl <| oN <| c_ret ?_
  refine WR.sel (.cons (.tail .head) (by simpa using Sel.mid [_] HB2 [])) ?_
  refine r_fn1 results188 rfl ?_
  exact ⟨v2, HB2, by rw [B_append]; exact ho2, rfl, rfl⟩
theorem swr_is (ho : Osl 5 1 v n (B bs) HB) (hn : n ≤ 1000000) (hm : m ≤ 1000000) (hD : (gd, .cells l.toArray e fr) ∈ G) (hcut : CutL l off m (B ds)) (h0 : 0 < m) : Ctr Tryz.prog 189 [.pointer (some ⟨gb, 0, none⟩), .slice (some ⟨gd, off, none⟩) m cap] G ((gb, Sb gb v) :: HB) (fun r H' => ∃ (v' : Value) (HB' : HP), Osl 5 1 v' (n + m) (B (bs ++ ds)) HB' ∧ r = .tuple #[.int .i64 m, .nilIface] ∧ H' = (gb, Sb gb v') :: HB') := by
  refine fn_enter 19 func189 rfl ntmps189 rfl ?_
  intro w0
  refine cR <| oA rfl <| oA rfl <| oN <| cR <| oM rfl ?_
  refine o_l rfl (l_call call216 cc1_is rfl rfl (.cons .head .nil)) ?_
  rintro ⟨r, H'⟩ ⟨rfl, rfl⟩
  simp only [List.cons_append, List.nil_append]
  refine oN <| cR <| oM rfl <| oM rfl <| oC rfl <| oX (e_fak 1 runUnderlying307 rfl sizeOf72 rfl rfl rfl) <| oX (e_load isAgg72 rfl (.inl M0) rfl) <| oM rfl ?_
  refine o_l rfl (l_append (sz := 1) underlying72 (info_of typeInfo5) rfl rfl rfl rfl rfl rfl ho (List.perm_append_comm (l₁ := [_])) (.blk (vs := B ds) underlying72 (.inr hD) (by rw [Nat.mul_one]; exact hcut) (B_one ds)) (by show (n + m) * 1 ≤ _; omega) (by omega)) ?_
  rintro ⟨v2, HB2⟩ ho2
  simp only at ho2 ⊢
  refine o_perm (List.perm_append_comm (l₂ := [_])) ?_
  simp only [List.cons_append, List.nil_append]
  have h1c : v2.oneCell' = true := ho2.one
  refine oC rfl <| oX (e_fak 1 runUnderlying307 rfl sizeOf72 rfl rfl rfl) ?_
  refine o_l rfl (l_store sizeOf72 rfl rfl h1c .head (.tail .head) nofr0) ?_
  intro _ _
  refine oN <| cR <| oM rfl <| oX (e_lenl runUnderlying72 rfl) <| oA rfl <| oA rfl <| oN <| c_ret ?_
  refine r_fn (l := [.tmp 4, .tmp 5]) results189 rfl rfl ?_
  exact ⟨v2, HB2, by rw [B_append]; exact ho2, rfl, rfl⟩
theorem sstr_is (ho : Osl 5 1 v n (B bs) HB) (h0 : 0 < n) : Ctr Tryz.prog 190 [.pointer (some ⟨gb, 0, none⟩)] G ((gb, Sb gb v) :: HB) (fun r H' => r = S bs ∧ H' = [(gb, Sb gb v)]) := by
  generalize hx : B bs = xs at ho
  cases ho with
  | nil => exact absurd h0 (by omega)
  | @own g n cap lo hi xs rest h1 h2 h3 h4 h5 =>
    subst hx
    have hlen : bs.length = n := by rw [← B_length bs, h1, Nat.mul_one]
    have hcut : CutL (B bs ++ rest) 0 n (B bs) := by
      have := CutL.of (l := B bs ++ rest) (i := 0) (n := n) (by rw [List.length_append, B_length]; omega)
      rwa [List.drop_zero, List.take_left' (by rw [B_length]; exact hlen)] at this
    refine fn_enter 14 func190 rfl ntmps190 rfl ?_
    intro w0
    refine cR <| oA rfl <| oN <| c_seq <| c_regiond ([(gb, Sb gb (.slice (some ⟨g, 0, none⟩) n cap))]) (by kernel_rfl) (.cons_cons _ (.cons _ .slnil)) <| dX 0 rfl (e_move rfl) <| dX 1 rfl (e_nilCheck rfl) <| dX 2 rfl (e_fak 1 runUnderlying307 rfl sizeOf72 rfl rfl rfl) <| dX 3 rfl (e_load isAgg72 rfl (.inl M0) rfl) <| dX 5 rfl (e_move rfl) <| dX 6 rfl (e_nilCheck rfl) <| dX 7 rfl (e_fak 1 runUnderlying307 rfl sizeOf72 rfl rfl rfl) <| dX 8 rfl (e_load isAgg72 rfl (.inl M0) rfl) <| dX 9 rfl (e_lenl runUnderlying72 rfl) ?_
    refine dX 4 rfl (e_usd rfl (by omega)) ?_
    refine d_l 10 (by kernel_rfl) rfl rfl (l_ustr (bs := bs) underlying358 (by kernel_rfl) rfl rfl rfl (.tail .head) hlen (by simpa using h0) (by simp; omega) hcut) (by first | exact fun _ _ => hs_nil | (intro y hy p hp; simp only [List.mem_cons, List.mem_append, List.not_mem_nil, or_false, false_or] at hp ⊢; first | exact hp.elim | (simp only [hp, true_or, or_true]) | (rcases hp with rfl | rfl | rfl <;> simp))) ?_
    intro _ _
    refine dX 11 rfl (e_assign rfl) <| dN <| n_code <| c_ret ?_
    refine r_fn1 results190 rfl ?_
    exact ⟨rfl, rfl⟩
end
end Go.Proofs
namespace Go.Proofs
open Go Go.Sl Tryz
set_option maxRecDepth 100000
set_option maxHeartbeats 1000000
theorem enc_put {h : Nat} {d : List UInt8} {W : List Value} (hW : W.length = d.length) : PutL (B (uv h) ++ (B (uv d.length) ++ W)) ((uv h).length + (uv d.length).length) (B d) (B (mhB h d)) := by
  have := PutL.of (l := B (uv h) ++ B (uv d.length) ++ W) (i := (uv h).length + (uv d.length).length) (vs := B d) (by simp only [List.length_append, B_length]; omega)
  rw [List.drop_of_length_le (by simp only [List.length_append, B_length]; omega), List.take_left' (by rw [List.length_append, B_length, B_length]), List.append_nil] at this
  rw [mhB, B_append, B_append, ← List.append_assoc, ← List.append_assoc]
  exact this
theorem enc_nil {h : Nat} {z : Value} : B (uv h) ++ (B (uv 0) ++ ((List.replicate ((uv h).length + (uv 0).length + 0) z).drop (uv h).length).drop (uv 0).length) = B (mhB h []) := by
  rw [List.drop_of_length_le (by simp only [List.length_drop, List.length_replicate]; omega), mhB, B_append, B_append]
  rfl
section
variable {G : HP} {g gd gm h c n off cap lo hi : Nat} {bs d mh : List UInt8} {l rest : List Value} {e : TypeId} {fr : Nat × Nat}
theorem enc_is (hh : h < 18446744073709551616) (hD : (gd, DB d rest lo hi) ∈ G) (hd : d.length = n) (hn : n ≤ 1000) :
    Ctr Tryz.prog 133 [.slice (some ⟨gd, 0, none⟩) n cap, .int .u64 (h : Nat)] G [] (fun r H' => ∃ g, r = .tuple #[.slice (some ⟨g, 0, none⟩) (mhB h d).length (mhB h d).length, .nilIface] ∧ H' = [(g, C (B (mhB h d)) 5)]) := by
  subst hd
  have hp := uv_pos h
  have hp2 := uv_pos d.length
  have h10 := uv_le h
  have h102 := uv_le d.length
  have hN : (uv h).length + (uv d.length).length + d.length = (mhB h d).length := (mhB_length h d).symm
  have hcutd : CutL (B d ++ rest) 0 (d.length * 1) (B d) := by
    have := CutL.of (l := B d ++ rest) (i := 0) (n := d.length * 1) (by rw [List.length_append, B_length]; omega)
    rw [List.drop_zero, Nat.mul_one, List.take_left' (B_length d)] at this
    rw [Nat.mul_one]
    exact this
  refine fn_enter 37 func133 rfl ntmps133 rfl ?_
  intro w0
  refine cR <| oA rfl <| oA rfl <| oN <| cR <| oM rfl ?_
  refine o_l rfl (l_call call185 (usize_is hh) rfl rfl .nil) ?_
  rintro ⟨r, H'⟩ ⟨rfl, rfl⟩
  simp only [List.nil_append]
  refine oM rfl <| oX (e_lenl runUnderlying72 rfl) <| oX (e_convn runUnderlying3 runUnderlying23 rfl (by simp only [inR]; omega)) ?_
  refine o_l rfl (l_call call185 (usize_is (x := d.length) (by omega)) rfl rfl .nil) ?_
  rintro ⟨r, H'⟩ ⟨rfl, rfl⟩
  simp only [List.nil_append]
  refine oX (e_addN rfl rfl (by omega)) <| oM rfl <| oX (e_lenl runUnderlying72 rfl) <| oX (e_addN rfl rfl (by omega)) ?_
  refine o_l rfl (l_mks (l := List.replicate ((uv h).length + (uv d.length).length + d.length) (.int .u8 0)) underlying72 (info_of typeInfo5) rfl rfl rfl rfl (by omega) (by omega) (by show (1 : Int) * _ ≤ _; omega) (by omega) (by rw [Int.toNat_natCast]; exact made_one (.int .u8 0) _ rfl)) ?_
  intro g _
  simp only [Int.toNat_natCast]
  refine oA rfl <| oN <| cR <| oM rfl <| oM rfl ?_
  refine o_l rfl (l_call call77 (vputg_is (pre := []) (old := List.replicate ((uv h).length + (uv d.length).length + d.length) (.int .u8 0)) (off := 0) hh rfl (by omega) (Nat.le_refl _) (by omega) (by rw [List.length_replicate]; omega) (.inr rfl)) rfl rfl (.cons .head .nil)) ?_
  rintro ⟨r, H'⟩ ⟨rfl, rfl⟩
  simp only [List.cons_append, List.nil_append]
  refine oA rfl <| oN <| cR <| oM rfl <| oM rfl <| oM rfl <| oX (e_sl_l runUnderlying72 sizeOf5 rfl rfl (by omega) (by omega) (by omega)) <| oM rfl <| oX (e_lenl runUnderlying72 rfl) <| oX (e_convn runUnderlying3 runUnderlying23 rfl (by simp only [inR]; omega)) ?_
  simp only [Int.toNat_natCast, Nat.mul_one, Nat.zero_add]
  refine o_l rfl (l_call call77 (vputg_is (x := d.length) (pre := B (uv h)) (old := (List.replicate ((uv h).length + (uv d.length).length + d.length) (.int .u8 0)).drop (uv h).length) (by omega) (B_length _) (by omega) (by omega) (by omega) (by rw [List.length_drop, List.length_replicate]; omega) (.inr rfl)) rfl rfl (.cons .head .nil)) ?_
  rintro ⟨r, H'⟩ ⟨rfl, rfl⟩
  simp only [List.cons_append, List.nil_append]
  refine oX (e_addN rfl rfl (by omega)) <| oA rfl <| oN <| cR <| oM rfl <| oM rfl <| o_ex rfl rfl rfl (e_slb (a := (uv h).length + (uv d.length).length) runUnderlying72 sizeOf5 rfl rfl (by omega) (by omega)) ?_
  rintro v ⟨A, rfl, hA⟩
  refine oM rfl ?_
  by_cases h0 : d.length = 0
  · obtain rfl : d = [] := List.length_eq_zero_iff.1 h0
    refine oX (e_copyn runUnderlying72 sizeOf5 rfl rfl (.blk (vs := B []) underlying72 (.inr hD) hcutd (B_one [])) rfl) <| oN <| cR <| oM rfl <| oA rfl <| oA rfl <| oN <| c_ret ?_
    refine r_fn (l := [.tmp 4, .tmp 5]) results133 rfl rfl ?_
    exact ⟨g, by rw [hN], by rw [← enc_nil (z := .int .u8 0)]; rfl⟩
  · skip
    rw [hA (by omega)]
    simp only [Nat.zero_add]
    refine o_l rfl (l_copy (off := (uv h).length + (uv d.length).length) (l' := B (mhB h d)) runUnderlying72 sizeOf5 rfl rfl rfl (.blk (vs := B d) underlying72 (.inr hD) hcutd (B_one d)) rfl .head (by rw [show Nat.min d.length ((uv h).length + (uv d.length).length + d.length - ((uv h).length + (uv d.length).length)) = d.length from Nat.min_eq_left (by omega), List.take_of_length_le (by rw [B_length]; exact Nat.le_refl _)]; exact enc_put (by simp only [List.length_drop, List.length_replicate]; omega)) (.inr rfl)) ?_
    intro _ _
    refine oN <| cR <| oM rfl <| oA rfl <| oA rfl <| oN <| c_ret ?_
    refine r_fn (l := [.tmp 4, .tmp 5]) results133 rfl rfl ?_
    exact ⟨g, by rw [hN], rfl⟩
end
end Go.Proofs
namespace Go.Proofs
open Go Go.Sl Tryz
set_option maxRecDepth 100000

theorem fits1 {G : HP} (x : En) : Ctr Tryz.prog 10 [.agg (cC x).toArray] G [] (fun r _ => ∃ b, r = .bool b) := by
  obtain ⟨v, c, h, d, o⟩ := x
  simp only [cC]
  refine fn_enter 7 func10 rfl ntmps10 rfl ?_
  intro w0
  refine cR ?_
  refine o_l rfl (l_box rfl rfl rfl) ?_; intro g1 _
  refine oA rfl <| oN <| c_seq <| cR <| oX (e_fa runUnderlying25 rfl sizeOf9 rfl rfl) <| oX (e_load isAgg9 rfl (.inl M0) rfl) <| oX (e_lens runUnderlying9 rfl) <| oX (e_gtr rfl rfl) <| oN ?_
  refine c_ifp rfl (fun h => ?_) (fun h => ?_)
  · refine cR <| oA rfl <| oN <| c_ret ?_
    refine r_fn1 results10 rfl ?_
    exact ⟨_, rfl⟩
  · skip
    refine c_skip <| n_code <| cR <| oA rfl <| oN <| c_ret ?_
    refine r_fn1 results10 rfl ?_
    exact ⟨_, rfl⟩
theorem fits8 {G : HP} (x : En) : Ctr Tryz.prog 33 [.agg (cE x).toArray] G [] (fun r _ => ∃ b, r = .bool b) := by
  have h1 := fits1 (G := G) x
  obtain ⟨v, c, h, d, o⟩ := x
  simp only [cE, cC] at h1 ⊢
  refine fn_enter 7 func33 rfl ntmps33 rfl ?_
  intro w0
  refine cR ?_
  refine o_l rfl (l_box rfl rfl rfl) ?_; intro g1 _
  refine oA rfl <| oN <| c_seq <| cR <| oX (e_fa runUnderlying56 rfl sizeOf25 rfl rfl) ?_
  refine oX (e_loada isAgg25 sizeOf25 rfl (.inl M0) (by first | assumption | repeat constructor)) ?_
  refine o_l rfl (l_call call10 (h1) rfl rfl .nil) ?_
  rintro ⟨r, H'⟩ ⟨b, rfl⟩
  refine oX (e_not rfl) <| oN ?_
  refine c_if rfl (fun hb => ?_) (fun hb => ?_)
  · refine cR <| oA rfl <| oN <| c_ret ?_
    refine r_fn1 results33 rfl ?_
    exact ⟨_, rfl⟩
  · skip
    refine c_skip <| n_code <| cR <| oA rfl <| oN <| c_ret ?_
    refine r_fn1 results33 rfl ?_
    exact ⟨_, rfl⟩
theorem fits7 {G : HP} {v : Value} {l : List En} (h : EnS G v l) (hl : l.length < 9223372036854775808) : Ctr Tryz.prog 9 [v] G [] (fun r _ => ∃ b, r = .bool b) := by
  cases h with
  | none =>
    refine fn_enter 18 func9 rfl ntmps9 rfl ?_
    intro w0
    refine cR <| oA rfl <| oN <| c_seq <| cR <| oM rfl <| oX (e_lenl runUnderlying22 rfl) <| oX (e_gtr rfl rfl) <| oN <| cL rfl <| c_seq <| cR <| oM rfl <| oX (e_lenl runUnderlying22 rfl) <| oM rfl <| oN <| c_block ?_
    refine c_rounds 1 ?_
    refine cR <| oX (e_lss rfl rfl) <| oN <| c_seq <| c_else rfl ?_
    refine c_exit ?_; refine x_code ?_; refine x_upto ?_; refine x_here ?_
    refine n_code <| cR <| oA rfl <| oN <| c_ret ?_
    refine r_fn1 results9 rfl ?_
    exact ⟨_, rfl⟩
  | @blk l L g off n cap e fr hm hn hc =>
    refine fn_enter 18 func9 rfl ntmps9 rfl ?_
    intro w0
    refine cR <| oA rfl <| oN <| c_seq <| cR <| oM rfl <| oX (e_lenl runUnderlying22 rfl) <| oX (e_gtr rfl rfl) <| oN ?_
    refine c_ifp rfl (fun h1 => ?_) (fun h1 => ?_)
    · refine cR <| oA rfl <| oN <| c_ret ?_
      refine r_fn1 results9 rfl ?_
      exact ⟨_, rfl⟩
    · skip
      refine c_skip <| n_code <| c_seq <| cR <| oM rfl <| oX (e_lenl runUnderlying22 rfl) <| oM rfl <| oN <| c_block ?_
      refine c_loop (X := Nat) (fun i => [(8, .slice (some ⟨g, off, none⟩) n cap), (9, .int .i64 n), (10, .int .i64 i)]) (fun _ => []) (fun i => i ≤ n) (fun i => n - i) 0 (Nat.zero_le _) (sub_cons rfl (sub_cons rfl (sub_cons rfl sub_nil))) (.refl _) ?_
      intro i hi
      refine cR <| oX (e_lss rfl rfl) <| oN <| c_seq ?_
      refine c_ifp rfl (fun h2 => ?_) (fun h2 => ?_)
      · have hi2 : i < l.length := by omega
        have hci := hc i hi2
        generalize l[i] = x at hci
        have h8 := fits8 (G := G) x
        obtain ⟨xv, xc, xh, xd, xo⟩ := x
        simp only [cE] at hci h8
        refine c_skip <| n_code <| c_seq <| c_block <| cR <| oX (e_ian runUnderlying22 sizeOf56 rfl rfl (by omega)) <| oX (e_loada isAgg56 sizeOf56 rfl (.inr hm) hci) ?_
        refine o_l rfl (l_alloc zeroValue56 rfl rfl) ?_; intro g4 _
        refine o_l rfl (l_storea sizeOf56 rfl rfl rfl (by simp [Value.oneCell']) .head (.take (.take (.take (.take (.take .done))))) nofrs0) ?_
        intro _ _
        refine oN <| cR ?_
        refine oX (e_loada isAgg56 sizeOf56 rfl (.inl M0) (by first | assumption | repeat constructor)) ?_
        refine o_l rfl (l_call call33 (h8) rfl rfl .nil) ?_
        rintro ⟨r, H'⟩ ⟨b, rfl⟩
        refine oX (e_not rfl) <| oN ?_
        refine c_if rfl (fun hb => ?_) (fun hb => ?_)
        · refine cR <| oA rfl <| oN <| c_ret ?_
          refine r_fn1 results9 rfl ?_
          exact ⟨_, rfl⟩
        · skip
          refine c_skip <| n_block <| n_code <| c_region <| oX (e_addn rfl rfl (by simp only [inR]; omega)) <| oM rfl <| o_nil ?_
          refine n_round' (i + 1) (by omega) (by omega) (sub_cons rfl (sub_cons rfl (sub_cons rfl sub_nil))) _ (.refl _) (List.nil_sublist _)
      · skip
        refine c_exit ?_; refine x_code ?_; refine x_upto ?_; refine x_here ?_
        refine n_code <| cR <| oA rfl <| oN <| c_ret ?_
        refine r_fn1 results9 rfl ?_
        exact ⟨_, rfl⟩
end Go.Proofs
namespace Go.Proofs
open Go Go.Sl Tryz
set_option maxRecDepth 100000

def Tidy (x : En) : Prop := (x.v = 0 ∧ x.c = 112 ∧ x.h = 18 ∧ x.d.length = 32) ∨ (x.v = 1 ∧ x.c < 9223372036854775808 ∧ x.h < 9223372036854775808)
instance (x : En) : Decidable (Tidy x) := by unfold Tidy; infer_instance
theorem tidy_is {G : HP} (x : En) : Ctr Tryz.prog 12 [.agg (cC x).toArray] G [] (fun r _ => r = .bool (decide (Tidy x))) := by
  obtain ⟨v, c, h, d, o⟩ := x
  simp only [cC]
  refine fn_enter 33 func12 rfl ntmps12 rfl ?_
  intro w0
  refine cR ?_
  refine o_l rfl (l_box rfl rfl rfl) ?_; intro g1 _
  refine oA rfl <| oN <| c_seq <| cR <| oX (e_fa runUnderlying25 rfl sizeOf23 rfl rfl) <| oX (e_load isAgg23 rfl (.inl M0) rfl) <| oX (e_eql rfl rfl) <| oN ?_
  refine c_ifp rfl (fun h1 => ?_) (fun h1 => ?_)
  · refine cR <| oX (e_fa runUnderlying25 rfl sizeOf23 rfl rfl) <| oX (e_load isAgg23 rfl (.inl M0) rfl) <| oX (e_eql rfl rfl) <| oM rfl ?_
    refine o_splitp 9 rfl (fun h2 => ?_) (fun h2 => ?_)
    · refine oX (e_fa runUnderlying25 rfl sizeOf23 rfl rfl) <| oX (e_load isAgg23 rfl (.inl M0) rfl) <| oX (e_eql rfl rfl) <| oX (e_pick_t rfl rfl) <| oM rfl ?_
      refine o_splitp 14 rfl (fun h3 => ?_) (fun h3 => ?_)
      · refine oX (e_fa runUnderlying25 rfl sizeOf9 rfl rfl) <| oX (e_load isAgg9 rfl (.inl M0) rfl) <| oX (e_lens runUnderlying9 rfl) <| oX (e_eql rfl rfl) <| oX (e_pick_t rfl rfl) <| oA rfl <| oN <| c_ret ?_
        refine r_fn1 results12 rfl ?_
        refine congrArg Value.bool ?_
        have : ((d.length : Int) = 32) ↔ d.length = 32 := by omega
        simp [Tidy, h1, h2, h3, this]
      · skip
        refine oS <| oS <| oS <| oS <| oX (e_pick_f rfl rfl) <| oA rfl <| oN <| c_ret ?_
        refine r_fn1 results12 rfl ?_
        simp [Tidy, h1, h2, h3]
    · skip
      refine oS <| oS <| oS <| oX (e_pick_f rfl rfl) <| oM rfl <| oS <| oS <| oS <| oS <| oX (e_pick_f rfl rfl) <| oA rfl <| oN <| c_ret ?_
      refine r_fn1 results12 rfl ?_
      simp [Tidy, h1, h2]
  · skip
    refine c_skip <| n_code <| cR <| oX (e_fa runUnderlying25 rfl sizeOf23 rfl rfl) <| oX (e_load isAgg23 rfl (.inl M0) rfl) <| oX (e_eql rfl rfl) <| oM rfl ?_
    refine o_splitp 23 rfl (fun h2 => ?_) (fun h2 => ?_)
    · refine oX (e_fa runUnderlying25 rfl sizeOf23 rfl rfl) <| oX (e_load isAgg23 rfl (.inl M0) rfl) <| oX (e_lss rfl rfl) <| oX (e_pick_t rfl rfl) <| oM rfl ?_
      refine o_splitp 28 rfl (fun h3 => ?_) (fun h3 => ?_)
      · refine oX (e_fa runUnderlying25 rfl sizeOf23 rfl rfl) <| oX (e_load isAgg23 rfl (.inl M0) rfl) <| oX (e_lss rfl rfl) <| oX (e_pick_t rfl rfl) <| oA rfl <| oN <| c_ret ?_
        refine r_fn1 results12 rfl ?_
        refine congrArg Value.bool ?_
        simp [Tidy, h2, h3]
      · skip
        refine oS <| oS <| oS <| oX (e_pick_f rfl rfl) <| oA rfl <| oN <| c_ret ?_
        refine r_fn1 results12 rfl ?_
        simp [Tidy, h1, h3]
    · skip
      refine oS <| oS <| oS <| oX (e_pick_f rfl rfl) <| oM rfl <| oS <| oS <| oS <| oX (e_pick_f rfl rfl) <| oA rfl <| oN <| c_ret ?_
      refine r_fn1 results12 rfl ?_
      simp [Tidy, h1, h2]
end Go.Proofs
namespace Go.Proofs
open Go Go.Sl Tryz
set_option maxRecDepth 100000
set_option maxHeartbeats 1000000
section
variable {G : HP} {gr gs g n cap i R w lo hi : Nat} {bs : List UInt8} {rest : List Value} {z0 z1 z2 : Value}
theorem chk_is (h1 : 8 ≤ w) (h2 : w ≤ 33554432) (h3 : R < 9223372036854775808) :
    Ctr Tryz.prog 361 [.pointer (some ⟨g, 0, none⟩), .int .u32 w, .int .u64 R, .int .u64 0] G [(g, C [z0, z1, z2] 448)] (fun r H' => r = .nilIface ∧ H' = [(g, C [.int .u32 w, .int .u64 (R / w : Nat), z2] 448)]) := by
  refine fn_enter 39 func361 rfl ntmps361 rfl ?_
  intro w0
  refine cR <| oA rfl <| oN <| c_seq <| cR <| oM rfl <| oX (e_lss rfl rfl) <| oN ?_
  refine c_ifp rfl (fun a1 => ?_) (fun a1 => ?_)
  · exact absurd a1 (by omega)
  · skip
    refine c_skip <| n_code <| c_seq <| cR <| oM rfl <| oX (e_gtr rfl rfl) <| oN ?_
    refine c_ifp rfl (fun a2 => ?_) (fun a2 => ?_)
    · exact absurd a2 (by omega)
    · skip
      refine c_skip <| n_code <| cR <| oM rfl <| oM rfl <| oM rfl <| oX (e_addn rfl rfl (by simp only [inR]; omega)) <| oA rfl <| oA rfl <| oN <| c_seq <| cR <| oM rfl <| oM rfl <| oX (e_gtr rfl rfl) <| oN ?_
      refine c_ifp rfl (fun a3 => ?_) (fun a3 => ?_)
      · exact absurd a3 (by omega)
      · skip
        refine c_skip <| n_code <| c_seq <| cR <| oM rfl <| oX (e_convn runUnderlying23 runUnderlying2 rfl (by simp only [inR]; omega)) <| oX (e_lss rfl rfl) <| oN ?_
        refine c_ifp rfl (fun a4 => ?_) (fun a4 => ?_)
        · exact absurd a4 (by omega)
        · skip
          refine c_skip <| n_code <| cR <| oM rfl <| oM rfl <| oC rfl <| oX (e_fak 0 runUnderlying448 rfl sizeOf212 rfl rfl rfl) ?_
          refine o_l rfl (l_store sizeOf212 rfl rfl rfl .head .head (by omega)) ?_; intro _ _
          refine oN <| cR <| oM rfl <| oM rfl <| oM rfl <| oX (e_convn runUnderlying212 runUnderlying23 rfl (by simp only [inR]; omega)) <| oX (e_quo rfl rfl (by omega)) <| oC rfl <| oX (e_fak 1 runUnderlying448 rfl sizeOf23 rfl rfl rfl) ?_
          refine o_l rfl (l_store sizeOf23 rfl rfl rfl .head (.tail .head) (by omega)) ?_; intro _ _
          refine oN <| cR <| oA rfl <| oN <| c_ret ?_
          refine r_fn1 results361 rfl ?_
          have hq : IntKind.u64.wrap ((R : Int) / (w : Int)) = ((R / w : Nat) : Int) := by
            have hle : R / w ≤ R := Nat.div_le_self R w
            rw [show (R : Int) / (w : Int) = ((R / w : Nat) : Int) by simp]
            generalize R / w = q at hle
            exact wrap_inR (by simp only [inR]; omega)
          exact ⟨rfl, by simp [hq]⟩
theorem swi_ok (hD : (gs, DB bs rest lo hi) ∈ G) (hn : bs.length = n) (hc : n ≤ cap) (h63 : cap < 9223372036854775808) (h1 : 8 ≤ w) (h2 : w ≤ 33554432) (hR : 0 < R) (hw : le ((bs.drop i).take 4) = w) (hl : le ((bs.drop (i + 4)).take 8) = R) (hi' : i + 12 + R ≤ n) (hn48 : n ≤ 281474976710656) :
    Ctr Tryz.prog 341 [.pointer (some ⟨g, 0, none⟩), RV gr] G [(gr, RB gs n cap i), (g, C [z0, z1, z2] 448)] (fun r H' => r = .nilIface ∧ ∃ gb, H' = [(gr, RB gs n cap (i + 12 + R)), (g, C [.int .u32 w, .int .u64 (R / w : Nat), .slice (some ⟨gb, 0, none⟩) R R] 448), (gb, C (B ((bs.drop (i + 12)).take R)) 5)]) := by
  refine fn_enter 53 func341 rfl ntmps341 rfl ?_
  intro w0
  refine cR <| oA rfl <| oN <| cR ?_
  refine o_l rfl (l_alloc zeroValue212 rfl rfl) ?_; intro g5 _
  refine oN <| c_seq <| cR <| oM rfl ?_
  refine o_l rfl (l_call call321 (read32_is hD hn hc h63 (show i + 4 ≤ n by omega) .head) rfl rfl (.cons (.tail .head) (.cons .head .nil))) ?_
  rintro ⟨r, H'⟩ ⟨rfl, rfl⟩
  simp only [List.cons_append, List.nil_append]
  rw [hw]
  refine oA rfl <| oN <| cR <| oM rfl <| oX (e_nnen runUnderlying80 rfl) <| oN <| cL rfl <| cR ?_
  refine o_l rfl (l_alloc zeroValue23 rfl rfl) ?_; intro g7 _
  refine oN <| c_seq <| cR <| oM rfl ?_
  refine o_l rfl (l_call call331 (read64_is hD hn hc h63 (show i + 4 + 8 ≤ n by omega) .head) rfl rfl (.cons (.tail .head) (.cons .head .nil))) ?_
  rintro ⟨r, H'⟩ ⟨rfl, rfl⟩
  simp only [List.cons_append, List.nil_append]
  rw [hl]
  refine oA rfl <| oN <| cR <| oM rfl <| oX (e_nnen runUnderlying80 rfl) <| oN <| cL rfl <| c_seq <| cR <| oM rfl ?_
  refine oX (e_load isAgg212 rfl (by first | exact .inr (by assumption) | exact .inl (by repeat (first | exact List.Mem.head _ | refine List.Mem.tail _ ?_))) rfl) ?_
  refine oX (e_load isAgg23 rfl (by first | exact .inr (by assumption) | exact .inl (by repeat (first | exact List.Mem.head _ | refine List.Mem.tail _ ?_))) rfl) ?_
  refine o_l rfl (l_call call361 (chk_is h1 h2 (by omega)) rfl rfl (.cons (.tail (.tail (.tail .head))) .nil)) ?_
  rintro ⟨r, H'⟩ ⟨rfl, rfl⟩
  simp only [List.cons_append, List.nil_append]
  refine oA rfl <| oN <| cR <| oM rfl <| oX (e_nnen runUnderlying80 rfl) <| oN <| cL rfl <| cR ?_
  refine oX (e_load isAgg23 rfl (by first | exact .inr (by assumption) | exact .inl (by repeat (first | exact List.Mem.head _ | refine List.Mem.tail _ ?_))) rfl) ?_
  refine o_l rfl (l_mks (l := List.replicate R (.int .u8 0)) underlying72 (info_of typeInfo5) rfl rfl rfl rfl (by omega) (by omega) (by show (1 : Int) * _ ≤ _; omega) (by omega) (made_one (.int .u8 0) R rfl)) ?_
  intro gb _
  refine oA rfl <| oN <| c_seq <| cR <| oM rfl <| oM rfl ?_
  refine o_l rfl (l_call call152 (readFull_is (i := i + 4 + 8) (L := R) hD hn hc h63 (by omega) hR (by simp)) rfl rfl (.cons (.tail (.tail .head)) (.cons .head .nil))) ?_
  rintro ⟨r, H'⟩ ⟨rfl, rfl⟩
  simp only [List.cons_append, List.nil_append]
  refine oM rfl <| oX (e_extract rfl rfl) <| oX (e_extract rfl rfl) <| oA rfl <| oA rfl <| oN <| cR <| oM rfl <| oX (e_nnen runUnderlying80 rfl) <| oN <| cL rfl <| cR <| oM rfl <| oM rfl <| oC rfl <| oX (e_fak 2 runUnderlying448 rfl sizeOf72 rfl rfl rfl) ?_
  refine o_l rfl (l_store sizeOf72 rfl rfl rfl (.tail (.tail .head)) (.tail (.tail .head)) (by omega)) ?_; intro _ _
  refine oN <| cR <| oA rfl <| oN <| c_ret ?_
  refine WR.sel (.cons .head (.cons (.tail .head) (.cons .head .nil))) ?_
  refine r_fn1 results341 rfl ?_
  exact ⟨rfl, gb, rfl⟩
end
end Go.Proofs
namespace Go.Proofs
open Go Go.Shelf
def Tryz.laysInts_ren : Go.Shelf.Ren := ⟨fun | 191 => 191 | 189 => 218 | 125 => 66 | 257 => 227 | 128 => 122 | 129 => 123 | 294 => 241 | 295 => 242 | 296 => 243 | 297 => 244 | 298 => 245 | 299 => 246 | 216 => 247 | 300 => 248 | 301 => 249 | 328 => 261 | 329 => 262 | 330 => 263 | 331 => 264 | 332 => 265 | 215 => 266 | 343 => 272 | n => n, fun | 28 => 99 | 0 => 0 | 3 => 3 | 46 => 131 | 51 => 212 | 53 => 23 | 4 => 4 | 183 => 393 | 182 => 392 | 131 => 220 | 5 => 5 | 9 => 9 | 218 => 408 | 222 => 301 | 228 => 413 | 229 => 356 | n => n, fun n => n⟩
theorem Tryz.laysInts : Lays.n191 Tryz.prog Tryz.laysInts_ren where
  mixed := by kernel_rfl
  f125 := Tryz.func66.trans (congrArg some (by kernel_rfl))
  f128 := Tryz.func122.trans (congrArg some (by kernel_rfl))
  f129 := Tryz.func123.trans (congrArg some (by kernel_rfl))
  f189 := Tryz.func218.trans (congrArg some (by kernel_rfl))
  f191 := Tryz.func191.trans (congrArg some (by kernel_rfl))
  f215 := Tryz.func266.trans (congrArg some (by kernel_rfl))
  f216 := Tryz.func247.trans (congrArg some (by kernel_rfl))
  f257 := Tryz.func227.trans (congrArg some (by kernel_rfl))
  f294 := Tryz.func241.trans (congrArg some (by kernel_rfl))
  f295 := Tryz.func242.trans (congrArg some (by kernel_rfl))
  f296 := Tryz.func243.trans (congrArg some (by kernel_rfl))
  f297 := Tryz.func244.trans (congrArg some (by kernel_rfl))
  f298 := Tryz.func245.trans (congrArg some (by kernel_rfl))
  f299 := Tryz.func246.trans (congrArg some (by kernel_rfl))
  f300 := Tryz.func248.trans (congrArg some (by kernel_rfl))
  f301 := Tryz.func249.trans (congrArg some (by kernel_rfl))
  f328 := Tryz.func261.trans (congrArg some (by kernel_rfl))
  f329 := Tryz.func262.trans (congrArg some (by kernel_rfl))
  f330 := Tryz.func263.trans (congrArg some (by kernel_rfl))
  f331 := Tryz.func264.trans (congrArg some (by kernel_rfl))
  f332 := Tryz.func265.trans (congrArg some (by kernel_rfl))
  f343 := Tryz.func272.trans (congrArg some (by kernel_rfl))
  t0 := Tryz.underlying0
  a0 := Tryz.isAgg0
  z0 := Tryz.sizeOf0
  v0 := Tryz.zeroValue0
  t3 := Tryz.underlying3
  a3 := Tryz.isAgg3
  z3 := Tryz.sizeOf3
  v3 := Tryz.zeroValue3
  t4 := Tryz.underlying4
  a4 := Tryz.isAgg4
  z4 := Tryz.sizeOf4
  v4 := Tryz.zeroValue4
  t5 := Tryz.underlying5
  a5 := Tryz.isAgg5
  z5 := Tryz.sizeOf5
  v5 := Tryz.zeroValue5
  t9 := Tryz.underlying9
  a9 := Tryz.isAgg9
  z9 := Tryz.sizeOf9
  v9 := Tryz.zeroValue9
  t28 := Tryz.underlying99
  a28 := Tryz.isAgg99
  z28 := Tryz.sizeOf99
  v28 := Tryz.zeroValue99
  t46 := Tryz.underlying131
  a46 := Tryz.isAgg131
  z46 := Tryz.sizeOf131
  v46 := Tryz.zeroValue131
  t51 := Tryz.underlying212
  a51 := Tryz.isAgg212
  z51 := Tryz.sizeOf212
  v51 := Tryz.zeroValue212
  t53 := Tryz.underlying23
  a53 := Tryz.isAgg23
  z53 := Tryz.sizeOf23
  v53 := Tryz.zeroValue23
  t131 := Tryz.underlying220
  a131 := Tryz.isAgg220
  z131 := Tryz.sizeOf220
  v131 := Tryz.zeroValue220
  t182 := Tryz.underlying392
  a182 := Tryz.isAgg392
  z182 := Tryz.sizeOf392
  v182 := Tryz.zeroValue392
  t183 := Tryz.underlying393
  a183 := Tryz.isAgg393
  z183 := Tryz.sizeOf393
  v183 := Tryz.zeroValue393
  t218 := Tryz.underlying408
  a218 := Tryz.isAgg408
  z218 := Tryz.sizeOf408
  v218 := Tryz.zeroValue408
  t222 := Tryz.underlying301
  a222 := Tryz.isAgg301
  z222 := Tryz.sizeOf301
  v222 := Tryz.zeroValue301
  t228 := Tryz.underlying413
  a228 := Tryz.isAgg413
  z228 := Tryz.sizeOf413
  v228 := Tryz.zeroValue413
  t229 := Tryz.underlying356
  a229 := Tryz.isAgg356
  z229 := Tryz.sizeOf356
  v229 := Tryz.zeroValue356
def Tryz.laysSlice_ren : Go.Shelf.Ren := ⟨fun | 6 => 34 | 10 => 63 | 11 => 64 | 12 => 65 | 13 => 66 | 14 => 67 | 24 => 122 | 25 => 123 | 26 => 124 | 27 => 125 | 28 => 126 | 29 => 127 | 30 => 128 | 31 => 129 | 32 => 130 | 33 => 131 | 34 => 180 | 35 => 181 | 36 => 182 | 37 => 183 | 38 => 184 | 39 => 215 | n => n, fun | 20 => 20 | 26 => 71 | 35 => 126 | 0 => 0 | 37 => 128 | 3 => 3 | 41 => 131 | 44 => 134 | 49 => 212 | 51 => 23 | 4 => 4 | 54 => 216 | 53 => 215 | 58 => 220 | 5 => 5 | 9 => 9 | 60 => 298 | 64 => 301 | 66 => 355 | 67 => 356 | 17 => 17 | 32 => 123 | 33 => 124 | 82 => 426 | 12 => 12 | 75 => 420 | 76 => 421 | 77 => 422 | 78 => 358 | 79 => 423 | 80 => 424 | n => n, fun n => n⟩
theorem Tryz.laysSlice : LaysGg.n6 Tryz.prog Tryz.laysSlice_ren where
  mixed := by kernel_rfl
  f6 := Tryz.func34.trans (congrArg some (by kernel_rfl))
  f10 := Tryz.func63.trans (congrArg some (by kernel_rfl))
  f11 := Tryz.func64.trans (congrArg some (by kernel_rfl))
  f12 := Tryz.func65.trans (congrArg some (by kernel_rfl))
  f13 := Tryz.func66.trans (congrArg some (by kernel_rfl))
  f14 := Tryz.func67.trans (congrArg some (by kernel_rfl))
  f24 := Tryz.func122.trans (congrArg some (by kernel_rfl))
  f25 := Tryz.func123.trans (congrArg some (by kernel_rfl))
  f26 := Tryz.func124.trans (congrArg some (by kernel_rfl))
  f27 := Tryz.func125.trans (congrArg some (by kernel_rfl))
  f28 := Tryz.func126.trans (congrArg some (by kernel_rfl))
  f29 := Tryz.func127.trans (congrArg some (by kernel_rfl))
  f30 := Tryz.func128.trans (congrArg some (by kernel_rfl))
  f31 := Tryz.func129.trans (congrArg some (by kernel_rfl))
  f32 := Tryz.func130.trans (congrArg some (by kernel_rfl))
  f33 := Tryz.func131.trans (congrArg some (by kernel_rfl))
  f34 := Tryz.func180.trans (congrArg some (by kernel_rfl))
  f35 := Tryz.func181.trans (congrArg some (by kernel_rfl))
  f36 := Tryz.func182.trans (congrArg some (by kernel_rfl))
  f37 := Tryz.func183.trans (congrArg some (by kernel_rfl))
  f38 := Tryz.func184.trans (congrArg some (by kernel_rfl))
  f39 := Tryz.func215.trans (congrArg some (by kernel_rfl))
  t0 := Tryz.underlying0
  a0 := Tryz.isAgg0
  z0 := Tryz.sizeOf0
  v0 := Tryz.zeroValue0
  i0 := by kernel_rfl
  t3 := Tryz.underlying3
  a3 := Tryz.isAgg3
  z3 := Tryz.sizeOf3
  v3 := Tryz.zeroValue3
  i3 := by kernel_rfl
  t4 := Tryz.underlying4
  a4 := Tryz.isAgg4
  z4 := Tryz.sizeOf4
  v4 := Tryz.zeroValue4
  i4 := by kernel_rfl
  t5 := Tryz.underlying5
  a5 := Tryz.isAgg5
  z5 := Tryz.sizeOf5
  v5 := Tryz.zeroValue5
  i5 := by kernel_rfl
  t9 := Tryz.underlying9
  a9 := Tryz.isAgg9
  z9 := Tryz.sizeOf9
  v9 := Tryz.zeroValue9
  i9 := by kernel_rfl
  t12 := Tryz.underlying12
  a12 := Tryz.isAgg12
  z12 := Tryz.sizeOf12
  v12 := Tryz.zeroValue12
  i12 := by kernel_rfl
  t17 := Tryz.underlying17
  a17 := Tryz.isAgg17
  z17 := Tryz.sizeOf17
  v17 := Tryz.zeroValue17
  i17 := by kernel_rfl
  t20 := Tryz.underlying20
  a20 := Tryz.isAgg20
  z20 := Tryz.sizeOf20
  v20 := Tryz.zeroValue20
  i20 := by kernel_rfl
  t26 := Tryz.underlying71
  a26 := Tryz.isAgg71
  z26 := Tryz.sizeOf71
  v26 := Tryz.zeroValue71
  i26 := by kernel_rfl
  t32 := Tryz.underlying123
  a32 := Tryz.isAgg123
  z32 := Tryz.sizeOf123
  v32 := Tryz.zeroValue123
  i32 := by kernel_rfl
  t33 := Tryz.underlying124
  a33 := Tryz.isAgg124
  z33 := Tryz.sizeOf124
  v33 := Tryz.zeroValue124
  i33 := by kernel_rfl
  t35 := Tryz.underlying126
  a35 := Tryz.isAgg126
  z35 := Tryz.sizeOf126
  v35 := Tryz.zeroValue126
  i35 := by kernel_rfl
  t37 := Tryz.underlying128
  a37 := Tryz.isAgg128
  z37 := Tryz.sizeOf128
  v37 := Tryz.zeroValue128
  i37 := by kernel_rfl
  t41 := Tryz.underlying131
  a41 := Tryz.isAgg131
  z41 := Tryz.sizeOf131
  v41 := Tryz.zeroValue131
  i41 := by kernel_rfl
  t44 := Tryz.underlying134
  a44 := Tryz.isAgg134
  z44 := Tryz.sizeOf134
  v44 := Tryz.zeroValue134
  i44 := by kernel_rfl
  t49 := Tryz.underlying212
  a49 := Tryz.isAgg212
  z49 := Tryz.sizeOf212
  v49 := Tryz.zeroValue212
  i49 := by kernel_rfl
  t51 := Tryz.underlying23
  a51 := Tryz.isAgg23
  z51 := Tryz.sizeOf23
  v51 := Tryz.zeroValue23
  i51 := by kernel_rfl
  t53 := Tryz.underlying215
  a53 := Tryz.isAgg215
  z53 := Tryz.sizeOf215
  v53 := Tryz.zeroValue215
  i53 := by kernel_rfl
  t54 := Tryz.underlying216
  a54 := Tryz.isAgg216
  z54 := Tryz.sizeOf216
  v54 := Tryz.zeroValue216
  i54 := by kernel_rfl
  t58 := Tryz.underlying220
  a58 := Tryz.isAgg220
  z58 := Tryz.sizeOf220
  v58 := Tryz.zeroValue220
  i58 := by kernel_rfl
  t60 := Tryz.underlying298
  a60 := Tryz.isAgg298
  z60 := Tryz.sizeOf298
  v60 := Tryz.zeroValue298
  i60 := by kernel_rfl
  t64 := Tryz.underlying301
  a64 := Tryz.isAgg301
  z64 := Tryz.sizeOf301
  v64 := Tryz.zeroValue301
  i64 := by kernel_rfl
  t66 := Tryz.underlying355
  a66 := Tryz.isAgg355
  z66 := Tryz.sizeOf355
  v66 := Tryz.zeroValue355
  i66 := by kernel_rfl
  t67 := Tryz.underlying356
  a67 := Tryz.isAgg356
  z67 := Tryz.sizeOf356
  v67 := Tryz.zeroValue356
  i67 := by kernel_rfl
  t75 := Tryz.underlying420
  a75 := Tryz.isAgg420
  z75 := Tryz.sizeOf420
  v75 := Tryz.zeroValue420
  i75 := by kernel_rfl
  t76 := Tryz.underlying421
  a76 := Tryz.isAgg421
  z76 := Tryz.sizeOf421
  v76 := Tryz.zeroValue421
  i76 := by kernel_rfl
  t77 := Tryz.underlying422
  a77 := Tryz.isAgg422
  z77 := Tryz.sizeOf422
  v77 := Tryz.zeroValue422
  i77 := by kernel_rfl
  t78 := Tryz.underlying358
  a78 := Tryz.isAgg358
  z78 := Tryz.sizeOf358
  v78 := Tryz.zeroValue358
  i78 := by kernel_rfl
  t79 := Tryz.underlying423
  a79 := Tryz.isAgg423
  z79 := Tryz.sizeOf423
  v79 := Tryz.zeroValue423
  i79 := by kernel_rfl
  t80 := Tryz.underlying424
  a80 := Tryz.isAgg424
  z80 := Tryz.sizeOf424
  v80 := Tryz.zeroValue424
  i80 := by kernel_rfl
  t82 := Tryz.underlying426
  a82 := Tryz.isAgg426
  z82 := Tryz.sizeOf426
  v82 := Tryz.zeroValue426
  i82 := by kernel_rfl
end Go.Proofs
namespace Go.Proofs
open Go Go.Sl Tryz
set_option maxRecDepth 100000

def lowb (n : Int) (i : Nat) : UInt8 := UInt8.ofNat (n / 2 ^ (8 * i) % 256).toNat
def lowB (n : Int) (k : Nat) : List UInt8 := (List.range k).map (lowb n)
theorem lowB_succ (n : Int) (k : Nat) : lowB n (k + 1) = lowB n k ++ [lowb n k] := by simp [lowB, List.range_succ]
theorem lowB_length (n : Int) (k : Nat) : (lowB n k).length = k := by simp [lowB]
theorem low_eq (n : Int) (i : Nat) (hi : i < 8) : IntKind.u8.wrap (n.fdiv (2 ^ (min (8 * (i : Int)).toNat 64))) = ((lowb n i).toNat : Int) := by
  have h1 : min (8 * (i : Int)).toNat 64 = 8 * i := by omega
  rw [h1, Int.fdiv_eq_ediv_of_nonneg _ (Int.le_of_lt (Int.pow_pos (by decide)))]
  unfold lowb
  have h2 : IntKind.u8.wrap (n / 2 ^ (8 * i)) = (n / 2 ^ (8 * i)) % 256 := by
    generalize n / 2 ^ (8 * i) = z
    simp [IntKind.wrap, IntKind.bits, IntKind.signed]
  rw [h2]
  have h3 : 0 ≤ n / 2 ^ (8 * i) % 256 := Int.emod_nonneg _ (by decide)
  have h4 : n / 2 ^ (8 * i) % 256 < 256 := Int.emod_lt_of_pos _ (by decide)
  generalize n / 2 ^ (8 * i) % 256 = z at *
  obtain ⟨z, rfl⟩ := Int.eq_ofNat_of_zero_le h3
  simp
  omega
theorem low_is {G HB : HP} {v : Value} {m : Nat} {xs : List Value} {n : Int} {k : Nat} (h : Osl 5 1 v m xs HB) (hk : k ≤ 8) (hm : m ≤ 1000000000) :
    Ctr Tryz.prog 73 [v, .int .u64 n, .int .i64 k] G HB (fun r H' => Osl 5 1 r (m + k) (xs ++ B (lowB n k)) H') := by
  refine fn_enter 23 func73 rfl ntmps73 rfl ?_
  intro w0
  refine cR <| oA rfl <| oN <| c_seq <| cR <| oA rfl <| oN <| c_block ?_
  refine c_loop (X := Nat × Value × HP) (fun y => [(0, y.2.1), (1, .int .u64 n), (2, .int .i64 k), (7, .int .i64 y.1)]) (fun y => y.2.2) (fun y => y.1 ≤ k ∧ Osl 5 1 y.2.1 (m + y.1) (xs ++ B (lowB n y.1)) y.2.2) (fun y => k - y.1) (0, v, HB) ⟨Nat.zero_le _, by simpa [lowB, B] using h⟩ (sub_cons rfl (sub_cons rfl (sub_cons rfl (sub_cons rfl sub_nil)))) (.refl _) ?_
  rintro ⟨i, v', HB'⟩ ⟨hi, ho⟩
  simp only at hi ho ⊢
  refine c_seq <| cR <| oM rfl <| oM rfl <| oX (e_lss rfl rfl) <| oN ?_
  refine c_ifp rfl (fun h1 => ?_) (fun h1 => ?_)
  · refine c_skip <| n_code <| c_seq <| c_block <| c_region <| oM rfl <| oM rfl <| oM rfl <| oX (e_muln rfl rfl (by simp only [inR]; omega)) <| oX (e_convn runUnderlying3 runUnderlying131 rfl (by simp only [inR]; omega)) <| oX (e_shr rfl rfl (by omega)) <| oX (e_as (r := .int .u8 ((lowb n i).toNat : Int)) (e_conv runUnderlying23 runUnderlying5 rfl) (congrArg (Value.int .u8) (low_eq n i (by omega)))) ?_
    refine o_l rfl (l_bs1 runUnderlying72 sizeOf5 zeroValue5 rfl rfl rfl) ?_; intro g20 _
    refine o_l rfl (l_append (sz := 1) underlying72 (info_of typeInfo5) rfl rfl rfl rfl rfl rfl ho (List.perm_append_comm (l₁ := [_])) (.blk underlying72 (.inl M0) (.take .done) (by simp [Value.oneCell'])) (by show _ * 1 ≤ _; omega) (by omega)) ?_
    rintro ⟨v2, HB2⟩ ho2
    refine oA rfl <| o_nil <| n_block <| n_code <| c_region <| oM rfl <| oX (e_addn rfl rfl (by simp only [inR]; omega)) <| oA rfl <| o_nil ?_
    refine n_round' (y := (i, v', HB')) (i + 1, v2, HB2) (by show k - (i + 1) < k - i; omega) ?_ (sub_cons rfl (sub_cons rfl (sub_cons rfl (sub_cons rfl sub_nil)))) _ (.refl _) (List.sublist_append_left _ _)
    refine ⟨by show i + 1 ≤ k; omega, ?_⟩
    simpa [lowB_succ, B_append, B, Nat.add_assoc] using ho2
  · skip
    refine c_exit ?_; refine x_code ?_; refine x_upto ?_; refine x_here ?_
    refine n_code <| cR <| oM rfl <| oA rfl <| oN <| c_ret ?_
    refine r_fn1 results73 rfl ?_
    have : i = k := by omega
    subst this
    exact ho
end Go.Proofs
