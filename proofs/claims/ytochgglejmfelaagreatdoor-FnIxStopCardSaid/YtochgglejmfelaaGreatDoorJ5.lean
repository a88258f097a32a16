/- laws.FnIxStop: for every input the law returns true. (A part of the proof of this: for every input laws.FnIxStop returns true and its arguments read as they did, the listed package variables being what the program lays.) -/
import Derived.Test.YtochgglejmfelaaGreatDoorJ4
import Derived.Test.YtochgglejmfelaaGreatDoorG23
namespace Go.Proofs.YtochgglejmfelaaGreatDoor
open Go Go.Sl Go.Proofs Go.ChangeShapes Go.WideShapes Go.RowKit
set_option maxRecDepth 100000
theorem one_true {G : HP} (k : Int) (hk : k = 1024 ∨ k = 1025) : CtrP Tryz.prog 17 [.int .u64 k] G (.bool true) := by
  have h : ∀ {v : Value} {H' : HP}, Tells (T := Unit) (fun _ => True) (fun _ => Value.bool true) (fun _ => []) v H' → v = .bool true ∧ H' = [] := fun h => by
    obtain ⟨_, _, h1, h2⟩ := h
    exact ⟨h1, h2⟩
  rcases hk with rfl | rfl
  · intro w h1 h2 h3 h4
    refine (z123 w h1 h2 h3 h4).mono ?_
    rintro e w' ⟨v, H', h5, h6, h7⟩
    exact ⟨v, H', h5, h h6, h7⟩
  · intro w h1 h2 h3 h4
    refine (z211 w h1 h2 h3 h4).mono ?_
    rintro e w' ⟨v, H', h5, h6, h7⟩
    exact ⟨v, H', h5, h h6, h7⟩
theorem EnS.mono {G G' : HP} {v : Value} {l : List En} (h : EnS G v l) (hs : ∀ p ∈ G, p ∈ G') : EnS G' v l := by
  cases h with
  | none => exact .none
  | blk hm hn hc => exact .blk (hs _ hm) hn hc
/-- Strings of the listed errors, the variables that hold them. -/
def errs : List (Nat × List UInt8) := [(3, [69, 79, 70]), (5, [117, 110, 101, 120, 112, 101, 99, 116, 101, 100, 32, 69, 79, 70]),
  (6, [118, 97, 114, 105, 110, 116, 115, 32, 108, 97, 114, 103, 101, 114, 32, 116, 104, 97, 110, 32, 117, 105, 110, 116, 54, 51, 32, 110, 111, 116, 32, 115, 117, 112, 112, 111, 114, 116, 101, 100]),
  (11, [118, 97, 114, 105, 110, 116, 115, 32, 109, 97, 108, 102, 111, 114, 109, 101, 100, 44, 32, 99, 111, 117, 108, 100, 32, 110, 111, 116, 32, 114, 101, 97, 99, 104, 32, 116, 104, 101, 32, 101, 110, 100]),
  (7, [118, 97, 114, 105, 110, 116, 32, 110, 111, 116, 32, 109, 105, 110, 105, 109, 97, 108, 108, 121, 32, 101, 110, 99, 111, 100, 101, 100]),
  (14, [109, 117, 108, 116, 105, 104, 97, 115, 104, 32, 116, 111, 111, 32, 115, 104, 111, 114, 116, 46, 32, 109, 117, 115, 116, 32, 98, 101, 32, 62, 61, 32, 50, 32, 98, 121, 116, 101, 115]),
  (17, [117, 118, 97, 114, 105, 110, 116, 58, 32, 98, 117, 102, 102, 101, 114, 32, 116, 111, 111, 32, 115, 109, 97, 108, 108]),
  (18, [117, 118, 97, 114, 105, 110, 116, 58, 32, 118, 97, 114, 105, 110, 116, 32, 116, 111, 111, 32, 98, 105, 103, 32, 40, 109, 97, 120, 32, 54, 52, 98, 105, 116, 41]),
  (4, [110, 111, 116, 32, 102, 111, 117, 110, 100])]
noncomputable def low : Nat := (World.holding Tryz.prog default ⟨#[], #[], []⟩).heap.size
def setVar (h : Array Obj) (g b : Nat) : Array Obj := h.modify g fun
  | .cells _ t fr => .cells #[.iface 260 (.pointer (some ⟨b, 0, none⟩))] t fr
  | o => o
/-- A world that meets the condition. -/
noncomputable def laidWorld (os : Os) : World :=
  let w0 := World.holding Tryz.prog os ⟨(errs.map fun p => Obj.cells #[S p.2] 262).toArray, #[], []⟩
  { w0 with heap := (errs.zipIdx.foldl (fun h p => setVar h p.1.1 (low + p.2)) w0.heap) }
theorem laidWorld_met (os : Os) (args : Array Value) : laidMet Tryz.prog Rows.fnIxStopRow.laid ((laidWorld os).forCall (fun _ _ => 0) ⟨#[], args, []⟩).memory :=
  laidMet_of_run' 8 (by kernel_rfl) (by kernel_rfl)
set_option maxHeartbeats 2000000 in
theorem stop_lifted (os : Os) (started : os.Started) (H : Type) (enc : TypeId × Value → H) :
    ReturnsInHanded {} Tryz.checked os 3 .any (fun w args => (Rows.fnIxStopSpec.pre enc Tryz.prog Tryz.f3 [] false w args ∧ laidMet Tryz.prog Rows.fnIxStopRow.laid w) ∧ sizedMet enc Tryz.prog Tryz.f3 (OpenSpec.ofChange Rows.fnIxStopSpec) false w args)
      (Rows.fnIxStopSpec.post enc Tryz.prog Tryz.f3 false true false false) := by
  refine returnsInHanded_of_change_and (C := Tryz.checked) (X := fun w _ => laidMet Tryz.prog Rows.fnIxStopRow.laid w) (fun _ _ _ hh h => h.of_heap hh) own started (by kernel_rfl) Tryz.func3
    (ChangeSpec.witness_at (enc := enc) (C := Tryz.checked) (os := os) (X := fun w _ => laidMet Tryz.prog Rows.fnIxStopRow.laid w) false (laidWorld os) #[.slice none 0 0, .int .u64 0, .agg #[.int .u64 0, .int .u64 0, .int .u64 0, .string ⟨#[]⟩], .int .u8 0] 8 rfl (by kernel_rfl) (by kernel_rfl) (by kernel_rfl) (by kernel_rfl) (by kernel_rfl) (laidWorld_met os _)) ?_
  intro W base args ds gs before hval0 hW _ _ hL _
  have hval : ∀ (j : Nat) t v, Tryz.f3.params[j]? = some t → args[j]? = some v → Value.okWide Tryz.prog W .any base t v := hval0
  have hW' := hW
  obtain ⟨p, q, hA0, hV0, rfl, hfz, hnd⟩ := hW
  have hA : DataW.TrodAll enc Tryz.prog W 0 (fun _ => true) true Tryz.f3.params.toList args.toList ds p := hA0
  have hV : DataW.TrodVars enc Tryz.prog W (fun _ => true) [] gs q := hV0
  rw [Tryz.params3] at hA hval
  have hlt := hA.lt
  obtain ⟨v0, v1, v2, v3, d0, d1, d2, d3, p0, p1, p2, p3, rfl, rfl, rfl, h0, h1, h2, h3⟩ := trodAll_four hA
  obtain ⟨rfl, rfl⟩ := trodVars_none hV
  obtain ⟨k, rfl, rfl, rfl, hwk⟩ := open_int Tryz.underlying23 (hval 1 23 v1 rfl rfl) h1
  obtain ⟨z, rfl, rfl, rfl, hwz⟩ := open_int Tryz.underlying5 (hval 3 5 v3 rfl rfl) h3
  have ho : v0.oneCell' = true := by
    have ok := hval 0 22 v0 rfl rfl
    unfold Value.okWide at ok
    simp only [Tryz.underlying22] at ok
    unfold Cell.okWide at ok
    cases v0 <;> simp [Cell.ok, Tryz.underlying22, Value.oneCell'] at ok ⊢
  clear hA0 hV0 hval0
  obtain ⟨G1, l, hG1, hen, hlen, _, hfit⟩ := entries_of_trod ho h0
  obtain ⟨x, rfl, hfx⟩ := cid_of_arg h2
  obtain ⟨G2, gN, t4, e4, f4, hG2, hN⟩ := notFound_of_laid hL (by simp [Rows.fnIxStopRow])
  have hz : 0 ≤ z ∧ z < 256 := by
    simp [Lit.wf, IntKind.min, IntKind.max, IntKind.bits, IntKind.signed] at hwz
    omega
  obtain ⟨c, rfl⟩ := Int.eq_ofNat_of_zero_le hz.1
  have hC := stop_law (G := G1 ++ G2) (v := v0) (l := l) (kind := k) (x := x) (most := c) (EnS.mono hen fun _ h => List.mem_append_left _ h) (by unfold maxLen at hlen; omega) hfit hfx (by omega) (List.mem_append_right _ hN) one_true
  refine (hC W (fun p hp => (List.mem_append.1 hp).elim (hG1 p) (hG2 p)) (fun _ h => by cases h) (by simp [keys]) (fun _ h => by cases h)).mono ?_
  rintro e W' ⟨v, H', rfl, rfl, _, _, hf, _⟩
  have hb : Below W.heap.size W W' := ⟨hf.os, hf.tape, hf.output, hf.size, fun k hk => hf.keep k hk (by simp [keys])⟩
  have e1 : Rows.fnIxStopSpec.fn H ([d0, .lit (.int .u64 k), d2, .lit (.int .u8 c)] ++ []) = { results := [.lit (.bool true)], args := [d0, .lit (.int .u64 k), d2, .lit (.int .u8 c)] } := rfl
  refine ⟨_, rfl, _, _, _, [], p0 ++ p2, [], hW', ?_, ?_, ?_, hb.frame _, fun h => by cases h⟩
  · rw [e1]; exact trodAll_mk1 (shut_bool Tryz.underlying4 true)
  · rw [e1]
    have a0 := Below.trod (by kernel_rfl) (by kernel_rfl) (of_decide_eq_true (by kernel_rfl)) h0 hb (fun x hx => hlt x (by simp [hx]))
    have a2 := Below.trod (by kernel_rfl) (by kernel_rfl) (of_decide_eq_true (by kernel_rfl)) h2 hb (fun x hx => hlt x (by simp [hx]))
    have := trodAll_mk4 a0 (shut_int Tryz.underlying23 hwk) a2 (shut_int Tryz.underlying5 hwz)
    simp only [List.append_nil, List.nil_append] at this
    exact this
  · rw [e1]; rfl
end Go.Proofs.YtochgglejmfelaaGreatDoor
