/- laws.FnWrOptions: for every input the law returns true. (A part of the proof of this: for every input laws.FnWrOptions returns true and its arguments read as they did, the listed package variables being what the program lays) -/
import Derived.Test.YtochgglejmfelaaGreatDoorWx4
import Derived.Test.YtochgglejmfelaaGreatDoorL25
set_option linter.unusedVariables false
set_option linter.unusedSimpArgs false
namespace Go.Proofs.YtochgglejmfelaaGreatDoor
open Go Go.Sl Go.Proofs Go.ChangeShapes Go.WideShapes Go.RowKit
set_option maxRecDepth 100000
section
variable {H : Type} {enc : TypeId × Value → H} {P : Program} {w : World} {base : Nat} {spare : Nat → Bool} {held : Bool}
theorem trodAll_five {t0 t1 t2 t3 t4 : TypeId} {args : Array Value} {ds : List (DataW H)} {ps : List MemPlace} (h : DataW.TrodAll enc P w base spare held [t0, t1, t2, t3, t4] args.toList ds ps) :
    ∃ v0 v1 v2 v3 v4 d0 d1 d2 d3 d4 p0 p1 p2 p3 p4, args = #[v0, v1, v2, v3, v4] ∧ ds = [d0, d1, d2, d3, d4] ∧ ps = p0 ++ (p1 ++ (p2 ++ (p3 ++ p4))) ∧ DataW.Trod enc P w base spare held t0 v0 d0 p0 ∧ DataW.Trod enc P w base spare held t1 v1 d1 p1 ∧ DataW.Trod enc P w base spare held t2 v2 d2 p2 ∧ DataW.Trod enc P w base spare held t3 v3 d3 p3 ∧ DataW.Trod enc P w base spare held t4 v4 d4 p4 := by
  obtain ⟨v0, vs, d0, ds0, p0, q0, hargs, rfl, rfl, h0, hr⟩ := trodAll_cons h
  obtain ⟨v1, vs, d1, ds1, p1, q1, rfl, rfl, rfl, h1, hr⟩ := trodAll_cons hr
  obtain ⟨v2, vs, d2, ds2, p2, q2, rfl, rfl, rfl, h2, hr⟩ := trodAll_cons hr
  obtain ⟨v3, vs, d3, ds3, p3, q3, rfl, rfl, rfl, h3, hr⟩ := trodAll_cons hr
  obtain ⟨v4, vs, d4, ds4, p4, q4, rfl, rfl, rfl, h4, hr⟩ := trodAll_cons hr
  obtain ⟨rfl, rfl, rfl⟩ := trodAll_nil hr
  exact ⟨v0, v1, v2, v3, v4, d0, d1, d2, d3, d4, p0, p1, p2, p3, p4, by cases args; simp_all, rfl, by simp, h0, h1, h2, h3, h4⟩
theorem trodAll_mk5 {t0 t1 t2 t3 t4 : TypeId} {v0 v1 v2 v3 v4 : Value} {d0 d1 d2 d3 d4 : DataW H} {p0 : List MemPlace} (h0 : DataW.Trod enc P w base spare held t0 v0 d0 p0) (h1 : DataW.Trod enc P w base spare held t1 v1 d1 []) (h2 : DataW.Trod enc P w base spare held t2 v2 d2 []) (h3 : DataW.Trod enc P w base spare held t3 v3 d3 []) (h4 : DataW.Trod enc P w base spare held t4 v4 d4 []) :
    DataW.TrodAll enc P w base spare held [t0, t1, t2, t3, t4] [v0, v1, v2, v3, v4] [d0, d1, d2, d3, d4] p0 :=
  ⟨p0, [], h0, ⟨[], [], h1, ⟨[], [], h2, ⟨[], [], h3, trodAll_mk1 h4, rfl⟩, rfl⟩, rfl⟩, by simp⟩
end
theorem byte_wf {z : Int} (h : (Lit.int .u8 z).wf = true) : ∃ c : Nat, z = (c : Nat) ∧ c < 256 := by
  have hz : 0 ≤ z ∧ z < 256 := by
    simp [Lit.wf, IntKind.min, IntKind.max, IntKind.bits, IntKind.signed] at h
    omega
  obtain ⟨c, rfl⟩ := Int.eq_ofNat_of_zero_le hz.1
  exact ⟨c, rfl, by omega⟩
set_option maxHeartbeats 2000000 in
theorem row_lifted (os : Os) (started : os.Started) (H : Type) (enc : TypeId × Value → H) :
    ReturnsInHanded {} Tryz.checked os 8 .any (fun w args => (Rows.fnWrOptionsSpec.pre enc Tryz.prog Tryz.f8 [] false w args ∧ laidMet Tryz.prog Rows.fnWrOptionsRow.laid w) ∧ sizedMet enc Tryz.prog Tryz.f8 (OpenSpec.ofChange Rows.fnWrOptionsSpec) false w args)
      (Rows.fnWrOptionsSpec.post enc Tryz.prog Tryz.f8 false true false false) := by
  refine returnsInHanded_of_change_and (C := Tryz.checked) (X := fun w _ => laidMet Tryz.prog Rows.fnWrOptionsRow.laid w) (fun _ _ _ hh h => h.of_heap hh) own started (by kernel_rfl) Tryz.func8
    (ChangeSpec.witness_at (enc := enc) (C := Tryz.checked) (os := os) (X := fun w _ => laidMet Tryz.prog Rows.fnWrOptionsRow.laid w) false (laidWorld os) #[.agg #[.slice none 0 0, .slice none 0 0], .int .u64 0, .bool false, .int .u8 0, .int .u8 0] 8 rfl (by kernel_rfl) (by kernel_rfl) (by kernel_rfl) (by kernel_rfl) (by kernel_rfl) (laidWorld_met os _)) ?_
  intro W base args ds gs before hval0 hW _ _ hL _
  have hval : ∀ (j : Nat) t v, Tryz.f8.params[j]? = some t → args[j]? = some v → Value.okWide Tryz.prog W .any base t v := hval0
  have hW' := hW
  obtain ⟨p, q, hA0, hV0, rfl, hfz, hnd⟩ := hW
  have hA : DataW.TrodAll enc Tryz.prog W 0 (fun _ => true) true Tryz.f8.params.toList args.toList ds p := hA0
  have hV : DataW.TrodVars enc Tryz.prog W (fun _ => true) [] gs q := hV0
  rw [Tryz.params8] at hA hval
  have hlt := hA.lt
  obtain ⟨v0, v1, v2, v3, v4, d0, d1, d2, d3, d4, p0, p1, p2, p3, p4, rfl, rfl, rfl, h0, h1, h2, h3, h4⟩ := trodAll_five hA
  obtain ⟨rfl, rfl⟩ := trodVars_none hV
  obtain ⟨k, rfl, rfl, rfl, hwk⟩ := open_int Tryz.underlying23 (hval 1 23 v1 rfl rfl) h1
  obtain ⟨ib, rfl, rfl, rfl⟩ := open_bool Tryz.underlying4 (hval 2 4 v2 rfl rfl) h2
  obtain ⟨z3, rfl, rfl, rfl, hw3⟩ := open_int Tryz.underlying5 (hval 3 5 v3 rfl rfl) h3
  obtain ⟨z4, rfl, rfl, rfl, hw4⟩ := open_int Tryz.underlying5 (hval 4 5 v4 rfl rfl) h4
  clear hA0 hV0 hval0
  obtain ⟨c3, rfl, hc3⟩ := byte_wf hw3
  obtain ⟨c4, rfl, hc4⟩ := byte_wf hw4
  obtain ⟨vr, vb, G1, G2, xs, blks, rfl, hG1, hG2, hr, hnr, hfx, hb, hnb, hfb⟩ := car_of_trod h0
  obtain ⟨G3, gE, t3, e3, f3, hG3, hE⟩ := eof_of_laid hL (by simp [Rows.fnWrOptionsRow])
  have hC := wrOptions_law (G := G1 ++ (G2 ++ G3)) (kind := k) (ib := ib) (p := c3) (q := c4) (List.mem_append_right _ (List.mem_append_right _ hE)) (hr.mono fun _ h => List.mem_append_left _ h) (by unfold maxLen at hnr; omega) (hb.mono fun _ h => List.mem_append_right _ (List.mem_append_left _ h)) (by unfold maxLen at hnb; omega) hfx hfb hc3 hc4
  refine (hC W (fun p hp => (List.mem_append.1 hp).elim (hG1 p) (fun h => (List.mem_append.1 h).elim (hG2 p) (hG3 p))) (fun _ h => by cases h) (by simp [keys]) (fun _ h => by cases h)).mono ?_
  rintro e W' ⟨v, H', rfl, rfl, _, _, hf, _⟩
  have hb : Below W.heap.size W W' := ⟨hf.os, hf.tape, hf.output, hf.size, fun k hk => hf.keep k hk (by simp [keys])⟩
  have e1 : Rows.fnWrOptionsSpec.fn H ([d0, .lit (.int .u64 k), .lit (.bool ib), .lit (.int .u8 c3), .lit (.int .u8 c4)] ++ []) = { results := [.lit (.bool true)], args := [d0, .lit (.int .u64 k), .lit (.bool ib), .lit (.int .u8 c3), .lit (.int .u8 c4)] } := rfl
  refine ⟨_, rfl, _, _, _, [], p0, [], hW', ?_, ?_, ?_, hb.frame _, fun h => by cases h⟩
  · rw [e1]; exact trodAll_mk1 (shut_bool Tryz.underlying4 true)
  · rw [e1]
    have a0 := Below.trod (by kernel_rfl) (by kernel_rfl) (of_decide_eq_true (by kernel_rfl)) h0 hb (fun x hx => hlt x (by simp [hx]))
    exact trodAll_mk5 a0 (shut_int Tryz.underlying23 hwk) (shut_bool Tryz.underlying4 ib) (shut_int Tryz.underlying5 hw3) (shut_int Tryz.underlying5 hw4)
  · rw [e1]; rfl
end Go.Proofs.YtochgglejmfelaaGreatDoor
