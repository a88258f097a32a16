/- laws.FnIxMakeHeads: for every input the law returns true. (A part of the proof of this: for every input laws.FnIxMakeHeads returns true and its arguments read as they did, the listed package variables being what the program lays) -/
import Derived.Test.YtochgglejmfelaaGreatDoorHx4
set_option linter.unusedVariables false
set_option linter.unusedSimpArgs false
namespace Go.Proofs.YtochgglejmfelaaGreatDoor
open Go Go.Sl Go.Proofs Go.ChangeShapes Go.WideShapes Go.RowKit
set_option maxRecDepth 100000
set_option maxHeartbeats 2000000 in
theorem row_lifted (os : Os) (started : os.Started) (H : Type) (enc : TypeId × Value → H) :
    ReturnsInHanded {} Tryz.checked os 6 .any (fun w args => (Rows.fnIxMakeHeadsSpec.pre enc Tryz.prog Tryz.f6 [] false w args ∧ laidMet Tryz.prog Rows.fnIxMakeHeadsRow.laid w) ∧ sizedMet enc Tryz.prog Tryz.f6 (OpenSpec.ofChange Rows.fnIxMakeHeadsSpec) false w args)
      (Rows.fnIxMakeHeadsSpec.post enc Tryz.prog Tryz.f6 false true false false) := by
  refine returnsInHanded_of_change_and (C := Tryz.checked) (X := fun w _ => laidMet Tryz.prog Rows.fnIxMakeHeadsRow.laid w) (fun _ _ _ hh h => h.of_heap hh) own started (by kernel_rfl) Tryz.func6
    (ChangeSpec.witness_at (enc := enc) (C := Tryz.checked) (os := os) (X := fun w _ => laidMet Tryz.prog Rows.fnIxMakeHeadsRow.laid w) false (laidWorld os) #[.agg #[.slice none 0 0, .slice none 0 0], .int .u64 0] 8 rfl (by kernel_rfl) (by kernel_rfl) (by kernel_rfl) (by kernel_rfl) (by kernel_rfl) (laidWorld_met os _)) ?_
  intro W base args ds gs before hval0 hW _ _ hL _
  have hval : ∀ (j : Nat) t v, Tryz.f6.params[j]? = some t → args[j]? = some v → Value.okWide Tryz.prog W .any base t v := hval0
  have hW' := hW
  obtain ⟨p, q, hA0, hV0, rfl, hfz, hnd⟩ := hW
  have hA : DataW.TrodAll enc Tryz.prog W 0 (fun _ => true) true Tryz.f6.params.toList args.toList ds p := hA0
  have hV : DataW.TrodVars enc Tryz.prog W (fun _ => true) [] gs q := hV0
  rw [Tryz.params6] at hA hval
  have hlt := hA.lt
  obtain ⟨v0, v1, d0, d1, p0, p1, rfl, rfl, rfl, h0, h1⟩ := trodAll_two hA
  obtain ⟨rfl, rfl⟩ := trodVars_none hV
  obtain ⟨k, rfl, rfl, rfl, hwk⟩ := open_int Tryz.underlying23 (hval 1 23 v1 rfl rfl) h1
  clear hA0 hV0 hval0
  obtain ⟨vr, vb, G1, G2, xs, blks, rfl, hG1, hG2, hr, hnr, hfx, hb, hnb, hfb⟩ := car_of_trod h0
  obtain ⟨G3, gE, t3, e3, f3, hG3, hE⟩ := eof_of_laid hL (by simp [Rows.fnIxMakeHeadsRow])
  have hC := makeHeads_is (G := G1 ++ (G2 ++ G3)) (kind := k) (List.mem_append_right _ (List.mem_append_right _ hE)) (hr.mono fun _ h => List.mem_append_left _ h) (by unfold maxLen at hnr; omega) (hb.mono fun _ h => List.mem_append_right _ (List.mem_append_left _ h)) (by unfold maxLen at hnb; omega) hfx hfb
  refine (hC W (fun p hp => (List.mem_append.1 hp).elim (hG1 p) (fun h => (List.mem_append.1 h).elim (hG2 p) (hG3 p))) (fun _ h => by cases h) (by simp [keys]) (fun _ h => by cases h)).mono ?_
  rintro e W' ⟨v, H', rfl, rfl, _, _, hf, _⟩
  have hb : Below W.heap.size W W' := ⟨hf.os, hf.tape, hf.output, hf.size, fun k hk => hf.keep k hk (by simp [keys])⟩
  have e1 : Rows.fnIxMakeHeadsSpec.fn H ([d0, .lit (.int .u64 k)] ++ []) = { results := [.lit (.bool true)], args := [d0, .lit (.int .u64 k)] } := rfl
  refine ⟨_, rfl, _, _, _, [], p0, [], hW', ?_, ?_, ?_, hb.frame _, fun h => by cases h⟩
  · rw [e1]; exact trodAll_mk1 (shut_bool Tryz.underlying4 true)
  · rw [e1]
    have a0 := Below.trod (by kernel_rfl) (by kernel_rfl) (of_decide_eq_true (by kernel_rfl)) h0 hb (fun x hx => hlt x (by simp [hx]))
    have := trodAll_mk2 a0 (shut_int Tryz.underlying23 hwk)
    simp only [List.append_nil] at this
    exact this
  · rw [e1]; rfl
end Go.Proofs.YtochgglejmfelaaGreatDoor
