/- The options of a call; An identifier's prefix; an identifier taken apart; The records that are made of a file of version 1. (A part of the proof of this: for every input laws.FnIxMakeHeads returns true and its arguments read as they did, the listed package variables being what the program lays) -/
import Derived.Test.YtochgglejmfelaaGreatDoorSlZ
import Derived.Test.YtochgglejmfelaaGreatDoorG04
import Derived.Test.YtochgglejmfelaaGreatDoorG03
import Derived.Test.YtochgglejmfelaaGreatDoorG06
import Derived.Test.YtochgglejmfelaaGreatDoorG14
import Derived.Test.YtochgglejmfelaaGreatDoorG16
set_option linter.unusedVariables false
set_option linter.unusedSimpArgs false
namespace Go.Proofs
open Go Go.Sl Tryz
set_option maxRecDepth 100000
set_option maxHeartbeats 1000000
/-- Options as they stand. -/
abbrev OpL (dp ip cd zb mc ib du wh ml v1 tr mh ms : Value) : List Value := [dp, ip, cd, zb, mc, ib, du, wh, ml, v1, tr, mh, ms]
section
variable {G : HP} {go gc : Nat} {z dp ip cd zb mc ib du wh ml v1 tr mh ms : Value}
theorem opt0_is {b : Bool} : Ctr prog 96 [.bool b] G [] (fun r H' => ∃ g, r = .func (.func 166) #[] #[.pointer (some ⟨g, 0, none⟩)] ∧ H' = [(g, C [.bool b] 4)]) := by
  refine fn_enter 4 func96 rfl ntmps96 rfl ?_
  intro w0
  refine gn 2 ?_
  refine oB ?_; intro g1 _
  refine gn 10 ?_
  refine r_fn1 results96 rfl ?_
  exact ⟨_, rfl, rfl⟩
theorem ap0_is {b : Bool} (h : (gc, C [.bool b] 4) ∈ G) : Ctr prog 166 [.pointer (some ⟨go, 0, none⟩), .pointer (some ⟨gc, 0, none⟩)] G [(go, C (OpL dp ip cd zb mc ib du wh ml v1 tr mh ms) 187)] (fun r H' => r = .tuple #[] ∧ H' = [(go, C (OpL dp ip cd (.bool b) mc ib du wh ml v1 tr mh ms) 187)]) := by
  refine fn_enter 7 func166 rfl ntmps166 rfl ?_
  intro w0
  refine gn 5 ?_
  refine oT ?_; intro _ _
  refine gn 1 ?_
  refine n_fn0 results166 ?_
  exact ⟨rfl, rfl⟩
theorem opt1_is {b : Bool} : Ctr prog 97 [.bool b] G [] (fun r H' => ∃ g, r = .func (.func 167) #[] #[.pointer (some ⟨g, 0, none⟩)] ∧ H' = [(g, C [.bool b] 4)]) := by
  refine fn_enter 4 func97 rfl ntmps97 rfl ?_
  intro w0
  refine gn 2 ?_
  refine oB ?_; intro g1 _
  refine gn 10 ?_
  refine r_fn1 results97 rfl ?_
  exact ⟨_, rfl, rfl⟩
theorem ap1_is {b : Bool} (h : (gc, C [.bool b] 4) ∈ G) : Ctr prog 167 [.pointer (some ⟨go, 0, none⟩), .pointer (some ⟨gc, 0, none⟩)] G [(go, C (OpL dp ip cd zb mc ib du wh ml v1 tr mh ms) 187)] (fun r H' => r = .tuple #[] ∧ H' = [(go, C (OpL dp ip cd zb mc (.bool b) du wh ml v1 tr mh ms) 187)]) := by
  refine fn_enter 7 func167 rfl ntmps167 rfl ?_
  intro w0
  refine gn 5 ?_
  refine oT ?_; intro _ _
  refine gn 1 ?_
  refine n_fn0 results167 ?_
  exact ⟨rfl, rfl⟩
theorem opt2_is {b : Bool} : Ctr prog 98 [.bool b] G [] (fun r H' => ∃ g, r = .func (.func 168) #[] #[.pointer (some ⟨g, 0, none⟩)] ∧ H' = [(g, C [.bool b] 4)]) := by
  refine fn_enter 4 func98 rfl ntmps98 rfl ?_
  intro w0
  refine gn 2 ?_
  refine oB ?_; intro g1 _
  refine gn 10 ?_
  refine r_fn1 results98 rfl ?_
  exact ⟨_, rfl, rfl⟩
theorem ap2_is {b : Bool} (h : (gc, C [.bool b] 4) ∈ G) : Ctr prog 168 [.pointer (some ⟨go, 0, none⟩), .pointer (some ⟨gc, 0, none⟩)] G [(go, C (OpL dp ip cd zb mc ib du wh ml v1 tr mh ms) 187)] (fun r H' => r = .tuple #[] ∧ H' = [(go, C (OpL dp ip cd zb mc ib (.bool b) wh ml v1 tr mh ms) 187)]) := by
  refine fn_enter 7 func168 rfl ntmps168 rfl ?_
  intro w0
  refine gn 5 ?_
  refine oT ?_; intro _ _
  refine gn 1 ?_
  refine n_fn0 results168 ?_
  exact ⟨rfl, rfl⟩
theorem opt3_is {b : Bool} : Ctr prog 99 [.bool b] G [] (fun r H' => ∃ g, r = .func (.func 169) #[] #[.pointer (some ⟨g, 0, none⟩)] ∧ H' = [(g, C [.bool b] 4)]) := by
  refine fn_enter 4 func99 rfl ntmps99 rfl ?_
  intro w0
  refine gn 2 ?_
  refine oB ?_; intro g1 _
  refine gn 10 ?_
  refine r_fn1 results99 rfl ?_
  exact ⟨_, rfl, rfl⟩
theorem ap3_is {b : Bool} (h : (gc, C [.bool b] 4) ∈ G) : Ctr prog 169 [.pointer (some ⟨go, 0, none⟩), .pointer (some ⟨gc, 0, none⟩)] G [(go, C (OpL dp ip cd zb mc ib du wh ml v1 tr mh ms) 187)] (fun r H' => r = .tuple #[] ∧ H' = [(go, C (OpL dp ip cd zb mc ib du (.bool b) ml v1 tr mh ms) 187)]) := by
  refine fn_enter 7 func169 rfl ntmps169 rfl ?_
  intro w0
  refine gn 5 ?_
  refine oT ?_; intro _ _
  refine gn 1 ?_
  refine n_fn0 results169 ?_
  exact ⟨rfl, rfl⟩
theorem opt4_is {b : Bool} : Ctr prog 100 [.bool b] G [] (fun r H' => ∃ g, r = .func (.func 170) #[] #[.pointer (some ⟨g, 0, none⟩)] ∧ H' = [(g, C [.bool b] 4)]) := by
  refine fn_enter 4 func100 rfl ntmps100 rfl ?_
  intro w0
  refine gn 2 ?_
  refine oB ?_; intro g1 _
  refine gn 10 ?_
  refine r_fn1 results100 rfl ?_
  exact ⟨_, rfl, rfl⟩
theorem ap4_is {b : Bool} (h : (gc, C [.bool b] 4) ∈ G) : Ctr prog 170 [.pointer (some ⟨go, 0, none⟩), .pointer (some ⟨gc, 0, none⟩)] G [(go, C (OpL dp ip cd zb mc ib du wh ml v1 tr mh ms) 187)] (fun r H' => r = .tuple #[] ∧ H' = [(go, C (OpL dp ip cd zb mc ib du wh ml (.bool b) tr mh ms) 187)]) := by
  refine fn_enter 7 func170 rfl ntmps170 rfl ?_
  intro w0
  refine gn 5 ?_
  refine oT ?_; intro _ _
  refine gn 1 ?_
  refine n_fn0 results170 ?_
  exact ⟨rfl, rfl⟩
theorem opt5_is {b : Bool} : Ctr prog 101 [.bool b] G [] (fun r H' => ∃ g, r = .func (.func 171) #[] #[.pointer (some ⟨g, 0, none⟩)] ∧ H' = [(g, C [.bool b] 4)]) := by
  refine fn_enter 4 func101 rfl ntmps101 rfl ?_
  intro w0
  refine gn 2 ?_
  refine oB ?_; intro g1 _
  refine gn 10 ?_
  refine r_fn1 results101 rfl ?_
  exact ⟨_, rfl, rfl⟩
theorem ap5_is {b : Bool} (h : (gc, C [.bool b] 4) ∈ G) : Ctr prog 171 [.pointer (some ⟨go, 0, none⟩), .pointer (some ⟨gc, 0, none⟩)] G [(go, C (OpL dp ip cd zb mc ib du wh ml v1 tr mh ms) 187)] (fun r H' => r = .tuple #[] ∧ H' = [(go, C (OpL dp ip cd zb mc ib du wh ml v1 (.bool b) mh ms) 187)]) := by
  refine fn_enter 7 func171 rfl ntmps171 rfl ?_
  intro w0
  refine gn 5 ?_
  refine oT ?_; intro _ _
  refine gn 1 ?_
  refine n_fn0 results171 ?_
  exact ⟨rfl, rfl⟩
theorem opt6_is {a : Int} : Ctr prog 102 [.int .u64 a] G [] (fun r H' => ∃ g, r = .func (.func 172) #[] #[.pointer (some ⟨g, 0, none⟩)] ∧ H' = [(g, C [.int .u64 a] 23)]) := by
  refine fn_enter 4 func102 rfl ntmps102 rfl ?_
  intro w0
  refine gn 2 ?_
  refine oB ?_; intro g1 _
  refine gn 10 ?_
  refine r_fn1 results102 rfl ?_
  exact ⟨_, rfl, rfl⟩
theorem ap6_is {a : Int} (h : (gc, C [.int .u64 a] 23) ∈ G) : Ctr prog 172 [.pointer (some ⟨go, 0, none⟩), .pointer (some ⟨gc, 0, none⟩)] G [(go, C (OpL dp ip cd zb mc ib du wh ml v1 tr mh ms) 187)] (fun r H' => r = .tuple #[] ∧ H' = [(go, C (OpL (.int .u64 a) ip cd zb mc ib du wh ml v1 tr mh ms) 187)]) := by
  refine fn_enter 7 func172 rfl ntmps172 rfl ?_
  intro w0
  refine gn 5 ?_
  refine oT ?_; intro _ _
  refine gn 1 ?_
  refine n_fn0 results172 ?_
  exact ⟨rfl, rfl⟩
theorem opt7_is {a : Int} : Ctr prog 103 [.int .u64 a] G [] (fun r H' => ∃ g, r = .func (.func 173) #[] #[.pointer (some ⟨g, 0, none⟩)] ∧ H' = [(g, C [.int .u64 a] 23)]) := by
  refine fn_enter 4 func103 rfl ntmps103 rfl ?_
  intro w0
  refine gn 2 ?_
  refine oB ?_; intro g1 _
  refine gn 10 ?_
  refine r_fn1 results103 rfl ?_
  exact ⟨_, rfl, rfl⟩
theorem ap7_is {a : Int} (h : (gc, C [.int .u64 a] 23) ∈ G) : Ctr prog 173 [.pointer (some ⟨go, 0, none⟩), .pointer (some ⟨gc, 0, none⟩)] G [(go, C (OpL dp ip cd zb mc ib du wh ml v1 tr mh ms) 187)] (fun r H' => r = .tuple #[] ∧ H' = [(go, C (OpL dp (.int .u64 a) cd zb mc ib du wh ml v1 tr mh ms) 187)]) := by
  refine fn_enter 7 func173 rfl ntmps173 rfl ?_
  intro w0
  refine gn 5 ?_
  refine oT ?_; intro _ _
  refine gn 1 ?_
  refine n_fn0 results173 ?_
  exact ⟨rfl, rfl⟩
theorem opt8_is {a : Int} : Ctr prog 104 [.int .u64 a] G [] (fun r H' => ∃ g, r = .func (.func 174) #[] #[.pointer (some ⟨g, 0, none⟩)] ∧ H' = [(g, C [.int .u64 a] 92)]) := by
  refine fn_enter 4 func104 rfl ntmps104 rfl ?_
  intro w0
  refine gn 2 ?_
  refine oB ?_; intro g1 _
  refine gn 10 ?_
  refine r_fn1 results104 rfl ?_
  exact ⟨_, rfl, rfl⟩
theorem ap8_is {a : Int} (h : (gc, C [.int .u64 a] 92) ∈ G) : Ctr prog 174 [.pointer (some ⟨go, 0, none⟩), .pointer (some ⟨gc, 0, none⟩)] G [(go, C (OpL dp ip cd zb mc ib du wh ml v1 tr mh ms) 187)] (fun r H' => r = .tuple #[] ∧ H' = [(go, C (OpL dp ip (.int .u64 a) zb mc ib du wh ml v1 tr mh ms) 187)]) := by
  refine fn_enter 7 func174 rfl ntmps174 rfl ?_
  intro w0
  refine gn 5 ?_
  refine oT ?_; intro _ _
  refine gn 1 ?_
  refine n_fn0 results174 ?_
  exact ⟨rfl, rfl⟩
end
/-- Where options stand in memory: closures, each with its own value. -/
inductive OptA (G : HP) (b0 b1 b2 b3 b4 b5 : Bool) (a6 a7 : Int) : Value → Int → Prop where
  | none {go cap g0 g1 g2 g3 g4 g5 g6 g7 : Nat} {tl : List Value} {fr : Nat × Nat} (ho : (go, Obj.cells ((.func (.func 166) #[] #[.pointer (some ⟨g0, 0, none⟩)]) :: (.func (.func 167) #[] #[.pointer (some ⟨g1, 0, none⟩)]) :: (.func (.func 168) #[] #[.pointer (some ⟨g2, 0, none⟩)]) :: (.func (.func 169) #[] #[.pointer (some ⟨g3, 0, none⟩)]) :: (.func (.func 170) #[] #[.pointer (some ⟨g4, 0, none⟩)]) :: (.func (.func 171) #[] #[.pointer (some ⟨g5, 0, none⟩)]) :: (.func (.func 172) #[] #[.pointer (some ⟨g6, 0, none⟩)]) :: (.func (.func 173) #[] #[.pointer (some ⟨g7, 0, none⟩)]) :: tl).toArray 191 fr) ∈ G) (h0 : (g0, C [.bool b0] 4) ∈ G) (h1 : (g1, C [.bool b1] 4) ∈ G) (h2 : (g2, C [.bool b2] 4) ∈ G) (h3 : (g3, C [.bool b3] 4) ∈ G) (h4 : (g4, C [.bool b4] 4) ∈ G) (h5 : (g5, C [.bool b5] 4) ∈ G) (h6 : (g6, C [.int .u64 a6] 23) ∈ G) (h7 : (g7, C [.int .u64 a7] 23) ∈ G) : OptA G b0 b1 b2 b3 b4 b5 a6 a7 (.slice (some ⟨go, 0, none⟩) 8 cap) 0
  | some {go cap g0 g1 g2 g3 g4 g5 g6 g7 g8 : Nat} {tl : List Value} {fr : Nat × Nat} {cd : Int} (ho : (go, Obj.cells ((.func (.func 166) #[] #[.pointer (some ⟨g0, 0, none⟩)]) :: (.func (.func 167) #[] #[.pointer (some ⟨g1, 0, none⟩)]) :: (.func (.func 168) #[] #[.pointer (some ⟨g2, 0, none⟩)]) :: (.func (.func 169) #[] #[.pointer (some ⟨g3, 0, none⟩)]) :: (.func (.func 170) #[] #[.pointer (some ⟨g4, 0, none⟩)]) :: (.func (.func 171) #[] #[.pointer (some ⟨g5, 0, none⟩)]) :: (.func (.func 172) #[] #[.pointer (some ⟨g6, 0, none⟩)]) :: (.func (.func 173) #[] #[.pointer (some ⟨g7, 0, none⟩)]) :: (.func (.func 174) #[] #[.pointer (some ⟨g8, 0, none⟩)]) :: tl).toArray 191 fr) ∈ G) (h0 : (g0, C [.bool b0] 4) ∈ G) (h1 : (g1, C [.bool b1] 4) ∈ G) (h2 : (g2, C [.bool b2] 4) ∈ G) (h3 : (g3, C [.bool b3] 4) ∈ G) (h4 : (g4, C [.bool b4] 4) ∈ G) (h5 : (g5, C [.bool b5] 4) ∈ G) (h6 : (g6, C [.int .u64 a6] 23) ∈ G) (h7 : (g7, C [.int .u64 a7] 23) ∈ G) (h8 : (g8, C [.int .u64 cd] 92) ∈ G) (hcd : 0 < cd) : OptA G b0 b1 b2 b3 b4 b5 a6 a7 (.slice (some ⟨go, 0, none⟩) 9 cap) cd
section
variable {G : HP} {b0 b1 b2 b3 b4 b5 : Bool} {a6 a7 cd : Int} {v : Value}
theorem apply_is (h : OptA G b0 b1 b2 b3 b4 b5 a6 a7 v cd) : CtrP prog 94 [v] G (.agg #[.int .u64 a6, .int .u64 a7, .int .u64 (if cd = 0 then 1025 else cd), .bool b0, .int .u64 2048, .bool b1, .bool b2, .bool b3, .int .u64 9223372036854775807, .bool b4, .bool b5, .int .u64 33554432, .int .u64 8388608]) := by
  cases h with
  | none ho h0 h1 h2 h3 h4 h5 h6 h7 =>
    refine fn_enter 25 func94 rfl ntmps94 rfl ?_
    intro w0
    refine gn 2 ?_
    refine oZ ?_; intro g2 _
    refine gn 4 ?_
    refine oX (eB [.int .u64 0, .int .u64 0, .int .u64 0, .bool false, .int .u64 0, .bool false, .bool false, .bool false, .int .u64 9223372036854775807, .bool false, .bool false, .int .u64 33554432, .int .u64 8388608]) ?_
    refine oZ ?_; intro g3 _
    refine oL (l_storea sizeOf187 rfl rfl rfl (by simp [Value.oneCell']) aU (.take (.take (.take (.take (.take (.take (.take (.take (.take (.take (.take (.take (.take .done))))))))))))) nofrs0) ?_
    intro _ _
    refine gn 11 ?_
    refine c_rounds 9 ?_
    refine gn 20 ?_
    refine oL (l_callcq (HJ := []) call166 (ap0_is (go := g3) (List.mem_append_left _ h0)) rfl rfl rfl rfl (.cons .head .nil) (by simp)) ?_
    rintro ⟨r, H'⟩ ⟨rfl, rfl⟩
    simp only [List.cons_append, List.nil_append]
    refine gn 7 ?_
    refine n_rounds ?_
    refine gn 20 ?_
    refine oL (l_callcq (HJ := []) call167 (ap1_is (go := g3) (List.mem_append_left _ h1)) rfl rfl rfl rfl (.cons .head .nil) (by simp)) ?_
    rintro ⟨r, H'⟩ ⟨rfl, rfl⟩
    simp only [List.cons_append, List.nil_append]
    refine gn 7 ?_
    refine n_rounds ?_
    refine gn 20 ?_
    refine oL (l_callcq (HJ := []) call168 (ap2_is (go := g3) (List.mem_append_left _ h2)) rfl rfl rfl rfl (.cons .head .nil) (by simp)) ?_
    rintro ⟨r, H'⟩ ⟨rfl, rfl⟩
    simp only [List.cons_append, List.nil_append]
    refine gn 7 ?_
    refine n_rounds ?_
    refine gn 20 ?_
    refine oL (l_callcq (HJ := []) call169 (ap3_is (go := g3) (List.mem_append_left _ h3)) rfl rfl rfl rfl (.cons .head .nil) (by simp)) ?_
    rintro ⟨r, H'⟩ ⟨rfl, rfl⟩
    simp only [List.cons_append, List.nil_append]
    refine gn 7 ?_
    refine n_rounds ?_
    refine gn 20 ?_
    refine oL (l_callcq (HJ := []) call170 (ap4_is (go := g3) (List.mem_append_left _ h4)) rfl rfl rfl rfl (.cons .head .nil) (by simp)) ?_
    rintro ⟨r, H'⟩ ⟨rfl, rfl⟩
    simp only [List.cons_append, List.nil_append]
    refine gn 7 ?_
    refine n_rounds ?_
    refine gn 20 ?_
    refine oL (l_callcq (HJ := []) call171 (ap5_is (go := g3) (List.mem_append_left _ h5)) rfl rfl rfl rfl (.cons .head .nil) (by simp)) ?_
    rintro ⟨r, H'⟩ ⟨rfl, rfl⟩
    simp only [List.cons_append, List.nil_append]
    refine gn 7 ?_
    refine n_rounds ?_
    refine gn 20 ?_
    refine oL (l_callcq (HJ := []) call172 (ap6_is (go := g3) (List.mem_append_left _ h6)) rfl rfl rfl rfl (.cons .head .nil) (by simp)) ?_
    rintro ⟨r, H'⟩ ⟨rfl, rfl⟩
    simp only [List.cons_append, List.nil_append]
    refine gn 7 ?_
    refine n_rounds ?_
    refine gn 20 ?_
    refine oL (l_callcq (HJ := []) call173 (ap7_is (go := g3) (List.mem_append_left _ h7)) rfl rfl rfl rfl (.cons .head .nil) (by simp)) ?_
    rintro ⟨r, H'⟩ ⟨rfl, rfl⟩
    simp only [List.cons_append, List.nil_append]
    refine gn 7 ?_
    refine n_rounds ?_
    refine gn 23 ?_
    refine oT ?_; intro _ _
    refine gn 13 ?_
    refine oT ?_; intro _ _
    refine gn 5 ?_
    refine oL (l_storea sizeOf187 rfl rfl rfl (by simp [Value.oneCell']) aU (.take (.take (.take (.take (.take (.take (.take (.take (.take (.take (.take (.take (.take .done))))))))))))) nofrs0) ?_
    intro _ _
    refine gn 3 ?_
    refine r_fnx results94 (.cella isAgg187 sizeOf187 rfl aM (.take (.take (.take (.take (.take (.take (.take (.take (.take (.take (.take (.take (.take .done))))))))))))) .nil) .nil rfl ?_
    exact ⟨rfl, rfl⟩
  | some ho h0 h1 h2 h3 h4 h5 h6 h7 h8 hcd =>
    refine fn_enter 25 func94 rfl ntmps94 rfl ?_
    intro w0
    refine gn 2 ?_
    refine oZ ?_; intro g2 _
    refine gn 4 ?_
    refine oX (eB [.int .u64 0, .int .u64 0, .int .u64 0, .bool false, .int .u64 0, .bool false, .bool false, .bool false, .int .u64 9223372036854775807, .bool false, .bool false, .int .u64 33554432, .int .u64 8388608]) ?_
    refine oZ ?_; intro g3 _
    refine oL (l_storea sizeOf187 rfl rfl rfl (by simp [Value.oneCell']) aU (.take (.take (.take (.take (.take (.take (.take (.take (.take (.take (.take (.take (.take .done))))))))))))) nofrs0) ?_
    intro _ _
    refine gn 11 ?_
    refine c_rounds 10 ?_
    refine gn 20 ?_
    refine oL (l_callcq (HJ := []) call166 (ap0_is (go := g3) (List.mem_append_left _ h0)) rfl rfl rfl rfl (.cons .head .nil) (by simp)) ?_
    rintro ⟨r, H'⟩ ⟨rfl, rfl⟩
    simp only [List.cons_append, List.nil_append]
    refine gn 7 ?_
    refine n_rounds ?_
    refine gn 20 ?_
    refine oL (l_callcq (HJ := []) call167 (ap1_is (go := g3) (List.mem_append_left _ h1)) rfl rfl rfl rfl (.cons .head .nil) (by simp)) ?_
    rintro ⟨r, H'⟩ ⟨rfl, rfl⟩
    simp only [List.cons_append, List.nil_append]
    refine gn 7 ?_
    refine n_rounds ?_
    refine gn 20 ?_
    refine oL (l_callcq (HJ := []) call168 (ap2_is (go := g3) (List.mem_append_left _ h2)) rfl rfl rfl rfl (.cons .head .nil) (by simp)) ?_
    rintro ⟨r, H'⟩ ⟨rfl, rfl⟩
    simp only [List.cons_append, List.nil_append]
    refine gn 7 ?_
    refine n_rounds ?_
    refine gn 20 ?_
    refine oL (l_callcq (HJ := []) call169 (ap3_is (go := g3) (List.mem_append_left _ h3)) rfl rfl rfl rfl (.cons .head .nil) (by simp)) ?_
    rintro ⟨r, H'⟩ ⟨rfl, rfl⟩
    simp only [List.cons_append, List.nil_append]
    refine gn 7 ?_
    refine n_rounds ?_
    refine gn 20 ?_
    refine oL (l_callcq (HJ := []) call170 (ap4_is (go := g3) (List.mem_append_left _ h4)) rfl rfl rfl rfl (.cons .head .nil) (by simp)) ?_
    rintro ⟨r, H'⟩ ⟨rfl, rfl⟩
    simp only [List.cons_append, List.nil_append]
    refine gn 7 ?_
    refine n_rounds ?_
    refine gn 20 ?_
    refine oL (l_callcq (HJ := []) call171 (ap5_is (go := g3) (List.mem_append_left _ h5)) rfl rfl rfl rfl (.cons .head .nil) (by simp)) ?_
    rintro ⟨r, H'⟩ ⟨rfl, rfl⟩
    simp only [List.cons_append, List.nil_append]
    refine gn 7 ?_
    refine n_rounds ?_
    refine gn 20 ?_
    refine oL (l_callcq (HJ := []) call172 (ap6_is (go := g3) (List.mem_append_left _ h6)) rfl rfl rfl rfl (.cons .head .nil) (by simp)) ?_
    rintro ⟨r, H'⟩ ⟨rfl, rfl⟩
    simp only [List.cons_append, List.nil_append]
    refine gn 7 ?_
    refine n_rounds ?_
    refine gn 20 ?_
    refine oL (l_callcq (HJ := []) call173 (ap7_is (go := g3) (List.mem_append_left _ h7)) rfl rfl rfl rfl (.cons .head .nil) (by simp)) ?_
    rintro ⟨r, H'⟩ ⟨rfl, rfl⟩
    simp only [List.cons_append, List.nil_append]
    refine gn 7 ?_
    refine n_rounds ?_
    refine gn 20 ?_
    refine oL (l_callcq (HJ := []) call174 (ap8_is (go := g3) (List.mem_append_left _ h8)) rfl rfl rfl rfl (.cons .head .nil) (by simp)) ?_
    rintro ⟨r, H'⟩ ⟨rfl, rfl⟩
    simp only [List.cons_append, List.nil_append]
    refine gn 7 ?_
    refine n_rounds ?_
    refine gn 20 ?_
    refine c_ifp rfl (fun h => absurd h (by omega)) (fun _ => ?_)
    refine gn 13 ?_
    refine oT ?_; intro _ _
    refine gn 5 ?_
    refine oL (l_storea sizeOf187 rfl rfl rfl (by simp [Value.oneCell']) aU (.take (.take (.take (.take (.take (.take (.take (.take (.take (.take (.take (.take (.take .done))))))))))))) nofrs0) ?_
    intro _ _
    refine gn 3 ?_
    refine r_fnx results94 (.cella isAgg187 sizeOf187 rfl aM (.take (.take (.take (.take (.take (.take (.take (.take (.take (.take (.take (.take (.take .done))))))))))))) .nil) .nil rfl ?_
    exact ⟨by rw [if_neg (by omega)]; rfl, rfl⟩
end
end Go.Proofs
namespace Go.Proofs
open Go Go.Sl Tryz
set_option maxRecDepth 100000
set_option maxHeartbeats 1000000
section
variable {G : HP} {x n : Nat} {bs tl : List UInt8}
theorem uvS_is (hx : x < 9223372036854775808) (hbs : bs = uv x ++ tl) (hl : bs.length < 1000000) :
    CtrP prog 161 [S bs] G (.tuple #[.int .u64 (x : Nat), .int .i64 ((uv x).length : Nat), .nilIface]) := by
  have hp := uv_pos x
  have h9 := uv_le9 hx
  have hx' : x < 18446744073709551616 := by omega
  have hL : (uv x).length ≤ bs.length := by rw [hbs, List.length_append]; omega
  refine fn_enter 56 func161 rfl ntmps161 rfl ?_
  intro w0
  refine gn 24 ?_
  refine c_loop (X := Nat) (fun i => [(0, S bs), (7, .int .i64 i), (5, .int .u64 (x % 128 ^ i : Nat)), (6, .int .u64 (7 * i : Nat))]) (fun _ => []) (fun i => i < (uv x).length) (fun i => (uv x).length - i) 0 hp (sub_cons rfl (sub_cons rfl (sub_cons (by show some _ = some _; simp [Nat.mod_one]) aK))) (.refl _) ?_
  intro i hi'
  refine gn 9 ?_
  refine c_ifp rfl (fun _ => ?_) (fun h => absurd h (by omega))
  by_cases hmid : i + 1 < (uv x).length
  · obtain ⟨h2, h3⟩ := uv_mid hmid
    have hb : bs[((i : Nat) : Int).toNat]? = some (UInt8.ofNat (128 + x / 128 ^ i % 128)) := by rw [Int.toNat_natCast, hbs, List.getElem?_append_left (by omega)]; exact h3
    have hbz : (UInt8.ofNat (128 + x / 128 ^ i % 128)).toNat = 128 + x / 128 ^ i % 128 := by rw [UInt8.toNat_ofNat']; omega
    have e127 : (128 + x / 128 ^ i % 128) % 128 = x / 128 ^ i % 128 := by omega
    have hle : x % 128 ^ (i + 1) ≤ x := Nat.mod_le _ _
    refine gn 9 ?_
    rw [hbz]
    refine gn 10 ?_
    refine c_ifp rfl (fun h => absurd h (by omega)) (fun _ => ?_)
    refine gn 7 ?_
    rw [and127 (by omega), e127]
    refine gn 4 ?_
    rw [or_sh rfl _ (7 * i) (Int.toNat_natCast _) (by show 7 * i ≤ 64; omega) (mod_lt' x i) (by rw [mod_succ]; show _ < 18446744073709551616; omega), mod_succ]
    refine gn 15 ?_
    refine n_round' (y := i) (i + 1) (by omega) hmid (sub_cons rfl (sub_cons rfl (sub_cons rfl (sub_cons (by show some (Value.int .u64 (((7 * i : Nat) : Int) + 7)) = some (Value.int .u64 ((7 * (i + 1) : Nat) : Int)); rw [show ((7 * i : Nat) : Int) + 7 = ((7 * (i + 1) : Nat) : Int) by omega]) sub_nil)))) _ (.refl _) (List.Sublist.refl _)
  · skip
    have hlast : i + 1 = (uv x).length := by omega
    obtain ⟨h2, h3, h0⟩ := uv_last hx' hlast
    have hb : bs[((i : Nat) : Int).toNat]? = some (UInt8.ofNat (x / 128 ^ i)) := by rw [Int.toNat_natCast, hbs, List.getElem?_append_left (by omega)]; exact h3
    have hbz : (UInt8.ofNat (x / 128 ^ i)).toNat = x / 128 ^ i := by rw [UInt8.toNat_ofNat']; exact Nat.mod_eq_of_lt (Nat.lt_trans h2 (by decide))
    have hor : ib .or .u64 ((x % 128 ^ i : Nat) : Int) (IntKind.u64.wrap (((x / 128 ^ i : Nat) : Int) * 2 ^ (min ((7 * i : Nat) : Int).toNat IntKind.u64.bits))) = ((x : Nat) : Int) := by
      rw [or_sh rfl _ (7 * i) (Int.toNat_natCast _) (by show 7 * i ≤ 64; omega) (mod_lt' x i) (by rw [mod_last]; show _ < 18446744073709551616; omega), mod_last]
    refine gn 9 ?_
    rw [hbz]
    clear hb h3 hbz
    generalize x / 128 ^ i = q at h2 h0 hor ⊢
    refine gn 10 ?_
    refine c_ifp rfl (fun _ => ?_) (fun h => absurd h (by omega))
    refine gn 6 ?_
    refine o_splitp 22 rfl (fun h => absurd h (by omega)) (fun _ => ?_)
    refine gn 3 ?_
    refine o_splitp 25 rfl (fun h => absurd h (by omega)) (fun _ => ?_)
    refine gn 15 ?_
    refine o_splitp 33 rfl (fun h7 => ?_) (fun h7 => ?_)
    · refine gn 5 ?_
      refine c_ifp rfl (fun h8 => ?_) (fun h8 => ?_)
      · exact absurd h8 (by have : i = 0 ∨ 0 < i := by omega
                            rcases this with rfl | h; simp; have := h0 h; omega)
      · skip
        refine gn 10 ?_
        rw [hor]
        refine gn 8 ?_
        refine r_fn (l := [.tmp 2, .tmp 3, .tmp 4]) results161 rfl rfl ?_
        exact ⟨by rw [← hlast]; rfl, rfl⟩
    · skip
      refine gn 16 ?_
      rw [hor]
      refine gn 8 ?_
      refine r_fn (l := [.tmp 2, .tmp 3, .tmp 4]) results161 rfl rfl ?_
      exact ⟨by rw [← hlast]; rfl, rfl⟩
end
section
variable {G : HP} {x : En}
theorem prefix_is (ht : Tidy x) (hf : EnFit x) (hd : x.d.length ≤ 200) : CtrP prog 91 [.agg #[S (cidB x)]] G (.agg #[.int .u64 x.v, .int .u64 x.c, .int .u64 x.h, .int .i64 x.d.length]) := by
  obtain ⟨v, c, h, d, o⟩ := x
  obtain ⟨_, _, hc0, hc1, hh0, hh1, _, _⟩ := hf
  simp only at hc0 hc1 hh0 hh1 hd
  simp only [Tidy] at ht
  obtain ⟨c, rfl⟩ := Int.eq_ofNat_of_zero_le hc0
  obtain ⟨h, rfl⟩ := Int.eq_ofNat_of_zero_le hh0
  rcases ht with ⟨rfl, h1, h2, h3⟩ | ⟨rfl, h1, h2⟩
  · have hcid : cidB ⟨0, (c : Nat), (h : Nat), d, o⟩ = mhB 18 d := if_pos rfl
    have hv : mhB 18 d = 18 :: 32 :: d := by rw [mhB, h3]; rfl
    have hver := ver0_is (G := G) (t := d) h3
    rw [hcid, hv, h1, h2, h3]
    generalize (18 :: 32 :: d : List UInt8) = bs at *
    refine fn_enter 69 func91 rfl ntmps91 rfl ?_
    intro w0
    refine gn 2 ?_
    refine oB ?_; intro g1 _
    refine oZ ?_; intro g2 _
    refine gn 6 ?_
    refine oL (lC hver rfl .nil) ?_
    rintro ⟨r, H'⟩ ⟨rfl, rfl⟩
    simp only [List.nil_append]
    refine gn 6 ?_
    refine oX (eB [.int .u64 0, .int .u64 112, .int .u64 18, .int .i64 32]) ?_
    refine oL (l_storea sizeOf173 rfl rfl rfl (by simp [Value.oneCell']) aU (.take (.take (.take (.take .done)))) nofrs0) ?_
    intro _ _
    refine gn 3 ?_
    refine r_fnx results91 (.cella isAgg173 sizeOf173 rfl aM (.take (.take (.take (.take .done)))) .nil) .nil rfl ?_
    exact ⟨rfl, rfl⟩
  · have hcid : cidB ⟨1, (c : Nat), (h : Nat), d, o⟩ = 1 :: (uv c ++ mhB h d) := if_neg (show ¬ (1 : Int) = 0 by decide)
    have hver := ver1_is (G := G) (t := uv c ++ mhB h d)
    have hlc := uv_le c
    have hlh := uv_le h
    have hld := uv_le d.length
    have hu1 : (uv 1).length = 1 := rfl
    have hbl : (1 :: (uv c ++ mhB h d)).length ≤ 300 := by simp [mhB]; omega
    have hbs' : 1 :: (uv c ++ mhB h d) = uv 1 ++ (uv c ++ (uv h ++ (uv d.length ++ d))) := by simp [mhB]; rfl
    have hm1 : (mhB h d).length = (uv h).length + ((uv d.length).length + d.length) := by simp [mhB]
    have hb2 : (1 :: (uv c ++ mhB h d)).length = 1 + ((uv c).length + (mhB h d).length) := by simp; omega
    rw [hcid]
    obtain ⟨bs, hbs⟩ : ∃ bs, bs = 1 :: (uv c ++ mhB h d) := ⟨_, rfl⟩
    rw [← hbs] at hver hbl hbs' hb2 ⊢
    have d0 : bs.drop 0 = uv 1 ++ (uv c ++ (uv h ++ (uv d.length ++ d))) := by rw [List.drop_zero]; exact hbs'
    have d1 : bs.drop 1 = uv c ++ (uv h ++ (uv d.length ++ d)) := drop_at hbs' rfl
    have d2 : bs.drop (1 + (uv c).length) = uv h ++ (uv d.length ++ d) := drop_at (a := uv 1 ++ uv c) (by rw [hbs']; simp) (by simp [hu1])
    have d3 : bs.drop (1 + (uv c).length + (uv h).length) = uv d.length ++ d := drop_at (a := uv 1 ++ uv c ++ uv h) (by rw [hbs']; simp) (by simp [hu1]; omega)
    refine fn_enter 69 func91 rfl ntmps91 rfl ?_
    intro w0
    refine gn 2 ?_
    refine oB ?_; intro g1 _
    refine oZ ?_; intro g2 _
    refine gn 6 ?_
    refine oL (lC hver rfl .nil) ?_
    rintro ⟨r, H'⟩ ⟨rfl, rfl⟩
    simp only [List.nil_append]
    refine gn 17 ?_
    refine oL (lC (uvS_is (x := 1) (by decide) d0 (by rw [List.drop_zero]; omega)) rfl .nil) ?_
    rintro ⟨r, H'⟩ ⟨rfl, rfl⟩
    simp only [List.nil_append, hu1]
    refine gn 23 ?_
    refine oL (lC (uvS_is (x := c) (by omega) d1 (by rw [List.length_drop]; omega)) rfl .nil) ?_
    rintro ⟨r, H'⟩ ⟨rfl, rfl⟩
    simp only [List.nil_append]
    refine gn 23 ?_
    simp only [Int.toNat_natCast]
    refine oL (lC (uvS_is (x := h) (by omega) d2 (by rw [List.length_drop]; omega)) rfl .nil) ?_
    rintro ⟨r, H'⟩ ⟨rfl, rfl⟩
    simp only [List.nil_append]
    refine gn 23 ?_
    simp only [Int.toNat_natCast]
    refine oL (lC (uvS_is (x := d.length) (by omega) d3 (by rw [List.length_drop]; omega)) rfl .nil) ?_
    rintro ⟨r, H'⟩ ⟨rfl, rfl⟩
    simp only [List.nil_append]
    refine gn 16 ?_
    refine oX (eB [.int .u64 1, .int .u64 (c : Nat), .int .u64 (h : Nat), .int .i64 d.length]) ?_
    refine oL (l_storea sizeOf173 rfl rfl rfl (by simp [Value.oneCell']) aU (.take (.take (.take (.take .done)))) nofrs0) ?_
    intro _ _
    refine gn 3 ?_
    refine r_fnx results91 (.cella isAgg173 sizeOf173 rfl aM (.take (.take (.take (.take .done)))) .nil) .nil rfl ?_
    exact ⟨rfl, rfl⟩
end
end Go.Proofs
namespace Go.Proofs
open Go Go.Sl Tryz
set_option maxRecDepth 100000
set_option maxHeartbeats 1000000
/-- A block: its identifier, its data; a section's bytes. -/
abbrev Blk := En × List UInt8
def secB (b : Blk) : List UInt8 := uv ((cidB b.1).length + b.2.length) ++ (cidB b.1 ++ b.2)
/-- The entries of sections that begin at p. -/
def genE : Nat → List Blk → List En
  | _, [] => []
  | p, b :: bs => { b.1 with o := (p : Nat) } :: genE (p + (secB b).length) bs
theorem genE_snoc : ∀ (p : Nat) (l : List Blk) (b : Blk), genE p (l ++ [b]) = genE p l ++ [{ b.1 with o := ((p + (l.flatMap secB).length : Nat) : Int) }]
  | p, [], b => by simp [genE]
  | p, a :: l, b => by
    simp only [List.cons_append, genE, List.flatMap_cons, List.length_append]
    rw [genE_snoc, Nat.add_assoc]
def keepE (ib : Bool) (l : List En) : List En := l.filter fun x => ib || decide (x.h ≠ 0)
theorem keepE_snoc (ib : Bool) (l : List En) (x : En) : keepE ib (l ++ [x]) = keepE ib l ++ (if (ib || decide (x.h ≠ 0)) = true then [x] else []) := by
  simp only [keepE, List.filter_append, List.filter_cons, List.filter_nil]
/-- A record's cells. -/
def recV (x : En) : List Value := [S (cidB x), .int .u64 x.o]
theorem sflat_split {l : List Blk} {i : Nat} (h : i < l.length) : l.flatMap secB = (l.take i).flatMap secB ++ (secB l[i] ++ (l.drop (i + 1)).flatMap secB) := by
  have e : l = l.take i ++ (l[i] :: l.drop (i + 1)) := by simp
  conv => lhs; rw [e]
  rw [List.flatMap_append, List.flatMap_cons]
theorem sflat_succ {l : List Blk} {i : Nat} (h : i < l.length) : (l.take (i + 1)).flatMap secB = (l.take i).flatMap secB ++ secB l[i] := by
  rw [List.take_succ_eq_append_getElem h, List.flatMap_append]; simp
theorem genE_len : ∀ (p : Nat) (l : List Blk), (genE p l).length = l.length
  | _, [] => rfl
  | p, b :: l => by simp [genE, genE_len]
/-- An index that is loaded with records. -/
structure LdI (G : HP) (tv : TypeId) (v : Value) (HI : HP) (recs : List En) (R : HP → Prop) where
  f : FuncId
  rv : Value
  hf : ∀ az w, (callFunc f az).run prog w = .ok (.enter f az) w
  hm : ∀ w, (method (prog.types.size + Made.depth) tv v "Load").run prog w = .ok (f, rv) w
  hc : ∀ s HRec, Osl 184 2 s recs.length (recs.flatMap recV) HRec → Ctr prog f [rv, s] G (HRec ++ HI) (fun r H' => r = .nilIface ∧ R H')
section
variable {G HI : HP} {gr gs n cap i d lo hi p0 : Nat} {bs : List UInt8} {rest : List Value} {xs : List En} {blks : List Blk} {gE : Addr} {t3 : List Value} {e3 : TypeId} {f3 : Nat × Nat} {tv : TypeId} {v vo : Value} {b0 ib b2 b3 b4 b5 : Bool} {a6 a7 cd : Int} {R : HP → Prop}
theorem seekD_is (h63 : i + d < 9223372036854775808) :
    Ctr prog 290 [.pointer (some ⟨gr, 0, none⟩), .int .i64 d, .int .i64 1] G [(gr, RB gs n cap i)] (fun r H' => r = .tuple #[.int .i64 (i + d : Nat), .nilIface] ∧ H' = [(gr, RB gs n cap (i + d))]) := by
  refine fn_enter 42 func290 rfl ntmps290 rfl ?_
  intro w0
  refine gn 11 ?_
  refine oT ?_; intro _ _
  refine gn 46 ?_
  refine c_ifp rfl (fun h => absurd h (by omega)) (fun _ => ?_)
  refine gn 8 ?_
  refine oT ?_; intro _ _
  refine gn 10 ?_
  refine r_fn (l := [.tmp 6, .tmp 7]) results290 rfl rfl ?_
  exact ⟨rfl, rfl⟩
theorem loadIx1_is (hO : OptA G b0 ib b2 b3 b4 b5 a6 a7 vo cd) (hD : (gs, DB bs rest lo hi) ∈ G) (hE : (3, Obj.cells (EV gE :: t3).toArray e3 f3) ∈ G) (hn : bs.length = n) (hc : n ≤ cap) (h63 : cap < 9223372036854775808) (hn40 : n ≤ 1099511627776)
    (hbs : bs = hedB xs ++ blks.flatMap secB) (hN : xs.length ≤ 200) (hok : ∀ x ∈ xs, CidOk x) (hbk : ∀ b ∈ blks, CidOk b.1) (hnb : blks.length ≤ 1000) (hh : (headB xs).length ≤ 33554432)
    (hL : LdI G tv v HI (keepE ib (genE (hedB xs).length blks)) R) :
    Ctr prog 95 [.iface tv v, RV gr, vo] G ((gr, RB gs n cap 0) :: HI) (fun r H' => r = .nilIface ∧ ∃ Hl, R Hl ∧ H' = (gr, RB gs n cap n) :: Hl) := by
  obtain ⟨p0, hp0⟩ : ∃ p0, p0 = (hedB xs).length := ⟨_, rfl⟩
  rw [← hp0] at hL
  have hdp : bs.drop p0 = blks.flatMap secB := by rw [hp0, hbs, List.drop_left]
  have hnp : n = p0 + (blks.flatMap secB).length := by rw [← hn, hbs, List.length_append, hp0]
  refine fn_enter 193 func95 rfl ntmps95 rfl ?_
  intro w0
  refine gn 8 ?_
  refine oL (lC (apply_is hO) rfl .nil) ?_
  rintro ⟨r, H'⟩ ⟨rfl, rfl⟩
  simp only [List.nil_append]
  refine oZ ?_; intro g7 _
  refine oL (l_storea sizeOf187 rfl rfl rfl (by simp [Value.oneCell']) aU (.take (.take (.take (.take (.take (.take (.take (.take (.take (.take (.take (.take (.take .done))))))))))))) nofrs0) ?_
  intro _ _
  refine gn 5 ?_
  refine o_pure rfl call164 (toSeek_is) rfl rfl ?_
  refine gn 8 ?_
  refine oL (lC (readHeader_is (i := 0) (mx := 33554432) (tl := blks.flatMap secB) hD hE hn hc h63 (Nat.zero_le _) (by rw [List.drop_zero]; exact hbs) hN hok hh (by decide) (by omega)) rfl (.cons (.tail .head) .nil)) ?_
  rintro ⟨r, H'⟩ ⟨gh, vr, HR, rfl, -, rfl⟩
  refine o_perm List.perm_middle ?_
  simp only [List.cons_append, Nat.zero_add, ← hp0]
  refine gn 52 ?_
  refine oL (lI (seek_is (i := p0) (by omega)) rfl rfl (.cons (.tail .head) .nil)) ?_
  rintro ⟨r, H'⟩ ⟨rfl, rfl⟩
  simp only [List.cons_append, List.nil_append]
  refine gn 26 ?_
  refine oL (l_mks (l := []) underlying182 (info_of typeInfo184) rfl rfl rfl rfl (by decide) (by decide) (by decide) (by decide) (by kernel_rfl)) ?_
  intro gR _
  refine gn 4 ?_
  refine c_cut (X := Value × HP) (fun y => [(0, .iface tv v), (18, y.1)]) (fun y => (gr, RB gs n cap n) :: (y.2 ++ HI)) (fun y => Osl 184 2 y.1 (keepE ib (genE p0 blks)).length ((keepE ib (genE p0 blks)).flatMap recV) y.2) ?_ ?_
  · skip
    refine gn 1 ?_
    refine WC.less (fun _ _ h => h) (.cons_cons _ (.cons_cons _ (.cons_cons _ (.cons _ (List.sublist_append_right HR HI))))) ?_
    refine c_loop (X := Nat × Value × HP) (fun y => [(0, .iface tv v), (7, .pointer (some ⟨g7, 0, none⟩)), (8, RV gr), (11, .int .i64 0), (12, .int .i64 0), (17, .int .i64 (p0 + ((blks.take y.1).flatMap secB).length : Nat)), (18, y.2.1)]) (fun y => (g7, C (OpL (.int .u64 a6) (.int .u64 a7) (.int .u64 (if cd = 0 then 1025 else cd)) (.bool b0) (.int .u64 2048) (.bool ib) (.bool b2) (.bool b3) (.int .u64 9223372036854775807) (.bool b4) (.bool b5) (.int .u64 33554432) (.int .u64 8388608)) 187) :: (gr, RB gs n cap (p0 + ((blks.take y.1).flatMap secB).length)) :: (y.2.2 ++ HI)) (fun y => y.1 ≤ blks.length ∧ Osl 184 2 y.2.1 (keepE ib (genE p0 (blks.take y.1))).length ((keepE ib (genE p0 (blks.take y.1))).flatMap recV) y.2.2) (fun y => blks.length - y.1) (0, .slice (some ⟨gR, 0, none⟩) 0 0, [(gR, C [] 184)]) ⟨Nat.zero_le _, .own (xs := []) (rest := []) rfl rfl (Nat.le_refl _) (by decide) (.inr rfl)⟩ (sub_cons rfl (sub_cons rfl (sub_cons rfl (sub_cons rfl (sub_cons rfl (sub_cons (by show some (Value.int .i64 ((p0 : Nat) - 0 : Int)) = some _; simp) aK)))))) (show List.Perm ((gR, C [] 184) :: (gr, RB gs n cap p0) :: (g7, _) :: HI) ((g7, _) :: (gr, RB gs n cap p0) :: (gR, C [] 184) :: HI) from ((List.perm_append_comm (l₁ := [_, _]) (l₂ := [_])).append_right HI).trans ((List.Perm.swap _ _ _).cons _)) ?_
    rintro ⟨j, sv, HS⟩ ⟨hj, ho⟩
    simp only at hj ho ⊢
    obtain ⟨q, hq⟩ : ∃ q, q = p0 + ((blks.take j).flatMap secB).length := ⟨_, rfl⟩
    rw [← hq]
    refine gn 4 ?_
    by_cases hlt : j < blks.length
    · have hsx := hbk blks[j] (List.getElem_mem hlt)
      have hcl := cidB_len hsx.ht hsx.hd
      have hdq : bs.drop q = secB blks[j] ++ (blks.drop (j + 1)).flatMap secB := by rw [hq, ← List.drop_drop, hdp, sflat_split hlt, List.drop_left]
      have hlq := congrArg List.length hdq
      rw [List.length_drop, List.length_append] at hlq
      have hfs : ((blks.take (j + 1)).flatMap secB).length = ((blks.take j).flatMap secB).length + (secB blks[j]).length := by rw [sflat_succ hlt, List.length_append]
      have hgs : genE p0 (blks.take (j + 1)) = genE p0 (blks.take j) ++ [{ blks[j].1 with o := (q : Nat) }] := by rw [List.take_succ_eq_append_getElem hlt, genE_snoc, hq]
      have hks := keepE_snoc ib (genE p0 (blks.take j)) { blks[j].1 with o := (q : Nat) }
      rw [← hgs] at hks
      have hkl : (keepE ib (genE p0 (blks.take j))).length ≤ 1000 := by
        have h1 := List.length_filter_le (fun x : En => ib || decide (x.h ≠ 0)) (genE p0 (blks.take j))
        rw [genE_len, List.length_take] at h1
        simp only [keepE]
        omega
      generalize blks[j] = bj at *
      obtain ⟨x, dat⟩ := bj
      simp only at hsx hcl hks
      have hseq : secB (x, dat) = uv ((cidB x).length + dat.length) ++ (cidB x ++ dat) := rfl
      have hslen : (secB (x, dat)).length = (uv ((cidB x).length + dat.length)).length + ((cidB x).length + dat.length) := by rw [hseq]; simp
      obtain ⟨L, hL0⟩ : ∃ L, L = (cidB x).length + dat.length := ⟨_, rfl⟩
      rw [← hL0] at hseq hslen
      have hup := uv_pos L
      have h1b : bs.drop q = uv L ++ (cidB x ++ (dat ++ (blks.drop (j + 1)).flatMap secB)) := by rw [hdq, hseq]; simp
      have h2b : bs.drop (q + (uv L).length) = cidB x ++ (dat ++ (blks.drop (j + 1)).flatMap secB) := by rw [← List.drop_drop, h1b, List.drop_left]
      refine oL (lC (readU_is (x := L) (rdB (gr := gr) (cap := cap) (i := q) hD hn (by omega)) (by omega) h1b) rfl (.cons (.tail .head) .nil)) ?_
      rintro ⟨r, H'⟩ ⟨rfl, rfl⟩
      refine o_perm (.swap _ _ _) ?_
      simp only [List.cons_append, List.nil_append]
      refine gn 24 ?_
      refine c_ifp rfl (fun h => absurd h (by omega)) (fun _ => ?_)
      refine gn 5 ?_
      refine oL (lC (cidR_is (crdR (gr := gr) (i := q + (uv L).length) hD hn hc h63 (by omega)) h2b hsx.ht hsx.hf hsx.hd) rfl (.cons (.tail .head) .nil)) ?_
      rintro ⟨r, H'⟩ ⟨rfl, rfl⟩
      refine o_perm (.swap _ _ _) ?_
      simp only [List.cons_append, List.nil_append]
      refine gn 4 ?_
      refine oZ ?_; intro g22 _
      refine gn 1 ?_
      refine oL (l_storea sizeOf111 rfl rfl rfl (by simp [Value.oneCell']) aU (.take .done) nofrs0) ?_
      intro _ _
      refine gn 14 ?_
      refine c_cut (X := Value × HP) (fun y => [(0, .iface tv v), (7, .pointer (some ⟨g7, 0, none⟩)), (8, RV gr), (11, .int .i64 0), (12, .int .i64 0), (18, y.1), (19, .int .u64 L), (21, .int .i64 (cidB x).length)]) (fun y => (g7, C (OpL (.int .u64 a6) (.int .u64 a7) (.int .u64 (if cd = 0 then 1025 else cd)) (.bool b0) (.int .u64 2048) (.bool ib) (.bool b2) (.bool b3) (.int .u64 9223372036854775807) (.bool b4) (.bool b5) (.int .u64 33554432) (.int .u64 8388608)) 187) :: (gr, RB gs n cap (q + (uv L).length + (cidB x).length)) :: (y.2 ++ HI)) (fun y => Osl 184 2 y.1 (keepE ib (genE p0 (blks.take (j + 1)))).length ((keepE ib (genE p0 (blks.take (j + 1)))).flatMap recV) y.2) ?_ ?_
      · have hA : ∀ s2 HS2, Osl 184 2 s2 ((keepE ib (genE p0 (blks.take j))).length + 1) ((keepE ib (genE p0 (blks.take j))).flatMap recV ++ [S (cidB x), .int .u64 (q : Nat)]) HS2 → Osl 184 2 s2 (keepE ib (genE p0 (blks.take j)) ++ [{ x with o := (q : Nat) }]).length ((keepE ib (genE p0 (blks.take j)) ++ [{ x with o := (q : Nat) }]).flatMap recV) HS2 := fun s2 HS2 h => by
          rw [List.length_append, List.flatMap_append, List.flatMap_cons, List.flatMap_nil, List.append_nil]
          exact h
        refine gn 5 ?_
        refine o_split 139 rfl (fun hib => ?_) (fun hib => ?_)
        · refine gn 18 ?_
          refine c_ifp rfl (fun h => absurd h (by omega)) (fun _ => ?_)
          refine gn 7 ?_
          refine oX (eB [S (cidB x), .int .u64 (q : Nat)]) ?_
          refine oL (l_bs (l := [S (cidB x), .int .u64 (q : Nat)]) runUnderlying182 sizeOf184 zeroValue184 rfl rfl rfl rfl (by kernel_rfl)) ?_
          intro g162 _
          refine oL (l_append (sz := 2) (m := 1) (news := [S (cidB x), .int .u64 (q : Nat)]) underlying182 (info_of typeInfo184) rfl rfl rfl rfl rfl rfl ho (perm_mid [_, _, _, _] HS HI) (.blk underlying182 (.inl (.head _)) (.take (.take .done)) (by simp [Value.oneCell'])) (by show _ * 24 ≤ _; omega) (by omega)) ?_
          rintro ⟨s2, HS2⟩ ho2
          simp only at ho2 ⊢
          refine gn 2 ?_
          exact n_cut' (s2, HS2) (by show Osl 184 2 s2 _ _ HS2; rw [hks, if_pos (by rw [hib]; rfl)]; exact hA _ _ ho2) aK (perm_mid HS2 [_, _, _, _] HI) (.cons _ (.cons _ (List.Sublist.refl _)))
        · skip
          refine gn 1 ?_
          refine oL (lC (prefix_is hsx.ht hsx.hf hsx.hd) rfl .nil) ?_
          rintro ⟨r, H'⟩ ⟨rfl, rfl⟩
          simp only [List.nil_append]
          refine oX (e_field runUnderlying173 rfl isAgg23 rfl rfl) ?_
          refine gn 4 ?_
          refine c_ifp rfl (fun hx0 => ?_) (fun hx0 => ?_)
          · refine gn 10 ?_
            refine c_ifp rfl (fun h => absurd h (by omega)) (fun _ => ?_)
            refine gn 7 ?_
            refine oX (eB [S (cidB x), .int .u64 (q : Nat)]) ?_
            refine oL (l_bs (l := [S (cidB x), .int .u64 (q : Nat)]) runUnderlying182 sizeOf184 zeroValue184 rfl rfl rfl rfl (by kernel_rfl)) ?_
            intro g162 _
            refine oL (l_append (sz := 2) (m := 1) (news := [S (cidB x), .int .u64 (q : Nat)]) underlying182 (info_of typeInfo184) rfl rfl rfl rfl rfl rfl ho (perm_mid [_, _, _, _] HS HI) (.blk underlying182 (.inl (.head _)) (.take (.take .done)) (by simp [Value.oneCell'])) (by show _ * 24 ≤ _; omega) (by omega)) ?_
            rintro ⟨s2, HS2⟩ ho2
            simp only at ho2 ⊢
            refine gn 2 ?_
            exact n_cut' (s2, HS2) (by show Osl 184 2 s2 _ _ HS2; rw [hks, if_pos (by rw [hib]; simpa using hx0)]; exact hA _ _ ho2) aK (perm_mid HS2 [_, _, _, _] HI) (.cons _ (.cons _ (List.Sublist.refl _)))
          · skip
            refine gn 1 ?_
            exact n_cut' (sv, HS) (by show Osl 184 2 sv _ _ HS; rw [hks, if_neg (by rw [hib]; simpa using hx0), List.append_nil]; exact ho) aK (.refl _) (.cons _ (List.Sublist.refl _))
      rintro ⟨s2, HS2⟩ ho2
      simp only at ho2 ⊢
      refine gn 15 ?_
      rw [show L - (cidB x).length = dat.length by omega]
      refine oL (lI (seekD_is (i := q + (uv L).length + (cidB x).length) (d := dat.length) (by omega)) rfl rfl (.cons (.tail .head) .nil)) ?_
      rintro ⟨r, H'⟩ ⟨rfl, rfl⟩
      refine o_perm (.swap _ _ _) ?_
      simp only [List.cons_append, List.nil_append]
      rw [show q + (uv L).length + (cidB x).length + dat.length = p0 + ((blks.take (j + 1)).flatMap secB).length by rw [hfs]; omega]
      refine gn 38 ?_
      exact n_round' (y := (j, sv, HS)) (j + 1, s2, HS2) (by show blks.length - (j + 1) < blks.length - j; omega) ⟨by show j + 1 ≤ blks.length; omega, ho2⟩ (sub_cons rfl (sub_cons rfl (sub_cons rfl (sub_cons rfl (sub_cons rfl (sub_cons (by show some (Value.int .i64 (((p0 + ((blks.take (j + 1)).flatMap secB).length : Nat) : Int) - 0)) = some _; simp) aK)))))) _ (.refl _) (List.Sublist.refl _)
    · skip
      obtain rfl : j = blks.length := by omega
      rw [List.take_length] at hq ho
      rw [← hnp] at hq
      rw [hq]
      refine oL (lC (readU_end hE) rfl (.cons (.tail .head) .nil)) ?_
      rintro ⟨r, H'⟩ ⟨rfl, rfl⟩
      refine o_perm (.swap _ _ _) ?_
      simp only [List.cons_append, List.nil_append]
      refine gn 20 ?_
      refine oX (e_ieq_same runUnderlying80 (typeInfo260) rfl (runUnderlying260) (sizeOf262) (by decide) rfl rfl) ?_
      refine gn 9 ?_
      exact n_cut' (sv, HS) ho aK (.refl _) (.cons _ (List.Sublist.refl _))
  rintro ⟨sv, HS⟩ ho
  simp only at ho ⊢
  refine gn 6 ?_
  refine oL (l_calli0 hL.hf hL.hm (hL.hc _ _ ho) rfl rfl rfl (Sel.appR [_] (HS ++ HI))) ?_
  rintro ⟨r, H'⟩ ⟨rfl, hR⟩
  refine o_perm List.perm_append_comm ?_
  simp only [List.cons_append, List.nil_append]
  refine gn 18 ?_
  refine r_fn1 results95 rfl ?_
  exact ⟨rfl, H', hR, rfl⟩
end
end Go.Proofs
