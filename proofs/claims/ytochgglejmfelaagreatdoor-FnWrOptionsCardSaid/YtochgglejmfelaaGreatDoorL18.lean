/- A header decoded; A header decoded, whole; A header read; The options of a call; An identifier's prefix; an identifier taken apart. (A part of the proof of this: for every input laws.FnWrOptions returns true and its arguments read as they did, the listed package variables being what the program lays) -/
import Derived.Test.YtochgglejmfelaaGreatDoorLSlZ
import Derived.Test.YtochgglejmfelaaGreatDoorL17
import Derived.Test.YtochgglejmfelaaGreatDoorL04
import Derived.Test.YtochgglejmfelaaGreatDoorL03
import Derived.Test.YtochgglejmfelaaGreatDoorL06
import Derived.Test.YtochgglejmfelaaGreatDoorL15
set_option linter.unusedVariables false
set_option linter.unusedSimpArgs false
namespace Go.Sl
open Go
section
variable {x : Cx} {ops : Array Oper} {k : List KI} {s : Slots} {H H' : HP}
/-- One of three comes up. -/
theorem d_l3 (i j m : Nat) {o o' o'' : Oper} {HS : HP} {fuel : Nat} {listed : Array Bool} {Y Y' Y'' : Type} {s1 : Y → Slots} {J : Y → HP} {A : Y → Prop} {s2 : Y' → Slots} {J' : Y' → HP} {A' : Y' → Prop} {s3 : Y'' → Slots} {J'' : Y'' → HP} {A'' : Y'' → Prop} (hr : Region.ready .any ops listed = [i, j, m]) (hi : ops[i]? = some o) (hj : ops[j]? = some o') (hm : ops[m]? = some o'') (hw : wantS ops s o = some true) (hw' : wantS ops s o' = some true) (hw'' : wantS ops s o'' = some true)
    (hl : Lo x s H o s1 J A) (hl' : Lo x s H o' s2 J' A') (hl'' : Lo x s H o'' s3 J'' A'') (hHS : ∀ y, A y → ∀ p ∈ HS, p ∈ J y) (hHS' : ∀ y, A' y → ∀ p ∈ HS, p ∈ J' y) (hHS'' : ∀ y, A'' y → ∀ p ∈ HS, p ∈ J'' y)
    (h : ∀ y, A y → DO x ops k HS fuel (listed.setIfInBounds i true) (s1 y) (J y)) (h' : ∀ y, A' y → DO x ops k HS fuel (listed.setIfInBounds j true) (s2 y) (J' y)) (h'' : ∀ y, A'' y → DO x ops k HS fuel (listed.setIfInBounds m true) (s3 y) (J'' y)) : DO x ops k HS (fuel + 1) listed s H := fun a w hs hS =>
  wpAnyH_all hr (by simp) fun n hn => by
    rcases List.mem_cons.1 hn with rfl | hn
    · exact d_op hi hw hl hHS h hs hS
    · rcases List.mem_cons.1 hn with rfl | hn
      · exact d_op hj hw' hl' hHS' h' hs hS
      · obtain rfl := List.mem_singleton.1 hn
        exact d_op hm hw'' hl'' hHS'' h'' hs hS
end
end Go.Sl
namespace Go.Proofs
open Go Go.Sl Tryz
set_option maxRecDepth 100000
set_option maxHeartbeats 1000000
section
variable {G HB : HP} {ga gd gS gL gr gs gq gt gh ns nl n cap i k m lo hi base : Nat} {a b l0 l1 : Int} {bs tl : List UInt8} {rest pl : List Value} {xs : List En} {e : TypeId} {gE : Addr} {t3 : List Value} {e3 : TypeId} {f3 : Nat × Nat} {v0 ver : Value}
theorem nRd_is : Ctr prog 202 [RV gr] G [] (fun r H' => ∃ ga gq, r = .iface 360 (.pointer (some ⟨ga, 0, none⟩)) ∧ H' = [(ga, C (SkL (.iface 361 (.pointer (some ⟨gq, 0, none⟩))) (List.replicate 32 (.int .u8 0)) (.int .i64 0) (.slice none 0 0) (.bool false)) 368), (gq, C [RV gr, .int .u8 0, .int .u8 0, .int .u8 0] 363)]) := by
  refine fn_enter 10 func202 rfl ntmps202 rfl ?_
  intro w0
  refine gn 8 ?_
  refine oX (eB [RV gr, .int .u8 0, .int .u8 0, .int .u8 0]) ?_
  refine oB ?_; intro g5 _
  refine gn 1 ?_
  refine oX (eB (SkL (.iface 361 (.pointer (some ⟨g5, 0, none⟩))) (List.replicate 32 (.int .u8 0)) (.int .i64 0) (.slice none 0 0) (.bool false))) ?_
  refine oB ?_; intro g8 _
  refine gn 5 ?_
  refine r_fn1 results202 rfl ?_
  exact ⟨_, _, rfl, rfl⟩
theorem nDec_is : Ctr prog 153 [.agg #[.bool true, .bool false, .int .i64 0, .bool false, .bool false, .bool false, .bool false], RV gr] G [] (fun r H' => ∃ gd ga gq gS gL, r = .pointer (some ⟨gd, 0, none⟩) ∧ H' = [(gd, DcO ga gS gL 0 0 0), (gS, StO 0 0), (gL, LfO 0 0), (ga, C (SkL (.iface 361 (.pointer (some ⟨gq, 0, none⟩))) (List.replicate 32 (.int .u8 0)) (.int .i64 0) (.slice none 0 0) (.bool false)) 368), (gq, C [RV gr, .int .u8 0, .int .u8 0, .int .u8 0] 363)]) := by
  refine fn_enter 15 func153 rfl ntmps153 rfl ?_
  intro w0
  refine gn 2 ?_
  refine oB ?_; intro g2 _
  refine gn 4 ?_
  refine c_regiond ([(g2, C [.bool true, .bool false, .int .i64 0, .bool false, .bool false, .bool false, .bool false] 251)]) (by kernel_rfl) (by first | exact List.Sublist.refl _ | exact List.nil_sublist _ | (repeat constructor)) ?_
  refine ld [0, 1] ?_
  refine d_l3 2 3 4 (by kernel_rfl) rfl rfl rfl rfl rfl rfl (l_call call202 nRd_is rfl rfl .nil) (l_mks (l := List.replicate 10 (.int .u8 0)) underlying335 (info_of typeInfo336) rfl rfl rfl rfl (by decide) (by decide) (by decide) (by decide) (made_one (.int .u8 0) 10 rfl)) (l_mks (l := List.replicate 10 (.int .i64 0)) underlying99 (info_of typeInfo3) rfl rfl rfl rfl (by decide) (by decide) (by decide) (by decide) (made_one (.int .i64 0) 10 rfl)) aH aH aH ?_ ?_ ?_
  · skip
    rintro ⟨r, H'⟩ ⟨ga, gq, rfl, rfl⟩
    simp only [List.cons_append, List.nil_append]
    refine d_l2 3 4 (by kernel_rfl) rfl rfl rfl rfl (l_mks (l := List.replicate 10 (.int .u8 0)) underlying335 (info_of typeInfo336) rfl rfl rfl rfl (by decide) (by decide) (by decide) (by decide) (made_one (.int .u8 0) 10 rfl)) (l_mks (l := List.replicate 10 (.int .i64 0)) underlying99 (info_of typeInfo3) rfl rfl rfl rfl (by decide) (by decide) (by decide) (by decide) (made_one (.int .i64 0) 10 rfl)) aH aH ?_ ?_
    · skip
      intro gS _
      refine dL 4 rfl (l_mks (l := List.replicate 10 (.int .i64 0)) underlying99 (info_of typeInfo3) rfl rfl rfl rfl (by decide) (by decide) (by decide) (by decide) (made_one (.int .i64 0) 10 rfl)) ?_
      intro gL _
      refine dX 5 rfl (eB [.bool true, .bool false, .int .i64 0, .bool false, .bool false, .bool false, .bool false, .iface 360 (.pointer (some ⟨ga, 0, none⟩)), .slice (some ⟨gS, 0, none⟩) 0 10, .int .u8 0, .slice (some ⟨gL, 0, none⟩) 0 10]) ?_
      refine dB 6 ?_
      intro g11 _
      refine ld [7] ?_
      refine gn 7 ?_
      refine oT ?_; intro _ _
      refine gn 3 ?_
      refine WR.sel (H1 := [(g11, DcO ga gS gL 0 0 0), (gS, StO 0 0), (gL, LfO 0 0), (ga, C (SkL (.iface 361 (.pointer (some ⟨gq, 0, none⟩))) (List.replicate 32 (.int .u8 0)) (.int .i64 0) (.slice none 0 0) (.bool false)) 368), (gq, C [RV gr, .int .u8 0, .int .u8 0, .int .u8 0] 363)]) (.cons (by first | exact .head | exact .tail .head | exact .tail (.tail .head) | exact .tail (.tail (.tail .head)) | exact .tail (.tail (.tail (.tail .head))) | exact .tail (.tail (.tail (.tail (.tail .head))))) (.cons (by first | exact .head | exact .tail .head | exact .tail (.tail .head) | exact .tail (.tail (.tail .head)) | exact .tail (.tail (.tail (.tail .head))) | exact .tail (.tail (.tail (.tail (.tail .head))))) (.cons (by first | exact .head | exact .tail .head | exact .tail (.tail .head) | exact .tail (.tail (.tail .head)) | exact .tail (.tail (.tail (.tail .head))) | exact .tail (.tail (.tail (.tail (.tail .head))))) (.cons (by first | exact .head | exact .tail .head | exact .tail (.tail .head) | exact .tail (.tail (.tail .head)) | exact .tail (.tail (.tail (.tail .head))) | exact .tail (.tail (.tail (.tail (.tail .head))))) (.cons (by first | exact .head | exact .tail .head | exact .tail (.tail .head) | exact .tail (.tail (.tail .head)) | exact .tail (.tail (.tail (.tail .head))) | exact .tail (.tail (.tail (.tail (.tail .head))))) .nil))))) ?_
      refine r_fn1 results153 rfl ?_
      exact ⟨_, _, _, _, _, rfl, rfl⟩
    · skip
      intro gL _
      refine dL 3 rfl (l_mks (l := List.replicate 10 (.int .u8 0)) underlying335 (info_of typeInfo336) rfl rfl rfl rfl (by decide) (by decide) (by decide) (by decide) (made_one (.int .u8 0) 10 rfl)) ?_
      intro gS _
      refine dX 5 rfl (eB [.bool true, .bool false, .int .i64 0, .bool false, .bool false, .bool false, .bool false, .iface 360 (.pointer (some ⟨ga, 0, none⟩)), .slice (some ⟨gS, 0, none⟩) 0 10, .int .u8 0, .slice (some ⟨gL, 0, none⟩) 0 10]) ?_
      refine dB 6 ?_
      intro g11 _
      refine ld [7] ?_
      refine gn 7 ?_
      refine oT ?_; intro _ _
      refine gn 3 ?_
      refine WR.sel (H1 := [(g11, DcO ga gS gL 0 0 0), (gS, StO 0 0), (gL, LfO 0 0), (ga, C (SkL (.iface 361 (.pointer (some ⟨gq, 0, none⟩))) (List.replicate 32 (.int .u8 0)) (.int .i64 0) (.slice none 0 0) (.bool false)) 368), (gq, C [RV gr, .int .u8 0, .int .u8 0, .int .u8 0] 363)]) (.cons (by first | exact .head | exact .tail .head | exact .tail (.tail .head) | exact .tail (.tail (.tail .head)) | exact .tail (.tail (.tail (.tail .head))) | exact .tail (.tail (.tail (.tail (.tail .head))))) (.cons (by first | exact .head | exact .tail .head | exact .tail (.tail .head) | exact .tail (.tail (.tail .head)) | exact .tail (.tail (.tail (.tail .head))) | exact .tail (.tail (.tail (.tail (.tail .head))))) (.cons (by first | exact .head | exact .tail .head | exact .tail (.tail .head) | exact .tail (.tail (.tail .head)) | exact .tail (.tail (.tail (.tail .head))) | exact .tail (.tail (.tail (.tail (.tail .head))))) (.cons (by first | exact .head | exact .tail .head | exact .tail (.tail .head) | exact .tail (.tail (.tail .head)) | exact .tail (.tail (.tail (.tail .head))) | exact .tail (.tail (.tail (.tail (.tail .head))))) (.cons (by first | exact .head | exact .tail .head | exact .tail (.tail .head) | exact .tail (.tail (.tail .head)) | exact .tail (.tail (.tail (.tail .head))) | exact .tail (.tail (.tail (.tail (.tail .head))))) .nil))))) ?_
      refine r_fn1 results153 rfl ?_
      exact ⟨_, _, _, _, _, rfl, rfl⟩
  · skip
    intro gS _
    refine d_l2 2 4 (by kernel_rfl) rfl rfl rfl rfl (l_call call202 nRd_is rfl rfl .nil) (l_mks (l := List.replicate 10 (.int .i64 0)) underlying99 (info_of typeInfo3) rfl rfl rfl rfl (by decide) (by decide) (by decide) (by decide) (made_one (.int .i64 0) 10 rfl)) aH aH ?_ ?_
    · skip
      rintro ⟨r, H'⟩ ⟨ga, gq, rfl, rfl⟩
      simp only [List.cons_append, List.nil_append]
      refine dL 4 rfl (l_mks (l := List.replicate 10 (.int .i64 0)) underlying99 (info_of typeInfo3) rfl rfl rfl rfl (by decide) (by decide) (by decide) (by decide) (made_one (.int .i64 0) 10 rfl)) ?_
      intro gL _
      refine dX 5 rfl (eB [.bool true, .bool false, .int .i64 0, .bool false, .bool false, .bool false, .bool false, .iface 360 (.pointer (some ⟨ga, 0, none⟩)), .slice (some ⟨gS, 0, none⟩) 0 10, .int .u8 0, .slice (some ⟨gL, 0, none⟩) 0 10]) ?_
      refine dB 6 ?_
      intro g11 _
      refine ld [7] ?_
      refine gn 7 ?_
      refine oT ?_; intro _ _
      refine gn 3 ?_
      refine WR.sel (H1 := [(g11, DcO ga gS gL 0 0 0), (gS, StO 0 0), (gL, LfO 0 0), (ga, C (SkL (.iface 361 (.pointer (some ⟨gq, 0, none⟩))) (List.replicate 32 (.int .u8 0)) (.int .i64 0) (.slice none 0 0) (.bool false)) 368), (gq, C [RV gr, .int .u8 0, .int .u8 0, .int .u8 0] 363)]) (.cons (by first | exact .head | exact .tail .head | exact .tail (.tail .head) | exact .tail (.tail (.tail .head)) | exact .tail (.tail (.tail (.tail .head))) | exact .tail (.tail (.tail (.tail (.tail .head))))) (.cons (by first | exact .head | exact .tail .head | exact .tail (.tail .head) | exact .tail (.tail (.tail .head)) | exact .tail (.tail (.tail (.tail .head))) | exact .tail (.tail (.tail (.tail (.tail .head))))) (.cons (by first | exact .head | exact .tail .head | exact .tail (.tail .head) | exact .tail (.tail (.tail .head)) | exact .tail (.tail (.tail (.tail .head))) | exact .tail (.tail (.tail (.tail (.tail .head))))) (.cons (by first | exact .head | exact .tail .head | exact .tail (.tail .head) | exact .tail (.tail (.tail .head)) | exact .tail (.tail (.tail (.tail .head))) | exact .tail (.tail (.tail (.tail (.tail .head))))) (.cons (by first | exact .head | exact .tail .head | exact .tail (.tail .head) | exact .tail (.tail (.tail .head)) | exact .tail (.tail (.tail (.tail .head))) | exact .tail (.tail (.tail (.tail (.tail .head))))) .nil))))) ?_
      refine r_fn1 results153 rfl ?_
      exact ⟨_, _, _, _, _, rfl, rfl⟩
    · skip
      intro gL _
      refine dL 2 rfl (lC nRd_is rfl .nil) ?_
      rintro ⟨r, H'⟩ ⟨ga, gq, rfl, rfl⟩
      simp only [List.cons_append, List.nil_append]
      refine dX 5 rfl (eB [.bool true, .bool false, .int .i64 0, .bool false, .bool false, .bool false, .bool false, .iface 360 (.pointer (some ⟨ga, 0, none⟩)), .slice (some ⟨gS, 0, none⟩) 0 10, .int .u8 0, .slice (some ⟨gL, 0, none⟩) 0 10]) ?_
      refine dB 6 ?_
      intro g11 _
      refine ld [7] ?_
      refine gn 7 ?_
      refine oT ?_; intro _ _
      refine gn 3 ?_
      refine WR.sel (H1 := [(g11, DcO ga gS gL 0 0 0), (gS, StO 0 0), (gL, LfO 0 0), (ga, C (SkL (.iface 361 (.pointer (some ⟨gq, 0, none⟩))) (List.replicate 32 (.int .u8 0)) (.int .i64 0) (.slice none 0 0) (.bool false)) 368), (gq, C [RV gr, .int .u8 0, .int .u8 0, .int .u8 0] 363)]) (.cons (by first | exact .head | exact .tail .head | exact .tail (.tail .head) | exact .tail (.tail (.tail .head)) | exact .tail (.tail (.tail (.tail .head))) | exact .tail (.tail (.tail (.tail (.tail .head))))) (.cons (by first | exact .head | exact .tail .head | exact .tail (.tail .head) | exact .tail (.tail (.tail .head)) | exact .tail (.tail (.tail (.tail .head))) | exact .tail (.tail (.tail (.tail (.tail .head))))) (.cons (by first | exact .head | exact .tail .head | exact .tail (.tail .head) | exact .tail (.tail (.tail .head)) | exact .tail (.tail (.tail (.tail .head))) | exact .tail (.tail (.tail (.tail (.tail .head))))) (.cons (by first | exact .head | exact .tail .head | exact .tail (.tail .head) | exact .tail (.tail (.tail .head)) | exact .tail (.tail (.tail (.tail .head))) | exact .tail (.tail (.tail (.tail (.tail .head))))) (.cons (by first | exact .head | exact .tail .head | exact .tail (.tail .head) | exact .tail (.tail (.tail .head)) | exact .tail (.tail (.tail (.tail .head))) | exact .tail (.tail (.tail (.tail (.tail .head))))) .nil))))) ?_
      refine r_fn1 results153 rfl ?_
      exact ⟨_, _, _, _, _, rfl, rfl⟩
  · skip
    intro gL _
    refine d_l2 2 3 (by kernel_rfl) rfl rfl rfl rfl (l_call call202 nRd_is rfl rfl .nil) (l_mks (l := List.replicate 10 (.int .u8 0)) underlying335 (info_of typeInfo336) rfl rfl rfl rfl (by decide) (by decide) (by decide) (by decide) (made_one (.int .u8 0) 10 rfl)) aH aH ?_ ?_
    · skip
      rintro ⟨r, H'⟩ ⟨ga, gq, rfl, rfl⟩
      simp only [List.cons_append, List.nil_append]
      refine dL 3 rfl (l_mks (l := List.replicate 10 (.int .u8 0)) underlying335 (info_of typeInfo336) rfl rfl rfl rfl (by decide) (by decide) (by decide) (by decide) (made_one (.int .u8 0) 10 rfl)) ?_
      intro gS _
      refine dX 5 rfl (eB [.bool true, .bool false, .int .i64 0, .bool false, .bool false, .bool false, .bool false, .iface 360 (.pointer (some ⟨ga, 0, none⟩)), .slice (some ⟨gS, 0, none⟩) 0 10, .int .u8 0, .slice (some ⟨gL, 0, none⟩) 0 10]) ?_
      refine dB 6 ?_
      intro g11 _
      refine ld [7] ?_
      refine gn 7 ?_
      refine oT ?_; intro _ _
      refine gn 3 ?_
      refine WR.sel (H1 := [(g11, DcO ga gS gL 0 0 0), (gS, StO 0 0), (gL, LfO 0 0), (ga, C (SkL (.iface 361 (.pointer (some ⟨gq, 0, none⟩))) (List.replicate 32 (.int .u8 0)) (.int .i64 0) (.slice none 0 0) (.bool false)) 368), (gq, C [RV gr, .int .u8 0, .int .u8 0, .int .u8 0] 363)]) (.cons (by first | exact .head | exact .tail .head | exact .tail (.tail .head) | exact .tail (.tail (.tail .head)) | exact .tail (.tail (.tail (.tail .head))) | exact .tail (.tail (.tail (.tail (.tail .head))))) (.cons (by first | exact .head | exact .tail .head | exact .tail (.tail .head) | exact .tail (.tail (.tail .head)) | exact .tail (.tail (.tail (.tail .head))) | exact .tail (.tail (.tail (.tail (.tail .head))))) (.cons (by first | exact .head | exact .tail .head | exact .tail (.tail .head) | exact .tail (.tail (.tail .head)) | exact .tail (.tail (.tail (.tail .head))) | exact .tail (.tail (.tail (.tail (.tail .head))))) (.cons (by first | exact .head | exact .tail .head | exact .tail (.tail .head) | exact .tail (.tail (.tail .head)) | exact .tail (.tail (.tail (.tail .head))) | exact .tail (.tail (.tail (.tail (.tail .head))))) (.cons (by first | exact .head | exact .tail .head | exact .tail (.tail .head) | exact .tail (.tail (.tail .head)) | exact .tail (.tail (.tail (.tail .head))) | exact .tail (.tail (.tail (.tail (.tail .head))))) .nil))))) ?_
      refine r_fn1 results153 rfl ?_
      exact ⟨_, _, _, _, _, rfl, rfl⟩
    · skip
      intro gS _
      refine dL 2 rfl (lC nRd_is rfl .nil) ?_
      rintro ⟨r, H'⟩ ⟨ga, gq, rfl, rfl⟩
      simp only [List.cons_append, List.nil_append]
      refine dX 5 rfl (eB [.bool true, .bool false, .int .i64 0, .bool false, .bool false, .bool false, .bool false, .iface 360 (.pointer (some ⟨ga, 0, none⟩)), .slice (some ⟨gS, 0, none⟩) 0 10, .int .u8 0, .slice (some ⟨gL, 0, none⟩) 0 10]) ?_
      refine dB 6 ?_
      intro g11 _
      refine ld [7] ?_
      refine gn 7 ?_
      refine oT ?_; intro _ _
      refine gn 3 ?_
      refine WR.sel (H1 := [(g11, DcO ga gS gL 0 0 0), (gS, StO 0 0), (gL, LfO 0 0), (ga, C (SkL (.iface 361 (.pointer (some ⟨gq, 0, none⟩))) (List.replicate 32 (.int .u8 0)) (.int .i64 0) (.slice none 0 0) (.bool false)) 368), (gq, C [RV gr, .int .u8 0, .int .u8 0, .int .u8 0] 363)]) (.cons (by first | exact .head | exact .tail .head | exact .tail (.tail .head) | exact .tail (.tail (.tail .head)) | exact .tail (.tail (.tail (.tail .head))) | exact .tail (.tail (.tail (.tail (.tail .head))))) (.cons (by first | exact .head | exact .tail .head | exact .tail (.tail .head) | exact .tail (.tail (.tail .head)) | exact .tail (.tail (.tail (.tail .head))) | exact .tail (.tail (.tail (.tail (.tail .head))))) (.cons (by first | exact .head | exact .tail .head | exact .tail (.tail .head) | exact .tail (.tail (.tail .head)) | exact .tail (.tail (.tail (.tail .head))) | exact .tail (.tail (.tail (.tail (.tail .head))))) (.cons (by first | exact .head | exact .tail .head | exact .tail (.tail .head) | exact .tail (.tail (.tail .head)) | exact .tail (.tail (.tail (.tail .head))) | exact .tail (.tail (.tail (.tail (.tail .head))))) (.cons (by first | exact .head | exact .tail .head | exact .tail (.tail .head) | exact .tail (.tail (.tail .head)) | exact .tail (.tail (.tail (.tail .head))) | exact .tail (.tail (.tail (.tail (.tail .head))))) .nil))))) ?_
      refine r_fn1 results153 rfl ?_
      exact ⟨_, _, _, _, _, rfl, rfl⟩
end
end Go.Proofs
namespace Go.Proofs
open Go Go.Sl Tryz
set_option maxRecDepth 100000
set_option maxHeartbeats 1000000
def rootsT : List UInt8 := [114, 111, 111, 116, 115]
def versT : List UInt8 := [118, 101, 114, 115, 105, 111, 110]
/-- A header's bytes behind their length. -/
def headB (xs : List En) : List UInt8 := 162 :: 101 :: (rootsT ++ (hdB 128 xs.length ++ (xs.flatMap linkB ++ (103 :: (versT ++ [1])))))
theorem _root_.Go.Sl.Osl.shape {e : TypeId} {sz n : Nat} {v : Value} {l : List Value} {H : HP} (h : Osl e sz v n l H) : ∃ A c, v = .slice A n c := by
  cases h with
  | nil => exact ⟨_, _, rfl⟩
  | own => exact ⟨_, _, rfl⟩
theorem perm3 (t a b : Nat × Obj) (R : HP) : ((a :: b :: R) ++ [t]).Perm (b :: a :: t :: R) :=
  (List.perm_append_comm (l₁ := a :: b :: R)).trans (show (t :: a :: b :: R).Perm _ from ((List.Perm.swap a t _).trans ((List.Perm.swap b t R).cons a)).trans (List.Perm.swap b a _))
section
variable {G HB : HP} {ga gd gS gL gr gs gq gt gh ns nl n cap i k m lo hi base : Nat} {a b l0 l1 : Int} {bs tl : List UInt8} {rest pl : List Value} {xs : List En} {e : TypeId} {gE : Addr} {t3 : List Value} {e3 : TypeId} {f3 : Nat × Nat} {v0 ver : Value}
theorem decH_is (hD : (gs, DB bs rest lo hi) ∈ G) (hE : (3, Obj.cells (EV gE :: t3).toArray e3 f3) ∈ G) (hn : bs.length = n) (hc : n ≤ cap) (h63 : cap < 9223372036854775808)
    (hbs : bs = headB xs) (hN : xs.length ≤ 200) (hok : ∀ x ∈ xs, CidOk x) (h1v : v0.oneCell' = true) :
    Ctr prog 85 [.slice (some ⟨gs, 0, none⟩) n cap, .pointer (some ⟨gh, 0, none⟩)] G [(gh, C [v0, ver] 109)] (fun r H' => ∃ v HR, r = .nilIface ∧ Osl 111 1 v xs.length (xs.map fun x => S (cidB x)) HR ∧ H' = (gh, C [v, .int .u64 1] 109) :: HR) := by
  have e0 : bs[0]? = some 162 := by rw [hbs]; rfl
  have e1 : bs[1]? = some (UInt8.ofNat (96 + hx 5)) := by rw [hbs]; rfl
  have e2 : (bs.drop (1 + 1)).take 5 = rootsT := by rw [hbs]; rfl
  have e3' : bs.drop (1 + 1 + 5) = hdB 128 xs.length ++ (xs.flatMap linkB ++ (103 :: (versT ++ [1]))) := by rw [hbs]; rfl
  obtain ⟨p, hp⟩ : ∃ p, p = 1 + 1 + 5 + (hdB 128 xs.length).length + (xs.flatMap linkB).length := ⟨_, rfl⟩
  have e4 : bs.drop p = 103 :: (versT ++ [1]) := by
    rw [hp, Nat.add_assoc (1 + 1 + 5), ← List.drop_drop, e3', ← List.append_assoc, ← List.length_append, List.drop_left]
  have hg : ∀ j, bs[p + j]? = (103 :: (versT ++ [1]))[j]? := fun j => by rw [← e4, List.getElem?_drop]
  have e5 : bs[p]? = some (UInt8.ofNat (96 + hx 7)) := hg 0
  have e6 : (bs.drop (p + 1)).take 7 = versT := by rw [← List.drop_drop, e4]; rfl
  have e7 : bs[p + 1 + 7]? = some 1 := hg 8
  have hnp : n = p + 9 := by
    have h1 := congrArg List.length e4
    rw [List.length_drop, hn] at h1
    have h2 : (103 :: (versT ++ [1])).length = 9 := rfl
    have : p ≤ n := by
      have h3 := (List.getElem?_eq_some_iff.1 e5).1
      omega
    omega
  have hlen7 : 7 ≤ n := by omega
  refine fn_enter 91 func85 rfl ntmps85 rfl ?_
  intro w0
  refine gn 7 ?_
  refine oX (eB [.bool true, .bool false, .int .i64 0, .bool false, .bool false, .bool false, .bool false]) ?_
  refine gn 1 ?_
  refine oL (lC newReader_is rfl .nil) ?_
  rintro ⟨r, H'⟩ ⟨gr, rfl, rfl⟩
  simp only [List.cons_append, List.nil_append]
  refine gn 1 ?_
  refine oL (lC nDec_is rfl .nil) ?_
  rintro ⟨r, H'⟩ ⟨gd, ga, gq, gS, gL, rfl, rfl⟩
  simp only [List.cons_append, List.nil_append]
  have hS0 : SkR ga gq gr gs n cap 0 [(ga, C (SkL (.iface 361 (.pointer (some ⟨gq, 0, none⟩))) (List.replicate 32 (.int .u8 0)) (.int .i64 0) (.slice none 0 0) (.bool false)) 368), (gq, C [RV gr, .int .u8 0, .int .u8 0, .int .u8 0] 363), (gr, RB gs n cap 0)] := .mk (by simp) (.inl rfl)
  refine o_perm (show List.Perm _ ((gh, C [v0, ver] 109) :: (gd, DcO ga gS gL 0 0 0) :: (gS, StO 0 0) :: (gL, LfO 0 0) :: [(ga, C (SkL (.iface 361 (.pointer (some ⟨gq, 0, none⟩))) (List.replicate 32 (.int .u8 0)) (.int .i64 0) (.slice none 0 0) (.bool false)) 368), (gq, C [RV gr, .int .u8 0, .int .u8 0, .int .u8 0] 363), (gr, RB gs n cap 0)]) from (List.perm_append_comm (l₁ := [_, _, _, _, _, _]) (l₂ := [_]))) ?_
  generalize [(ga, C (SkL (.iface 361 (.pointer (some ⟨gq, 0, none⟩))) (List.replicate 32 (.int .u8 0)) (.int .i64 0) (.slice none 0 0) (.bool false)) 368), (gq, C [RV gr, .int .u8 0, .int .u8 0, .int .u8 0] 363), (gr, RB gs n cap 0)] = HB0 at *
  refine gn 5 ?_
  refine oZ ?_; intro g6 _
  refine gn 5 ?_
  refine oL (lC (Ss1_is hS0 hD hE hn hc h63 e0) rfl (.cons (.tail (.tail .head)) (.cons .head (.cons (.tail .head) (.cons (.tail .head) (Sel.appR [_] HB0)))))) ?_
  rintro ⟨r, H'⟩ ⟨HB1, rfl, hS1, rfl⟩
  refine o_perm List.perm_append_comm ?_
  simp only [List.cons_append, List.nil_append]
  refine gn 41 ?_
  refine c_rounds 3 ?_
  refine gn 13 ?_
  refine oX (eB [.int .u8 0, .int .i64 0, S [], .slice none 0 0, .bool false, .int .i64 0, .int .u64 0, .float .f64 0, .bool false, .int .i64 0]) ?_
  refine oL (l_storea sizeOf255 rfl rfl rfl (by simp [Value.oneCell']) aU (.take (.take (.take (.take (.take (.take (.take (.take (.take (.take .done)))))))))) nofrs0) ?_
  intro _ _
  refine gn 6 ?_
  have hs2 := fun z0 z1 z2 z3 z4 z5 z6 z7 z8 z9 => Ss2_is (gd := gd) (gt := g6) (gS := gS) (gL := gL) (a := 0) (b := 0) (l1 := 0) (ty := z0) (ln := z1) (st := z2) (y := z3) (bo := z4) (it := z5) (ui := z6) (fl := z7) (tg := z8) (ta := z9) (m := 1) (k := 5) hS1 hD hE hn hc h63 (by decide) e1 (by decide) (by decide) (by omega)
  refine oL (lC (hs2 _ _ _ _ _ _ _ _ _ _) rfl (.cons (.tail .head) (.cons (.tail .head) (.cons (.tail .head) (.cons (.tail .head) (Sel.appR [_] HB1)))))) ?_
  rintro ⟨r, H'⟩ ⟨HB2, rfl, hS2, rfl⟩
  refine o_perm List.perm_append_comm ?_
  simp only [List.cons_append, List.nil_append]
  rw [e2]
  refine gn 58 ?_
  refine oL (lC (roots_is (v0 := v0) hS2 hD hE hn hc h63 e3' hN hok h1v) rfl (.cons (.tail .head) (.cons .head (.cons (.tail .head) (.cons (.tail .head) (Sel.appR [_] HB2)))))) ?_
  rintro ⟨r, H'⟩ ⟨v, HR, HB3, rfl, ho, hS3, rfl⟩
  refine o_perm (perm3 _ _ _ _) ?_
  simp only [List.cons_append, List.nil_append]
  have hS3' : SkR ga gq gr gs n cap p HB3 := by rw [hp]; exact hS3
  obtain ⟨gv, cv, rfl⟩ : ∃ A c, v = .slice A xs.length c := ho.shape
  refine gn 13 ?_
  refine n_rounds ?_
  refine gn 13 ?_
  refine oX (eB [.int .u8 0, .int .i64 0, S [], .slice none 0 0, .bool false, .int .i64 0, .int .u64 0, .float .f64 0, .bool false, .int .i64 0]) ?_
  refine oL (l_storea sizeOf255 rfl rfl rfl (by simp [Value.oneCell']) aU (.take (.take (.take (.take (.take (.take (.take (.take (.take (.take .done)))))))))) nofrs0) ?_
  intro _ _
  refine gn 6 ?_
  have hs2' := fun z0 z1 z2 z3 z4 z5 z6 z7 z8 z9 => Ss2_is (gd := gd) (gt := g6) (gS := gS) (gL := gL) (a := 0) (b := 5) (l1 := 0) (ty := z0) (ln := z1) (st := z2) (y := z3) (bo := z4) (it := z5) (ui := z6) (fl := z7) (tg := z8) (ta := z9) (m := 0) (k := 7) hS3' hD hE hn hc h63 (by decide) e5 (by decide) (by decide) (by omega)
  refine oL (lC (hs2' _ _ _ _ _ _ _ _ _ _) rfl (.cons (.tail .head) (.cons (.tail .head) (.cons (.tail .head) (.cons (.tail .head) (Sel.appR (_ :: HR) HB3)))))) ?_
  rintro ⟨r, H'⟩ ⟨HB4, rfl, hS4, rfl⟩
  refine o_perm (List.perm_append_comm.trans ((perm_mid HR [_, _, _, _] HB4).cons _)) ?_
  simp only [List.cons_append, List.nil_append]
  rw [e6]
  refine gn 42 ?_
  refine oX (eB [.int .u8 0, .int .i64 0, S [], .slice none 0 0, .bool false, .int .i64 0, .int .u64 0, .float .f64 0, .bool false, .int .i64 0]) ?_
  refine oL (l_storea sizeOf255 rfl rfl rfl (by simp [Value.oneCell']) aU (.take (.take (.take (.take (.take (.take (.take (.take (.take (.take .done)))))))))) nofrs0) ?_
  intro _ _
  refine gn 6 ?_
  refine oL (lC (Ss6_is hS4 hD hE hn hc h63 e7) rfl (.cons (.tail .head) (.cons (.tail .head) (.cons (.tail .head) (.cons (.tail .head) (Sel.appR (_ :: HR) HB4)))))) ?_
  rintro ⟨r, H'⟩ ⟨HB5, rfl, hS5, rfl⟩
  refine o_perm (List.perm_append_comm.trans ((perm_mid HR [_, _, _, _] HB5).cons _)) ?_
  simp only [List.cons_append, List.nil_append]
  refine gn 32 ?_
  refine oT ?_; intro _ _
  refine gn 3 ?_
  refine n_rounds ?_
  refine gn 13 ?_
  refine oX (eB [.int .u8 0, .int .i64 0, S [], .slice none 0 0, .bool false, .int .i64 0, .int .u64 0, .float .f64 0, .bool false, .int .i64 0]) ?_
  refine oL (l_storea sizeOf255 rfl rfl rfl (by simp [Value.oneCell']) aU (.take (.take (.take (.take (.take (.take (.take (.take (.take (.take .done)))))))))) nofrs0) ?_
  intro _ _
  refine gn 6 ?_
  refine oL (lC Ss7_is rfl (.cons (.tail .head) (.cons (.tail .head) (.cons (.tail .head) (.cons (.tail .head) (Sel.appR (_ :: HR) HB5)))))) ?_
  rintro ⟨r, H'⟩ ⟨rfl, rfl⟩
  refine o_perm (List.perm_append_comm.trans ((perm_mid HR [_, _, _, _] HB5).cons _)) ?_
  simp only [List.cons_append, List.nil_append]
  refine gn 32 ?_
  refine WR.sel (.cons .head (Sel.mid [_, _, _, _] HR _)) ?_
  refine r_fn1 results85 rfl ?_
  exact ⟨_, HR, rfl, ho, rfl⟩
end
end Go.Proofs
namespace Go.Proofs
open Go Go.Sl Tryz
set_option maxRecDepth 100000
set_option maxHeartbeats 1000000
/-- A header with its length ahead. -/
def hedB (xs : List En) : List UInt8 := uv (headB xs).length ++ headB xs
section
variable {G : HP} {gr gs n cap i L mx lo hi : Nat} {bs body tl : List UInt8} {rest : List Value} {xs : List En} {gE : Addr} {t3 : List Value} {e3 : TypeId} {f3 : Nat × Nat}
theorem ldSize_is (hD : (gs, DB bs rest lo hi) ∈ G) (hn : bs.length = n) (h63 : n < 9223372036854775808) (hbs : bs.drop i = uv L ++ tl) (hL : L ≤ mx) (hmx : mx < 9223372036854775808) :
    Ctr prog 87 [RV gr, .bool false, .int .u64 (mx : Nat)] G [(gr, RB gs n cap i)] (fun r H' => r = .tuple #[.int .u64 (L : Nat), .nilIface] ∧ H' = [(gr, RB gs n cap (i + (uv L).length))]) := by
  refine fn_enter 38 func87 rfl ntmps87 rfl ?_
  intro w0
  refine gn 9 ?_
  refine o_pure rfl call79 (toByte_is) rfl rfl ?_
  refine oL (lC (readU_is (x := L) (rdB (gr := gr) (cap := cap) (i := i) hD hn h63) (by omega) hbs) rfl (.cons .head .nil)) ?_
  rintro ⟨r, H'⟩ ⟨rfl, rfl⟩
  simp only [List.cons_append, List.nil_append]
  refine gn 20 ?_
  refine o_split 29 rfl (fun h1 => ?_) (fun h1 => ?_)
  · refine gn 15 ?_
    refine c_ifp rfl (fun h => absurd h (by omega)) (fun _ => ?_)
    refine gn 10 ?_
    refine r_fn (l := [.tmp 6, .tmp 7]) results87 rfl rfl ?_
    exact ⟨rfl, rfl⟩
  · skip
    refine gn 15 ?_
    refine c_ifp rfl (fun h => absurd h (by omega)) (fun _ => ?_)
    refine gn 10 ?_
    refine r_fn (l := [.tmp 6, .tmp 7]) results87 rfl rfl ?_
    exact ⟨rfl, rfl⟩
theorem ldRead_is (hD : (gs, DB bs rest lo hi) ∈ G) (hn : bs.length = n) (hc : n ≤ cap) (h63 : cap < 9223372036854775808) (hi' : i ≤ n) (hbs : bs.drop i = uv L ++ (body ++ tl)) (hbl : body.length = L) (hL0 : 0 < L) (hL : L ≤ mx) (hmx : mx < 9223372036854775808) (hn48 : n ≤ 281474976710656) :
    Ctr prog 84 [RV gr, .bool false, .int .u64 (mx : Nat)] G [(gr, RB gs n cap i)] (fun r H' => ∃ gb, r = .tuple #[.slice (some ⟨gb, 0, none⟩) L L, .nilIface] ∧ H' = [(gr, RB gs n cap (i + (uv L).length + L)), (gb, C (B body) 5)]) := by
  have hlen := congrArg List.length hbs
  rw [List.length_drop, List.length_append, List.length_append] at hlen
  have hbd : (bs.drop (i + (uv L).length)).take L = body := by rw [← List.drop_drop, hbs, List.drop_left, List.take_left' hbl]
  refine fn_enter 35 func84 rfl ntmps84 rfl ?_
  intro w0
  refine gn 11 ?_
  refine oL (lC (ldSize_is hD hn (by omega) hbs hL hmx) rfl (.cons .head .nil)) ?_
  rintro ⟨r, H'⟩ ⟨rfl, rfl⟩
  simp only [List.cons_append, List.nil_append]
  refine gn 20 ?_
  refine oL (l_mks (l := List.replicate L (.int .u8 0)) underlying72 (info_of typeInfo5) rfl rfl rfl rfl (by omega) (by omega) (by show (1 : Int) * _ ≤ _; omega) (by omega) (made_one (.int .u8 0) L rfl)) ?_
  intro gb _
  refine gn 8 ?_
  simp only [Int.toNat_natCast]
  refine oL (lC (readFull_is (i := i + (uv L).length) (L := L) hD hn hc h63 (by omega) hL0 (by simp)) rfl (.cons (.tail .head) (.cons .head .nil))) ?_
  rintro ⟨r, H'⟩ ⟨rfl, rfl⟩
  simp only [List.cons_append, List.nil_append]
  rw [hbd]
  refine gn 24 ?_
  refine r_fn (l := [.tmp 6, .tmp 7]) results84 rfl rfl ?_
  exact ⟨gb, rfl, rfl⟩
theorem readHeader_is (hD : (gs, DB bs rest lo hi) ∈ G) (hE : (3, Obj.cells (EV gE :: t3).toArray e3 f3) ∈ G) (hn : bs.length = n) (hc : n ≤ cap) (h63 : cap < 9223372036854775808) (hi' : i ≤ n) (hbs : bs.drop i = hedB xs ++ tl) (hN : xs.length ≤ 200) (hok : ∀ x ∈ xs, CidOk x) (hL : (headB xs).length ≤ mx) (hmx : mx < 9223372036854775808) (hn48 : n ≤ 281474976710656) :
    Ctr prog 51 [RV gr, .int .u64 (mx : Nat)] G [(gr, RB gs n cap i)] (fun r H' => ∃ gh v HR, r = .tuple #[.pointer (some ⟨gh, 0, none⟩), .nilIface] ∧ Osl 111 1 v xs.length (xs.map fun x => S (cidB x)) HR ∧ H' = (gr, RB gs n cap (i + (hedB xs).length)) :: (gh, C [v, .int .u64 1] 109) :: HR) := by
  have hh0 : 0 < (headB xs).length := Nat.succ_pos _
  have hlen := congrArg List.length hbs
  rw [List.length_drop, List.length_append, hedB, List.length_append] at hlen
  refine fn_enter 28 func51 rfl ntmps51 rfl ?_
  intro w0
  refine gn 10 ?_
  refine oL (lC (ldRead_is (body := headB xs) (tl := tl) hD hn hc h63 hi' (by rw [hbs, hedB, List.append_assoc]) rfl hh0 hL hmx hn48) rfl (.cons .head .nil)) ?_
  rintro ⟨r, H'⟩ ⟨gb, rfl, rfl⟩
  simp only [List.cons_append, List.nil_append]
  refine gn 19 ?_
  refine oZ ?_; intro g8 _
  refine gn 6 ?_
  refine oL (lJ (HJ := [(gb, DB (headB xs) [] 0 0)]) (decH_is (xs := xs) (v0 := .slice none 0 0) (List.mem_append_right _ (.head _)) (List.mem_append_left _ hE) rfl (Nat.le_refl _) (by omega) rfl hN hok rfl) rfl (.cons .head .nil) (by intro p hp; rcases List.mem_singleton.1 hp with rfl; simp [DB])) ?_
  rintro ⟨r, H'⟩ ⟨v, HR, rfl, ho, rfl⟩
  refine o_perm List.perm_append_comm ?_
  simp only [List.cons_append, List.nil_append]
  refine gn 19 ?_
  refine WR.sel (.cons .head (.cons (.tail .head) (Sel.appR [_] HR))) ?_
  refine r_fn (l := [.tmp 4, .tmp 5]) results51 rfl rfl ?_
  refine ⟨_, v, HR, rfl, ho, ?_⟩
  rw [hedB, List.length_append, Nat.add_assoc]
end
end Go.Proofs
namespace Go.Proofs
open Go Go.Sl Tryz
set_option maxRecDepth 100000
set_option maxHeartbeats 1000000
/-- Options as they stand. -/
abbrev OpL (dp ip cd zb mc ib du wh ml v1 tr mh ms : Value) : List Value := [dp, ip, cd, zb, mc, ib, du, wh, ml, v1, tr, mh, ms]
section
variable {G : HP} {go gc : Nat} {z dp ip cd zb mc ib du wh ml v1 tr mh ms : Value}
theorem opt0_is {b : Bool} : Ctr prog 96 [.bool b] G [] (fun r H' => ∃ g, r = .func (.func 166) #[] #[.pointer (some ⟨g, 0, none⟩)] ∧ H' = [(g, C [.bool b] 4)]) := by
  refine fn_enter 4 func96 rfl ntmps96 rfl ?_
  intro w0
  refine gn 2 ?_
  refine oB ?_; intro g1 _
  refine gn 10 ?_
  refine r_fn1 results96 rfl ?_
  exact ⟨_, rfl, rfl⟩
theorem ap0_is {b : Bool} (h : (gc, C [.bool b] 4) ∈ G) : Ctr prog 166 [.pointer (some ⟨go, 0, none⟩), .pointer (some ⟨gc, 0, none⟩)] G [(go, C (OpL dp ip cd zb mc ib du wh ml v1 tr mh ms) 187)] (fun r H' => r = .tuple #[] ∧ H' = [(go, C (OpL dp ip cd (.bool b) mc ib du wh ml v1 tr mh ms) 187)]) := by
  refine fn_enter 7 func166 rfl ntmps166 rfl ?_
  intro w0
  refine gn 5 ?_
  refine oT ?_; intro _ _
  refine gn 1 ?_
  refine n_fn0 results166 ?_
  exact ⟨rfl, rfl⟩
theorem opt1_is {b : Bool} : Ctr prog 97 [.bool b] G [] (fun r H' => ∃ g, r = .func (.func 167) #[] #[.pointer (some ⟨g, 0, none⟩)] ∧ H' = [(g, C [.bool b] 4)]) := by
  refine fn_enter 4 func97 rfl ntmps97 rfl ?_
  intro w0
  refine gn 2 ?_
  refine oB ?_; intro g1 _
  refine gn 10 ?_
  refine r_fn1 results97 rfl ?_
  exact ⟨_, rfl, rfl⟩
theorem ap1_is {b : Bool} (h : (gc, C [.bool b] 4) ∈ G) : Ctr prog 167 [.pointer (some ⟨go, 0, none⟩), .pointer (some ⟨gc, 0, none⟩)] G [(go, C (OpL dp ip cd zb mc ib du wh ml v1 tr mh ms) 187)] (fun r H' => r = .tuple #[] ∧ H' = [(go, C (OpL dp ip cd zb mc (.bool b) du wh ml v1 tr mh ms) 187)]) := by
  refine fn_enter 7 func167 rfl ntmps167 rfl ?_
  intro w0
  refine gn 5 ?_
  refine oT ?_; intro _ _
  refine gn 1 ?_
  refine n_fn0 results167 ?_
  exact ⟨rfl, rfl⟩
theorem opt2_is {b : Bool} : Ctr prog 98 [.bool b] G [] (fun r H' => ∃ g, r = .func (.func 168) #[] #[.pointer (some ⟨g, 0, none⟩)] ∧ H' = [(g, C [.bool b] 4)]) := by
  refine fn_enter 4 func98 rfl ntmps98 rfl ?_
  intro w0
  refine gn 2 ?_
  refine oB ?_; intro g1 _
  refine gn 10 ?_
  refine r_fn1 results98 rfl ?_
  exact ⟨_, rfl, rfl⟩
theorem ap2_is {b : Bool} (h : (gc, C [.bool b] 4) ∈ G) : Ctr prog 168 [.pointer (some ⟨go, 0, none⟩), .pointer (some ⟨gc, 0, none⟩)] G [(go, C (OpL dp ip cd zb mc ib du wh ml v1 tr mh ms) 187)] (fun r H' => r = .tuple #[] ∧ H' = [(go, C (OpL dp ip cd zb mc ib (.bool b) wh ml v1 tr mh ms) 187)]) := by
  refine fn_enter 7 func168 rfl ntmps168 rfl ?_
  intro w0
  refine gn 5 ?_
  refine oT ?_; intro _ _
  refine gn 1 ?_
  refine n_fn0 results168 ?_
  exact ⟨rfl, rfl⟩
theorem opt3_is {b : Bool} : Ctr prog 99 [.bool b] G [] (fun r H' => ∃ g, r = .func (.func 169) #[] #[.pointer (some ⟨g, 0, none⟩)] ∧ H' = [(g, C [.bool b] 4)]) := by
  refine fn_enter 4 func99 rfl ntmps99 rfl ?_
  intro w0
  refine gn 2 ?_
  refine oB ?_; intro g1 _
  refine gn 10 ?_
  refine r_fn1 results99 rfl ?_
  exact ⟨_, rfl, rfl⟩
theorem ap3_is {b : Bool} (h : (gc, C [.bool b] 4) ∈ G) : Ctr prog 169 [.pointer (some ⟨go, 0, none⟩), .pointer (some ⟨gc, 0, none⟩)] G [(go, C (OpL dp ip cd zb mc ib du wh ml v1 tr mh ms) 187)] (fun r H' => r = .tuple #[] ∧ H' = [(go, C (OpL dp ip cd zb mc ib du (.bool b) ml v1 tr mh ms) 187)]) := by
  refine fn_enter 7 func169 rfl ntmps169 rfl ?_
  intro w0
  refine gn 5 ?_
  refine oT ?_; intro _ _
  refine gn 1 ?_
  refine n_fn0 results169 ?_
  exact ⟨rfl, rfl⟩
theorem opt4_is {b : Bool} : Ctr prog 100 [.bool b] G [] (fun r H' => ∃ g, r = .func (.func 170) #[] #[.pointer (some ⟨g, 0, none⟩)] ∧ H' = [(g, C [.bool b] 4)]) := by
  refine fn_enter 4 func100 rfl ntmps100 rfl ?_
  intro w0
  refine gn 2 ?_
  refine oB ?_; intro g1 _
  refine gn 10 ?_
  refine r_fn1 results100 rfl ?_
  exact ⟨_, rfl, rfl⟩
theorem ap4_is {b : Bool} (h : (gc, C [.bool b] 4) ∈ G) : Ctr prog 170 [.pointer (some ⟨go, 0, none⟩), .pointer (some ⟨gc, 0, none⟩)] G [(go, C (OpL dp ip cd zb mc ib du wh ml v1 tr mh ms) 187)] (fun r H' => r = .tuple #[] ∧ H' = [(go, C (OpL dp ip cd zb mc ib du wh ml (.bool b) tr mh ms) 187)]) := by
  refine fn_enter 7 func170 rfl ntmps170 rfl ?_
  intro w0
  refine gn 5 ?_
  refine oT ?_; intro _ _
  refine gn 1 ?_
  refine n_fn0 results170 ?_
  exact ⟨rfl, rfl⟩
theorem opt5_is {b : Bool} : Ctr prog 101 [.bool b] G [] (fun r H' => ∃ g, r = .func (.func 171) #[] #[.pointer (some ⟨g, 0, none⟩)] ∧ H' = [(g, C [.bool b] 4)]) := by
  refine fn_enter 4 func101 rfl ntmps101 rfl ?_
  intro w0
  refine gn 2 ?_
  refine oB ?_; intro g1 _
  refine gn 10 ?_
  refine r_fn1 results101 rfl ?_
  exact ⟨_, rfl, rfl⟩
theorem ap5_is {b : Bool} (h : (gc, C [.bool b] 4) ∈ G) : Ctr prog 171 [.pointer (some ⟨go, 0, none⟩), .pointer (some ⟨gc, 0, none⟩)] G [(go, C (OpL dp ip cd zb mc ib du wh ml v1 tr mh ms) 187)] (fun r H' => r = .tuple #[] ∧ H' = [(go, C (OpL dp ip cd zb mc ib du wh ml v1 (.bool b) mh ms) 187)]) := by
  refine fn_enter 7 func171 rfl ntmps171 rfl ?_
  intro w0
  refine gn 5 ?_
  refine oT ?_; intro _ _
  refine gn 1 ?_
  refine n_fn0 results171 ?_
  exact ⟨rfl, rfl⟩
theorem opt6_is {a : Int} : Ctr prog 102 [.int .u64 a] G [] (fun r H' => ∃ g, r = .func (.func 172) #[] #[.pointer (some ⟨g, 0, none⟩)] ∧ H' = [(g, C [.int .u64 a] 23)]) := by
  refine fn_enter 4 func102 rfl ntmps102 rfl ?_
  intro w0
  refine gn 2 ?_
  refine oB ?_; intro g1 _
  refine gn 10 ?_
  refine r_fn1 results102 rfl ?_
  exact ⟨_, rfl, rfl⟩
theorem ap6_is {a : Int} (h : (gc, C [.int .u64 a] 23) ∈ G) : Ctr prog 172 [.pointer (some ⟨go, 0, none⟩), .pointer (some ⟨gc, 0, none⟩)] G [(go, C (OpL dp ip cd zb mc ib du wh ml v1 tr mh ms) 187)] (fun r H' => r = .tuple #[] ∧ H' = [(go, C (OpL (.int .u64 a) ip cd zb mc ib du wh ml v1 tr mh ms) 187)]) := by
  refine fn_enter 7 func172 rfl ntmps172 rfl ?_
  intro w0
  refine gn 5 ?_
  refine oT ?_; intro _ _
  refine gn 1 ?_
  refine n_fn0 results172 ?_
  exact ⟨rfl, rfl⟩
theorem opt7_is {a : Int} : Ctr prog 103 [.int .u64 a] G [] (fun r H' => ∃ g, r = .func (.func 173) #[] #[.pointer (some ⟨g, 0, none⟩)] ∧ H' = [(g, C [.int .u64 a] 23)]) := by
  refine fn_enter 4 func103 rfl ntmps103 rfl ?_
  intro w0
  refine gn 2 ?_
  refine oB ?_; intro g1 _
  refine gn 10 ?_
  refine r_fn1 results103 rfl ?_
  exact ⟨_, rfl, rfl⟩
theorem ap7_is {a : Int} (h : (gc, C [.int .u64 a] 23) ∈ G) : Ctr prog 173 [.pointer (some ⟨go, 0, none⟩), .pointer (some ⟨gc, 0, none⟩)] G [(go, C (OpL dp ip cd zb mc ib du wh ml v1 tr mh ms) 187)] (fun r H' => r = .tuple #[] ∧ H' = [(go, C (OpL dp (.int .u64 a) cd zb mc ib du wh ml v1 tr mh ms) 187)]) := by
  refine fn_enter 7 func173 rfl ntmps173 rfl ?_
  intro w0
  refine gn 5 ?_
  refine oT ?_; intro _ _
  refine gn 1 ?_
  refine n_fn0 results173 ?_
  exact ⟨rfl, rfl⟩
theorem opt8_is {a : Int} : Ctr prog 104 [.int .u64 a] G [] (fun r H' => ∃ g, r = .func (.func 174) #[] #[.pointer (some ⟨g, 0, none⟩)] ∧ H' = [(g, C [.int .u64 a] 92)]) := by
  refine fn_enter 4 func104 rfl ntmps104 rfl ?_
  intro w0
  refine gn 2 ?_
  refine oB ?_; intro g1 _
  refine gn 10 ?_
  refine r_fn1 results104 rfl ?_
  exact ⟨_, rfl, rfl⟩
theorem ap8_is {a : Int} (h : (gc, C [.int .u64 a] 92) ∈ G) : Ctr prog 174 [.pointer (some ⟨go, 0, none⟩), .pointer (some ⟨gc, 0, none⟩)] G [(go, C (OpL dp ip cd zb mc ib du wh ml v1 tr mh ms) 187)] (fun r H' => r = .tuple #[] ∧ H' = [(go, C (OpL dp ip (.int .u64 a) zb mc ib du wh ml v1 tr mh ms) 187)]) := by
  refine fn_enter 7 func174 rfl ntmps174 rfl ?_
  intro w0
  refine gn 5 ?_
  refine oT ?_; intro _ _
  refine gn 1 ?_
  refine n_fn0 results174 ?_
  exact ⟨rfl, rfl⟩
end
/-- Where options stand in memory: closures, each with its own value. -/
inductive OptA (G : HP) (b0 b1 b2 b3 b4 b5 : Bool) (a6 a7 : Int) : Value → Int → Prop where
  | none {go cap g0 g1 g2 g3 g4 g5 g6 g7 : Nat} {tl : List Value} {fr : Nat × Nat} (ho : (go, Obj.cells ((.func (.func 166) #[] #[.pointer (some ⟨g0, 0, none⟩)]) :: (.func (.func 167) #[] #[.pointer (some ⟨g1, 0, none⟩)]) :: (.func (.func 168) #[] #[.pointer (some ⟨g2, 0, none⟩)]) :: (.func (.func 169) #[] #[.pointer (some ⟨g3, 0, none⟩)]) :: (.func (.func 170) #[] #[.pointer (some ⟨g4, 0, none⟩)]) :: (.func (.func 171) #[] #[.pointer (some ⟨g5, 0, none⟩)]) :: (.func (.func 172) #[] #[.pointer (some ⟨g6, 0, none⟩)]) :: (.func (.func 173) #[] #[.pointer (some ⟨g7, 0, none⟩)]) :: tl).toArray 191 fr) ∈ G) (h0 : (g0, C [.bool b0] 4) ∈ G) (h1 : (g1, C [.bool b1] 4) ∈ G) (h2 : (g2, C [.bool b2] 4) ∈ G) (h3 : (g3, C [.bool b3] 4) ∈ G) (h4 : (g4, C [.bool b4] 4) ∈ G) (h5 : (g5, C [.bool b5] 4) ∈ G) (h6 : (g6, C [.int .u64 a6] 23) ∈ G) (h7 : (g7, C [.int .u64 a7] 23) ∈ G) : OptA G b0 b1 b2 b3 b4 b5 a6 a7 (.slice (some ⟨go, 0, none⟩) 8 cap) 0
  | some {go cap g0 g1 g2 g3 g4 g5 g6 g7 g8 : Nat} {tl : List Value} {fr : Nat × Nat} {cd : Int} (ho : (go, Obj.cells ((.func (.func 166) #[] #[.pointer (some ⟨g0, 0, none⟩)]) :: (.func (.func 167) #[] #[.pointer (some ⟨g1, 0, none⟩)]) :: (.func (.func 168) #[] #[.pointer (some ⟨g2, 0, none⟩)]) :: (.func (.func 169) #[] #[.pointer (some ⟨g3, 0, none⟩)]) :: (.func (.func 170) #[] #[.pointer (some ⟨g4, 0, none⟩)]) :: (.func (.func 171) #[] #[.pointer (some ⟨g5, 0, none⟩)]) :: (.func (.func 172) #[] #[.pointer (some ⟨g6, 0, none⟩)]) :: (.func (.func 173) #[] #[.pointer (some ⟨g7, 0, none⟩)]) :: (.func (.func 174) #[] #[.pointer (some ⟨g8, 0, none⟩)]) :: tl).toArray 191 fr) ∈ G) (h0 : (g0, C [.bool b0] 4) ∈ G) (h1 : (g1, C [.bool b1] 4) ∈ G) (h2 : (g2, C [.bool b2] 4) ∈ G) (h3 : (g3, C [.bool b3] 4) ∈ G) (h4 : (g4, C [.bool b4] 4) ∈ G) (h5 : (g5, C [.bool b5] 4) ∈ G) (h6 : (g6, C [.int .u64 a6] 23) ∈ G) (h7 : (g7, C [.int .u64 a7] 23) ∈ G) (h8 : (g8, C [.int .u64 cd] 92) ∈ G) (hcd : 0 < cd) : OptA G b0 b1 b2 b3 b4 b5 a6 a7 (.slice (some ⟨go, 0, none⟩) 9 cap) cd
section
variable {G : HP} {b0 b1 b2 b3 b4 b5 : Bool} {a6 a7 cd : Int} {v : Value}
theorem apply_is (h : OptA G b0 b1 b2 b3 b4 b5 a6 a7 v cd) : CtrP prog 94 [v] G (.agg #[.int .u64 a6, .int .u64 a7, .int .u64 (if cd = 0 then 1025 else cd), .bool b0, .int .u64 2048, .bool b1, .bool b2, .bool b3, .int .u64 9223372036854775807, .bool b4, .bool b5, .int .u64 33554432, .int .u64 8388608]) := by
  cases h with
  | none ho h0 h1 h2 h3 h4 h5 h6 h7 =>
    refine fn_enter 25 func94 rfl ntmps94 rfl ?_
    intro w0
    refine gn 2 ?_
    refine oZ ?_; intro g2 _
    refine gn 4 ?_
    refine oX (eB [.int .u64 0, .int .u64 0, .int .u64 0, .bool false, .int .u64 0, .bool false, .bool false, .bool false, .int .u64 9223372036854775807, .bool false, .bool false, .int .u64 33554432, .int .u64 8388608]) ?_
    refine oZ ?_; intro g3 _
    refine oL (l_storea sizeOf187 rfl rfl rfl (by simp [Value.oneCell']) aU (.take (.take (.take (.take (.take (.take (.take (.take (.take (.take (.take (.take (.take .done))))))))))))) nofrs0) ?_
    intro _ _
    refine gn 11 ?_
    refine c_rounds 9 ?_
    refine gn 20 ?_
    refine oL (l_callcq (HJ := []) call166 (ap0_is (go := g3) (List.mem_append_left _ h0)) rfl rfl rfl rfl (.cons .head .nil) (by simp)) ?_
    rintro ⟨r, H'⟩ ⟨rfl, rfl⟩
    simp only [List.cons_append, List.nil_append]
    refine gn 7 ?_
    refine n_rounds ?_
    refine gn 20 ?_
    refine oL (l_callcq (HJ := []) call167 (ap1_is (go := g3) (List.mem_append_left _ h1)) rfl rfl rfl rfl (.cons .head .nil) (by simp)) ?_
    rintro ⟨r, H'⟩ ⟨rfl, rfl⟩
    simp only [List.cons_append, List.nil_append]
    refine gn 7 ?_
    refine n_rounds ?_
    refine gn 20 ?_
    refine oL (l_callcq (HJ := []) call168 (ap2_is (go := g3) (List.mem_append_left _ h2)) rfl rfl rfl rfl (.cons .head .nil) (by simp)) ?_
    rintro ⟨r, H'⟩ ⟨rfl, rfl⟩
    simp only [List.cons_append, List.nil_append]
    refine gn 7 ?_
    refine n_rounds ?_
    refine gn 20 ?_
    refine oL (l_callcq (HJ := []) call169 (ap3_is (go := g3) (List.mem_append_left _ h3)) rfl rfl rfl rfl (.cons .head .nil) (by simp)) ?_
    rintro ⟨r, H'⟩ ⟨rfl, rfl⟩
    simp only [List.cons_append, List.nil_append]
    refine gn 7 ?_
    refine n_rounds ?_
    refine gn 20 ?_
    refine oL (l_callcq (HJ := []) call170 (ap4_is (go := g3) (List.mem_append_left _ h4)) rfl rfl rfl rfl (.cons .head .nil) (by simp)) ?_
    rintro ⟨r, H'⟩ ⟨rfl, rfl⟩
    simp only [List.cons_append, List.nil_append]
    refine gn 7 ?_
    refine n_rounds ?_
    refine gn 20 ?_
    refine oL (l_callcq (HJ := []) call171 (ap5_is (go := g3) (List.mem_append_left _ h5)) rfl rfl rfl rfl (.cons .head .nil) (by simp)) ?_
    rintro ⟨r, H'⟩ ⟨rfl, rfl⟩
    simp only [List.cons_append, List.nil_append]
    refine gn 7 ?_
    refine n_rounds ?_
    refine gn 20 ?_
    refine oL (l_callcq (HJ := []) call172 (ap6_is (go := g3) (List.mem_append_left _ h6)) rfl rfl rfl rfl (.cons .head .nil) (by simp)) ?_
    rintro ⟨r, H'⟩ ⟨rfl, rfl⟩
    simp only [List.cons_append, List.nil_append]
    refine gn 7 ?_
    refine n_rounds ?_
    refine gn 20 ?_
    refine oL (l_callcq (HJ := []) call173 (ap7_is (go := g3) (List.mem_append_left _ h7)) rfl rfl rfl rfl (.cons .head .nil) (by simp)) ?_
    rintro ⟨r, H'⟩ ⟨rfl, rfl⟩
    simp only [List.cons_append, List.nil_append]
    refine gn 7 ?_
    refine n_rounds ?_
    refine gn 23 ?_
    refine oT ?_; intro _ _
    refine gn 13 ?_
    refine oT ?_; intro _ _
    refine gn 5 ?_
    refine oL (l_storea sizeOf187 rfl rfl rfl (by simp [Value.oneCell']) aU (.take (.take (.take (.take (.take (.take (.take (.take (.take (.take (.take (.take (.take .done))))))))))))) nofrs0) ?_
    intro _ _
    refine gn 3 ?_
    refine r_fnx results94 (.cella isAgg187 sizeOf187 rfl aM (.take (.take (.take (.take (.take (.take (.take (.take (.take (.take (.take (.take (.take .done))))))))))))) .nil) .nil rfl ?_
    exact ⟨rfl, rfl⟩
  | some ho h0 h1 h2 h3 h4 h5 h6 h7 h8 hcd =>
    refine fn_enter 25 func94 rfl ntmps94 rfl ?_
    intro w0
    refine gn 2 ?_
    refine oZ ?_; intro g2 _
    refine gn 4 ?_
    refine oX (eB [.int .u64 0, .int .u64 0, .int .u64 0, .bool false, .int .u64 0, .bool false, .bool false, .bool false, .int .u64 9223372036854775807, .bool false, .bool false, .int .u64 33554432, .int .u64 8388608]) ?_
    refine oZ ?_; intro g3 _
    refine oL (l_storea sizeOf187 rfl rfl rfl (by simp [Value.oneCell']) aU (.take (.take (.take (.take (.take (.take (.take (.take (.take (.take (.take (.take (.take .done))))))))))))) nofrs0) ?_
    intro _ _
    refine gn 11 ?_
    refine c_rounds 10 ?_
    refine gn 20 ?_
    refine oL (l_callcq (HJ := []) call166 (ap0_is (go := g3) (List.mem_append_left _ h0)) rfl rfl rfl rfl (.cons .head .nil) (by simp)) ?_
    rintro ⟨r, H'⟩ ⟨rfl, rfl⟩
    simp only [List.cons_append, List.nil_append]
    refine gn 7 ?_
    refine n_rounds ?_
    refine gn 20 ?_
    refine oL (l_callcq (HJ := []) call167 (ap1_is (go := g3) (List.mem_append_left _ h1)) rfl rfl rfl rfl (.cons .head .nil) (by simp)) ?_
    rintro ⟨r, H'⟩ ⟨rfl, rfl⟩
    simp only [List.cons_append, List.nil_append]
    refine gn 7 ?_
    refine n_rounds ?_
    refine gn 20 ?_
    refine oL (l_callcq (HJ := []) call168 (ap2_is (go := g3) (List.mem_append_left _ h2)) rfl rfl rfl rfl (.cons .head .nil) (by simp)) ?_
    rintro ⟨r, H'⟩ ⟨rfl, rfl⟩
    simp only [List.cons_append, List.nil_append]
    refine gn 7 ?_
    refine n_rounds ?_
    refine gn 20 ?_
    refine oL (l_callcq (HJ := []) call169 (ap3_is (go := g3) (List.mem_append_left _ h3)) rfl rfl rfl rfl (.cons .head .nil) (by simp)) ?_
    rintro ⟨r, H'⟩ ⟨rfl, rfl⟩
    simp only [List.cons_append, List.nil_append]
    refine gn 7 ?_
    refine n_rounds ?_
    refine gn 20 ?_
    refine oL (l_callcq (HJ := []) call170 (ap4_is (go := g3) (List.mem_append_left _ h4)) rfl rfl rfl rfl (.cons .head .nil) (by simp)) ?_
    rintro ⟨r, H'⟩ ⟨rfl, rfl⟩
    simp only [List.cons_append, List.nil_append]
    refine gn 7 ?_
    refine n_rounds ?_
    refine gn 20 ?_
    refine oL (l_callcq (HJ := []) call171 (ap5_is (go := g3) (List.mem_append_left _ h5)) rfl rfl rfl rfl (.cons .head .nil) (by simp)) ?_
    rintro ⟨r, H'⟩ ⟨rfl, rfl⟩
    simp only [List.cons_append, List.nil_append]
    refine gn 7 ?_
    refine n_rounds ?_
    refine gn 20 ?_
    refine oL (l_callcq (HJ := []) call172 (ap6_is (go := g3) (List.mem_append_left _ h6)) rfl rfl rfl rfl (.cons .head .nil) (by simp)) ?_
    rintro ⟨r, H'⟩ ⟨rfl, rfl⟩
    simp only [List.cons_append, List.nil_append]
    refine gn 7 ?_
    refine n_rounds ?_
    refine gn 20 ?_
    refine oL (l_callcq (HJ := []) call173 (ap7_is (go := g3) (List.mem_append_left _ h7)) rfl rfl rfl rfl (.cons .head .nil) (by simp)) ?_
    rintro ⟨r, H'⟩ ⟨rfl, rfl⟩
    simp only [List.cons_append, List.nil_append]
    refine gn 7 ?_
    refine n_rounds ?_
    refine gn 20 ?_
    refine oL (l_callcq (HJ := []) call174 (ap8_is (go := g3) (List.mem_append_left _ h8)) rfl rfl rfl rfl (.cons .head .nil) (by simp)) ?_
    rintro ⟨r, H'⟩ ⟨rfl, rfl⟩
    simp only [List.cons_append, List.nil_append]
    refine gn 7 ?_
    refine n_rounds ?_
    refine gn 20 ?_
    refine c_ifp rfl (fun h => absurd h (by omega)) (fun _ => ?_)
    refine gn 13 ?_
    refine oT ?_; intro _ _
    refine gn 5 ?_
    refine oL (l_storea sizeOf187 rfl rfl rfl (by simp [Value.oneCell']) aU (.take (.take (.take (.take (.take (.take (.take (.take (.take (.take (.take (.take (.take .done))))))))))))) nofrs0) ?_
    intro _ _
    refine gn 3 ?_
    refine r_fnx results94 (.cella isAgg187 sizeOf187 rfl aM (.take (.take (.take (.take (.take (.take (.take (.take (.take (.take (.take (.take (.take .done))))))))))))) .nil) .nil rfl ?_
    exact ⟨by rw [if_neg (by omega)]; rfl, rfl⟩
end
end Go.Proofs
namespace Go.Proofs
open Go Go.Sl Tryz
set_option maxRecDepth 100000
set_option maxHeartbeats 1000000
section
variable {G : HP} {x n : Nat} {bs tl : List UInt8}
theorem uvS_is (hx : x < 9223372036854775808) (hbs : bs = uv x ++ tl) (hl : bs.length < 1000000) :
    CtrP prog 161 [S bs] G (.tuple #[.int .u64 (x : Nat), .int .i64 ((uv x).length : Nat), .nilIface]) := by
  have hp := uv_pos x
  have h9 := uv_le9 hx
  have hx' : x < 18446744073709551616 := by omega
  have hL : (uv x).length ≤ bs.length := by rw [hbs, List.length_append]; omega
  refine fn_enter 56 func161 rfl ntmps161 rfl ?_
  intro w0
  refine gn 24 ?_
  refine c_loop (X := Nat) (fun i => [(0, S bs), (7, .int .i64 i), (5, .int .u64 (x % 128 ^ i : Nat)), (6, .int .u64 (7 * i : Nat))]) (fun _ => []) (fun i => i < (uv x).length) (fun i => (uv x).length - i) 0 hp (sub_cons rfl (sub_cons rfl (sub_cons (by show some _ = some _; simp [Nat.mod_one]) aK))) (.refl _) ?_
  intro i hi'
  refine gn 9 ?_
  refine c_ifp rfl (fun _ => ?_) (fun h => absurd h (by omega))
  by_cases hmid : i + 1 < (uv x).length
  · obtain ⟨h2, h3⟩ := uv_mid hmid
    have hb : bs[((i : Nat) : Int).toNat]? = some (UInt8.ofNat (128 + x / 128 ^ i % 128)) := by rw [Int.toNat_natCast, hbs, List.getElem?_append_left (by omega)]; exact h3
    have hbz : (UInt8.ofNat (128 + x / 128 ^ i % 128)).toNat = 128 + x / 128 ^ i % 128 := by rw [UInt8.toNat_ofNat']; omega
    have e127 : (128 + x / 128 ^ i % 128) % 128 = x / 128 ^ i % 128 := by omega
    have hle : x % 128 ^ (i + 1) ≤ x := Nat.mod_le _ _
    refine gn 9 ?_
    rw [hbz]
    refine gn 10 ?_
    refine c_ifp rfl (fun h => absurd h (by omega)) (fun _ => ?_)
    refine gn 7 ?_
    rw [and127 (by omega), e127]
    refine gn 4 ?_
    rw [or_sh rfl _ (7 * i) (Int.toNat_natCast _) (by show 7 * i ≤ 64; omega) (mod_lt' x i) (by rw [mod_succ]; show _ < 18446744073709551616; omega), mod_succ]
    refine gn 15 ?_
    refine n_round' (y := i) (i + 1) (by omega) hmid (sub_cons rfl (sub_cons rfl (sub_cons rfl (sub_cons (by show some (Value.int .u64 (((7 * i : Nat) : Int) + 7)) = some (Value.int .u64 ((7 * (i + 1) : Nat) : Int)); rw [show ((7 * i : Nat) : Int) + 7 = ((7 * (i + 1) : Nat) : Int) by omega]) sub_nil)))) _ (.refl _) (List.Sublist.refl _)
  · skip
    have hlast : i + 1 = (uv x).length := by omega
    obtain ⟨h2, h3, h0⟩ := uv_last hx' hlast
    have hb : bs[((i : Nat) : Int).toNat]? = some (UInt8.ofNat (x / 128 ^ i)) := by rw [Int.toNat_natCast, hbs, List.getElem?_append_left (by omega)]; exact h3
    have hbz : (UInt8.ofNat (x / 128 ^ i)).toNat = x / 128 ^ i := by rw [UInt8.toNat_ofNat']; exact Nat.mod_eq_of_lt (Nat.lt_trans h2 (by decide))
    have hor : ib .or .u64 ((x % 128 ^ i : Nat) : Int) (IntKind.u64.wrap (((x / 128 ^ i : Nat) : Int) * 2 ^ (min ((7 * i : Nat) : Int).toNat IntKind.u64.bits))) = ((x : Nat) : Int) := by
      rw [or_sh rfl _ (7 * i) (Int.toNat_natCast _) (by show 7 * i ≤ 64; omega) (mod_lt' x i) (by rw [mod_last]; show _ < 18446744073709551616; omega), mod_last]
    refine gn 9 ?_
    rw [hbz]
    clear hb h3 hbz
    generalize x / 128 ^ i = q at h2 h0 hor ⊢
    refine gn 10 ?_
    refine c_ifp rfl (fun _ => ?_) (fun h => absurd h (by omega))
    refine gn 6 ?_
    refine o_splitp 22 rfl (fun h => absurd h (by omega)) (fun _ => ?_)
    refine gn 3 ?_
    refine o_splitp 25 rfl (fun h => absurd h (by omega)) (fun _ => ?_)
    refine gn 15 ?_
    refine o_splitp 33 rfl (fun h7 => ?_) (fun h7 => ?_)
    · refine gn 5 ?_
      refine c_ifp rfl (fun h8 => ?_) (fun h8 => ?_)
      · exact absurd h8 (by have : i = 0 ∨ 0 < i := by omega
                            rcases this with rfl | h; simp; have := h0 h; omega)
      · skip
        refine gn 10 ?_
        rw [hor]
        refine gn 8 ?_
        refine r_fn (l := [.tmp 2, .tmp 3, .tmp 4]) results161 rfl rfl ?_
        exact ⟨by rw [← hlast]; rfl, rfl⟩
    · skip
      refine gn 16 ?_
      rw [hor]
      refine gn 8 ?_
      refine r_fn (l := [.tmp 2, .tmp 3, .tmp 4]) results161 rfl rfl ?_
      exact ⟨by rw [← hlast]; rfl, rfl⟩
end
section
variable {G : HP} {x : En}
theorem prefix_is (ht : Tidy x) (hf : EnFit x) (hd : x.d.length ≤ 200) : CtrP prog 91 [.agg #[S (cidB x)]] G (.agg #[.int .u64 x.v, .int .u64 x.c, .int .u64 x.h, .int .i64 x.d.length]) := by
  obtain ⟨v, c, h, d, o⟩ := x
  obtain ⟨_, _, hc0, hc1, hh0, hh1, _, _⟩ := hf
  simp only at hc0 hc1 hh0 hh1 hd
  simp only [Tidy] at ht
  obtain ⟨c, rfl⟩ := Int.eq_ofNat_of_zero_le hc0
  obtain ⟨h, rfl⟩ := Int.eq_ofNat_of_zero_le hh0
  rcases ht with ⟨rfl, h1, h2, h3⟩ | ⟨rfl, h1, h2⟩
  · have hcid : cidB ⟨0, (c : Nat), (h : Nat), d, o⟩ = mhB 18 d := if_pos rfl
    have hv : mhB 18 d = 18 :: 32 :: d := by rw [mhB, h3]; rfl
    have hver := ver0_is (G := G) (t := d) h3
    rw [hcid, hv, h1, h2, h3]
    generalize (18 :: 32 :: d : List UInt8) = bs at *
    refine fn_enter 69 func91 rfl ntmps91 rfl ?_
    intro w0
    refine gn 2 ?_
    refine oB ?_; intro g1 _
    refine oZ ?_; intro g2 _
    refine gn 6 ?_
    refine oL (lC hver rfl .nil) ?_
    rintro ⟨r, H'⟩ ⟨rfl, rfl⟩
    simp only [List.nil_append]
    refine gn 6 ?_
    refine oX (eB [.int .u64 0, .int .u64 112, .int .u64 18, .int .i64 32]) ?_
    refine oL (l_storea sizeOf173 rfl rfl rfl (by simp [Value.oneCell']) aU (.take (.take (.take (.take .done)))) nofrs0) ?_
    intro _ _
    refine gn 3 ?_
    refine r_fnx results91 (.cella isAgg173 sizeOf173 rfl aM (.take (.take (.take (.take .done)))) .nil) .nil rfl ?_
    exact ⟨rfl, rfl⟩
  · have hcid : cidB ⟨1, (c : Nat), (h : Nat), d, o⟩ = 1 :: (uv c ++ mhB h d) := if_neg (show ¬ (1 : Int) = 0 by decide)
    have hver := ver1_is (G := G) (t := uv c ++ mhB h d)
    have hlc := uv_le c
    have hlh := uv_le h
    have hld := uv_le d.length
    have hu1 : (uv 1).length = 1 := rfl
    have hbl : (1 :: (uv c ++ mhB h d)).length ≤ 300 := by simp [mhB]; omega
    have hbs' : 1 :: (uv c ++ mhB h d) = uv 1 ++ (uv c ++ (uv h ++ (uv d.length ++ d))) := by simp [mhB]; rfl
    have hm1 : (mhB h d).length = (uv h).length + ((uv d.length).length + d.length) := by simp [mhB]
    have hb2 : (1 :: (uv c ++ mhB h d)).length = 1 + ((uv c).length + (mhB h d).length) := by simp; omega
    rw [hcid]
    obtain ⟨bs, hbs⟩ : ∃ bs, bs = 1 :: (uv c ++ mhB h d) := ⟨_, rfl⟩
    rw [← hbs] at hver hbl hbs' hb2 ⊢
    have d0 : bs.drop 0 = uv 1 ++ (uv c ++ (uv h ++ (uv d.length ++ d))) := by rw [List.drop_zero]; exact hbs'
    have d1 : bs.drop 1 = uv c ++ (uv h ++ (uv d.length ++ d)) := drop_at hbs' rfl
    have d2 : bs.drop (1 + (uv c).length) = uv h ++ (uv d.length ++ d) := drop_at (a := uv 1 ++ uv c) (by rw [hbs']; simp) (by simp [hu1])
    have d3 : bs.drop (1 + (uv c).length + (uv h).length) = uv d.length ++ d := drop_at (a := uv 1 ++ uv c ++ uv h) (by rw [hbs']; simp) (by simp [hu1]; omega)
    refine fn_enter 69 func91 rfl ntmps91 rfl ?_
    intro w0
    refine gn 2 ?_
    refine oB ?_; intro g1 _
    refine oZ ?_; intro g2 _
    refine gn 6 ?_
    refine oL (lC hver rfl .nil) ?_
    rintro ⟨r, H'⟩ ⟨rfl, rfl⟩
    simp only [List.nil_append]
    refine gn 17 ?_
    refine oL (lC (uvS_is (x := 1) (by decide) d0 (by rw [List.drop_zero]; omega)) rfl .nil) ?_
    rintro ⟨r, H'⟩ ⟨rfl, rfl⟩
    simp only [List.nil_append, hu1]
    refine gn 23 ?_
    refine oL (lC (uvS_is (x := c) (by omega) d1 (by rw [List.length_drop]; omega)) rfl .nil) ?_
    rintro ⟨r, H'⟩ ⟨rfl, rfl⟩
    simp only [List.nil_append]
    refine gn 23 ?_
    simp only [Int.toNat_natCast]
    refine oL (lC (uvS_is (x := h) (by omega) d2 (by rw [List.length_drop]; omega)) rfl .nil) ?_
    rintro ⟨r, H'⟩ ⟨rfl, rfl⟩
    simp only [List.nil_append]
    refine gn 23 ?_
    simp only [Int.toNat_natCast]
    refine oL (lC (uvS_is (x := d.length) (by omega) d3 (by rw [List.length_drop]; omega)) rfl .nil) ?_
    rintro ⟨r, H'⟩ ⟨rfl, rfl⟩
    simp only [List.nil_append]
    refine gn 16 ?_
    refine oX (eB [.int .u64 1, .int .u64 (c : Nat), .int .u64 (h : Nat), .int .i64 d.length]) ?_
    refine oL (l_storea sizeOf173 rfl rfl rfl (by simp [Value.oneCell']) aU (.take (.take (.take (.take .done)))) nofrs0) ?_
    intro _ _
    refine gn 3 ?_
    refine r_fnx results91 (.cella isAgg173 sizeOf173 rfl aM (.take (.take (.take (.take .done)))) .nil) .nil rfl ?_
    exact ⟨rfl, rfl⟩
end
end Go.Proofs
