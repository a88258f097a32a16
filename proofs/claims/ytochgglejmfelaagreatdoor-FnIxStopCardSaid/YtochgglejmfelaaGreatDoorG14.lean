/- The index of one entry, by the general law; Runs at known values, part 0; Runs at known values, part 1. (A part of the proof of this: for every input laws.FnIxStop returns true and its arguments read as they did, the listed package variables being what the program lays.) -/
import Derived.Test.YtochgglejmfelaaGreatDoorG08
import Derived.Test.YtochgglejmfelaaGreatDoorG02
import Derived.KernelRfl
import Derived.Test.YtochgglejmfelaaGreatDoorG05
namespace Go.Proofs
open Go Go.Sl
abbrev e1 : En := ⟨1, 85, 0, [97], 7⟩
theorem w_e1 : widths [e1] = [1] := by
  rw [widths, srt_small (by decide)]; rfl
theorem c_e1 : codes [e1] = [0] := by
  rw [codes, srt_small (by decide)]; rfl
theorem s_e1 : sortedB [e1] = [1, 0, 0, 0, 9, 0, 0, 0, 9, 0, 0, 0, 0, 0, 0, 0, 97, 7, 0, 0, 0, 0, 0, 0, 0] := by
  rw [sortedB, w_e1, stable_small (by decide)]; rfl
theorem ib_1024 : indexB [e1] 1024 = [128, 8, 1, 0, 0, 0, 9, 0, 0, 0, 9, 0, 0, 0, 0, 0, 0, 0, 97, 7, 0, 0, 0, 0, 0, 0, 0] := by
  rw [indexB, bodyB, if_pos rfl, s_e1]; rfl
theorem ib_1025 : indexB [e1] 1025 = [129, 8, 1, 0, 0, 0, 0, 0, 0, 0, 0, 0, 0, 0, 1, 0, 0, 0, 9, 0, 0, 0, 9, 0, 0, 0, 0, 0, 0, 0, 97, 7, 0, 0, 0, 0, 0, 0, 0] := by
  rw [indexB, bodyB, if_neg (by decide), c_e1]
  have h : codeB [e1] 0 = lowB 0 8 ++ sortedB [e1] := rfl
  rw [List.flatMap_cons, h, s_e1]; rfl
theorem one_index {G : HP} {p : Nat} {kind : Int} {bs : List UInt8} (hk : kind = 1024 ∨ kind = 1025) (hb : indexB [e1] kind = bs) :
    CtrE Tryz.prog 15 [Value.slice (some ⟨p, 0, none⟩) 1 1, Value.int .u64 kind] G [(p, C (cE e1) 56)] (T := Unit) (fun _ => True) (fun _ => S bs) (fun _ => [(p, C (cE e1) 56)]) := fun w hG hH hn hd => by
  have h := indexBytes_is (G := G ++ [(p, C (cE e1) 56)]) (vl := Value.slice (some ⟨p, 0, none⟩) 1 1) (l := [e1]) (kind := kind) (.blk (List.mem_append_right _ (.head _)) rfl (fun i hi => by
    obtain rfl : i = 0 := by simp at hi; exact hi
    exact .take (.take (.take (.take (.take .done)))))) (by decide) (by decide) hk
  refine (h w (fun p hp => (List.mem_append.1 hp).elim (hG p) (hH p)) (fun _ h => by cases h) (by simp [keys]) (fun _ h => by cases h)).mono ?_
  rintro e w' ⟨v, H', rfl, ⟨rfl, rfl⟩, _, _, hf, _⟩
  refine ⟨_, _, rfl, ⟨(), trivial, by rw [hb], rfl⟩, fun p hp => ?_, hn, hf.mono (fun _ h => by cases h), fun g hg => .inl hg⟩
  rw [hf.keep _ (hH.lt (List.mem_map_of_mem hp)) (fun h => by cases h)]
  exact hH p hp
end Go.Proofs
namespace Go.Proofs
open Go Go.Sl Tryz
set_option maxRecDepth 100000
set_option maxHeartbeats 4000000
abbrev ub (n : Int) : Value := .int .u8 n
abbrev xb0 : List Value := [ub 0, ub 0, ub 0, ub 0, ub 0, ub 0, ub 0, ub 0, ub 0, ub 0]
abbrev xb1 : List Value := [ub 85, ub 0, ub 0, ub 0, ub 0, ub 0, ub 0, ub 0, ub 0, ub 0]
abbrev xb2 : List Value := [ub 1, ub 85, ub 0, ub 1, ub 97]
abbrev xb3 : List Value := [ub 97, ub 7, ub 0, ub 0, ub 0, ub 0, ub 0, ub 0, ub 0]
abbrev xb4 : List Value := [ub 0, ub 0, ub 0, ub 0, ub 0, ub 0, ub 0, ub 0, ub 0]
abbrev xb5 : List Value := [ub 128, ub 8, ub 0, ub 0, ub 0, ub 0, ub 0, ub 0, ub 0, ub 0]
abbrev xb6 : List Value := [ub 0, ub 0, ub 0, ub 0, ub 0, ub 0, ub 0, ub 0, ub 0, ub 0, ub 0, ub 0, ub 0, ub 0, ub 0, ub 0, ub 0, ub 0, ub 0, ub 0, ub 0, ub 0, ub 0, ub 0, ub 0, ub 0, ub 0, ub 0, ub 0, ub 0, ub 0, ub 0, ub 0, ub 0, ub 0, ub 0, ub 0, ub 0, ub 0, ub 0, ub 0, ub 0, ub 0, ub 0, ub 0, ub 0, ub 0, ub 0, ub 0, ub 0, ub 0, ub 0, ub 0, ub 0, ub 0, ub 0, ub 0, ub 0, ub 0, ub 0, ub 0, ub 0, ub 0, ub 0]
abbrev xb7 : List Value := [ub 128, ub 8, ub 0, ub 0, ub 0, ub 0, ub 0, ub 0, ub 0, ub 0, ub 0, ub 0, ub 0, ub 0, ub 0, ub 0, ub 0, ub 0, ub 0, ub 0, ub 0, ub 0, ub 0, ub 0, ub 0, ub 0, ub 0, ub 0, ub 0, ub 0, ub 0, ub 0, ub 0, ub 0, ub 0, ub 0, ub 0, ub 0, ub 0, ub 0, ub 0, ub 0, ub 0, ub 0, ub 0, ub 0, ub 0, ub 0, ub 0, ub 0, ub 0, ub 0, ub 0, ub 0, ub 0, ub 0, ub 0, ub 0, ub 0, ub 0, ub 0, ub 0, ub 0, ub 0]
abbrev xb8 : List Value := [ub 128, ub 8, ub 1, ub 0, ub 0, ub 0, ub 0, ub 0, ub 0, ub 0, ub 0, ub 0, ub 0, ub 0, ub 0, ub 0, ub 0, ub 0, ub 0, ub 0, ub 0, ub 0, ub 0, ub 0, ub 0, ub 0, ub 0, ub 0, ub 0, ub 0, ub 0, ub 0, ub 0, ub 0, ub 0, ub 0, ub 0, ub 0, ub 0, ub 0, ub 0, ub 0, ub 0, ub 0, ub 0, ub 0, ub 0, ub 0, ub 0, ub 0, ub 0, ub 0, ub 0, ub 0, ub 0, ub 0, ub 0, ub 0, ub 0, ub 0, ub 0, ub 0, ub 0, ub 0]
abbrev xb9 : List Value := [ub 128, ub 8, ub 1, ub 0, ub 0, ub 0, ub 9, ub 0, ub 0, ub 0, ub 0, ub 0, ub 0, ub 0, ub 0, ub 0, ub 0, ub 0, ub 0, ub 0, ub 0, ub 0, ub 0, ub 0, ub 0, ub 0, ub 0, ub 0, ub 0, ub 0, ub 0, ub 0, ub 0, ub 0, ub 0, ub 0, ub 0, ub 0, ub 0, ub 0, ub 0, ub 0, ub 0, ub 0, ub 0, ub 0, ub 0, ub 0, ub 0, ub 0, ub 0, ub 0, ub 0, ub 0, ub 0, ub 0, ub 0, ub 0, ub 0, ub 0, ub 0, ub 0, ub 0, ub 0]
abbrev xb10 : List Value := [ub 0, ub 0, ub 0, ub 0, ub 0, ub 0, ub 0, ub 0]
abbrev xb11 : List Value := [ub 9, ub 0, ub 0, ub 0, ub 0, ub 0, ub 0, ub 0]
abbrev xb12 : List Value := [ub 128, ub 8, ub 1, ub 0, ub 0, ub 0, ub 9, ub 0, ub 0, ub 0, ub 9, ub 0, ub 0, ub 0, ub 0, ub 0, ub 0, ub 0, ub 0, ub 0, ub 0, ub 0, ub 0, ub 0, ub 0, ub 0, ub 0, ub 0, ub 0, ub 0, ub 0, ub 0, ub 0, ub 0, ub 0, ub 0, ub 0, ub 0, ub 0, ub 0, ub 0, ub 0, ub 0, ub 0, ub 0, ub 0, ub 0, ub 0, ub 0, ub 0, ub 0, ub 0, ub 0, ub 0, ub 0, ub 0, ub 0, ub 0, ub 0, ub 0, ub 0, ub 0, ub 0, ub 0]
abbrev xb13 : List Value := [ub 128, ub 8, ub 1, ub 0, ub 0, ub 0, ub 9, ub 0, ub 0, ub 0, ub 9, ub 0, ub 0, ub 0, ub 0, ub 0, ub 0, ub 0, ub 97, ub 7, ub 0, ub 0, ub 0, ub 0, ub 0, ub 0, ub 0, ub 0, ub 0, ub 0, ub 0, ub 0, ub 0, ub 0, ub 0, ub 0, ub 0, ub 0, ub 0, ub 0, ub 0, ub 0, ub 0, ub 0, ub 0, ub 0, ub 0, ub 0, ub 0, ub 0, ub 0, ub 0, ub 0, ub 0, ub 0, ub 0, ub 0, ub 0, ub 0, ub 0, ub 0, ub 0, ub 0, ub 0]
abbrev xb14 : List Value := [ub 128, ub 8, ub 1, ub 0, ub 0, ub 0, ub 9, ub 0, ub 0, ub 0, ub 9, ub 0, ub 0, ub 0, ub 0, ub 0, ub 0, ub 0, ub 97, ub 7, ub 0, ub 0, ub 0, ub 0, ub 0, ub 0, ub 0]
abbrev xb15 : List Value := [ub 1, ub 0, ub 0, ub 0, ub 9, ub 0, ub 0, ub 0, ub 9, ub 0, ub 0, ub 0, ub 0, ub 0, ub 0, ub 0, ub 97, ub 7, ub 0, ub 0, ub 0, ub 0, ub 0, ub 0, ub 0]
abbrev xb16 : List Value := [ub 9, ub 0, ub 0, ub 0, ub 9, ub 0, ub 0, ub 0, ub 0, ub 0, ub 0, ub 0, ub 97, ub 7, ub 0, ub 0, ub 0, ub 0, ub 0, ub 0, ub 0]
abbrev xb17 : List Value := [ub 9, ub 0, ub 0, ub 0, ub 0, ub 0, ub 0, ub 0, ub 97, ub 7, ub 0, ub 0, ub 0, ub 0, ub 0, ub 0, ub 0]
abbrev xb18 : List Value := [ub 129, ub 8, ub 0, ub 0, ub 0, ub 0, ub 0, ub 0, ub 0, ub 0]
abbrev xb19 : List Value := [ub 129, ub 8, ub 0, ub 0, ub 0, ub 0, ub 0, ub 0, ub 0, ub 0, ub 0, ub 0, ub 0, ub 0, ub 0, ub 0, ub 0, ub 0, ub 0, ub 0, ub 0, ub 0, ub 0, ub 0, ub 0, ub 0, ub 0, ub 0, ub 0, ub 0, ub 0, ub 0, ub 0, ub 0, ub 0, ub 0, ub 0, ub 0, ub 0, ub 0, ub 0, ub 0, ub 0, ub 0, ub 0, ub 0, ub 0, ub 0, ub 0, ub 0, ub 0, ub 0, ub 0, ub 0, ub 0, ub 0, ub 0, ub 0, ub 0, ub 0, ub 0, ub 0, ub 0, ub 0]
abbrev xb20 : List Value := [ub 129, ub 8, ub 1, ub 0, ub 0, ub 0, ub 0, ub 0, ub 0, ub 0, ub 0, ub 0, ub 0, ub 0, ub 0, ub 0, ub 0, ub 0, ub 0, ub 0, ub 0, ub 0, ub 0, ub 0, ub 0, ub 0, ub 0, ub 0, ub 0, ub 0, ub 0, ub 0, ub 0, ub 0, ub 0, ub 0, ub 0, ub 0, ub 0, ub 0, ub 0, ub 0, ub 0, ub 0, ub 0, ub 0, ub 0, ub 0, ub 0, ub 0, ub 0, ub 0, ub 0, ub 0, ub 0, ub 0, ub 0, ub 0, ub 0, ub 0, ub 0, ub 0, ub 0, ub 0]
abbrev xb21 : List Value := [ub 129, ub 8, ub 1, ub 0, ub 0, ub 0, ub 0, ub 0, ub 0, ub 0, ub 0, ub 0, ub 0, ub 0, ub 1, ub 0, ub 0, ub 0, ub 0, ub 0, ub 0, ub 0, ub 0, ub 0, ub 0, ub 0, ub 0, ub 0, ub 0, ub 0, ub 0, ub 0, ub 0, ub 0, ub 0, ub 0, ub 0, ub 0, ub 0, ub 0, ub 0, ub 0, ub 0, ub 0, ub 0, ub 0, ub 0, ub 0, ub 0, ub 0, ub 0, ub 0, ub 0, ub 0, ub 0, ub 0, ub 0, ub 0, ub 0, ub 0, ub 0, ub 0, ub 0, ub 0]
abbrev xb22 : List Value := [ub 129, ub 8, ub 1, ub 0, ub 0, ub 0, ub 0, ub 0, ub 0, ub 0, ub 0, ub 0, ub 0, ub 0, ub 1, ub 0, ub 0, ub 0, ub 9, ub 0, ub 0, ub 0, ub 0, ub 0, ub 0, ub 0, ub 0, ub 0, ub 0, ub 0, ub 0, ub 0, ub 0, ub 0, ub 0, ub 0, ub 0, ub 0, ub 0, ub 0, ub 0, ub 0, ub 0, ub 0, ub 0, ub 0, ub 0, ub 0, ub 0, ub 0, ub 0, ub 0, ub 0, ub 0, ub 0, ub 0, ub 0, ub 0, ub 0, ub 0, ub 0, ub 0, ub 0, ub 0]
abbrev xb23 : List Value := [ub 129, ub 8, ub 1, ub 0, ub 0, ub 0, ub 0, ub 0, ub 0, ub 0, ub 0, ub 0, ub 0, ub 0, ub 1, ub 0, ub 0, ub 0, ub 9, ub 0, ub 0, ub 0, ub 9, ub 0, ub 0, ub 0, ub 0, ub 0, ub 0, ub 0, ub 0, ub 0, ub 0, ub 0, ub 0, ub 0, ub 0, ub 0, ub 0, ub 0, ub 0, ub 0, ub 0, ub 0, ub 0, ub 0, ub 0, ub 0, ub 0, ub 0, ub 0, ub 0, ub 0, ub 0, ub 0, ub 0, ub 0, ub 0, ub 0, ub 0, ub 0, ub 0, ub 0, ub 0]
abbrev xb24 : List Value := [ub 129, ub 8, ub 1, ub 0, ub 0, ub 0, ub 0, ub 0, ub 0, ub 0, ub 0, ub 0, ub 0, ub 0, ub 1, ub 0, ub 0, ub 0, ub 9, ub 0, ub 0, ub 0, ub 9, ub 0, ub 0, ub 0, ub 0, ub 0, ub 0, ub 0, ub 97, ub 7, ub 0, ub 0, ub 0, ub 0, ub 0, ub 0, ub 0, ub 0, ub 0, ub 0, ub 0, ub 0, ub 0, ub 0, ub 0, ub 0, ub 0, ub 0, ub 0, ub 0, ub 0, ub 0, ub 0, ub 0, ub 0, ub 0, ub 0, ub 0, ub 0, ub 0, ub 0, ub 0]
abbrev xb25 : List Value := [ub 129, ub 8, ub 1, ub 0, ub 0, ub 0, ub 0, ub 0, ub 0, ub 0, ub 0, ub 0, ub 0, ub 0, ub 1, ub 0, ub 0, ub 0, ub 9, ub 0, ub 0, ub 0, ub 9, ub 0, ub 0, ub 0, ub 0, ub 0, ub 0, ub 0, ub 97, ub 7, ub 0, ub 0, ub 0, ub 0, ub 0, ub 0, ub 0]
abbrev xb26 : List Value := [ub 1, ub 0, ub 0, ub 0, ub 0, ub 0, ub 0, ub 0, ub 0, ub 0, ub 0, ub 0, ub 1, ub 0, ub 0, ub 0, ub 9, ub 0, ub 0, ub 0, ub 9, ub 0, ub 0, ub 0, ub 0, ub 0, ub 0, ub 0, ub 97, ub 7, ub 0, ub 0, ub 0, ub 0, ub 0, ub 0, ub 0]
abbrev xb27 : List Value := [ub 0, ub 0, ub 0, ub 0, ub 0, ub 0, ub 0, ub 0, ub 1, ub 0, ub 0, ub 0, ub 9, ub 0, ub 0, ub 0, ub 9, ub 0, ub 0, ub 0, ub 0, ub 0, ub 0, ub 0, ub 97, ub 7, ub 0, ub 0, ub 0, ub 0, ub 0, ub 0, ub 0]
def GL : HP := []
theorem z0 {G : HP}  :
    CtrE Tryz.prog 75 [vq 0, S [97]] G [] (T := Unit) (fun _ => True) (fun _ => .tuple #[S [97], .bool true]) (fun _ => []) := by
  refine fn_enter 60 func75 rfl ntmps75 rfl ?_
  intro w0
  refine cR <| oA rfl <| oA rfl <| oN <| c_seq <| cR <| oM rfl <| oN <| c_block <| cR <| oI (.bool true) rfl rfl <| oA rfl <| oN <| c_then rfl <| cR <| oM rfl <| oA rfl <| oA rfl <| oN <| c_ret <| WR.sel .nil <| r_fn (l := [.tmp 4, .tmp 5]) results75 rfl rfl ?_
  exact tells (y := ()) trivial rfl rfl

theorem z1 {G : HP}  :
    CtrE Tryz.prog 39 [vq 1, vq 85, vq 0, S [97]] G [] (T := Unit) (fun _ => True) (fun _ => .agg #[vq 1, vq 85, vq 0, S [97]]) (fun _ => []) := by
  refine fn_enter 22 func39 rfl ntmps39 rfl ?_
  intro w0
  refine cR ?_
  refine o_l rfl (l_alloc zeroValue25 rfl rfl) ?_; intro g1 _
  refine oN <| cR <| oM rfl <| oM rfl ?_
  refine o_l rfl (l_calle call75 (z0 ) rfl rfl .nil) ?_; intro r2 hr2
  refine o_cat .nil <| oM rfl <| oX (e_extract rfl rfl) <| oX (e_extract rfl rfl) <| oA rfl <| oA rfl <| oN <| cR <| oM rfl <| oM rfl <| oM rfl <| oM rfl <| oX (e_build (vs := [vq 1, vq 85, vq 0, S [97]]) runUnderlying25 zeroValue25 (.cons sizeOf23 (.cons sizeOf23 (.cons sizeOf23 (.cons sizeOf9 .nil)))) rfl (by kernel_rfl)) ?_
  refine o_l rfl (l_storea sizeOf25 rfl rfl rfl (by simp [Value.oneCell']) .head (.take (.take (.take (.take .done)))) nofrs0) ?_; intro _ _
  refine oN <| c_ret <| r_fnx results39 (.cella isAgg25 sizeOf25 rfl (.inl M0) (.take (.take (.take (.take .done)))) .nil) .nil rfl ?_
  exact tells (y := ()) trivial rfl rfl

theorem z2 {G : HP}  :
    CtrE Tryz.prog 148 [] G [] (T := Nat × Nat) (fun _ => True) (fun y => .iface 328 (pv y.1)) (fun y => [(y.1, C [.map (some y.2)] 327), (y.2, Mo .u32 [])]) := by
  refine fn_enter 4 func148 rfl ntmps148 rfl ?_
  intro w0
  refine cR <| oA rfl <| oN <| cR ?_
  refine o_l rfl (l_mkmap rfl .u32) ?_; intro g1 _
  refine o_l rfl (l_alloc zeroValue327 rfl rfl) ?_; intro g2 _
  refine o_l rfl (l_store sizeOf327 rfl rfl rfl .head .head nofr0) ?_; intro _ _
  refine oN <| cR <| oX (e_mkif runUnderlying328 rfl rfl) <| oA rfl <| oN <| c_ret <| WR.sel (.cons .head (.cons .head .nil)) <| r_fn1 results148 rfl ?_
  exact tells (y := (g2, g1)) trivial rfl rfl

theorem z3 {G : HP}  :
    CtrE Tryz.prog 76 [vq 1024] G [] (T := Nat × Nat) (fun _ => True) (fun y => .tuple #[.iface 328 (pv y.1), .nilIface]) (fun y => [(y.1, C [.map (some y.2)] 327), (y.2, Mo .u32 [])]) := by
  refine fn_enter 13 func76 rfl ntmps76 rfl ?_
  intro w0
  refine cR <| oA rfl <| oA rfl <| oN <| cR <| oM rfl <| oN <| c_block <| cR <| oI (.bool true) rfl rfl <| oA rfl <| oN <| c_then rfl <| cR ?_
  refine o_l rfl (l_calle call148 (z2 ) rfl rfl .nil) ?_; intro r1 hr1
  refine o_cat (.cons (.cons .nil)) <| oA rfl <| oA rfl <| oN <| c_ret <| WR.sel (.cons .head (.cons .head .nil)) <| r_fn (l := [.tmp 2, .tmp 3]) results76 rfl rfl ?_
  exact tells (y := (r1.1, r1.2)) trivial rfl rfl

theorem z4 {G : HP}  :
    CtrE Tryz.prog 123 [vq 0] G [] (T := Unit) (fun _ => True) (fun _ => vi 0) (fun _ => []) := by
  refine fn_enter 25 func123 rfl ntmps123 rfl ?_
  intro w0
  refine cR <| oA rfl <| oN <| c_seq <| cR <| oM rfl <| oI (.bool false) rfl rfl <| oN <| cL rfl <| c_seq <| cR <| oM rfl <| oI (.bool false) rfl rfl <| oN <| cL rfl <| c_seq <| cR <| oM rfl <| oI (.bool false) rfl rfl <| oN <| cL rfl ?_
  refine cR <| oM rfl <| oM rfl <| oX (e_convc (r := ub 0) runUnderlying23 runUnderlying5 rfl (by kernel_rfl)) <| oX (e_as (r := ub 0) (e_sidx (b := 0) runUnderlying9 rfl rfl (by decide) (by kernel_rfl)) (by kernel_rfl)) <| oX (e_convc (r := vi 0) runUnderlying5 runUnderlying3 rfl (by kernel_rfl)) <| oI (vi 0) rfl rfl <| oA rfl <| oN <| c_ret <| WR.sel .nil ?_
  refine r_fn1 results123 rfl ?_
  exact tells (y := ()) trivial rfl rfl

theorem z5 {G : HP}  :
    CtrE Tryz.prog 185 [vq 0] G [] (T := Unit) (fun _ => True) (fun _ => vi 1) (fun _ => []) := by
  refine fn_enter 23 func185 rfl ntmps185 rfl ?_
  intro w0
  refine cR <| oA rfl <| oN <| cR <| oM rfl ?_
  refine o_l rfl (l_calle call123 (z4 ) rfl rfl .nil) ?_; intro r1 hr1
  refine o_cat .nil <| oA rfl <| oN <| cR <| oM rfl <| oI (vi 0) rfl rfl <| oM rfl <| oI (vi 0) rfl rfl <| oA rfl <| oA rfl <| oN <| cR <| oM rfl <| oA rfl <| oN <| c_seq <| cR <| oM rfl <| oI (.bool false) rfl rfl <| oM rfl <| oX (e_move rfl) ?_
  refine oX (e_int (r := .bool true) rfl rfl (by kernel_rfl)) <| oX (e_pick_f rfl rfl) <| oN <| c_then rfl <| c_region <| oM rfl <| oI (vi 1) rfl rfl <| oA rfl <| oN <| cR <| oM rfl <| oA rfl <| oN <| c_ret <| WR.sel .nil <| r_fn1 results185 rfl ?_
  exact tells (y := ()) trivial rfl rfl

theorem z6 {G : HP}  :
    CtrE Tryz.prog 123 [vq 1] G [] (T := Unit) (fun _ => True) (fun _ => vi 1) (fun _ => []) := by
  refine fn_enter 25 func123 rfl ntmps123 rfl ?_
  intro w0
  refine cR <| oA rfl <| oN <| c_seq <| cR <| oM rfl <| oI (.bool false) rfl rfl <| oN <| cL rfl <| c_seq <| cR <| oM rfl <| oI (.bool false) rfl rfl <| oN <| cL rfl <| c_seq <| cR <| oM rfl <| oI (.bool false) rfl rfl <| oN <| cL rfl ?_
  refine cR <| oM rfl <| oM rfl <| oX (e_convc (r := ub 1) runUnderlying23 runUnderlying5 rfl (by kernel_rfl)) <| oX (e_as (r := ub 1) (e_sidx (b := 1) runUnderlying9 rfl rfl (by decide) (by kernel_rfl)) (by kernel_rfl)) <| oX (e_convc (r := vi 1) runUnderlying5 runUnderlying3 rfl (by kernel_rfl)) <| oI (vi 1) rfl rfl <| oA rfl <| oN <| c_ret <| WR.sel .nil ?_
  refine r_fn1 results123 rfl ?_
  exact tells (y := ()) trivial rfl rfl

theorem z7 {G : HP}  :
    CtrE Tryz.prog 185 [vq 1] G [] (T := Unit) (fun _ => True) (fun _ => vi 1) (fun _ => []) := by
  refine fn_enter 23 func185 rfl ntmps185 rfl ?_
  intro w0
  refine cR <| oA rfl <| oN <| cR <| oM rfl ?_
  refine o_l rfl (l_calle call123 (z6 ) rfl rfl .nil) ?_; intro r1 hr1
  refine o_cat .nil <| oA rfl <| oN <| cR <| oM rfl <| oI (vi 0) rfl rfl <| oM rfl <| oI (vi 1) rfl rfl <| oA rfl <| oA rfl <| oN <| cR <| oM rfl <| oA rfl <| oN <| c_seq <| cR <| oM rfl <| oI (.bool true) rfl rfl <| oM rfl <| oS <| oS <| oX (e_pick_t rfl rfl) ?_
  refine oN <| c_then rfl <| c_region <| oM rfl <| oI (vi 1) rfl rfl <| oA rfl <| oN <| cR <| oM rfl <| oA rfl <| oN <| c_ret <| WR.sel .nil <| r_fn1 results185 rfl ?_
  exact tells (y := ()) trivial rfl rfl

theorem z8 {G : HP} (p0 : Nat) :
    CtrE Tryz.prog 150 [.slice (ad p0 0) 3 3, vq 0] G [(p0, C [ub 0, ub 0, ub 0] 5)] (T := Unit) (fun _ => True) (fun _ => vi 1) (fun _ => [(p0, C [ub 0, ub 0, ub 0] 5)]) := by
  refine fn_enter 25 func150 rfl ntmps150 rfl ?_
  intro w0
  refine cR <| oA rfl <| oN <| cR <| oA rfl <| oN <| c_seq <| c_block <| c_rounds 999 <| c_seq <| cR <| oM rfl <| oI (.bool false) rfl rfl <| oN <| c_else rfl <| c_exit <| x_code <| x_upto <| x_here <| n_code <| cR <| oM rfl <| oM rfl <| oM rfl <| oX (e_convc (r := ub 0) runUnderlying23 runUnderlying5 rfl (by kernel_rfl)) ?_
  refine oX (eA (pv p0) (e_ia runUnderlying72 sizeOf5 rfl rfl (by decide) (by decide))) ?_
  refine o_l rfl (l_store sizeOf5 rfl rfl rfl .head .head nofr0) ?_; intro _ _
  refine oN <| cR <| oM rfl <| oI (vi 1) rfl rfl <| oA rfl <| oN <| c_ret <| WR.sel (.cons .head .nil) <| r_fn1 results150 rfl ?_
  exact tells (y := ()) trivial rfl rfl

theorem z9 {G : HP} (p0 : Nat) :
    CtrE Tryz.prog 77 [.slice (ad p0 0) 3 3, vq 0] G [(p0, C [ub 0, ub 0, ub 0] 5)] (T := Unit) (fun _ => True) (fun _ => vi 1) (fun _ => [(p0, C [ub 0, ub 0, ub 0] 5)]) := by
  refine fn_enter 8 func77 rfl ntmps77 rfl ?_
  intro w0
  refine cR <| oA rfl <| oN <| cR <| oM rfl <| oM rfl ?_
  refine o_l rfl (l_calle call150 (z8 (p0)) rfl rfl (.cons .head .nil)) ?_; intro r1 hr1
  refine o_cat (.cons .nil) <| oA rfl <| oN <| c_ret <| WR.sel (.cons .head .nil) <| r_fn1 results77 rfl ?_
  exact tells (y := ()) trivial rfl rfl

theorem z10 {G : HP} (p0 : Nat) :
    CtrE Tryz.prog 150 [.slice (ad p0 1) 2 2, vq 1] G [(p0, C [ub 0, ub 0, ub 0] 5)] (T := Unit) (fun _ => True) (fun _ => vi 1) (fun _ => [(p0, C [ub 0, ub 1, ub 0] 5)]) := by
  refine fn_enter 25 func150 rfl ntmps150 rfl ?_
  intro w0
  refine cR <| oA rfl <| oN <| cR <| oA rfl <| oN <| c_seq <| c_block <| c_rounds 999 <| c_seq <| cR <| oM rfl <| oI (.bool false) rfl rfl <| oN <| c_else rfl <| c_exit <| x_code <| x_upto <| x_here <| n_code <| cR <| oM rfl <| oM rfl <| oM rfl <| oX (e_convc (r := ub 1) runUnderlying23 runUnderlying5 rfl (by kernel_rfl)) ?_
  refine oX (eA (.pointer (ad p0 1)) (e_ia runUnderlying72 sizeOf5 rfl rfl (by decide) (by decide))) ?_
  refine o_l rfl (l_store sizeOf5 rfl rfl rfl .head (.tail .head) nofr0) ?_; intro _ _
  refine oN <| cR <| oM rfl <| oI (vi 1) rfl rfl <| oA rfl <| oN <| c_ret <| WR.sel (.cons .head .nil) <| r_fn1 results150 rfl ?_
  exact tells (y := ()) trivial rfl rfl

theorem z11 {G : HP} (p0 : Nat) :
    CtrE Tryz.prog 77 [.slice (ad p0 1) 2 2, vq 1] G [(p0, C [ub 0, ub 0, ub 0] 5)] (T := Unit) (fun _ => True) (fun _ => vi 1) (fun _ => [(p0, C [ub 0, ub 1, ub 0] 5)]) := by
  refine fn_enter 8 func77 rfl ntmps77 rfl ?_
  intro w0
  refine cR <| oA rfl <| oN <| cR <| oM rfl <| oM rfl ?_
  refine o_l rfl (l_calle call150 (z10 (p0)) rfl rfl (.cons .head .nil)) ?_; intro r1 hr1
  refine o_cat (.cons .nil) <| oA rfl <| oN <| c_ret <| WR.sel (.cons .head .nil) <| r_fn1 results77 rfl ?_
  exact tells (y := ()) trivial rfl rfl

theorem z12 {G : HP} (q0 : Tl) (h0 : TlOk 1 1 q0) :
    CtrE Tryz.prog 133 [.slice (ad q0.g 0) 1 q0.cap, vq 0] G [(q0.g, Ob [ub 97] q0 5)] (T := Nat) (fun _ => True) (fun y => .tuple #[.slice (ad y 0) 3 3, .nilIface]) (fun y => [(q0.g, Ob [ub 97] q0 5), (y, C [ub 0, ub 1, ub 97] 5)]) := by
  refine fn_enter 37 func133 rfl ntmps133 rfl ?_
  intro w0
  refine cR <| oA rfl <| oA rfl <| oN <| cR <| oM rfl ?_
  refine o_l rfl (l_calle call185 (z5 ) rfl rfl .nil) ?_; intro r1 hr1
  refine o_cat .nil <| oM rfl <| oX (eA (vi 1) (e_lenl runUnderlying72 rfl)) <| oX (e_convc (r := vq 1) runUnderlying3 runUnderlying23 rfl (by kernel_rfl)) ?_
  refine o_l rfl (l_calle call185 (z7 ) rfl rfl .nil) ?_; intro r2 hr2
  refine o_cat .nil <| oI (vi 2) rfl rfl <| oM rfl <| oX (eA (vi 1) (e_lenl runUnderlying72 rfl)) <| oI (vi 3) rfl rfl ?_
  refine o_l rfl (l_mksc (l := [ub 0, ub 0, ub 0]) (n := 3) (m := 3) underlying72 (info_of typeInfo5) rfl rfl rfl rfl rfl rfl rfl (by decide) (by kernel_rfl)) ?_; intro g3 _
  refine oA rfl <| oN <| cR <| oM rfl <| oM rfl ?_
  refine o_l rfl (l_calle call77 (z9 (g3)) rfl rfl (.cons .head .nil)) ?_; intro r4 hr4
  refine o_cat (.cons .nil) <| oA rfl <| oN <| cR <| oM rfl <| oM rfl <| oM rfl <| oX (e_as (r := .slice (ad g3 1) 2 2) (e_sl_l runUnderlying72 sizeOf5 rfl rfl (by decide) (by decide) (by decide)) (by first | rfl | (simp; try omega))) <| oM rfl <| oX (eA (vi 1) (e_lenl runUnderlying72 rfl)) <| oX (e_convc (r := vq 1) runUnderlying3 runUnderlying23 rfl (by kernel_rfl)) ?_
  refine o_l rfl (l_calle call77 (z11 (g3)) rfl rfl (.cons .head .nil)) ?_; intro r5 hr5
  refine o_cat (.cons .nil) <| oI (vi 2) rfl rfl <| oA rfl <| oN <| cR <| oM rfl <| oM rfl <| oX (e_as (r := .slice (ad g3 2) 1 1) (e_sl_l runUnderlying72 sizeOf5 rfl rfl (by decide) (by decide) (by decide)) (by first | rfl | (simp; try omega))) <| oM rfl ?_
  refine o_l rfl (l_copy (vs := [ub 97]) (k' := 1) runUnderlying72 sizeOf5 rfl rfl rfl (Sv.blk (vs := [ub 97]) underlying72 (.inl M1) (.take .done) (by simp [Value.oneCell'])) rfl .head (.skip (.skip (.take .done))) (.inr rfl)) ?_; intro _ _
  refine oN <| cR <| oM rfl <| oA rfl <| oA rfl <| oN <| c_ret <| WR.sel (.cons (.tail .head) (.cons .head .nil)) <| r_fn (l := [.tmp 4, .tmp 5]) results133 rfl rfl ?_
  exact tells (y := (g3)) trivial rfl rfl

theorem z13 {G : HP}  :
    CtrE Tryz.prog 123 [vq 85] G [] (T := Unit) (fun _ => True) (fun _ => vi 7) (fun _ => []) := by
  refine fn_enter 25 func123 rfl ntmps123 rfl ?_
  intro w0
  refine cR <| oA rfl <| oN <| c_seq <| cR <| oM rfl <| oI (.bool false) rfl rfl <| oN <| cL rfl <| c_seq <| cR <| oM rfl <| oI (.bool false) rfl rfl <| oN <| cL rfl <| c_seq <| cR <| oM rfl <| oI (.bool false) rfl rfl <| oN <| cL rfl ?_
  refine cR <| oM rfl <| oM rfl <| oX (e_convc (r := ub 85) runUnderlying23 runUnderlying5 rfl (by kernel_rfl)) <| oX (e_as (r := ub 7) (e_sidx (b := 7) runUnderlying9 rfl rfl (by decide) (by kernel_rfl)) (by kernel_rfl)) <| oX (e_convc (r := vi 7) runUnderlying5 runUnderlying3 rfl (by kernel_rfl)) <| oI (vi 7) rfl rfl <| oA rfl <| oN <| c_ret <| WR.sel .nil ?_
  refine r_fn1 results123 rfl ?_
  exact tells (y := ()) trivial rfl rfl

theorem z14 {G : HP}  :
    CtrE Tryz.prog 185 [vq 85] G [] (T := Unit) (fun _ => True) (fun _ => vi 1) (fun _ => []) := by
  refine fn_enter 23 func185 rfl ntmps185 rfl ?_
  intro w0
  refine cR <| oA rfl <| oN <| cR <| oM rfl ?_
  refine o_l rfl (l_calle call123 (z13 ) rfl rfl .nil) ?_; intro r1 hr1
  refine o_cat .nil <| oA rfl <| oN <| cR <| oM rfl <| oI (vi 1) rfl rfl <| oM rfl <| oI (vi 0) rfl rfl <| oA rfl <| oA rfl <| oN <| cR <| oM rfl <| oA rfl <| oN <| c_seq <| cR <| oM rfl <| oI (.bool false) rfl rfl <| oM rfl <| oX (e_move rfl) ?_
  refine oX (e_int (r := .bool false) rfl rfl (by kernel_rfl)) <| oX (e_pick_f rfl rfl) <| oN <| cL rfl <| cR <| oM rfl <| oA rfl <| oN <| c_ret <| WR.sel .nil <| r_fn1 results185 rfl ?_
  exact tells (y := ()) trivial rfl rfl

theorem z15 {G : HP} (p0 : Nat) :
    CtrE Tryz.prog 216 [pv p0] G [(p0, C [.pointer none, .slice none 0 0] 307)] (T := Unit) (fun _ => True) (fun _ => .tuple #[]) (fun _ => [(p0, C [pv p0, .slice none 0 0] 307)]) := by
  refine fn_enter 20 func216 rfl ntmps216 rfl ?_
  intro w0
  refine cR <| oM rfl <| oC rfl <| oX (eA (pv p0) (e_fa runUnderlying307 rfl sizeOf305 rfl rfl)) <| oX (e_load isAgg305 rfl (.inl M0) rfl) <| oX (eA (.bool true) (e_peqn runUnderlying305 rfl)) <| oN <| c_then rfl <| c_region <| oM rfl <| oM rfl <| oX (e_tou underlying305 underlying123 (info_of typeInfo307) rfl rfl (.inl M0) rfl) ?_
  refine oX (e_ext rfl (fun w => ext225 _ w)) <| oX (e_fromu underlying123 underlying305 (info_of typeInfo307) rfl (.inl M0) (by kernel_rfl)) <| oC rfl <| oX (eA (pv p0) (e_fa runUnderlying307 rfl sizeOf305 rfl rfl)) ?_
  refine o_l rfl (l_store sizeOf305 rfl rfl rfl .head .head nofr0) ?_; intro _ _
  refine o_nil <| WN.sel (.cons .head .nil) <| n_fn0 results216 ?_
  exact tells (y := ()) trivial rfl rfl

theorem z16 {G : HP} (p0 : Nat) :
    CtrE Tryz.prog 217 [pv p0, vi 5] G [(p0, C [pv p0, .slice none 0 0] 307)] (T := Tl) (fun y => TlOk 1 0 y) (fun y => .tuple #[]) (fun y => [(p0, C [pv p0, .slice (ad y.g 0) 0 y.cap] 307), (y.g, Ob [] y 5)]) := by
  refine fn_enter 30 func217 rfl ntmps217 rfl ?_
  intro w0
  refine c_seq <| c_regiond [(p0, C [pv p0, .slice none 0 0] 307)] (by kernel_rfl) (.cons_cons _ (.slnil)) <| dX 0 rfl (e_move rfl) <| dX 1 rfl (e_nilCheck rfl) ?_
  refine dX 2 rfl (eA (.pointer (ad p0 1)) (e_fa runUnderlying307 rfl sizeOf72 rfl rfl)) <| dX 3 rfl (e_load isAgg72 rfl (.inl M0) rfl) ?_
  refine dX 4 rfl (eA (vi 0) (e_cap runUnderlying72 rfl)) <| dX 5 rfl (e_int (r := vi 0) rfl rfl (by kernel_rfl)) <| dX 6 rfl (e_move rfl) ?_
  refine dX 7 rfl (e_int (r := vi 5) rfl rfl (by kernel_rfl)) <| dX 9 rfl (e_move rfl) <| dX 10 rfl (e_nilCheck rfl) ?_
  refine dX 11 rfl (eA (.pointer (ad p0 1)) (e_fa runUnderlying307 rfl sizeOf72 rfl rfl)) <| dX 12 rfl (e_load isAgg72 rfl (.inl M0) rfl) ?_
  refine dX 13 rfl (eA (vi 0) (e_lenl runUnderlying72 rfl)) <| d_l 8 (by kernel_rfl) rfl rfl (l_mnz (ps := #[3]) (rt := 72) func226 (by kernel_rfl) (by kernel_rfl) (by kernel_rfl) (by kernel_rfl) underlying72 rfl rfl rfl) (fun _ _ => hs_cons M1 (hs_nil)) ?_
  intro y1 hy1
  refine dX 14 rfl (eA (.slice (ad y1.g 0) 0 y1.cap) (e_sl_h runUnderlying72 sizeOf5 rfl rfl (by decide) (by have := hy1.1.le; omega))) <| dX 15 rfl (e_assign rfl) <| dN <| n_code <| cR <| oM rfl <| oM rfl <| oC rfl ?_
  refine oX (eA (.pointer (ad p0 1)) (e_fa runUnderlying307 rfl sizeOf72 rfl rfl)) <| oX (e_load isAgg72 rfl (.inl M1) rfl) <| oX (e_copyn runUnderlying72 sizeOf5 rfl rfl (Sv.nil underlying72) rfl) <| oN <| c_region <| oM rfl <| oM rfl <| oC rfl <| oX (eA (.pointer (ad p0 1)) (e_fa runUnderlying307 rfl sizeOf72 rfl rfl)) ?_
  refine o_l rfl (l_store sizeOf72 rfl rfl rfl (.tail .head) (.tail .head) nofr0) ?_; intro _ _
  refine o_nil <| WN.sel (.cons (.tail .head) (.cons .head .nil)) <| n_fn0 results217 ?_
  exact tells (y := (y1)) hy1.1 rfl rfl

theorem z17 {G : HP} (p0 : Nat) :
    CtrE Tryz.prog 187 [pv p0, vi 5] G [(p0, C [.pointer none, .slice none 0 0] 307)] (T := Tl) (fun y => TlOk 1 0 y) (fun y => .tuple #[]) (fun y => [(p0, C [pv p0, .slice (ad y.g 0) 0 y.cap] 307), (y.g, Ob [] y 5)]) := by
  refine fn_enter 25 func187 rfl ntmps187 rfl ?_
  intro w0
  refine cR <| oM rfl ?_
  refine o_l rfl (l_calle call216 (z15 (p0)) rfl rfl (.cons .head .nil)) ?_; intro r1 hr1
  refine o_cat (.cons .nil) <| oN <| c_seq <| cR <| oM rfl <| oI (.bool false) rfl rfl <| oN <| cL rfl <| c_seq <| cQ <| qM rfl <| qC rfl <| qX (eA (.pointer (ad p0 1)) (e_fa runUnderlying307 rfl sizeOf72 rfl rfl)) <| qX (e_load isAgg72 rfl (.inl M0) rfl) ?_
  refine qX (eA (vi 0) (e_cap runUnderlying72 rfl)) <| qM rfl <| qC rfl <| qX (eA (.pointer (ad p0 1)) (e_fa runUnderlying307 rfl sizeOf72 rfl rfl)) <| qX (e_load isAgg72 rfl (.inl M0) rfl) <| qX (eA (vi 0) (e_lenl runUnderlying72 rfl)) ?_
  refine qX (e_int (r := vi 0) rfl rfl (by kernel_rfl)) <| qM rfl <| qX (e_int (r := .bool true) rfl rfl (by kernel_rfl)) <| qN <| c_then rfl <| c_region <| oM rfl <| oM rfl ?_
  refine o_l rfl (l_calle call217 (z16 (p0)) rfl rfl (.cons .head .nil)) ?_; intro r2 hr2
  refine o_cat (.cons (.cons .nil)) <| o_nil <| WN.sel (.cons .head (.cons .head .nil)) <| n_fn0 results187 ?_
  exact tells (y := (r2)) hr2 rfl rfl

theorem z18 {G : HP} (p0 : Nat) (q1 : Tl) (h1 : TlOk 1 0 q1) :
    CtrE Tryz.prog 216 [pv p0] G [(p0, C [pv p0, .slice (ad q1.g 0) 0 q1.cap] 307), (q1.g, Ob [] q1 5)] (T := Unit) (fun _ => True) (fun _ => .tuple #[]) (fun _ => [(p0, C [pv p0, .slice (ad q1.g 0) 0 q1.cap] 307), (q1.g, Ob [] q1 5)]) := by
  refine fn_enter 20 func216 rfl ntmps216 rfl ?_
  intro w0
  refine cR <| oM rfl <| oC rfl <| oX (eA (pv p0) (e_fa runUnderlying307 rfl sizeOf305 rfl rfl)) <| oX (e_load isAgg305 rfl (.inl M0) rfl) <| oX (eA (.bool false) (e_peqn runUnderlying305 rfl)) <| oN <| c_else rfl <| cR <| oM rfl <| oC rfl ?_
  refine oX (eA (pv p0) (e_fa runUnderlying307 rfl sizeOf305 rfl rfl)) <| oX (e_load isAgg305 rfl (.inl M0) rfl) <| oM rfl <| oX (e_pne_same runUnderlying305 sizeOf307 (by decide) rfl rfl) <| oN <| c_else rfl <| c_skip <| WN.sel (.cons .head (.cons .head .nil)) <| n_fn0 results216 ?_
  exact tells (y := ()) trivial rfl rfl

theorem z19 {G : HP} (p0 : Nat) (q1 : Tl) (h1 : TlOk 1 0 q1) :
    CtrE Tryz.prog 188 [pv p0, ub 1] G [(p0, C [pv p0, .slice (ad q1.g 0) 0 q1.cap] 307), (q1.g, Ob [] q1 5)] (T := Tl) (fun y => TlOk 1 1 y) (fun y => .nilIface) (fun y => [(p0, C [pv p0, .slice (ad y.g 0) 1 y.cap] 307), (y.g, Ob [ub 1] y 5)]) := by
  refine fn_enter 17 func188 rfl ntmps188 rfl ?_
  intro w0
  refine cR <| oA rfl <| oN <| cR <| oM rfl ?_
  refine o_l rfl (l_calle call216 (z18 (p0) q1 h1) rfl rfl (.cons .head (.cons .head .nil))) ?_; intro r1 hr1
  refine o_cat (.cons (.cons .nil)) <| oN <| cR <| oM rfl <| oM rfl <| oC rfl <| oX (eA (.pointer (ad p0 1)) (e_fa runUnderlying307 rfl sizeOf72 rfl rfl)) <| oX (e_load isAgg72 rfl (.inl M0) rfl) <| oM rfl ?_
  refine o_l rfl (l_bs1 runUnderlying72 sizeOf5 zeroValue5 rfl rfl rfl) ?_; intro g2 _
  refine o_l rfl (l_app (off := 1) (L := [ub 1]) underlying72 (info_of typeInfo5) rfl rfl rfl rfl rfl rfl (.tail (.tail .head)) (h1.len rfl) (by have := h1.le; omega) h1.lt h1.mark .done (Sv.blk (vs := [ub 1]) underlying72 (.inl M0) (.take .done) (by simp [Value.oneCell'])) .nil rfl rfl rfl rfl) ?_; intro y3 hy3
  refine oC rfl <| oX (eA (.pointer (ad p0 1)) (e_fa runUnderlying307 rfl sizeOf72 rfl rfl)) ?_
  refine o_l rfl (l_store sizeOf72 rfl rfl rfl (.tail (.tail .head)) (.tail .head) nofr0) ?_; intro _ _
  refine oN <| cR <| oA rfl <| oN <| c_ret <| WR.sel (.cons (.tail (.tail .head)) (.cons .head .nil)) <| r_fn1 results188 rfl ?_
  exact tells (y := (y3)) hy3 rfl rfl
end Go.Proofs
namespace Go.Proofs
open Go Go.Sl Tryz
set_option maxRecDepth 100000
set_option maxHeartbeats 4000000
theorem z20 {G : HP} (p0 : Nat) :
    CtrE Tryz.prog 150 [.slice (ad p0 0) 10 10, vq 85] G [(p0, C xb0 310)] (T := Unit) (fun _ => True) (fun _ => vi 1) (fun _ => [(p0, C xb1 310)]) := by
  refine fn_enter 25 func150 rfl ntmps150 rfl ?_
  intro w0
  refine cR <| oA rfl <| oN <| cR <| oA rfl <| oN <| c_seq <| c_block <| c_rounds 999 <| c_seq <| cR <| oM rfl <| oI (.bool false) rfl rfl <| oN <| c_else rfl <| c_exit <| x_code <| x_upto <| x_here <| n_code <| cR <| oM rfl <| oM rfl <| oM rfl <| oX (e_convc (r := ub 85) runUnderlying23 runUnderlying5 rfl (by kernel_rfl)) ?_
  refine oX (eA (pv p0) (e_ia runUnderlying72 sizeOf5 rfl rfl (by decide) (by decide))) ?_
  refine o_l rfl (l_store sizeOf5 rfl rfl rfl .head .head nofr0) ?_; intro _ _
  refine oN <| cR <| oM rfl <| oI (vi 1) rfl rfl <| oA rfl <| oN <| c_ret <| WR.sel (.cons .head .nil) <| r_fn1 results150 rfl ?_
  exact tells (y := ()) trivial rfl rfl

theorem z21 {G : HP} (p0 : Nat) :
    CtrE Tryz.prog 77 [.slice (ad p0 0) 10 10, vq 85] G [(p0, C xb0 310)] (T := Unit) (fun _ => True) (fun _ => vi 1) (fun _ => [(p0, C xb1 310)]) := by
  refine fn_enter 8 func77 rfl ntmps77 rfl ?_
  intro w0
  refine cR <| oA rfl <| oN <| cR <| oM rfl <| oM rfl ?_
  refine o_l rfl (l_calle call150 (z20 (p0)) rfl rfl (.cons .head .nil)) ?_; intro r1 hr1
  refine o_cat (.cons .nil) <| oA rfl <| oN <| c_ret <| WR.sel (.cons .head .nil) <| r_fn1 results77 rfl ?_
  exact tells (y := ()) trivial rfl rfl

theorem z22 {G : HP} (p0 : Nat) (q1 : Tl) (h1 : TlOk 1 1 q1) :
    CtrE Tryz.prog 216 [pv p0] G [(p0, C [pv p0, .slice (ad q1.g 0) 1 q1.cap] 307), (q1.g, Ob [ub 1] q1 5)] (T := Unit) (fun _ => True) (fun _ => .tuple #[]) (fun _ => [(p0, C [pv p0, .slice (ad q1.g 0) 1 q1.cap] 307), (q1.g, Ob [ub 1] q1 5)]) := by
  refine fn_enter 20 func216 rfl ntmps216 rfl ?_
  intro w0
  refine cR <| oM rfl <| oC rfl <| oX (eA (pv p0) (e_fa runUnderlying307 rfl sizeOf305 rfl rfl)) <| oX (e_load isAgg305 rfl (.inl M0) rfl) <| oX (eA (.bool false) (e_peqn runUnderlying305 rfl)) <| oN <| c_else rfl <| cR <| oM rfl <| oC rfl ?_
  refine oX (eA (pv p0) (e_fa runUnderlying307 rfl sizeOf305 rfl rfl)) <| oX (e_load isAgg305 rfl (.inl M0) rfl) <| oM rfl <| oX (e_pne_same runUnderlying305 sizeOf307 (by decide) rfl rfl) <| oN <| c_else rfl <| c_skip <| WN.sel (.cons .head (.cons .head .nil)) <| n_fn0 results216 ?_
  exact tells (y := ()) trivial rfl rfl

theorem z23 {G : HP} (p0 : Nat) (q1 : Tl) (h1 : TlOk 1 1 q1) (p2 : Nat) :
    CtrE Tryz.prog 189 [pv p0, .slice (ad p2 0) 1 10] G [(p0, C [pv p0, .slice (ad q1.g 0) 1 q1.cap] 307), (q1.g, Ob [ub 1] q1 5), (p2, C xb1 310)] (T := Tl) (fun y => TlOk 1 2 y) (fun y => .tuple #[vi 1, .nilIface]) (fun y => [(p0, C [pv p0, .slice (ad y.g 0) 2 y.cap] 307), (p2, C xb1 310), (y.g, Ob [ub 1, ub 85] y 5)]) := by
  refine fn_enter 19 func189 rfl ntmps189 rfl ?_
  intro w0
  refine cR <| oA rfl <| oA rfl <| oN <| cR <| oM rfl ?_
  refine o_l rfl (l_calle call216 (z22 (p0) q1 h1) rfl rfl (.cons .head (.cons .head .nil))) ?_; intro r1 hr1
  refine o_cat (.cons (.cons .nil)) <| oN <| cR <| oM rfl <| oM rfl <| oC rfl <| oX (eA (.pointer (ad p0 1)) (e_fa runUnderlying307 rfl sizeOf72 rfl rfl)) <| oX (e_load isAgg72 rfl (.inl M0) rfl) <| oM rfl ?_
  refine o_l rfl (l_app (off := 2) (L := [ub 1, ub 85]) underlying72 (info_of typeInfo5) rfl rfl rfl rfl rfl rfl (.tail .head) (h1.len rfl) (by have := h1.le; omega) h1.lt h1.mark (.take .done) (Sv.blk (vs := [ub 85]) underlying72 (.inl M2) (.take .done) (by simp [Value.oneCell'])) (.cons .nil) rfl rfl rfl rfl) ?_; intro y2 hy2
  refine oC rfl <| oX (eA (.pointer (ad p0 1)) (e_fa runUnderlying307 rfl sizeOf72 rfl rfl)) ?_
  refine o_l rfl (l_store sizeOf72 rfl rfl rfl (.tail .head) (.tail .head) nofr0) ?_; intro _ _
  refine oN <| cR <| oM rfl <| oX (eA (vi 1) (e_lenl runUnderlying72 rfl)) <| oA rfl <| oA rfl <| oN <| c_ret <| WR.sel (.cons (.tail .head) (.cons (.tail .head) (.cons .head .nil))) <| r_fn (l := [.tmp 4, .tmp 5]) results189 rfl rfl ?_
  exact tells (y := (y2)) hy2 rfl rfl

theorem z24 {G : HP} (p0 : Nat) (q1 : Tl) (h1 : TlOk 1 2 q1) :
    CtrE Tryz.prog 216 [pv p0] G [(p0, C [pv p0, .slice (ad q1.g 0) 2 q1.cap] 307), (q1.g, Ob [ub 1, ub 85] q1 5)] (T := Unit) (fun _ => True) (fun _ => .tuple #[]) (fun _ => [(p0, C [pv p0, .slice (ad q1.g 0) 2 q1.cap] 307), (q1.g, Ob [ub 1, ub 85] q1 5)]) := by
  refine fn_enter 20 func216 rfl ntmps216 rfl ?_
  intro w0
  refine cR <| oM rfl <| oC rfl <| oX (eA (pv p0) (e_fa runUnderlying307 rfl sizeOf305 rfl rfl)) <| oX (e_load isAgg305 rfl (.inl M0) rfl) <| oX (eA (.bool false) (e_peqn runUnderlying305 rfl)) <| oN <| c_else rfl <| cR <| oM rfl <| oC rfl ?_
  refine oX (eA (pv p0) (e_fa runUnderlying307 rfl sizeOf305 rfl rfl)) <| oX (e_load isAgg305 rfl (.inl M0) rfl) <| oM rfl <| oX (e_pne_same runUnderlying305 sizeOf307 (by decide) rfl rfl) <| oN <| c_else rfl <| c_skip <| WN.sel (.cons .head (.cons .head .nil)) <| n_fn0 results216 ?_
  exact tells (y := ()) trivial rfl rfl

theorem z25 {G : HP} (p0 : Nat) (q1 : Tl) (h1 : TlOk 1 2 q1) (p2 : Nat) :
    CtrE Tryz.prog 189 [pv p0, .slice (ad p2 0) 3 3] G [(p0, C [pv p0, .slice (ad q1.g 0) 2 q1.cap] 307), (q1.g, Ob [ub 1, ub 85] q1 5), (p2, C [ub 0, ub 1, ub 97] 5)] (T := Tl) (fun y => TlOk 1 5 y) (fun y => .tuple #[vi 3, .nilIface]) (fun y => [(p0, C [pv p0, .slice (ad y.g 0) 5 y.cap] 307), (p2, C [ub 0, ub 1, ub 97] 5), (y.g, Ob xb2 y 5)]) := by
  refine fn_enter 19 func189 rfl ntmps189 rfl ?_
  intro w0
  refine cR <| oA rfl <| oA rfl <| oN <| cR <| oM rfl ?_
  refine o_l rfl (l_calle call216 (z24 (p0) q1 h1) rfl rfl (.cons .head (.cons .head .nil))) ?_; intro r1 hr1
  refine o_cat (.cons (.cons .nil)) <| oN <| cR <| oM rfl <| oM rfl <| oC rfl <| oX (eA (.pointer (ad p0 1)) (e_fa runUnderlying307 rfl sizeOf72 rfl rfl)) <| oX (e_load isAgg72 rfl (.inl M0) rfl) <| oM rfl ?_
  refine o_l rfl (l_app (off := 5) (L := xb2) underlying72 (info_of typeInfo5) rfl rfl rfl rfl rfl rfl (.tail .head) (h1.len rfl) (by have := h1.le; omega) h1.lt h1.mark (.take (.take .done)) (Sv.blk (vs := [ub 0, ub 1, ub 97]) underlying72 (.inl M2) (.take (.take (.take .done))) (by simp [Value.oneCell'])) (.cons (.cons .nil)) rfl rfl rfl rfl) ?_; intro y2 hy2
  refine oC rfl <| oX (eA (.pointer (ad p0 1)) (e_fa runUnderlying307 rfl sizeOf72 rfl rfl)) ?_
  refine o_l rfl (l_store sizeOf72 rfl rfl rfl (.tail .head) (.tail .head) nofr0) ?_; intro _ _
  refine oN <| cR <| oM rfl <| oX (eA (vi 3) (e_lenl runUnderlying72 rfl)) <| oA rfl <| oA rfl <| oN <| c_ret <| WR.sel (.cons (.tail .head) (.cons (.tail .head) (.cons .head .nil))) <| r_fn (l := [.tmp 4, .tmp 5]) results189 rfl rfl ?_
  exact tells (y := (y2)) hy2 rfl rfl

theorem z26 {G : HP} (p0 : Nat) (q1 : Tl) (h1 : TlOk 1 5 q1) :
    CtrE Tryz.prog 190 [pv p0] G [(p0, C [pv p0, .slice (ad q1.g 0) 5 q1.cap] 307), (q1.g, Ob xb2 q1 5)] (T := Unit) (fun _ => True) (fun _ => S [1, 85, 0, 1, 97]) (fun _ => [(p0, C [pv p0, .slice (ad q1.g 0) 5 q1.cap] 307)]) := by
  refine fn_enter 14 func190 rfl ntmps190 rfl ?_
  intro w0
  refine cR <| oA rfl <| oN <| c_seq <| c_regiond [(p0, C [pv p0, .slice (ad q1.g 0) 5 q1.cap] 307)] (by kernel_rfl) (.cons_cons _ (.cons _ (.slnil))) <| dX 0 rfl (e_move rfl) <| dX 1 rfl (e_nilCheck rfl) ?_
  refine dX 2 rfl (eA (.pointer (ad p0 1)) (e_fa runUnderlying307 rfl sizeOf72 rfl rfl)) <| dX 3 rfl (e_load isAgg72 rfl (.inl M0) rfl) <| dX 4 rfl (e_usd rfl (by have := h1.le; omega)) ?_
  refine dX 5 rfl (e_move rfl) <| dX 6 rfl (e_nilCheck rfl) <| dX 7 rfl (eA (.pointer (ad p0 1)) (e_fa runUnderlying307 rfl sizeOf72 rfl rfl)) ?_
  refine dX 8 rfl (e_load isAgg72 rfl (.inl M0) rfl) <| dX 9 rfl (eA (vi 5) (e_lenl runUnderlying72 rfl)) ?_
  refine d_l 10 (by kernel_rfl) rfl rfl (l_ustr (bs := [1, 85, 0, 1, 97]) underlying358 (by kernel_rfl) rfl rfl rfl (.tail .head) rfl rfl rfl (.take (.take (.take (.take (.take .done)))))) (fun _ _ => hs_cons (.head _) (hs_nil)) ?_
  intro _ _
  refine dX 11 rfl (e_assign rfl) <| dN <| n_code <| c_ret <| WR.sel (.cons .head .nil) <| r_fn1 results190 rfl ?_
  exact tells (y := ()) trivial rfl rfl

theorem z27 {G : HP} (p0 : Nat) :
    CtrE Tryz.prog 135 [vq 85, .slice (ad p0 0) 3 3] G [(p0, C [ub 0, ub 1, ub 97] 5)] (T := Unit) (fun _ => True) (fun _ => .agg #[S [1, 85, 0, 1, 97]]) (fun _ => [(p0, C [ub 0, ub 1, ub 97] 5)]) := by
  refine fn_enter 37 func135 rfl ntmps135 rfl ?_
  intro w0
  refine cR ?_
  refine o_l rfl (l_alloc zeroValue111 rfl rfl) ?_; intro g1 _
  refine oN <| cR <| oM rfl <| oX (eA (vi 3) (e_lenl runUnderlying178 rfl)) <| oA rfl <| oN <| cR ?_
  refine o_l rfl (l_alloc zeroValue307 rfl rfl) ?_; intro g2 _
  refine oN <| cR <| oM rfl ?_
  refine o_l rfl (l_calle call185 (z14 ) rfl rfl .nil) ?_; intro r3 hr3
  refine o_cat .nil <| oI (vi 2) rfl rfl <| oM rfl <| oI (vi 5) rfl rfl ?_
  refine o_l rfl (l_calle call187 (z17 (g2)) rfl rfl (.cons .head .nil)) ?_; intro r4 hr4
  refine o_cat (.cons (.cons .nil)) <| oN <| cR ?_
  refine o_l rfl (l_calle call188 (z19 (g2) r4 hr4) rfl rfl (.cons .head (.cons .head .nil))) ?_; intro r5 hr5
  refine o_cat (.cons (.cons .nil)) <| oN <| cR ?_
  refine o_l rfl (l_alloc zeroValue310 rfl rfl) ?_; intro g6 _
  refine oN <| cR <| oX (e_sa_n runUnderlying310 sizeOf5 rfl) <| oM rfl ?_
  refine o_l rfl (l_calle call77 (z21 (g6)) rfl rfl (.cons .head .nil)) ?_; intro r7 hr7
  refine o_cat (.cons .nil) <| oA rfl <| oN <| cR <| oM rfl <| oX (eA (.slice (ad g6 0) 1 10) (e_sa_h runUnderlying310 sizeOf5 rfl rfl (by decide) (by decide))) ?_
  refine o_l rfl (l_calle call189 (z23 (g2) r5 hr5 (g6)) rfl rfl (.cons (.tail .head) (.cons (.tail .head) (.cons .head .nil)))) ?_; intro r8 hr8
  refine o_cat (.cons (.cons (.cons .nil))) <| oN <| cR <| oM rfl ?_
  refine o_l rfl (l_calle call189 (z25 (g2) r8 hr8 (p0)) rfl rfl (.cons .head (.cons (.tail .head) (.cons (.tail (.tail .head)) .nil)))) ?_; intro r9 hr9
  refine o_cat (.cons (.cons (.cons .nil))) <| oM rfl <| oX (e_extract rfl rfl) <| oX (e_extract rfl rfl) <| oA rfl <| oA rfl <| oN <| c_seq <| cR <| oM rfl <| oM rfl <| oI (.bool false) rfl rfl <| oN <| cL rfl <| cR ?_
  refine o_l rfl (l_calle call190 (z26 (g2) r9 hr9) rfl rfl (.cons .head (.cons (.tail .head) .nil))) ?_; intro r10 hr10
  refine o_cat (.cons .nil) <| oX (e_build (vs := [S [1, 85, 0, 1, 97]]) runUnderlying111 zeroValue111 (.cons sizeOf9 .nil) rfl (by kernel_rfl)) ?_
  refine o_l rfl (l_storea sizeOf111 rfl rfl rfl (by simp [Value.oneCell']) (.tail (.tail (.tail .head))) (.take .done) nofrs0) ?_; intro _ _
  refine oN <| c_ret <| r_fnx results135 (.cella isAgg111 sizeOf111 rfl (.inl M3) (.take .done) .nil) (.cons (.tail .head) .nil) rfl ?_
  exact tells (y := ()) trivial rfl rfl

theorem z28 {G : HP}  :
    CtrE Tryz.prog 68 [.agg #[vq 1, vq 85, vq 0, S [97]]] G [] (T := Unit) (fun _ => True) (fun _ => .tuple #[.agg #[S [1, 85, 0, 1, 97]], .bool true]) (fun _ => []) := by
  refine fn_enterD 32 func68 rfl ntmps68 rfl ?_
  intro w0
  refine cR ?_
  refine o_l rfl (l_box rfl rfl rfl) ?_; intro g1 _
  refine o_l rfl (l_alloc zeroValue111 rfl rfl) ?_; intro g2 _
  refine o_l rfl (l_alloc zeroValue4 rfl rfl) ?_; intro g3 _
  refine oN <| cR <| oX (e_func rfl rfl) <| o_defer rfl <| oN <| cR <| oX (eA (.pointer (ad g1 3)) (e_fa runUnderlying25 rfl sizeOf9 rfl rfl)) <| oX (e_load isAgg9 rfl (.inl M2) rfl) ?_
  refine o_l rfl (l_sbc (L := [ub 97]) underlying9 underlying72 underlying5 rfl rfl rfl rfl (by kernel_rfl)) ?_; intro y4 hy4
  refine oX (eA (.pointer (ad g1 2)) (e_fa runUnderlying25 rfl sizeOf23 rfl rfl)) <| oX (e_load isAgg23 rfl (.inl M3) rfl) ?_
  refine o_l rfl (l_calle call133 (z12 y4 hy4) rfl rfl (.cons .head .nil)) ?_; intro r5 hr5
  refine o_cat (.cons (.cons .nil)) <| oM rfl <| oX (e_extract rfl rfl) <| oX (e_extract rfl rfl) <| oA rfl <| oA rfl <| oN <| c_seq <| cR <| oX (eA (pv g1) (e_fa runUnderlying25 rfl sizeOf23 rfl rfl)) <| oX (e_load isAgg23 rfl (.inl M4) rfl) <| oN <| c_block <| cR <| oI (.bool false) rfl rfl ?_
  refine oA rfl <| oN <| c_else rfl <| cR <| oI (.bool true) rfl rfl <| oA rfl <| oN <| c_then rfl <| cR <| oX (eA (.pointer (ad g1 1)) (e_fa runUnderlying25 rfl sizeOf23 rfl rfl)) <| oX (e_load isAgg23 rfl (.inl M4) rfl) <| oM rfl ?_
  refine o_l rfl (l_calle call135 (z27 (r5)) rfl rfl (.cons (.tail .head) .nil)) ?_; intro r6 hr6
  refine o_cat (.cons .nil) ?_
  refine o_l rfl (l_storea sizeOf111 rfl rfl rfl (by simp [Value.oneCell']) (.tail (.tail (.tail .head))) (.take .done) nofrs0) ?_; intro _ _
  refine o_l rfl (l_store sizeOf4 rfl rfl rfl (.tail (.tail .head)) .head nofr0) ?_; intro _ _
  refine oN <| c_ret <| r_fnxD (idle132 _ _) results68 (.cella isAgg111 sizeOf111 rfl (.inl M3) (.take .done) (.cell isAgg4 rfl (.inl M2) rfl .nil)) .nil rfl ?_
  exact tells (y := ()) trivial rfl rfl

theorem z29 {G : HP}  :
    CtrE Tryz.prog 212 [.agg #[S [1, 85, 0, 1, 97]]] G [] (T := Unit) (fun _ => True) (fun _ => .bool true) (fun _ => []) := by
  refine fn_enter 6 func212 rfl ntmps212 rfl ?_
  intro w0
  refine cR ?_
  refine o_l rfl (l_box rfl rfl rfl) ?_; intro g1 _
  refine oA rfl <| oN <| cR <| oX (eA (pv g1) (e_fa runUnderlying111 rfl sizeOf9 rfl rfl)) <| oX (e_load isAgg9 rfl (.inl M0) rfl) <| oX (e_as (r := .bool true) (e_sne rfl rfl) (by kernel_rfl)) <| oA rfl <| oN <| c_ret <| WR.sel .nil <| r_fn1 results212 rfl ?_
  exact tells (y := ()) trivial rfl rfl

theorem z30 {G : HP}  :
    CtrE Tryz.prog 163 [.agg #[S [1, 85, 0, 1, 97]]] G [] (T := Tl) (fun y => TlOk 1 5 y) (fun y => .slice (ad y.g 0) 5 y.cap) (fun y => [(y.g, Ob xb2 y 5)]) := by
  refine fn_enter 9 func163 rfl ntmps163 rfl ?_
  intro w0
  refine cR ?_
  refine o_l rfl (l_box rfl rfl rfl) ?_; intro g1 _
  refine oA rfl <| oN <| c_seq <| cR <| oX (e_loada isAgg111 sizeOf111 rfl (.inl M0) (.take .done)) ?_
  refine o_l rfl (l_calle call212 (z29 ) rfl rfl .nil) ?_; intro r2 hr2
  refine o_cat .nil <| oX (eA (.bool false) (e_not rfl)) <| oN <| cL rfl <| cR <| oX (eA (pv g1) (e_fa runUnderlying111 rfl sizeOf9 rfl rfl)) <| oX (e_load isAgg9 rfl (.inl M0) rfl) ?_
  refine o_l rfl (l_sbc (L := xb2) underlying9 underlying72 underlying5 rfl rfl rfl rfl (by kernel_rfl)) ?_; intro y3 hy3
  refine oA rfl <| oN <| c_ret <| WR.sel (.cons .head .nil) <| r_fn1 results163 rfl ?_
  exact tells (y := (y3)) hy3 rfl rfl

theorem z31 {G : HP}  :
    CtrE Tryz.prog 160 [.agg #[S [1, 85, 0, 1, 97]]] G [] (T := Unit) (fun _ => True) (fun _ => vq 1) (fun _ => []) := by
  refine fn_enter 19 func160 rfl ntmps160 rfl ?_
  intro w0
  refine cR ?_
  refine o_l rfl (l_box rfl rfl rfl) ?_; intro g1 _
  refine oA rfl <| oN <| c_seq <| cR <| oX (eA (pv g1) (e_fa runUnderlying111 rfl sizeOf9 rfl rfl)) <| oX (e_load isAgg9 rfl (.inl M0) rfl) <| oX (eA (vi 5) (e_lens runUnderlying9 rfl)) <| oI (.bool false) rfl rfl <| oM rfl <| oS <| oS <| oS <| oS <| oX (e_pick_f rfl rfl) ?_
  refine oM rfl <| oS <| oS <| oS <| oS <| oX (e_pick_f rfl rfl) <| oN <| cL rfl <| cR <| oA rfl <| oN <| c_ret <| WR.sel .nil <| r_fn1 results160 rfl ?_
  exact tells (y := ()) trivial rfl rfl

theorem z32 {G : HP} (q0 : Tl) (h0 : TlOk 1 5 q0) :
    CtrE Tryz.prog 157 [.slice (ad q0.g 0) 5 q0.cap] G [(q0.g, Ob xb2 q0 5)] (T := Unit) (fun _ => True) (fun _ => .tuple #[vq 1, vi 1, .nilIface]) (fun _ => [(q0.g, Ob xb2 q0 5)]) := by
  refine fn_enter 55 func157 rfl ntmps157 rfl ?_
  intro w0
  refine cR <| oA rfl <| oA rfl <| oA rfl <| oN <| cR <| oA rfl <| oN <| cR <| oA rfl <| oN <| c_seq <| cR <| oM rfl <| oX (eA (vi 5) (e_lenl runUnderlying72 rfl)) <| oM rfl <| oN <| c_block <| c_rounds 999 <| cR <| oI (.bool true) rfl rfl <| oN <| c_seq <| c_then rfl <| c_skip ?_
  refine n_code <| c_seq <| c_block <| cR <| oM rfl <| oX (eA (pv q0.g) (e_ia runUnderlying72 sizeOf5 rfl rfl (by decide) (by decide))) <| oX (e_load isAgg5 rfl (.inl M0) rfl) <| oA rfl <| oA rfl <| oN <| c_seq <| cR <| oM rfl <| oI (.bool false) rfl rfl <| oM rfl <| oS <| oS <| oX (e_pick_f rfl rfl) <| oM rfl ?_
  refine oX (e_move rfl) <| oX (e_int (r := .bool false) rfl rfl (by kernel_rfl)) <| oX (e_pick_f rfl rfl) <| oN <| cL rfl <| c_seq <| cR <| oM rfl <| oI (.bool true) rfl rfl <| oN <| c_then rfl <| c_seq <| cR <| oM rfl <| oI (.bool false) rfl rfl <| oM rfl <| oS <| oS <| oX (e_pick_f rfl rfl) ?_
  refine oN <| cL rfl <| cR <| oM rfl <| oM rfl <| oX (e_convc (r := vq 1) runUnderlying5 runUnderlying23 rfl (by kernel_rfl)) <| oM rfl <| oX (e_shlc (r := vq 1) rfl rfl rfl (by kernel_rfl)) <| oI (vq 1) rfl rfl <| oM rfl <| oI (vi 1) rfl rfl <| oA rfl <| oA rfl <| oA rfl <| oN <| c_ret ?_
  refine WR.sel (.cons .head .nil) <| r_fn (l := [.tmp 2, .tmp 3, .tmp 4]) results157 rfl rfl ?_
  exact tells (y := ()) trivial rfl rfl

theorem z33 {G : HP} (q0 : Tl) (h0 : TlOk 1 5 q0) :
    CtrE Tryz.prog 157 [.slice (ad q0.g 1) 4 (q0.cap - 1)] G [(q0.g, Ob xb2 q0 5)] (T := Unit) (fun _ => True) (fun _ => .tuple #[vq 85, vi 1, .nilIface]) (fun _ => [(q0.g, Ob xb2 q0 5)]) := by
  refine fn_enter 55 func157 rfl ntmps157 rfl ?_
  intro w0
  refine cR <| oA rfl <| oA rfl <| oA rfl <| oN <| cR <| oA rfl <| oN <| cR <| oA rfl <| oN <| c_seq <| cR <| oM rfl <| oX (eA (vi 4) (e_lenl runUnderlying72 rfl)) <| oM rfl <| oN <| c_block <| c_rounds 999 <| cR <| oI (.bool true) rfl rfl <| oN <| c_seq <| c_then rfl <| c_skip ?_
  refine n_code <| c_seq <| c_block <| cR <| oM rfl <| oX (eA (.pointer (ad q0.g 1)) (e_ia runUnderlying72 sizeOf5 rfl rfl (by decide) (by decide))) <| oX (e_load isAgg5 rfl (.inl M0) rfl) <| oA rfl <| oA rfl <| oN <| c_seq <| cR <| oM rfl <| oI (.bool false) rfl rfl <| oM rfl <| oS <| oS <| oX (e_pick_f rfl rfl) <| oM rfl ?_
  refine oX (e_move rfl) <| oX (e_int (r := .bool false) rfl rfl (by kernel_rfl)) <| oX (e_pick_f rfl rfl) <| oN <| cL rfl <| c_seq <| cR <| oM rfl <| oI (.bool true) rfl rfl <| oN <| c_then rfl <| c_seq <| cR <| oM rfl <| oI (.bool false) rfl rfl <| oM rfl <| oS <| oS <| oX (e_pick_f rfl rfl) ?_
  refine oN <| cL rfl <| cR <| oM rfl <| oM rfl <| oX (e_convc (r := vq 85) runUnderlying5 runUnderlying23 rfl (by kernel_rfl)) <| oM rfl <| oX (e_shlc (r := vq 85) rfl rfl rfl (by kernel_rfl)) <| oI (vq 85) rfl rfl <| oM rfl <| oI (vi 1) rfl rfl <| oA rfl <| oA rfl <| oA rfl <| oN <| c_ret ?_
  refine WR.sel (.cons .head .nil) <| r_fn (l := [.tmp 2, .tmp 3, .tmp 4]) results157 rfl rfl ?_
  exact tells (y := ()) trivial rfl rfl

theorem z34 {G : HP}  :
    CtrE Tryz.prog 93 [.agg #[S [1, 85, 0, 1, 97]]] G [] (T := Tl) (fun y => TlOk 1 5 y) (fun y => .slice (ad y.g 2) 3 (y.cap - 2)) (fun y => [(y.g, Ob xb2 y 5)]) := by
  refine fn_enter 35 func93 rfl ntmps93 rfl ?_
  intro w0
  refine cR ?_
  refine o_l rfl (l_box rfl rfl rfl) ?_; intro g1 _
  refine oA rfl <| oN <| cR <| oX (e_loada isAgg111 sizeOf111 rfl (.inl M0) (.take .done)) ?_
  refine o_l rfl (l_calle call163 (z30 ) rfl rfl .nil) ?_; intro r2 hr2
  refine o_cat (.cons .nil) <| oA rfl <| oN <| c_seq <| cR <| oX (e_loada isAgg111 sizeOf111 rfl (.inl M1) (.take .done)) ?_
  refine o_l rfl (l_calle call160 (z31 ) rfl rfl .nil) ?_; intro r3 hr3
  refine o_cat .nil <| oI (.bool false) rfl rfl <| oN <| cL rfl <| cR <| oM rfl ?_
  refine o_l rfl (l_calle call157 (z32 r2 hr2) rfl rfl (.cons .head .nil)) ?_; intro r4 hr4
  refine o_cat (.cons .nil) <| oM rfl <| oX (e_extract rfl rfl) <| oX (e_extract rfl rfl) <| oX (e_extract rfl rfl) <| oA rfl <| oA rfl <| oA rfl <| oN <| cR <| oM rfl <| oM rfl <| oX (e_as (r := .slice (ad r2.g 1) 4 (r2.cap - 1)) (e_sl_l runUnderlying72 sizeOf5 rfl rfl (by decide) (by decide) (by have := hr2.le; omega)) (by first | rfl | (simp; try omega))) ?_
  refine o_l rfl (l_calle call157 (z33 r2 hr2) rfl rfl (.cons .head .nil)) ?_; intro r5 hr5
  refine o_cat (.cons .nil) <| oM rfl <| oX (e_extract rfl rfl) <| oX (e_extract rfl rfl) <| oX (e_extract rfl rfl) <| oA rfl <| oA rfl <| oA rfl <| oN <| cR <| oM rfl <| oM rfl <| oM rfl <| oI (vi 2) rfl rfl ?_
  refine oX (e_as (r := .slice (ad r2.g 2) 3 (r2.cap - 2)) (e_sl_l runUnderlying72 sizeOf5 rfl rfl (by decide) (by decide) (by have := hr2.le; omega)) (by first | rfl | (simp; try omega))) <| oA rfl <| oN <| c_ret <| WR.sel (.cons .head .nil) <| r_fn1 results93 rfl ?_
  exact tells (y := (r2)) hr2 rfl rfl

theorem z35 {G : HP} (q0 : Tl) (h0 : TlOk 1 5 q0) :
    CtrE Tryz.prog 157 [.slice (ad q0.g 2) 3 (q0.cap - 2)] G [(q0.g, Ob xb2 q0 5)] (T := Unit) (fun _ => True) (fun _ => .tuple #[vq 0, vi 1, .nilIface]) (fun _ => [(q0.g, Ob xb2 q0 5)]) := by
  refine fn_enter 55 func157 rfl ntmps157 rfl ?_
  intro w0
  refine cR <| oA rfl <| oA rfl <| oA rfl <| oN <| cR <| oA rfl <| oN <| cR <| oA rfl <| oN <| c_seq <| cR <| oM rfl <| oX (eA (vi 3) (e_lenl runUnderlying72 rfl)) <| oM rfl <| oN <| c_block <| c_rounds 999 <| cR <| oI (.bool true) rfl rfl <| oN <| c_seq <| c_then rfl <| c_skip ?_
  refine n_code <| c_seq <| c_block <| cR <| oM rfl <| oX (eA (.pointer (ad q0.g 2)) (e_ia runUnderlying72 sizeOf5 rfl rfl (by decide) (by decide))) <| oX (e_load isAgg5 rfl (.inl M0) rfl) <| oA rfl <| oA rfl <| oN <| c_seq <| cR <| oM rfl <| oI (.bool false) rfl rfl <| oM rfl <| oS <| oS <| oX (e_pick_f rfl rfl) <| oM rfl ?_
  refine oX (e_move rfl) <| oX (e_int (r := .bool false) rfl rfl (by kernel_rfl)) <| oX (e_pick_f rfl rfl) <| oN <| cL rfl <| c_seq <| cR <| oM rfl <| oI (.bool true) rfl rfl <| oN <| c_then rfl <| c_seq <| cR <| oM rfl <| oI (.bool true) rfl rfl <| oM rfl <| oX (e_move rfl) ?_
  refine oX (e_int (r := .bool false) rfl rfl (by kernel_rfl)) <| oX (e_pick_t rfl rfl) <| oN <| cL rfl <| cR <| oM rfl <| oM rfl <| oX (e_convc (r := vq 0) runUnderlying5 runUnderlying23 rfl (by kernel_rfl)) <| oM rfl <| oX (e_shlc (r := vq 0) rfl rfl rfl (by kernel_rfl)) <| oI (vq 0) rfl rfl <| oM rfl ?_
  refine oI (vi 1) rfl rfl <| oA rfl <| oA rfl <| oA rfl <| oN <| c_ret <| WR.sel (.cons .head .nil) <| r_fn (l := [.tmp 2, .tmp 3, .tmp 4]) results157 rfl rfl ?_
  exact tells (y := ()) trivial rfl rfl

theorem z36 {G : HP} (q0 : Tl) (h0 : TlOk 1 5 q0) :
    CtrE Tryz.prog 224 [.slice (ad q0.g 2) 3 (q0.cap - 2)] G [(q0.g, Ob xb2 q0 5)] (T := Unit) (fun _ => True) (fun _ => .tuple #[vq 0, .slice (ad q0.g 3) 2 (q0.cap - 3), .nilIface]) (fun _ => [(q0.g, Ob xb2 q0 5)]) := by
  refine fn_enter 36 func224 rfl ntmps224 rfl ?_
  intro w0
  refine cR <| oA rfl <| oA rfl <| oA rfl <| oN <| cR <| oM rfl ?_
  refine o_l rfl (l_calle call157 (z35 q0 h0) rfl rfl (.cons .head .nil)) ?_; intro r1 hr1
  refine o_cat (.cons .nil) <| oM rfl <| oX (e_extract rfl rfl) <| oX (e_extract rfl rfl) <| oX (e_extract rfl rfl) <| oA rfl <| oA rfl <| oA rfl <| oN <| c_seq <| cR <| oM rfl <| oX (e_nnen runUnderlying80 rfl) <| oN <| cL rfl <| cR <| oM rfl <| oI (.bool false) rfl rfl <| oN <| c_else rfl <| cR <| oM rfl ?_
  refine oI (.bool false) rfl rfl <| oN <| c_else rfl <| c_seq <| cQ <| qM rfl <| qM rfl <| qM rfl <| qX (e_as (r := .slice (ad q0.g 3) 2 (q0.cap - 3)) (e_sl_l runUnderlying72 sizeOf5 rfl rfl (by decide) (by decide) (by have := h0.le; omega)) (by first | rfl | (simp; try omega))) <| qA rfl ?_
  refine qA rfl <| qA rfl <| qN <| c_ret <| WR.sel (.cons .head .nil) <| r_fn (l := [.tmp 2, .tmp 3, .tmp 4]) results224 rfl rfl ?_
  exact tells (y := ()) trivial rfl rfl

theorem z37 {G : HP} (q0 : Tl) (h0 : TlOk 1 5 q0) :
    CtrE Tryz.prog 157 [.slice (ad q0.g 3) 2 (q0.cap - 3)] G [(q0.g, Ob xb2 q0 5)] (T := Unit) (fun _ => True) (fun _ => .tuple #[vq 1, vi 1, .nilIface]) (fun _ => [(q0.g, Ob xb2 q0 5)]) := by
  refine fn_enter 55 func157 rfl ntmps157 rfl ?_
  intro w0
  refine cR <| oA rfl <| oA rfl <| oA rfl <| oN <| cR <| oA rfl <| oN <| cR <| oA rfl <| oN <| c_seq <| cR <| oM rfl <| oX (eA (vi 2) (e_lenl runUnderlying72 rfl)) <| oM rfl <| oN <| c_block <| c_rounds 999 <| cR <| oI (.bool true) rfl rfl <| oN <| c_seq <| c_then rfl <| c_skip ?_
  refine n_code <| c_seq <| c_block <| cR <| oM rfl <| oX (eA (.pointer (ad q0.g 3)) (e_ia runUnderlying72 sizeOf5 rfl rfl (by decide) (by decide))) <| oX (e_load isAgg5 rfl (.inl M0) rfl) <| oA rfl <| oA rfl <| oN <| c_seq <| cR <| oM rfl <| oI (.bool false) rfl rfl <| oM rfl <| oS <| oS <| oX (e_pick_f rfl rfl) <| oM rfl ?_
  refine oX (e_move rfl) <| oX (e_int (r := .bool false) rfl rfl (by kernel_rfl)) <| oX (e_pick_f rfl rfl) <| oN <| cL rfl <| c_seq <| cR <| oM rfl <| oI (.bool true) rfl rfl <| oN <| c_then rfl <| c_seq <| cR <| oM rfl <| oI (.bool false) rfl rfl <| oM rfl <| oS <| oS <| oX (e_pick_f rfl rfl) ?_
  refine oN <| cL rfl <| cR <| oM rfl <| oM rfl <| oX (e_convc (r := vq 1) runUnderlying5 runUnderlying23 rfl (by kernel_rfl)) <| oM rfl <| oX (e_shlc (r := vq 1) rfl rfl rfl (by kernel_rfl)) <| oI (vq 1) rfl rfl <| oM rfl <| oI (vi 1) rfl rfl <| oA rfl <| oA rfl <| oA rfl <| oN <| c_ret ?_
  refine WR.sel (.cons .head .nil) <| r_fn (l := [.tmp 2, .tmp 3, .tmp 4]) results157 rfl rfl ?_
  exact tells (y := ()) trivial rfl rfl

theorem z38 {G : HP} (q0 : Tl) (h0 : TlOk 1 5 q0) :
    CtrE Tryz.prog 224 [.slice (ad q0.g 3) 2 (q0.cap - 3)] G [(q0.g, Ob xb2 q0 5)] (T := Unit) (fun _ => True) (fun _ => .tuple #[vq 1, .slice (ad q0.g 4) 1 (q0.cap - 4), .nilIface]) (fun _ => [(q0.g, Ob xb2 q0 5)]) := by
  refine fn_enter 36 func224 rfl ntmps224 rfl ?_
  intro w0
  refine cR <| oA rfl <| oA rfl <| oA rfl <| oN <| cR <| oM rfl ?_
  refine o_l rfl (l_calle call157 (z37 q0 h0) rfl rfl (.cons .head .nil)) ?_; intro r1 hr1
  refine o_cat (.cons .nil) <| oM rfl <| oX (e_extract rfl rfl) <| oX (e_extract rfl rfl) <| oX (e_extract rfl rfl) <| oA rfl <| oA rfl <| oA rfl <| oN <| c_seq <| cR <| oM rfl <| oX (e_nnen runUnderlying80 rfl) <| oN <| cL rfl <| cR <| oM rfl <| oI (.bool false) rfl rfl <| oN <| c_else rfl <| cR <| oM rfl ?_
  refine oI (.bool false) rfl rfl <| oN <| c_else rfl <| c_seq <| cQ <| qM rfl <| qM rfl <| qM rfl <| qX (e_as (r := .slice (ad q0.g 4) 1 (q0.cap - 4)) (e_sl_l runUnderlying72 sizeOf5 rfl rfl (by decide) (by decide) (by have := h0.le; omega)) (by first | rfl | (simp; try omega))) <| qA rfl ?_
  refine qA rfl <| qA rfl <| qN <| c_ret <| WR.sel (.cons .head .nil) <| r_fn (l := [.tmp 2, .tmp 3, .tmp 4]) results224 rfl rfl ?_
  exact tells (y := ()) trivial rfl rfl

theorem z39 {G : HP} (q0 : Tl) (h0 : TlOk 1 5 q0) :
    CtrE Tryz.prog 211 [.slice (ad q0.g 2) 3 (q0.cap - 2)] G [(q0.g, Ob xb2 q0 5)] (T := Unit) (fun _ => True) (fun _ => .tuple #[vi 3, vq 0, .slice (ad q0.g 4) 1 (q0.cap - 4), .nilIface]) (fun _ => [(q0.g, Ob xb2 q0 5)]) := by
  refine fn_enter 55 func211 rfl ntmps211 rfl ?_
  intro w0
  refine cR <| oA rfl <| oA rfl <| oA rfl <| oA rfl <| oN <| cR <| oM rfl <| oX (eA (vi 3) (e_lenl runUnderlying72 rfl)) <| oA rfl <| oN <| c_seq <| cR <| oM rfl <| oI (.bool false) rfl rfl <| oN <| cL rfl <| cR <| oA rfl <| oN <| cR <| oA rfl <| oA rfl ?_
  refine oN <| cR <| oM rfl ?_
  refine o_l rfl (l_calle call224 (z36 q0 h0) rfl rfl (.cons .head .nil)) ?_; intro r1 hr1
  refine o_cat (.cons .nil) <| oM rfl <| oX (e_extract rfl rfl) <| oX (e_extract rfl rfl) <| oX (e_extract rfl rfl) <| oA rfl <| oA rfl <| oA rfl <| oN <| c_seq <| cR <| oM rfl <| oX (e_nnen runUnderlying80 rfl) <| oN <| cL rfl <| cR <| oM rfl ?_
  refine o_l rfl (l_calle call224 (z38 q0 h0) rfl rfl (.cons .head .nil)) ?_; intro r2 hr2
  refine o_cat (.cons .nil) <| oM rfl <| oX (e_extract rfl rfl) <| oX (e_extract rfl rfl) <| oX (e_extract rfl rfl) <| oA rfl <| oA rfl <| oA rfl <| oN <| c_seq <| cR <| oM rfl <| oX (e_nnen runUnderlying80 rfl) <| oN <| cL rfl <| c_seq <| cR <| oM rfl <| oI (.bool false) rfl rfl <| oN <| cL rfl <| c_seq <| c_seq ?_
  refine c_region <| oM rfl <| oX (e_convc (r := vi 1) runUnderlying23 runUnderlying3 rfl (by kernel_rfl)) <| oM rfl <| oX (eA (vi 1) (e_lenl runUnderlying72 rfl)) <| oI (.bool false) rfl rfl <| oN <| cL rfl <| cR <| oM rfl <| oM rfl <| oX (eA (vi 1) (e_lenl runUnderlying72 rfl)) ?_
  refine oI (vi 2) rfl rfl <| oM rfl <| oX (e_convc (r := vi 1) runUnderlying23 runUnderlying3 rfl (by kernel_rfl)) <| oI (vi 3) rfl rfl <| oA rfl <| oN <| c_seq <| cQ <| qM rfl <| qM rfl <| qM rfl <| qM rfl ?_
  refine qX (eA (.slice (ad q0.g 4) 1 (q0.cap - 4)) (e_sl_h runUnderlying72 sizeOf5 rfl rfl (by decide) (by have := h0.le; omega))) <| qA rfl <| qA rfl <| qA rfl <| qA rfl <| qN <| c_ret <| WR.sel (.cons .head .nil) <| r_fn (l := [.tmp 2, .tmp 3, .tmp 4, .tmp 5]) results211 rfl rfl ?_
  exact tells (y := ()) trivial rfl rfl
end Go.Proofs
