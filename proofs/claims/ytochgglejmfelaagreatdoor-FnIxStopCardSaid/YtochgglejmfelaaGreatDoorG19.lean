/- Runs at known values, part 6. (A part of the proof of this: for every input laws.FnIxStop returns true and its arguments read as they did, the listed package variables being what the program lays.) -/
import Derived.Test.YtochgglejmfelaaGreatDoorG02
import Derived.KernelRfl
import Derived.Test.YtochgglejmfelaaGreatDoorG18
namespace Go.Proofs
open Go Go.Sl Tryz
set_option maxRecDepth 100000
set_option maxHeartbeats 4000000
theorem z120 {G : HP}  :
    CtrE Tryz.prog 36 [S [128, 8, 1, 0, 0, 0, 9, 0, 0, 0, 9, 0, 0, 0, 0, 0, 0, 0, 97, 7, 0, 0, 0, 0, 0, 0, 0], .agg #[vq 1, vq 85, vq 0, S [97]], vi 9] G [] (T := Tl) (fun y => TlOk 1 1 y) (fun y => .tuple #[.slice (ad y.g 0) 1 y.cap, ub 0]) (fun y => [(y.g, Ob [vq 7] y 23)]) := by
  refine fn_enter 39 func36 rfl ntmps36 rfl ?_
  intro w0
  refine cR ?_
  refine o_l rfl (l_box rfl rfl rfl) ?_; intro g1 _
  refine o_l rfl (l_box rfl rfl rfl) ?_; intro g2 _
  refine oA rfl <| oA rfl <| oN <| cR <| oM rfl ?_
  refine o_l rfl (l_sbc (L := xb14) underlying9 underlying72 underlying5 rfl rfl rfl rfl (by kernel_rfl)) ?_; intro y3 hy3
  refine o_l rfl (l_calle call40 (z79 y3 hy3) rfl rfl (.cons .head .nil)) ?_; intro r4 hr4
  refine o_cat (.cons (.cons .nil)) <| oX (e_mkif runUnderlying75 rfl rfl) ?_
  refine o_l rfl (l_calle call41 (z109 (r4) y3 hy3) rfl rfl (.cons (.tail .head) (.cons .head .nil))) ?_; intro r5 hr5
  refine o_cat (.cons (.cons (.cons (.cons (.cons .nil))))) <| oM rfl <| oX (e_extract rfl rfl) <| oX (e_extract rfl rfl) <| oA rfl <| oA rfl <| oN <| cR <| oX (e_loada isAgg25 sizeOf25 rfl (.inl M6) (.take (.take (.take (.take .done))))) ?_
  refine o_l rfl (l_calle call68 (z28 ) rfl rfl .nil) ?_; intro r6 hr6
  refine o_cat .nil <| oM rfl <| oX (e_extract rfl rfl) <| oX (e_extract rfl rfl) ?_
  refine o_l rfl (l_alloc zeroValue111 rfl rfl) ?_; intro g7 _
  refine o_l rfl (l_storea sizeOf111 rfl rfl rfl (by simp [Value.oneCell']) .head (.take .done) nofrs0) ?_; intro _ _
  refine oA rfl <| oN <| c_seq <| cR <| oM rfl <| oX (e_nnen runUnderlying80 rfl) <| oM rfl <| oX (e_move rfl) <| oX (eA (.bool false) (e_not rfl)) <| oX (e_pick_f rfl rfl) <| oN <| cL rfl <| cR ?_
  refine o_l rfl (l_alloc zeroValue29 rfl rfl) ?_; intro g8 _
  refine oN <| cR <| oM rfl <| oX (e_loada isAgg111 sizeOf111 rfl (.inl M1) (.take .done)) <| oX (e_func rfl rfl) ?_
  refine o_l rfl (l_callie call314 (by intro w; kernel_rfl) (z118 (r5.1) (r5.2.1) (r5.2.2) (g8) (g2)) rfl rfl rfl (.cons (.tail (.tail (.tail (.tail .head)))) (.cons (.tail (.tail (.tail (.tail .head)))) (.cons (.tail (.tail (.tail (.tail .head)))) (.cons .head (.cons (.tail (.tail (.tail .head))) .nil)))))) ?_; intro r9 hr9
  refine o_cat (.cons (.cons (.cons (.cons (.cons (.cons .nil)))))) <| oA rfl <| oN <| c_seq ?_
  refine c_regiond [(r5.1, C [.map (some r5.2.1)] 327), (r5.2.1, Mo .u32 [(9, .agg #[vd 9, vq 1, .slice (ad r5.2.2 0) 9 9])]), (r5.2.2, C xb3 5), (g8, C [.slice (ad r9.g 0) 1 r9.cap] 29), (g2, C [vi 9] 3), (r9.g, Ob [vq 7] r9 23), (g7, C [S [1, 85, 0, 1, 97]] 111), (r4, C [.slice (ad y3.g 0) 27 y3.cap, vi 27, vi (-1)] 144), (y3.g, Ob xb14 y3 5), (g1, C [vq 1, vq 85, vq 0, S [97]] 25)] (by kernel_rfl) (.cons_cons _ (.cons_cons _ (.cons_cons _ (.cons_cons _ (.cons_cons _ (.cons_cons _ (.cons_cons _ (.cons_cons _ (.cons_cons _ (.cons_cons _ (.slnil))))))))))) ?_
  refine dX 0 rfl (e_load isAgg29 rfl (.inl M3) rfl) <| dX 1 rfl (e_move rfl) ?_
  refine d_l 2 (by kernel_rfl) rfl rfl (l_calle call70 (z119 ) rfl rfl .nil) (fun _ _ => hs_cons (.head _) (hs_cons M1 (hs_cons M2 (hs_cons M3 (hs_cons M4 (hs_cons M5 (hs_cons M6 (hs_cons M7 (hs_cons M8 (hs_cons M9 (hs_nil))))))))))) ?_
  intro r10 hr10
  refine d_cat .nil <| dX 3 rfl (e_assign rfl) <| dX 4 rfl (e_assign rfl) <| dN <| n_code <| c_ret <| WR.sel (.cons (.tail (.tail (.tail (.tail (.tail .head))))) .nil) <| r_fn (l := [.tmp 6, .tmp 7]) results36 rfl rfl ?_
  exact tells (y := (r9)) hr9 rfl rfl

theorem z121 {G : HP}  :
    CtrE Tryz.prog 14 [S [128, 8, 1, 0, 0, 0, 9, 0, 0, 0, 9, 0, 0, 0, 0, 0, 0, 0, 97, 7, 0, 0, 0, 0, 0, 0, 0], .agg #[vq 1, vq 85, vq 0, S [97]], vi 9] G [] (T := Tl) (fun y => TlOk 1 1 y) (fun y => .tuple #[.slice (ad y.g 0) 1 y.cap, ub 0]) (fun y => [(y.g, Ob [vq 7] y 23)]) := by
  refine fn_enter 14 func14 rfl ntmps14 rfl ?_
  intro w0
  refine cR ?_
  refine o_l rfl (l_box rfl rfl rfl) ?_; intro g1 _
  refine oA rfl <| oA rfl <| oN <| cR <| oM rfl <| oX (e_loada isAgg25 sizeOf25 rfl (.inl M0) (.take (.take (.take (.take .done))))) <| oM rfl ?_
  refine o_l rfl (l_calle call36 (z120 ) rfl rfl .nil) ?_; intro r2 hr2
  refine o_cat (.cons .nil) <| oX (e_extract rfl rfl) <| oX (e_extract rfl rfl) <| oA rfl <| oA rfl <| oN <| c_ret <| WR.sel (.cons .head .nil) <| r_fn (l := [.tmp 6, .tmp 7]) results14 rfl rfl ?_
  exact tells (y := (r2)) hr2 rfl rfl

theorem z122 {G : HP} (p0 : Nat) :
    CtrE Tryz.prog 15 [.slice (ad p0 0) 1 1, vq 1024] G [(p0, C [vq 1, vq 85, vq 0, S [97], vq 7] 56)] (T := Unit) (fun _ => True) (fun _ => S [128, 8, 1, 0, 0, 0, 9, 0, 0, 0, 9, 0, 0, 0, 0, 0, 0, 0, 97, 7, 0, 0, 0, 0, 0, 0, 0]) (fun _ => [(p0, C [vq 1, vq 85, vq 0, S [97], vq 7] 56)]) :=
  one_index (.inl rfl) ib_1024

theorem z123 {G : HP}  :
    CtrE Tryz.prog 17 [vq 1024] G [] (T := Unit) (fun _ => True) (fun _ => .bool true) (fun _ => []) := by
  refine fn_enter 49 func17 rfl ntmps17 rfl ?_
  intro w0
  refine cR <| oA rfl <| oN <| cR ?_
  refine o_l rfl (l_calle call39 (z1 ) rfl rfl .nil) ?_; intro r1 hr1
  refine o_cat .nil <| oX (e_build (vs := [vq 1, vq 85, vq 0, S [97], vq 7]) runUnderlying56 zeroValue56 (.cons sizeOf25 (.cons sizeOf23 .nil)) rfl (by kernel_rfl)) ?_
  refine o_l rfl (l_bs (l := [vq 1, vq 85, vq 0, S [97], vq 7]) runUnderlying22 sizeOf56 zeroValue56 rfl rfl rfl rfl (by kernel_rfl)) ?_; intro g2 _
  refine oA rfl <| oN <| cR <| oM rfl <| oM rfl ?_
  refine o_l rfl (l_calle call27 (z78 (g2)) rfl rfl (.cons .head .nil)) ?_; intro r3 hr3
  refine o_cat (.cons .nil) <| oM rfl <| oX (e_extract rfl rfl) <| oX (e_extract rfl rfl) <| oA rfl <| oA rfl <| oN <| cR <| oM rfl <| oM rfl <| oX (eA (pv g2) (e_ia runUnderlying22 sizeOf56 rfl rfl (by decide) (by decide))) <| oX (eA (pv g2) (e_fa runUnderlying56 rfl sizeOf25 rfl rfl)) ?_
  refine oX (e_loada isAgg25 sizeOf25 rfl (.inl M0) (.take (.take (.take (.take .done))))) ?_
  refine o_l rfl (l_calle call14 (z121 ) rfl rfl .nil) ?_; intro r4 hr4
  refine o_cat (.cons .nil) <| oM rfl <| oX (e_extract rfl rfl) <| oX (e_extract rfl rfl) <| oA rfl <| oA rfl <| oN <| cR <| oM rfl <| oM rfl <| oX (e_move rfl) <| oX (e_move rfl) <| oX (e_move rfl) ?_
  refine o_l rfl (l_calle call15 (z122 (g2)) rfl rfl (.cons (.tail .head) .nil)) ?_; intro r5 hr5
  refine o_cat (.cons .nil) <| oX (e_as (r := .bool true) (e_seq rfl rfl) (by kernel_rfl)) <| oX (e_pick_t rfl rfl) <| oM rfl <| oX (e_move rfl) <| oX (e_int (r := .bool true) rfl rfl (by kernel_rfl)) <| oX (e_pick_t rfl rfl) <| oM rfl <| oX (e_move rfl) <| oX (eA (vi 1) (e_lenl runUnderlying29 rfl)) <| oX (e_int (r := .bool true) rfl rfl (by kernel_rfl)) ?_
  refine oX (e_pick_t rfl rfl) <| oM rfl <| oX (e_move rfl) <| oX (eA (pv r4.g) (e_ia runUnderlying29 sizeOf23 rfl rfl (by decide) (by decide))) <| oX (e_load isAgg23 rfl (.inl M1) rfl) <| oX (e_int (r := .bool true) rfl rfl (by kernel_rfl)) <| oX (e_pick_t rfl rfl) <| oA rfl <| oN <| c_ret <| WR.sel .nil <| r_fn1 results17 rfl ?_
  exact tells (y := ()) trivial rfl rfl

theorem z124 {G : HP}  :
    CtrE Tryz.prog 149 [] G [] (T := Nat × Nat) (fun _ => True) (fun y => pv y.1) (fun y => [(y.1, C [.map (some y.2)] 330), (y.2, Mo .u64 [])]) := by
  refine fn_enter 3 func149 rfl ntmps149 rfl ?_
  intro w0
  refine cR <| oA rfl <| oN <| cR ?_
  refine o_l rfl (l_mkmap rfl .u64) ?_; intro g1 _
  refine o_l rfl (l_alloc zeroValue330 rfl rfl) ?_; intro g2 _
  refine o_l rfl (l_store sizeOf330 rfl rfl rfl .head .head nofr0) ?_; intro _ _
  refine oN <| cR <| oA rfl <| oN <| c_ret <| WR.sel (.cons .head (.cons .head .nil)) <| r_fn1 results149 rfl ?_
  exact tells (y := (g2, g1)) trivial rfl rfl

theorem z125 {G : HP}  :
    CtrE Tryz.prog 76 [vq 1025] G [] (T := Nat × Nat) (fun _ => True) (fun y => .tuple #[.iface 237 (pv y.1), .nilIface]) (fun y => [(y.1, C [.map (some y.2)] 330), (y.2, Mo .u64 [])]) := by
  refine fn_enter 13 func76 rfl ntmps76 rfl ?_
  intro w0
  refine cR <| oA rfl <| oA rfl <| oN <| cR <| oM rfl <| oN <| c_block <| cR <| oI (.bool false) rfl rfl <| oA rfl <| oN <| c_else rfl <| cR <| oI (.bool true) rfl rfl <| oA rfl <| oN <| c_then rfl <| cR ?_
  refine o_l rfl (l_calle call149 (z124 ) rfl rfl .nil) ?_; intro r1 hr1
  refine o_cat (.cons (.cons .nil)) <| oX (e_mkif runUnderlying237 rfl rfl) <| oA rfl <| oA rfl <| oN <| c_ret <| WR.sel (.cons .head (.cons .head .nil)) <| r_fn (l := [.tmp 2, .tmp 3]) results76 rfl rfl ?_
  exact tells (y := (r1.1, r1.2)) trivial rfl rfl

theorem z126 {G : HP}  :
    CtrE Tryz.prog 315 [] G [] (T := Nat × Nat) (fun _ => True) (fun y => pv y.1) (fun y => [(y.1, C [.map (some y.2), vq 0] 437), (y.2, Mo .u32 [])]) := by
  refine fn_enter 4 func315 rfl ntmps315 rfl ?_
  intro w0
  refine cR <| oA rfl <| oN <| cR ?_
  refine o_l rfl (l_mkmap rfl .u32) ?_; intro g1 _
  refine oX (e_build (vs := [.map (some g1), vq 0]) runUnderlying437 zeroValue437 (.cons sizeOf327 (.cons sizeOf23 .nil)) rfl (by kernel_rfl)) ?_
  refine o_l rfl (l_box rfl rfl rfl) ?_; intro g2 _
  refine oA rfl <| oN <| c_ret <| WR.sel (.cons .head (.cons .head .nil)) <| r_fn1 results315 rfl ?_
  exact tells (y := (g2, g1)) trivial rfl rfl

theorem z127 {G : HP} (p0 : Nat) (p1 : Nat) (q2 : Tl) (h2 : TlOk 2 1 q2) :
    CtrE Tryz.prog 316 [pv p0, .slice (ad q2.g 0) 1 q2.cap] G [(p0, C [.map (some p1), vq 0] 437), (p1, Mo .u32 []), (q2.g, Ob [S [1, 85, 0, 1, 97], vq 7] q2 184)] (T := Nat) (fun _ => True) (fun y => .nilIface) (fun y => [(p0, C [.map (some p1), vq 0] 437), (p1, Mo .u32 [(9, .agg #[vd 9, vq 1, .slice (ad y 0) 9 9])]), (q2.g, Ob [S [1, 85, 0, 1, 97], vq 7] q2 184), (y, C xb3 5)]) := by
  refine fn_enter 119 func316 rfl ntmps316 rfl ?_
  intro w0
  refine cR <| oA rfl <| oN <| cR ?_
  refine o_l rfl (l_mkmap rfl .i64) ?_; intro g1 _
  refine oA rfl <| oN <| c_seq <| cR <| oM rfl <| oX (eA (vi 1) (e_lenl runUnderlying182 rfl)) <| oM rfl <| oN <| c_block <| c_rounds 999 <| cR <| oI (.bool true) rfl rfl <| oN <| c_seq <| c_then rfl <| c_skip <| n_code <| c_seq <| c_block <| cR ?_
  refine oX (eA (pv q2.g) (e_ia runUnderlying182 sizeOf184 rfl rfl (by decide) (by decide))) <| oX (e_loada isAgg184 sizeOf184 rfl (.inl M3) (.take (.take .done))) ?_
  refine o_l rfl (l_alloc zeroValue184 rfl rfl) ?_; intro g2 _
  refine o_l rfl (l_storea sizeOf184 rfl rfl rfl (by simp [Value.oneCell']) .head (.take (.take .done)) nofrs0) ?_; intro _ _
  refine oN <| cR <| oX (eA (pv g2) (e_fa runUnderlying184 rfl sizeOf111 rfl rfl)) <| oX (e_loada isAgg111 sizeOf111 rfl (.inl M0) (.take .done)) ?_
  refine o_l rfl (l_calle call93 (z34 ) rfl rfl .nil) ?_; intro r3 hr3
  refine o_cat (.cons .nil) ?_
  refine o_l rfl (l_calle call92 (z41 r3 hr3) rfl rfl (.cons .head .nil)) ?_; intro r4 hr4
  refine o_cat (.cons (.cons .nil)) <| oM rfl <| oX (e_extract rfl rfl) <| oX (e_extract rfl rfl) <| oA rfl <| oA rfl <| oN <| c_seq <| cR <| oM rfl <| oX (e_nnen runUnderlying80 rfl) <| oN <| cL rfl <| cR <| oM rfl <| oC rfl <| oX (eA (.pointer (ad r4 3)) (e_fa runUnderlying181 rfl sizeOf72 rfl rfl)) ?_
  refine oX (e_load isAgg72 rfl (.inl M1) rfl) <| oA rfl <| oN <| cR <| oM rfl <| oM rfl <| oX (eA (vi 1) (e_lenl runUnderlying72 rfl)) <| oX (e_as (r := .tuple #[.slice none 0 0, .bool false]) (e_lookup2 runUnderlying451 runUnderlying3 zeroValue452 rfl rfl (.inl M3)) (by kernel_rfl)) <| oM rfl <| oX (e_extract rfl rfl) ?_
  refine oX (e_extract rfl rfl) <| oA rfl <| oA rfl <| oN <| c_seq <| cR <| oM rfl <| oX (eA (.bool true) (e_not rfl)) <| oN <| c_then rfl <| cR <| oM rfl <| oM rfl <| oX (eA (vi 1) (e_lenl runUnderlying72 rfl)) ?_
  refine o_l rfl (l_mksc (l := []) (n := 0) (m := 0) underlying452 (info_of typeInfo455) rfl rfl rfl rfl rfl rfl rfl (by decide) (by kernel_rfl)) ?_; intro g5 _
  refine o_l rfl (l_mapup runUnderlying451 runUnderlying3 rfl rfl rfl (.tail (.tail (.tail (.tail .head))))) ?_; intro _ _
  refine oN <| c_region <| oM rfl <| oM rfl <| oX (eA (vi 1) (e_lenl runUnderlying72 rfl)) <| oX (e_as (r := .slice (ad g5 0) 0 0) (e_lookup runUnderlying451 runUnderlying3 zeroValue452 rfl rfl (.inl M4)) (by kernel_rfl)) <| oA rfl <| oN <| c_region <| oM rfl <| oM rfl <| oX (eA (vi 1) (e_lenl runUnderlying72 rfl)) ?_
  refine oM rfl <| oM rfl <| oX (eA (.pointer (ad g2 1)) (e_fa runUnderlying184 rfl sizeOf23 rfl rfl)) <| oX (e_load isAgg23 rfl (.inl M3) rfl) <| oX (e_build (vs := [.slice (ad r3.g 4) 1 (r3.cap - 4), vq 7]) runUnderlying455 zeroValue455 (.cons sizeOf72 (.cons sizeOf23 .nil)) rfl (by kernel_rfl)) ?_
  refine o_l rfl (l_bs (l := [.slice (ad r3.g 4) 1 (r3.cap - 4), vq 7]) runUnderlying452 sizeOf455 zeroValue455 rfl rfl rfl rfl (by kernel_rfl)) ?_; intro g6 _
  refine o_l rfl (l_app (off := 1) (L := [.slice (ad r3.g 4) 1 (r3.cap - 4), vq 7]) underlying452 (info_of typeInfo455) rfl rfl rfl rfl rfl rfl (.tail .head) rfl (by decide) (by decide) (.inr rfl) .done (Sv.blk (vs := [.slice (ad r3.g 4) 1 (r3.cap - 4), vq 7]) underlying452 (.inl M0) (.take (.take .done)) (by simp [Value.oneCell'])) .nil rfl rfl rfl rfl) ?_; intro y7 hy7
  refine o_l rfl (l_mapup runUnderlying451 runUnderlying3 rfl rfl rfl (.tail (.tail (.tail (.tail (.tail .head)))))) ?_; intro _ _
  refine o_nil <| n_block <| n_code ?_
  refine c_keep (sK 67 rfl <| sK 66 rfl <| sK 65 rfl <| sK 64 rfl <| sK 63 rfl <| sK 62 rfl <| sK 61 rfl <| sK 60 rfl <| sK 59 rfl <| sK 58 rfl <| sK 11 rfl <| sK 57 rfl <| sK 56 rfl <| sK 55 rfl <| sK 54 rfl <| sK 53 rfl <| sK 52 rfl <| sK 51 rfl <| sK 50 rfl <| sK 49 rfl <| sK 48 rfl <| sK 12 rfl <| sK 47 rfl <| sK 46 rfl <| sK 41 rfl <| sK 45 rfl <| sK 44 rfl <| sK 43 rfl <| sK 42 rfl <| sK 10 rfl <| sK 40 rfl <| sK 39 rfl <| sK 38 rfl <| sK 37 rfl <| sK 35 rfl <| sK 34 rfl <| sK 9 rfl <| sK 8 rfl <| sK 33 rfl <| sK 32 rfl <| sK 27 rfl <| sK 31 rfl <| sK 30 rfl <| sK 29 rfl <| sK 28 rfl <| sK 7 rfl <| sK 26 rfl <| sK 25 rfl <| sK 24 rfl <| sK 23 rfl <| sK 22 rfl <| sK 21 rfl <| sK 5 rfl <| sK 4 rfl <| sK 0 rfl <| sub_nil) ?_
  refine c_region <| oI (vi 1) rfl rfl <| oM rfl <| o_nil <| n_rounds ?_
  refine c_keep (sK 23 rfl <| sK 68 rfl <| sK 67 rfl <| sK 66 rfl <| sK 65 rfl <| sK 64 rfl <| sK 63 rfl <| sK 62 rfl <| sK 61 rfl <| sK 60 rfl <| sK 59 rfl <| sK 58 rfl <| sK 11 rfl <| sK 57 rfl <| sK 56 rfl <| sK 55 rfl <| sK 54 rfl <| sK 53 rfl <| sK 52 rfl <| sK 51 rfl <| sK 50 rfl <| sK 49 rfl <| sK 48 rfl <| sK 12 rfl <| sK 47 rfl <| sK 46 rfl <| sK 41 rfl <| sK 45 rfl <| sK 44 rfl <| sK 43 rfl <| sK 42 rfl <| sK 10 rfl <| sK 40 rfl <| sK 39 rfl <| sK 38 rfl <| sK 37 rfl <| sK 35 rfl <| sK 34 rfl <| sK 9 rfl <| sK 8 rfl <| sK 33 rfl <| sK 32 rfl <| sK 27 rfl <| sK 31 rfl <| sK 30 rfl <| sK 29 rfl <| sK 28 rfl <| sK 7 rfl <| sK 26 rfl <| sK 25 rfl <| sK 24 rfl <| sK 22 rfl <| sK 21 rfl <| sK 5 rfl <| sK 4 rfl <| sK 0 rfl <| sub_nil) ?_
  refine c_seq ?_
  refine c_keep (sK 23 rfl <| sK 68 rfl <| sK 67 rfl <| sK 66 rfl <| sK 65 rfl <| sK 64 rfl <| sK 63 rfl <| sK 62 rfl <| sK 61 rfl <| sK 60 rfl <| sK 59 rfl <| sK 58 rfl <| sK 11 rfl <| sK 57 rfl <| sK 56 rfl <| sK 55 rfl <| sK 54 rfl <| sK 53 rfl <| sK 52 rfl <| sK 51 rfl <| sK 50 rfl <| sK 49 rfl <| sK 48 rfl <| sK 12 rfl <| sK 47 rfl <| sK 46 rfl <| sK 41 rfl <| sK 45 rfl <| sK 44 rfl <| sK 43 rfl <| sK 42 rfl <| sK 10 rfl <| sK 40 rfl <| sK 39 rfl <| sK 38 rfl <| sK 37 rfl <| sK 35 rfl <| sK 34 rfl <| sK 9 rfl <| sK 8 rfl <| sK 33 rfl <| sK 32 rfl <| sK 27 rfl <| sK 31 rfl <| sK 30 rfl <| sK 29 rfl <| sK 28 rfl <| sK 7 rfl <| sK 26 rfl <| sK 25 rfl <| sK 24 rfl <| sK 22 rfl <| sK 21 rfl <| sK 5 rfl <| sK 4 rfl <| sK 0 rfl <| sub_nil) ?_
  refine c_region <| oI (.bool false) rfl rfl <| oN <| c_seq <| c_else rfl <| c_exit <| x_code <| x_upto <| x_here <| n_code <| c_seq <| c_seq <| c_keep (sK 5 rfl <| sK 4 rfl <| sK 0 rfl <| sub_nil) <| c_region <| oM rfl ?_
  refine o_l rfl (l_range runUnderlying451 rfl rfl (.inl M5)) ?_; intro g8 _
  refine oN <| c_block <| c_rounds 999 <| cR ?_
  refine o_l rfl (l_next1 0 rfl rfl (.inl M6) .head rfl rfl rfl) ?_; intro _ _
  refine oX (e_extract rfl rfl) <| oN <| c_seq <| c_then rfl <| c_skip <| n_code <| c_block <| cR <| oX (e_entry (j := 0) (seen := []) rfl (.inl M0) (.inl M6) rfl) <| oX (e_extract rfl rfl) <| oX (e_extract rfl rfl) <| oA rfl <| oA rfl <| oN <| cR <| oM rfl <| oX (e_mkif runUnderlying457 rfl rfl) ?_
  refine o_l rfl (l_calle call324 (z43 y7 hy7 r3 hr3) rfl rfl (.cons (.tail .head) (.cons (.tail (.tail .head)) .nil))) ?_; intro r9 hr9
  refine o_cat (.cons (.cons .nil)) <| oN <| cR <| oM rfl <| oI (vi 9) rfl rfl <| oA rfl <| oN <| cR <| oM rfl <| oM rfl <| oX (eA (vi 1) (e_lenl runUnderlying452 rfl)) <| oI (vi 9) rfl rfl ?_
  refine o_l rfl (l_mksc (l := xb4) (n := 9) (m := 9) underlying72 (info_of typeInfo5) rfl rfl rfl rfl rfl rfl rfl (by decide) (by kernel_rfl)) ?_; intro g10 _
  refine oA rfl <| oN <| c_seq <| cR <| oM rfl <| oX (eA (vi 1) (e_lenl runUnderlying452 rfl)) <| oM rfl <| oN <| c_block <| c_rounds 999 <| cR <| oI (.bool true) rfl rfl <| oN <| c_seq <| c_then rfl <| c_skip <| n_code <| c_seq <| c_block <| cR <| oM rfl ?_
  refine oX (eA (pv y7.g) (e_ia runUnderlying452 sizeOf455 rfl rfl (by decide) (by decide))) <| oX (e_loada isAgg455 sizeOf455 rfl (.inl M1) (.take (.take .done))) ?_
  refine o_l rfl (l_alloc zeroValue455 rfl rfl) ?_; intro g11 _
  refine oA rfl ?_
  refine o_l rfl (l_storea sizeOf455 rfl rfl rfl (by simp [Value.oneCell']) .head (.take (.take .done)) nofrs0) ?_; intro _ _
  refine oN ?_
  refine c_regiond [(g11, C [.slice (ad r3.g 4) 1 (r3.cap - 4), vq 7] 455), (y7.g, Ob [.slice (ad r3.g 4) 1 (r3.cap - 4), vq 7] y7 455), (r3.g, Ob xb2 r3 5), (g8, Io g1 1 [0]), (g6, C [.slice (ad r3.g 4) 1 (r3.cap - 4), vq 7] 455), (r4, C [vq 0, S [], vi 1, .slice (ad r3.g 4) 1 (r3.cap - 4)] 181), (g2, C [S [1, 85, 0, 1, 97], vq 7] 184), (g1, Mo .i64 [(1, .slice (ad y7.g 0) 1 y7.cap)]), (p0, C [.map (some p1), vq 0] 437), (p1, Mo .u32 []), (q2.g, Ob [S [1, 85, 0, 1, 97], vq 7] q2 184)] (by kernel_rfl) (.cons_cons _ (.cons _ (.cons_cons _ (.cons_cons _ (.cons_cons _ (.cons_cons _ (.cons_cons _ (.cons_cons _ (.cons_cons _ (.cons_cons _ (.cons_cons _ (.cons_cons _ (.slnil))))))))))))) ?_
  refine dX 0 rfl (e_loada isAgg455 sizeOf455 rfl (.inl M0) (.take (.take .done))) <| dX 1 rfl (e_move rfl) <| dX 2 rfl (e_move rfl) <| dX 3 rfl (e_move rfl) ?_
  refine dX 4 rfl (e_int (r := vi 0) rfl rfl (by kernel_rfl)) <| dX 5 rfl (e_move rfl) <| dX 6 rfl (e_int (r := vi 1) rfl rfl (by kernel_rfl)) ?_
  refine dX 7 rfl (e_move rfl) <| dX 8 rfl (e_int (r := vi 9) rfl rfl (by kernel_rfl)) ?_
  refine dX 9 rfl (e_as (r := .slice (ad g10 0) 9 9) (e_sl_lh runUnderlying72 sizeOf5 rfl rfl rfl (by decide) (by decide) (by decide) (by decide)) (by first | rfl | (simp; try omega))) ?_
  refine d_l 10 (by kernel_rfl) rfl rfl (l_calle call325 (z45 r3 hr3 (g10)) rfl rfl (.cons (.tail (.tail (.tail .head))) (.cons (.tail .head) .nil))) (fun _ _ => hs_cons M2 (hs_cons M3 (hs_cons (.head _) (hs_cons M4 (hs_cons M5 (hs_cons M6 (hs_cons M7 (hs_cons M8 (hs_cons M9 (hs_cons M10 (hs_cons M11 (hs_nil)))))))))))) ?_
  intro r12 hr12
  refine d_cat (.cons (.cons .nil)) <| dN <| n_block <| n_code <| c_region <| oI (vi 1) rfl rfl <| oM rfl <| o_nil <| n_rounds ?_
  refine c_keep (sK 88 rfl <| sK 104 rfl <| sK 102 rfl <| sK 101 rfl <| sK 100 rfl <| sK 99 rfl <| sK 98 rfl <| sK 97 rfl <| sK 96 rfl <| sK 95 rfl <| sK 94 rfl <| sK 93 rfl <| sK 17 rfl <| sK 18 rfl <| sK 92 rfl <| sK 91 rfl <| sK 90 rfl <| sK 89 rfl <| sK 87 rfl <| sK 86 rfl <| sK 16 rfl <| sK 85 rfl <| sK 84 rfl <| sK 83 rfl <| sK 82 rfl <| sK 81 rfl <| sK 15 rfl <| sK 80 rfl <| sK 79 rfl <| sK 77 rfl <| sK 76 rfl <| sK 14 rfl <| sK 13 rfl <| sK 75 rfl <| sK 74 rfl <| sK 73 rfl <| sK 72 rfl <| sK 71 rfl <| sK 70 rfl <| sK 4 rfl <| sK 0 rfl <| sub_nil) ?_
  refine cR <| oI (.bool false) rfl rfl <| oN <| c_seq <| c_else rfl <| c_exit <| x_code <| x_upto <| x_here <| n_code <| cR <| oM rfl <| oX (e_convc (r := vd 9) runUnderlying3 runUnderlying212 rfl (by kernel_rfl)) <| oM rfl <| oX (eA (vi 1) (e_lenl runUnderlying452 rfl)) <| oX (e_convc (r := vq 1) runUnderlying3 runUnderlying23 rfl (by kernel_rfl)) ?_
  refine oM rfl <| oX (e_build (vs := [vd 9, vq 1, .slice (ad g10 0) 9 9]) runUnderlying448 zeroValue448 (.cons sizeOf212 (.cons sizeOf23 (.cons sizeOf72 .nil))) rfl (by kernel_rfl)) ?_
  refine o_l rfl (l_alloc zeroValue448 rfl rfl) ?_; intro g13 _
  refine o_l rfl (l_storea sizeOf448 rfl rfl rfl (by simp [Value.oneCell']) .head (.take (.take (.take .done))) nofrs0) ?_; intro _ _
  refine oN ?_
  refine c_regiond [(g13, C [vd 9, vq 1, .slice (ad g10 0) 9 9] 448), (r3.g, Ob xb2 r3 5), (g10, C xb3 5), (g11, C [.slice (ad r3.g 4) 1 (r3.cap - 4), vq 7] 455), (y7.g, Ob [.slice (ad r3.g 4) 1 (r3.cap - 4), vq 7] y7 455), (g8, Io g1 1 [0]), (g6, C [.slice (ad r3.g 4) 1 (r3.cap - 4), vq 7] 455), (r4, C [vq 0, S [], vi 1, .slice (ad r3.g 4) 1 (r3.cap - 4)] 181), (g2, C [S [1, 85, 0, 1, 97], vq 7] 184), (g1, Mo .i64 [(1, .slice (ad y7.g 0) 1 y7.cap)]), (p0, C [.map (some p1), vq 0] 437), (q2.g, Ob [S [1, 85, 0, 1, 97], vq 7] q2 184)] (by kernel_rfl) (.cons_cons _ (.cons_cons _ (.cons_cons _ (.cons_cons _ (.cons_cons _ (.cons_cons _ (.cons_cons _ (.cons_cons _ (.cons_cons _ (.cons_cons _ (.cons_cons _ (.cons _ (.cons_cons _ (.slnil)))))))))))))) ?_
  refine dX 0 rfl (e_move rfl) <| dX 1 rfl (e_nilCheck rfl) <| dX 2 rfl (e_load isAgg327 rfl (.inl M10) rfl) ?_
  refine dX 3 rfl (e_move rfl) <| dX 4 rfl (e_convc (r := vd 1) runUnderlying3 runUnderlying212 rfl (by kernel_rfl)) <| dX 5 rfl (e_int (r := vd 9) rfl rfl (by kernel_rfl)) ?_
  refine dX 6 rfl (e_loada isAgg448 sizeOf448 rfl (.inl M0) (.take (.take (.take .done)))) ?_
  refine d_l 7 (by kernel_rfl) rfl rfl (l_mapup runUnderlying327 runUnderlying212 rfl rfl rfl (.tail (.tail (.tail (.tail (.tail (.tail (.tail (.tail (.tail (.tail (.tail .head)))))))))))) (fun _ _ => hs_cons (.head _) (hs_cons M1 (hs_cons M2 (hs_cons M3 (hs_cons M4 (hs_cons M5 (hs_cons M6 (hs_cons M7 (hs_cons M8 (hs_cons M9 (hs_cons M10 (hs_cons M12 (hs_nil))))))))))))) ?_
  intro _ _
  refine dN <| n_block <| n_rounds ?_
  refine c_keep (sK 118 rfl <| sK 117 rfl <| sK 116 rfl <| sK 115 rfl <| sK 114 rfl <| sK 113 rfl <| sK 112 rfl <| sK 19 rfl <| sK 111 rfl <| sK 110 rfl <| sK 109 rfl <| sK 108 rfl <| sK 107 rfl <| sK 106 rfl <| sK 105 rfl <| sK 89 rfl <| sK 88 rfl <| sK 104 rfl <| sK 102 rfl <| sK 101 rfl <| sK 100 rfl <| sK 99 rfl <| sK 98 rfl <| sK 97 rfl <| sK 96 rfl <| sK 95 rfl <| sK 94 rfl <| sK 93 rfl <| sK 17 rfl <| sK 18 rfl <| sK 92 rfl <| sK 91 rfl <| sK 90 rfl <| sK 87 rfl <| sK 86 rfl <| sK 16 rfl <| sK 85 rfl <| sK 84 rfl <| sK 83 rfl <| sK 82 rfl <| sK 81 rfl <| sK 15 rfl <| sK 80 rfl <| sK 79 rfl <| sK 77 rfl <| sK 76 rfl <| sK 14 rfl <| sK 13 rfl <| sK 75 rfl <| sK 74 rfl <| sK 73 rfl <| sK 72 rfl <| sK 71 rfl <| sK 70 rfl <| sK 4 rfl <| sK 0 rfl <| sub_nil) ?_
  refine c_seq ?_
  refine c_keep (sK 118 rfl <| sK 117 rfl <| sK 116 rfl <| sK 115 rfl <| sK 114 rfl <| sK 113 rfl <| sK 112 rfl <| sK 19 rfl <| sK 111 rfl <| sK 110 rfl <| sK 109 rfl <| sK 108 rfl <| sK 107 rfl <| sK 106 rfl <| sK 105 rfl <| sK 89 rfl <| sK 88 rfl <| sK 104 rfl <| sK 102 rfl <| sK 101 rfl <| sK 100 rfl <| sK 99 rfl <| sK 98 rfl <| sK 97 rfl <| sK 96 rfl <| sK 95 rfl <| sK 94 rfl <| sK 93 rfl <| sK 17 rfl <| sK 18 rfl <| sK 92 rfl <| sK 91 rfl <| sK 90 rfl <| sK 87 rfl <| sK 86 rfl <| sK 16 rfl <| sK 85 rfl <| sK 84 rfl <| sK 83 rfl <| sK 82 rfl <| sK 81 rfl <| sK 15 rfl <| sK 80 rfl <| sK 79 rfl <| sK 77 rfl <| sK 76 rfl <| sK 14 rfl <| sK 13 rfl <| sK 75 rfl <| sK 74 rfl <| sK 73 rfl <| sK 72 rfl <| sK 71 rfl <| sK 70 rfl <| sK 4 rfl <| sK 0 rfl <| sub_nil) ?_
  refine c_region ?_
  refine o_l rfl (l_next0 rfl rfl (.inl M9) M5 rfl) ?_; intro _ _
  refine oX (e_extract rfl rfl) <| oN <| c_seq <| c_else rfl <| c_exit <| x_code <| x_upto <| x_here <| n_code <| c_seq <| c_keep (sK 4 rfl <| sub_nil) <| c_region <| oA rfl <| oN <| c_ret ?_
  refine WR.sel (.cons (.tail (.tail (.tail (.tail (.tail (.tail (.tail (.tail (.tail (.tail .head)))))))))) (.cons (.tail (.tail (.tail (.tail (.tail (.tail (.tail (.tail (.tail (.tail .head)))))))))) (.cons (.tail (.tail (.tail (.tail (.tail (.tail (.tail (.tail (.tail (.tail .head)))))))))) (.cons (.tail (.tail .head)) .nil)))) <| r_fn1 results316 rfl ?_
  exact tells (y := (g10)) trivial rfl rfl

theorem z128 {G : HP} (p0 : Nat) (p1 : Nat) (p2 : Nat) (p3 : Nat) (p4 : Nat) :
    CtrE Tryz.prog 317 [pv p0, pv p2] G [(p0, C [.map (some p1)] 330), (p1, Mo .u64 []), (p2, C [.map (some p3), vq 0] 437), (p3, Mo .u32 [(9, .agg #[vd 9, vq 1, .slice (ad p4 0) 9 9])]), (p4, C xb3 5)] (T := Unit) (fun _ => True) (fun _ => .tuple #[]) (fun _ => [(p0, C [.map (some p1)] 330), (p1, Mo .u64 [(0, pv p2)]), (p2, C [.map (some p3), vq 0] 437), (p3, Mo .u32 [(9, .agg #[vd 9, vq 1, .slice (ad p4 0) 9 9])]), (p4, C xb3 5)]) := by
  refine fn_enter 12 func317 rfl ntmps317 rfl ?_
  intro w0
  refine c_regiond [(p0, C [.map (some p1)] 330), (p2, C [.map (some p3), vq 0] 437), (p3, Mo .u32 [(9, .agg #[vd 9, vq 1, .slice (ad p4 0) 9 9])]), (p4, C xb3 5)] (by kernel_rfl) (.cons_cons _ (.cons _ (.cons_cons _ (.cons_cons _ (.cons_cons _ (.slnil)))))) ?_
  refine dX 0 rfl (e_move rfl) <| dX 1 rfl (e_nilCheck rfl) <| dX 2 rfl (e_load isAgg330 rfl (.inl M0) rfl) <| dX 3 rfl (e_move rfl) ?_
  refine dX 4 rfl (e_nilCheck rfl) <| dX 5 rfl (eA (.pointer (ad p2 1)) (e_fa runUnderlying437 rfl sizeOf23 rfl rfl)) <| dX 6 rfl (e_load isAgg23 rfl (.inl M1) rfl) ?_
  refine dX 7 rfl (e_move rfl) <| d_l 8 (by kernel_rfl) rfl rfl (l_mapup runUnderlying330 runUnderlying23 rfl rfl rfl (.tail .head)) (fun _ _ => hs_cons (.head _) (hs_cons M2 (hs_cons M3 (hs_cons M4 (hs_nil))))) ?_
  intro _ _
  refine dN <| WN.sel (.cons .head (.cons .head (.cons .head (.cons .head (.cons .head .nil))))) <| n_fn0 results317 ?_
  exact tells (y := ()) trivial rfl rfl

theorem z129 {G : HP} (p0 : Nat) (p1 : Nat) (q2 : Tl) (h2 : TlOk 2 1 q2) :
    CtrE Tryz.prog 310 [pv p0, .slice (ad q2.g 0) 1 q2.cap] G [(p0, C [.map (some p1)] 330), (p1, Mo .u64 []), (q2.g, Ob [S [1, 85, 0, 1, 97], vq 7] q2 184)] (T := Nat × Nat × Nat) (fun _ => True) (fun y => .nilIface) (fun y => [(p0, C [.map (some p1)] 330), (p1, Mo .u64 [(0, pv y.1)]), (q2.g, Ob [S [1, 85, 0, 1, 97], vq 7] q2 184), (y.1, C [.map (some y.2.1), vq 0] 437), (y.2.1, Mo .u32 [(9, .agg #[vd 9, vq 1, .slice (ad y.2.2 0) 9 9])]), (y.2.2, C xb3 5)]) := by
  refine fn_enter 80 func310 rfl ntmps310 rfl ?_
  intro w0
  refine cR <| oA rfl <| oN <| cR ?_
  refine o_l rfl (l_mkmap rfl .u64) ?_; intro g1 _
  refine oA rfl <| oN <| c_seq <| cR <| oM rfl <| oX (eA (vi 1) (e_lenl runUnderlying182 rfl)) <| oM rfl <| oN <| c_block <| c_rounds 999 <| cR <| oI (.bool true) rfl rfl <| oN <| c_seq <| c_then rfl <| c_skip <| n_code <| c_seq <| c_block <| cR ?_
  refine oX (eA (pv q2.g) (e_ia runUnderlying182 sizeOf184 rfl rfl (by decide) (by decide))) <| oX (e_loada isAgg184 sizeOf184 rfl (.inl M3) (.take (.take .done))) ?_
  refine o_l rfl (l_alloc zeroValue184 rfl rfl) ?_; intro g2 _
  refine o_l rfl (l_storea sizeOf184 rfl rfl rfl (by simp [Value.oneCell']) .head (.take (.take .done)) nofrs0) ?_; intro _ _
  refine oN <| cR <| oX (eA (pv g2) (e_fa runUnderlying184 rfl sizeOf111 rfl rfl)) <| oX (e_loada isAgg111 sizeOf111 rfl (.inl M0) (.take .done)) ?_
  refine o_l rfl (l_calle call93 (z34 ) rfl rfl .nil) ?_; intro r3 hr3
  refine o_cat (.cons .nil) ?_
  refine o_l rfl (l_calle call92 (z41 r3 hr3) rfl rfl (.cons .head .nil)) ?_; intro r4 hr4
  refine o_cat (.cons (.cons .nil)) <| oM rfl <| oX (e_extract rfl rfl) <| oX (e_extract rfl rfl) <| oA rfl <| oA rfl <| oN <| c_seq <| cR <| oM rfl <| oX (e_nnen runUnderlying80 rfl) <| oN <| cL rfl <| cR <| oM rfl <| oC rfl <| oX (eA (pv r4) (e_fa runUnderlying181 rfl sizeOf23 rfl rfl)) ?_
  refine oX (e_load isAgg23 rfl (.inl M1) rfl) <| oA rfl <| oN <| cR <| oM rfl <| oM rfl <| oX (e_as (r := .tuple #[.slice none 0 0, .bool false]) (e_lookup2 runUnderlying438 runUnderlying23 zeroValue182 rfl rfl (.inl M3)) (by kernel_rfl)) <| oM rfl <| oX (e_extract rfl rfl) <| oX (e_extract rfl rfl) <| oA rfl <| oA rfl <| oN <| c_seq ?_
  refine cR <| oM rfl <| oX (eA (.bool true) (e_not rfl)) <| oN <| c_then rfl <| cR ?_
  refine o_l rfl (l_mksc (l := []) (n := 0) (m := 0) underlying182 (info_of typeInfo184) rfl rfl rfl rfl rfl rfl rfl (by decide) (by kernel_rfl)) ?_; intro g5 _
  refine oA rfl <| oN <| c_region <| oM rfl <| oM rfl <| oM rfl ?_
  refine o_l rfl (l_mapup runUnderlying438 runUnderlying23 rfl rfl rfl (.tail (.tail (.tail (.tail .head))))) ?_; intro _ _
  refine oN <| c_region <| oM rfl <| oM rfl <| oM rfl <| oX (e_loada isAgg184 sizeOf184 rfl (.inl M3) (.take (.take .done))) ?_
  refine o_l rfl (l_bs (l := [S [1, 85, 0, 1, 97], vq 7]) runUnderlying182 sizeOf184 zeroValue184 rfl rfl rfl rfl (by kernel_rfl)) ?_; intro g6 _
  refine o_l rfl (l_app (off := 1) (L := [S [1, 85, 0, 1, 97], vq 7]) underlying182 (info_of typeInfo184) rfl rfl rfl rfl rfl rfl (.tail .head) rfl (by decide) (by decide) (.inr rfl) .done (Sv.blk (vs := [S [1, 85, 0, 1, 97], vq 7]) underlying182 (.inl M0) (.take (.take .done)) (by simp [Value.oneCell'])) .nil rfl rfl rfl rfl) ?_; intro y7 hy7
  refine o_l rfl (l_mapup runUnderlying438 runUnderlying23 rfl rfl rfl (.tail (.tail (.tail (.tail (.tail .head)))))) ?_; intro _ _
  refine o_nil <| n_block <| n_code <| c_region <| oI (vi 1) rfl rfl <| oM rfl <| o_nil <| n_rounds ?_
  refine c_keep (sK 20 rfl <| sK 56 rfl <| sK 55 rfl <| sK 54 rfl <| sK 53 rfl <| sK 52 rfl <| sK 51 rfl <| sK 50 rfl <| sK 49 rfl <| sK 48 rfl <| sK 47 rfl <| sK 11 rfl <| sK 46 rfl <| sK 45 rfl <| sK 44 rfl <| sK 12 rfl <| sK 43 rfl <| sK 42 rfl <| sK 38 rfl <| sK 41 rfl <| sK 40 rfl <| sK 39 rfl <| sK 10 rfl <| sK 37 rfl <| sK 36 rfl <| sK 35 rfl <| sK 34 rfl <| sK 32 rfl <| sK 31 rfl <| sK 9 rfl <| sK 8 rfl <| sK 30 rfl <| sK 29 rfl <| sK 24 rfl <| sK 28 rfl <| sK 27 rfl <| sK 26 rfl <| sK 25 rfl <| sK 7 rfl <| sK 23 rfl <| sK 22 rfl <| sK 21 rfl <| sK 19 rfl <| sK 18 rfl <| sK 5 rfl <| sK 4 rfl <| sK 0 rfl <| sub_nil) ?_
  refine cR <| oI (.bool false) rfl rfl <| oN <| c_seq <| c_else rfl <| c_exit <| x_code <| x_upto <| x_here <| n_code <| c_seq <| cR <| oM rfl ?_
  refine o_l rfl (l_range runUnderlying438 rfl rfl (.inl M5)) ?_; intro g8 _
  refine oN <| c_block <| c_rounds 999 <| cR ?_
  refine o_l rfl (l_next1 0 rfl rfl (.inl M6) .head rfl rfl rfl) ?_; intro _ _
  refine oX (e_extract rfl rfl) <| oN <| c_seq <| c_then rfl <| c_skip <| n_code <| c_block <| c_seq <| c_keep (sK 60 rfl <| sK 59 rfl <| sK 58 rfl <| sK 4 rfl <| sK 0 rfl <| sub_nil) <| c_region <| oX (e_entry (j := 0) (seen := []) rfl (.inl M0) (.inl M6) rfl) <| oX (e_extract rfl rfl) <| oX (e_extract rfl rfl) <| oA rfl <| oA rfl ?_
  refine oN <| cR ?_
  refine o_l rfl (l_calle call315 (z126 ) rfl rfl .nil) ?_; intro r9 hr9
  refine o_cat (.cons (.cons .nil)) <| oA rfl <| oN <| cR <| oM rfl <| oM rfl <| oC rfl <| oX (eA (.pointer (ad r9.1 1)) (e_fa runUnderlying437 rfl sizeOf23 rfl rfl)) ?_
  refine o_l rfl (l_store sizeOf23 rfl rfl rfl .head (.tail .head) nofr0) ?_; intro _ _
  refine oN <| c_seq <| cR <| oM rfl <| oC rfl <| oX (eA (pv r9.1) (e_fa runUnderlying437 rfl sizeOf327 rfl rfl)) <| oM rfl ?_
  refine o_l rfl (l_calle call316 (z127 (r9.1) (r9.2) y7 hy7) rfl rfl (.cons .head (.cons .head (.cons (.tail .head) .nil)))) ?_; intro r10 hr10
  refine o_cat (.cons (.cons (.cons (.cons .nil)))) <| oA rfl <| oN <| cR <| oM rfl <| oX (e_nnen runUnderlying80 rfl) <| oN <| cL rfl <| c_region <| oM rfl <| oM rfl ?_
  refine o_l rfl (l_calle call317 (z128 (p0) (p1) (r9.1) (r9.2) (r10)) rfl rfl (.cons (.tail (.tail (.tail (.tail (.tail (.tail (.tail (.tail (.tail (.tail .head)))))))))) (.cons (.tail (.tail (.tail (.tail (.tail (.tail (.tail (.tail (.tail (.tail .head)))))))))) (.cons .head (.cons .head (.cons (.tail .head) .nil)))))) ?_; intro r11 hr11
  refine o_cat (.cons (.cons (.cons (.cons (.cons .nil))))) <| o_nil <| n_block <| n_rounds ?_
  refine c_keep (sK 78 rfl <| sK 77 rfl <| sK 75 rfl <| sK 74 rfl <| sK 16 rfl <| sK 73 rfl <| sK 72 rfl <| sK 71 rfl <| sK 70 rfl <| sK 69 rfl <| sK 68 rfl <| sK 67 rfl <| sK 66 rfl <| sK 65 rfl <| sK 15 rfl <| sK 64 rfl <| sK 14 rfl <| sK 13 rfl <| sK 63 rfl <| sK 62 rfl <| sK 61 rfl <| sK 60 rfl <| sK 59 rfl <| sK 58 rfl <| sK 4 rfl <| sK 0 rfl <| sub_nil) ?_
  refine cR ?_
  refine o_l rfl (l_next0 rfl rfl (.inl M11) M6 rfl) ?_; intro _ _
  refine oX (e_extract rfl rfl) <| oN <| c_seq <| c_else rfl <| c_exit <| x_code <| x_upto <| x_here <| n_code <| cR <| oA rfl <| oN <| c_ret <| WR.sel (.cons .head (.cons .head (.cons (.tail (.tail (.tail (.tail (.tail (.tail (.tail (.tail (.tail (.tail .head)))))))))) (.cons .head (.cons .head (.cons .head .nil)))))) <| r_fn1 results310 rfl ?_
  exact tells (y := (r9.1, r9.2, r10)) trivial rfl rfl

theorem z130 {G : HP} (p0 : Nat) (p1 : Nat) (p2 : Nat) (p3 : Nat) (p4 : Nat) :
    CtrE Tryz.prog 308 [pv p0] G [(p0, C [.map (some p1)] 330), (p1, Mo .u64 [(0, pv p2)]), (p2, C [.map (some p3), vq 0] 437), (p3, Mo .u32 [(9, .agg #[vd 9, vq 1, .slice (ad p4 0) 9 9])]), (p4, C xb3 5)] (T := Unit) (fun _ => True) (fun _ => vq 1025) (fun _ => [(p0, C [.map (some p1)] 330), (p1, Mo .u64 [(0, pv p2)]), (p2, C [.map (some p3), vq 0] 437), (p3, Mo .u32 [(9, .agg #[vd 9, vq 1, .slice (ad p4 0) 9 9])]), (p4, C xb3 5)]) := by
  refine fn_enter 3 func308 rfl ntmps308 rfl ?_
  intro w0
  refine cR <| oA rfl <| oN <| cR <| oA rfl <| oN <| c_ret <| WR.sel (.cons .head (.cons .head (.cons .head (.cons .head (.cons .head .nil))))) <| r_fn1 results308 rfl ?_
  exact tells (y := ()) trivial rfl rfl

theorem z131 {G : HP} (p0 : Nat) :
    CtrE Tryz.prog 150 [.slice (ad p0 0) 10 10, vq 1025] G [(p0, C xb0 5)] (T := Unit) (fun _ => True) (fun _ => vi 2) (fun _ => [(p0, C xb18 5)]) := by
  refine fn_enter 25 func150 rfl ntmps150 rfl ?_
  intro w0
  refine cR <| oA rfl <| oN <| cR <| oA rfl <| oN <| c_seq <| c_block <| c_rounds 999 <| c_seq <| cR <| oM rfl <| oI (.bool true) rfl rfl <| oN <| c_then rfl <| c_skip <| n_code <| c_block <| cR <| oM rfl <| oM rfl <| oM rfl <| oX (e_convc (r := ub 1) runUnderlying23 runUnderlying5 rfl (by kernel_rfl)) ?_
  refine oI (ub 129) rfl rfl <| oX (eA (pv p0) (e_ia runUnderlying72 sizeOf5 rfl rfl (by decide) (by decide))) ?_
  refine o_l rfl (l_store sizeOf5 rfl rfl rfl .head .head nofr0) ?_; intro _ _
  refine oN <| cR <| oM rfl <| oX (e_shrc (r := vq 8) rfl rfl rfl (by kernel_rfl)) <| oA rfl <| oN <| c_region <| oM rfl <| oI (vi 1) rfl rfl <| oA rfl <| o_nil <| n_block <| n_rounds <| c_seq <| cR <| oM rfl <| oI (.bool false) rfl rfl <| oN <| c_else rfl <| c_exit <| x_code <| x_upto <| x_here <| n_code <| cR <| oM rfl ?_
  refine oM rfl <| oM rfl <| oX (e_convc (r := ub 8) runUnderlying23 runUnderlying5 rfl (by kernel_rfl)) <| oX (eA (.pointer (ad p0 1)) (e_ia runUnderlying72 sizeOf5 rfl rfl (by decide) (by decide))) ?_
  refine o_l rfl (l_store sizeOf5 rfl rfl rfl .head (.tail .head) nofr0) ?_; intro _ _
  refine oN <| cR <| oM rfl <| oI (vi 2) rfl rfl <| oA rfl <| oN <| c_ret <| WR.sel (.cons .head .nil) <| r_fn1 results150 rfl ?_
  exact tells (y := ()) trivial rfl rfl

theorem z132 {G : HP} (p0 : Nat) :
    CtrE Tryz.prog 77 [.slice (ad p0 0) 10 10, vq 1025] G [(p0, C xb0 5)] (T := Unit) (fun _ => True) (fun _ => vi 2) (fun _ => [(p0, C xb18 5)]) := by
  refine fn_enter 8 func77 rfl ntmps77 rfl ?_
  intro w0
  refine cR <| oA rfl <| oN <| cR <| oM rfl <| oM rfl ?_
  refine o_l rfl (l_calle call150 (z131 (p0)) rfl rfl (.cons .head .nil)) ?_; intro r1 hr1
  refine o_cat (.cons .nil) <| oA rfl <| oN <| c_ret <| WR.sel (.cons .head .nil) <| r_fn1 results77 rfl ?_
  exact tells (y := ()) trivial rfl rfl

theorem z133 {G : HP} (p0 : Nat) (p1 : Nat) :
    CtrE Tryz.prog 294 [pv p0, .slice (ad p1 0) 2 10] G [(p0, C [.slice none 0 0, vi 0, .int .i8 0] 86), (p1, C xb18 5)] (T := Nat) (fun _ => True) (fun y => .tuple #[vi 2, .nilIface]) (fun y => [(p0, C [.slice (ad y 0) 2 64, vi 0, .int .i8 0] 86), (p1, C xb18 5), (y, C xb19 5)]) := by
  refine fn_enter 32 func294 rfl ntmps294 rfl ?_
  intro w0
  refine cR <| oA rfl <| oA rfl <| oN <| cR <| oM rfl <| oC rfl <| oX (eA (.pointer (ad p0 2)) (e_fa runUnderlying86 rfl sizeOf84 rfl rfl)) ?_
  refine o_l rfl (l_store sizeOf84 rfl rfl rfl .head (.tail (.tail .head)) nofr0) ?_; intro _ _
  refine oN <| cR <| oM rfl <| oM rfl <| oX (eA (vi 2) (e_lenl runUnderlying72 rfl)) ?_
  refine o_l rfl (l_calle call296 (z50 (p0)) rfl rfl (.cons .head .nil)) ?_; intro r1 hr1
  refine o_cat (.cons .nil) <| oM rfl <| oX (e_extract rfl rfl) <| oX (e_extract rfl rfl) <| oA rfl <| oA rfl <| oN <| c_seq <| cR <| oM rfl <| oX (eA (.bool true) (e_not rfl)) <| oN <| c_then rfl <| c_region <| oM rfl <| oM rfl <| oX (eA (vi 2) (e_lenl runUnderlying72 rfl)) ?_
  refine o_l rfl (l_calle call297 (z52 (p0)) rfl rfl (.cons .head .nil)) ?_; intro r2 hr2
  refine o_cat (.cons (.cons .nil)) <| oA rfl <| oN <| cR <| oM rfl <| oC rfl <| oX (eA (pv p0) (e_fa runUnderlying86 rfl sizeOf72 rfl rfl)) <| oX (e_load isAgg72 rfl (.inl M0) rfl) <| oM rfl <| oX (e_as (r := .slice (ad r2 0) 2 64) (e_sl_l runUnderlying72 sizeOf5 rfl rfl (by decide) (by decide) (by decide)) (by first | rfl | (simp; try omega))) ?_
  refine oM rfl ?_
  refine o_l rfl (l_copy (vs := [ub 129, ub 8]) (k' := 2) runUnderlying72 sizeOf5 rfl rfl rfl (Sv.blk (vs := [ub 129, ub 8]) underlying72 (.inl M2) (.take (.take .done)) (by simp [Value.oneCell'])) rfl (.tail .head) (.take (.take .done)) (.inr rfl)) ?_; intro _ _
  refine oA rfl <| oA rfl <| oN <| c_ret <| WR.sel (.cons .head (.cons (.tail .head) (.cons .head .nil))) <| r_fn (l := [.tmp 4, .tmp 5]) results294 rfl rfl ?_
  exact tells (y := (r2)) trivial rfl rfl

theorem z134 {G : HP} (p0 : Nat) (p1 : Nat) :
    CtrE Tryz.prog 296 [pv p0, vi 4] G [(p0, C [.slice (ad p1 0) 2 64, vi 0, .int .i8 0] 86), (p1, C xb19 5)] (T := Unit) (fun _ => True) (fun _ => .tuple #[vi 2, .bool true]) (fun _ => [(p0, C [.slice (ad p1 0) 6 64, vi 0, .int .i8 0] 86), (p1, C xb19 5)]) := by
  refine fn_enter 33 func296 rfl ntmps296 rfl ?_
  intro w0
  refine cR <| oA rfl <| oA rfl <| oN <| c_seq <| cR <| oM rfl <| oC rfl <| oX (eA (pv p0) (e_fa runUnderlying86 rfl sizeOf72 rfl rfl)) <| oX (e_load isAgg72 rfl (.inl M0) rfl) <| oX (eA (vi 2) (e_lenl runUnderlying72 rfl)) <| oA rfl <| oN <| cR <| oM rfl <| oM rfl <| oC rfl ?_
  refine oX (eA (pv p0) (e_fa runUnderlying86 rfl sizeOf72 rfl rfl)) <| oX (e_load isAgg72 rfl (.inl M0) rfl) <| oX (eA (vi 64) (e_cap runUnderlying72 rfl)) <| oM rfl <| oI (vi 62) rfl rfl <| oI (.bool true) rfl rfl <| oN <| c_then rfl <| cR <| oM rfl <| oM rfl <| oC rfl ?_
  refine oX (eA (pv p0) (e_fa runUnderlying86 rfl sizeOf72 rfl rfl)) <| oX (e_load isAgg72 rfl (.inl M0) rfl) <| oM rfl <| oM rfl <| oI (vi 6) rfl rfl <| oX (eA (.slice (ad p1 0) 6 64) (e_sl_h runUnderlying72 sizeOf5 rfl rfl (by decide) (by decide))) <| oC rfl ?_
  refine oX (eA (pv p0) (e_fa runUnderlying86 rfl sizeOf72 rfl rfl)) ?_
  refine o_l rfl (l_store sizeOf72 rfl rfl rfl .head .head nofr0) ?_; intro _ _
  refine oN <| cR <| oM rfl <| oA rfl <| oA rfl <| oN <| c_ret <| WR.sel (.cons .head (.cons .head .nil)) <| r_fn (l := [.tmp 4, .tmp 5]) results296 rfl rfl ?_
  exact tells (y := ()) trivial rfl rfl

theorem z135 {G : HP} (p0 : Nat) (p1 : Nat) (p2 : Nat) :
    CtrE Tryz.prog 294 [pv p0, .slice (ad p2 0) 4 4] G [(p0, C [.slice (ad p1 0) 2 64, vi 0, .int .i8 0] 86), (p1, C xb19 5), (p2, C [ub 1, ub 0, ub 0, ub 0] 5)] (T := Unit) (fun _ => True) (fun _ => .tuple #[vi 4, .nilIface]) (fun _ => [(p0, C [.slice (ad p1 0) 6 64, vi 0, .int .i8 0] 86), (p1, C xb20 5), (p2, C [ub 1, ub 0, ub 0, ub 0] 5)]) := by
  refine fn_enter 32 func294 rfl ntmps294 rfl ?_
  intro w0
  refine cR <| oA rfl <| oA rfl <| oN <| cR <| oM rfl <| oC rfl <| oX (eA (.pointer (ad p0 2)) (e_fa runUnderlying86 rfl sizeOf84 rfl rfl)) ?_
  refine o_l rfl (l_store sizeOf84 rfl rfl rfl .head (.tail (.tail .head)) nofr0) ?_; intro _ _
  refine oN <| cR <| oM rfl <| oM rfl <| oX (eA (vi 4) (e_lenl runUnderlying72 rfl)) ?_
  refine o_l rfl (l_calle call296 (z134 (p0) (p1)) rfl rfl (.cons .head (.cons .head .nil))) ?_; intro r1 hr1
  refine o_cat (.cons (.cons .nil)) <| oM rfl <| oX (e_extract rfl rfl) <| oX (e_extract rfl rfl) <| oA rfl <| oA rfl <| oN <| c_seq <| cR <| oM rfl <| oX (eA (.bool false) (e_not rfl)) <| oN <| cL rfl <| cR <| oM rfl <| oC rfl <| oX (eA (pv p0) (e_fa runUnderlying86 rfl sizeOf72 rfl rfl)) ?_
  refine oX (e_load isAgg72 rfl (.inl M0) rfl) <| oM rfl <| oX (e_as (r := .slice (ad p1 2) 4 62) (e_sl_l runUnderlying72 sizeOf5 rfl rfl (by decide) (by decide) (by decide)) (by first | rfl | (simp; try omega))) <| oM rfl ?_
  refine o_l rfl (l_copy (vs := [ub 1, ub 0, ub 0, ub 0]) (k' := 4) runUnderlying72 sizeOf5 rfl rfl rfl (Sv.blk (vs := [ub 1, ub 0, ub 0, ub 0]) underlying72 (.inl M2) (.take (.take (.take (.take .done)))) (by simp [Value.oneCell'])) rfl (.tail .head) (.skip (.skip (.take (.take (.take (.take .done)))))) (.inr rfl)) ?_; intro _ _
  refine oA rfl <| oA rfl <| oN <| c_ret <| WR.sel (.cons .head (.cons .head (.cons .head .nil))) <| r_fn (l := [.tmp 4, .tmp 5]) results294 rfl rfl ?_
  exact tells (y := ()) trivial rfl rfl

theorem z136 {G : HP} (p0 : Nat) (p1 : Nat) :
    CtrE Tryz.prog 318 [.iface 89 (pv p0), vd 1] G [(p0, C [.slice (ad p1 0) 2 64, vi 0, .int .i8 0] 86), (p1, C xb19 5)] (T := Unit) (fun _ => True) (fun _ => .nilIface) (fun _ => [(p0, C [.slice (ad p1 0) 6 64, vi 0, .int .i8 0] 86), (p1, C xb20 5)]) := by
  refine fn_enter 20 func318 rfl ntmps318 rfl ?_
  intro w0
  refine cR <| oA rfl <| oN <| cR ?_
  refine o_l rfl (l_mksc (l := [ub 0, ub 0, ub 0, ub 0]) (n := 4) (m := 4) underlying72 (info_of typeInfo5) rfl rfl rfl rfl rfl rfl rfl (by decide) (by kernel_rfl)) ?_; intro g1 _
  refine oA rfl <| oN <| cR <| oX (e_load0 isAgg294 sizeOf294 rfl) <| oM rfl <| oM rfl ?_
  refine o_l rfl (l_calle call326 (z54 (g1)) rfl rfl (.cons .head .nil)) ?_; intro r2 hr2
  refine o_cat (.cons .nil) <| oN <| cR <| oM rfl <| oM rfl ?_
  refine o_l rfl (l_callie call294 (by intro w; kernel_rfl) (z135 (p0) (p1) (g1)) rfl rfl rfl (.cons (.tail .head) (.cons (.tail .head) (.cons .head .nil)))) ?_; intro r3 hr3
  refine o_cat (.cons (.cons (.cons .nil))) <| oM rfl <| oX (e_extract rfl rfl) <| oX (e_extract rfl rfl) <| oA rfl <| oA rfl <| oN <| cR <| oM rfl <| oA rfl <| oN <| c_ret <| WR.sel (.cons .head (.cons .head .nil)) <| r_fn1 results318 rfl ?_
  exact tells (y := ()) trivial rfl rfl

theorem z137 {G : HP} (q0 : Tl) (h0 : TlOk 1 1 q0) :
    CtrE Tryz.prog 351 [.slice (ad q0.g 0) 1 q0.cap, vi 0, vi 1] G [(q0.g, Ob [vq 0] q0 23)] (T := Unit) (fun _ => True) (fun _ => .tuple #[]) (fun _ => [(q0.g, Ob [vq 0] q0 23)]) := by
  refine fn_enter 49 func351 rfl ntmps351 rfl ?_
  intro w0
  refine cR <| oM rfl <| oI (vi 1) rfl rfl <| oA rfl <| oN <| c_block <| c_rounds 999 <| c_seq <| cR <| oM rfl <| oM rfl <| oI (.bool false) rfl rfl <| oN <| c_else rfl <| c_exit <| x_code <| x_upto <| x_here <| WN.sel (.cons .head .nil) <| n_fn0 results351 ?_
  exact tells (y := ()) trivial rfl rfl

theorem z138 {G : HP} (q0 : Tl) (h0 : TlOk 1 1 q0) :
    CtrE Tryz.prog 338 [.slice (ad q0.g 0) 1 q0.cap, vi 0, vi 1, vi 1] G [(q0.g, Ob [vq 0] q0 23)] (T := Unit) (fun _ => True) (fun _ => .tuple #[]) (fun _ => [(q0.g, Ob [vq 0] q0 23)]) := by
  refine fn_enter 134 func338 rfl ntmps338 rfl ?_
  intro w0
  refine cR <| oA rfl <| oN <| cR <| oA rfl <| oN <| c_block <| c_rounds 999 <| c_block <| cR <| oM rfl <| oM rfl <| oI (vi 1) rfl rfl <| oA rfl <| oN <| c_seq <| cR <| oM rfl <| oI (.bool true) rfl rfl <| oN <| c_then rfl <| cR <| oM rfl <| oM rfl <| oM rfl ?_
  refine o_l rfl (l_calle call351 (z137 q0 h0) rfl rfl (.cons .head .nil)) ?_; intro r1 hr1
  refine o_cat (.cons .nil) <| oN <| c_ret <| WR.sel (.cons .head .nil) <| r_fn0 results338 ?_
  exact tells (y := ()) trivial rfl rfl

theorem z139 {G : HP} (q0 : Tl) (h0 : TlOk 1 1 q0) :
    CtrE Tryz.prog 327 [.slice (ad q0.g 0) 1 q0.cap] G [(q0.g, Ob [vq 0] q0 23)] (T := Unit) (fun _ => True) (fun _ => .tuple #[]) (fun _ => [(q0.g, Ob [vq 0] q0 23)]) := by
  refine fn_enter 11 func327 rfl ntmps327 rfl ?_
  intro w0
  refine cR <| oM rfl <| oX (eA (vi 1) (e_lenl runUnderlying29 rfl)) <| oA rfl <| oN <| c_region <| oM rfl <| oM rfl <| oM rfl <| oX (e_convc (r := vq 1) runUnderlying3 runUnderlying131 rfl (by kernel_rfl)) ?_
  refine o_l rfl (l_calle call66 (z58 ) rfl rfl .nil) ?_; intro r1 hr1
  refine o_cat .nil ?_
  refine o_l rfl (l_calle call338 (z138 q0 h0) rfl rfl (.cons .head .nil)) ?_; intro r2 hr2
  refine o_cat (.cons .nil) <| o_nil <| WN.sel (.cons .head .nil) <| n_fn0 results327 ?_
  exact tells (y := ()) trivial rfl rfl
end Go.Proofs
