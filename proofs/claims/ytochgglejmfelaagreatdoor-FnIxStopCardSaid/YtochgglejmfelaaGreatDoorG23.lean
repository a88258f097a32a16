/- Runs at known values, part 10. (A part of the proof of this: for every input laws.FnIxStop returns true and its arguments read as they did, the listed package variables being what the program lays.) -/
import Derived.Test.YtochgglejmfelaaGreatDoorG02
import Derived.KernelRfl
import Derived.Test.YtochgglejmfelaaGreatDoorG22
namespace Go.Proofs
open Go Go.Sl Tryz
set_option maxRecDepth 100000
set_option maxHeartbeats 4000000
theorem z200 {G : HP} (p0 : Nat) (q1 : Tl) (h1 : TlOk 1 39 q1) :
    CtrE Tryz.prog 290 [pv p0, vi 0, vi 1] G [(p0, C [.slice (ad q1.g 0) 39 q1.cap, vi 39, vi (-1)] 144), (q1.g, Ob xb25 q1 5)] (T := Unit) (fun _ => True) (fun _ => .tuple #[vi 39, .nilIface]) (fun _ => [(p0, C [.slice (ad q1.g 0) 39 q1.cap, vi 39, vi (-1)] 144), (q1.g, Ob xb25 q1 5)]) := by
  refine fn_enter 42 func290 rfl ntmps290 rfl ?_
  intro w0
  refine cR <| oA rfl <| oA rfl <| oN <| cR <| oM rfl <| oC rfl <| oX (eA (.pointer (ad p0 2)) (e_fa runUnderlying144 rfl sizeOf3 rfl rfl)) ?_
  refine o_l rfl (l_store sizeOf3 rfl rfl rfl .head (.tail (.tail .head)) nofr0) ?_; intro _ _
  refine oN <| cR <| oA rfl <| oN <| c_seq <| cR <| oM rfl <| oN <| c_block <| cR <| oI (.bool false) rfl rfl <| oA rfl <| oN <| c_else rfl <| cR <| oI (.bool true) rfl rfl <| oA rfl <| oN <| c_then rfl <| c_region <| oM rfl <| oC rfl ?_
  refine oX (eA (.pointer (ad p0 1)) (e_fa runUnderlying144 rfl sizeOf2 rfl rfl)) <| oX (e_load isAgg2 rfl (.inl M0) rfl) <| oM rfl <| oI (vi 39) rfl rfl <| oA rfl <| o_nil <| n_block <| n_code <| c_seq <| cR <| oM rfl <| oI (.bool false) rfl rfl <| oN <| cL rfl <| cR <| oM rfl <| oM rfl ?_
  refine oC rfl <| oX (eA (.pointer (ad p0 1)) (e_fa runUnderlying144 rfl sizeOf2 rfl rfl)) ?_
  refine o_l rfl (l_store sizeOf2 rfl rfl rfl .head (.tail .head) nofr0) ?_; intro _ _
  refine oN <| cR <| oM rfl <| oA rfl <| oA rfl <| oN <| c_ret <| WR.sel (.cons .head (.cons .head .nil)) <| r_fn (l := [.tmp 6, .tmp 7]) results290 rfl rfl ?_
  exact tells (y := ()) trivial rfl rfl

theorem z201 {G : HP} (p0 : Nat) (p1 : Nat) (p2 : Nat) (q3 : Tl) (h3 : TlOk 1 39 q3) :
    CtrE Tryz.prog 332 [pv p0, .iface 75 (pv p2)] G [(p0, C [.map (some p1), vq 0] 437), (p1, Mo .u32 []), (p2, C [.slice (ad q3.g 0) 39 q3.cap, vi 14, vi (-1)] 144), (q3.g, Ob xb25 q3 5)] (T := Nat) (fun _ => True) (fun y => .nilIface) (fun y => [(p0, C [.map (some p1), vq 0] 437), (p1, Mo .u32 [(9, .agg #[vd 9, vq 1, .slice (ad y 0) 9 9])]), (p2, C [.slice (ad q3.g 0) 39 q3.cap, vi 39, vi (-1)] 144), (q3.g, Ob xb25 q3 5), (y, C xb3 5)]) := by
  refine fn_enter 75 func332 rfl ntmps332 rfl ?_
  intro w0
  refine cR <| oA rfl <| oN <| cR <| oM rfl ?_
  refine o_l rfl (l_calle call164 (z182 (p2) q3 h3) rfl rfl (.cons (.tail (.tail .head)) (.cons (.tail (.tail .head)) .nil))) ?_; intro r1 hr1
  refine o_cat (.cons (.cons .nil)) <| oA rfl <| oN <| cR ?_
  refine o_l rfl (l_alloc zeroValue212 rfl rfl) ?_; intro g2 _
  refine oN <| c_seq <| cR <| oM rfl ?_
  refine o_l rfl (l_calle call321 (z186 (p2) q3 h3 (g2)) rfl rfl (.cons (.tail .head) (.cons (.tail .head) (.cons .head .nil)))) ?_; intro r3 hr3
  refine o_cat (.cons (.cons (.cons .nil))) <| oA rfl <| oN <| cR <| oM rfl <| oX (e_nnen runUnderlying80 rfl) <| oN <| cL rfl <| cR <| oX (e_load isAgg212 rfl (.inl M2) rfl) <| oX (e_convc (r := .int .i32 1) runUnderlying212 runUnderlying21 rfl (by kernel_rfl)) <| oA rfl <| oN <| cR <| oM rfl ?_
  refine o_l rfl (l_callie call290 (by intro w; kernel_rfl) (z187 (p2) q3 h3) rfl rfl rfl (.cons .head (.cons .head .nil))) ?_; intro r4 hr4
  refine o_cat (.cons (.cons .nil)) <| oM rfl <| oX (e_extract rfl rfl) <| oX (e_extract rfl rfl) <| oA rfl <| oA rfl <| oN <| c_seq <| cR <| oM rfl <| oX (e_nnen runUnderlying80 rfl) <| oN <| cL rfl <| c_seq <| cR <| oM rfl <| oI (.bool false) rfl rfl <| oN <| cL rfl <| c_seq <| cR <| oA rfl <| o_nil ?_
  refine n_code <| c_block <| c_rounds 999 <| c_seq <| cR <| oM rfl <| oM rfl <| oX (e_convc (r := vi 1) runUnderlying21 runUnderlying3 rfl (by kernel_rfl)) <| oI (.bool true) rfl rfl <| oN <| c_then rfl <| c_skip <| n_code <| c_seq <| c_block <| cR ?_
  refine oX (e_build (vs := [vd 0, vq 0, .slice none 0 0]) runUnderlying448 zeroValue448 (.cons sizeOf212 (.cons sizeOf23 (.cons sizeOf72 .nil))) rfl (by kernel_rfl)) ?_
  refine o_l rfl (l_alloc zeroValue448 rfl rfl) ?_; intro g5 _
  refine o_l rfl (l_storea sizeOf448 rfl rfl rfl (by simp [Value.oneCell']) .head (.take (.take (.take .done))) nofrs0) ?_; intro _ _
  refine oN <| c_seq <| cR <| oM rfl ?_
  refine o_l rfl (l_calle call341 (z199 (g5) (p2) q3 h3) rfl rfl (.cons .head (.cons .head (.cons .head .nil)))) ?_; intro r6 hr6
  refine o_cat (.cons (.cons (.cons (.cons .nil)))) <| oA rfl <| oN <| cR <| oM rfl <| oX (e_nnen runUnderlying80 rfl) <| oN <| cL rfl <| cR <| oM rfl ?_
  refine o_l rfl (l_callie call290 (by intro w; kernel_rfl) (z200 (p2) q3 h3) rfl rfl rfl (.cons (.tail .head) (.cons (.tail .head) .nil))) ?_; intro r7 hr7
  refine o_cat (.cons (.cons .nil)) <| oM rfl <| oX (e_extract rfl rfl) <| oX (e_extract rfl rfl) <| oA rfl <| oA rfl <| oN <| c_seq <| cR <| oM rfl <| oX (e_nnen runUnderlying80 rfl) <| oN <| cL rfl <| cR <| oM rfl <| oA rfl <| oN <| cR <| oM rfl <| oM rfl <| oI (vi 57) rfl rfl <| oA rfl <| oN ?_
  refine c_seq <| c_seq ?_
  refine c_keep (sK 9 rfl <| sK 64 rfl <| sK 63 rfl <| sK 62 rfl <| sK 16 rfl <| sK 61 rfl <| sK 59 rfl <| sK 58 rfl <| sK 15 rfl <| sK 14 rfl <| sK 57 rfl <| sK 56 rfl <| sK 53 rfl <| sK 55 rfl <| sK 54 rfl <| sK 51 rfl <| sK 50 rfl <| sK 13 rfl <| sK 49 rfl <| sK 48 rfl <| sK 12 rfl <| sK 47 rfl <| sK 44 rfl <| sK 43 rfl <| sK 42 rfl <| sK 41 rfl <| sK 11 rfl <| sK 8 rfl <| sK 5 rfl <| sK 4 rfl <| sK 1 rfl <| sK 0 rfl <| sub_nil) ?_
  refine c_region <| oM rfl <| oM rfl <| oI (.bool false) rfl rfl <| oN <| cL rfl ?_
  refine c_regiond [(p2, C [.slice (ad q3.g 0) 39 q3.cap, vi 39, vi (-1)] 144), (q3.g, Ob xb25 q3 5), (g5, C [vd 9, vq 1, .slice (ad r6 0) 9 9] 448), (r6, C xb3 5), (g2, C [vd 1] 212), (p0, C [.map (some p1), vq 0] 437)] (by kernel_rfl) (.cons_cons _ (.cons_cons _ (.cons_cons _ (.cons_cons _ (.cons_cons _ (.cons_cons _ (.cons _ (.slnil)))))))) ?_
  refine dX 0 rfl (e_move rfl) <| dX 1 rfl (e_nilCheck rfl) <| dX 2 rfl (e_load isAgg327 rfl (.inl M5) rfl) ?_
  refine dX 3 rfl (eA (pv g5) (e_fa runUnderlying448 rfl sizeOf212 rfl rfl)) <| dX 4 rfl (e_load isAgg212 rfl (.inl M2) rfl) ?_
  refine dX 5 rfl (e_loada isAgg448 sizeOf448 rfl (.inl M2) (.take (.take (.take .done)))) ?_
  refine d_l 6 (by kernel_rfl) rfl rfl (l_mapup runUnderlying327 runUnderlying212 rfl rfl rfl (.tail (.tail (.tail (.tail (.tail (.tail .head))))))) (fun _ _ => hs_cons (.head _) (hs_cons M1 (hs_cons M2 (hs_cons M3 (hs_cons M4 (hs_cons M5 (hs_nil))))))) ?_
  intro _ _
  refine dN <| n_block <| n_code <| c_region <| oM rfl <| oI (vi 1) rfl rfl <| oA rfl <| o_nil <| n_rounds ?_
  refine c_keep (sK 11 rfl <| sK 46 rfl <| sK 45 rfl <| sK 74 rfl <| sK 73 rfl <| sK 72 rfl <| sK 71 rfl <| sK 70 rfl <| sK 69 rfl <| sK 67 rfl <| sK 66 rfl <| sK 65 rfl <| sK 9 rfl <| sK 64 rfl <| sK 63 rfl <| sK 62 rfl <| sK 16 rfl <| sK 61 rfl <| sK 59 rfl <| sK 58 rfl <| sK 15 rfl <| sK 14 rfl <| sK 57 rfl <| sK 56 rfl <| sK 53 rfl <| sK 55 rfl <| sK 54 rfl <| sK 51 rfl <| sK 50 rfl <| sK 13 rfl <| sK 49 rfl <| sK 48 rfl <| sK 12 rfl <| sK 47 rfl <| sK 44 rfl <| sK 43 rfl <| sK 42 rfl <| sK 41 rfl <| sK 8 rfl <| sK 5 rfl <| sK 4 rfl <| sK 1 rfl <| sK 0 rfl <| sub_nil) ?_
  refine c_seq <| cR <| oM rfl <| oM rfl <| oX (e_convc (r := vi 1) runUnderlying21 runUnderlying3 rfl (by kernel_rfl)) <| oI (.bool false) rfl rfl <| oN <| c_else rfl <| c_exit <| x_code <| x_upto <| x_here <| n_code <| cR <| oA rfl <| oN <| c_ret ?_
  refine WR.sel (.cons (.tail (.tail (.tail (.tail (.tail .head))))) (.cons (.tail (.tail (.tail (.tail (.tail .head))))) (.cons .head (.cons .head (.cons (.tail .head) .nil))))) <| r_fn1 results332 rfl ?_
  exact tells (y := (r6)) trivial rfl rfl

theorem z202 {G : HP} (p0 : Nat) (p1 : Nat) (p2 : Nat) (q3 : Tl) (h3 : TlOk 1 39 q3) :
    CtrE Tryz.prog 322 [pv p0, .iface 75 (pv p2)] G [(p0, C [.map (some p1), vq 0] 437), (p1, Mo .u32 []), (p2, C [.slice (ad q3.g 0) 39 q3.cap, vi 6, vi (-1)] 144), (q3.g, Ob xb25 q3 5)] (T := Nat) (fun _ => True) (fun y => .nilIface) (fun y => [(p0, C [.map (some p1), vq 0] 437), (p1, Mo .u32 [(9, .agg #[vd 9, vq 1, .slice (ad y 0) 9 9])]), (p2, C [.slice (ad q3.g 0) 39 q3.cap, vi 39, vi (-1)] 144), (q3.g, Ob xb25 q3 5), (y, C xb3 5)]) := by
  refine fn_enter 23 func322 rfl ntmps322 rfl ?_
  intro w0
  refine cR <| oA rfl <| oN <| c_seq <| cR <| oM rfl <| oM rfl <| oC rfl <| oX (eA (.pointer (ad p0 1)) (e_fa runUnderlying437 rfl sizeOf23 rfl rfl)) ?_
  refine o_l rfl (l_calle call331 (z181 (p2) q3 h3 (p0) (p1)) rfl rfl (.cons (.tail (.tail .head)) (.cons (.tail (.tail .head)) (.cons .head (.cons .head .nil))))) ?_; intro r1 hr1
  refine o_cat (.cons (.cons (.cons (.cons .nil)))) <| oA rfl <| oN <| cR <| oM rfl <| oX (e_nnen runUnderlying80 rfl) <| oN <| cL rfl <| cR <| oM rfl <| oC rfl <| oX (eA (pv p0) (e_fa runUnderlying437 rfl sizeOf327 rfl rfl)) <| oM rfl ?_
  refine o_l rfl (l_calle call332 (z201 (p0) (p1) (p2) q3 h3) rfl rfl (.cons (.tail (.tail .head)) (.cons (.tail (.tail .head)) (.cons .head (.cons .head .nil))))) ?_; intro r2 hr2
  refine o_cat (.cons (.cons (.cons (.cons (.cons .nil))))) <| oA rfl <| oN <| c_ret <| WR.sel (.cons .head (.cons .head (.cons .head (.cons .head (.cons .head .nil))))) <| r_fn1 results322 rfl ?_
  exact tells (y := (r2)) trivial rfl rfl

theorem z203 {G : HP} (p0 : Nat) (p1 : Nat) (p2 : Nat) (q3 : Tl) (h3 : TlOk 1 39 q3) :
    CtrE Tryz.prog 312 [pv p0, .iface 75 (pv p2)] G [(p0, C [.map (some p1)] 330), (p1, Mo .u64 []), (p2, C [.slice (ad q3.g 0) 39 q3.cap, vi 2, vi (-1)] 144), (q3.g, Ob xb25 q3 5)] (T := Nat × Nat × Nat) (fun _ => True) (fun y => .nilIface) (fun y => [(p0, C [.map (some p1)] 330), (p1, Mo .u64 [(0, pv y.1)]), (p2, C [.slice (ad q3.g 0) 39 q3.cap, vi 39, vi (-1)] 144), (q3.g, Ob xb25 q3 5), (y.1, C [.map (some y.2.1), vq 0] 437), (y.2.1, Mo .u32 [(9, .agg #[vd 9, vq 1, .slice (ad y.2.2 0) 9 9])]), (y.2.2, C xb3 5)]) := by
  refine fn_enter 73 func312 rfl ntmps312 rfl ?_
  intro w0
  refine cR <| oA rfl <| oN <| cR <| oM rfl ?_
  refine o_l rfl (l_calle call164 (z171 (p2) q3 h3) rfl rfl (.cons (.tail (.tail .head)) (.cons (.tail (.tail .head)) .nil))) ?_; intro r1 hr1
  refine o_cat (.cons (.cons .nil)) <| oA rfl <| oN <| cR ?_
  refine o_l rfl (l_alloc zeroValue212 rfl rfl) ?_; intro g2 _
  refine oN <| c_seq <| cR <| oM rfl ?_
  refine o_l rfl (l_calle call321 (z175 (p2) q3 h3 (g2)) rfl rfl (.cons (.tail .head) (.cons (.tail .head) (.cons .head .nil)))) ?_; intro r3 hr3
  refine o_cat (.cons (.cons (.cons .nil))) <| oA rfl <| oN <| cR <| oM rfl <| oX (e_nnen runUnderlying80 rfl) <| oN <| cL rfl <| cR <| oX (e_load isAgg212 rfl (.inl M2) rfl) <| oX (e_convc (r := .int .i32 1) runUnderlying212 runUnderlying21 rfl (by kernel_rfl)) <| oA rfl <| oN <| cR <| oM rfl ?_
  refine o_l rfl (l_callie call290 (by intro w; kernel_rfl) (z176 (p2) q3 h3) rfl rfl rfl (.cons .head (.cons .head .nil))) ?_; intro r4 hr4
  refine o_cat (.cons (.cons .nil)) <| oM rfl <| oX (e_extract rfl rfl) <| oX (e_extract rfl rfl) <| oA rfl <| oA rfl <| oN <| c_seq <| cR <| oM rfl <| oX (e_nnen runUnderlying80 rfl) <| oN <| cL rfl <| c_seq <| cR <| oM rfl <| oI (.bool false) rfl rfl <| oN <| cL rfl <| c_seq <| cR <| oA rfl <| o_nil ?_
  refine n_code <| c_block <| c_rounds 999 <| c_seq <| cR <| oM rfl <| oM rfl <| oX (e_convc (r := vi 1) runUnderlying21 runUnderlying3 rfl (by kernel_rfl)) <| oI (.bool true) rfl rfl <| oN <| c_then rfl <| c_skip <| n_code <| c_seq <| c_block <| cR ?_
  refine o_l rfl (l_calle call315 (z126 ) rfl rfl .nil) ?_; intro r5 hr5
  refine o_cat (.cons (.cons .nil)) <| oA rfl <| oN <| c_seq <| cR <| oM rfl <| oM rfl ?_
  refine o_l rfl (l_calle call322 (z202 (r5.1) (r5.2) (p2) q3 h3) rfl rfl (.cons .head (.cons .head (.cons .head (.cons .head .nil))))) ?_; intro r6 hr6
  refine o_cat (.cons (.cons (.cons (.cons (.cons .nil))))) <| oA rfl <| oN <| cR <| oM rfl <| oX (e_nnen runUnderlying80 rfl) <| oN <| cL rfl <| cR <| oM rfl ?_
  refine o_l rfl (l_callie call290 (by intro w; kernel_rfl) (z200 (p2) q3 h3) rfl rfl rfl (.cons (.tail (.tail .head)) (.cons (.tail (.tail .head)) .nil))) ?_; intro r7 hr7
  refine o_cat (.cons (.cons .nil)) <| oM rfl <| oX (e_extract rfl rfl) <| oX (e_extract rfl rfl) <| oA rfl <| oA rfl <| oN <| c_seq <| cR <| oM rfl <| oX (e_nnen runUnderlying80 rfl) <| oN <| cL rfl <| cR <| oM rfl <| oA rfl <| oN <| cR <| oM rfl <| oM rfl <| oI (vi 45) rfl rfl <| oA rfl <| oN ?_
  refine c_seq <| c_seq ?_
  refine c_keep (sK 9 rfl <| sK 65 rfl <| sK 64 rfl <| sK 63 rfl <| sK 16 rfl <| sK 62 rfl <| sK 60 rfl <| sK 59 rfl <| sK 15 rfl <| sK 14 rfl <| sK 58 rfl <| sK 57 rfl <| sK 54 rfl <| sK 56 rfl <| sK 55 rfl <| sK 52 rfl <| sK 51 rfl <| sK 13 rfl <| sK 50 rfl <| sK 49 rfl <| sK 48 rfl <| sK 12 rfl <| sK 47 rfl <| sK 44 rfl <| sK 43 rfl <| sK 42 rfl <| sK 41 rfl <| sK 11 rfl <| sK 8 rfl <| sK 5 rfl <| sK 4 rfl <| sK 1 rfl <| sK 0 rfl <| sub_nil) ?_
  refine c_region <| oM rfl <| oM rfl <| oI (.bool false) rfl rfl <| oN <| cL rfl <| c_region <| oM rfl <| oM rfl ?_
  refine o_l rfl (l_calle call317 (z128 (p0) (p1) (r5.1) (r5.2) (r6)) rfl rfl (.cons (.tail (.tail (.tail (.tail (.tail (.tail .head)))))) (.cons (.tail (.tail (.tail (.tail (.tail (.tail .head)))))) (.cons (.tail (.tail .head)) (.cons (.tail (.tail .head)) (.cons (.tail (.tail .head)) .nil)))))) ?_; intro r8 hr8
  refine o_cat (.cons (.cons (.cons (.cons (.cons .nil))))) <| o_nil <| n_block <| n_code <| c_region <| oM rfl <| oI (vi 1) rfl rfl <| oA rfl <| o_nil <| n_rounds ?_
  refine c_keep (sK 11 rfl <| sK 46 rfl <| sK 45 rfl <| sK 71 rfl <| sK 70 rfl <| sK 68 rfl <| sK 67 rfl <| sK 66 rfl <| sK 9 rfl <| sK 65 rfl <| sK 64 rfl <| sK 63 rfl <| sK 16 rfl <| sK 62 rfl <| sK 60 rfl <| sK 59 rfl <| sK 15 rfl <| sK 14 rfl <| sK 58 rfl <| sK 57 rfl <| sK 54 rfl <| sK 56 rfl <| sK 55 rfl <| sK 52 rfl <| sK 51 rfl <| sK 13 rfl <| sK 50 rfl <| sK 49 rfl <| sK 48 rfl <| sK 12 rfl <| sK 47 rfl <| sK 44 rfl <| sK 43 rfl <| sK 42 rfl <| sK 41 rfl <| sK 8 rfl <| sK 5 rfl <| sK 4 rfl <| sK 1 rfl <| sK 0 rfl <| sub_nil) ?_
  refine c_seq <| cR <| oM rfl <| oM rfl <| oX (e_convc (r := vi 1) runUnderlying21 runUnderlying3 rfl (by kernel_rfl)) <| oI (.bool false) rfl rfl <| oN <| c_else rfl <| c_exit <| x_code <| x_upto <| x_here <| n_code <| cR <| oA rfl <| oN <| c_ret ?_
  refine WR.sel (.cons .head (.cons .head (.cons (.tail (.tail (.tail .head))) (.cons (.tail (.tail (.tail .head))) (.cons .head (.cons .head (.cons .head .nil))))))) <| r_fn1 results312 rfl ?_
  exact tells (y := (r5.1, r5.2, r6)) trivial rfl rfl

theorem z204 {G : HP} (p0 : Nat) (q1 : Tl) (h1 : TlOk 1 39 q1) :
    CtrE Tryz.prog 41 [.iface 75 (pv p0)] G [(p0, C [.slice (ad q1.g 0) 39 q1.cap, vi 0, vi (-1)] 144), (q1.g, Ob xb25 q1 5)] (T := Nat × Nat × Nat × Nat × Nat) (fun _ => True) (fun y => .tuple #[.iface 237 (pv y.1), .nilIface]) (fun y => [(p0, C [.slice (ad q1.g 0) 39 q1.cap, vi 39, vi (-1)] 144), (q1.g, Ob xb25 q1 5), (y.1, C [.map (some y.2.1)] 330), (y.2.1, Mo .u64 [(0, pv y.2.2.1)]), (y.2.2.1, C [.map (some y.2.2.2.1), vq 0] 437), (y.2.2.2.1, Mo .u32 [(9, .agg #[vd 9, vq 1, .slice (ad y.2.2.2.2 0) 9 9])]), (y.2.2.2.2, C xb3 5)]) := by
  refine fn_enter 31 func41 rfl ntmps41 rfl ?_
  intro w0
  refine cR <| oA rfl <| oA rfl <| oN <| cR <| oM rfl ?_
  refine o_l rfl (l_calle call45 (z170 (p0) q1 h1) rfl rfl (.cons .head (.cons .head .nil))) ?_; intro r1 hr1
  refine o_cat (.cons (.cons .nil)) <| oM rfl <| oX (e_extract rfl rfl) <| oX (e_extract rfl rfl) <| oA rfl <| oA rfl <| oN <| c_seq <| cR <| oM rfl <| oX (e_nnen runUnderlying80 rfl) <| oN <| cL rfl <| cR <| oM rfl ?_
  refine o_l rfl (l_calle call76 (z125 ) rfl rfl .nil) ?_; intro r2 hr2
  refine o_cat (.cons (.cons .nil)) <| oM rfl <| oX (e_extract rfl rfl) <| oX (e_extract rfl rfl) <| oA rfl <| oA rfl <| oN <| c_seq <| cR <| oM rfl <| oX (e_nnen runUnderlying80 rfl) <| oN <| cL rfl <| c_seq <| cR <| oM rfl <| oM rfl ?_
  refine o_l rfl (l_callie call312 (by intro w; kernel_rfl) (z203 (r2.1) (r2.2) (p0) q1 h1) rfl rfl rfl (.cons .head (.cons .head (.cons .head (.cons .head .nil))))) ?_; intro r3 hr3
  refine o_cat (.cons (.cons (.cons (.cons (.cons (.cons (.cons .nil))))))) <| oA rfl <| oN <| cR <| oM rfl <| oX (e_nnen runUnderlying80 rfl) <| oN <| cL rfl <| cR <| oM rfl <| oA rfl <| oA rfl <| oN <| c_ret <| WR.sel (.cons (.tail (.tail .head)) (.cons (.tail (.tail .head)) (.cons .head (.cons .head (.cons .head (.cons .head (.cons .head .nil))))))) ?_
  refine r_fn (l := [.tmp 2, .tmp 3]) results41 rfl rfl ?_
  exact tells (y := (r2.1, r2.2, r3.1, r3.2.1, r3.2.2)) trivial rfl rfl

theorem z205 {G : HP} (p0 : Nat) (p1 : Nat) (p2 : Nat) (p3 : Nat) (p4 : Nat) (p5 : Nat) (q6 : Tl) (h6 : TlOk 1 5 q6) :
    CtrE Tryz.prog 313 [pv p0, pv p5] G [(p0, C [.map (some p1)] 330), (p1, Mo .u64 [(0, pv p2)]), (p2, C [.map (some p3), vq 0] 437), (p3, Mo .u32 [(9, .agg #[vd 9, vq 1, .slice (ad p4 0) 9 9])]), (p4, C xb3 5), (p5, C [vq 0, S [], vi 1, .slice (ad q6.g 4) 1 (q6.cap - 4)] 181), (q6.g, Ob xb2 q6 5)] (T := Unit) (fun _ => True) (fun _ => .tuple #[pv p2, .nilIface]) (fun _ => [(p0, C [.map (some p1)] 330), (p1, Mo .u64 [(0, pv p2)]), (p2, C [.map (some p3), vq 0] 437), (p3, Mo .u32 [(9, .agg #[vd 9, vq 1, .slice (ad p4 0) 9 9])]), (p4, C xb3 5), (p5, C [vq 0, S [], vi 1, .slice (ad q6.g 4) 1 (q6.cap - 4)] 181), (q6.g, Ob xb2 q6 5)]) := by
  refine fn_enter 22 func313 rfl ntmps313 rfl ?_
  intro w0
  refine cR <| oA rfl <| oA rfl <| oN <| c_seq <| c_seq <| cQ <| qM rfl <| qC rfl <| qX (e_load isAgg330 rfl (.inl M0) rfl) <| qM rfl <| qC rfl <| qX (eA (pv p5) (e_fa runUnderlying181 rfl sizeOf23 rfl rfl)) ?_
  refine qX (e_load isAgg23 rfl (.inl M5) rfl) <| qX (e_as (r := .tuple #[pv p2, .bool true]) (e_lookup2 runUnderlying330 runUnderlying23 zeroValue433 rfl rfl (.inl M1)) (by kernel_rfl)) <| qM rfl <| qX (e_extract rfl rfl) <| qX (e_extract rfl rfl) <| qA rfl ?_
  refine qA rfl <| qN <| cR <| oM rfl <| oN <| c_then rfl <| cR <| oM rfl <| oA rfl <| oA rfl <| oN <| c_ret <| WR.sel (.cons .head (.cons .head (.cons .head (.cons .head (.cons .head (.cons .head (.cons .head .nil))))))) <| r_fn (l := [.tmp 4, .tmp 5]) results313 rfl rfl ?_
  exact tells (y := ()) trivial rfl rfl

theorem z206 {G : HP} (p0 : Nat) (p1 : Nat) (p2 : Nat) (p3 : Nat) (p4 : Nat) :
    CtrE Tryz.prog 314 [pv p0, .agg #[S [1, 85, 0, 1, 97]], .func (.func 69) #[] #[pv p3, pv p4]] G [(p0, C [.map (some p1), vq 0] 437), (p1, Mo .u32 [(9, .agg #[vd 9, vq 1, .slice (ad p2 0) 9 9])]), (p2, C xb3 5), (p3, C [.slice none 0 0] 29), (p4, C [vi 9] 3)] (T := Tl) (fun y => TlOk 1 1 y) (fun y => .nilIface) (fun y => [(p0, C [.map (some p1), vq 0] 437), (p1, Mo .u32 [(9, .agg #[vd 9, vq 1, .slice (ad p2 0) 9 9])]), (p2, C xb3 5), (p3, C [.slice (ad y.g 0) 1 y.cap] 29), (p4, C [vi 9] 3), (y.g, Ob [vq 7] y 23)]) := by
  refine fn_enter 42 func314 rfl ntmps314 rfl ?_
  intro w0
  refine cR ?_
  refine o_l rfl (l_box rfl rfl rfl) ?_; intro g1 _
  refine oA rfl <| oN <| cR <| oX (e_loada isAgg111 sizeOf111 rfl (.inl M0) (.take .done)) ?_
  refine o_l rfl (l_calle call93 (z34 ) rfl rfl .nil) ?_; intro r2 hr2
  refine o_cat (.cons .nil) ?_
  refine o_l rfl (l_calle call92 (z41 r2 hr2) rfl rfl (.cons .head .nil)) ?_; intro r3 hr3
  refine o_cat (.cons (.cons .nil)) <| oM rfl <| oX (e_extract rfl rfl) <| oX (e_extract rfl rfl) <| oA rfl <| oA rfl <| oN <| c_seq <| cR <| oM rfl <| oX (e_nnen runUnderlying80 rfl) <| oN <| cL rfl <| c_seq <| c_seq ?_
  refine c_regiond [(r2.g, Ob xb2 r2 5), (r3, C [vq 0, S [], vi 1, .slice (ad r2.g 4) 1 (r2.cap - 4)] 181), (g1, C [S [1, 85, 0, 1, 97]] 111), (p0, C [.map (some p1), vq 0] 437), (p1, Mo .u32 [(9, .agg #[vd 9, vq 1, .slice (ad p2 0) 9 9])]), (p2, C xb3 5), (p3, C [.slice none 0 0] 29), (p4, C [vi 9] 3)] (by kernel_rfl) (.cons_cons _ (.cons_cons _ (.cons_cons _ (.cons_cons _ (.cons_cons _ (.cons_cons _ (.cons_cons _ (.cons_cons _ (.slnil))))))))) ?_
  refine dX 0 rfl (e_move rfl) <| dX 1 rfl (e_nilCheck rfl) <| dX 2 rfl (e_load isAgg327 rfl (.inl M3) rfl) <| dX 3 rfl (e_move rfl) ?_
  refine dX 4 rfl (e_nilCheck rfl) <| dX 5 rfl (eA (.pointer (ad r3 3)) (e_fa runUnderlying181 rfl sizeOf72 rfl rfl)) <| dX 6 rfl (e_load isAgg72 rfl (.inl M1) rfl) ?_
  refine dX 7 rfl (eA (vi 1) (e_lenl runUnderlying72 rfl)) <| dX 8 rfl (e_int (r := vi 9) rfl rfl (by kernel_rfl)) ?_
  refine dX 9 rfl (e_convc (r := vd 9) runUnderlying3 runUnderlying212 rfl (by kernel_rfl)) ?_
  refine dX 10 rfl (e_as (r := .tuple #[.agg #[vd 9, vq 1, .slice (ad p2 0) 9 9], .bool true]) (e_lookup2 runUnderlying327 runUnderlying212 zeroValue448 rfl rfl (.inl M4)) (by kernel_rfl)) <| dX 11 rfl (e_move rfl) ?_
  refine dX 12 rfl (e_extract rfl rfl) <| dX 13 rfl (e_extract rfl rfl) ?_
  refine d_l 14 (by kernel_rfl) rfl rfl (l_alloc zeroValue448 rfl rfl) (fun _ _ => hs_cons M1 (hs_cons M2 (hs_cons M3 (hs_cons M4 (hs_cons M5 (hs_cons M6 (hs_cons M7 (hs_cons M8 (hs_nil))))))))) ?_
  intro g4 _
  refine d_l 15 (by kernel_rfl) rfl rfl (l_storea sizeOf448 rfl rfl rfl (by simp [Value.oneCell']) .head (.take (.take (.take .done))) nofrs0) (fun _ _ => hs_cons M1 (hs_cons M2 (hs_cons M3 (hs_cons M4 (hs_cons M5 (hs_cons M6 (hs_cons M7 (hs_cons M8 (hs_nil))))))))) ?_
  intro _ _
  refine dX 16 rfl (e_assign rfl) <| dN <| n_code <| cR <| oM rfl <| oN <| c_then rfl <| cR <| oM rfl <| oC rfl <| oX (eA (.pointer (ad r3 3)) (e_fa runUnderlying181 rfl sizeOf72 rfl rfl)) <| oX (e_load isAgg72 rfl (.inl M2) rfl) <| oM rfl ?_
  refine o_l rfl (l_calle call323 (z117 (g4) (p2) r2 hr2 (p3) (p4)) rfl rfl (.cons .head (.cons (.tail (.tail (.tail (.tail (.tail .head))))) (.cons .head (.cons (.tail (.tail (.tail (.tail .head)))) (.cons (.tail (.tail (.tail (.tail .head)))) .nil)))))) ?_; intro r5 hr5
  refine o_cat (.cons (.cons (.cons (.cons (.cons (.cons .nil)))))) <| oA rfl <| oN <| c_ret <| WR.sel (.cons (.tail (.tail (.tail (.tail (.tail (.tail (.tail (.tail .head)))))))) (.cons (.tail (.tail (.tail (.tail (.tail (.tail (.tail (.tail .head)))))))) (.cons (.tail .head) (.cons (.tail (.tail .head)) (.cons (.tail (.tail .head)) (.cons (.tail (.tail .head)) .nil)))))) <| r_fn1 results314 rfl ?_
  exact tells (y := (r5)) hr5 rfl rfl

theorem z207 {G : HP} (p0 : Nat) (p1 : Nat) (p2 : Nat) (p3 : Nat) (p4 : Nat) (p5 : Nat) (p6 : Nat) :
    CtrE Tryz.prog 309 [pv p0, .agg #[S [1, 85, 0, 1, 97]], .func (.func 69) #[] #[pv p5, pv p6]] G [(p0, C [.map (some p1)] 330), (p1, Mo .u64 [(0, pv p2)]), (p2, C [.map (some p3), vq 0] 437), (p3, Mo .u32 [(9, .agg #[vd 9, vq 1, .slice (ad p4 0) 9 9])]), (p4, C xb3 5), (p5, C [.slice none 0 0] 29), (p6, C [vi 9] 3)] (T := Tl) (fun y => TlOk 1 1 y) (fun y => .nilIface) (fun y => [(p0, C [.map (some p1)] 330), (p1, Mo .u64 [(0, pv p2)]), (p2, C [.map (some p3), vq 0] 437), (p3, Mo .u32 [(9, .agg #[vd 9, vq 1, .slice (ad p4 0) 9 9])]), (p4, C xb3 5), (p5, C [.slice (ad y.g 0) 1 y.cap] 29), (p6, C [vi 9] 3), (y.g, Ob [vq 7] y 23)]) := by
  refine fn_enter 36 func309 rfl ntmps309 rfl ?_
  intro w0
  refine cR ?_
  refine o_l rfl (l_box rfl rfl rfl) ?_; intro g1 _
  refine oA rfl <| oN <| cR <| oX (e_loada isAgg111 sizeOf111 rfl (.inl M0) (.take .done)) ?_
  refine o_l rfl (l_calle call93 (z34 ) rfl rfl .nil) ?_; intro r2 hr2
  refine o_cat (.cons .nil) <| oA rfl <| oN <| cR <| oM rfl ?_
  refine o_l rfl (l_calle call92 (z41 r2 hr2) rfl rfl (.cons .head .nil)) ?_; intro r3 hr3
  refine o_cat (.cons (.cons .nil)) <| oM rfl <| oX (e_extract rfl rfl) <| oX (e_extract rfl rfl) <| oA rfl <| oA rfl <| oN <| c_seq <| cR <| oM rfl <| oX (e_nnen runUnderlying80 rfl) <| oN <| cL rfl <| cR <| oM rfl <| oM rfl ?_
  refine o_l rfl (l_calle call313 (z205 (p0) (p1) (p2) (p3) (p4) (r3) r2 hr2) rfl rfl (.cons (.tail (.tail (.tail .head))) (.cons (.tail (.tail (.tail .head))) (.cons (.tail (.tail (.tail .head))) (.cons (.tail (.tail (.tail .head))) (.cons (.tail (.tail (.tail .head))) (.cons (.tail .head) (.cons .head .nil)))))))) ?_; intro r4 hr4
  refine o_cat (.cons (.cons (.cons (.cons (.cons (.cons (.cons .nil))))))) <| oM rfl <| oX (e_extract rfl rfl) <| oX (e_extract rfl rfl) <| oA rfl <| oA rfl <| oN <| c_seq <| cR <| oM rfl <| oX (e_nnen runUnderlying80 rfl) <| oN <| cL rfl <| c_seq ?_
  refine c_regiond [(p0, C [.map (some p1)] 330), (p1, Mo .u64 [(0, pv p2)]), (p2, C [.map (some p3), vq 0] 437), (p3, Mo .u32 [(9, .agg #[vd 9, vq 1, .slice (ad p4 0) 9 9])]), (p4, C xb3 5), (r3, C [vq 0, S [], vi 1, .slice (ad r2.g 4) 1 (r2.cap - 4)] 181), (r2.g, Ob xb2 r2 5), (g1, C [S [1, 85, 0, 1, 97]] 111), (p6, C [vi 9] 3)] (by kernel_rfl) (.cons_cons _ (.cons_cons _ (.cons_cons _ (.cons_cons _ (.cons_cons _ (.cons_cons _ (.cons_cons _ (.cons_cons _ (.cons _ (.cons_cons _ (.slnil))))))))))) ?_
  refine dX 0 rfl (e_move rfl) <| dX 1 rfl (e_nilCheck rfl) <| dX 2 rfl (eA (pv p2) (e_fa runUnderlying437 rfl sizeOf327 rfl rfl)) ?_
  refine dX 3 rfl (e_loada isAgg111 sizeOf111 rfl (.inl M7) (.take .done)) <| dX 4 rfl (e_move rfl) ?_
  refine d_l 5 (by kernel_rfl) rfl rfl (l_calle call314 (z206 (p2) (p3) (p4) (p5) (p6)) rfl rfl (.cons (.tail (.tail .head)) (.cons (.tail (.tail .head)) (.cons (.tail (.tail .head)) (.cons (.tail (.tail (.tail (.tail (.tail .head))))) (.cons (.tail (.tail (.tail (.tail (.tail .head))))) .nil)))))) (fun _ _ => hs_cons M6 (hs_cons M7 (hs_cons (.head _) (hs_cons M1 (hs_cons M2 (hs_cons M8 (hs_cons M9 (hs_cons M10 (hs_cons M4 (hs_nil)))))))))) ?_
  intro r5 hr5
  refine d_cat (.cons (.cons (.cons (.cons (.cons (.cons .nil)))))) <| dX 6 rfl (e_assign rfl) <| dN <| n_code <| c_ret <| WR.sel (.cons (.tail (.tail (.tail (.tail (.tail (.tail .head)))))) (.cons (.tail (.tail (.tail (.tail (.tail (.tail .head)))))) (.cons .head (.cons .head (.cons .head (.cons .head (.cons .head (.cons .head .nil)))))))) <| r_fn1 results309 rfl ?_
  exact tells (y := (r5)) hr5 rfl rfl

theorem z208 {G : HP}  :
    CtrE Tryz.prog 36 [S [129, 8, 1, 0, 0, 0, 0, 0, 0, 0, 0, 0, 0, 0, 1, 0, 0, 0, 9, 0, 0, 0, 9, 0, 0, 0, 0, 0, 0, 0, 97, 7, 0, 0, 0, 0, 0, 0, 0], .agg #[vq 1, vq 85, vq 0, S [97]], vi 9] G [] (T := Tl) (fun y => TlOk 1 1 y) (fun y => .tuple #[.slice (ad y.g 0) 1 y.cap, ub 0]) (fun y => [(y.g, Ob [vq 7] y 23)]) := by
  refine fn_enter 39 func36 rfl ntmps36 rfl ?_
  intro w0
  refine cR ?_
  refine o_l rfl (l_box rfl rfl rfl) ?_; intro g1 _
  refine o_l rfl (l_box rfl rfl rfl) ?_; intro g2 _
  refine oA rfl <| oA rfl <| oN <| cR <| oM rfl ?_
  refine o_l rfl (l_sbc (L := xb25) underlying9 underlying72 underlying5 rfl rfl rfl rfl (by kernel_rfl)) ?_; intro y3 hy3
  refine o_l rfl (l_calle call40 (z165 y3 hy3) rfl rfl (.cons .head .nil)) ?_; intro r4 hr4
  refine o_cat (.cons (.cons .nil)) <| oX (e_mkif runUnderlying75 rfl rfl) ?_
  refine o_l rfl (l_calle call41 (z204 (r4) y3 hy3) rfl rfl (.cons (.tail .head) (.cons .head .nil))) ?_; intro r5 hr5
  refine o_cat (.cons (.cons (.cons (.cons (.cons (.cons (.cons .nil))))))) <| oM rfl <| oX (e_extract rfl rfl) <| oX (e_extract rfl rfl) <| oA rfl <| oA rfl <| oN <| cR <| oX (e_loada isAgg25 sizeOf25 rfl (.inl M8) (.take (.take (.take (.take .done))))) ?_
  refine o_l rfl (l_calle call68 (z28 ) rfl rfl .nil) ?_; intro r6 hr6
  refine o_cat .nil <| oM rfl <| oX (e_extract rfl rfl) <| oX (e_extract rfl rfl) ?_
  refine o_l rfl (l_alloc zeroValue111 rfl rfl) ?_; intro g7 _
  refine o_l rfl (l_storea sizeOf111 rfl rfl rfl (by simp [Value.oneCell']) .head (.take .done) nofrs0) ?_; intro _ _
  refine oA rfl <| oN <| c_seq <| cR <| oM rfl <| oX (e_nnen runUnderlying80 rfl) <| oM rfl <| oX (e_move rfl) <| oX (eA (.bool false) (e_not rfl)) <| oX (e_pick_f rfl rfl) <| oN <| cL rfl <| cR ?_
  refine o_l rfl (l_alloc zeroValue29 rfl rfl) ?_; intro g8 _
  refine oN <| cR <| oM rfl <| oX (e_loada isAgg111 sizeOf111 rfl (.inl M1) (.take .done)) <| oX (e_func rfl rfl) ?_
  refine o_l rfl (l_callie call309 (by intro w; kernel_rfl) (z207 (r5.1) (r5.2.1) (r5.2.2.1) (r5.2.2.2.1) (r5.2.2.2.2) (g8) (g2)) rfl rfl rfl (.cons (.tail (.tail (.tail (.tail .head)))) (.cons (.tail (.tail (.tail (.tail .head)))) (.cons (.tail (.tail (.tail (.tail .head)))) (.cons (.tail (.tail (.tail (.tail .head)))) (.cons (.tail (.tail (.tail (.tail .head)))) (.cons .head (.cons (.tail (.tail (.tail .head))) .nil)))))))) ?_; intro r9 hr9
  refine o_cat (.cons (.cons (.cons (.cons (.cons (.cons (.cons (.cons .nil)))))))) <| oA rfl <| oN <| c_seq ?_
  refine c_regiond [(r5.1, C [.map (some r5.2.1)] 330), (r5.2.1, Mo .u64 [(0, pv r5.2.2.1)]), (r5.2.2.1, C [.map (some r5.2.2.2.1), vq 0] 437), (r5.2.2.2.1, Mo .u32 [(9, .agg #[vd 9, vq 1, .slice (ad r5.2.2.2.2 0) 9 9])]), (r5.2.2.2.2, C xb3 5), (g8, C [.slice (ad r9.g 0) 1 r9.cap] 29), (g2, C [vi 9] 3), (r9.g, Ob [vq 7] r9 23), (g7, C [S [1, 85, 0, 1, 97]] 111), (r4, C [.slice (ad y3.g 0) 39 y3.cap, vi 39, vi (-1)] 144), (y3.g, Ob xb25 y3 5), (g1, C [vq 1, vq 85, vq 0, S [97]] 25)] (by kernel_rfl) (.cons_cons _ (.cons_cons _ (.cons_cons _ (.cons_cons _ (.cons_cons _ (.cons_cons _ (.cons_cons _ (.cons_cons _ (.cons_cons _ (.cons_cons _ (.cons_cons _ (.cons_cons _ (.slnil))))))))))))) ?_
  refine dX 0 rfl (e_load isAgg29 rfl (.inl M5) rfl) <| dX 1 rfl (e_move rfl) ?_
  refine d_l 2 (by kernel_rfl) rfl rfl (l_calle call70 (z119 ) rfl rfl .nil) (fun _ _ => hs_cons (.head _) (hs_cons M1 (hs_cons M2 (hs_cons M3 (hs_cons M4 (hs_cons M5 (hs_cons M6 (hs_cons M7 (hs_cons M8 (hs_cons M9 (hs_cons M10 (hs_cons M11 (hs_nil))))))))))))) ?_
  intro r10 hr10
  refine d_cat .nil <| dX 3 rfl (e_assign rfl) <| dX 4 rfl (e_assign rfl) <| dN <| n_code <| c_ret <| WR.sel (.cons (.tail (.tail (.tail (.tail (.tail (.tail (.tail .head))))))) .nil) <| r_fn (l := [.tmp 6, .tmp 7]) results36 rfl rfl ?_
  exact tells (y := (r9)) hr9 rfl rfl

theorem z209 {G : HP}  :
    CtrE Tryz.prog 14 [S [129, 8, 1, 0, 0, 0, 0, 0, 0, 0, 0, 0, 0, 0, 1, 0, 0, 0, 9, 0, 0, 0, 9, 0, 0, 0, 0, 0, 0, 0, 97, 7, 0, 0, 0, 0, 0, 0, 0], .agg #[vq 1, vq 85, vq 0, S [97]], vi 9] G [] (T := Tl) (fun y => TlOk 1 1 y) (fun y => .tuple #[.slice (ad y.g 0) 1 y.cap, ub 0]) (fun y => [(y.g, Ob [vq 7] y 23)]) := by
  refine fn_enter 14 func14 rfl ntmps14 rfl ?_
  intro w0
  refine cR ?_
  refine o_l rfl (l_box rfl rfl rfl) ?_; intro g1 _
  refine oA rfl <| oA rfl <| oN <| cR <| oM rfl <| oX (e_loada isAgg25 sizeOf25 rfl (.inl M0) (.take (.take (.take (.take .done))))) <| oM rfl ?_
  refine o_l rfl (l_calle call36 (z208 ) rfl rfl .nil) ?_; intro r2 hr2
  refine o_cat (.cons .nil) <| oX (e_extract rfl rfl) <| oX (e_extract rfl rfl) <| oA rfl <| oA rfl <| oN <| c_ret <| WR.sel (.cons .head .nil) <| r_fn (l := [.tmp 6, .tmp 7]) results14 rfl rfl ?_
  exact tells (y := (r2)) hr2 rfl rfl

theorem z210 {G : HP} (p0 : Nat) :
    CtrE Tryz.prog 15 [.slice (ad p0 0) 1 1, vq 1025] G [(p0, C [vq 1, vq 85, vq 0, S [97], vq 7] 56)] (T := Unit) (fun _ => True) (fun _ => S [129, 8, 1, 0, 0, 0, 0, 0, 0, 0, 0, 0, 0, 0, 1, 0, 0, 0, 9, 0, 0, 0, 9, 0, 0, 0, 0, 0, 0, 0, 97, 7, 0, 0, 0, 0, 0, 0, 0]) (fun _ => [(p0, C [vq 1, vq 85, vq 0, S [97], vq 7] 56)]) :=
  one_index (.inr rfl) ib_1025

theorem z211 {G : HP}  :
    CtrE Tryz.prog 17 [vq 1025] G [] (T := Unit) (fun _ => True) (fun _ => .bool true) (fun _ => []) := by
  refine fn_enter 49 func17 rfl ntmps17 rfl ?_
  intro w0
  refine cR <| oA rfl <| oN <| cR ?_
  refine o_l rfl (l_calle call39 (z1 ) rfl rfl .nil) ?_; intro r1 hr1
  refine o_cat .nil <| oX (e_build (vs := [vq 1, vq 85, vq 0, S [97], vq 7]) runUnderlying56 zeroValue56 (.cons sizeOf25 (.cons sizeOf23 .nil)) rfl (by kernel_rfl)) ?_
  refine o_l rfl (l_bs (l := [vq 1, vq 85, vq 0, S [97], vq 7]) runUnderlying22 sizeOf56 zeroValue56 rfl rfl rfl rfl (by kernel_rfl)) ?_; intro g2 _
  refine oA rfl <| oN <| cR <| oM rfl <| oM rfl ?_
  refine o_l rfl (l_calle call27 (z164 (g2)) rfl rfl (.cons .head .nil)) ?_; intro r3 hr3
  refine o_cat (.cons .nil) <| oM rfl <| oX (e_extract rfl rfl) <| oX (e_extract rfl rfl) <| oA rfl <| oA rfl <| oN <| cR <| oM rfl <| oM rfl <| oX (eA (pv g2) (e_ia runUnderlying22 sizeOf56 rfl rfl (by decide) (by decide))) <| oX (eA (pv g2) (e_fa runUnderlying56 rfl sizeOf25 rfl rfl)) ?_
  refine oX (e_loada isAgg25 sizeOf25 rfl (.inl M0) (.take (.take (.take (.take .done))))) ?_
  refine o_l rfl (l_calle call14 (z209 ) rfl rfl .nil) ?_; intro r4 hr4
  refine o_cat (.cons .nil) <| oM rfl <| oX (e_extract rfl rfl) <| oX (e_extract rfl rfl) <| oA rfl <| oA rfl <| oN <| cR <| oM rfl <| oM rfl <| oX (e_move rfl) <| oX (e_move rfl) <| oX (e_move rfl) ?_
  refine o_l rfl (l_calle call15 (z210 (g2)) rfl rfl (.cons (.tail .head) .nil)) ?_; intro r5 hr5
  refine o_cat (.cons .nil) <| oX (e_as (r := .bool true) (e_seq rfl rfl) (by kernel_rfl)) <| oX (e_pick_t rfl rfl) <| oM rfl <| oX (e_move rfl) <| oX (e_int (r := .bool true) rfl rfl (by kernel_rfl)) <| oX (e_pick_t rfl rfl) <| oM rfl <| oX (e_move rfl) <| oX (eA (vi 1) (e_lenl runUnderlying29 rfl)) <| oX (e_int (r := .bool true) rfl rfl (by kernel_rfl)) ?_
  refine oX (e_pick_t rfl rfl) <| oM rfl <| oX (e_move rfl) <| oX (eA (pv r4.g) (e_ia runUnderlying29 sizeOf23 rfl rfl (by decide) (by decide))) <| oX (e_load isAgg23 rfl (.inl M1) rfl) <| oX (e_int (r := .bool true) rfl rfl (by kernel_rfl)) <| oX (e_pick_t rfl rfl) <| oA rfl <| oN <| c_ret <| WR.sel .nil <| r_fn1 results17 rfl ?_
  exact tells (y := ()) trivial rfl rfl
end Go.Proofs
