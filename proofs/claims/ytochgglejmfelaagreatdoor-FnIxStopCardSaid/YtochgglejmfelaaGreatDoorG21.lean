/- Runs at known values, part 8. (A part of the proof of this: for every input laws.FnIxStop returns true and its arguments read as they did, the listed package variables being what the program lays.) -/
import Derived.Test.YtochgglejmfelaaGreatDoorG02
import Derived.KernelRfl
import Derived.Test.YtochgglejmfelaaGreatDoorG20
namespace Go.Proofs
open Go Go.Sl Tryz
set_option maxRecDepth 100000
set_option maxHeartbeats 4000000
theorem z160 {G : HP} (p0 : Nat) (p1 : Nat) (p2 : Nat) (p3 : Nat) (p4 : Nat) (p5 : Nat) :
    CtrE Tryz.prog 42 [.iface 237 (pv p0), .iface 89 (pv p5)] G [(p0, C [.map (some p1)] 330), (p1, Mo .u64 [(0, pv p2)]), (p2, C [.map (some p3), vq 0] 437), (p3, Mo .u32 [(9, .agg #[vd 9, vq 1, .slice (ad p4 0) 9 9])]), (p4, C xb3 5), (p5, C [.slice none 0 0, vi 0, .int .i8 0] 86)] (T := Nat) (fun _ => True) (fun y => .tuple #[vq 39, .nilIface]) (fun y => [(p0, C [.map (some p1)] 330), (p1, Mo .u64 [(0, pv p2)]), (p2, C [.map (some p3), vq 0] 437), (p3, Mo .u32 [(9, .agg #[vd 9, vq 1, .slice (ad p4 0) 9 9])]), (p4, C xb3 5), (p5, C [.slice (ad y 0) 39 64, vi 0, .int .i8 0] 86), (y, C xb24 5)]) := by
  refine fn_enter 43 func42 rfl ntmps42 rfl ?_
  intro w0
  refine cR <| oA rfl <| oA rfl <| oN <| cR ?_
  refine o_l rfl (l_mksc (l := xb0) (n := 10) (m := 10) underlying72 (info_of typeInfo5) rfl rfl rfl rfl rfl rfl rfl (by decide) (by kernel_rfl)) ?_; intro g1 _
  refine oA rfl <| oN <| cR <| oM rfl <| oM rfl ?_
  refine o_l rfl (l_callie call308 (by intro w; kernel_rfl) (z130 (p0) (p1) (p2) (p3) (p4)) rfl rfl rfl (.cons (.tail .head) (.cons (.tail .head) (.cons (.tail .head) (.cons (.tail .head) (.cons (.tail .head) .nil)))))) ?_; intro r2 hr2
  refine o_cat (.cons (.cons (.cons (.cons (.cons .nil))))) ?_
  refine o_l rfl (l_calle call77 (z132 (g1)) rfl rfl (.cons (.tail (.tail (.tail (.tail (.tail .head))))) .nil)) ?_; intro r3 hr3
  refine o_cat (.cons .nil) <| oA rfl <| oN <| c_seq ?_
  refine c_regiond [(g1, C xb18 5), (p0, C [.map (some p1)] 330), (p1, Mo .u64 [(0, pv p2)]), (p2, C [.map (some p3), vq 0] 437), (p3, Mo .u32 [(9, .agg #[vd 9, vq 1, .slice (ad p4 0) 9 9])]), (p4, C xb3 5)] (by kernel_rfl) (.cons_cons _ (.cons_cons _ (.cons_cons _ (.cons_cons _ (.cons_cons _ (.cons_cons _ (.cons _ (.slnil)))))))) ?_
  refine dX 0 rfl (e_move rfl) <| dX 1 rfl (e_move rfl) <| dX 2 rfl (e_move rfl) ?_
  refine dX 3 rfl (eA (.slice (ad g1 0) 2 10) (e_sl_h runUnderlying72 sizeOf5 rfl rfl (by decide) (by decide))) <| dX 4 rfl (e_func rfl rfl) <| dX 5 rfl (e_nilm (by intro w; kernel_rfl) rfl) ?_
  refine dX 6 rfl (e_move rfl) ?_
  refine d_l 7 (by kernel_rfl) rfl rfl (l_callie call294 (by intro w; kernel_rfl) (z133 (p5) (g1)) rfl rfl rfl (.cons (.tail (.tail (.tail (.tail (.tail (.tail .head)))))) (.cons .head .nil))) (fun _ _ => hs_cons M1 (hs_cons M3 (hs_cons M4 (hs_cons M5 (hs_cons M6 (hs_cons M7 (hs_nil))))))) ?_
  intro r4 hr4
  refine d_cat (.cons (.cons (.cons .nil))) <| dX 8 rfl (e_move rfl) <| dX 9 rfl (e_extract rfl rfl) <| dX 10 rfl (e_extract rfl rfl) <| dX 11 rfl (e_assign rfl) ?_
  refine dX 12 rfl (e_assign rfl) <| dN <| n_code <| c_seq <| cR <| oM rfl <| oX (e_nnen runUnderlying80 rfl) <| oN <| cL rfl <| cR <| oM rfl <| oM rfl ?_
  refine o_l rfl (l_callie call311 (by intro w; kernel_rfl) (z159 (p0) (p1) (p2) (p3) (p4) (p5) (r4)) rfl rfl rfl (.cons (.tail (.tail (.tail .head))) (.cons (.tail (.tail (.tail .head))) (.cons (.tail (.tail (.tail .head))) (.cons (.tail (.tail (.tail .head))) (.cons (.tail (.tail (.tail .head))) (.cons .head (.cons (.tail .head) .nil)))))))) ?_; intro r5 hr5
  refine o_cat (.cons (.cons (.cons (.cons (.cons (.cons (.cons .nil))))))) <| oM rfl <| oX (e_extract rfl rfl) <| oX (e_extract rfl rfl) <| oA rfl <| oA rfl <| oN <| cR <| oM rfl <| oX (e_convc (r := vq 2) runUnderlying3 runUnderlying23 rfl (by kernel_rfl)) <| oM rfl <| oI (vq 39) rfl rfl <| oM rfl <| oA rfl <| oA rfl <| oN <| c_ret ?_
  refine WR.sel (.cons .head (.cons .head (.cons .head (.cons .head (.cons .head (.cons .head (.cons .head .nil))))))) <| r_fn (l := [.tmp 4, .tmp 5]) results42 rfl rfl ?_
  exact tells (y := (r4)) trivial rfl rfl

theorem z161 {G : HP} (p0 : Nat) (p1 : Nat) :
    CtrE Tryz.prog 44 [pv p0] G [(p0, C [.slice (ad p1 0) 39 64, vi 0, .int .i8 0] 86), (p1, C xb24 5)] (T := Unit) (fun _ => True) (fun _ => S [129, 8, 1, 0, 0, 0, 0, 0, 0, 0, 0, 0, 0, 0, 1, 0, 0, 0, 9, 0, 0, 0, 9, 0, 0, 0, 0, 0, 0, 0, 97, 7, 0, 0, 0, 0, 0, 0, 0]) (fun _ => [(p0, C [.slice (ad p1 0) 39 64, vi 0, .int .i8 0] 86), (p1, C xb24 5)]) := by
  refine fn_enter 15 func44 rfl ntmps44 rfl ?_
  intro w0
  refine cR <| oA rfl <| oN <| c_seq <| cR <| oM rfl <| oX (eA (.bool false) (e_peqn runUnderlying89 rfl)) <| oN <| cL rfl <| c_seq <| cQ <| qM rfl <| qC rfl <| qX (eA (pv p0) (e_fa runUnderlying86 rfl sizeOf72 rfl rfl)) ?_
  refine qX (e_load isAgg72 rfl (.inl M0) rfl) <| qM rfl <| qC rfl <| qX (eA (.pointer (ad p0 1)) (e_fa runUnderlying86 rfl sizeOf3 rfl rfl)) <| qX (e_load isAgg3 rfl (.inl M0) rfl) ?_
  refine qX (e_as (r := .slice (ad p1 0) 39 64) (e_sl_l runUnderlying72 sizeOf5 rfl rfl (by decide) (by decide) (by decide)) (by first | rfl | (simp; try omega))) ?_
  refine qX (e_bs (bs := [129, 8, 1, 0, 0, 0, 0, 0, 0, 0, 0, 0, 0, 0, 1, 0, 0, 0, 9, 0, 0, 0, 9, 0, 0, 0, 0, 0, 0, 0, 97, 7, 0, 0, 0, 0, 0, 0, 0]) underlying72 underlying5 underlying9 rfl (.inl M1) (.take (.take (.take (.take (.take (.take (.take (.take (.take (.take (.take (.take (.take (.take (.take (.take (.take (.take (.take (.take (.take (.take (.take (.take (.take (.take (.take (.take (.take (.take (.take (.take (.take (.take (.take (.take (.take (.take (.take .done)))))))))))))))))))))))))))))))))))))))) ?_
  refine qA rfl <| qN <| c_ret <| WR.sel (.cons .head (.cons .head .nil)) <| r_fn1 results44 rfl ?_
  exact tells (y := ()) trivial rfl rfl

theorem z162 {G : HP} (p0 : Nat) (p1 : Nat) (p2 : Nat) (p3 : Nat) (p4 : Nat) :
    CtrE Tryz.prog 59 [.iface 237 (pv p0), .nilIface] G [(p0, C [.map (some p1)] 330), (p1, Mo .u64 [(0, pv p2)]), (p2, C [.map (some p3), vq 0] 437), (p3, Mo .u32 [(9, .agg #[vd 9, vq 1, .slice (ad p4 0) 9 9])]), (p4, C xb3 5)] (T := Unit) (fun _ => True) (fun _ => .tuple #[S [129, 8, 1, 0, 0, 0, 0, 0, 0, 0, 0, 0, 0, 0, 1, 0, 0, 0, 9, 0, 0, 0, 9, 0, 0, 0, 0, 0, 0, 0, 97, 7, 0, 0, 0, 0, 0, 0, 0], .bool true]) (fun _ => [(p0, C [.map (some p1)] 330), (p1, Mo .u64 [(0, pv p2)]), (p2, C [.map (some p3), vq 0] 437), (p3, Mo .u32 [(9, .agg #[vd 9, vq 1, .slice (ad p4 0) 9 9])]), (p4, C xb3 5)]) := by
  refine fn_enter 20 func59 rfl ntmps59 rfl ?_
  intro w0
  refine cR <| oA rfl <| oA rfl <| oN <| c_seq <| cR <| oM rfl <| oX (e_nnen runUnderlying80 rfl) <| oN <| cL rfl <| cR ?_
  refine o_l rfl (l_alloc zeroValue86 rfl rfl) ?_; intro g1 _
  refine oN <| c_seq <| cR <| oM rfl <| oX (e_mkif runUnderlying89 rfl rfl) ?_
  refine o_l rfl (l_calle call42 (z160 (p0) (p1) (p2) (p3) (p4) (g1)) rfl rfl (.cons (.tail .head) (.cons (.tail .head) (.cons (.tail .head) (.cons (.tail .head) (.cons (.tail .head) (.cons .head .nil))))))) ?_; intro r2 hr2
  refine o_cat (.cons (.cons (.cons (.cons (.cons (.cons (.cons .nil))))))) <| oM rfl <| oX (e_extract rfl rfl) <| oX (e_extract rfl rfl) <| oA rfl <| oA rfl <| oN <| cR <| oM rfl <| oX (e_nnen runUnderlying80 rfl) <| oN <| cL rfl <| cR ?_
  refine o_l rfl (l_calle call44 (z161 (g1) (r2)) rfl rfl (.cons (.tail (.tail (.tail (.tail (.tail .head))))) (.cons (.tail (.tail (.tail (.tail (.tail .head))))) .nil))) ?_; intro r3 hr3
  refine o_cat (.cons (.cons .nil)) <| oA rfl <| oA rfl <| oN <| c_ret <| WR.sel (.cons (.tail (.tail .head)) (.cons (.tail (.tail .head)) (.cons (.tail (.tail .head)) (.cons (.tail (.tail .head)) (.cons (.tail (.tail .head)) .nil))))) <| r_fn (l := [.tmp 4, .tmp 5]) results59 rfl rfl ?_
  exact tells (y := ()) trivial rfl rfl

theorem z163 {G : HP} (p0 : Nat) :
    CtrE Tryz.prog 56 [.slice (ad p0 0) 1 1, vq 1025] G [(p0, C [vq 1, vq 85, vq 0, S [97], vq 7] 56)] (T := Unit) (fun _ => True) (fun _ => .tuple #[S [129, 8, 1, 0, 0, 0, 0, 0, 0, 0, 0, 0, 0, 0, 1, 0, 0, 0, 9, 0, 0, 0, 9, 0, 0, 0, 0, 0, 0, 0, 97, 7, 0, 0, 0, 0, 0, 0, 0], .bool true]) (fun _ => [(p0, C [vq 1, vq 85, vq 0, S [97], vq 7] 56)]) := by
  refine fn_enter 49 func56 rfl ntmps56 rfl ?_
  intro w0
  refine cR <| oA rfl <| oA rfl <| oN <| cR <| oM rfl ?_
  refine o_l rfl (l_calle call76 (z125 ) rfl rfl .nil) ?_; intro r1 hr1
  refine o_cat (.cons (.cons .nil)) <| oM rfl <| oX (e_extract rfl rfl) <| oX (e_extract rfl rfl) <| oA rfl <| oA rfl <| oN <| c_seq <| cR <| oM rfl <| oX (e_nnen runUnderlying80 rfl) <| oN <| cL rfl <| cR <| oA rfl <| oN <| c_seq <| cR <| oM rfl <| oX (eA (vi 1) (e_lenl runUnderlying22 rfl)) <| oM rfl <| oN ?_
  refine c_block <| c_rounds 999 <| cR <| oI (.bool true) rfl rfl <| oN <| c_seq <| c_then rfl <| c_skip <| n_code <| c_seq <| c_block <| cR <| oX (eA (pv p0) (e_ia runUnderlying22 sizeOf56 rfl rfl (by decide) (by decide))) <| oX (e_loada isAgg56 sizeOf56 rfl (.inl M2) (.take (.take (.take (.take (.take .done)))))) ?_
  refine o_l rfl (l_alloc zeroValue56 rfl rfl) ?_; intro g2 _
  refine o_l rfl (l_storea sizeOf56 rfl rfl rfl (by simp [Value.oneCell']) .head (.take (.take (.take (.take (.take .done))))) nofrs0) ?_; intro _ _
  refine oN <| cR <| oX (eA (pv g2) (e_fa runUnderlying56 rfl sizeOf25 rfl rfl)) <| oX (e_loada isAgg25 sizeOf25 rfl (.inl M0) (.take (.take (.take (.take .done))))) ?_
  refine o_l rfl (l_calle call68 (z28 ) rfl rfl .nil) ?_; intro r3 hr3
  refine o_cat .nil <| oM rfl <| oX (e_extract rfl rfl) <| oX (e_extract rfl rfl) ?_
  refine o_l rfl (l_alloc zeroValue111 rfl rfl) ?_; intro g4 _
  refine o_l rfl (l_storea sizeOf111 rfl rfl rfl (by simp [Value.oneCell']) .head (.take .done) nofrs0) ?_; intro _ _
  refine oA rfl <| oN <| c_seq <| cR <| oM rfl <| oX (eA (.bool false) (e_not rfl)) <| oN <| cL rfl <| c_region <| oM rfl <| oX (e_loada isAgg111 sizeOf111 rfl (.inl M0) (.take .done)) <| oX (eA (.pointer (ad g2 4)) (e_fa runUnderlying56 rfl sizeOf23 rfl rfl)) <| oX (e_load isAgg23 rfl (.inl M1) rfl) ?_
  refine oX (e_build (vs := [S [1, 85, 0, 1, 97], vq 7]) runUnderlying184 zeroValue184 (.cons sizeOf111 (.cons sizeOf23 .nil)) rfl (by kernel_rfl)) ?_
  refine o_l rfl (l_bs (l := [S [1, 85, 0, 1, 97], vq 7]) runUnderlying182 sizeOf184 zeroValue184 rfl rfl rfl rfl (by kernel_rfl)) ?_; intro g5 _
  refine o_l rfl (l_app0 (vs := [S [1, 85, 0, 1, 97], vq 7]) underlying182 (info_of typeInfo184) rfl rfl rfl rfl rfl rfl (Sv.blk (vs := [S [1, 85, 0, 1, 97], vq 7]) underlying182 (.inl M0) (.take (.take .done)) (by simp [Value.oneCell'])) rfl rfl rfl) ?_; intro y6 hy6
  refine oA rfl <| o_nil <| n_block <| n_code <| c_region <| oI (vi 1) rfl rfl <| oM rfl <| o_nil <| n_rounds ?_
  refine c_keep (sK 22 rfl <| sK 41 rfl <| sK 8 rfl <| sK 40 rfl <| sK 39 rfl <| sK 38 rfl <| sK 37 rfl <| sK 36 rfl <| sK 35 rfl <| sK 34 rfl <| sK 33 rfl <| sK 32 rfl <| sK 12 rfl <| sK 11 rfl <| sK 31 rfl <| sK 30 rfl <| sK 26 rfl <| sK 29 rfl <| sK 28 rfl <| sK 27 rfl <| sK 10 rfl <| sK 25 rfl <| sK 24 rfl <| sK 23 rfl <| sK 21 rfl <| sK 20 rfl <| sK 6 rfl <| sK 5 rfl <| sK 4 rfl <| sub_nil) ?_
  refine cR <| oI (.bool false) rfl rfl <| oN <| c_seq <| c_else rfl <| c_exit <| x_code <| x_upto <| x_here <| n_code <| cR <| oM rfl <| oM rfl <| oM rfl ?_
  refine o_l rfl (l_callie call310 (by intro w; kernel_rfl) (z129 (r1.1) (r1.2) y6 hy6) rfl rfl rfl (.cons (.tail (.tail (.tail (.tail .head)))) (.cons (.tail (.tail (.tail (.tail .head)))) (.cons .head .nil)))) ?_; intro r7 hr7
  refine o_cat (.cons (.cons (.cons (.cons (.cons (.cons .nil)))))) ?_
  refine o_l rfl (l_calle call59 (z162 (r1.1) (r1.2) (r7.1) (r7.2.1) (r7.2.2)) rfl rfl (.cons .head (.cons .head (.cons (.tail .head) (.cons (.tail .head) (.cons (.tail .head) .nil)))))) ?_; intro r8 hr8
  refine o_cat (.cons (.cons (.cons (.cons (.cons .nil))))) <| oX (e_extract rfl rfl) <| oX (e_extract rfl rfl) <| oA rfl <| oA rfl <| oN <| c_ret <| WR.sel (.cons (.tail (.tail (.tail (.tail (.tail (.tail (.tail (.tail (.tail .head))))))))) .nil) <| r_fn (l := [.tmp 4, .tmp 5]) results56 rfl rfl ?_
  exact tells (y := ()) trivial rfl rfl

theorem z164 {G : HP} (p0 : Nat) :
    CtrE Tryz.prog 27 [.slice (ad p0 0) 1 1, vq 1025] G [(p0, C [vq 1, vq 85, vq 0, S [97], vq 7] 56)] (T := Unit) (fun _ => True) (fun _ => .tuple #[S [129, 8, 1, 0, 0, 0, 0, 0, 0, 0, 0, 0, 0, 0, 1, 0, 0, 0, 9, 0, 0, 0, 9, 0, 0, 0, 0, 0, 0, 0, 97, 7, 0, 0, 0, 0, 0, 0, 0], .bool true]) (fun _ => [(p0, C [vq 1, vq 85, vq 0, S [97], vq 7] 56)]) := by
  refine fn_enter 11 func27 rfl ntmps27 rfl ?_
  intro w0
  refine cR <| oA rfl <| oA rfl <| oN <| cR <| oM rfl <| oM rfl ?_
  refine o_l rfl (l_calle call56 (z163 (p0)) rfl rfl (.cons .head .nil)) ?_; intro r1 hr1
  refine o_cat (.cons .nil) <| oX (e_extract rfl rfl) <| oX (e_extract rfl rfl) <| oA rfl <| oA rfl <| oN <| c_ret <| WR.sel (.cons .head .nil) <| r_fn (l := [.tmp 4, .tmp 5]) results27 rfl rfl ?_
  exact tells (y := ()) trivial rfl rfl

theorem z165 {G : HP} (q0 : Tl) (h0 : TlOk 1 39 q0) :
    CtrE Tryz.prog 40 [.slice (ad q0.g 0) 39 q0.cap] G [(q0.g, Ob xb25 q0 5)] (T := Nat) (fun _ => True) (fun y => pv y) (fun y => [(q0.g, Ob xb25 q0 5), (y, C [.slice (ad q0.g 0) 39 q0.cap, vi 0, vi (-1)] 144)]) := by
  refine fn_enter 6 func40 rfl ntmps40 rfl ?_
  intro w0
  refine cR <| oA rfl <| oN <| cR <| oM rfl <| oX (e_build (vs := [.slice (ad q0.g 0) 39 q0.cap, vi 0, vi (-1)]) runUnderlying144 zeroValue144 (.cons sizeOf72 (.cons sizeOf2 (.cons sizeOf3 .nil))) rfl (by kernel_rfl)) ?_
  refine o_l rfl (l_box rfl rfl rfl) ?_; intro g1 _
  refine oA rfl <| oN <| c_ret <| WR.sel (.cons (.tail .head) (.cons .head .nil)) <| r_fn1 results40 rfl ?_
  exact tells (y := (g1)) trivial rfl rfl

theorem z166 {G : HP} (p0 : Nat) (q1 : Tl) (h1 : TlOk 1 39 q1) :
    CtrE Tryz.prog 79 [.iface 75 (pv p0)] G [(p0, C [.slice (ad q1.g 0) 39 q1.cap, vi 0, vi (-1)] 144), (q1.g, Ob xb25 q1 5)] (T := Unit) (fun _ => True) (fun _ => .iface 75 (pv p0)) (fun _ => [(p0, C [.slice (ad q1.g 0) 39 q1.cap, vi 0, vi (-1)] 144), (q1.g, Ob xb25 q1 5)]) := by
  refine fn_enter 16 func79 rfl ntmps79 rfl ?_
  intro w0
  refine cR <| oA rfl <| oN <| c_seq <| cR <| oM rfl <| oX (e_ta rfl (r := .tuple #[.iface 75 (pv p0), .bool true]) (by intro w; kernel_rfl)) <| oM rfl <| oX (e_extract rfl rfl) <| oX (e_extract rfl rfl) <| oA rfl <| oA rfl <| oN <| cR <| oM rfl <| oN <| c_then rfl <| cR <| oM rfl <| oA rfl <| oN <| c_ret ?_
  refine WR.sel (.cons .head (.cons .head .nil)) <| r_fn1 results79 rfl ?_
  exact tells (y := ()) trivial rfl rfl

theorem z167 {G : HP} (p0 : Nat) (q1 : Tl) (h1 : TlOk 1 39 q1) :
    CtrE Tryz.prog 289 [pv p0] G [(p0, C [.slice (ad q1.g 0) 39 q1.cap, vi 0, vi (-1)] 144), (q1.g, Ob xb25 q1 5)] (T := Unit) (fun _ => True) (fun _ => .tuple #[ub 129, .nilIface]) (fun _ => [(p0, C [.slice (ad q1.g 0) 39 q1.cap, vi 1, vi (-1)] 144), (q1.g, Ob xb25 q1 5)]) := by
  refine fn_enter 37 func289 rfl ntmps289 rfl ?_
  intro w0
  refine cR <| oA rfl <| oA rfl <| oN <| cR <| oM rfl <| oC rfl <| oX (eA (.pointer (ad p0 2)) (e_fa runUnderlying144 rfl sizeOf3 rfl rfl)) ?_
  refine o_l rfl (l_store sizeOf3 rfl rfl rfl .head (.tail (.tail .head)) nofr0) ?_; intro _ _
  refine oN <| c_seq <| c_seq <| cQ <| qM rfl <| qC rfl <| qX (eA (.pointer (ad p0 1)) (e_fa runUnderlying144 rfl sizeOf2 rfl rfl)) <| qX (e_load isAgg2 rfl (.inl M0) rfl) <| qM rfl <| qC rfl ?_
  refine qX (eA (pv p0) (e_fa runUnderlying144 rfl sizeOf72 rfl rfl)) <| qX (e_load isAgg72 rfl (.inl M0) rfl) <| qX (eA (vi 39) (e_lenl runUnderlying72 rfl)) <| qX (e_int (r := .bool false) rfl rfl (by kernel_rfl)) <| qN <| cL rfl <| c_seq <| cQ <| qM rfl ?_
  refine qC rfl <| qX (eA (pv p0) (e_fa runUnderlying144 rfl sizeOf72 rfl rfl)) <| qX (e_load isAgg72 rfl (.inl M0) rfl) <| qM rfl <| qC rfl <| qX (eA (.pointer (ad p0 1)) (e_fa runUnderlying144 rfl sizeOf2 rfl rfl)) <| qX (e_load isAgg2 rfl (.inl M0) rfl) ?_
  refine qX (eA (pv q1.g) (e_ia runUnderlying72 sizeOf5 rfl rfl (by decide) (by decide))) <| qX (e_load isAgg5 rfl (.inl M1) rfl) <| qA rfl <| qN <| cR <| oM rfl <| oC rfl <| oX (eA (.pointer (ad p0 1)) (e_fa runUnderlying144 rfl sizeOf2 rfl rfl)) ?_
  refine oX (e_load isAgg2 rfl (.inl M0) rfl) <| oI (vi 1) rfl rfl <| oC rfl <| oX (eA (.pointer (ad p0 1)) (e_fa runUnderlying144 rfl sizeOf2 rfl rfl)) ?_
  refine o_l rfl (l_store sizeOf2 rfl rfl rfl .head (.tail .head) nofr0) ?_; intro _ _
  refine oN <| cR <| oM rfl <| oA rfl <| oA rfl <| oN <| c_ret <| WR.sel (.cons .head (.cons .head .nil)) <| r_fn (l := [.tmp 2, .tmp 3]) results289 rfl rfl ?_
  exact tells (y := ()) trivial rfl rfl

theorem z168 {G : HP} (p0 : Nat) (q1 : Tl) (h1 : TlOk 1 39 q1) :
    CtrE Tryz.prog 289 [pv p0] G [(p0, C [.slice (ad q1.g 0) 39 q1.cap, vi 1, vi (-1)] 144), (q1.g, Ob xb25 q1 5)] (T := Unit) (fun _ => True) (fun _ => .tuple #[ub 8, .nilIface]) (fun _ => [(p0, C [.slice (ad q1.g 0) 39 q1.cap, vi 2, vi (-1)] 144), (q1.g, Ob xb25 q1 5)]) := by
  refine fn_enter 37 func289 rfl ntmps289 rfl ?_
  intro w0
  refine cR <| oA rfl <| oA rfl <| oN <| cR <| oM rfl <| oC rfl <| oX (eA (.pointer (ad p0 2)) (e_fa runUnderlying144 rfl sizeOf3 rfl rfl)) ?_
  refine o_l rfl (l_store sizeOf3 rfl rfl rfl .head (.tail (.tail .head)) nofr0) ?_; intro _ _
  refine oN <| c_seq <| c_seq <| cQ <| qM rfl <| qC rfl <| qX (eA (.pointer (ad p0 1)) (e_fa runUnderlying144 rfl sizeOf2 rfl rfl)) <| qX (e_load isAgg2 rfl (.inl M0) rfl) <| qM rfl <| qC rfl ?_
  refine qX (eA (pv p0) (e_fa runUnderlying144 rfl sizeOf72 rfl rfl)) <| qX (e_load isAgg72 rfl (.inl M0) rfl) <| qX (eA (vi 39) (e_lenl runUnderlying72 rfl)) <| qX (e_int (r := .bool false) rfl rfl (by kernel_rfl)) <| qN <| cL rfl <| c_seq <| cQ <| qM rfl ?_
  refine qC rfl <| qX (eA (pv p0) (e_fa runUnderlying144 rfl sizeOf72 rfl rfl)) <| qX (e_load isAgg72 rfl (.inl M0) rfl) <| qM rfl <| qC rfl <| qX (eA (.pointer (ad p0 1)) (e_fa runUnderlying144 rfl sizeOf2 rfl rfl)) <| qX (e_load isAgg2 rfl (.inl M0) rfl) ?_
  refine qX (eA (.pointer (ad q1.g 1)) (e_ia runUnderlying72 sizeOf5 rfl rfl (by decide) (by decide))) <| qX (e_load isAgg5 rfl (.inl M1) rfl) <| qA rfl <| qN <| cR <| oM rfl <| oC rfl <| oX (eA (.pointer (ad p0 1)) (e_fa runUnderlying144 rfl sizeOf2 rfl rfl)) ?_
  refine oX (e_load isAgg2 rfl (.inl M0) rfl) <| oI (vi 2) rfl rfl <| oC rfl <| oX (eA (.pointer (ad p0 1)) (e_fa runUnderlying144 rfl sizeOf2 rfl rfl)) ?_
  refine o_l rfl (l_store sizeOf2 rfl rfl rfl .head (.tail .head) nofr0) ?_; intro _ _
  refine oN <| cR <| oM rfl <| oA rfl <| oA rfl <| oN <| c_ret <| WR.sel (.cons .head (.cons .head .nil)) <| r_fn (l := [.tmp 2, .tmp 3]) results289 rfl rfl ?_
  exact tells (y := ()) trivial rfl rfl

theorem z169 {G : HP} (p0 : Nat) (q1 : Tl) (h1 : TlOk 1 39 q1) :
    CtrE Tryz.prog 78 [.iface 75 (pv p0)] G [(p0, C [.slice (ad q1.g 0) 39 q1.cap, vi 0, vi (-1)] 144), (q1.g, Ob xb25 q1 5)] (T := Unit) (fun _ => True) (fun _ => .tuple #[vq 1025, .nilIface]) (fun _ => [(p0, C [.slice (ad q1.g 0) 39 q1.cap, vi 2, vi (-1)] 144), (q1.g, Ob xb25 q1 5)]) := by
  refine fn_enter 59 func78 rfl ntmps78 rfl ?_
  intro w0
  refine cR <| oA rfl <| oA rfl <| oN <| cR <| oA rfl <| oN <| cR <| oA rfl <| oN <| cR <| oA rfl <| oN <| c_block <| c_rounds 999 <| c_seq <| c_block <| cR <| oM rfl ?_
  refine o_l rfl (l_callie call289 (by intro w; kernel_rfl) (z167 (p0) q1 h1) rfl rfl rfl (.cons .head (.cons .head .nil))) ?_; intro r1 hr1
  refine o_cat (.cons (.cons .nil)) <| oM rfl <| oX (e_extract rfl rfl) <| oX (e_extract rfl rfl) <| oA rfl <| oA rfl <| oN <| c_seq <| cR <| oM rfl <| oX (e_nnen runUnderlying80 rfl) <| oN <| cL rfl <| c_seq <| cR <| oM rfl <| oI (.bool false) rfl rfl <| oM rfl <| oS <| oS <| oX (e_pick_f rfl rfl) <| oM rfl ?_
  refine oX (e_move rfl) <| oX (e_int (r := .bool false) rfl rfl (by kernel_rfl)) <| oX (e_pick_f rfl rfl) <| oN <| cL rfl <| c_seq <| cR <| oM rfl <| oI (.bool false) rfl rfl <| oN <| cL rfl <| c_region <| oM rfl <| oM rfl <| oI (ub 1) rfl rfl ?_
  refine oX (e_convc (r := vq 1) runUnderlying5 runUnderlying23 rfl (by kernel_rfl)) <| oM rfl <| oX (e_shlc (r := vq 1) rfl rfl rfl (by kernel_rfl)) <| oI (vq 1) rfl rfl <| oA rfl <| o_nil <| n_block <| n_code <| c_region <| oM rfl <| oI (vq 7) rfl rfl <| oA rfl <| o_nil <| n_rounds ?_
  refine c_keep (sK 5 rfl <| sK 9 rfl <| sK 8 rfl <| sK 4 rfl <| sK 58 rfl <| sK 57 rfl <| sK 56 rfl <| sK 55 rfl <| sK 54 rfl <| sK 53 rfl <| sK 52 rfl <| sK 38 rfl <| sK 37 rfl <| sK 35 rfl <| sK 34 rfl <| sK 33 rfl <| sK 32 rfl <| sK 31 rfl <| sK 30 rfl <| sK 29 rfl <| sK 28 rfl <| sK 27 rfl <| sK 26 rfl <| sK 16 rfl <| sK 15 rfl <| sK 7 rfl <| sK 6 rfl <| sK 14 rfl <| sK 13 rfl <| sK 10 rfl <| sK 12 rfl <| sK 11 rfl <| sK 3 rfl <| sK 2 rfl <| sK 0 rfl <| sub_nil) ?_
  refine c_seq <| c_block <| cR <| oM rfl ?_
  refine o_l rfl (l_callie call289 (by intro w; kernel_rfl) (z168 (p0) q1 h1) rfl rfl rfl (.cons .head (.cons .head .nil))) ?_; intro r2 hr2
  refine o_cat (.cons (.cons .nil)) <| oM rfl <| oX (e_extract rfl rfl) <| oX (e_extract rfl rfl) <| oA rfl <| oA rfl <| oN <| c_seq <| cR <| oM rfl <| oX (e_nnen runUnderlying80 rfl) <| oN <| cL rfl <| c_seq <| cR <| oM rfl <| oI (.bool false) rfl rfl <| oM rfl <| oS <| oS <| oX (e_pick_f rfl rfl) <| oM rfl ?_
  refine oX (e_move rfl) <| oX (e_int (r := .bool false) rfl rfl (by kernel_rfl)) <| oX (e_pick_f rfl rfl) <| oN <| cL rfl <| c_seq <| c_seq ?_
  refine c_keep (sK 35 rfl <| sK 34 rfl <| sK 33 rfl <| sK 32 rfl <| sK 31 rfl <| sK 30 rfl <| sK 29 rfl <| sK 28 rfl <| sK 27 rfl <| sK 26 rfl <| sK 16 rfl <| sK 15 rfl <| sK 7 rfl <| sK 6 rfl <| sK 14 rfl <| sK 13 rfl <| sK 10 rfl <| sK 12 rfl <| sK 11 rfl <| sK 5 rfl <| sK 9 rfl <| sK 8 rfl <| sK 4 rfl <| sK 58 rfl <| sK 57 rfl <| sK 56 rfl <| sK 55 rfl <| sK 54 rfl <| sK 53 rfl <| sK 52 rfl <| sK 38 rfl <| sK 37 rfl <| sK 3 rfl <| sK 2 rfl <| sK 0 rfl <| sub_nil) ?_
  refine c_region <| oM rfl <| oI (.bool true) rfl rfl <| oN <| c_then rfl <| c_seq <| cR <| oM rfl <| oI (.bool false) rfl rfl <| oM rfl <| oS <| oS <| oX (e_pick_f rfl rfl) <| oN <| cL rfl <| cR <| oM rfl <| oM rfl <| oX (e_convc (r := vq 8) runUnderlying5 runUnderlying23 rfl (by kernel_rfl)) ?_
  refine oM rfl <| oX (e_shlc (r := vq 1024) rfl rfl rfl (by kernel_rfl)) <| oI (vq 1025) rfl rfl <| oA rfl <| oA rfl <| oN <| c_ret <| WR.sel (.cons .head (.cons .head .nil)) <| r_fn (l := [.tmp 2, .tmp 3]) results78 rfl rfl ?_
  exact tells (y := ()) trivial rfl rfl

theorem z170 {G : HP} (p0 : Nat) (q1 : Tl) (h1 : TlOk 1 39 q1) :
    CtrE Tryz.prog 45 [.iface 75 (pv p0)] G [(p0, C [.slice (ad q1.g 0) 39 q1.cap, vi 0, vi (-1)] 144), (q1.g, Ob xb25 q1 5)] (T := Unit) (fun _ => True) (fun _ => .tuple #[vq 1025, .nilIface]) (fun _ => [(p0, C [.slice (ad q1.g 0) 39 q1.cap, vi 2, vi (-1)] 144), (q1.g, Ob xb25 q1 5)]) := by
  refine fn_enter 16 func45 rfl ntmps45 rfl ?_
  intro w0
  refine cR <| oA rfl <| oA rfl <| oN <| cR <| oM rfl ?_
  refine o_l rfl (l_calle call79 (z166 (p0) q1 h1) rfl rfl (.cons .head (.cons .head .nil))) ?_; intro r1 hr1
  refine o_cat (.cons (.cons .nil)) ?_
  refine o_l rfl (l_calle call78 (z169 (p0) q1 h1) rfl rfl (.cons .head (.cons .head .nil))) ?_; intro r2 hr2
  refine o_cat (.cons (.cons .nil)) <| oM rfl <| oX (e_extract rfl rfl) <| oX (e_extract rfl rfl) <| oA rfl <| oA rfl <| oN <| c_seq <| cR <| oM rfl <| oX (e_nnen runUnderlying80 rfl) <| oN <| cL rfl <| cR <| oM rfl <| oA rfl <| oA rfl <| oN <| c_ret <| WR.sel (.cons .head (.cons .head .nil)) <| r_fn (l := [.tmp 2, .tmp 3]) results45 rfl rfl ?_
  exact tells (y := ()) trivial rfl rfl

theorem z171 {G : HP} (p0 : Nat) (q1 : Tl) (h1 : TlOk 1 39 q1) :
    CtrE Tryz.prog 164 [.iface 75 (pv p0)] G [(p0, C [.slice (ad q1.g 0) 39 q1.cap, vi 2, vi (-1)] 144), (q1.g, Ob xb25 q1 5)] (T := Unit) (fun _ => True) (fun _ => .iface 75 (pv p0)) (fun _ => [(p0, C [.slice (ad q1.g 0) 39 q1.cap, vi 2, vi (-1)] 144), (q1.g, Ob xb25 q1 5)]) := by
  refine fn_enter 28 func164 rfl ntmps164 rfl ?_
  intro w0
  refine cR <| oA rfl <| oN <| c_seq <| cR <| oM rfl <| oX (e_ta rfl (r := .tuple #[.iface 75 (pv p0), .bool true]) (by intro w; kernel_rfl)) <| oM rfl <| oX (e_extract rfl rfl) <| oX (e_extract rfl rfl) <| oA rfl <| oA rfl <| oN <| cR <| oM rfl <| oN <| c_then rfl <| cR <| oM rfl <| oA rfl <| oN <| c_ret ?_
  refine WR.sel (.cons .head (.cons .head .nil)) <| r_fn1 results164 rfl ?_
  exact tells (y := ()) trivial rfl rfl

theorem z172 {G : HP} (p0 : Nat) (q1 : Tl) (h1 : TlOk 1 39 q1) (p2 : Nat) :
    CtrE Tryz.prog 288 [pv p0, .slice (ad p2 0) 4 4] G [(p0, C [.slice (ad q1.g 0) 39 q1.cap, vi 2, vi (-1)] 144), (q1.g, Ob xb25 q1 5), (p2, C [ub 0, ub 0, ub 0, ub 0] 5)] (T := Unit) (fun _ => True) (fun _ => .tuple #[vi 4, .nilIface]) (fun _ => [(p0, C [.slice (ad q1.g 0) 39 q1.cap, vi 6, vi (-1)] 144), (q1.g, Ob xb25 q1 5), (p2, C [ub 1, ub 0, ub 0, ub 0] 5)]) := by
  refine fn_enter 39 func288 rfl ntmps288 rfl ?_
  intro w0
  refine cR <| oA rfl <| oA rfl <| oN <| c_seq <| c_seq <| cQ <| qM rfl <| qC rfl <| qX (eA (.pointer (ad p0 1)) (e_fa runUnderlying144 rfl sizeOf2 rfl rfl)) <| qX (e_load isAgg2 rfl (.inl M0) rfl) <| qM rfl <| qC rfl ?_
  refine qX (eA (pv p0) (e_fa runUnderlying144 rfl sizeOf72 rfl rfl)) <| qX (e_load isAgg72 rfl (.inl M0) rfl) <| qX (eA (vi 39) (e_lenl runUnderlying72 rfl)) <| qX (e_int (r := .bool false) rfl rfl (by kernel_rfl)) <| qN <| cL rfl <| cR <| oM rfl <| oC rfl ?_
  refine oX (eA (.pointer (ad p0 2)) (e_fa runUnderlying144 rfl sizeOf3 rfl rfl)) ?_
  refine o_l rfl (l_store sizeOf3 rfl rfl rfl .head (.tail (.tail .head)) nofr0) ?_; intro _ _
  refine oN <| c_seq ?_
  refine c_regiond [(p0, C [.slice (ad q1.g 0) 39 q1.cap, vi 2, vi (-1)] 144), (q1.g, Ob xb25 q1 5)] (by kernel_rfl) (.cons_cons _ (.cons_cons _ (.cons _ (.slnil)))) ?_
  refine dX 0 rfl (e_move rfl) <| dX 1 rfl (e_move rfl) <| dX 2 rfl (e_nilCheck rfl) ?_
  refine dX 3 rfl (eA (pv p0) (e_fa runUnderlying144 rfl sizeOf72 rfl rfl)) <| dX 4 rfl (e_load isAgg72 rfl (.inl M0) rfl) <| dX 5 rfl (e_move rfl) ?_
  refine dX 6 rfl (e_nilCheck rfl) <| dX 7 rfl (eA (.pointer (ad p0 1)) (e_fa runUnderlying144 rfl sizeOf2 rfl rfl)) <| dX 8 rfl (e_load isAgg2 rfl (.inl M0) rfl) ?_
  refine dX 9 rfl (e_as (r := .slice (ad q1.g 2) 37 (q1.cap - 2)) (e_sl_l runUnderlying72 sizeOf5 rfl rfl (by decide) (by decide) (by have := h1.le; omega)) (by first | rfl | (simp; try omega))) ?_
  refine d_l 10 (by kernel_rfl) rfl rfl (l_copy (vs := xb26) (k' := 4) runUnderlying72 sizeOf5 rfl rfl rfl (Sv.blk (vs := xb26) underlying72 (.inl M1) (.skip (.skip (.take (.take (.take (.take (.take (.take (.take (.take (.take (.take (.take (.take (.take (.take (.take (.take (.take (.take (.take (.take (.take (.take (.take (.take (.take (.take (.take (.take (.take (.take (.take (.take (.take (.take (.take (.take (.take .done))))))))))))))))))))))))))))))))))))))) (by simp [Value.oneCell'])) rfl (.tail (.tail .head)) (.take (.take (.take (.take .done)))) (.inr rfl)) (fun _ _ => hs_cons (.head _) (hs_cons M1 (hs_nil))) ?_
  intro _ _
  refine dX 11 rfl (e_assign rfl) <| dN <| n_code <| cR <| oM rfl <| oC rfl <| oX (eA (.pointer (ad p0 1)) (e_fa runUnderlying144 rfl sizeOf2 rfl rfl)) <| oX (e_load isAgg2 rfl (.inl M0) rfl) <| oM rfl <| oI (vi 6) rfl rfl <| oC rfl ?_
  refine oX (eA (.pointer (ad p0 1)) (e_fa runUnderlying144 rfl sizeOf2 rfl rfl)) ?_
  refine o_l rfl (l_store sizeOf2 rfl rfl rfl .head (.tail .head) nofr0) ?_; intro _ _
  refine oN <| c_ret <| WR.sel (.cons .head (.cons .head (.cons .head .nil))) <| r_fn (l := [.tmp 4, .tmp 5]) results288 rfl rfl ?_
  exact tells (y := ()) trivial rfl rfl

theorem z173 {G : HP} (p0 : Nat) (q1 : Tl) (h1 : TlOk 1 39 q1) (p2 : Nat) :
    CtrE Tryz.prog 201 [.iface 75 (pv p0), .slice (ad p2 0) 4 4, vi 4] G [(p0, C [.slice (ad q1.g 0) 39 q1.cap, vi 2, vi (-1)] 144), (q1.g, Ob xb25 q1 5), (p2, C [ub 0, ub 0, ub 0, ub 0] 5)] (T := Unit) (fun _ => True) (fun _ => .tuple #[vi 4, .nilIface]) (fun _ => [(p0, C [.slice (ad q1.g 0) 39 q1.cap, vi 6, vi (-1)] 144), (q1.g, Ob xb25 q1 5), (p2, C [ub 1, ub 0, ub 0, ub 0] 5)]) := by
  refine fn_enter 46 func201 rfl ntmps201 rfl ?_
  intro w0
  refine cR <| oA rfl <| oA rfl <| oN <| c_seq <| cR <| oM rfl <| oX (eA (vi 4) (e_lenl runUnderlying72 rfl)) <| oM rfl <| oI (.bool false) rfl rfl <| oN <| cL rfl <| c_seq <| c_block <| c_rounds 999 <| c_seq <| cR <| oM rfl <| oM rfl <| oI (.bool true) rfl rfl <| oM rfl <| oX (e_move rfl) ?_
  refine oX (e_neqn runUnderlying80 rfl) <| oX (e_pick_t rfl rfl) <| oN <| c_then rfl <| c_skip <| n_code <| c_block <| cR <| oA rfl <| oN <| c_seq ?_
  refine c_regiond [(q1.g, Ob xb25 q1 5)] (by kernel_rfl) (.cons _ (.cons_cons _ (.cons _ (.slnil)))) ?_
  refine dX 0 rfl (e_move rfl) <| dX 1 rfl (e_move rfl) <| dX 2 rfl (e_move rfl) ?_
  refine dX 3 rfl (e_as (r := .slice (ad p2 0) 4 4) (e_sl_l runUnderlying72 sizeOf5 rfl rfl (by decide) (by decide) (by decide)) (by first | rfl | (simp; try omega))) <| dX 4 rfl (e_func rfl rfl) ?_
  refine dX 5 rfl (e_nilm (by intro w; kernel_rfl) rfl) <| dX 6 rfl (e_move rfl) <| d_l 7 (by kernel_rfl) rfl rfl (l_callie call288 (by intro w; kernel_rfl) (z172 (p0) q1 h1 (p2)) rfl rfl rfl (.cons .head (.cons .head (.cons .head .nil)))) (fun _ _ => hs_cons M1 (hs_nil)) ?_
  intro r1 hr1
  refine d_cat (.cons (.cons (.cons .nil))) <| dX 8 rfl (e_move rfl) <| dX 9 rfl (e_extract rfl rfl) <| dX 10 rfl (e_extract rfl rfl) <| dX 11 rfl (e_assign rfl) ?_
  refine dX 12 rfl (e_assign rfl) <| dN <| n_code <| c_region <| oM rfl <| oM rfl <| oI (vi 4) rfl rfl <| oA rfl <| o_nil <| n_block <| n_rounds ?_
  refine c_keep (sK 6 rfl <| sK 34 rfl <| sK 33 rfl <| sK 32 rfl <| sK 7 rfl <| sK 8 rfl <| sK 31 rfl <| sK 30 rfl <| sK 21 rfl <| sK 29 rfl <| sK 28 rfl <| sK 26 rfl <| sK 25 rfl <| sK 24 rfl <| sK 23 rfl <| sK 22 rfl <| sK 20 rfl <| sK 19 rfl <| sK 18 rfl <| sK 17 rfl <| sK 16 rfl <| sK 15 rfl <| sK 14 rfl <| sK 2 rfl <| sK 1 rfl <| sK 0 rfl <| sub_nil) ?_
  refine c_seq <| cR <| oM rfl <| oM rfl <| oI (.bool false) rfl rfl <| oM rfl <| oS <| oS <| oX (e_pick_f rfl rfl) <| oN <| c_else rfl <| c_exit <| x_code <| x_upto <| x_here <| n_code <| c_seq <| cR <| oM rfl <| oM rfl <| oI (.bool true) rfl rfl <| oN <| c_then rfl <| c_region <| oA rfl <| oN <| c_ret ?_
  refine WR.sel (.cons .head (.cons .head (.cons .head .nil))) <| r_fn (l := [.tmp 6, .tmp 7]) results201 rfl rfl ?_
  exact tells (y := ()) trivial rfl rfl

theorem z174 {G : HP} (p0 : Nat) (q1 : Tl) (h1 : TlOk 1 39 q1) (p2 : Nat) :
    CtrE Tryz.prog 152 [.iface 75 (pv p0), .slice (ad p2 0) 4 4] G [(p0, C [.slice (ad q1.g 0) 39 q1.cap, vi 2, vi (-1)] 144), (q1.g, Ob xb25 q1 5), (p2, C [ub 0, ub 0, ub 0, ub 0] 5)] (T := Unit) (fun _ => True) (fun _ => .tuple #[vi 4, .nilIface]) (fun _ => [(p0, C [.slice (ad q1.g 0) 39 q1.cap, vi 6, vi (-1)] 144), (q1.g, Ob xb25 q1 5), (p2, C [ub 1, ub 0, ub 0, ub 0] 5)]) := by
  refine fn_enter 13 func152 rfl ntmps152 rfl ?_
  intro w0
  refine cR <| oA rfl <| oA rfl <| oN <| cR <| oM rfl <| oM rfl <| oM rfl <| oX (eA (vi 4) (e_lenl runUnderlying72 rfl)) ?_
  refine o_l rfl (l_calle call201 (z173 (p0) q1 h1 (p2)) rfl rfl (.cons .head (.cons .head (.cons .head .nil)))) ?_; intro r1 hr1
  refine o_cat (.cons (.cons (.cons .nil))) <| oX (e_extract rfl rfl) <| oX (e_extract rfl rfl) <| oA rfl <| oA rfl <| oN <| c_ret <| WR.sel (.cons .head (.cons .head (.cons .head .nil))) <| r_fn (l := [.tmp 4, .tmp 5]) results152 rfl rfl ?_
  exact tells (y := ()) trivial rfl rfl

theorem z175 {G : HP} (p0 : Nat) (q1 : Tl) (h1 : TlOk 1 39 q1) (p2 : Nat) :
    CtrE Tryz.prog 321 [.iface 75 (pv p0), pv p2] G [(p0, C [.slice (ad q1.g 0) 39 q1.cap, vi 2, vi (-1)] 144), (q1.g, Ob xb25 q1 5), (p2, C [vd 0] 212)] (T := Unit) (fun _ => True) (fun _ => .nilIface) (fun _ => [(p0, C [.slice (ad q1.g 0) 39 q1.cap, vi 6, vi (-1)] 144), (q1.g, Ob xb25 q1 5), (p2, C [vd 1] 212)]) := by
  refine fn_enter 23 func321 rfl ntmps321 rfl ?_
  intro w0
  refine cR <| oA rfl <| oN <| cR ?_
  refine o_l rfl (l_mksc (l := [ub 0, ub 0, ub 0, ub 0]) (n := 4) (m := 4) underlying72 (info_of typeInfo5) rfl rfl rfl rfl rfl rfl rfl (by decide) (by kernel_rfl)) ?_; intro g1 _
  refine oA rfl <| oN <| c_seq <| cR <| oM rfl <| oM rfl ?_
  refine o_l rfl (l_calle call152 (z174 (p0) q1 h1 (g1)) rfl rfl (.cons (.tail .head) (.cons (.tail .head) (.cons .head .nil)))) ?_; intro r2 hr2
  refine o_cat (.cons (.cons (.cons .nil))) <| oM rfl <| oX (e_extract rfl rfl) <| oX (e_extract rfl rfl) <| oA rfl <| oA rfl <| oN <| cR <| oM rfl <| oX (e_nnen runUnderlying80 rfl) <| oN <| cL rfl <| cR <| oM rfl <| oX (e_load0 isAgg294 sizeOf294 rfl) <| oM rfl ?_
  refine o_l rfl (l_calle call330 (z89 (g1)) rfl rfl (.cons (.tail (.tail .head)) .nil)) ?_; intro r3 hr3
  refine o_cat (.cons .nil) <| oC rfl ?_
  refine o_l rfl (l_store sizeOf212 rfl rfl rfl (.tail (.tail (.tail .head))) .head nofr0) ?_; intro _ _
  refine oN <| cR <| oA rfl <| oN <| c_ret <| WR.sel (.cons (.tail .head) (.cons (.tail .head) (.cons (.tail .head) .nil))) <| r_fn1 results321 rfl ?_
  exact tells (y := ()) trivial rfl rfl

theorem z176 {G : HP} (p0 : Nat) (q1 : Tl) (h1 : TlOk 1 39 q1) :
    CtrE Tryz.prog 290 [pv p0, vi 0, vi 1] G [(p0, C [.slice (ad q1.g 0) 39 q1.cap, vi 6, vi (-1)] 144), (q1.g, Ob xb25 q1 5)] (T := Unit) (fun _ => True) (fun _ => .tuple #[vi 6, .nilIface]) (fun _ => [(p0, C [.slice (ad q1.g 0) 39 q1.cap, vi 6, vi (-1)] 144), (q1.g, Ob xb25 q1 5)]) := by
  refine fn_enter 42 func290 rfl ntmps290 rfl ?_
  intro w0
  refine cR <| oA rfl <| oA rfl <| oN <| cR <| oM rfl <| oC rfl <| oX (eA (.pointer (ad p0 2)) (e_fa runUnderlying144 rfl sizeOf3 rfl rfl)) ?_
  refine o_l rfl (l_store sizeOf3 rfl rfl rfl .head (.tail (.tail .head)) nofr0) ?_; intro _ _
  refine oN <| cR <| oA rfl <| oN <| c_seq <| cR <| oM rfl <| oN <| c_block <| cR <| oI (.bool false) rfl rfl <| oA rfl <| oN <| c_else rfl <| cR <| oI (.bool true) rfl rfl <| oA rfl <| oN <| c_then rfl <| c_region <| oM rfl <| oC rfl ?_
  refine oX (eA (.pointer (ad p0 1)) (e_fa runUnderlying144 rfl sizeOf2 rfl rfl)) <| oX (e_load isAgg2 rfl (.inl M0) rfl) <| oM rfl <| oI (vi 6) rfl rfl <| oA rfl <| o_nil <| n_block <| n_code <| c_seq <| cR <| oM rfl <| oI (.bool false) rfl rfl <| oN <| cL rfl <| cR <| oM rfl <| oM rfl ?_
  refine oC rfl <| oX (eA (.pointer (ad p0 1)) (e_fa runUnderlying144 rfl sizeOf2 rfl rfl)) ?_
  refine o_l rfl (l_store sizeOf2 rfl rfl rfl .head (.tail .head) nofr0) ?_; intro _ _
  refine oN <| cR <| oM rfl <| oA rfl <| oA rfl <| oN <| c_ret <| WR.sel (.cons .head (.cons .head .nil)) <| r_fn (l := [.tmp 6, .tmp 7]) results290 rfl rfl ?_
  exact tells (y := ()) trivial rfl rfl

theorem z177 {G : HP} (p0 : Nat) (q1 : Tl) (h1 : TlOk 1 39 q1) (p2 : Nat) :
    CtrE Tryz.prog 288 [pv p0, .slice (ad p2 0) 8 8] G [(p0, C [.slice (ad q1.g 0) 39 q1.cap, vi 6, vi (-1)] 144), (q1.g, Ob xb25 q1 5), (p2, C xb10 5)] (T := Unit) (fun _ => True) (fun _ => .tuple #[vi 8, .nilIface]) (fun _ => [(p0, C [.slice (ad q1.g 0) 39 q1.cap, vi 14, vi (-1)] 144), (q1.g, Ob xb25 q1 5), (p2, C xb10 5)]) := by
  refine fn_enter 39 func288 rfl ntmps288 rfl ?_
  intro w0
  refine cR <| oA rfl <| oA rfl <| oN <| c_seq <| c_seq <| cQ <| qM rfl <| qC rfl <| qX (eA (.pointer (ad p0 1)) (e_fa runUnderlying144 rfl sizeOf2 rfl rfl)) <| qX (e_load isAgg2 rfl (.inl M0) rfl) <| qM rfl <| qC rfl ?_
  refine qX (eA (pv p0) (e_fa runUnderlying144 rfl sizeOf72 rfl rfl)) <| qX (e_load isAgg72 rfl (.inl M0) rfl) <| qX (eA (vi 39) (e_lenl runUnderlying72 rfl)) <| qX (e_int (r := .bool false) rfl rfl (by kernel_rfl)) <| qN <| cL rfl <| cR <| oM rfl <| oC rfl ?_
  refine oX (eA (.pointer (ad p0 2)) (e_fa runUnderlying144 rfl sizeOf3 rfl rfl)) ?_
  refine o_l rfl (l_store sizeOf3 rfl rfl rfl .head (.tail (.tail .head)) nofr0) ?_; intro _ _
  refine oN <| c_seq ?_
  refine c_regiond [(p0, C [.slice (ad q1.g 0) 39 q1.cap, vi 6, vi (-1)] 144), (q1.g, Ob xb25 q1 5), (p2, C xb10 5)] (by kernel_rfl) (.cons_cons _ (.cons_cons _ (.cons_cons _ (.slnil)))) ?_
  refine dX 0 rfl (e_move rfl) <| dX 1 rfl (e_move rfl) <| dX 2 rfl (e_nilCheck rfl) ?_
  refine dX 3 rfl (eA (pv p0) (e_fa runUnderlying144 rfl sizeOf72 rfl rfl)) <| dX 4 rfl (e_load isAgg72 rfl (.inl M0) rfl) <| dX 5 rfl (e_move rfl) ?_
  refine dX 6 rfl (e_nilCheck rfl) <| dX 7 rfl (eA (.pointer (ad p0 1)) (e_fa runUnderlying144 rfl sizeOf2 rfl rfl)) <| dX 8 rfl (e_load isAgg2 rfl (.inl M0) rfl) ?_
  refine dX 9 rfl (e_as (r := .slice (ad q1.g 6) 33 (q1.cap - 6)) (e_sl_l runUnderlying72 sizeOf5 rfl rfl (by decide) (by decide) (by have := h1.le; omega)) (by first | rfl | (simp; try omega))) ?_
  refine d_l 10 (by kernel_rfl) rfl rfl (l_copy (vs := xb27) (k' := 8) runUnderlying72 sizeOf5 rfl rfl rfl (Sv.blk (vs := xb27) underlying72 (.inl M1) (.skip (.skip (.skip (.skip (.skip (.skip (.take (.take (.take (.take (.take (.take (.take (.take (.take (.take (.take (.take (.take (.take (.take (.take (.take (.take (.take (.take (.take (.take (.take (.take (.take (.take (.take (.take (.take (.take (.take (.take (.take .done))))))))))))))))))))))))))))))))))))))) (by simp [Value.oneCell'])) rfl (.tail (.tail .head)) (.take (.take (.take (.take (.take (.take (.take (.take .done)))))))) (.inr rfl)) (fun _ _ => hs_cons (.head _) (hs_cons M1 (hs_cons M2 (hs_nil)))) ?_
  intro _ _
  refine dX 11 rfl (e_assign rfl) <| dN <| n_code <| cR <| oM rfl <| oC rfl <| oX (eA (.pointer (ad p0 1)) (e_fa runUnderlying144 rfl sizeOf2 rfl rfl)) <| oX (e_load isAgg2 rfl (.inl M0) rfl) <| oM rfl <| oI (vi 14) rfl rfl <| oC rfl ?_
  refine oX (eA (.pointer (ad p0 1)) (e_fa runUnderlying144 rfl sizeOf2 rfl rfl)) ?_
  refine o_l rfl (l_store sizeOf2 rfl rfl rfl .head (.tail .head) nofr0) ?_; intro _ _
  refine oN <| c_ret <| WR.sel (.cons .head (.cons .head (.cons .head .nil))) <| r_fn (l := [.tmp 4, .tmp 5]) results288 rfl rfl ?_
  exact tells (y := ()) trivial rfl rfl

theorem z178 {G : HP} (p0 : Nat) (q1 : Tl) (h1 : TlOk 1 39 q1) (p2 : Nat) :
    CtrE Tryz.prog 201 [.iface 75 (pv p0), .slice (ad p2 0) 8 8, vi 8] G [(p0, C [.slice (ad q1.g 0) 39 q1.cap, vi 6, vi (-1)] 144), (q1.g, Ob xb25 q1 5), (p2, C xb10 5)] (T := Unit) (fun _ => True) (fun _ => .tuple #[vi 8, .nilIface]) (fun _ => [(p0, C [.slice (ad q1.g 0) 39 q1.cap, vi 14, vi (-1)] 144), (q1.g, Ob xb25 q1 5), (p2, C xb10 5)]) := by
  refine fn_enter 46 func201 rfl ntmps201 rfl ?_
  intro w0
  refine cR <| oA rfl <| oA rfl <| oN <| c_seq <| cR <| oM rfl <| oX (eA (vi 8) (e_lenl runUnderlying72 rfl)) <| oM rfl <| oI (.bool false) rfl rfl <| oN <| cL rfl <| c_seq <| c_block <| c_rounds 999 <| c_seq <| cR <| oM rfl <| oM rfl <| oI (.bool true) rfl rfl <| oM rfl <| oX (e_move rfl) ?_
  refine oX (e_neqn runUnderlying80 rfl) <| oX (e_pick_t rfl rfl) <| oN <| c_then rfl <| c_skip <| n_code <| c_block <| cR <| oA rfl <| oN <| c_seq ?_
  refine c_regiond [(q1.g, Ob xb25 q1 5), (p2, C xb10 5)] (by kernel_rfl) (.cons _ (.cons_cons _ (.cons_cons _ (.slnil)))) ?_
  refine dX 0 rfl (e_move rfl) <| dX 1 rfl (e_move rfl) <| dX 2 rfl (e_move rfl) ?_
  refine dX 3 rfl (e_as (r := .slice (ad p2 0) 8 8) (e_sl_l runUnderlying72 sizeOf5 rfl rfl (by decide) (by decide) (by decide)) (by first | rfl | (simp; try omega))) <| dX 4 rfl (e_func rfl rfl) ?_
  refine dX 5 rfl (e_nilm (by intro w; kernel_rfl) rfl) <| dX 6 rfl (e_move rfl) <| d_l 7 (by kernel_rfl) rfl rfl (l_callie call288 (by intro w; kernel_rfl) (z177 (p0) q1 h1 (p2)) rfl rfl rfl (.cons .head (.cons .head (.cons .head .nil)))) (fun _ _ => hs_cons M1 (hs_cons M2 (hs_nil))) ?_
  intro r1 hr1
  refine d_cat (.cons (.cons (.cons .nil))) <| dX 8 rfl (e_move rfl) <| dX 9 rfl (e_extract rfl rfl) <| dX 10 rfl (e_extract rfl rfl) <| dX 11 rfl (e_assign rfl) ?_
  refine dX 12 rfl (e_assign rfl) <| dN <| n_code <| c_region <| oM rfl <| oM rfl <| oI (vi 8) rfl rfl <| oA rfl <| o_nil <| n_block <| n_rounds ?_
  refine c_keep (sK 6 rfl <| sK 34 rfl <| sK 33 rfl <| sK 32 rfl <| sK 7 rfl <| sK 8 rfl <| sK 31 rfl <| sK 30 rfl <| sK 21 rfl <| sK 29 rfl <| sK 28 rfl <| sK 26 rfl <| sK 25 rfl <| sK 24 rfl <| sK 23 rfl <| sK 22 rfl <| sK 20 rfl <| sK 19 rfl <| sK 18 rfl <| sK 17 rfl <| sK 16 rfl <| sK 15 rfl <| sK 14 rfl <| sK 2 rfl <| sK 1 rfl <| sK 0 rfl <| sub_nil) ?_
  refine c_seq <| cR <| oM rfl <| oM rfl <| oI (.bool false) rfl rfl <| oM rfl <| oS <| oS <| oX (e_pick_f rfl rfl) <| oN <| c_else rfl <| c_exit <| x_code <| x_upto <| x_here <| n_code <| c_seq <| cR <| oM rfl <| oM rfl <| oI (.bool true) rfl rfl <| oN <| c_then rfl <| c_region <| oA rfl <| oN <| c_ret ?_
  refine WR.sel (.cons .head (.cons .head (.cons .head .nil))) <| r_fn (l := [.tmp 6, .tmp 7]) results201 rfl rfl ?_
  exact tells (y := ()) trivial rfl rfl

theorem z179 {G : HP} (p0 : Nat) (q1 : Tl) (h1 : TlOk 1 39 q1) (p2 : Nat) :
    CtrE Tryz.prog 152 [.iface 75 (pv p0), .slice (ad p2 0) 8 8] G [(p0, C [.slice (ad q1.g 0) 39 q1.cap, vi 6, vi (-1)] 144), (q1.g, Ob xb25 q1 5), (p2, C xb10 5)] (T := Unit) (fun _ => True) (fun _ => .tuple #[vi 8, .nilIface]) (fun _ => [(p0, C [.slice (ad q1.g 0) 39 q1.cap, vi 14, vi (-1)] 144), (q1.g, Ob xb25 q1 5), (p2, C xb10 5)]) := by
  refine fn_enter 13 func152 rfl ntmps152 rfl ?_
  intro w0
  refine cR <| oA rfl <| oA rfl <| oN <| cR <| oM rfl <| oM rfl <| oM rfl <| oX (eA (vi 8) (e_lenl runUnderlying72 rfl)) ?_
  refine o_l rfl (l_calle call201 (z178 (p0) q1 h1 (p2)) rfl rfl (.cons .head (.cons .head (.cons .head .nil)))) ?_; intro r1 hr1
  refine o_cat (.cons (.cons (.cons .nil))) <| oX (e_extract rfl rfl) <| oX (e_extract rfl rfl) <| oA rfl <| oA rfl <| oN <| c_ret <| WR.sel (.cons .head (.cons .head (.cons .head .nil))) <| r_fn (l := [.tmp 4, .tmp 5]) results152 rfl rfl ?_
  exact tells (y := ()) trivial rfl rfl
end Go.Proofs
