/- Reading so many bytes; Numbers read; The codec that is read; An index that ends within its numbers is none; impl.IxAgain of an index that ends within its numbers. (A part of the proof of this: for every input laws.FnIxStop returns true and its arguments read as they did, the listed package variables being what the program lays.) -/
import Derived.Test.YtochgglejmfelaaGreatDoorG02
import Derived.Test.YtochgglejmfelaaGreatDoorG03
namespace Go.Proofs
open Go Go.Sl Tryz
set_option maxRecDepth 100000
set_option maxHeartbeats 1000000
section
variable {G : HP} {gr gs gb n cap i k L lo hi e3 e5 eE eU : Nat} {f3 f5 : Nat × Nat} {bs : List UInt8} {rest pl cE' cU' : List Value} {gE gU : Addr} {t3 t5 : List Value}
/-- As many as are asked for. -/
theorem full_is (hD : (gs, DB bs rest lo hi) ∈ G) (hn : bs.length = n) (hc : n ≤ cap) (h63 : cap < 9223372036854775808) (hi' : i + L ≤ n) (hL : 0 < L) (hp : pl.length = L) :
    Ctr Tryz.prog 201 [RV gr, .slice (some ⟨gb, 0, none⟩) L L, .int .i64 L] G [(gr, RB gs n cap i), (gb, C pl 5)] (fun r H' => r = .tuple #[.int .i64 L, .nilIface] ∧ H' = [(gr, RB gs n cap (i + L)), (gb, C (B ((bs.drop i).take L)) 5)]) := by
  have hrd := read_some (G := G) (gr := gr) (gb := gb) (ob := 0) (L := L) (capb := L) (k := L) (pl := pl) hD hn hc h63 (show i < n by omega) (Nat.min_eq_right (by omega)) (by omega)
  have hpl : pl.take 0 ++ B ((bs.drop i).take L) ++ pl.drop (0 + L) = B ((bs.drop i).take L) := by
    have h0 : pl.drop (0 + L) = [] := List.drop_eq_nil_of_le (by omega)
    rw [h0]; simp
  rw [hpl] at hrd
  refine fn_enter 46 func201 rfl ntmps201 rfl ?_
  intro w0
  refine cR <| oA rfl <| oA rfl <| oN <| c_seq <| cR <| oM rfl <| oX (e_lenl runUnderlying72 rfl) <| oM rfl <| oX (e_lss rfl rfl) <| oN ?_
  refine c_ifp rfl (fun h1 => ?_) (fun h1 => ?_)
  · exact absurd h1 (by omega)
  · skip
    refine c_skip <| n_code <| c_seq <| c_block ?_
    refine c_rounds 2 ?_
    refine c_seq <| cR <| oM rfl <| oM rfl <| oX (e_lss rfl rfl) <| oM rfl ?_
    refine o_splitp 17 rfl (fun h2 => ?_) (fun h2 => ?_)
    · refine oM rfl <| oX (e_neqn runUnderlying80 rfl) <| oX (e_pick_t rfl rfl) <| oN <| c_then rfl <| c_skip <| n_code <| c_block <| cR <| oA rfl <| oN <| c_seq <| c_regiong [7] (by kernel_rfl) <| gM 0 rfl (e_move rfl) <| gM 1 rfl (e_move rfl) <| gM 2 rfl (e_move rfl) <| gM 4 rfl (e_func rfl rfl) ?_
      refine gM 5 rfl (e_nilm (fun _ => by kernel_rfl) rfl) ?_
      refine gM 6 rfl (e_move rfl) <| gM 3 rfl (e_sl_l runUnderlying72 sizeOf5 rfl rfl (by omega) (by omega) (by omega)) ?_
      refine g_l 7 (by kernel_rfl) rfl rfl rfl (l_calli0 call288 (by intro w; kernel_rfl) hrd rfl rfl rfl (.cons .head (.cons .head .nil))) ?_
      rintro ⟨r, H'⟩ ⟨rfl, rfl⟩
      simp only [List.cons_append, List.nil_append]
      refine dX 8 rfl (e_move rfl) <| dX 9 rfl (e_extract rfl rfl) <| dX 10 rfl (e_extract rfl rfl) <| dX 11 rfl (e_assign rfl) <| dX 12 rfl (e_assign rfl) <| dN <| n_code <| c_region <| oM rfl <| oM rfl <| oX (e_addn rfl rfl (by simp only [inR]; omega)) <| oA rfl <| o_nil <| n_block ?_
      refine n_rounds ?_
      refine c_seq <| cR <| oM rfl <| oM rfl <| oX (e_lss rfl rfl) <| oM rfl ?_
      refine o_splitp 17 rfl (fun h3 => ?_) (fun h3 => ?_)
      · exact absurd h3 (by omega)
      · skip
        refine oS <| oS <| oX (e_pick_f rfl rfl) <| oN <| c_else rfl ?_
        refine c_exit ?_; refine x_code ?_; refine x_upto ?_; refine x_here ?_
        refine n_code <| c_seq <| cR <| oM rfl <| oM rfl <| oX (e_geq rfl rfl) <| oN ?_
        refine c_ifp rfl (fun h4 => ?_) (fun h4 => ?_)
        · refine c_region <| oA rfl <| oN <| c_ret ?_
          refine r_fn (l := [.tmp 6, .tmp 7]) results201 rfl rfl ?_
          exact ⟨by simp, rfl⟩
        · exact absurd h4 (by omega)
    · exact absurd h2 (by simp; omega)
/-- Fewer are left. -/
theorem short_is (hD : (gs, DB bs rest lo hi) ∈ G) (hE : (3, Obj.cells (EV gE :: t3).toArray e3 f3) ∈ G) (hU : (5, Obj.cells (EV gU :: t5).toArray e5 f5) ∈ G) (hn : bs.length = n) (hc : n ≤ cap) (h63 : cap < 9223372036854775808) (h63' : L < 9223372036854775808) (hi' : i ≤ n) (hL : n < i + L) (hp : pl.length = L) :
    Ctr Tryz.prog 201 [RV gr, .slice (some ⟨gb, 0, none⟩) L L, .int .i64 L] G [(gr, RB gs n cap i), (gb, C pl 5)] (fun r H' => ∃ m e pl', r = .tuple #[.int .i64 m, e] ∧ (e = EV gE ∨ e = EV gU) ∧ H' = [(gr, RB gs n cap n), (gb, C pl' 5)]) := by
  by_cases h0 : i = n
  · subst h0
    have hrd := read_eof (G := G) (gr := gr) (gs := gs) (cap := cap) (n := i) (v := .slice (some ⟨gb, 0, none⟩) L L) hE
    refine fn_enter 46 func201 rfl ntmps201 rfl ?_
    intro w0
    refine cR <| oA rfl <| oA rfl <| oN <| c_seq <| cR <| oM rfl <| oX (e_lenl runUnderlying72 rfl) <| oM rfl <| oX (e_lss rfl rfl) <| oN ?_
    refine c_ifp rfl (fun h1 => ?_) (fun h1 => ?_)
    · exact absurd h1 (by omega)
    · skip
      refine c_skip <| n_code <| c_seq <| c_block ?_
      refine c_rounds 2 ?_
      refine c_seq <| cR <| oM rfl <| oM rfl <| oX (e_lss rfl rfl) <| oM rfl ?_
      refine o_splitp 17 rfl (fun h2 => ?_) (fun h2 => ?_)
      · refine oM rfl <| oX (e_neqn runUnderlying80 rfl) <| oX (e_pick_t rfl rfl) <| oN <| c_then rfl <| c_skip <| n_code <| c_block <| cR <| oA rfl <| oN <| c_seq <| c_regiong [7] (by kernel_rfl) <| gM 0 rfl (e_move rfl) <| gM 1 rfl (e_move rfl) <| gM 2 rfl (e_move rfl) <| gM 4 rfl (e_func rfl rfl) ?_
        refine gM 5 rfl (e_nilm (fun _ => by kernel_rfl) rfl) ?_
        refine gM 6 rfl (e_move rfl) <| gM 3 rfl (e_sl_l runUnderlying72 sizeOf5 rfl rfl (by omega) (by omega) (by omega)) ?_
        refine g_l 7 (by kernel_rfl) rfl rfl rfl (l_calli0 call288 (by intro w; kernel_rfl) hrd rfl rfl rfl (.cons .head .nil)) ?_
        rintro ⟨r, H'⟩ ⟨rfl, rfl⟩
        simp only [List.cons_append, List.nil_append]
        refine dX 8 rfl (e_move rfl) <| dX 9 rfl (e_extract rfl rfl) <| dX 10 rfl (e_extract rfl rfl) <| dX 11 rfl (e_assign rfl) <| dX 12 rfl (e_assign rfl) <| dN <| n_code <| c_region <| oM rfl <| oM rfl <| oX (e_addn rfl rfl (by simp only [inR]; omega)) <| oA rfl <| o_nil <| n_block ?_
        refine n_rounds ?_
        refine c_seq <| cR <| oM rfl <| oM rfl <| oX (e_lss rfl rfl) <| oM rfl ?_
        refine o_splitp 17 rfl (fun h3 => ?_) (fun h3 => ?_)
        · refine oM rfl <| oX (e_ieqn runUnderlying80 rfl) <| oX (e_pick_t rfl rfl) <| oN <| c_else rfl ?_
          refine c_exit ?_; refine x_code ?_; refine x_upto ?_; refine x_here ?_
          refine n_code <| c_seq <| cR <| oM rfl <| oM rfl <| oX (e_geq rfl rfl) <| oN ?_
          refine c_ifp rfl (fun h4 => ?_) (fun h4 => ?_)
          · exact absurd h4 (by omega)
          · skip
            refine cR <| oM rfl <| oX (e_gtr rfl rfl) <| oM rfl ?_
            refine o_splitp 40 rfl (fun h5 => ?_) (fun h5 => ?_)
            · exact absurd h5 (by omega)
            · skip
              refine oS <| oS <| oS <| oX (e_pick_f rfl rfl) <| oN <| cL rfl <| c_ret ?_
              refine r_fn (l := [.tmp 6, .tmp 7]) results201 rfl rfl ?_
              exact ⟨_, _, _, rfl, .inl rfl, rfl⟩
        · exact absurd h3 (by omega)
      · exact absurd h2 (by simp; omega)
  · have hrd := read_some (G := G) (gr := gr) (gb := gb) (ob := 0) (L := L) (capb := L) (k := n - i) (pl := pl) hD hn hc h63 (show i < n by omega) (Nat.min_eq_left (by omega)) (by omega)
    rw [show i + (n - i) = n by omega] at hrd
    refine fn_enter 46 func201 rfl ntmps201 rfl ?_
    intro w0
    refine cR <| oA rfl <| oA rfl <| oN <| c_seq <| cR <| oM rfl <| oX (e_lenl runUnderlying72 rfl) <| oM rfl <| oX (e_lss rfl rfl) <| oN ?_
    refine c_ifp rfl (fun h1 => ?_) (fun h1 => ?_)
    · exact absurd h1 (by omega)
    · skip
      refine c_skip <| n_code <| c_seq <| c_block ?_
      refine c_rounds 3 ?_
      refine c_seq <| cR <| oM rfl <| oM rfl <| oX (e_lss rfl rfl) <| oM rfl ?_
      refine o_splitp 17 rfl (fun h2 => ?_) (fun h2 => ?_)
      · refine oM rfl <| oX (e_neqn runUnderlying80 rfl) <| oX (e_pick_t rfl rfl) <| oN <| c_then rfl <| c_skip <| n_code <| c_block <| cR <| oA rfl <| oN <| c_seq <| c_regiong [7] (by kernel_rfl) <| gM 0 rfl (e_move rfl) <| gM 1 rfl (e_move rfl) <| gM 2 rfl (e_move rfl) <| gM 4 rfl (e_func rfl rfl) ?_
        refine gM 5 rfl (e_nilm (fun _ => by kernel_rfl) rfl) ?_
        refine gM 6 rfl (e_move rfl) <| gM 3 rfl (e_sl_l runUnderlying72 sizeOf5 rfl rfl (by omega) (by omega) (by omega)) ?_
        refine g_l 7 (by kernel_rfl) rfl rfl rfl (l_calli0 call288 (by intro w; kernel_rfl) hrd rfl rfl rfl (.cons .head (.cons .head .nil))) ?_
        rintro ⟨r, H'⟩ ⟨rfl, rfl⟩
        simp only [List.cons_append, List.nil_append]
        refine dX 8 rfl (e_move rfl) <| dX 9 rfl (e_extract rfl rfl) <| dX 10 rfl (e_extract rfl rfl) <| dX 11 rfl (e_assign rfl) <| dX 12 rfl (e_assign rfl) <| dN <| n_code <| c_region <| oM rfl <| oM rfl <| oX (e_addn rfl rfl (by simp only [inR]; omega)) <| oA rfl <| o_nil <| n_block ?_
        refine n_rounds ?_
        refine c_seq <| cR <| oM rfl <| oM rfl <| oX (e_lss rfl rfl) <| oM rfl ?_
        refine o_splitp 17 rfl (fun h3 => ?_) (fun h3 => ?_)
        · refine oM rfl <| oX (e_neqn runUnderlying80 rfl) <| oX (e_pick_t rfl rfl) <| oN <| c_then rfl <| c_skip <| n_code <| c_block <| cR <| oA rfl <| oN <| c_seq <| c_regiong [7] (by kernel_rfl) <| gM 0 rfl (e_move rfl) <| gM 1 rfl (e_move rfl) <| gM 2 rfl (e_move rfl) <| gM 4 rfl (e_func rfl rfl) ?_
          refine gM 5 rfl (e_nilm (fun _ => by kernel_rfl) rfl) ?_
          refine gM 6 rfl (e_move rfl) <| gM 3 rfl (e_sl_l runUnderlying72 sizeOf5 rfl rfl (by omega) (by omega) (by omega)) ?_
          refine g_l 7 (by kernel_rfl) rfl rfl rfl (l_calli0 call288 (by intro w; kernel_rfl) (read_eof hE) rfl rfl rfl (.cons .head .nil)) ?_
          rintro ⟨r, H'⟩ ⟨rfl, rfl⟩
          simp only [List.cons_append, List.nil_append]
          refine dX 8 rfl (e_move rfl) <| dX 9 rfl (e_extract rfl rfl) <| dX 10 rfl (e_extract rfl rfl) <| dX 11 rfl (e_assign rfl) <| dX 12 rfl (e_assign rfl) <| dN <| n_code <| c_region <| oM rfl <| oM rfl <| oX (e_addn rfl rfl (by simp only [inR]; omega)) <| oA rfl <| o_nil <| n_block ?_
          refine n_rounds ?_
          refine c_seq <| cR <| oM rfl <| oM rfl <| oX (e_lss rfl rfl) <| oM rfl ?_
          refine o_splitp 17 rfl (fun h4 => ?_) (fun h4 => ?_)
          · refine oM rfl <| oX (e_ieqn runUnderlying80 rfl) <| oX (e_pick_t rfl rfl) <| oN <| c_else rfl ?_
            refine c_exit ?_; refine x_code ?_; refine x_upto ?_; refine x_here ?_
            refine n_code <| c_seq <| cR <| oM rfl <| oM rfl <| oX (e_geq rfl rfl) <| oN ?_
            refine c_ifp rfl (fun h5 => ?_) (fun h5 => ?_)
            · exact absurd h5 (by omega)
            · skip
              refine cR <| oM rfl <| oX (e_gtr rfl rfl) <| oM rfl ?_
              refine o_splitp 40 rfl (fun h6 => ?_) (fun h6 => ?_)
              · refine oM rfl ?_
                refine oX (e_load isAgg80 rfl (.inr (by assumption)) rfl) ?_
                refine oX (e_ieq_same runUnderlying80 (typeInfo260) rfl (runUnderlying260) (sizeOf262) (by decide) rfl rfl) <| oX (e_pick_t rfl rfl) <| oN <| c_then rfl <| c_region ?_
                refine oX (e_load isAgg80 rfl (.inr (by assumption)) rfl) ?_
                refine oA rfl <| oN <| c_ret ?_
                refine r_fn (l := [.tmp 6, .tmp 7]) results201 rfl rfl ?_
                exact ⟨_, _, _, rfl, .inr rfl, rfl⟩
              · exact absurd h6 (by omega)
          · exact absurd h4 (by omega)
        · exact absurd h3 (by omega)
      · exact absurd h2 (by simp; omega)
end
end Go.Proofs
namespace Go.Proofs
open Go Go.Sl Tryz
set_option maxRecDepth 100000
set_option maxHeartbeats 1000000
section
variable {G : HP} {gr gs gb n cap i k L lo hi e3 e5 eE eU : Nat} {f3 f5 : Nat × Nat} {bs : List UInt8} {rest pl cE' cU' : List Value} {gE gU : Addr} {t3 t5 : List Value}
theorem readFull_is (hD : (gs, DB bs rest lo hi) ∈ G) (hn : bs.length = n) (hc : n ≤ cap) (h63 : cap < 9223372036854775808) (hi' : i + L ≤ n) (hL : 0 < L) (hp : pl.length = L) :
    Ctr Tryz.prog 152 [RV gr, .slice (some ⟨gb, 0, none⟩) L L] G [(gr, RB gs n cap i), (gb, C pl 5)] (fun r H' => r = .tuple #[.int .i64 L, .nilIface] ∧ H' = [(gr, RB gs n cap (i + L)), (gb, C (B ((bs.drop i).take L)) 5)]) := by
  refine fn_enter 13 func152 rfl ntmps152 rfl ?_
  intro w0
  refine cR <| oA rfl <| oA rfl <| oN <| cR <| oM rfl <| oM rfl <| oM rfl <| oX (e_lenl runUnderlying72 rfl) ?_
  refine o_l rfl (l_call call201 (full_is hD hn hc h63 hi' hL hp) rfl rfl (.cons .head (.cons .head .nil))) ?_
  rintro ⟨r, H'⟩ ⟨rfl, rfl⟩
  simp only [List.cons_append, List.nil_append]
  refine oX (e_extract rfl rfl) <| oX (e_extract rfl rfl) <| oA rfl <| oA rfl <| oN <| c_ret ?_
  refine r_fn (l := [.tmp 4, .tmp 5]) results152 rfl rfl ?_
  exact ⟨rfl, rfl⟩
theorem readFull_short (hD : (gs, DB bs rest lo hi) ∈ G) (hE : (3, Obj.cells (EV gE :: t3).toArray e3 f3) ∈ G) (hU : (5, Obj.cells (EV gU :: t5).toArray e5 f5) ∈ G) (hn : bs.length = n) (hc : n ≤ cap) (h63 : cap < 9223372036854775808) (h63' : L < 9223372036854775808) (hi' : i ≤ n) (hL : n < i + L) (hp : pl.length = L) :
    Ctr Tryz.prog 152 [RV gr, .slice (some ⟨gb, 0, none⟩) L L] G [(gr, RB gs n cap i), (gb, C pl 5)] (fun r H' => ∃ m e pl', r = .tuple #[.int .i64 m, e] ∧ (e = EV gE ∨ e = EV gU) ∧ H' = [(gr, RB gs n cap n), (gb, C pl' 5)]) := by
  refine fn_enter 13 func152 rfl ntmps152 rfl ?_
  intro w0
  refine cR <| oA rfl <| oA rfl <| oN <| cR <| oM rfl <| oM rfl <| oM rfl <| oX (e_lenl runUnderlying72 rfl) ?_
  refine o_l rfl (l_call call201 (short_is hD hE hU hn hc h63 h63' hi' hL hp) rfl rfl (.cons .head (.cons .head .nil))) ?_
  rintro ⟨r, H'⟩ ⟨m, e, pl', rfl, he, rfl⟩
  simp only [List.cons_append, List.nil_append]
  refine oX (e_extract rfl rfl) <| oX (e_extract rfl rfl) <| oA rfl <| oA rfl <| oN <| c_ret ?_
  refine r_fn (l := [.tmp 4, .tmp 5]) results152 rfl rfl ?_
  exact ⟨_, _, _, rfl, he, rfl⟩
theorem u32_is {v : Value} {b0 b1 b2 b3 : UInt8} (hB : (gb, C (B [b0, b1, b2, b3]) 5) ∈ G) : CtrP Tryz.prog 330 [v, .slice (some ⟨gb, 0, none⟩) 4 4] G (.int .u32 (le [b0, b1, b2, b3] : Nat)) := by
  have h0 := b0.toNat_lt
  have h1 := b1.toNat_lt
  have h2 := b2.toNat_lt
  have h3 := b3.toNat_lt
  refine fn_enter 30 func330 rfl ntmps330 rfl ?_
  intro w0
  refine cR ?_
  refine o_l rfl (l_box rfl rfl rfl) ?_; intro g2 _
  refine oA rfl <| oN <| cR <| oM rfl <| oX (e_ia runUnderlying72 sizeOf5 rfl rfl (by omega) (by omega)) ?_
  refine oX (e_load isAgg5 rfl (.inr (by assumption)) rfl) ?_
  refine oN <| c_seq <| cQ <| qM rfl <| qX (e_ia runUnderlying72 sizeOf5 rfl rfl (by omega) (by omega)) ?_
  refine qX (e_load isAgg5 rfl (.inr (by assumption)) rfl) ?_
  refine qX (e_convn runUnderlying5 runUnderlying212 rfl (by simp only [inR]; omega)) <| qM rfl <| qX (e_ia runUnderlying72 sizeOf5 rfl rfl (by omega) (by omega)) ?_
  refine qX (e_load isAgg5 rfl (.inr (by assumption)) rfl) ?_
  refine qX (e_convn runUnderlying5 runUnderlying212 rfl (by simp only [inR]; omega)) <| qX (e_shl rfl rfl (by omega)) <| qX (e_or rfl rfl) <| qM rfl <| qX (e_ia runUnderlying72 sizeOf5 rfl rfl (by omega) (by omega)) ?_
  refine qX (e_load isAgg5 rfl (.inr (by assumption)) rfl) ?_
  refine qX (e_convn runUnderlying5 runUnderlying212 rfl (by simp only [inR]; omega)) <| qX (e_shl rfl rfl (by omega)) <| qX (e_or rfl rfl) <| qM rfl <| qX (e_ia runUnderlying72 sizeOf5 rfl rfl (by omega) (by omega)) ?_
  refine qX (e_load isAgg5 rfl (.inr (by assumption)) rfl) ?_
  refine qX (e_convn runUnderlying5 runUnderlying212 rfl (by simp only [inR]; omega)) <| qX (e_shl rfl rfl (by omega)) <| qX (e_or rfl rfl) <| qA rfl <| qN <| c_ret ?_
  refine WR.less (fun _ _ h => h) (List.nil_sublist _) ?_
  refine r_fn1 results330 rfl ?_
  refine ⟨?_, rfl⟩
  show Value.int _ _ = Value.int _ _
  congr 1
  rw [or_sh rfl 8 8 rfl (by decide) (by omega) (by show _ < 2 ^ 32; omega), or_sh rfl 16 16 rfl (by decide) (by omega) (by show _ < 2 ^ 32; omega), or_sh rfl 24 24 rfl (by decide) (by omega) (by show _ < 2 ^ 32; omega)]
  simp only [le]
  omega
theorem u64_is {v : Value} {b0 b1 b2 b3 b4 b5 b6 b7 : UInt8} (hB : (gb, C (B [b0, b1, b2, b3, b4, b5, b6, b7]) 5) ∈ G) : CtrP Tryz.prog 214 [v, .slice (some ⟨gb, 0, none⟩) 8 8] G (.int .u64 (le [b0, b1, b2, b3, b4, b5, b6, b7] : Nat)) := by
  have h0 := b0.toNat_lt
  have h1 := b1.toNat_lt
  have h2 := b2.toNat_lt
  have h3 := b3.toNat_lt
  have h4 := b4.toNat_lt
  have h5 := b5.toNat_lt
  have h6 := b6.toNat_lt
  have h7 := b7.toNat_lt
  refine fn_enter 54 func214 rfl ntmps214 rfl ?_
  intro w0
  refine cR ?_
  refine o_l rfl (l_box rfl rfl rfl) ?_; intro g2 _
  refine oA rfl <| oN <| cR <| oM rfl <| oX (e_ia runUnderlying72 sizeOf5 rfl rfl (by omega) (by omega)) ?_
  refine oX (e_load isAgg5 rfl (.inr (by assumption)) rfl) ?_
  refine oN <| c_seq <| cQ <| qM rfl <| qX (e_ia runUnderlying72 sizeOf5 rfl rfl (by omega) (by omega)) ?_
  refine qX (e_load isAgg5 rfl (.inr (by assumption)) rfl) ?_
  refine qX (e_convn runUnderlying5 runUnderlying23 rfl (by simp only [inR]; omega)) <| qM rfl <| qX (e_ia runUnderlying72 sizeOf5 rfl rfl (by omega) (by omega)) ?_
  refine qX (e_load isAgg5 rfl (.inr (by assumption)) rfl) ?_
  refine qX (e_convn runUnderlying5 runUnderlying23 rfl (by simp only [inR]; omega)) <| qX (e_shl rfl rfl (by omega)) <| qX (e_or rfl rfl) <| qM rfl <| qX (e_ia runUnderlying72 sizeOf5 rfl rfl (by omega) (by omega)) ?_
  refine qX (e_load isAgg5 rfl (.inr (by assumption)) rfl) ?_
  refine qX (e_convn runUnderlying5 runUnderlying23 rfl (by simp only [inR]; omega)) <| qX (e_shl rfl rfl (by omega)) <| qX (e_or rfl rfl) <| qM rfl <| qX (e_ia runUnderlying72 sizeOf5 rfl rfl (by omega) (by omega)) ?_
  refine qX (e_load isAgg5 rfl (.inr (by assumption)) rfl) ?_
  refine qX (e_convn runUnderlying5 runUnderlying23 rfl (by simp only [inR]; omega)) <| qX (e_shl rfl rfl (by omega)) <| qX (e_or rfl rfl) <| qM rfl <| qX (e_ia runUnderlying72 sizeOf5 rfl rfl (by omega) (by omega)) ?_
  refine qX (e_load isAgg5 rfl (.inr (by assumption)) rfl) ?_
  refine qX (e_convn runUnderlying5 runUnderlying23 rfl (by simp only [inR]; omega)) <| qX (e_shl rfl rfl (by omega)) <| qX (e_or rfl rfl) <| qM rfl <| qX (e_ia runUnderlying72 sizeOf5 rfl rfl (by omega) (by omega)) ?_
  refine qX (e_load isAgg5 rfl (.inr (by assumption)) rfl) ?_
  refine qX (e_convn runUnderlying5 runUnderlying23 rfl (by simp only [inR]; omega)) <| qX (e_shl rfl rfl (by omega)) <| qX (e_or rfl rfl) <| qM rfl <| qX (e_ia runUnderlying72 sizeOf5 rfl rfl (by omega) (by omega)) ?_
  refine qX (e_load isAgg5 rfl (.inr (by assumption)) rfl) ?_
  refine qX (e_convn runUnderlying5 runUnderlying23 rfl (by simp only [inR]; omega)) <| qX (e_shl rfl rfl (by omega)) <| qX (e_or rfl rfl) <| qM rfl <| qX (e_ia runUnderlying72 sizeOf5 rfl rfl (by omega) (by omega)) ?_
  refine qX (e_load isAgg5 rfl (.inr (by assumption)) rfl) ?_
  refine qX (e_convn runUnderlying5 runUnderlying23 rfl (by simp only [inR]; omega)) <| qX (e_shl rfl rfl (by omega)) <| qX (e_or rfl rfl) <| qA rfl <| qN <| c_ret ?_
  refine WR.less (fun _ _ h => h) (List.nil_sublist _) ?_
  refine r_fn1 results214 rfl ?_
  refine ⟨?_, rfl⟩
  show Value.int _ _ = Value.int _ _
  congr 1
  rw [or_sh rfl 8 8 rfl (by decide) (by omega) (by show _ < 2 ^ 64; omega), or_sh rfl 16 16 rfl (by decide) (by omega) (by show _ < 2 ^ 64; omega), or_sh rfl 24 24 rfl (by decide) (by omega) (by show _ < 2 ^ 64; omega), or_sh rfl 32 32 rfl (by decide) (by omega) (by show _ < 2 ^ 64; omega), or_sh rfl 40 40 rfl (by decide) (by omega) (by show _ < 2 ^ 64; omega), or_sh rfl 48 48 rfl (by decide) (by omega) (by show _ < 2 ^ 64; omega), or_sh rfl 56 56 rfl (by decide) (by omega) (by show _ < 2 ^ 64; omega)]
  simp only [le]
  omega
theorem take4 {l : List UInt8} (h : 4 ≤ l.length) : ∃ b0 b1 b2 b3, l.take 4 = [b0, b1, b2, b3] := by
  match l, h with
  | a :: b :: c :: d :: _, _ => exact ⟨a, b, c, d, rfl⟩
theorem take8 {l : List UInt8} (h : 8 ≤ l.length) : ∃ b0 b1 b2 b3 b4 b5 b6 b7, l.take 8 = [b0, b1, b2, b3, b4, b5, b6, b7] := by
  match l, h with
  | a :: b :: c :: d :: a' :: b' :: c' :: d' :: _, _ => exact ⟨a, b, c, d, a', b', c', d', rfl⟩
/-- A number of 4 bytes, into a cell. -/
theorem read32_is {gp off : Nat} {pc pc' : List Value} {ep : TypeId} (hD : (gs, DB bs rest lo hi) ∈ G) (hn : bs.length = n) (hc : n ≤ cap) (h63 : cap < 9223372036854775808) (hi' : i + 4 ≤ n) (hs : SetAt pc off (.int .u32 (le ((bs.drop i).take 4) : Nat)) pc') :
    Ctr Tryz.prog 321 [RV gr, .pointer (some ⟨gp, off, none⟩)] G [(gr, RB gs n cap i), (gp, C pc ep)] (fun r H' => r = .nilIface ∧ H' = [(gr, RB gs n cap (i + 4)), (gp, C pc' ep)]) := by
  obtain ⟨b0, b1, b2, b3, hb⟩ := take4 (l := bs.drop i) (by simp; omega)
  have hrd := fun (gb : Nat) => readFull_is (G := G) (gr := gr) (gb := gb) (pl := [.int .u8 0, .int .u8 0, .int .u8 0, .int .u8 0]) hD hn hc h63 hi' (by decide) rfl
  rw [hb] at hs hrd
  refine fn_enter 23 func321 rfl ntmps321 rfl ?_
  intro w0
  refine cR <| oA rfl <| oN <| cR ?_
  refine o_l rfl (l_mksc (l := [.int .u8 0, .int .u8 0, .int .u8 0, .int .u8 0]) underlying72 (info_of typeInfo5) rfl rfl rfl rfl rfl rfl rfl (Nat.le_refl _) (by kernel_rfl)) ?_
  intro g8 _
  refine oA rfl <| oN <| c_seq <| cR <| oM rfl <| oM rfl ?_
  refine o_l rfl (l_call call152 (hrd g8) rfl rfl (.cons (.tail .head) (.cons .head .nil))) ?_
  rintro ⟨r, H'⟩ ⟨rfl, rfl⟩
  simp only [List.cons_append, List.nil_append]
  refine oM rfl <| oX (e_extract rfl rfl) <| oX (e_extract rfl rfl) <| oA rfl <| oA rfl <| oN <| cR <| oM rfl <| oX (e_nnen runUnderlying80 rfl) <| oN <| cL rfl <| cR <| oM rfl <| oX (e_load0 isAgg294 sizeOf294 rfl) <| oM rfl ?_
  refine o_l rfl (l_callj (HJ := [(g8, C (B [b0, b1, b2, b3]) 5)]) call330 (u32_is (G := _ ++ [_]) (List.mem_append_right _ (.head _))) rfl rfl .nil (by simp)) ?_
  rintro ⟨r, H'⟩ ⟨rfl, rfl⟩
  simp only [List.cons_append, List.nil_append]
  refine oC rfl ?_
  refine o_l rfl (l_store sizeOf212 rfl rfl rfl (.tail (.tail .head)) hs (by omega)) ?_
  intro _ _
  refine oN <| cR <| oA rfl <| oN <| c_ret ?_
  refine WR.sel (.cons .head (.cons (.tail .head) .nil)) ?_
  refine r_fn1 results321 rfl ?_
  exact ⟨rfl, rfl⟩
theorem read32_short {gp off : Nat} {v : Value} (hD : (gs, DB bs rest lo hi) ∈ G) (hE : (3, Obj.cells (EV gE :: t3).toArray e3 f3) ∈ G) (hU : (5, Obj.cells (EV gU :: t5).toArray e5 f5) ∈ G) (hn : bs.length = n) (hc : n ≤ cap) (h63 : cap < 9223372036854775808) (hi' : i ≤ n) (hL : n < i + 4) :
    Ctr Tryz.prog 321 [RV gr, v] G [(gr, RB gs n cap i)] (fun r H' => ∃ g, (g = gE ∨ g = gU) ∧ r = EV g ∧ H' = [(gr, RB gs n cap n)]) := by
  have hrd := fun (gb : Nat) => readFull_short (G := G) (gr := gr) (gb := gb) (L := 4) (pl := [.int .u8 0, .int .u8 0, .int .u8 0, .int .u8 0]) hD hE hU hn hc h63 (by decide) hi' hL rfl
  refine fn_enter 23 func321 rfl ntmps321 rfl ?_
  intro w0
  refine cR <| oA rfl <| oN <| cR ?_
  refine o_l rfl (l_mksc (l := [.int .u8 0, .int .u8 0, .int .u8 0, .int .u8 0]) underlying72 (info_of typeInfo5) rfl rfl rfl rfl rfl rfl rfl (Nat.le_refl _) (by kernel_rfl)) ?_
  intro g8 _
  refine oA rfl <| oN <| c_seq <| cR <| oM rfl <| oM rfl ?_
  refine o_l rfl (l_call call152 (hrd g8) rfl rfl (.cons (.tail .head) (.cons .head .nil))) ?_
  rintro ⟨r, H'⟩ ⟨m, e, pl', rfl, he, rfl⟩
  simp only [List.cons_append, List.nil_append]
  obtain ⟨ge, rfl, hg⟩ : ∃ g, e = EV g ∧ (g = gE ∨ g = gU) := by rcases he with rfl | rfl <;> exact ⟨_, rfl, by simp⟩
  refine oM rfl <| oX (e_extract rfl rfl) <| oX (e_extract rfl rfl) <| oA rfl <| oA rfl <| oN <| cR <| oM rfl <| oX (e_inen runUnderlying80 rfl) <| oN <| c_then rfl <| cR <| oM rfl <| oA rfl <| oN <| c_ret ?_
  refine WR.sel (.cons .head .nil) ?_
  refine r_fn1 results321 rfl ?_
  exact ⟨ge, hg, rfl, rfl⟩
/-- A number of 8 bytes, into a cell. -/
theorem read64_is {gp off : Nat} {pc pc' : List Value} {ep : TypeId} (hD : (gs, DB bs rest lo hi) ∈ G) (hn : bs.length = n) (hc : n ≤ cap) (h63 : cap < 9223372036854775808) (hi' : i + 8 ≤ n) (hs : SetAt pc off (.int .u64 (le ((bs.drop i).take 8) : Nat)) pc') :
    Ctr Tryz.prog 331 [RV gr, .pointer (some ⟨gp, off, none⟩)] G [(gr, RB gs n cap i), (gp, C pc ep)] (fun r H' => r = .nilIface ∧ H' = [(gr, RB gs n cap (i + 8)), (gp, C pc' ep)]) := by
  obtain ⟨b0, b1, b2, b3, b4, b5, b6, b7, hb⟩ := take8 (l := bs.drop i) (by simp; omega)
  have hrd := fun (gb : Nat) => readFull_is (G := G) (gr := gr) (gb := gb) (pl := [.int .u8 0, .int .u8 0, .int .u8 0, .int .u8 0, .int .u8 0, .int .u8 0, .int .u8 0, .int .u8 0]) hD hn hc h63 hi' (by decide) rfl
  rw [hb] at hs hrd
  refine fn_enter 23 func331 rfl ntmps331 rfl ?_
  intro w0
  refine cR <| oA rfl <| oN <| cR ?_
  refine o_l rfl (l_mksc (l := [.int .u8 0, .int .u8 0, .int .u8 0, .int .u8 0, .int .u8 0, .int .u8 0, .int .u8 0, .int .u8 0]) underlying72 (info_of typeInfo5) rfl rfl rfl rfl rfl rfl rfl (Nat.le_refl _) (by kernel_rfl)) ?_
  intro g8 _
  refine oA rfl <| oN <| c_seq <| cR <| oM rfl <| oM rfl ?_
  refine o_l rfl (l_call call152 (hrd g8) rfl rfl (.cons (.tail .head) (.cons .head .nil))) ?_
  rintro ⟨r, H'⟩ ⟨rfl, rfl⟩
  simp only [List.cons_append, List.nil_append]
  refine oM rfl <| oX (e_extract rfl rfl) <| oX (e_extract rfl rfl) <| oA rfl <| oA rfl <| oN <| cR <| oM rfl <| oX (e_nnen runUnderlying80 rfl) <| oN <| cL rfl <| cR <| oM rfl <| oX (e_load0 isAgg294 sizeOf294 rfl) <| oM rfl ?_
  refine o_l rfl (l_callj (HJ := [(g8, C (B [b0, b1, b2, b3, b4, b5, b6, b7]) 5)]) call214 (u64_is (G := _ ++ [_]) (List.mem_append_right _ (.head _))) rfl rfl .nil (by simp)) ?_
  rintro ⟨r, H'⟩ ⟨rfl, rfl⟩
  simp only [List.cons_append, List.nil_append]
  refine oC rfl ?_
  refine o_l rfl (l_store sizeOf23 rfl rfl rfl (.tail (.tail .head)) hs (by omega)) ?_
  intro _ _
  refine oN <| cR <| oA rfl <| oN <| c_ret ?_
  refine WR.sel (.cons .head (.cons (.tail .head) .nil)) ?_
  refine r_fn1 results331 rfl ?_
  exact ⟨rfl, rfl⟩
theorem read64_short {gp off : Nat} {v : Value} (hD : (gs, DB bs rest lo hi) ∈ G) (hE : (3, Obj.cells (EV gE :: t3).toArray e3 f3) ∈ G) (hU : (5, Obj.cells (EV gU :: t5).toArray e5 f5) ∈ G) (hn : bs.length = n) (hc : n ≤ cap) (h63 : cap < 9223372036854775808) (hi' : i ≤ n) (hL : n < i + 8) :
    Ctr Tryz.prog 331 [RV gr, v] G [(gr, RB gs n cap i)] (fun r H' => ∃ g, (g = gE ∨ g = gU) ∧ r = EV g ∧ H' = [(gr, RB gs n cap n)]) := by
  have hrd := fun (gb : Nat) => readFull_short (G := G) (gr := gr) (gb := gb) (L := 8) (pl := [.int .u8 0, .int .u8 0, .int .u8 0, .int .u8 0, .int .u8 0, .int .u8 0, .int .u8 0, .int .u8 0]) hD hE hU hn hc h63 (by decide) hi' hL rfl
  refine fn_enter 23 func331 rfl ntmps331 rfl ?_
  intro w0
  refine cR <| oA rfl <| oN <| cR ?_
  refine o_l rfl (l_mksc (l := [.int .u8 0, .int .u8 0, .int .u8 0, .int .u8 0, .int .u8 0, .int .u8 0, .int .u8 0, .int .u8 0]) underlying72 (info_of typeInfo5) rfl rfl rfl rfl rfl rfl rfl (Nat.le_refl _) (by kernel_rfl)) ?_
  intro g8 _
  refine oA rfl <| oN <| c_seq <| cR <| oM rfl <| oM rfl ?_
  refine o_l rfl (l_call call152 (hrd g8) rfl rfl (.cons (.tail .head) (.cons .head .nil))) ?_
  rintro ⟨r, H'⟩ ⟨m, e, pl', rfl, he, rfl⟩
  simp only [List.cons_append, List.nil_append]
  obtain ⟨ge, rfl, hg⟩ : ∃ g, e = EV g ∧ (g = gE ∨ g = gU) := by rcases he with rfl | rfl <;> exact ⟨_, rfl, by simp⟩
  refine oM rfl <| oX (e_extract rfl rfl) <| oX (e_extract rfl rfl) <| oA rfl <| oA rfl <| oN <| cR <| oM rfl <| oX (e_inen runUnderlying80 rfl) <| oN <| c_then rfl <| cR <| oM rfl <| oA rfl <| oN <| c_ret ?_
  refine WR.sel (.cons .head .nil) ?_
  refine r_fn1 results331 rfl ?_
  exact ⟨ge, hg, rfl, rfl⟩
end
end Go.Proofs
namespace Go.Proofs
open Go Go.Sl Tryz
set_option maxRecDepth 100000
set_option maxHeartbeats 1000000
section
variable {G : HP} {gr gs gb n cap i k L lo hi e3 e5 eE eU : Nat} {f3 f5 : Nat × Nat} {bs : List UInt8} {rest pl cE' cU' : List Value} {gE gU : Addr} {t3 t5 : List Value}
theorem byte_is {b : UInt8} (hD : (gs, DB bs rest lo hi) ∈ G) (hn : bs.length = n) (h63 : n < 9223372036854775808) (hb : bs[i]? = some b) :
    Ctr Tryz.prog 289 [.pointer (some ⟨gr, 0, none⟩)] G [(gr, RB gs n cap i)] (fun r H' => r = .tuple #[.int .u8 (b.toNat : Nat), .nilIface] ∧ H' = [(gr, RB gs n cap (i + 1))]) := by
  have hi := (List.getElem?_eq_some_iff.1 hb).1
  have hb2 : (B bs ++ rest)[0 + i * 1]? = some (.int .u8 (b.toNat : Nat)) := by
    rw [Nat.zero_add, Nat.mul_one, List.getElem?_append_left (by simp [B]; exact hi)]
    simp [B, hb]
  refine fn_enter 37 func289 rfl ntmps289 rfl ?_
  intro w0
  refine cR <| oA rfl <| oA rfl <| oN <| cR <| oM rfl <| oC rfl <| oX (e_fak 2 runUnderlying144 rfl sizeOf3 rfl rfl rfl) ?_
  refine o_l rfl (l_store sizeOf3 rfl rfl rfl .head (.tail (.tail .head)) (by omega)) ?_; intro _ _
  refine oN <| c_seq <| c_seq <| cQ <| qM rfl <| qC rfl <| qX (e_fak 1 runUnderlying144 rfl sizeOf2 rfl rfl rfl) <| qX (e_load isAgg2 rfl (.inl M0) rfl) <| qM rfl <| qC rfl <| qX (e_fak 0 runUnderlying144 rfl sizeOf72 rfl rfl rfl) <| qX (e_load isAgg72 rfl (.inl M0) rfl) <| qX (e_lenl runUnderlying72 rfl) <| qX (e_geq rfl rfl) <| qN ?_
  refine c_ifp rfl (fun h1 => ?_) (fun h1 => ?_)
  · exact absurd h1 (by omega)
  · skip
    refine c_skip <| n_code <| c_seq <| cQ <| qM rfl <| qC rfl <| qX (e_fak 0 runUnderlying144 rfl sizeOf72 rfl rfl rfl) <| qX (e_load isAgg72 rfl (.inl M0) rfl) <| qM rfl <| qC rfl <| qX (e_fak 1 runUnderlying144 rfl sizeOf2 rfl rfl rfl) <| qX (e_load isAgg2 rfl (.inl M0) rfl) <| qX (e_ian runUnderlying72 sizeOf5 rfl rfl (by omega)) ?_
    refine qX (e_load isAgg5 rfl (.inr (by assumption)) (by assumption)) ?_
    refine qA rfl <| qN <| cR <| oM rfl <| oC rfl <| oX (e_fak 1 runUnderlying144 rfl sizeOf2 rfl rfl rfl) <| oX (e_load isAgg2 rfl (.inl M0) rfl) <| oX (e_addn rfl rfl (by simp only [inR]; omega)) <| oC rfl <| oX (e_fak 1 runUnderlying144 rfl sizeOf2 rfl rfl rfl) ?_
    refine o_l rfl (l_store sizeOf2 rfl rfl rfl .head (.tail .head) (by omega)) ?_; intro _ _
    refine oN <| cR <| oM rfl <| oA rfl <| oA rfl <| oN <| c_ret ?_
    refine r_fn (l := [.tmp 2, .tmp 3]) results289 rfl rfl ?_
    exact ⟨rfl, rfl⟩
theorem byte_eof (hE : (3, Obj.cells (EV gE :: t3).toArray e3 f3) ∈ G) :
    Ctr Tryz.prog 289 [.pointer (some ⟨gr, 0, none⟩)] G [(gr, RB gs n cap n)] (fun r H' => r = .tuple #[.int .u8 0, EV gE] ∧ H' = [(gr, RB gs n cap n)]) := by
  refine fn_enter 37 func289 rfl ntmps289 rfl ?_
  intro w0
  refine cR <| oA rfl <| oA rfl <| oN <| cR <| oM rfl <| oC rfl <| oX (e_fak 2 runUnderlying144 rfl sizeOf3 rfl rfl rfl) ?_
  refine o_l rfl (l_store sizeOf3 rfl rfl rfl .head (.tail (.tail .head)) (by omega)) ?_; intro _ _
  refine oN <| c_seq <| c_seq <| cQ <| qM rfl <| qC rfl <| qX (e_fak 1 runUnderlying144 rfl sizeOf2 rfl rfl rfl) <| qX (e_load isAgg2 rfl (.inl M0) rfl) <| qM rfl <| qC rfl <| qX (e_fak 0 runUnderlying144 rfl sizeOf72 rfl rfl rfl) <| qX (e_load isAgg72 rfl (.inl M0) rfl) <| qX (e_lenl runUnderlying72 rfl) <| qX (e_geq rfl rfl) <| qN ?_
  refine c_then (by simp [ev, lk]) ?_
  refine c_seq <| cQ ?_
  refine qX (e_load isAgg80 rfl (.inr (by assumption)) rfl) ?_
  refine qA rfl <| qA rfl <| qN <| c_ret ?_
  refine r_fn (l := [.tmp 2, .tmp 3]) results289 rfl rfl ?_
  exact ⟨rfl, rfl⟩
theorem seek_is (h63 : i < 9223372036854775808) :
    Ctr Tryz.prog 290 [.pointer (some ⟨gr, 0, none⟩), .int .i64 0, .int .i64 1] G [(gr, RB gs n cap i)] (fun r H' => r = .tuple #[.int .i64 i, .nilIface] ∧ H' = [(gr, RB gs n cap i)]) := by
  refine fn_enter 42 func290 rfl ntmps290 rfl ?_
  intro w0
  refine cR <| oA rfl <| oA rfl <| oN <| cR <| oM rfl <| oC rfl <| oX (e_fak 2 runUnderlying144 rfl sizeOf3 rfl rfl rfl) ?_
  refine o_l rfl (l_store sizeOf3 rfl rfl rfl .head (.tail (.tail .head)) (by omega)) ?_; intro _ _
  refine oN <| cR <| oA rfl <| oN <| c_seq <| cR <| oM rfl <| oN <| c_block <| cR <| oX (e_eql rfl rfl) <| oA rfl <| oN <| c_else rfl <| cR <| oX (e_eql rfl rfl) <| oA rfl <| oN <| c_then rfl <| c_region <| oM rfl <| oC rfl <| oX (e_fak 1 runUnderlying144 rfl sizeOf2 rfl rfl rfl) <| oX (e_load isAgg2 rfl (.inl M0) rfl) <| oM rfl <| oX (e_addN rfl rfl (by omega)) <| oA rfl <| o_nil <| n_block <| n_code <| c_seq <| cR <| oM rfl ?_
  refine oX (e_lss rfl rfl) <| oN ?_
  refine c_ifp rfl (fun h1 => ?_) (fun h1 => ?_)
  · exact absurd h1 (by omega)
  · skip
    refine c_skip <| n_code <| cR <| oM rfl <| oM rfl <| oC rfl <| oX (e_fak 1 runUnderlying144 rfl sizeOf2 rfl rfl rfl) ?_
    refine o_l rfl (l_store sizeOf2 rfl rfl rfl .head (.tail .head) (by omega)) ?_; intro _ _
    refine oN <| cR <| oM rfl <| oA rfl <| oA rfl <| oN <| c_ret ?_
    refine r_fn (l := [.tmp 6, .tmp 7]) results290 rfl rfl ?_
    exact ⟨by simp, by simp⟩
theorem toByte_is : CtrP Tryz.prog 79 [RV gr] G (RV gr) := by
  refine fn_enter 16 func79 rfl ntmps79 rfl ?_
  intro w0
  refine cR <| oA rfl <| oN <| c_seq <| cR <| oM rfl ?_
  refine oX (e_ta (r := .tuple #[RV gr, .bool true]) rfl (by intro w; kernel_rfl)) ?_
  refine oM rfl <| oX (e_extract rfl rfl) <| oX (e_extract rfl rfl) <| oA rfl <| oA rfl <| oN <| cR <| oM rfl <| oN <| c_then rfl <| cR <| oM rfl <| oA rfl <| oN <| c_ret ?_
  refine r_fn1 results79 rfl ?_
  exact ⟨rfl, rfl⟩
theorem toSeek_is : CtrP Tryz.prog 164 [RV gr] G (RV gr) := by
  refine fn_enter 28 func164 rfl ntmps164 rfl ?_
  intro w0
  refine cR <| oA rfl <| oN <| c_seq <| cR <| oM rfl ?_
  refine oX (e_ta (r := .tuple #[RV gr, .bool true]) rfl (by intro w; kernel_rfl)) ?_
  refine oM rfl <| oX (e_extract rfl rfl) <| oX (e_extract rfl rfl) <| oA rfl <| oA rfl <| oN <| cR <| oM rfl <| oN <| c_then rfl <| cR <| oM rfl <| oA rfl <| oN <| c_ret ?_
  refine r_fn1 results164 rfl ?_
  exact ⟨rfl, rfl⟩
theorem uvar_0 (hE : (3, Obj.cells (EV gE :: t3).toArray e3 f3) ∈ G) :
    Ctr Tryz.prog 78 [RV gr] G [(gr, RB gs 0 cap 0)] (fun r H' => r = .tuple #[.int .u64 0, EV gE] ∧ H' = [(gr, RB gs 0 cap 0)]) := by
  refine fn_enter 59 func78 rfl ntmps78 rfl ?_
  intro w0
  refine cR <| oA rfl <| oA rfl <| oN <| cR <| oA rfl <| oN <| cR <| oA rfl <| oN <| cR <| oA rfl <| oN <| c_block ?_
  refine c_rounds 1 ?_
  refine c_seq <| c_block <| cR <| oM rfl ?_
  refine o_l rfl (l_calli0 call289 (by intro w; kernel_rfl) (byte_eof hE) rfl rfl rfl (.cons .head .nil)) ?_
  rintro ⟨r, H'⟩ ⟨rfl, rfl⟩
  simp only [List.cons_append, List.nil_append]
  refine oM rfl <| oX (e_extract rfl rfl) <| oX (e_extract rfl rfl) <| oA rfl <| oA rfl <| oN <| c_seq <| cR <| oM rfl <| oX (e_inen runUnderlying80 rfl) <| oN <| c_then rfl <| c_seq <| cR <| oM rfl ?_
  refine oX (e_load isAgg80 rfl (.inr (by assumption)) rfl) ?_
  refine oX (e_ieq_same runUnderlying80 (typeInfo260) rfl (runUnderlying260) (sizeOf262) (by decide) rfl rfl) <| oM rfl ?_
  refine o_split 20 rfl (fun h1 => ?_) (fun h1 => ?_)
  · refine oM rfl <| oX (e_neq rfl rfl) <| oX (e_pick_t rfl rfl) <| oN <| cL rfl <| cR <| oM rfl <| oA rfl <| oA rfl <| oN <| c_ret ?_
    refine r_fn (l := [.tmp 2, .tmp 3]) results78 rfl rfl ?_
    exact ⟨rfl, rfl⟩
  · cases h1
theorem uvar_1 {b : UInt8} (hD : (gs, DB [b] rest lo hi) ∈ G) (hE : (3, Obj.cells (EV gE :: t3).toArray e3 f3) ∈ G) (hU : (5, Obj.cells (EV gU :: t5).toArray e5 f5) ∈ G) (hb : 128 ≤ b.toNat) :
    Ctr Tryz.prog 78 [RV gr] G [(gr, RB gs 1 cap 0)] (fun r H' => r = .tuple #[.int .u64 0, EV gU] ∧ H' = [(gr, RB gs 1 cap 1)]) := by
  refine fn_enter 59 func78 rfl ntmps78 rfl ?_
  intro w0
  refine cR <| oA rfl <| oA rfl <| oN <| cR <| oA rfl <| oN <| cR <| oA rfl <| oN <| cR <| oA rfl <| oN <| c_block ?_
  refine c_rounds 2 ?_
  refine c_seq <| c_block <| cR <| oM rfl ?_
  refine o_l rfl (l_calli0 call289 (by intro w; kernel_rfl) (byte_is (i := 0) hD rfl (by simp) rfl) rfl rfl rfl (.cons .head .nil)) ?_
  rintro ⟨r, H'⟩ ⟨rfl, rfl⟩
  simp only [List.cons_append, List.nil_append]
  refine oM rfl <| oX (e_extract rfl rfl) <| oX (e_extract rfl rfl) <| oA rfl <| oA rfl <| oN <| c_seq <| cR <| oM rfl <| oX (e_nnen runUnderlying80 rfl) <| oN <| cL rfl <| c_seq <| cR <| oM rfl <| oX (e_eql rfl rfl) <| oM rfl ?_
  refine o_splitp 28 rfl (fun h1 => ?_) (fun h1 => ?_)
  · exact absurd h1 (by decide)
  · skip
    refine oS <| oS <| oX (e_pick_f rfl rfl) <| oM rfl <| oM rfl <| oX (e_geq rfl rfl) <| oX (e_pick_f rfl rfl) <| oN <| cL rfl <| c_seq <| cR <| oM rfl <| oX (e_lss rfl rfl) <| oN ?_
    refine c_ifp rfl (fun h2 => ?_) (fun h2 => ?_)
    · exact absurd h2 (by omega)
    · skip
      refine c_skip <| n_code <| c_region <| oM rfl <| oM rfl <| oX (e_and rfl rfl) <| oX (e_conv runUnderlying5 runUnderlying23 rfl) <| oM rfl <| oX (e_shl rfl rfl (by omega)) <| oX (e_or rfl rfl) <| oA rfl <| o_nil <| n_block <| n_code <| c_region <| oM rfl <| oX (e_addn rfl rfl (by simp only [inR]; omega)) <| oA rfl <| o_nil ?_
      refine n_rounds ?_
      refine c_seq <| c_block <| cR <| oM rfl ?_
      refine o_l rfl (l_calli0 call289 (by intro w; kernel_rfl) (byte_eof hE) rfl rfl rfl (.cons .head .nil)) ?_
      rintro ⟨r, H'⟩ ⟨rfl, rfl⟩
      simp only [List.cons_append, List.nil_append]
      refine oM rfl <| oX (e_extract rfl rfl) <| oX (e_extract rfl rfl) <| oA rfl <| oA rfl <| oN <| c_seq <| cR <| oM rfl <| oX (e_inen runUnderlying80 rfl) <| oN <| c_then rfl <| c_seq <| cR <| oM rfl ?_
      refine oX (e_load isAgg80 rfl (.inr (by assumption)) rfl) ?_
      refine oX (e_ieq_same runUnderlying80 (typeInfo260) rfl (runUnderlying260) (sizeOf262) (by decide) rfl rfl) <| oM rfl ?_
      refine o_split 20 rfl (fun h3 => ?_) (fun h3 => ?_)
      · refine oM rfl <| oX (e_neq rfl rfl) <| oX (e_pick_t rfl rfl) <| oN <| c_then rfl <| c_region ?_
        refine oX (e_load isAgg80 rfl (.inr (by assumption)) rfl) ?_
        refine oA rfl <| oN <| cR <| oM rfl <| oA rfl <| oA rfl <| oN <| c_ret ?_
        refine r_fn (l := [.tmp 2, .tmp 3]) results78 rfl rfl ?_
        exact ⟨rfl, rfl⟩
      · cases h3
theorem uvar_1024 {tl : List UInt8} (hD : (gs, DB (128 :: 8 :: tl) rest lo hi) ∈ G) (hn : (128 :: 8 :: tl : List UInt8).length = n) (h63 : n < 9223372036854775808) :
    Ctr Tryz.prog 78 [RV gr] G [(gr, RB gs n cap 0)] (fun r H' => r = .tuple #[.int .u64 1024, .nilIface] ∧ H' = [(gr, RB gs n cap 2)]) := by
  refine fn_enter 59 func78 rfl ntmps78 rfl ?_
  intro w0
  refine cR <| oA rfl <| oA rfl <| oN <| cR <| oA rfl <| oN <| cR <| oA rfl <| oN <| cR <| oA rfl <| oN <| c_block ?_
  refine c_rounds 2 ?_
  refine c_seq <| c_block <| cR <| oM rfl ?_
  refine o_l rfl (l_calli0 call289 (by intro w; kernel_rfl) (byte_is (i := 0) hD hn h63 rfl) rfl rfl rfl (.cons .head .nil)) ?_
  rintro ⟨r, H'⟩ ⟨rfl, rfl⟩
  simp only [List.cons_append, List.nil_append]
  refine oM rfl <| oX (e_extract rfl rfl) <| oX (e_extract rfl rfl) <| oA rfl <| oA rfl <| oN <| c_seq <| cR <| oM rfl <| oX (e_nnen runUnderlying80 rfl) <| oN <| cL rfl <| c_seq <| cR <| oM rfl <| oX (e_eql rfl rfl) <| oM rfl ?_
  refine o_splitp 28 rfl (fun h1 => ?_) (fun h1 => ?_)
  · exact absurd h1 (by decide)
  · skip
    refine oS <| oS <| oX (e_pick_f rfl rfl) <| oM rfl <| oM rfl <| oX (e_geq rfl rfl) <| oX (e_pick_f rfl rfl) <| oN <| cL rfl <| c_seq <| cR <| oM rfl <| oX (e_lss rfl rfl) <| oN <| cL rfl <| c_region <| oM rfl <| oM rfl <| oX (e_and rfl rfl) <| oX (e_conv runUnderlying5 runUnderlying23 rfl) <| oM rfl <| oX (e_shl rfl rfl (by omega)) <| oX (e_or rfl rfl) <| oA rfl <| o_nil <| n_block <| n_code <| c_region <| oM rfl <| oX (e_addn rfl rfl (by simp only [inR]; omega)) <| oA rfl <| o_nil ?_
    refine n_rounds ?_
    refine c_seq <| c_block <| cR <| oM rfl ?_
    refine o_l rfl (l_calli0 call289 (by intro w; kernel_rfl) (byte_is (i := 1) hD hn h63 rfl) rfl rfl rfl (.cons .head .nil)) ?_
    rintro ⟨r, H'⟩ ⟨rfl, rfl⟩
    simp only [List.cons_append, List.nil_append]
    refine oM rfl <| oX (e_extract rfl rfl) <| oX (e_extract rfl rfl) <| oA rfl <| oA rfl <| oN <| c_seq <| cR <| oM rfl <| oX (e_nnen runUnderlying80 rfl) <| oN <| cL rfl <| c_seq <| cR <| oM rfl <| oX (e_eql rfl rfl) <| oM rfl ?_
    refine o_splitp 28 rfl (fun h2 => ?_) (fun h2 => ?_)
    · exact absurd h2 (by decide)
    · skip
      refine oS <| oS <| oX (e_pick_f rfl rfl) <| oM rfl <| oM rfl <| oX (e_geq rfl rfl) <| oX (e_pick_f rfl rfl) <| oN <| cL rfl <| c_seq <| cR <| oM rfl <| oX (e_lss rfl rfl) <| oN <| c_then rfl <| c_seq <| cR <| oM rfl <| oX (e_eql rfl rfl) <| oM rfl ?_
      refine o_splitp 41 rfl (fun h3 => ?_) (fun h3 => ?_)
      · exact absurd h3 (by decide)
      · skip
        refine oS <| oS <| oX (e_pick_f rfl rfl) <| oN <| cL rfl <| cR <| oM rfl <| oM rfl <| oX (e_conv runUnderlying5 runUnderlying23 rfl) <| oM rfl <| oX (e_shl rfl rfl (by omega)) <| oX (e_or rfl rfl) <| oA rfl <| oA rfl <| oN <| c_ret ?_
        refine r_fn (l := [.tmp 2, .tmp 3]) results78 rfl rfl ?_
        exact ⟨rfl, rfl⟩
theorem uvar_1025 {tl : List UInt8} (hD : (gs, DB (129 :: 8 :: tl) rest lo hi) ∈ G) (hn : (129 :: 8 :: tl : List UInt8).length = n) (h63 : n < 9223372036854775808) :
    Ctr Tryz.prog 78 [RV gr] G [(gr, RB gs n cap 0)] (fun r H' => r = .tuple #[.int .u64 1025, .nilIface] ∧ H' = [(gr, RB gs n cap 2)]) := by
  refine fn_enter 59 func78 rfl ntmps78 rfl ?_
  intro w0
  refine cR <| oA rfl <| oA rfl <| oN <| cR <| oA rfl <| oN <| cR <| oA rfl <| oN <| cR <| oA rfl <| oN <| c_block ?_
  refine c_rounds 2 ?_
  refine c_seq <| c_block <| cR <| oM rfl ?_
  refine o_l rfl (l_calli0 call289 (by intro w; kernel_rfl) (byte_is (i := 0) hD hn h63 rfl) rfl rfl rfl (.cons .head .nil)) ?_
  rintro ⟨r, H'⟩ ⟨rfl, rfl⟩
  simp only [List.cons_append, List.nil_append]
  refine oM rfl <| oX (e_extract rfl rfl) <| oX (e_extract rfl rfl) <| oA rfl <| oA rfl <| oN <| c_seq <| cR <| oM rfl <| oX (e_nnen runUnderlying80 rfl) <| oN <| cL rfl <| c_seq <| cR <| oM rfl <| oX (e_eql rfl rfl) <| oM rfl ?_
  refine o_splitp 28 rfl (fun h1 => ?_) (fun h1 => ?_)
  · exact absurd h1 (by decide)
  · skip
    refine oS <| oS <| oX (e_pick_f rfl rfl) <| oM rfl <| oM rfl <| oX (e_geq rfl rfl) <| oX (e_pick_f rfl rfl) <| oN <| cL rfl <| c_seq <| cR <| oM rfl <| oX (e_lss rfl rfl) <| oN <| cL rfl <| c_region <| oM rfl <| oM rfl <| oX (e_and rfl rfl) <| oX (e_conv runUnderlying5 runUnderlying23 rfl) <| oM rfl <| oX (e_shl rfl rfl (by omega)) <| oX (e_or rfl rfl) <| oA rfl <| o_nil <| n_block <| n_code <| c_region <| oM rfl <| oX (e_addn rfl rfl (by simp only [inR]; omega)) <| oA rfl <| o_nil ?_
    refine n_rounds ?_
    refine c_seq <| c_block <| cR <| oM rfl ?_
    refine o_l rfl (l_calli0 call289 (by intro w; kernel_rfl) (byte_is (i := 1) hD hn h63 rfl) rfl rfl rfl (.cons .head .nil)) ?_
    rintro ⟨r, H'⟩ ⟨rfl, rfl⟩
    simp only [List.cons_append, List.nil_append]
    refine oM rfl <| oX (e_extract rfl rfl) <| oX (e_extract rfl rfl) <| oA rfl <| oA rfl <| oN <| c_seq <| cR <| oM rfl <| oX (e_nnen runUnderlying80 rfl) <| oN <| cL rfl <| c_seq <| cR <| oM rfl <| oX (e_eql rfl rfl) <| oM rfl ?_
    refine o_splitp 28 rfl (fun h2 => ?_) (fun h2 => ?_)
    · exact absurd h2 (by decide)
    · skip
      refine oS <| oS <| oX (e_pick_f rfl rfl) <| oM rfl <| oM rfl <| oX (e_geq rfl rfl) <| oX (e_pick_f rfl rfl) <| oN <| cL rfl <| c_seq <| cR <| oM rfl <| oX (e_lss rfl rfl) <| oN <| c_then rfl <| c_seq <| cR <| oM rfl <| oX (e_eql rfl rfl) <| oM rfl ?_
      refine o_splitp 41 rfl (fun h3 => ?_) (fun h3 => ?_)
      · exact absurd h3 (by decide)
      · skip
        refine oS <| oS <| oX (e_pick_f rfl rfl) <| oN <| cL rfl <| cR <| oM rfl <| oM rfl <| oX (e_conv runUnderlying5 runUnderlying23 rfl) <| oM rfl <| oX (e_shl rfl rfl (by omega)) <| oX (e_or rfl rfl) <| oA rfl <| oA rfl <| oN <| c_ret ?_
        refine r_fn (l := [.tmp 2, .tmp 3]) results78 rfl rfl ?_
        exact ⟨rfl, rfl⟩
end
end Go.Proofs
namespace Go.Proofs
open Go Go.Sl Tryz
set_option maxRecDepth 100000
set_option maxHeartbeats 1000000
/-- io.EOF and io.ErrUnexpectedEOF, as memory holds them. -/
structure Ge (G : HP) (gE gU : Addr) : Prop where
  eof : ∃ t e f, (3, Obj.cells (EV gE :: t).toArray e f) ∈ G
  uex : ∃ t e f, (5, Obj.cells (EV gU :: t).toArray e f) ∈ G
  bE : ∃ c e, (gE.block, C c e) ∈ G
  bU : ∃ c e, (gU.block, C c e) ∈ G
  ne : gU ≠ gE
theorem Ge.mono {G G' : HP} {gE gU : Addr} (h : Ge G gE gU) (hs : ∀ p ∈ G, p ∈ G') : Ge G' gE gU := by
  obtain ⟨⟨t3, e3, f3, h1⟩, ⟨t5, e5, f5, h2⟩, ⟨c1, e1, h3⟩, ⟨c2, e2, h4⟩, h5⟩ := h
  exact ⟨⟨_, _, _, hs _ h1⟩, ⟨_, _, _, hs _ h2⟩, ⟨_, _, hs _ h3⟩, ⟨_, _, hs _ h4⟩, h5⟩
theorem e_isEOF {x : Cx} {s : Slots} {H : HP} {d : Nat} {p q : Operand} {ty t' : TypeId} {pos : String} {af : Array Edge} {gd' : Option (Nat × Bool)} {g gE gU : Addr} (hx : x.P = Tryz.prog) (h : Ge x.G gE gU) (hg : g = gE ∨ g = gU) (hp : ev s p = some (EV g)) (hq : ev s q = some (EV gE)) :
    Ex x s H ⟨some d, .binOp .eql 80 p q t', ty, pos, af, gd'⟩ (.bool (decide (g = gE))) := by
  obtain ⟨_, _, ⟨c1, e1, h3⟩, ⟨c2, e2, h4⟩, h5⟩ := h
  have u1 : ∀ w, (underlying 80).run x.P w = _ := hx ▸ runUnderlying80
  have u2 : ∀ w, (typeInfo 260).run x.P w = _ := hx ▸ typeInfo260
  have u3 : ∀ w, (underlying 260).run x.P w = _ := hx ▸ runUnderlying260
  have u4 : ∀ w, (sizeOf 262).run x.P w = _ := hx ▸ sizeOf262
  rcases hg with rfl | rfl
  · simp only [decide_true]
    exact e_ieq_same u1 u2 rfl u3 u4 (by decide) hp hq
  · rw [show decide (g = gE) = false by simpa using h5]
    exact e_ieq_two u1 u2 rfl u3 u4 (by decide) hp hq h4 h3 h5
section
variable {G : HP} {gr gs gb n cap i k L lo hi : Nat} {bs : List UInt8} {rest pl : List Value} {gE gU : Addr} {t3 t5 : List Value}
theorem swi_err {v : Value} (hD : (gs, DB bs rest lo hi) ∈ G) (hge : Ge G gE gU) (hn : bs.length = n) (hc : n ≤ cap) (h63 : cap < 9223372036854775808) (hi' : i ≤ n) (hL : n < i + 12) :
    Ctr Tryz.prog 341 [v, RV gr] G [(gr, RB gs n cap i)] (fun r H' => r = EV gU ∧ H' = [(gr, RB gs n cap n)]) := by
  obtain ⟨⟨t3, e3, f3, hE⟩, ⟨t5, e5, f5, hU⟩, _, _, _⟩ := id hge
  by_cases h4 : n < i + 4
  · refine fn_enter 53 func341 rfl ntmps341 rfl ?_
    intro w0
    refine cR <| oA rfl <| oN <| cR ?_
    refine o_l rfl (l_alloc zeroValue212 rfl rfl) ?_; intro g5 _
    refine oN <| c_seq <| cR <| oM rfl ?_
    refine o_l rfl (l_call call321 (read32_short (gp := 0) (off := 0) (v := .pointer (some ⟨g5, 0, none⟩)) hD hE hU hn hc h63 hi' h4) rfl rfl (.cons (.tail .head) .nil)) ?_
    rintro ⟨r, H'⟩ ⟨g, hg, rfl, rfl⟩
    simp only [List.cons_append, List.nil_append]
    refine oA rfl <| oN <| cR <| oM rfl <| oX (e_inen runUnderlying80 rfl) <| oN <| c_then rfl <| c_seq <| cR <| oM rfl ?_
    refine oX (e_load isAgg80 rfl (.inr (by assumption)) rfl) ?_
    refine oX (e_isEOF rfl hge hg rfl rfl) <| oN ?_
    refine c_ifp rfl (fun h1 => ?_) (fun h1 => ?_)
    · refine cR ?_
      refine oX (e_load isAgg80 rfl (.inr (by assumption)) rfl) ?_
      refine oA rfl <| oN <| c_ret ?_
      refine WR.sel (.cons .head .nil) ?_
      refine r_fn1 results341 rfl ?_
      exact ⟨rfl, rfl⟩
    · skip
      obtain rfl : g = gU := hg.resolve_left h1
      refine c_skip <| n_code <| cR <| oM rfl <| oA rfl <| oN <| c_ret ?_
      refine WR.sel (.cons .head .nil) ?_
      refine r_fn1 results341 rfl ?_
      exact ⟨rfl, rfl⟩
  · refine fn_enter 53 func341 rfl ntmps341 rfl ?_
    intro w0
    refine cR <| oA rfl <| oN <| cR ?_
    refine o_l rfl (l_alloc zeroValue212 rfl rfl) ?_; intro g5 _
    refine oN <| c_seq <| cR <| oM rfl ?_
    refine o_l rfl (l_call call321 (read32_is hD hn hc h63 (show i + 4 ≤ n by omega) .head) rfl rfl (.cons (.tail .head) (.cons .head .nil))) ?_
    rintro ⟨r, H'⟩ ⟨rfl, rfl⟩
    simp only [List.cons_append, List.nil_append]
    refine oA rfl <| oN <| cR <| oM rfl <| oX (e_nnen runUnderlying80 rfl) <| oN <| cL rfl <| cR ?_
    refine o_l rfl (l_alloc zeroValue23 rfl rfl) ?_; intro g7 _
    refine oN <| c_seq <| cR <| oM rfl ?_
    refine o_l rfl (l_call call331 (read64_short (gp := 0) (off := 0) (v := .pointer (some ⟨g7, 0, none⟩)) hD hE hU hn hc h63 (show i + 4 ≤ n by omega) (by omega)) rfl rfl (.cons (.tail .head) .nil)) ?_
    rintro ⟨r, H'⟩ ⟨g, hg, rfl, rfl⟩
    simp only [List.cons_append, List.nil_append]
    refine oA rfl <| oN <| cR <| oM rfl <| oX (e_inen runUnderlying80 rfl) <| oN <| c_then rfl <| c_seq <| cR <| oM rfl ?_
    refine oX (e_load isAgg80 rfl (.inr (by assumption)) rfl) ?_
    refine oX (e_isEOF rfl hge hg rfl rfl) <| oN ?_
    refine c_ifp rfl (fun h1 => ?_) (fun h1 => ?_)
    · refine cR ?_
      refine oX (e_load isAgg80 rfl (.inr (by assumption)) rfl) ?_
      refine oA rfl <| oN <| c_ret ?_
      refine WR.sel (.cons .head .nil) ?_
      refine r_fn1 results341 rfl ?_
      exact ⟨rfl, rfl⟩
    · skip
      obtain rfl : g = gU := hg.resolve_left h1
      refine c_skip <| n_code <| cR <| oM rfl <| oA rfl <| oN <| c_ret ?_
      refine WR.sel (.cons .head .nil) ?_
      refine r_fn1 results341 rfl ?_
      exact ⟨rfl, rfl⟩
theorem mwi_err {v : Value} (hD : (gs, DB bs rest lo hi) ∈ G) (hge : Ge G gE gU) (hn : bs.length = n) (hc : n ≤ cap) (h63 : cap < 9223372036854775808) (hi' : i ≤ n) (hL : n < i + 16) (hk : i + 4 ≤ n → 1 ≤ le ((bs.drop i).take 4) ∧ le ((bs.drop i).take 4) < 2147483648) :
    Ctr Tryz.prog 332 [v, RV gr] G [(gr, RB gs n cap i)] (fun r H' => r = EV gU ∧ H' = [(gr, RB gs n cap n)]) := by
  obtain ⟨⟨t3, e3, f3, hE⟩, ⟨t5, e5, f5, hU⟩, _, _, _⟩ := id hge
  by_cases h4 : n < i + 4
  · refine fn_enter 75 func332 rfl ntmps332 rfl ?_
    intro w0
    refine cR <| oA rfl <| oN <| cR <| oM rfl <| o_pure rfl call164 (toSeek_is) rfl rfl <| oA rfl <| oN <| cR ?_
    refine o_l rfl (l_alloc zeroValue212 rfl rfl) ?_; intro g6 _
    refine oN <| c_seq <| cR <| oM rfl ?_
    refine o_l rfl (l_call call321 (read32_short (gp := 0) (off := 0) (v := .pointer (some ⟨g6, 0, none⟩)) hD hE hU hn hc h63 hi' h4) rfl rfl (.cons (.tail .head) .nil)) ?_
    rintro ⟨r, H'⟩ ⟨g, hg, rfl, rfl⟩
    simp only [List.cons_append, List.nil_append]
    refine oA rfl <| oN <| cR <| oM rfl <| oX (e_inen runUnderlying80 rfl) <| oN <| c_then rfl <| c_seq <| cR <| oM rfl ?_
    refine oX (e_load isAgg80 rfl (.inr (by assumption)) rfl) ?_
    refine oX (e_isEOF rfl hge hg rfl rfl) <| oN ?_
    refine c_ifp rfl (fun h1 => ?_) (fun h1 => ?_)
    · refine cR ?_
      refine oX (e_load isAgg80 rfl (.inr (by assumption)) rfl) ?_
      refine oA rfl <| oN <| c_ret ?_
      refine WR.sel (.cons .head .nil) ?_
      refine r_fn1 results332 rfl ?_
      exact ⟨rfl, rfl⟩
    · skip
      obtain rfl : g = gU := hg.resolve_left h1
      refine c_skip <| n_code <| cR <| oM rfl <| oA rfl <| oN <| c_ret ?_
      refine WR.sel (.cons .head .nil) ?_
      refine r_fn1 results332 rfl ?_
      exact ⟨rfl, rfl⟩
  · obtain ⟨hk1, hk2⟩ := hk (by omega)
    refine fn_enter 75 func332 rfl ntmps332 rfl ?_
    intro w0
    refine cR <| oA rfl <| oN <| cR <| oM rfl <| o_pure rfl call164 (toSeek_is) rfl rfl <| oA rfl <| oN <| cR ?_
    refine o_l rfl (l_alloc zeroValue212 rfl rfl) ?_; intro g6 _
    refine oN <| c_seq <| cR <| oM rfl ?_
    refine o_l rfl (l_call call321 (read32_is hD hn hc h63 (show i + 4 ≤ n by omega) .head) rfl rfl (.cons (.tail .head) (.cons .head .nil))) ?_
    rintro ⟨r, H'⟩ ⟨rfl, rfl⟩
    simp only [List.cons_append, List.nil_append]
    refine oA rfl <| oN <| cR <| oM rfl <| oX (e_nnen runUnderlying80 rfl) <| oN <| cL rfl <| cR ?_
    refine oX (e_load isAgg212 rfl (by first | exact .inr (by assumption) | exact .inl (by repeat (first | exact List.Mem.head _ | refine List.Mem.tail _ ?_))) rfl) ?_
    refine oX (e_convn runUnderlying212 runUnderlying21 rfl (by simp only [inR]; omega)) <| oA rfl <| oN <| cR <| oM rfl ?_
    refine o_l rfl (l_calli0 call290 (by intro w; kernel_rfl) (seek_is (i := i + 4) (by omega)) rfl rfl rfl (.cons .head .nil)) ?_
    rintro ⟨r, H'⟩ ⟨rfl, rfl⟩
    simp only [List.cons_append, List.nil_append]
    refine oM rfl <| oX (e_extract rfl rfl) <| oX (e_extract rfl rfl) <| oA rfl <| oA rfl <| oN <| c_seq <| cR <| oM rfl <| oX (e_nnen runUnderlying80 rfl) <| oN <| cL rfl <| c_seq <| cR <| oM rfl <| oX (e_lss rfl rfl) <| oN ?_
    refine c_ifp rfl (fun h2 => ?_) (fun h2 => ?_)
    · exact absurd h2 (by omega)
    · skip
      refine c_skip <| n_code <| c_seq <| cR <| oA rfl <| oN <| c_block ?_
      refine c_rounds 1 ?_
      refine c_seq <| cR <| oM rfl <| oM rfl <| oX (e_convn runUnderlying21 runUnderlying3 rfl (by simp only [inR]; omega)) <| oX (e_lss rfl rfl) <| oN ?_
      refine c_ifp rfl (fun h3 => ?_) (fun h3 => ?_)
      · refine c_skip <| n_code <| c_seq <| c_block <| cR <| oX (e_build (vs := [.int .u32 0, .int .u64 0, .slice none 0 0]) runUnderlying448 zeroValue448 (.cons sizeOf212 (.cons sizeOf23 (.cons sizeOf72 .nil))) rfl (by kernel_rfl)) ?_
        refine o_l rfl (l_alloc zeroValue448 rfl rfl) ?_; intro g12 _
        refine o_l rfl (l_storea sizeOf448 rfl rfl rfl (by simp [Value.oneCell']) .head (.take (.take (.take .done))) nofrs0) ?_
        intro _ _
        refine oN <| c_seq <| cR <| oM rfl ?_
        refine o_l rfl (l_call call341 (swi_err (i := i + 4) hD hge hn hc h63 (by omega) (by omega)) rfl rfl (.cons (.tail .head) .nil)) ?_
        rintro ⟨r, H'⟩ ⟨rfl, rfl⟩
        simp only [List.cons_append, List.nil_append]
        refine oA rfl <| oN <| cR <| oM rfl <| oX (e_inen runUnderlying80 rfl) <| oN <| c_then rfl <| cR <| oM rfl <| oA rfl <| oN <| c_ret ?_
        refine WR.sel (.cons .head .nil) ?_
        refine r_fn1 results332 rfl ?_
        exact ⟨rfl, rfl⟩
      · exact absurd h3 (by omega)
theorem mwc_err {gc : Nat} {z : Value} (hD : (gs, DB bs rest lo hi) ∈ G) (hge : Ge G gE gU) (hn : bs.length = n) (hc : n ≤ cap) (h63 : cap < 9223372036854775808) (hi' : i ≤ n) (hL : n < i + 24) (hk : i + 12 ≤ n → 1 ≤ le ((bs.drop (i + 8)).take 4) ∧ le ((bs.drop (i + 8)).take 4) < 2147483648) :
    Ctr Tryz.prog 322 [.pointer (some ⟨gc, 0, none⟩), RV gr] G [(gr, RB gs n cap i), (gc, C [z, .int .u64 0] 437)] (fun r H' => r = EV gU ∧ ∃ u, H' = [(gr, RB gs n cap n), (gc, C [z, u] 437)]) := by
  obtain ⟨⟨t3, e3, f3, hE⟩, ⟨t5, e5, f5, hU⟩, _, _, _⟩ := id hge
  by_cases h4 : n < i + 8
  · refine fn_enter 23 func322 rfl ntmps322 rfl ?_
    intro w0
    refine cR <| oA rfl <| oN <| c_seq <| cR <| oM rfl <| oM rfl <| oC rfl <| oX (e_fak 1 runUnderlying437 rfl sizeOf23 rfl rfl rfl) ?_
    refine o_l rfl (l_call call331 (read64_short (gp := 0) (off := 0) (v := .pointer (some ⟨gc, 0 + 1, none⟩)) hD hE hU hn hc h63 hi' h4) rfl rfl (.cons .head .nil)) ?_
    rintro ⟨r, H'⟩ ⟨g, hg, rfl, rfl⟩
    simp only [List.cons_append, List.nil_append]
    refine oA rfl <| oN <| cR <| oM rfl <| oX (e_inen runUnderlying80 rfl) <| oN <| c_then rfl <| c_seq <| cR <| oM rfl ?_
    refine oX (e_load isAgg80 rfl (.inr (by assumption)) rfl) ?_
    refine oX (e_isEOF rfl hge hg rfl rfl) <| oN ?_
    refine c_ifp rfl (fun h1 => ?_) (fun h1 => ?_)
    · refine cR ?_
      refine oX (e_load isAgg80 rfl (.inr (by assumption)) rfl) ?_
      refine oA rfl <| oN <| c_ret ?_
      refine r_fn1 results322 rfl ?_
      exact ⟨rfl, _, rfl⟩
    · skip
      obtain rfl : g = gU := hg.resolve_left h1
      refine c_skip <| n_code <| cR <| oM rfl <| oA rfl <| oN <| c_ret ?_
      refine r_fn1 results322 rfl ?_
      exact ⟨rfl, _, rfl⟩
  · refine fn_enter 23 func322 rfl ntmps322 rfl ?_
    intro w0
    refine cR <| oA rfl <| oN <| c_seq <| cR <| oM rfl <| oM rfl <| oC rfl <| oX (e_fak 1 runUnderlying437 rfl sizeOf23 rfl rfl rfl) ?_
    refine o_l rfl (l_call call331 (read64_is (off := 0 + 1) hD hn hc h63 (show i + 8 ≤ n by omega) (.tail .head)) rfl rfl (.cons .head (.cons .head .nil))) ?_
    rintro ⟨r, H'⟩ ⟨rfl, rfl⟩
    simp only [List.cons_append, List.nil_append]
    refine oA rfl <| oN <| cR <| oM rfl <| oX (e_nnen runUnderlying80 rfl) <| oN <| cL rfl <| cR <| oM rfl <| oC rfl <| oX (e_fak 0 runUnderlying437 rfl sizeOf327 rfl rfl rfl) <| oM rfl ?_
    refine o_l rfl (l_call call332 (mwi_err (i := i + 8) hD hge hn hc h63 (by omega) (by omega) (fun h => hk (by omega))) rfl rfl (.cons .head .nil)) ?_
    rintro ⟨r, H'⟩ ⟨rfl, rfl⟩
    simp only [List.cons_append, List.nil_append]
    refine oA rfl <| oN <| c_ret ?_
    refine r_fn1 results322 rfl ?_
    exact ⟨rfl, _, rfl⟩
theorem newMWC_is : Ctr Tryz.prog 315 [] G [] (fun r H' => ∃ g gx, r = .pointer (some ⟨g, 0, none⟩) ∧ H' = [(g, C [.map (some gx), .int .u64 0] 437), (gx, Mo .u32 [])]) := by
  refine fn_enter 4 func315 rfl ntmps315 rfl ?_
  intro w0
  refine cR <| oA rfl <| oN <| cR ?_
  refine o_l rfl (l_mkmap rfl .u32) ?_
  intro gx _
  refine oX (e_build (vs := [.map (some gx), .int .u64 0]) runUnderlying437 zeroValue437 (.cons sizeOf327 (.cons sizeOf23 .nil)) rfl (by kernel_rfl)) ?_
  refine o_l rfl (l_box rfl rfl rfl) ?_; intro g3 _
  refine oA rfl <| oN <| c_ret ?_
  refine r_fn1 results315 rfl ?_
  exact ⟨_, _, rfl, rfl⟩
theorem mhi_err {v : Value} (hD : (gs, DB bs rest lo hi) ∈ G) (hge : Ge G gE gU) (hn : bs.length = n) (hc : n ≤ cap) (h63 : cap < 9223372036854775808) (hi' : i ≤ n) (hL : n < i + 28) (hk : i + 4 ≤ n → 1 ≤ le ((bs.drop i).take 4) ∧ le ((bs.drop i).take 4) < 2147483648) (hk' : i + 16 ≤ n → 1 ≤ le ((bs.drop (i + 12)).take 4) ∧ le ((bs.drop (i + 12)).take 4) < 2147483648) :
    Ctr Tryz.prog 312 [v, RV gr] G [(gr, RB gs n cap i)] (fun r H' => r = EV gU ∧ H' = [(gr, RB gs n cap n)]) := by
  obtain ⟨⟨t3, e3, f3, hE⟩, ⟨t5, e5, f5, hU⟩, _, _, _⟩ := id hge
  by_cases h4 : n < i + 4
  · refine fn_enter 73 func312 rfl ntmps312 rfl ?_
    intro w0
    refine cR <| oA rfl <| oN <| cR <| oM rfl <| o_pure rfl call164 (toSeek_is) rfl rfl <| oA rfl <| oN <| cR ?_
    refine o_l rfl (l_alloc zeroValue212 rfl rfl) ?_; intro g6 _
    refine oN <| c_seq <| cR <| oM rfl ?_
    refine o_l rfl (l_call call321 (read32_short (gp := 0) (off := 0) (v := .pointer (some ⟨g6, 0, none⟩)) hD hE hU hn hc h63 hi' h4) rfl rfl (.cons (.tail .head) .nil)) ?_
    rintro ⟨r, H'⟩ ⟨g, hg, rfl, rfl⟩
    simp only [List.cons_append, List.nil_append]
    refine oA rfl <| oN <| cR <| oM rfl <| oX (e_inen runUnderlying80 rfl) <| oN <| c_then rfl <| c_seq <| cR <| oM rfl ?_
    refine oX (e_load isAgg80 rfl (.inr (by assumption)) rfl) ?_
    refine oX (e_isEOF rfl hge hg rfl rfl) <| oN ?_
    refine c_ifp rfl (fun h1 => ?_) (fun h1 => ?_)
    · refine cR ?_
      refine oX (e_load isAgg80 rfl (.inr (by assumption)) rfl) ?_
      refine oA rfl <| oN <| c_ret ?_
      refine WR.sel (.cons .head .nil) ?_
      refine r_fn1 results312 rfl ?_
      exact ⟨rfl, rfl⟩
    · skip
      obtain rfl : g = gU := hg.resolve_left h1
      refine c_skip <| n_code <| cR <| oM rfl <| oA rfl <| oN <| c_ret ?_
      refine WR.sel (.cons .head .nil) ?_
      refine r_fn1 results312 rfl ?_
      exact ⟨rfl, rfl⟩
  · obtain ⟨hk1, hk2⟩ := hk (by omega)
    refine fn_enter 73 func312 rfl ntmps312 rfl ?_
    intro w0
    refine cR <| oA rfl <| oN <| cR <| oM rfl <| o_pure rfl call164 (toSeek_is) rfl rfl <| oA rfl <| oN <| cR ?_
    refine o_l rfl (l_alloc zeroValue212 rfl rfl) ?_; intro g6 _
    refine oN <| c_seq <| cR <| oM rfl ?_
    refine o_l rfl (l_call call321 (read32_is hD hn hc h63 (show i + 4 ≤ n by omega) .head) rfl rfl (.cons (.tail .head) (.cons .head .nil))) ?_
    rintro ⟨r, H'⟩ ⟨rfl, rfl⟩
    simp only [List.cons_append, List.nil_append]
    refine oA rfl <| oN <| cR <| oM rfl <| oX (e_nnen runUnderlying80 rfl) <| oN <| cL rfl <| cR ?_
    refine oX (e_load isAgg212 rfl (by first | exact .inr (by assumption) | exact .inl (by repeat (first | exact List.Mem.head _ | refine List.Mem.tail _ ?_))) rfl) ?_
    refine oX (e_convn runUnderlying212 runUnderlying21 rfl (by simp only [inR]; omega)) <| oA rfl <| oN <| cR <| oM rfl ?_
    refine o_l rfl (l_calli0 call290 (by intro w; kernel_rfl) (seek_is (i := i + 4) (by omega)) rfl rfl rfl (.cons .head .nil)) ?_
    rintro ⟨r, H'⟩ ⟨rfl, rfl⟩
    simp only [List.cons_append, List.nil_append]
    refine oM rfl <| oX (e_extract rfl rfl) <| oX (e_extract rfl rfl) <| oA rfl <| oA rfl <| oN <| c_seq <| cR <| oM rfl <| oX (e_nnen runUnderlying80 rfl) <| oN <| cL rfl <| c_seq <| cR <| oM rfl <| oX (e_lss rfl rfl) <| oN ?_
    refine c_ifp rfl (fun h2 => ?_) (fun h2 => ?_)
    · exact absurd h2 (by omega)
    · skip
      refine c_skip <| n_code <| c_seq <| cR <| oA rfl <| oN <| c_block ?_
      refine c_rounds 1 ?_
      refine c_seq <| cR <| oM rfl <| oM rfl <| oX (e_convn runUnderlying21 runUnderlying3 rfl (by simp only [inR]; omega)) <| oX (e_lss rfl rfl) <| oN ?_
      refine c_ifp rfl (fun h3 => ?_) (fun h3 => ?_)
      · refine c_skip <| n_code <| c_seq <| c_block <| cR ?_
        refine o_l rfl (l_call call315 newMWC_is rfl rfl .nil) ?_
        rintro ⟨r, H'⟩ ⟨gc, gx, rfl, rfl⟩
        simp only [List.cons_append, List.nil_append]
        refine oA rfl <| oN <| c_seq <| cR <| oM rfl <| oM rfl ?_
        refine o_l rfl (l_call call322 (mwc_err (i := i + 4) hD hge hn hc h63 (by omega) (by omega) (fun h => hk' (by omega))) rfl rfl (.cons (.tail (.tail .head)) (.cons .head .nil))) ?_
        rintro ⟨r, H'⟩ ⟨rfl, u, rfl⟩
        simp only [List.cons_append, List.nil_append]
        refine oA rfl <| oN <| cR <| oM rfl <| oX (e_inen runUnderlying80 rfl) <| oN <| c_then rfl <| cR <| oM rfl <| oA rfl <| oN <| c_ret ?_
        refine WR.sel (.cons .head .nil) ?_
        refine r_fn1 results312 rfl ?_
        exact ⟨rfl, rfl⟩
      · exact absurd h3 (by omega)
end
end Go.Proofs
namespace Go.Proofs
open Go Go.Sl Tryz
set_option maxRecDepth 100000
set_option maxHeartbeats 1000000
section
variable {G : HP} {gr gs gb n cap i k L lo hi : Nat} {bs : List UInt8} {rest pl : List Value} {gE gU : Addr} {t3 t5 : List Value}
theorem codec_0 (hge : Ge G gE gU) :
    Ctr Tryz.prog 45 [RV gr] G [(gr, RB gs 0 cap 0)] (fun r H' => r = .tuple #[.int .u64 0, EV gE] ∧ H' = [(gr, RB gs 0 cap 0)]) := by
  obtain ⟨⟨t3, e3, f3, hE⟩, ⟨t5, e5, f5, hU⟩, _, _, _⟩ := id hge
  refine fn_enter 16 func45 rfl ntmps45 rfl ?_
  intro w0
  refine cR <| oA rfl <| oA rfl <| oN <| cR <| oM rfl <| o_pure rfl call79 (toByte_is) rfl rfl ?_
  refine o_l rfl (l_call call78 (uvar_0 hE) rfl rfl (.cons .head .nil)) ?_
  rintro ⟨r, H'⟩ ⟨rfl, rfl⟩
  simp only [List.cons_append, List.nil_append]
  refine oM rfl <| oX (e_extract rfl rfl) <| oX (e_extract rfl rfl) <| oA rfl <| oA rfl <| oN <| c_seq <| cR <| oM rfl <| oX (e_inen runUnderlying80 rfl) <| oN <| c_then rfl <| cR <| oM rfl <| oA rfl <| oA rfl <| oN <| c_ret ?_
  refine r_fn (l := [.tmp 2, .tmp 3]) results45 rfl rfl ?_
  exact ⟨rfl, rfl⟩
theorem codec_1 {b : UInt8} (hD : (gs, DB [b] rest lo hi) ∈ G) (hge : Ge G gE gU) (hb : 128 ≤ b.toNat) :
    Ctr Tryz.prog 45 [RV gr] G [(gr, RB gs 1 cap 0)] (fun r H' => r = .tuple #[.int .u64 0, EV gU] ∧ H' = [(gr, RB gs 1 cap 1)]) := by
  obtain ⟨⟨t3, e3, f3, hE⟩, ⟨t5, e5, f5, hU⟩, _, _, _⟩ := id hge
  refine fn_enter 16 func45 rfl ntmps45 rfl ?_
  intro w0
  refine cR <| oA rfl <| oA rfl <| oN <| cR <| oM rfl <| o_pure rfl call79 (toByte_is) rfl rfl ?_
  refine o_l rfl (l_call call78 (uvar_1 hD hE hU hb) rfl rfl (.cons .head .nil)) ?_
  rintro ⟨r, H'⟩ ⟨rfl, rfl⟩
  simp only [List.cons_append, List.nil_append]
  refine oM rfl <| oX (e_extract rfl rfl) <| oX (e_extract rfl rfl) <| oA rfl <| oA rfl <| oN <| c_seq <| cR <| oM rfl <| oX (e_inen runUnderlying80 rfl) <| oN <| c_then rfl <| cR <| oM rfl <| oA rfl <| oA rfl <| oN <| c_ret ?_
  refine r_fn (l := [.tmp 2, .tmp 3]) results45 rfl rfl ?_
  exact ⟨rfl, rfl⟩
theorem codec_of {kind : Int} (h : Ctr Tryz.prog 78 [RV gr] G [(gr, RB gs n cap 0)] (fun r H' => r = .tuple #[.int .u64 kind, .nilIface] ∧ H' = [(gr, RB gs n cap 2)])) :
    Ctr Tryz.prog 45 [RV gr] G [(gr, RB gs n cap 0)] (fun r H' => r = .tuple #[.int .u64 kind, .nilIface] ∧ H' = [(gr, RB gs n cap 2)]) := by
  refine fn_enter 16 func45 rfl ntmps45 rfl ?_
  intro w0
  refine cR <| oA rfl <| oA rfl <| oN <| cR <| oM rfl <| o_pure rfl call79 (toByte_is) rfl rfl ?_
  refine o_l rfl (l_call call78 h rfl rfl (.cons .head .nil)) ?_
  rintro ⟨r, H'⟩ ⟨rfl, rfl⟩
  simp only [List.cons_append, List.nil_append]
  refine oM rfl <| oX (e_extract rfl rfl) <| oX (e_extract rfl rfl) <| oA rfl <| oA rfl <| oN <| c_seq <| cR <| oM rfl <| oX (e_nnen runUnderlying80 rfl) <| oN <| cL rfl <| cR <| oM rfl <| oA rfl <| oA rfl <| oN <| c_ret ?_
  refine r_fn (l := [.tmp 2, .tmp 3]) results45 rfl rfl ?_
  exact ⟨rfl, rfl⟩
theorem newS_is : Ctr Tryz.prog 148 [] G [] (fun r H' => ∃ gm gx, r = .iface 328 (.pointer (some ⟨gm, 0, none⟩)) ∧ H' = [(gm, C [.map (some gx)] 327), (gx, Mo .u32 [])]) := by
  refine fn_enter 4 func148 rfl ntmps148 rfl ?_
  intro w0
  refine cR <| oA rfl <| oN <| cR ?_
  refine o_l rfl (l_mkmap rfl .u32) ?_
  intro gx _
  refine o_l rfl (l_alloc zeroValue327 rfl rfl) ?_; intro g1 _
  refine o_l rfl (l_store sizeOf327 rfl rfl rfl .head .head (by omega)) ?_; intro _ _
  refine oN <| cR <| oX (e_mkif runUnderlying328 rfl rfl) <| oA rfl <| oN <| c_ret ?_
  refine r_fn1 results148 rfl ?_
  exact ⟨_, _, rfl, rfl⟩
theorem newM_is : Ctr Tryz.prog 149 [] G [] (fun r H' => ∃ gm gx, r = .pointer (some ⟨gm, 0, none⟩) ∧ H' = [(gm, C [.map (some gx)] 330), (gx, Mo .u64 [])]) := by
  refine fn_enter 3 func149 rfl ntmps149 rfl ?_
  intro w0
  refine cR <| oA rfl <| oN <| cR ?_
  refine o_l rfl (l_mkmap rfl .u64) ?_
  intro gx _
  refine o_l rfl (l_alloc zeroValue330 rfl rfl) ?_; intro g1 _
  refine o_l rfl (l_store sizeOf330 rfl rfl rfl .head .head (by omega)) ?_; intro _ _
  refine oN <| cR <| oA rfl <| oN <| c_ret ?_
  refine r_fn1 results149 rfl ?_
  exact ⟨_, _, rfl, rfl⟩
theorem new_1024 : Ctr Tryz.prog 76 [.int .u64 1024] G [] (fun r H' => ∃ gm gx, r = .tuple #[.iface 328 (.pointer (some ⟨gm, 0, none⟩)), .nilIface] ∧ H' = [(gm, C [.map (some gx)] 327), (gx, Mo .u32 [])]) := by
  refine fn_enter 13 func76 rfl ntmps76 rfl ?_
  intro w0
  refine cR <| oA rfl <| oA rfl <| oN <| cR <| oM rfl <| oN <| c_block <| cR <| oX (e_eql rfl rfl) <| oA rfl <| oN <| c_then rfl <| cR ?_
  refine o_l rfl (l_call call148 newS_is rfl rfl .nil) ?_
  rintro ⟨r, H'⟩ ⟨gm, gx, rfl, rfl⟩
  simp only [List.cons_append, List.nil_append]
  refine oA rfl <| oA rfl <| oN <| c_ret ?_
  refine r_fn (l := [.tmp 2, .tmp 3]) results76 rfl rfl ?_
  exact ⟨_, _, rfl, rfl⟩
theorem new_1025 : Ctr Tryz.prog 76 [.int .u64 1025] G [] (fun r H' => ∃ gm gx, r = .tuple #[.iface 237 (.pointer (some ⟨gm, 0, none⟩)), .nilIface] ∧ H' = [(gm, C [.map (some gx)] 330), (gx, Mo .u64 [])]) := by
  refine fn_enter 13 func76 rfl ntmps76 rfl ?_
  intro w0
  refine cR <| oA rfl <| oA rfl <| oN <| cR <| oM rfl <| oN <| c_block <| cR <| oX (e_eql rfl rfl) <| oA rfl <| oN <| c_else rfl <| cR <| oX (e_eql rfl rfl) <| oA rfl <| oN <| c_then rfl <| cR ?_
  refine o_l rfl (l_call call149 newM_is rfl rfl .nil) ?_
  rintro ⟨r, H'⟩ ⟨gm, gx, rfl, rfl⟩
  simp only [List.cons_append, List.nil_append]
  refine oX (e_mkif runUnderlying237 rfl rfl) <| oA rfl <| oA rfl <| oN <| c_ret ?_
  refine r_fn (l := [.tmp 2, .tmp 3]) results76 rfl rfl ?_
  exact ⟨_, _, rfl, rfl⟩
/-- The number that stands at place i. -/
def num (bs : List UInt8) (i : Nat) : Nat := le ((bs.drop i).take 4)
/-- What is cut off within its numbers. -/
inductive Cut (bs : List UInt8) : Prop where
  | none (h : bs = []) : Cut bs
  | one {b : UInt8} (h : bs = [b]) (hb : 128 ≤ b.toNat) : Cut bs
  | s {tl : List UInt8} (h : bs = 128 :: 8 :: tl) (hl : bs.length < 18) (h1 : 6 ≤ bs.length → 1 ≤ num bs 2 ∧ num bs 2 < 2147483648) : Cut bs
  | m {tl : List UInt8} (h : bs = 129 :: 8 :: tl) (hl : bs.length < 30) (h1 : 6 ≤ bs.length → 1 ≤ num bs 2 ∧ num bs 2 < 2147483648) (h2 : 18 ≤ bs.length → 1 ≤ num bs 14 ∧ num bs 14 < 2147483648) : Cut bs
theorem from_err (hD : (gs, DB bs rest lo hi) ∈ G) (hge : Ge G gE gU) (hn : bs.length = n) (hc : n ≤ cap) (h63 : cap < 9223372036854775808) (hcut : Cut bs) :
    Ctr Tryz.prog 41 [RV gr] G [(gr, RB gs n cap 0)] (fun r H' => ∃ g i, r = .tuple #[.nilIface, EV g] ∧ H' = [(gr, RB gs n cap i)]) := by
  cases hcut with
  | none h =>
    subst h
    obtain rfl : 0 = n := hn
    refine fn_enter 31 func41 rfl ntmps41 rfl ?_
    intro w0
    refine cR <| oA rfl <| oA rfl <| oN <| cR <| oM rfl ?_
    refine o_l rfl (l_call call45 (codec_0 hge) rfl rfl (.cons .head .nil)) ?_
    rintro ⟨r, H'⟩ ⟨rfl, rfl⟩
    simp only [List.cons_append, List.nil_append]
    refine oM rfl <| oX (e_extract rfl rfl) <| oX (e_extract rfl rfl) <| oA rfl <| oA rfl <| oN <| c_seq <| cR <| oM rfl <| oX (e_inen runUnderlying80 rfl) <| oN <| c_then rfl <| cR <| oM rfl <| oA rfl <| oA rfl <| oN <| c_ret ?_
    refine r_fn (l := [.tmp 2, .tmp 3]) results41 rfl rfl ?_
    exact ⟨_, _, rfl, rfl⟩
  | one h hb =>
    subst h
    obtain rfl : 1 = n := hn
    refine fn_enter 31 func41 rfl ntmps41 rfl ?_
    intro w0
    refine cR <| oA rfl <| oA rfl <| oN <| cR <| oM rfl ?_
    refine o_l rfl (l_call call45 (codec_1 hD hge hb) rfl rfl (.cons .head .nil)) ?_
    rintro ⟨r, H'⟩ ⟨rfl, rfl⟩
    simp only [List.cons_append, List.nil_append]
    refine oM rfl <| oX (e_extract rfl rfl) <| oX (e_extract rfl rfl) <| oA rfl <| oA rfl <| oN <| c_seq <| cR <| oM rfl <| oX (e_inen runUnderlying80 rfl) <| oN <| c_then rfl <| cR <| oM rfl <| oA rfl <| oA rfl <| oN <| c_ret ?_
    refine r_fn (l := [.tmp 2, .tmp 3]) results41 rfl rfl ?_
    exact ⟨_, _, rfl, rfl⟩
  | @s tl h hl h1 =>
    subst h
    have hr := codec_of (uvar_1024 (gr := gr) (cap := cap) hD hn (by omega))
    refine fn_enter 31 func41 rfl ntmps41 rfl ?_
    intro w0
    refine cR <| oA rfl <| oA rfl <| oN <| cR <| oM rfl ?_
    refine o_l rfl (l_call call45 hr rfl rfl (.cons .head .nil)) ?_
    rintro ⟨r, H'⟩ ⟨rfl, rfl⟩
    simp only [List.cons_append, List.nil_append]
    refine oM rfl <| oX (e_extract rfl rfl) <| oX (e_extract rfl rfl) <| oA rfl <| oA rfl <| oN <| c_seq <| cR <| oM rfl <| oX (e_nnen runUnderlying80 rfl) <| oN <| cL rfl <| cR <| oM rfl ?_
    refine o_l rfl (l_call call76 new_1024 rfl rfl .nil) ?_
    rintro ⟨r, H'⟩ ⟨gm, gx, rfl, rfl⟩
    simp only [List.cons_append, List.nil_append]
    refine oM rfl <| oX (e_extract rfl rfl) <| oX (e_extract rfl rfl) <| oA rfl <| oA rfl <| oN <| c_seq <| cR <| oM rfl <| oX (e_nnen runUnderlying80 rfl) <| oN <| cL rfl <| c_seq <| cR <| oM rfl <| oM rfl ?_
    refine o_l rfl (l_calli0 call332 (by intro w; kernel_rfl) (mwi_err (v := .pointer (some ⟨gm, 0, none⟩)) (i := 2) hD hge hn hc h63 (by rw [← hn]; simp) (by omega) (fun hh => h1 (by omega))) rfl rfl rfl (.cons (.tail (.tail .head)) .nil)) ?_
    rintro ⟨r, H'⟩ ⟨rfl, rfl⟩
    simp only [List.cons_append, List.nil_append]
    refine oA rfl <| oN <| cR <| oM rfl <| oX (e_inen runUnderlying80 rfl) <| oN <| c_then rfl <| cR <| oM rfl <| oA rfl <| oA rfl <| oN <| c_ret ?_
    refine WR.sel (.cons .head .nil) ?_
    refine r_fn (l := [.tmp 2, .tmp 3]) results41 rfl rfl ?_
    exact ⟨_, _, rfl, rfl⟩
  | @m tl h hl h1 h2 =>
    subst h
    have hr := codec_of (uvar_1025 (gr := gr) (cap := cap) hD hn (by omega))
    refine fn_enter 31 func41 rfl ntmps41 rfl ?_
    intro w0
    refine cR <| oA rfl <| oA rfl <| oN <| cR <| oM rfl ?_
    refine o_l rfl (l_call call45 hr rfl rfl (.cons .head .nil)) ?_
    rintro ⟨r, H'⟩ ⟨rfl, rfl⟩
    simp only [List.cons_append, List.nil_append]
    refine oM rfl <| oX (e_extract rfl rfl) <| oX (e_extract rfl rfl) <| oA rfl <| oA rfl <| oN <| c_seq <| cR <| oM rfl <| oX (e_nnen runUnderlying80 rfl) <| oN <| cL rfl <| cR <| oM rfl ?_
    refine o_l rfl (l_call call76 new_1025 rfl rfl .nil) ?_
    rintro ⟨r, H'⟩ ⟨gm, gx, rfl, rfl⟩
    simp only [List.cons_append, List.nil_append]
    refine oM rfl <| oX (e_extract rfl rfl) <| oX (e_extract rfl rfl) <| oA rfl <| oA rfl <| oN <| c_seq <| cR <| oM rfl <| oX (e_nnen runUnderlying80 rfl) <| oN <| cL rfl <| c_seq <| cR <| oM rfl <| oM rfl ?_
    refine o_l rfl (l_calli0 call312 (by intro w; kernel_rfl) (mhi_err (v := .pointer (some ⟨gm, 0, none⟩)) (i := 2) hD hge hn hc h63 (by rw [← hn]; simp) (by omega) (fun hh => h1 (by omega)) (fun hh => h2 (by omega))) rfl rfl rfl (.cons (.tail (.tail .head)) .nil)) ?_
    rintro ⟨r, H'⟩ ⟨rfl, rfl⟩
    simp only [List.cons_append, List.nil_append]
    refine oA rfl <| oN <| cR <| oM rfl <| oX (e_inen runUnderlying80 rfl) <| oN <| c_then rfl <| cR <| oM rfl <| oA rfl <| oA rfl <| oN <| c_ret ?_
    refine WR.sel (.cons .head .nil) ?_
    refine r_fn (l := [.tmp 2, .tmp 3]) results41 rfl rfl ?_
    exact ⟨_, _, rfl, rfl⟩
theorem again_err (hge : Ge G gE gU) (hcut : Cut bs) : Ctr Tryz.prog 18 [S bs] G [] (fun r _ => r = .tuple #[.int .i64 0, S [], .bool false]) := by
  have hlen : bs.length < 30 := by
    cases hcut with
    | none h => subst h; simp
    | one h hb => subst h; simp
    | s h hl h1 => omega
    | m h hl h1 h2 => omega
  refine fn_enter 34 func18 rfl ntmps18 rfl ?_
  intro w0
  refine cR <| oA rfl <| oA rfl <| oA rfl <| oN <| cR <| oM rfl ?_
  refine o_l rfl (l_sbc underlying9 underlying72 underlying5 rfl rfl (by simp; omega) rfl rfl) ?_
  rintro ⟨gs, cap, rest, lo, hi⟩ hy
  refine o_l rfl (l_call call40 newReader_is rfl rfl .nil) ?_
  rintro ⟨r, H'⟩ ⟨gr, rfl, rfl⟩
  simp only [List.cons_append, List.nil_append]
  refine oA rfl <| oN <| cR <| oM rfl <| oX (e_mkif runUnderlying75 rfl rfl) ?_
  refine o_l rfl (l_callj (HJ := [(gs, DB bs rest lo hi)]) call41 (from_err (bs := bs) (List.mem_append_right _ (.head _)) (hge.mono fun _ h => List.mem_append_left _ h) rfl hy.le hy.lt hcut) rfl rfl (.cons .head .nil) (by simp)) ?_
  rintro ⟨r, H'⟩ ⟨g, i, rfl, rfl⟩
  simp only [List.cons_append, List.nil_append]
  refine oM rfl <| oX (e_extract rfl rfl) <| oX (e_extract rfl rfl) <| oA rfl <| oA rfl <| oN <| c_seq <| cR <| oM rfl <| oX (e_inen runUnderlying80 rfl) <| oN <| c_then rfl <| cR <| oA rfl <| oA rfl <| oA rfl <| oN <| c_ret ?_
  refine r_fn (l := [.tmp 2, .tmp 3, .tmp 4]) results18 rfl rfl ?_
  exact rfl
end
end Go.Proofs
