/- spec.Widths; sort.Ints and sort.Slice by the shelf. -/
import Derived.Test.YtochgglejmfelaaGreatDoorProg
import Derived.Shelf.Slices.In.SortNone2
import Derived.Shelf.Sort.Plain
import Derived.Shelf.GgSortFunc.Whole
import Derived.KernelRfl
import Derived.Test.YtochgglejmfelaaGreatDoorA4
import Derived.Test.YtochgglejmfelaaGreatDoorA8
import Derived.Deep.QuietTactic
import Derived.Shelf.GgSortFunc.Tiny
import Derived.Sort.LotA
import Derived.WalkKit
namespace Go.Proofs
open Go Go.Shelf
def Tryz.laysInts_ren : Go.Shelf.Ren := ⟨fun | 191 => 191 | 189 => 218 | 125 => 66 | 257 => 227 | 128 => 122 | 129 => 123 | 294 => 241 | 295 => 242 | 296 => 243 | 297 => 244 | 298 => 245 | 299 => 246 | 216 => 247 | 300 => 248 | 301 => 249 | 328 => 261 | 329 => 262 | 330 => 263 | 331 => 264 | 332 => 265 | 215 => 266 | 343 => 272 | n => n, fun | 28 => 99 | 0 => 0 | 3 => 3 | 46 => 131 | 51 => 212 | 53 => 23 | 4 => 4 | 183 => 393 | 182 => 392 | 131 => 220 | 5 => 5 | 9 => 9 | 218 => 408 | 222 => 301 | 228 => 413 | 229 => 356 | n => n, fun n => n⟩
theorem Tryz.laysInts : Lays.n191 Tryz.prog Tryz.laysInts_ren where
  mixed := by kernel_rfl
  f125 := Tryz.func66.trans (congrArg some (by kernel_rfl))
  f128 := Tryz.func122.trans (congrArg some (by kernel_rfl))
  f129 := Tryz.func123.trans (congrArg some (by kernel_rfl))
  f189 := Tryz.func218.trans (congrArg some (by kernel_rfl))
  f191 := Tryz.func191.trans (congrArg some (by kernel_rfl))
  f215 := Tryz.func266.trans (congrArg some (by kernel_rfl))
  f216 := Tryz.func247.trans (congrArg some (by kernel_rfl))
  f257 := Tryz.func227.trans (congrArg some (by kernel_rfl))
  f294 := Tryz.func241.trans (congrArg some (by kernel_rfl))
  f295 := Tryz.func242.trans (congrArg some (by kernel_rfl))
  f296 := Tryz.func243.trans (congrArg some (by kernel_rfl))
  f297 := Tryz.func244.trans (congrArg some (by kernel_rfl))
  f298 := Tryz.func245.trans (congrArg some (by kernel_rfl))
  f299 := Tryz.func246.trans (congrArg some (by kernel_rfl))
  f300 := Tryz.func248.trans (congrArg some (by kernel_rfl))
  f301 := Tryz.func249.trans (congrArg some (by kernel_rfl))
  f328 := Tryz.func261.trans (congrArg some (by kernel_rfl))
  f329 := Tryz.func262.trans (congrArg some (by kernel_rfl))
  f330 := Tryz.func263.trans (congrArg some (by kernel_rfl))
  f331 := Tryz.func264.trans (congrArg some (by kernel_rfl))
  f332 := Tryz.func265.trans (congrArg some (by kernel_rfl))
  f343 := Tryz.func272.trans (congrArg some (by kernel_rfl))
  t0 := Tryz.underlying0
  a0 := Tryz.isAgg0
  z0 := Tryz.sizeOf0
  v0 := Tryz.zeroValue0
  t3 := Tryz.underlying3
  a3 := Tryz.isAgg3
  z3 := Tryz.sizeOf3
  v3 := Tryz.zeroValue3
  t4 := Tryz.underlying4
  a4 := Tryz.isAgg4
  z4 := Tryz.sizeOf4
  v4 := Tryz.zeroValue4
  t5 := Tryz.underlying5
  a5 := Tryz.isAgg5
  z5 := Tryz.sizeOf5
  v5 := Tryz.zeroValue5
  t9 := Tryz.underlying9
  a9 := Tryz.isAgg9
  z9 := Tryz.sizeOf9
  v9 := Tryz.zeroValue9
  t28 := Tryz.underlying99
  a28 := Tryz.isAgg99
  z28 := Tryz.sizeOf99
  v28 := Tryz.zeroValue99
  t46 := Tryz.underlying131
  a46 := Tryz.isAgg131
  z46 := Tryz.sizeOf131
  v46 := Tryz.zeroValue131
  t51 := Tryz.underlying212
  a51 := Tryz.isAgg212
  z51 := Tryz.sizeOf212
  v51 := Tryz.zeroValue212
  t53 := Tryz.underlying23
  a53 := Tryz.isAgg23
  z53 := Tryz.sizeOf23
  v53 := Tryz.zeroValue23
  t131 := Tryz.underlying220
  a131 := Tryz.isAgg220
  z131 := Tryz.sizeOf220
  v131 := Tryz.zeroValue220
  t182 := Tryz.underlying392
  a182 := Tryz.isAgg392
  z182 := Tryz.sizeOf392
  v182 := Tryz.zeroValue392
  t183 := Tryz.underlying393
  a183 := Tryz.isAgg393
  z183 := Tryz.sizeOf393
  v183 := Tryz.zeroValue393
  t218 := Tryz.underlying408
  a218 := Tryz.isAgg408
  z218 := Tryz.sizeOf408
  v218 := Tryz.zeroValue408
  t222 := Tryz.underlying301
  a222 := Tryz.isAgg301
  z222 := Tryz.sizeOf301
  v222 := Tryz.zeroValue301
  t228 := Tryz.underlying413
  a228 := Tryz.isAgg413
  z228 := Tryz.sizeOf413
  v228 := Tryz.zeroValue413
  t229 := Tryz.underlying356
  a229 := Tryz.isAgg356
  z229 := Tryz.sizeOf356
  v229 := Tryz.zeroValue356
def Tryz.laysSlice_ren : Go.Shelf.Ren := ⟨fun | 6 => 34 | 10 => 63 | 11 => 64 | 12 => 65 | 13 => 66 | 14 => 67 | 24 => 122 | 25 => 123 | 26 => 124 | 27 => 125 | 28 => 126 | 29 => 127 | 30 => 128 | 31 => 129 | 32 => 130 | 33 => 131 | 34 => 180 | 35 => 181 | 36 => 182 | 37 => 183 | 38 => 184 | 39 => 215 | n => n, fun | 20 => 20 | 26 => 71 | 35 => 126 | 0 => 0 | 37 => 128 | 3 => 3 | 41 => 131 | 44 => 134 | 49 => 212 | 51 => 23 | 4 => 4 | 54 => 216 | 53 => 215 | 58 => 220 | 5 => 5 | 9 => 9 | 60 => 298 | 64 => 301 | 66 => 355 | 67 => 356 | 17 => 17 | 32 => 123 | 33 => 124 | 82 => 426 | 12 => 12 | 75 => 420 | 76 => 421 | 77 => 422 | 78 => 358 | 79 => 423 | 80 => 424 | n => n, fun n => n⟩
theorem Tryz.laysSlice : LaysGg.n6 Tryz.prog Tryz.laysSlice_ren where
  mixed := by kernel_rfl
  f6 := Tryz.func34.trans (congrArg some (by kernel_rfl))
  f10 := Tryz.func63.trans (congrArg some (by kernel_rfl))
  f11 := Tryz.func64.trans (congrArg some (by kernel_rfl))
  f12 := Tryz.func65.trans (congrArg some (by kernel_rfl))
  f13 := Tryz.func66.trans (congrArg some (by kernel_rfl))
  f14 := Tryz.func67.trans (congrArg some (by kernel_rfl))
  f24 := Tryz.func122.trans (congrArg some (by kernel_rfl))
  f25 := Tryz.func123.trans (congrArg some (by kernel_rfl))
  f26 := Tryz.func124.trans (congrArg some (by kernel_rfl))
  f27 := Tryz.func125.trans (congrArg some (by kernel_rfl))
  f28 := Tryz.func126.trans (congrArg some (by kernel_rfl))
  f29 := Tryz.func127.trans (congrArg some (by kernel_rfl))
  f30 := Tryz.func128.trans (congrArg some (by kernel_rfl))
  f31 := Tryz.func129.trans (congrArg some (by kernel_rfl))
  f32 := Tryz.func130.trans (congrArg some (by kernel_rfl))
  f33 := Tryz.func131.trans (congrArg some (by kernel_rfl))
  f34 := Tryz.func180.trans (congrArg some (by kernel_rfl))
  f35 := Tryz.func181.trans (congrArg some (by kernel_rfl))
  f36 := Tryz.func182.trans (congrArg some (by kernel_rfl))
  f37 := Tryz.func183.trans (congrArg some (by kernel_rfl))
  f38 := Tryz.func184.trans (congrArg some (by kernel_rfl))
  f39 := Tryz.func215.trans (congrArg some (by kernel_rfl))
  t0 := Tryz.underlying0
  a0 := Tryz.isAgg0
  z0 := Tryz.sizeOf0
  v0 := Tryz.zeroValue0
  i0 := by kernel_rfl
  t3 := Tryz.underlying3
  a3 := Tryz.isAgg3
  z3 := Tryz.sizeOf3
  v3 := Tryz.zeroValue3
  i3 := by kernel_rfl
  t4 := Tryz.underlying4
  a4 := Tryz.isAgg4
  z4 := Tryz.sizeOf4
  v4 := Tryz.zeroValue4
  i4 := by kernel_rfl
  t5 := Tryz.underlying5
  a5 := Tryz.isAgg5
  z5 := Tryz.sizeOf5
  v5 := Tryz.zeroValue5
  i5 := by kernel_rfl
  t9 := Tryz.underlying9
  a9 := Tryz.isAgg9
  z9 := Tryz.sizeOf9
  v9 := Tryz.zeroValue9
  i9 := by kernel_rfl
  t12 := Tryz.underlying12
  a12 := Tryz.isAgg12
  z12 := Tryz.sizeOf12
  v12 := Tryz.zeroValue12
  i12 := by kernel_rfl
  t17 := Tryz.underlying17
  a17 := Tryz.isAgg17
  z17 := Tryz.sizeOf17
  v17 := Tryz.zeroValue17
  i17 := by kernel_rfl
  t20 := Tryz.underlying20
  a20 := Tryz.isAgg20
  z20 := Tryz.sizeOf20
  v20 := Tryz.zeroValue20
  i20 := by kernel_rfl
  t26 := Tryz.underlying71
  a26 := Tryz.isAgg71
  z26 := Tryz.sizeOf71
  v26 := Tryz.zeroValue71
  i26 := by kernel_rfl
  t32 := Tryz.underlying123
  a32 := Tryz.isAgg123
  z32 := Tryz.sizeOf123
  v32 := Tryz.zeroValue123
  i32 := by kernel_rfl
  t33 := Tryz.underlying124
  a33 := Tryz.isAgg124
  z33 := Tryz.sizeOf124
  v33 := Tryz.zeroValue124
  i33 := by kernel_rfl
  t35 := Tryz.underlying126
  a35 := Tryz.isAgg126
  z35 := Tryz.sizeOf126
  v35 := Tryz.zeroValue126
  i35 := by kernel_rfl
  t37 := Tryz.underlying128
  a37 := Tryz.isAgg128
  z37 := Tryz.sizeOf128
  v37 := Tryz.zeroValue128
  i37 := by kernel_rfl
  t41 := Tryz.underlying131
  a41 := Tryz.isAgg131
  z41 := Tryz.sizeOf131
  v41 := Tryz.zeroValue131
  i41 := by kernel_rfl
  t44 := Tryz.underlying134
  a44 := Tryz.isAgg134
  z44 := Tryz.sizeOf134
  v44 := Tryz.zeroValue134
  i44 := by kernel_rfl
  t49 := Tryz.underlying212
  a49 := Tryz.isAgg212
  z49 := Tryz.sizeOf212
  v49 := Tryz.zeroValue212
  i49 := by kernel_rfl
  t51 := Tryz.underlying23
  a51 := Tryz.isAgg23
  z51 := Tryz.sizeOf23
  v51 := Tryz.zeroValue23
  i51 := by kernel_rfl
  t53 := Tryz.underlying215
  a53 := Tryz.isAgg215
  z53 := Tryz.sizeOf215
  v53 := Tryz.zeroValue215
  i53 := by kernel_rfl
  t54 := Tryz.underlying216
  a54 := Tryz.isAgg216
  z54 := Tryz.sizeOf216
  v54 := Tryz.zeroValue216
  i54 := by kernel_rfl
  t58 := Tryz.underlying220
  a58 := Tryz.isAgg220
  z58 := Tryz.sizeOf220
  v58 := Tryz.zeroValue220
  i58 := by kernel_rfl
  t60 := Tryz.underlying298
  a60 := Tryz.isAgg298
  z60 := Tryz.sizeOf298
  v60 := Tryz.zeroValue298
  i60 := by kernel_rfl
  t64 := Tryz.underlying301
  a64 := Tryz.isAgg301
  z64 := Tryz.sizeOf301
  v64 := Tryz.zeroValue301
  i64 := by kernel_rfl
  t66 := Tryz.underlying355
  a66 := Tryz.isAgg355
  z66 := Tryz.sizeOf355
  v66 := Tryz.zeroValue355
  i66 := by kernel_rfl
  t67 := Tryz.underlying356
  a67 := Tryz.isAgg356
  z67 := Tryz.sizeOf356
  v67 := Tryz.zeroValue356
  i67 := by kernel_rfl
  t75 := Tryz.underlying420
  a75 := Tryz.isAgg420
  z75 := Tryz.sizeOf420
  v75 := Tryz.zeroValue420
  i75 := by kernel_rfl
  t76 := Tryz.underlying421
  a76 := Tryz.isAgg421
  z76 := Tryz.sizeOf421
  v76 := Tryz.zeroValue421
  i76 := by kernel_rfl
  t77 := Tryz.underlying422
  a77 := Tryz.isAgg422
  z77 := Tryz.sizeOf422
  v77 := Tryz.zeroValue422
  i77 := by kernel_rfl
  t78 := Tryz.underlying358
  a78 := Tryz.isAgg358
  z78 := Tryz.sizeOf358
  v78 := Tryz.zeroValue358
  i78 := by kernel_rfl
  t79 := Tryz.underlying423
  a79 := Tryz.isAgg423
  z79 := Tryz.sizeOf423
  v79 := Tryz.zeroValue423
  i79 := by kernel_rfl
  t80 := Tryz.underlying424
  a80 := Tryz.isAgg424
  z80 := Tryz.sizeOf424
  v80 := Tryz.zeroValue424
  i80 := by kernel_rfl
  t82 := Tryz.underlying426
  a82 := Tryz.isAgg426
  z82 := Tryz.sizeOf426
  v82 := Tryz.zeroValue426
  i82 := by kernel_rfl
end Go.Proofs
namespace Go.Proofs
open Go Go.Sl
set_option maxRecDepth 100000
set_option maxHeartbeats 1000000
theorem ints_0 {G : HP} {A : Option Addr} {cap : Nat} : CtrP Tryz.prog 191 [.slice A 0 cap] G (.tuple #[]) := fun w _ _ _ _ => by
  have h := Any.sort_Ints_none Tryz.laysInts A cap w
  refine h.mono ?_
  rintro e w' ⟨rfl, rfl⟩
  exact ⟨_, [], rfl, ⟨rfl, rfl⟩, (fun _ h => by cases h), by simp [keys], Fr.refl _ _, by simp [keys]⟩
theorem ints_is {G : HP} {g n cap lo hi : Nat} {l : List Int} {rest : List Value} {e : TypeId} (hn : l.length = n) (hf : n ≤ lo ∨ hi = 0) (hl : n < 4611686018427387904) :
    Ctr Tryz.prog 191 [.slice (some ⟨g, 0, none⟩) n cap] G [(g, VB .i64 l rest e lo hi)] (fun r H' => r = .tuple #[] ∧ H' = [(g, VB .i64 (srt l) rest e lo hi)]) := fun w _ hH _ _ => by
  subst hn
  have hb := hH _ (.head _)
  have h := Any.sort_Ints Tryz.laysInts g 0 cap l w (holds_row hb hf) (Array.getElem?_eq_some_iff.1 hb).1 hl
  refine h.mono ?_
  rintro e' w' ⟨rfl, m, os, hw⟩
  obtain ⟨h1, h2⟩ := post_put (l' := srt l) hb (srt_length l) hw
  exact ⟨_, _, rfl, ⟨rfl, rfl⟩, h1, by simp [keys], h2, fun k hk => .inl hk⟩
def lens (l : List En) : List Int := l.map fun x => (x.d.length : Int)
def widths (l : List En) : List Int := srt (distI (lens l))
theorem lens_take {l : List En} {i : Nat} (h : i < l.length) : distI (lens (l.take (i + 1))) = addN (distI (lens (l.take i))) (l[i].d.length : Int) := by
  have := distI_take (l := lens l) (i := i) (by simpa [lens] using h)
  simpa [lens, List.map_take] using this
theorem widths_nil : widths [] = [] := by simp [widths, lens, distI, srt]
theorem widths_is {G : HP} {v : Value} {l : List En} (h : EnS G v l) (hl : l.length ≤ 1000) (hd : ∀ x ∈ l, x.d.length ≤ 1000000000) :
    Ctr Tryz.prog 136 [v] G [] (fun r H' => Osl 3 1 r (widths l).length (V .i64 (widths l)) H') := by
  cases h with
  | none =>
    refine fn_enter 33 Tryz.func136 rfl Tryz.ntmps136 rfl ?_
    intro w0
    refine c_seq ?_
    refine c_region ?_
    refine o_e rfl rfl rfl (e_assign rfl) ?_
    refine o_nil ?_
    refine n_code ?_
    refine c_seq ?_
    refine c_region ?_
    refine o_e rfl rfl rfl (e_assign rfl) ?_
    refine o_nil ?_
    refine n_code ?_
    refine c_seq ?_
    refine c_region ?_
    refine o_l rfl (l_mkmap rfl .i64) ?_
    intro gm _
    refine o_e rfl rfl rfl (e_assign rfl) ?_
    refine o_nil ?_
    refine n_code ?_
    refine c_seq ?_
    refine c_seq ?_
    refine c_region ?_
    refine o_e rfl rfl rfl (e_move rfl) ?_
    refine o_e rfl rfl rfl (e_lenl Tryz.runUnderlying22 rfl) ?_
    refine o_e rfl rfl rfl (e_move rfl) ?_
    refine o_nil ?_
    refine n_code ?_
    refine c_block ?_
    refine c_rounds 1 ?_
    refine c_seq ?_
    refine c_region ?_
    refine o_e rfl rfl rfl (e_lss rfl rfl) ?_
    refine o_nil ?_
    refine n_code ?_
    refine c_seq ?_
    refine c_else rfl ?_
    refine c_exit ?_; refine x_code ?_; refine x_upto ?_; refine x_here ?_
    refine n_code ?_
    refine c_seq ?_
    refine c_region ?_
    refine o_e rfl rfl rfl (e_move rfl) ?_
    refine o_l rfl (l_call Tryz.call191 ints_0 rfl rfl .nil) ?_
    rintro ⟨r, H'⟩ ⟨rfl, rfl⟩
    simp only [List.nil_append]
    refine o_nil ?_
    refine n_code ?_
    refine c_seq ?_
    refine c_region ?_
    refine o_e rfl rfl rfl (e_move rfl) ?_
    refine o_e rfl rfl rfl (e_assign rfl) ?_
    refine o_nil ?_
    refine n_code ?_
    refine c_ret ?_
    refine WR.less (fun _ _ h => h) (List.nil_sublist _) ?_
    refine r_fn1 Tryz.results136 rfl ?_
    rw [widths_nil]
    exact .nil
  | @blk l L g off n cap e fr hm hn hc =>
    refine fn_enter 33 Tryz.func136 rfl Tryz.ntmps136 rfl ?_
    intro w0
    refine c_seq ?_
    refine c_region ?_
    refine o_e rfl rfl rfl (e_assign rfl) ?_
    refine o_nil ?_
    refine n_code ?_
    refine c_seq ?_
    refine c_region ?_
    refine o_e rfl rfl rfl (e_assign rfl) ?_
    refine o_nil ?_
    refine n_code ?_
    refine c_seq ?_
    refine c_region ?_
    refine o_l rfl (l_mkmap rfl .i64) ?_
    intro gm _
    refine o_e rfl rfl rfl (e_assign rfl) ?_
    refine o_nil ?_
    refine n_code ?_
    refine c_seq ?_
    refine c_seq ?_
    refine c_region ?_
    refine o_e rfl rfl rfl (e_move rfl) ?_
    refine o_e rfl rfl rfl (e_lenl Tryz.runUnderlying22 rfl) ?_
    refine o_e rfl rfl rfl (e_move rfl) ?_
    refine o_nil ?_
    refine n_code ?_
    refine c_block ?_
    refine c_loop (X := Nat × Value × HP) (fun y => [(3, y.2.1), (4, .map (some gm)), (9, .slice (some ⟨g, off, none⟩) n cap), (10, .int .i64 n), (11, .int .i64 y.1)]) (fun y => (gm, Mo .i64 (MT (distI (lens (l.take y.1))))) :: y.2.2) (fun y => y.1 ≤ n ∧ Osl 3 1 y.2.1 (distI (lens (l.take y.1))).length (V .i64 (distI (lens (l.take y.1)))) y.2.2) (fun y => n - y.1) (0, .slice none 0 0, []) ⟨Nat.zero_le _, .nil⟩ (sub_cons rfl (sub_cons rfl (sub_cons rfl (sub_cons rfl (sub_cons rfl sub_nil))))) (.refl _) ?_
    rintro ⟨i, v', HB'⟩ ⟨hi, ho⟩
    simp only at hi ho ⊢
    refine c_seq ?_
    refine c_region ?_
    refine o_e rfl rfl rfl (e_lss rfl rfl) ?_
    refine o_nil ?_
    refine n_code ?_
    refine c_seq ?_
    refine c_ifp rfl (fun h2 => ?_) (fun h2 => ?_)
    · have hi2 : i < l.length := by omega
      have hci := hc i hi2
      have hnx := lens_take hi2
      have hdi := hd l[i] (List.getElem_mem hi2)
      have hlen : (distI (lens (l.take i))).length ≤ 1000 := Nat.le_trans (distI_length _) (by simp [lens]; omega)
      generalize l[i] = x at hci hnx hdi
      obtain ⟨xv, xc, xh, xd, xo⟩ := x
      simp only [cE] at hci hnx hdi
      generalize hacc : distI (lens (l.take i)) = acc at ho hnx hlen ⊢
      refine c_skip ?_
      refine n_code ?_
      refine c_seq ?_
      refine c_block ?_
      refine c_seq ?_
      refine c_region ?_
      first | refine o_e rfl rfl rfl (e_ian Tryz.runUnderlying22 Tryz.sizeOf56 rfl rfl (by omega)) ?_ | refine o_e rfl rfl rfl (e_ia Tryz.runUnderlying22 Tryz.sizeOf56 rfl rfl (by omega) (by omega)) ?_
      refine o_e rfl rfl rfl (e_loada Tryz.isAgg56 Tryz.sizeOf56 rfl (.inr hm) hci) ?_
      refine o_l rfl (l_alloc Tryz.zeroValue56 rfl rfl) ?_; intro g6 _
      refine o_l rfl (l_storea Tryz.sizeOf56 rfl rfl rfl (by simp [Value.oneCell']) .head (.take (.take (.take (.take (.take .done))))) nofrs0) ?_
      intro _ _
      refine o_nil ?_
      refine n_code ?_
      refine c_seq ?_
      refine c_region ?_
      refine o_e rfl rfl rfl (e_fak 0 Tryz.runUnderlying56 rfl Tryz.sizeOf25 rfl rfl rfl) ?_
      refine o_e rfl rfl rfl (e_fak 3 Tryz.runUnderlying25 rfl Tryz.sizeOf9 rfl rfl rfl) ?_
      refine o_e rfl rfl rfl (e_load Tryz.isAgg9 rfl (by first | exact .inr (by assumption) | exact .inl (by repeat (first | exact List.Mem.head _ | refine List.Mem.tail _ ?_))) (by first | rfl | assumption)) ?_
      refine o_e rfl rfl rfl (e_lens Tryz.runUnderlying9 rfl) ?_
      refine o_e rfl rfl rfl (e_assign rfl) ?_
      refine o_nil ?_
      refine n_code ?_
      refine c_seq ?_
      refine c_region ?_
      refine o_e rfl rfl rfl (e_move rfl) ?_
      refine o_e rfl rfl rfl (e_move rfl) ?_
      refine o_e rfl rfl rfl (e_lookMT Tryz.runUnderlying311 Tryz.runUnderlying3 Tryz.zeroValue4 rfl rfl (.inl (.tail _ (.head _)))) ?_
      refine o_e rfl rfl rfl (e_not rfl) ?_
      refine o_nil ?_
      refine n_code ?_
      refine c_if rfl (fun h3 => ?_) (fun h3 => ?_)
      · have h3' : ¬ ((xd.length : Int) ∈ acc) := by simpa using h3
        rw [show addN acc (xd.length : Int) = acc ++ [(xd.length : Int)] by simp [addN, h3']] at hnx
        refine c_seq ?_
        refine c_region ?_
        refine o_e rfl rfl rfl (e_move rfl) ?_
        refine o_e rfl rfl rfl (e_move rfl) ?_
        refine o_l rfl (l_mapup Tryz.runUnderlying311 Tryz.runUnderlying3 rfl rfl rfl (.tail .head)) ?_
        intro _ _
        rw [mset_MT h3']
        refine o_nil ?_
        refine n_code ?_
        refine c_region ?_
        refine o_e rfl rfl rfl (e_move rfl) ?_
        refine o_e rfl rfl rfl (e_move rfl) ?_
        refine o_l rfl (l_bs1 Tryz.runUnderlying99 Tryz.sizeOf3 Tryz.zeroValue3 rfl rfl rfl) ?_; intro g27 _
        refine o_l rfl (l_append (sz := 1) Tryz.underlying99 (info_of Tryz.typeInfo3) rfl rfl rfl rfl rfl rfl ho (List.perm_append_comm (l₁ := [_, _, _])) (.blk Tryz.underlying99 (.inl (.head _)) (.take .done) (by simp [Value.oneCell'])) (by show _ * 8 ≤ _; omega) (by omega)) ?_
        rintro ⟨v2, HB2⟩ ho2
        refine o_e rfl rfl rfl (e_assign rfl) ?_
        refine o_nil ?_
        refine n_block ?_
        refine n_code ?_
        refine c_region ?_
        first | refine o_e rfl rfl rfl (e_addN rfl rfl (by omega)) ?_ | refine o_e rfl rfl rfl (e_addn rfl rfl (by simp only [inR]; omega)) ?_ | refine o_e rfl rfl rfl (e_add rfl rfl) ?_
        refine o_e rfl rfl rfl (e_move rfl) ?_
        refine o_nil ?_
        refine n_round' (y := (i, v', HB')) (i + 1, v2, HB2) (by show n - (i + 1) < n - i; omega) ?_ (sub_cons rfl (sub_cons rfl (sub_cons rfl (sub_cons rfl (sub_cons rfl sub_nil))))) _ (List.perm_append_comm (l₂ := [_, _, _])) ?_
        · refine ⟨by show i + 1 ≤ n; omega, ?_⟩
          simp only [hnx]
          simpa using ho2
        · simp only [hnx]
          exact .cons _ (.cons _ (.cons_cons _ (List.Sublist.refl _)))
      · have h3' : (xd.length : Int) ∈ acc := by simpa using h3
        rw [show addN acc (xd.length : Int) = acc by simp [addN, h3']] at hnx
        refine c_skip ?_
        refine n_block ?_
        refine n_code ?_
        refine c_region ?_
        first | refine o_e rfl rfl rfl (e_addN rfl rfl (by omega)) ?_ | refine o_e rfl rfl rfl (e_addn rfl rfl (by simp only [inR]; omega)) ?_ | refine o_e rfl rfl rfl (e_add rfl rfl) ?_
        refine o_e rfl rfl rfl (e_move rfl) ?_
        refine o_nil ?_
        refine n_round' (y := (i, v', HB')) (i + 1, v', HB') (by show n - (i + 1) < n - i; omega) ?_ (sub_cons rfl (sub_cons rfl (sub_cons rfl (sub_cons rfl (sub_cons rfl sub_nil))))) _ (.refl _) ?_
        · refine ⟨by show i + 1 ≤ n; omega, ?_⟩
          simp only [hnx]
          exact ho
        · simp only [hnx]
          exact .cons _ (List.Sublist.refl _)
    · skip
      have : i = l.length := by omega
      subst this
      have hlen : (distI (lens l)).length ≤ 1000 := Nat.le_trans (distI_length _) (by simp [lens]; omega)
      rw [List.take_length] at ho ⊢
      refine c_exit ?_; refine x_code ?_; refine x_upto ?_; refine x_here ?_
      refine n_code ?_
      refine c_seq ?_
      refine c_region ?_
      refine o_e rfl rfl rfl (e_move rfl) ?_
      rcases ho.openV with ⟨rfl, rfl, h0⟩ | ⟨g2, cap2, rest, lo, hi, rfl, rfl, a2, a3, a4, a5⟩
      · refine o_l rfl (l_call Tryz.call191 ints_0 rfl rfl .nil) ?_
        rintro ⟨r, H'⟩ ⟨rfl, rfl⟩
        simp only [List.nil_append]
        refine o_nil ?_
        refine n_code ?_
        refine c_seq ?_
        refine c_region ?_
        refine o_e rfl rfl rfl (e_move rfl) ?_
        refine o_e rfl rfl rfl (e_assign rfl) ?_
        refine o_nil ?_
        refine n_code ?_
        refine c_ret ?_
        refine WR.less (fun _ _ h => h) (List.nil_sublist _) ?_
        refine r_fn1 Tryz.results136 rfl ?_
        rw [widths, h0, srt, List.mergeSort_nil]
        exact .nil
      · skip
        refine o_l rfl (l_call Tryz.call191 (ints_is rfl (by omega) (by omega)) rfl rfl (.cons (.tail .head) .nil)) ?_
        rintro ⟨r, H'⟩ ⟨rfl, rfl⟩
        simp only [List.cons_append, List.nil_append]
        refine o_nil ?_
        refine n_code ?_
        refine c_seq ?_
        refine c_region ?_
        refine o_e rfl rfl rfl (e_move rfl) ?_
        refine o_e rfl rfl rfl (e_assign rfl) ?_
        refine o_nil ?_
        refine n_code ?_
        refine c_ret ?_
        refine WR.sel (.cons .head .nil) ?_
        refine r_fn1 Tryz.results136 rfl ?_
        rw [show (distI (lens l)).length = (widths l).length by rw [widths, srt_length]] at a2 a3 ⊢
        exact .own (by simp) a2 a3 a4 a5
end Go.Proofs
namespace Go.Proofs
open Go Go.Sl Go.RowKit
set_option maxRecDepth 100000
theorem kind23 (w : World) : (Extern.Rtype.kind 23).run Tryz.prog w = .ok 11 w := by kernel_rfl
theorem k5 {n : Nat} (h : 2 ≤ n) : Lib.swapperK n Tryz.t23 11 = 5 := by
  have h0 : (n == 0) = false := by simp; omega
  have h1 : (n == 1) = false := by simp; omega
  simp only [Lib.swapperK, h0, h1, Bool.false_eq_true, if_false]
  rfl
theorem srt_of_sorted {l : List Int} {d' : Array Int} (hp : Sort.PermIn 0 l.toArray.size l.toArray d') (hs : Sort.SortedIn Sort.ltInt 0 l.toArray.size d') : d' = (srt l).toArray := by
  have h := Sort.sorted_unique_holds (lt := Sort.ltInt) Sort.swo_ltInt (fun x y h1 h2 => by simp only [Sort.ltInt, decide_eq_false_iff_not] at h1 h2; omega) l.toArray d' hp hs
  have e : (fun x y : Int => !Sort.ltInt y x) = fun x y => decide (x ≤ y) := by
    funext x y
    simp only [Sort.ltInt]
    by_cases h : x ≤ y
    · first | (simp [h]; done) | (simp [h]; omega)
    · first | (simp [h]; done) | (simp [h]; omega)
  rw [e] at h
  rw [srt, ← h]
/-- A closure that compares two numbers of a row that a captured variable holds. -/
def LessU (f : FuncId) : Prop := ∀ (blk off c Bs size : Nat) (W : World) (G : Nat → Int), W.cell? ⟨Bs, 0, none⟩ = some (.slice (some ⟨blk, off, none⟩) size c) → (∀ t, t < size → W.cell? ⟨blk, off + t, none⟩ = some (.int .u64 (G t))) → ∀ i j : Nat, i < size → j < size →
    Calls Tryz.prog f #[.int .i64 i, .int .i64 j, .pointer (some ⟨Bs, 0, none⟩)] W fun e w' => e = .returned (.bool (decide (G i < G j))) ∧ ∃ q, w' = W.drewN q
set_option maxHeartbeats 2000000 in
theorem less138 : LessU 138 := by
  intro blk off c Bs size W G hs hc i j hi hj
  have ci := hc i hi
  have cj := hc j hj
  go_enter Tryz.func138, Tryz.ntmps138
  go_wp2
  go_quiet (fail)
  go_wp2
  go_ret
  exact ⟨rfl, nq, rfl⟩
theorem slice_is {G : HP} {f g gs n cap lo hi : Nat} {l : List Int} {rest : List Value} {e : TypeId} (hf : LessU f) (eg : ∀ args w, (callFunc f args).run Tryz.prog w = .ok (.enter f args) w) (hn : l.length = n) (hfz : n ≤ lo ∨ hi = 0) (h2 : 2 ≤ n) (hl : n < 4611686018427387904) :
    Ctr Tryz.prog 34 [.iface 29 (.slice (some ⟨g, 0, none⟩) n cap), .func (.func f) #[] #[.pointer (some ⟨gs, 0, none⟩)]] G [(gs, C [.slice (some ⟨g, 0, none⟩) n cap] 29), (g, VB .u64 l rest e lo hi)] (fun r H' => r = .tuple #[] ∧ H' = [(gs, C [.slice (some ⟨g, 0, none⟩) n cap] 29), (g, VB .u64 (srt l) rest e lo hi)]) := fun w _ hH hnd _ => by
  subst hn
  have hb := hH (g, _) (.tail _ (.head _))
  have hs := hH (gs, _) (.head _)
  have hblk : g < w.heap.size := (Array.getElem?_eq_some_iff.1 hb).1
  have hgs : gs < w.heap.size := (Array.getElem?_eq_some_iff.1 hs).1
  have hne : gs ≠ g := fun e => by subst e; simp [keys] at hnd
  have hHo := holds_row hb hfz
  have hless : LessReads Tryz.prog f #[.pointer (some ⟨gs, 0, none⟩)] (Value.int .u64) Sort.ltInt g 0 l.length w := by
    intro m os dk hsz i j hi hj
    have hd : dk.size = l.toArray.size := by simpa using hsz
    refine hf g 0 cap gs l.length _ (fun t => dk[t]!) ?_ (fun t ht => ?_) i j hi hj
    · rw [sortWorld, Sort.cell?_grow _ _ _ (by simpa [Sort.ahead] using hgs), Sort.cell?_putRow_other _ _ g 0 dk _ (.inl hne)]
      exact cell_of (off := 0) hs
    · rw [sortWorld, Sort.cell?_grow _ _ _ (by simpa [Sort.ahead] using hblk)]
      exact Sort.cell?_putRow _ _ g 0 l.toArray dk hHo hd t (by rw [hsz]; exact ht)
  have hS := Any.sort_Slice_sorted Tryz.laysSlice 29 23 Tryz.t29 Tryz.t23 (info_of Tryz.typeInfo29) rfl (by kernel_rfl) (info_of Tryz.typeInfo23) 11 kind23 rfl Tryz.isAgg23 (Value.int .u64) (fun _ => rfl) Sort.ltInt Sort.swo_ltInt f #[.pointer (some ⟨gs, 0, none⟩)] eg
    g 0 cap l.toArray (by simpa using h2) (by simpa using hl) 117 (by rw [List.size_toArray, k5 h2]; kernel_rfl) true
    (fun args W => run_callFunc_extern Tryz.func117 (by kernel_rfl) (by kernel_rfl) (by kernel_rfl) (e := Extern.ReflectliteSwapper.swap true) (by kernel_rfl) args W) w (by simpa using hless) hHo hblk
  rw [List.size_toArray] at hS
  refine Calls.mono hS ?_
  rintro e' w' ⟨rfl, d', m, os, hp, hso, hw⟩
  rw [srt_of_sorted (l := l) (d' := d') (by simpa using hp) (by simpa using hso)] at hw
  obtain ⟨h1, h2⟩ := post_put (l' := srt l) hb (srt_length l) hw
  refine ⟨_, _, rfl, ⟨rfl, rfl⟩, ?_, by simpa [keys] using hnd, h2.mono (fun i hi => by simp [keys] at hi ⊢; exact .inr hi), fun k hk => .inl hk⟩
  intro p hp
  rcases List.mem_cons.1 hp with rfl | hp
  · rw [h2.keep _ hgs (by simpa using hne)]; exact hs
  · exact h1 p hp
theorem slice_01 {G : HP} {A : Option Addr} {n cap : Nat} {fn : Fn} {ua uc : Array Value} (h : n ≤ 1) :
    CtrP Tryz.prog 34 [.iface 29 (.slice A n cap), .func fn ua uc] G (.tuple #[]) := fun w _ _ _ _ => by
  have hk : ∃ f, Tryz.prog.funcs.findIdx? (·.name == "internal/reflectlite" ++ ".Swapper$" ++ toString (Lib.swapperK n Tryz.t23 11)) = some f := by
    match n, h with
    | 0, _ => exact ⟨113, by kernel_rfl⟩
    | 1, _ => exact ⟨114, by kernel_rfl⟩
  obtain ⟨f, hk⟩ := hk
  have hS := Any.sort_Slice_tiny Tryz.laysSlice 29 23 Tryz.t29 Tryz.t23 (info_of Tryz.typeInfo29) rfl (by kernel_rfl) (info_of Tryz.typeInfo23) 11 kind23 A n cap h f hk fn ua uc w
  refine Calls.mono hS ?_
  rintro e w' ⟨rfl, os, rfl⟩
  refine ⟨_, [], rfl, ⟨rfl, rfl⟩, (fun _ h => by cases h), by simp [keys], ⟨rfl, rfl, rfl, by simp, fun k hk _ => ?_⟩, by simp [keys]⟩
  exact Sort.heap_grow_old _ _ hk
end Go.Proofs
