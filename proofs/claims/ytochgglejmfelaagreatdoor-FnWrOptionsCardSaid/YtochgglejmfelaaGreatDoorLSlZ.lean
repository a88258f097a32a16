/- The calculus: runs of plain steps taken by themselves. (A part of the proof of this: for every input laws.FnWrOptions returns true and its arguments read as they did, the listed package variables being what the program lays) -/
import Derived.Test.YtochgglejmfelaaGreatDoorProg
import Derived.KernelRfl
import Derived.Test.YtochgglejmfelaaGreatDoorL03
import Derived.Test.YtochgglejmfelaaGreatDoorL04
set_option linter.unusedVariables false
set_option linter.unusedSimpArgs false
namespace Go.Sl
open Go Go.Proofs
/-- So many steps lead from P to Q. -/
structure Stp (n : Nat) (P Q : Prop) : Prop where
  f : Q → P
/-- These steps, in a region whose order is drawn. -/
structure Stl (l : List Nat) (P Q : Prop) : Prop where
  f : Q → P
theorem Stp.z {P : Prop} : Stp 0 P P := ⟨id⟩
theorem Stl.z {P : Prop} : Stl [] P P := ⟨id⟩
theorem Stp.of {n : Nat} {P P' Q : Prop} (f : P' → P) (h : Stp n P' Q) : Stp (n + 1) P Q := ⟨fun q => f (h.f q)⟩
/-- What is known of types and functions, found by their numbers. -/
class FSz (t : TypeId) (n : outParam Nat) : Prop where
  h : ∀ w, (sizeOf t).run Tryz.prog w = .ok n w
class FAg (t : TypeId) (b : outParam Bool) : Prop where
  h : ∀ w, (isAgg t).run Tryz.prog w = .ok b w
class FUn (t : TypeId) (u : outParam TypeDesc) : Prop where
  h : ∀ w, (underlying t).run Tryz.prog w = .ok u w
class FZe (t : TypeId) (z : outParam Value) : Prop where
  h : ∀ w, (zeroValue t).run Tryz.prog w = .ok z w
class FCa (f : FuncId) : Prop where
  h : ∀ az w, (callFunc f az).run Tryz.prog w = .ok (.enter f az) w
set_option linter.defProp false
theorem FSz.of {t : TypeId} {n : Nat} (h : ∀ w, (sizeOf t).run Tryz.prog w = .ok n w) : FSz t n := ⟨h⟩
theorem FAg.of {t : TypeId} {b : Bool} (h : ∀ w, (isAgg t).run Tryz.prog w = .ok b w) : FAg t b := ⟨h⟩
theorem FUn.of {t : TypeId} {u : TypeDesc} (h : ∀ w, (underlying t).run Tryz.prog w = .ok u w) : FUn t u := ⟨h⟩
theorem FZe.of {t : TypeId} {z : Value} (h : ∀ w, (zeroValue t).run Tryz.prog w = .ok z w) : FZe t z := ⟨h⟩
theorem FCa.of {f : FuncId} (h : ∀ az w, (callFunc f az).run Tryz.prog w = .ok (.enter f az) w) : FCa f := ⟨h⟩
@[reducible, instance] def iS0 := FSz.of Tryz.sizeOf0
@[reducible, instance] def iS2 := FSz.of Tryz.sizeOf2
@[reducible, instance] def iS3 := FSz.of Tryz.sizeOf3
@[reducible, instance] def iS4 := FSz.of Tryz.sizeOf4
@[reducible, instance] def iS5 := FSz.of Tryz.sizeOf5
@[reducible, instance] def iS9 := FSz.of Tryz.sizeOf9
@[reducible, instance] def iS12 := FSz.of Tryz.sizeOf12
@[reducible, instance] def iS17 := FSz.of Tryz.sizeOf17
@[reducible, instance] def iS20 := FSz.of Tryz.sizeOf20
@[reducible, instance] def iS22 := FSz.of Tryz.sizeOf22
@[reducible, instance] def iS23 := FSz.of Tryz.sizeOf23
@[reducible, instance] def iS25 := FSz.of Tryz.sizeOf25
@[reducible, instance] def iS29 := FSz.of Tryz.sizeOf29
@[reducible, instance] def iS44 := FSz.of Tryz.sizeOf44
@[reducible, instance] def iS45 := FSz.of Tryz.sizeOf45
@[reducible, instance] def iS47 := FSz.of Tryz.sizeOf47
@[reducible, instance] def iS56 := FSz.of Tryz.sizeOf56
@[reducible, instance] def iS61 := FSz.of Tryz.sizeOf61
@[reducible, instance] def iS67 := FSz.of Tryz.sizeOf67
@[reducible, instance] def iS71 := FSz.of Tryz.sizeOf71
@[reducible, instance] def iS72 := FSz.of Tryz.sizeOf72
@[reducible, instance] def iS84 := FSz.of Tryz.sizeOf84
@[reducible, instance] def iS92 := FSz.of Tryz.sizeOf92
@[reducible, instance] def iS98 := FSz.of Tryz.sizeOf98
@[reducible, instance] def iS99 := FSz.of Tryz.sizeOf99
@[reducible, instance] def iS107 := FSz.of Tryz.sizeOf107
@[reducible, instance] def iS111 := FSz.of Tryz.sizeOf111
@[reducible, instance] def iS123 := FSz.of Tryz.sizeOf123
@[reducible, instance] def iS124 := FSz.of Tryz.sizeOf124
@[reducible, instance] def iS126 := FSz.of Tryz.sizeOf126
@[reducible, instance] def iS128 := FSz.of Tryz.sizeOf128
@[reducible, instance] def iS131 := FSz.of Tryz.sizeOf131
@[reducible, instance] def iS134 := FSz.of Tryz.sizeOf134
@[reducible, instance] def iS146 := FSz.of Tryz.sizeOf146
@[reducible, instance] def iS158 := FSz.of Tryz.sizeOf158
@[reducible, instance] def iS173 := FSz.of Tryz.sizeOf173
@[reducible, instance] def iS181 := FSz.of Tryz.sizeOf181
@[reducible, instance] def iS184 := FSz.of Tryz.sizeOf184
@[reducible, instance] def iS187 := FSz.of Tryz.sizeOf187
@[reducible, instance] def iS191 := FSz.of Tryz.sizeOf191
@[reducible, instance] def iS200 := FSz.of Tryz.sizeOf200
@[reducible, instance] def iS202 := FSz.of Tryz.sizeOf202
@[reducible, instance] def iS212 := FSz.of Tryz.sizeOf212
@[reducible, instance] def iS215 := FSz.of Tryz.sizeOf215
@[reducible, instance] def iS216 := FSz.of Tryz.sizeOf216
@[reducible, instance] def iS220 := FSz.of Tryz.sizeOf220
@[reducible, instance] def iS243 := FSz.of Tryz.sizeOf243
@[reducible, instance] def iS251 := FSz.of Tryz.sizeOf251
@[reducible, instance] def iS252 := FSz.of Tryz.sizeOf252
@[reducible, instance] def iS253 := FSz.of Tryz.sizeOf253
@[reducible, instance] def iS255 := FSz.of Tryz.sizeOf255
@[reducible, instance] def iS262 := FSz.of Tryz.sizeOf262
@[reducible, instance] def iS294 := FSz.of Tryz.sizeOf294
@[reducible, instance] def iS298 := FSz.of Tryz.sizeOf298
@[reducible, instance] def iS301 := FSz.of Tryz.sizeOf301
@[reducible, instance] def iS305 := FSz.of Tryz.sizeOf305
@[reducible, instance] def iS307 := FSz.of Tryz.sizeOf307
@[reducible, instance] def iS327 := FSz.of Tryz.sizeOf327
@[reducible, instance] def iS330 := FSz.of Tryz.sizeOf330
@[reducible, instance] def iS333 := FSz.of Tryz.sizeOf333
@[reducible, instance] def iS335 := FSz.of Tryz.sizeOf335
@[reducible, instance] def iS336 := FSz.of Tryz.sizeOf336
@[reducible, instance] def iS355 := FSz.of Tryz.sizeOf355
@[reducible, instance] def iS356 := FSz.of Tryz.sizeOf356
@[reducible, instance] def iS358 := FSz.of Tryz.sizeOf358
@[reducible, instance] def iS365 := FSz.of Tryz.sizeOf365
@[reducible, instance] def iS366 := FSz.of Tryz.sizeOf366
@[reducible, instance] def iS392 := FSz.of Tryz.sizeOf392
@[reducible, instance] def iS393 := FSz.of Tryz.sizeOf393
@[reducible, instance] def iS408 := FSz.of Tryz.sizeOf408
@[reducible, instance] def iS413 := FSz.of Tryz.sizeOf413
@[reducible, instance] def iS420 := FSz.of Tryz.sizeOf420
@[reducible, instance] def iS421 := FSz.of Tryz.sizeOf421
@[reducible, instance] def iS422 := FSz.of Tryz.sizeOf422
@[reducible, instance] def iS423 := FSz.of Tryz.sizeOf423
@[reducible, instance] def iS424 := FSz.of Tryz.sizeOf424
@[reducible, instance] def iS426 := FSz.of Tryz.sizeOf426
@[reducible, instance] def iS448 := FSz.of Tryz.sizeOf448
@[reducible, instance] def iS455 := FSz.of Tryz.sizeOf455
@[reducible, instance] def iA0 := FAg.of Tryz.isAgg0
@[reducible, instance] def iA2 := FAg.of Tryz.isAgg2
@[reducible, instance] def iA3 := FAg.of Tryz.isAgg3
@[reducible, instance] def iA4 := FAg.of Tryz.isAgg4
@[reducible, instance] def iA5 := FAg.of Tryz.isAgg5
@[reducible, instance] def iA9 := FAg.of Tryz.isAgg9
@[reducible, instance] def iA12 := FAg.of Tryz.isAgg12
@[reducible, instance] def iA17 := FAg.of Tryz.isAgg17
@[reducible, instance] def iA20 := FAg.of Tryz.isAgg20
@[reducible, instance] def iA22 := FAg.of Tryz.isAgg22
@[reducible, instance] def iA23 := FAg.of Tryz.isAgg23
@[reducible, instance] def iA25 := FAg.of Tryz.isAgg25
@[reducible, instance] def iA29 := FAg.of Tryz.isAgg29
@[reducible, instance] def iA44 := FAg.of Tryz.isAgg44
@[reducible, instance] def iA45 := FAg.of Tryz.isAgg45
@[reducible, instance] def iA47 := FAg.of Tryz.isAgg47
@[reducible, instance] def iA56 := FAg.of Tryz.isAgg56
@[reducible, instance] def iA61 := FAg.of Tryz.isAgg61
@[reducible, instance] def iA67 := FAg.of Tryz.isAgg67
@[reducible, instance] def iA71 := FAg.of Tryz.isAgg71
@[reducible, instance] def iA72 := FAg.of Tryz.isAgg72
@[reducible, instance] def iA80 := FAg.of Tryz.isAgg80
@[reducible, instance] def iA92 := FAg.of Tryz.isAgg92
@[reducible, instance] def iA98 := FAg.of Tryz.isAgg98
@[reducible, instance] def iA99 := FAg.of Tryz.isAgg99
@[reducible, instance] def iA107 := FAg.of Tryz.isAgg107
@[reducible, instance] def iA111 := FAg.of Tryz.isAgg111
@[reducible, instance] def iA123 := FAg.of Tryz.isAgg123
@[reducible, instance] def iA124 := FAg.of Tryz.isAgg124
@[reducible, instance] def iA126 := FAg.of Tryz.isAgg126
@[reducible, instance] def iA128 := FAg.of Tryz.isAgg128
@[reducible, instance] def iA131 := FAg.of Tryz.isAgg131
@[reducible, instance] def iA134 := FAg.of Tryz.isAgg134
@[reducible, instance] def iA146 := FAg.of Tryz.isAgg146
@[reducible, instance] def iA158 := FAg.of Tryz.isAgg158
@[reducible, instance] def iA173 := FAg.of Tryz.isAgg173
@[reducible, instance] def iA181 := FAg.of Tryz.isAgg181
@[reducible, instance] def iA184 := FAg.of Tryz.isAgg184
@[reducible, instance] def iA187 := FAg.of Tryz.isAgg187
@[reducible, instance] def iA191 := FAg.of Tryz.isAgg191
@[reducible, instance] def iA200 := FAg.of Tryz.isAgg200
@[reducible, instance] def iA202 := FAg.of Tryz.isAgg202
@[reducible, instance] def iA212 := FAg.of Tryz.isAgg212
@[reducible, instance] def iA215 := FAg.of Tryz.isAgg215
@[reducible, instance] def iA216 := FAg.of Tryz.isAgg216
@[reducible, instance] def iA220 := FAg.of Tryz.isAgg220
@[reducible, instance] def iA251 := FAg.of Tryz.isAgg251
@[reducible, instance] def iA252 := FAg.of Tryz.isAgg252
@[reducible, instance] def iA294 := FAg.of Tryz.isAgg294
@[reducible, instance] def iA298 := FAg.of Tryz.isAgg298
@[reducible, instance] def iA301 := FAg.of Tryz.isAgg301
@[reducible, instance] def iA305 := FAg.of Tryz.isAgg305
@[reducible, instance] def iA327 := FAg.of Tryz.isAgg327
@[reducible, instance] def iA330 := FAg.of Tryz.isAgg330
@[reducible, instance] def iA333 := FAg.of Tryz.isAgg333
@[reducible, instance] def iA335 := FAg.of Tryz.isAgg335
@[reducible, instance] def iA336 := FAg.of Tryz.isAgg336
@[reducible, instance] def iA355 := FAg.of Tryz.isAgg355
@[reducible, instance] def iA356 := FAg.of Tryz.isAgg356
@[reducible, instance] def iA358 := FAg.of Tryz.isAgg358
@[reducible, instance] def iA365 := FAg.of Tryz.isAgg365
@[reducible, instance] def iA392 := FAg.of Tryz.isAgg392
@[reducible, instance] def iA393 := FAg.of Tryz.isAgg393
@[reducible, instance] def iA408 := FAg.of Tryz.isAgg408
@[reducible, instance] def iA413 := FAg.of Tryz.isAgg413
@[reducible, instance] def iA420 := FAg.of Tryz.isAgg420
@[reducible, instance] def iA421 := FAg.of Tryz.isAgg421
@[reducible, instance] def iA422 := FAg.of Tryz.isAgg422
@[reducible, instance] def iA423 := FAg.of Tryz.isAgg423
@[reducible, instance] def iA424 := FAg.of Tryz.isAgg424
@[reducible, instance] def iA426 := FAg.of Tryz.isAgg426
@[reducible, instance] def iA448 := FAg.of Tryz.isAgg448
@[reducible, instance] def iA455 := FAg.of Tryz.isAgg455
@[reducible, instance] def iU2 := FUn.of Tryz.runUnderlying2
@[reducible, instance] def iU3 := FUn.of Tryz.runUnderlying3
@[reducible, instance] def iU5 := FUn.of Tryz.runUnderlying5
@[reducible, instance] def iU9 := FUn.of Tryz.runUnderlying9
@[reducible, instance] def iU21 := FUn.of Tryz.runUnderlying21
@[reducible, instance] def iU22 := FUn.of Tryz.runUnderlying22
@[reducible, instance] def iU23 := FUn.of Tryz.runUnderlying23
@[reducible, instance] def iU25 := FUn.of Tryz.runUnderlying25
@[reducible, instance] def iU29 := FUn.of Tryz.runUnderlying29
@[reducible, instance] def iU44 := FUn.of Tryz.runUnderlying44
@[reducible, instance] def iU45 := FUn.of Tryz.runUnderlying45
@[reducible, instance] def iU47 := FUn.of Tryz.runUnderlying47
@[reducible, instance] def iU56 := FUn.of Tryz.runUnderlying56
@[reducible, instance] def iU61 := FUn.of Tryz.runUnderlying61
@[reducible, instance] def iU67 := FUn.of Tryz.runUnderlying67
@[reducible, instance] def iU72 := FUn.of Tryz.runUnderlying72
@[reducible, instance] def iU75 := FUn.of Tryz.runUnderlying75
@[reducible, instance] def iU80 := FUn.of Tryz.runUnderlying80
@[reducible, instance] def iU86 := FUn.of Tryz.runUnderlying86
@[reducible, instance] def iU89 := FUn.of Tryz.runUnderlying89
@[reducible, instance] def iU98 := FUn.of Tryz.runUnderlying98
@[reducible, instance] def iU99 := FUn.of Tryz.runUnderlying99
@[reducible, instance] def iU107 := FUn.of Tryz.runUnderlying107
@[reducible, instance] def iU109 := FUn.of Tryz.runUnderlying109
@[reducible, instance] def iU111 := FUn.of Tryz.runUnderlying111
@[reducible, instance] def iU117 := FUn.of Tryz.runUnderlying117
@[reducible, instance] def iU131 := FUn.of Tryz.runUnderlying131
@[reducible, instance] def iU134 := FUn.of Tryz.runUnderlying134
@[reducible, instance] def iU144 := FUn.of Tryz.runUnderlying144
@[reducible, instance] def iU150 := FUn.of Tryz.runUnderlying150
@[reducible, instance] def iU158 := FUn.of Tryz.runUnderlying158
@[reducible, instance] def iU173 := FUn.of Tryz.runUnderlying173
@[reducible, instance] def iU178 := FUn.of Tryz.runUnderlying178
@[reducible, instance] def iU181 := FUn.of Tryz.runUnderlying181
@[reducible, instance] def iU182 := FUn.of Tryz.runUnderlying182
@[reducible, instance] def iU184 := FUn.of Tryz.runUnderlying184
@[reducible, instance] def iU187 := FUn.of Tryz.runUnderlying187
@[reducible, instance] def iU200 := FUn.of Tryz.runUnderlying200
@[reducible, instance] def iU202 := FUn.of Tryz.runUnderlying202
@[reducible, instance] def iU212 := FUn.of Tryz.runUnderlying212
@[reducible, instance] def iU227 := FUn.of Tryz.runUnderlying227
@[reducible, instance] def iU237 := FUn.of Tryz.runUnderlying237
@[reducible, instance] def iU243 := FUn.of Tryz.runUnderlying243
@[reducible, instance] def iU251 := FUn.of Tryz.runUnderlying251
@[reducible, instance] def iU255 := FUn.of Tryz.runUnderlying255
@[reducible, instance] def iU260 := FUn.of Tryz.runUnderlying260
@[reducible, instance] def iU271 := FUn.of Tryz.runUnderlying271
@[reducible, instance] def iU273 := FUn.of Tryz.runUnderlying273
@[reducible, instance] def iU274 := FUn.of Tryz.runUnderlying274
@[reducible, instance] def iU277 := FUn.of Tryz.runUnderlying277
@[reducible, instance] def iU296 := FUn.of Tryz.runUnderlying296
@[reducible, instance] def iU297 := FUn.of Tryz.runUnderlying297
@[reducible, instance] def iU298 := FUn.of Tryz.runUnderlying298
@[reducible, instance] def iU305 := FUn.of Tryz.runUnderlying305
@[reducible, instance] def iU307 := FUn.of Tryz.runUnderlying307
@[reducible, instance] def iU310 := FUn.of Tryz.runUnderlying310
@[reducible, instance] def iU311 := FUn.of Tryz.runUnderlying311
@[reducible, instance] def iU327 := FUn.of Tryz.runUnderlying327
@[reducible, instance] def iU328 := FUn.of Tryz.runUnderlying328
@[reducible, instance] def iU330 := FUn.of Tryz.runUnderlying330
@[reducible, instance] def iU335 := FUn.of Tryz.runUnderlying335
@[reducible, instance] def iU338 := FUn.of Tryz.runUnderlying338
@[reducible, instance] def iU360 := FUn.of Tryz.runUnderlying360
@[reducible, instance] def iU361 := FUn.of Tryz.runUnderlying361
@[reducible, instance] def iU363 := FUn.of Tryz.runUnderlying363
@[reducible, instance] def iU366 := FUn.of Tryz.runUnderlying366
@[reducible, instance] def iU368 := FUn.of Tryz.runUnderlying368
@[reducible, instance] def iU408 := FUn.of Tryz.runUnderlying408
@[reducible, instance] def iU437 := FUn.of Tryz.runUnderlying437
@[reducible, instance] def iU438 := FUn.of Tryz.runUnderlying438
@[reducible, instance] def iU448 := FUn.of Tryz.runUnderlying448
@[reducible, instance] def iU451 := FUn.of Tryz.runUnderlying451
@[reducible, instance] def iU452 := FUn.of Tryz.runUnderlying452
@[reducible, instance] def iU455 := FUn.of Tryz.runUnderlying455
@[reducible, instance] def iU457 := FUn.of Tryz.runUnderlying457
@[reducible, instance] def iU472 := FUn.of Tryz.runUnderlying472
@[reducible, instance] def iZ0 := FZe.of Tryz.zeroValue0
@[reducible, instance] def iZ3 := FZe.of Tryz.zeroValue3
@[reducible, instance] def iZ4 := FZe.of Tryz.zeroValue4
@[reducible, instance] def iZ5 := FZe.of Tryz.zeroValue5
@[reducible, instance] def iZ9 := FZe.of Tryz.zeroValue9
@[reducible, instance] def iZ12 := FZe.of Tryz.zeroValue12
@[reducible, instance] def iZ17 := FZe.of Tryz.zeroValue17
@[reducible, instance] def iZ20 := FZe.of Tryz.zeroValue20
@[reducible, instance] def iZ22 := FZe.of Tryz.zeroValue22
@[reducible, instance] def iZ23 := FZe.of Tryz.zeroValue23
@[reducible, instance] def iZ25 := FZe.of Tryz.zeroValue25
@[reducible, instance] def iZ29 := FZe.of Tryz.zeroValue29
@[reducible, instance] def iZ56 := FZe.of Tryz.zeroValue56
@[reducible, instance] def iZ61 := FZe.of Tryz.zeroValue61
@[reducible, instance] def iZ67 := FZe.of Tryz.zeroValue67
@[reducible, instance] def iZ71 := FZe.of Tryz.zeroValue71
@[reducible, instance] def iZ86 := FZe.of Tryz.zeroValue86
@[reducible, instance] def iZ98 := FZe.of Tryz.zeroValue98
@[reducible, instance] def iZ99 := FZe.of Tryz.zeroValue99
@[reducible, instance] def iZ109 := FZe.of Tryz.zeroValue109
@[reducible, instance] def iZ111 := FZe.of Tryz.zeroValue111
@[reducible, instance] def iZ123 := FZe.of Tryz.zeroValue123
@[reducible, instance] def iZ124 := FZe.of Tryz.zeroValue124
@[reducible, instance] def iZ126 := FZe.of Tryz.zeroValue126
@[reducible, instance] def iZ128 := FZe.of Tryz.zeroValue128
@[reducible, instance] def iZ131 := FZe.of Tryz.zeroValue131
@[reducible, instance] def iZ134 := FZe.of Tryz.zeroValue134
@[reducible, instance] def iZ144 := FZe.of Tryz.zeroValue144
@[reducible, instance] def iZ173 := FZe.of Tryz.zeroValue173
@[reducible, instance] def iZ181 := FZe.of Tryz.zeroValue181
@[reducible, instance] def iZ182 := FZe.of Tryz.zeroValue182
@[reducible, instance] def iZ184 := FZe.of Tryz.zeroValue184
@[reducible, instance] def iZ187 := FZe.of Tryz.zeroValue187
@[reducible, instance] def iZ191 := FZe.of Tryz.zeroValue191
@[reducible, instance] def iZ202 := FZe.of Tryz.zeroValue202
@[reducible, instance] def iZ212 := FZe.of Tryz.zeroValue212
@[reducible, instance] def iZ215 := FZe.of Tryz.zeroValue215
@[reducible, instance] def iZ216 := FZe.of Tryz.zeroValue216
@[reducible, instance] def iZ220 := FZe.of Tryz.zeroValue220
@[reducible, instance] def iZ243 := FZe.of Tryz.zeroValue243
@[reducible, instance] def iZ251 := FZe.of Tryz.zeroValue251
@[reducible, instance] def iZ255 := FZe.of Tryz.zeroValue255
@[reducible, instance] def iZ273 := FZe.of Tryz.zeroValue273
@[reducible, instance] def iZ277 := FZe.of Tryz.zeroValue277
@[reducible, instance] def iZ296 := FZe.of Tryz.zeroValue296
@[reducible, instance] def iZ297 := FZe.of Tryz.zeroValue297
@[reducible, instance] def iZ298 := FZe.of Tryz.zeroValue298
@[reducible, instance] def iZ301 := FZe.of Tryz.zeroValue301
@[reducible, instance] def iZ307 := FZe.of Tryz.zeroValue307
@[reducible, instance] def iZ310 := FZe.of Tryz.zeroValue310
@[reducible, instance] def iZ327 := FZe.of Tryz.zeroValue327
@[reducible, instance] def iZ330 := FZe.of Tryz.zeroValue330
@[reducible, instance] def iZ336 := FZe.of Tryz.zeroValue336
@[reducible, instance] def iZ338 := FZe.of Tryz.zeroValue338
@[reducible, instance] def iZ355 := FZe.of Tryz.zeroValue355
@[reducible, instance] def iZ356 := FZe.of Tryz.zeroValue356
@[reducible, instance] def iZ358 := FZe.of Tryz.zeroValue358
@[reducible, instance] def iZ363 := FZe.of Tryz.zeroValue363
@[reducible, instance] def iZ368 := FZe.of Tryz.zeroValue368
@[reducible, instance] def iZ392 := FZe.of Tryz.zeroValue392
@[reducible, instance] def iZ393 := FZe.of Tryz.zeroValue393
@[reducible, instance] def iZ408 := FZe.of Tryz.zeroValue408
@[reducible, instance] def iZ413 := FZe.of Tryz.zeroValue413
@[reducible, instance] def iZ420 := FZe.of Tryz.zeroValue420
@[reducible, instance] def iZ421 := FZe.of Tryz.zeroValue421
@[reducible, instance] def iZ422 := FZe.of Tryz.zeroValue422
@[reducible, instance] def iZ423 := FZe.of Tryz.zeroValue423
@[reducible, instance] def iZ424 := FZe.of Tryz.zeroValue424
@[reducible, instance] def iZ426 := FZe.of Tryz.zeroValue426
@[reducible, instance] def iZ433 := FZe.of Tryz.zeroValue433
@[reducible, instance] def iZ437 := FZe.of Tryz.zeroValue437
@[reducible, instance] def iZ448 := FZe.of Tryz.zeroValue448
@[reducible, instance] def iZ452 := FZe.of Tryz.zeroValue452
@[reducible, instance] def iZ455 := FZe.of Tryz.zeroValue455
@[reducible, instance] def iC10 := FCa.of Tryz.call10
@[reducible, instance] def iC12 := FCa.of Tryz.call12
@[reducible, instance] def iC15 := FCa.of Tryz.call15
@[reducible, instance] def iC19 := FCa.of Tryz.call19
@[reducible, instance] def iC21 := FCa.of Tryz.call21
@[reducible, instance] def iC22 := FCa.of Tryz.call22
@[reducible, instance] def iC23 := FCa.of Tryz.call23
@[reducible, instance] def iC24 := FCa.of Tryz.call24
@[reducible, instance] def iC25 := FCa.of Tryz.call25
@[reducible, instance] def iC26 := FCa.of Tryz.call26
@[reducible, instance] def iC27 := FCa.of Tryz.call27
@[reducible, instance] def iC28 := FCa.of Tryz.call28
@[reducible, instance] def iC29 := FCa.of Tryz.call29
@[reducible, instance] def iC30 := FCa.of Tryz.call30
@[reducible, instance] def iC31 := FCa.of Tryz.call31
@[reducible, instance] def iC32 := FCa.of Tryz.call32
@[reducible, instance] def iC33 := FCa.of Tryz.call33
@[reducible, instance] def iC34 := FCa.of Tryz.call34
@[reducible, instance] def iC37 := FCa.of Tryz.call37
@[reducible, instance] def iC38 := FCa.of Tryz.call38
@[reducible, instance] def iC40 := FCa.of Tryz.call40
@[reducible, instance] def iC41 := FCa.of Tryz.call41
@[reducible, instance] def iC42 := FCa.of Tryz.call42
@[reducible, instance] def iC43 := FCa.of Tryz.call43
@[reducible, instance] def iC44 := FCa.of Tryz.call44
@[reducible, instance] def iC45 := FCa.of Tryz.call45
@[reducible, instance] def iC46 := FCa.of Tryz.call46
@[reducible, instance] def iC47 := FCa.of Tryz.call47
@[reducible, instance] def iC48 := FCa.of Tryz.call48
@[reducible, instance] def iC49 := FCa.of Tryz.call49
@[reducible, instance] def iC50 := FCa.of Tryz.call50
@[reducible, instance] def iC51 := FCa.of Tryz.call51
@[reducible, instance] def iC52 := FCa.of Tryz.call52
@[reducible, instance] def iC53 := FCa.of Tryz.call53
@[reducible, instance] def iC55 := FCa.of Tryz.call55
@[reducible, instance] def iC56 := FCa.of Tryz.call56
@[reducible, instance] def iC57 := FCa.of Tryz.call57
@[reducible, instance] def iC58 := FCa.of Tryz.call58
@[reducible, instance] def iC59 := FCa.of Tryz.call59
@[reducible, instance] def iC60 := FCa.of Tryz.call60
@[reducible, instance] def iC61 := FCa.of Tryz.call61
@[reducible, instance] def iC62 := FCa.of Tryz.call62
@[reducible, instance] def iC66 := FCa.of Tryz.call66
@[reducible, instance] def iC68 := FCa.of Tryz.call68
@[reducible, instance] def iC71 := FCa.of Tryz.call71
@[reducible, instance] def iC72 := FCa.of Tryz.call72
@[reducible, instance] def iC73 := FCa.of Tryz.call73
@[reducible, instance] def iC74 := FCa.of Tryz.call74
@[reducible, instance] def iC76 := FCa.of Tryz.call76
@[reducible, instance] def iC77 := FCa.of Tryz.call77
@[reducible, instance] def iC78 := FCa.of Tryz.call78
@[reducible, instance] def iC79 := FCa.of Tryz.call79
@[reducible, instance] def iC80 := FCa.of Tryz.call80
@[reducible, instance] def iC81 := FCa.of Tryz.call81
@[reducible, instance] def iC82 := FCa.of Tryz.call82
@[reducible, instance] def iC83 := FCa.of Tryz.call83
@[reducible, instance] def iC84 := FCa.of Tryz.call84
@[reducible, instance] def iC85 := FCa.of Tryz.call85
@[reducible, instance] def iC87 := FCa.of Tryz.call87
@[reducible, instance] def iC88 := FCa.of Tryz.call88
@[reducible, instance] def iC89 := FCa.of Tryz.call89
@[reducible, instance] def iC90 := FCa.of Tryz.call90
@[reducible, instance] def iC91 := FCa.of Tryz.call91
@[reducible, instance] def iC92 := FCa.of Tryz.call92
@[reducible, instance] def iC93 := FCa.of Tryz.call93
@[reducible, instance] def iC94 := FCa.of Tryz.call94
@[reducible, instance] def iC95 := FCa.of Tryz.call95
@[reducible, instance] def iC96 := FCa.of Tryz.call96
@[reducible, instance] def iC97 := FCa.of Tryz.call97
@[reducible, instance] def iC98 := FCa.of Tryz.call98
@[reducible, instance] def iC99 := FCa.of Tryz.call99
@[reducible, instance] def iC100 := FCa.of Tryz.call100
@[reducible, instance] def iC101 := FCa.of Tryz.call101
@[reducible, instance] def iC102 := FCa.of Tryz.call102
@[reducible, instance] def iC103 := FCa.of Tryz.call103
@[reducible, instance] def iC104 := FCa.of Tryz.call104
@[reducible, instance] def iC108 := FCa.of Tryz.call108
@[reducible, instance] def iC109 := FCa.of Tryz.call109
@[reducible, instance] def iC110 := FCa.of Tryz.call110
@[reducible, instance] def iC111 := FCa.of Tryz.call111
@[reducible, instance] def iC112 := FCa.of Tryz.call112
@[reducible, instance] def iC123 := FCa.of Tryz.call123
@[reducible, instance] def iC124 := FCa.of Tryz.call124
@[reducible, instance] def iC132 := FCa.of Tryz.call132
@[reducible, instance] def iC133 := FCa.of Tryz.call133
@[reducible, instance] def iC134 := FCa.of Tryz.call134
@[reducible, instance] def iC135 := FCa.of Tryz.call135
@[reducible, instance] def iC136 := FCa.of Tryz.call136
@[reducible, instance] def iC137 := FCa.of Tryz.call137
@[reducible, instance] def iC138 := FCa.of Tryz.call138
@[reducible, instance] def iC148 := FCa.of Tryz.call148
@[reducible, instance] def iC149 := FCa.of Tryz.call149
@[reducible, instance] def iC150 := FCa.of Tryz.call150
@[reducible, instance] def iC151 := FCa.of Tryz.call151
@[reducible, instance] def iC152 := FCa.of Tryz.call152
@[reducible, instance] def iC153 := FCa.of Tryz.call153
@[reducible, instance] def iC154 := FCa.of Tryz.call154
@[reducible, instance] def iC155 := FCa.of Tryz.call155
@[reducible, instance] def iC156 := FCa.of Tryz.call156
@[reducible, instance] def iC157 := FCa.of Tryz.call157
@[reducible, instance] def iC158 := FCa.of Tryz.call158
@[reducible, instance] def iC159 := FCa.of Tryz.call159
@[reducible, instance] def iC160 := FCa.of Tryz.call160
@[reducible, instance] def iC161 := FCa.of Tryz.call161
@[reducible, instance] def iC162 := FCa.of Tryz.call162
@[reducible, instance] def iC163 := FCa.of Tryz.call163
@[reducible, instance] def iC164 := FCa.of Tryz.call164
@[reducible, instance] def iC165 := FCa.of Tryz.call165
@[reducible, instance] def iC166 := FCa.of Tryz.call166
@[reducible, instance] def iC167 := FCa.of Tryz.call167
@[reducible, instance] def iC168 := FCa.of Tryz.call168
@[reducible, instance] def iC169 := FCa.of Tryz.call169
@[reducible, instance] def iC170 := FCa.of Tryz.call170
@[reducible, instance] def iC171 := FCa.of Tryz.call171
@[reducible, instance] def iC172 := FCa.of Tryz.call172
@[reducible, instance] def iC173 := FCa.of Tryz.call173
@[reducible, instance] def iC174 := FCa.of Tryz.call174
@[reducible, instance] def iC178 := FCa.of Tryz.call178
@[reducible, instance] def iC179 := FCa.of Tryz.call179
@[reducible, instance] def iC181 := FCa.of Tryz.call181
@[reducible, instance] def iC182 := FCa.of Tryz.call182
@[reducible, instance] def iC185 := FCa.of Tryz.call185
@[reducible, instance] def iC186 := FCa.of Tryz.call186
@[reducible, instance] def iC187 := FCa.of Tryz.call187
@[reducible, instance] def iC188 := FCa.of Tryz.call188
@[reducible, instance] def iC189 := FCa.of Tryz.call189
@[reducible, instance] def iC190 := FCa.of Tryz.call190
@[reducible, instance] def iC191 := FCa.of Tryz.call191
@[reducible, instance] def iC192 := FCa.of Tryz.call192
@[reducible, instance] def iC193 := FCa.of Tryz.call193
@[reducible, instance] def iC201 := FCa.of Tryz.call201
@[reducible, instance] def iC202 := FCa.of Tryz.call202
@[reducible, instance] def iC203 := FCa.of Tryz.call203
@[reducible, instance] def iC207 := FCa.of Tryz.call207
@[reducible, instance] def iC208 := FCa.of Tryz.call208
@[reducible, instance] def iC209 := FCa.of Tryz.call209
@[reducible, instance] def iC210 := FCa.of Tryz.call210
@[reducible, instance] def iC211 := FCa.of Tryz.call211
@[reducible, instance] def iC212 := FCa.of Tryz.call212
@[reducible, instance] def iC213 := FCa.of Tryz.call213
@[reducible, instance] def iC214 := FCa.of Tryz.call214
@[reducible, instance] def iC216 := FCa.of Tryz.call216
@[reducible, instance] def iC217 := FCa.of Tryz.call217
@[reducible, instance] def iC219 := FCa.of Tryz.call219
@[reducible, instance] def iC223 := FCa.of Tryz.call223
@[reducible, instance] def iC224 := FCa.of Tryz.call224
@[reducible, instance] def iC228 := FCa.of Tryz.call228
@[reducible, instance] def iC235 := FCa.of Tryz.call235
@[reducible, instance] def iC236 := FCa.of Tryz.call236
@[reducible, instance] def iC238 := FCa.of Tryz.call238
@[reducible, instance] def iC239 := FCa.of Tryz.call239
@[reducible, instance] def iC240 := FCa.of Tryz.call240
@[reducible, instance] def iC250 := FCa.of Tryz.call250
@[reducible, instance] def iC262 := FCa.of Tryz.call262
@[reducible, instance] def iC263 := FCa.of Tryz.call263
@[reducible, instance] def iC267 := FCa.of Tryz.call267
@[reducible, instance] def iC288 := FCa.of Tryz.call288
@[reducible, instance] def iC289 := FCa.of Tryz.call289
@[reducible, instance] def iC290 := FCa.of Tryz.call290
@[reducible, instance] def iC294 := FCa.of Tryz.call294
@[reducible, instance] def iC296 := FCa.of Tryz.call296
@[reducible, instance] def iC297 := FCa.of Tryz.call297
@[reducible, instance] def iC298 := FCa.of Tryz.call298
@[reducible, instance] def iC299 := FCa.of Tryz.call299
@[reducible, instance] def iC300 := FCa.of Tryz.call300
@[reducible, instance] def iC308 := FCa.of Tryz.call308
@[reducible, instance] def iC310 := FCa.of Tryz.call310
@[reducible, instance] def iC311 := FCa.of Tryz.call311
@[reducible, instance] def iC312 := FCa.of Tryz.call312
@[reducible, instance] def iC315 := FCa.of Tryz.call315
@[reducible, instance] def iC316 := FCa.of Tryz.call316
@[reducible, instance] def iC317 := FCa.of Tryz.call317
@[reducible, instance] def iC318 := FCa.of Tryz.call318
@[reducible, instance] def iC319 := FCa.of Tryz.call319
@[reducible, instance] def iC320 := FCa.of Tryz.call320
@[reducible, instance] def iC321 := FCa.of Tryz.call321
@[reducible, instance] def iC322 := FCa.of Tryz.call322
@[reducible, instance] def iC324 := FCa.of Tryz.call324
@[reducible, instance] def iC325 := FCa.of Tryz.call325
@[reducible, instance] def iC326 := FCa.of Tryz.call326
@[reducible, instance] def iC327 := FCa.of Tryz.call327
@[reducible, instance] def iC328 := FCa.of Tryz.call328
@[reducible, instance] def iC329 := FCa.of Tryz.call329
@[reducible, instance] def iC330 := FCa.of Tryz.call330
@[reducible, instance] def iC331 := FCa.of Tryz.call331
@[reducible, instance] def iC332 := FCa.of Tryz.call332
@[reducible, instance] def iC337 := FCa.of Tryz.call337
@[reducible, instance] def iC338 := FCa.of Tryz.call338
@[reducible, instance] def iC339 := FCa.of Tryz.call339
@[reducible, instance] def iC340 := FCa.of Tryz.call340
@[reducible, instance] def iC341 := FCa.of Tryz.call341
@[reducible, instance] def iC342 := FCa.of Tryz.call342
@[reducible, instance] def iC343 := FCa.of Tryz.call343
@[reducible, instance] def iC344 := FCa.of Tryz.call344
@[reducible, instance] def iC345 := FCa.of Tryz.call345
@[reducible, instance] def iC346 := FCa.of Tryz.call346
@[reducible, instance] def iC347 := FCa.of Tryz.call347
@[reducible, instance] def iC348 := FCa.of Tryz.call348
@[reducible, instance] def iC349 := FCa.of Tryz.call349
@[reducible, instance] def iC350 := FCa.of Tryz.call350
@[reducible, instance] def iC351 := FCa.of Tryz.call351
@[reducible, instance] def iC352 := FCa.of Tryz.call352
@[reducible, instance] def iC353 := FCa.of Tryz.call353
@[reducible, instance] def iC354 := FCa.of Tryz.call354
@[reducible, instance] def iC355 := FCa.of Tryz.call355
@[reducible, instance] def iC356 := FCa.of Tryz.call356
@[reducible, instance] def iC357 := FCa.of Tryz.call357
@[reducible, instance] def iC358 := FCa.of Tryz.call358
@[reducible, instance] def iC359 := FCa.of Tryz.call359
@[reducible, instance] def iC360 := FCa.of Tryz.call360
@[reducible, instance] def iC361 := FCa.of Tryz.call361
@[reducible, instance] def iC363 := FCa.of Tryz.call363
@[reducible, instance] def iC364 := FCa.of Tryz.call364
@[reducible, instance] def iC365 := FCa.of Tryz.call365
@[reducible, instance] def iC366 := FCa.of Tryz.call366
@[reducible, instance] def iC367 := FCa.of Tryz.call367
@[reducible, instance] def iC368 := FCa.of Tryz.call368
@[reducible, instance] def iC369 := FCa.of Tryz.call369
@[reducible, instance] def iC370 := FCa.of Tryz.call370
@[reducible, instance] def iC371 := FCa.of Tryz.call371
@[reducible, instance] def iC372 := FCa.of Tryz.call372
@[reducible, instance] def iC373 := FCa.of Tryz.call373
@[reducible, instance] def iC374 := FCa.of Tryz.call374
@[reducible, instance] def iC375 := FCa.of Tryz.call375
@[reducible, instance] def iC376 := FCa.of Tryz.call376
@[reducible, instance] def iC377 := FCa.of Tryz.call377
@[reducible, instance] def iC378 := FCa.of Tryz.call378
@[reducible, instance] def iC379 := FCa.of Tryz.call379
@[reducible, instance] def iC380 := FCa.of Tryz.call380
@[reducible, instance] def iC381 := FCa.of Tryz.call381
@[reducible, instance] def iC382 := FCa.of Tryz.call382
@[reducible, instance] def iC383 := FCa.of Tryz.call383
@[reducible, instance] def iC384 := FCa.of Tryz.call384
@[reducible, instance] def iC385 := FCa.of Tryz.call385
@[reducible, instance] def iC393 := FCa.of Tryz.call393
@[reducible, instance] def iC394 := FCa.of Tryz.call394
@[reducible, instance] def iC401 := FCa.of Tryz.call401
@[reducible, instance] def iC410 := FCa.of Tryz.call410
@[reducible, instance] def iC411 := FCa.of Tryz.call411
@[reducible, instance] def iC412 := FCa.of Tryz.call412
@[reducible, instance] def iC416 := FCa.of Tryz.call416
@[reducible, instance] def iC417 := FCa.of Tryz.call417
@[reducible, instance] def iC418 := FCa.of Tryz.call418
@[reducible, instance] def iC424 := FCa.of Tryz.call424
@[reducible, instance] def iC425 := FCa.of Tryz.call425
@[reducible, instance] def iC426 := FCa.of Tryz.call426
section
variable {x : Cx} {ops : Array Oper} {k : List KI} {rest : List Oper} {s : Slots} {H HS : HP} {d n : Nat} {op : Op} {ty : TypeId} {pos : String} {af : Array Edge} {gd : Option (Nat × Bool)} {v : Value} {Q : Prop} {p q : Operand} {t t' : TypeId}
theorem aU {P : Prop} (h : P := by first | exact .head | exact .tail .head | exact .tail (.tail .head) | exact .tail (.tail (.tail .head)) | exact .tail (.tail (.tail (.tail .head))) | exact .tail (.tail (.tail (.tail (.tail .head)))) | exact .tail (.tail (.tail (.tail (.tail (.tail .head))))) | exact .tail (.tail (.tail (.tail (.tail (.tail (.tail .head)))))) | exact .tail (.tail (.tail (.tail (.tail (.tail (.tail (.tail .head)))))))) : P := h
theorem aS {P : Prop} (h : P := by first | exact .head | exact .tail .head | exact .tail (.tail .head) | exact .tail (.tail (.tail .head)) | exact .tail (.tail (.tail (.tail .head))) | exact .tail (.tail (.tail (.tail (.tail .head)))) | exact .tail (.tail (.tail (.tail (.tail (.tail .head))))) | exact .tail (.tail (.tail (.tail (.tail (.tail (.tail .head)))))) | exact .tail (.tail (.tail (.tail (.tail (.tail (.tail (.tail .head))))))) | exact .tail (.tail (.tail (.tail (.tail (.tail (.tail (.tail (.tail .head)))))))) | exact .tail (.tail (.tail (.tail (.tail (.tail (.tail (.tail (.tail (.tail .head))))))))) | exact .tail (.tail (.tail (.tail (.tail (.tail (.tail (.tail (.tail (.tail (.tail .head))))))))))) : P := h
theorem aM {A B : Prop} (h : A ∨ B := by first | exact .inr (by assumption) | exact .inl (by repeat (first | exact List.Mem.head _ | refine List.Mem.tail _ ?_))) : A ∨ B := h
theorem aH {P : Prop} (h : P := by first | exact fun _ _ => hs_nil | (intro y hy p hp; simp only [List.mem_cons, List.mem_append, List.not_mem_nil, or_false, false_or] at hp ⊢; first | exact hp.elim | (simp only [hp, true_or, or_true]) | (rcases hp with rfl | rfl | rfl <;> simp) | grind)) : P := h
theorem aC {P : Prop} (h : P := by first | assumption | repeat constructor) : P := h
theorem aI {kd : IntKind} {z : Int} (h : inR kd z := by simp only [inR]; omega) : inR kd z := h
theorem aN {P : Prop} (h : P := by first | omega | (simp only [List.length_append, List.length_cons, List.length_nil]; omega) | (simp; omega)) : P := h
theorem aG {P : Prop} (h : P := by (intro p hp; first | exact hp | exact List.mem_append_right _ hp | ((try simp only [List.mem_append, List.mem_cons, List.not_mem_nil, or_false, false_or] at hp ⊢) <;> first | exact hp.elim | grind))) : P := h
theorem aK {P : Prop} (h : P := by repeat (first | exact sub_nil | refine sub_cons rfl ?_)) : P := h
theorem aP {H H' : HP} (h : H.Perm H' := by refine Go.Sl.perm_of_count fun c e h0 h1 h2 a => ?_; simp only [h0, h1, h2, Nat.add_zero, Nat.zero_add]; try ac_rfl) : H.Perm H' := h
theorem e_faz {g off m i fo bo : Nat} {ft : TypeId} {nm tg pk : String} {em : Bool} {fs : Array Field} (hU : ∀ w, (underlying t).run x.P w = .ok (.struct fs) w) (hf : fs[i]? = some ⟨nm, ft, fo, em, tg, pk, bo⟩) (hS : ∀ w, (sizeOf ft).run x.P w = .ok m w) (hm : Nat.beq m 0 = false) (hp : ev s p = some (.pointer (some ⟨g, off, none⟩))) : Ex x s H ⟨some d, .fieldAddr t p i, ty, pos, af, gd⟩ (.pointer (some ⟨g, off + fo, none⟩)) := e_fak fo hU hf hS hm hp rfl
def isIf : TypeDesc → Bool
  | .interface _ => true
  | _ => false
theorem e_mkz {ds : TypeDesc} (hU : ∀ w, (underlying t).run x.P w = .ok ds w) (hn : isIf ds = false) (hp : ev s p = some v) : Ex x s H ⟨some d, .makeInterface t p, ty, pos, af, gd⟩ (.iface t v) := e_mkif hU (by cases ds <;> first | rfl | cases hn) hp
theorem e_lenZ {e e' : TypeId} {sz n : Nat} {xs : List Value} {HB : HP} (hU : ∀ w, (underlying t).run x.P w = .ok (.slice e) w) (hp : ev s p = some v) (ho : Osl e' sz v n xs HB) : Ex x s H ⟨some d, .call { callee := .builtin .len, args := #[p], argTypes := #[t] }, ty, pos, af, gd⟩ (.int .i64 n) := e_lenO hU ho hp
theorem e_pred1 {m : Nat} (hp : ev s p = some (.int .i64 ((m + 1 : Nat) : Int))) (h : m < 9223372036854775807) : Ex x s H ⟨some d, .binOp .sub t p (.const (.int .i64 1)) t', ty, pos, af, gd⟩ (.int .i64 (m : Nat)) := e_pred hp rfl h
theorem e_subk {m : Nat} (hp : ev s p = some (.int .i64 (m : Nat))) (h : 1 ≤ m ∧ m < 9223372036854775808) : Ex x s H ⟨some d, .binOp .sub t p (.const (.int .i64 1)) t', ty, pos, af, gd⟩ (.int .i64 ((m - 1 : Nat) : Int)) := e_sub1 hp rfl h
theorem e_half1 {m : Nat} {kd kd' : IntKind} (hp : ev s p = some (.int kd (m : Nat))) : Ex x s H ⟨some d, .binOp .shr t p (.const (.int kd' 1)) t', ty, pos, af, gd⟩ (.int kd ((m / 2 : Nat) : Int)) := e_half hp rfl
/-- What a quiet operation yields. -/
theorem eX {o : Oper} (h : Ex x s H o v := by
  first
  | ((with_reducible apply e_move); exact rfl)
  | ((with_reducible apply e_assign); exact rfl)
  | ((with_reducible apply e_load); exact FAg.h; exact rfl; exact aM; first | rfl | assumption)
  | ((with_reducible apply e_extract); exact rfl; exact rfl)
  | ((with_reducible apply e_nilCheck); exact rfl)
  | ((with_reducible apply e_lss); exact rfl; exact rfl)
  | ((with_reducible apply e_eql); exact rfl; exact rfl)
  | ((with_reducible apply e_geq); exact rfl; exact rfl)
  | ((with_reducible apply e_gtr); exact rfl; exact rfl)
  | ((with_reducible apply e_leq); exact rfl; exact rfl)
  | ((with_reducible apply e_neq); exact rfl; exact rfl)
  | ((with_reducible apply e_addN); exact rfl; exact rfl; omega)
  | ((with_reducible apply e_addn); exact rfl; exact rfl; exact aI)
  | ((with_reducible apply e_add); exact rfl; exact rfl)
  | ((with_reducible apply e_pred1); exact rfl; omega)
  | ((with_reducible apply e_subk); exact rfl; omega)
  | ((with_reducible apply e_subN); exact rfl; exact rfl; omega)
  | ((with_reducible apply e_subn); exact rfl; exact rfl; exact aI)
  | ((with_reducible apply e_sub); exact rfl; exact rfl)
  | ((with_reducible apply e_ian); exact FUn.h; exact FSz.h; exact rfl; exact rfl; omega)
  | ((with_reducible apply e_ia); exact FUn.h; exact FSz.h; exact rfl; exact rfl; omega; omega)
  | ((with_reducible apply e_faz); exact FUn.h; exact rfl; exact FSz.h; exact rfl; exact rfl)
  | ((with_reducible apply e_convn); exact FUn.h; exact FUn.h; exact rfl; exact aI)
  | ((with_reducible apply e_conv); exact FUn.h; exact FUn.h; exact rfl)
  | ((with_reducible apply e_inen); exact FUn.h; exact rfl)
  | ((with_reducible apply e_nnen); exact FUn.h; exact rfl)
  | ((with_reducible apply e_ieqn); exact FUn.h; exact rfl)
  | ((with_reducible apply e_neqn); exact FUn.h; exact rfl)
  | ((with_reducible apply e_pick_t); exact rfl; exact rfl)
  | ((with_reducible apply e_pick_f); exact rfl; exact rfl)
  | ((with_reducible apply e_loada); exact FAg.h; exact FSz.h; exact rfl; exact aM; exact aC)
  | ((with_reducible apply e_lenl); exact FUn.h; exact rfl)
  | ((with_reducible apply e_lenZ); exact FUn.h; exact rfl; assumption)
  | ((with_reducible apply e_lens); exact FUn.h; exact rfl)
  | ((with_reducible apply e_lenm); exact FUn.h; exact rfl; exact aM)
  | ((with_reducible apply e_cap); exact FUn.h; exact rfl)
  | ((with_reducible apply e_mkz); exact FUn.h; exact rfl; exact rfl)
  | ((with_reducible apply e_func); exact rfl; exact rfl)
  | ((with_reducible apply e_not); exact rfl)
  | ((with_reducible apply e_neg); exact rfl)
  | ((with_reducible apply e_unxor); exact rfl)
  | ((with_reducible apply e_muln); exact rfl; exact rfl; exact aI)
  | ((with_reducible apply e_mul); exact rfl; exact rfl)
  | ((with_reducible apply e_and); exact rfl; exact rfl)
  | ((with_reducible apply e_or); exact rfl; exact rfl)
  | ((with_reducible apply e_xor); exact rfl; exact rfl)
  | ((with_reducible apply e_andNot); exact rfl; exact rfl)
  | ((with_reducible apply e_half1); exact rfl)
  | ((with_reducible apply e_shr); exact rfl; exact rfl; omega)
  | ((with_reducible apply e_shl); exact rfl; exact rfl; omega)
  | ((with_reducible apply e_quon); exact rfl; exact rfl; omega; omega; exact aI)
  | ((with_reducible apply e_quo); exact rfl; exact rfl; omega)
  | ((with_reducible apply e_remn); exact rfl; exact rfl; omega; omega)
  | ((with_reducible apply e_rem); exact rfl; exact rfl; omega)
  | ((with_reducible apply e_sadd); exact rfl; exact rfl; exact aN)
  | ((with_reducible apply e_seq); exact rfl; exact rfl)
  | ((with_reducible apply e_sne); exact rfl; exact rfl)
  | ((with_reducible apply e_slt); exact rfl; exact rfl)
  | ((with_reducible apply e_leqn); exact FUn.h; exact rfl)
  | ((with_reducible apply e_sl_n); exact FUn.h; exact FSz.h; exact rfl)
  | ((with_reducible apply e_sl_h); exact FUn.h; exact FSz.h; exact rfl; exact rfl; omega; omega)
  | ((with_reducible apply e_sl_l); exact FUn.h; exact FSz.h; exact rfl; exact rfl; omega; omega; omega)
  | ((with_reducible apply e_sl_lh); exact FUn.h; exact FSz.h; exact rfl; exact rfl; exact rfl; omega; omega; omega; omega)
  | ((with_reducible apply e_ss_h); exact FUn.h; exact rfl; exact rfl; omega; omega)
  | ((with_reducible apply e_ss_l); exact FUn.h; exact rfl; exact rfl; omega; omega)
  | ((with_reducible apply e_sa_n); exact FUn.h; exact FSz.h; exact rfl)
  | ((with_reducible apply e_sa_h); exact FUn.h; exact FSz.h; exact rfl; exact rfl; omega; omega)
  | ((with_reducible apply e_iaa); exact FUn.h; exact FSz.h; exact rfl; exact rfl; omega; omega)
  | ((with_reducible apply e_sidx); exact FUn.h; exact rfl; exact rfl; omega; assumption)
  | ((with_reducible apply e_load0); exact FAg.h; exact FSz.h; exact rfl)
  | ((with_reducible apply e_nilm); rotate_left; exact rfl; exact fun _ => by kernel_rfl)) : Ex x s H o v := h
theorem eR {o : Oper} (h : Ex x s H o v := by
  first
  | ((with_reducible apply e_ld); exact FAg.h; exact rfl; exact aM; omega)
  | exact eX) : Ex x s H o v := h
theorem Stp.ct {t e : Code} {o : Operand} (hc : ev s o = some (.bool true)) (h : Stp n (WC x k t s H) Q) : Stp (n + 1) (WC x k (.cond o t e) s H) Q := ⟨fun y => c_then hc (h.f y)⟩
theorem Stp.ce {t e : Code} {o : Operand} (hc : ev s o = some (.bool false)) (h : Stp n (WC x k e s H) Q) : Stp (n + 1) (WC x k (.cond o t e) s H) Q := ⟨fun y => c_else hc (h.f y)⟩
theorem Stp.xp {id id' : Nat} (hne : Nat.beq id id' = false) (h : Stp n (WX x id k s H) Q) : Stp (n + 1) (WX x id (.block id' :: k) s H) Q := ⟨fun y => x_past hne (h.f y)⟩
theorem Stp.cq {id : Nat} {l : List Oper} (hm : x.P.follows .mixedOrders = true) (hB : Region.lexB .any l.toArray = true) (h : Stp n (QO x l.toArray k l s H) Q) : Stp (n + 1) (WC x k (.region id l.toArray true) s H) Q := ⟨fun y => c_regionq hm hB (h.f y)⟩
theorem Stp.dn {fuel : Nat} {listed : Array Bool} (hr : (Region.ready .any ops listed) = []) (h : Stp n (WN x k s H) Q) : Stp (n + 1) (DO x ops k HS fuel listed s H) Q := ⟨fun y => d_nil hr (h.f y)⟩
theorem Stp.oe (hw : wantS ops s ⟨some d, op, ty, pos, af, gd⟩ = some true) (he : Ex x s H ⟨some d, op, ty, pos, af, gd⟩ v) (hN : Nat.blt d x.N = true) (h : Stp n (WO x ops k rest ((d, v) :: s) H) Q) : Stp (n + 1) (WO x ops k (⟨some d, op, ty, pos, af, gd⟩ :: rest) s H) Q := ⟨fun y => o_e hw rfl hN he (h.f y)⟩
theorem Stp.os (hw : wantS ops s ⟨some d, op, ty, pos, af, gd⟩ = some false) (hN : Nat.blt d x.N = true) (h : Stp n (WO x ops k rest ((d, .tuple #[]) :: s) H) Q) : Stp (n + 1) (WO x ops k (⟨some d, op, ty, pos, af, gd⟩ :: rest) s H) Q := ⟨fun y => o_skip hw rfl hN (h.f y)⟩
theorem Stp.qe (hw : wantS ops s ⟨some d, op, ty, pos, af, gd⟩ = some true) (he : Ex x s H ⟨some d, op, ty, pos, af, gd⟩ v) (hN : Nat.blt d x.N = true) (h : Stp n (QO x ops k rest ((d, v) :: s) H) Q) : Stp (n + 1) (QO x ops k (⟨some d, op, ty, pos, af, gd⟩ :: rest) s H) Q := ⟨fun y => q_e hw rfl hN he (h.f y)⟩
theorem Stp.qs (hw : wantS ops s ⟨some d, op, ty, pos, af, gd⟩ = some false) (hN : Nat.blt d x.N = true) (h : Stp n (QO x ops k rest ((d, .tuple #[]) :: s) H) Q) : Stp (n + 1) (QO x ops k (⟨some d, op, ty, pos, af, gd⟩ :: rest) s H) Q := ⟨fun y => q_skip hw rfl hN (h.f y)⟩
theorem gn (n : Nat) {P Q : Prop} (y : Q) (h : Stp n P Q := by
  repeat (first
  | with_reducible exact Stp.z
  | ((with_reducible apply Stp.oe); exact rfl; exact eX; exact rfl)
  | with_reducible apply Stp.of o_nil
  | with_reducible apply Stp.of n_code
  | with_reducible apply Stp.of c_seq
  | with_reducible apply Stp.of c_region
  | ((with_reducible apply Stp.ct); exact rfl)
  | ((with_reducible apply Stp.ce); exact rfl)
  | with_reducible apply Stp.of c_block
  | with_reducible apply Stp.of c_skip
  | with_reducible apply Stp.of n_block
  | with_reducible apply Stp.of c_exit
  | with_reducible apply Stp.of x_here
  | ((with_reducible apply Stp.xp); exact rfl)
  | with_reducible apply Stp.of x_code
  | with_reducible apply Stp.of x_upto
  | with_reducible apply Stp.of c_ret
  | ((with_reducible apply Stp.os); exact rfl; exact rfl)
  | ((with_reducible apply Stp.qe); exact rfl; exact eX; exact rfl)
  | with_reducible apply Stp.of q_nil
  | ((with_reducible apply Stp.qs); exact rfl; exact rfl)
  | ((with_reducible apply Stp.cq); kernel_rfl; kernel_rfl)
  | ((with_reducible apply Stp.dn); kernel_rfl))) : P := h.f y
theorem gr (n : Nat) {P Q : Prop} (y : Q) (h : Stp n P Q := by
  repeat (first
  | with_reducible exact Stp.z
  | ((with_reducible apply Stp.oe); exact rfl; exact eR; exact rfl)
  | with_reducible apply Stp.of o_nil
  | with_reducible apply Stp.of n_code
  | with_reducible apply Stp.of c_seq
  | with_reducible apply Stp.of c_region
  | ((with_reducible apply Stp.ct); exact rfl)
  | ((with_reducible apply Stp.ce); exact rfl)
  | with_reducible apply Stp.of c_block
  | with_reducible apply Stp.of c_skip
  | with_reducible apply Stp.of n_block
  | with_reducible apply Stp.of c_exit
  | with_reducible apply Stp.of x_here
  | ((with_reducible apply Stp.xp); exact rfl)
  | with_reducible apply Stp.of x_code
  | with_reducible apply Stp.of x_upto
  | with_reducible apply Stp.of c_ret
  | ((with_reducible apply Stp.os); exact rfl; exact rfl)
  | ((with_reducible apply Stp.qe); exact rfl; exact eR; exact rfl)
  | with_reducible apply Stp.of q_nil
  | ((with_reducible apply Stp.qs); exact rfl; exact rfl)
  | ((with_reducible apply Stp.cq); kernel_rfl; kernel_rfl)
  | ((with_reducible apply Stp.dn); kernel_rfl))) : P := h.f y
section
variable {i fuel : Nat} {l L : List Nat} {done : Array Bool}
theorem Stl.de (hi : ops[i]? = some ⟨some d, op, ty, pos, af, gd⟩) (hw : wantS ops s ⟨some d, op, ty, pos, af, gd⟩ = some true) (he : Ex x s HS ⟨some d, op, ty, pos, af, gd⟩ v) (hQ : ∀ c a w d v, x.Q (.panic c) (Act.put a (some d) v) w → x.Q (.panic c) a w) (hs0 : Region.noSelect ops = true) (hf : (Region.free .any ops done i) = true) (hr : (Region.ready .any ops done).contains i = true) (hN : Nat.blt d x.N = true) (h : Stl l (DO x ops k HS fuel (done.setIfInBounds i true) ((d, v) :: s) H) Q) : Stl (i :: l) (DO x ops k HS (fuel + 1) done s H) Q := ⟨fun y => d_e i hQ hi hs0 hf hr hw rfl hN he (h.f y)⟩
theorem Stl.ds (hi : ops[i]? = some ⟨some d, op, ty, pos, af, gd⟩) (hw : wantS ops s ⟨some d, op, ty, pos, af, gd⟩ = some false) (hQ : ∀ c a w d v, x.Q (.panic c) (Act.put a (some d) v) w → x.Q (.panic c) a w) (hs0 : Region.noSelect ops = true) (hf : (Region.free .any ops done i) = true) (hr : (Region.ready .any ops done).contains i = true) (hN : Nat.blt d x.N = true) (h : Stl l (DO x ops k HS fuel (done.setIfInBounds i true) ((d, .tuple #[]) :: s) H) Q) : Stl (i :: l) (DO x ops k HS (fuel + 1) done s H) Q := ⟨fun y => d_skip i hQ hi hs0 hf hr hw rfl hN (h.f y)⟩
theorem ld (l : List Nat) {P Q : Prop} (y : Q) (h : Stl l P Q := by
  repeat (first
  | with_reducible exact Stl.z
  | (apply Stl.de; exact rfl; exact rfl; exact eX; exact fun _ _ _ _ _ h => h; kernel_rfl; kernel_rfl; kernel_rfl; exact rfl)
  | (apply Stl.ds; exact rfl; exact rfl; exact fun _ _ _ _ _ h => h; kernel_rfl; kernel_rfl; kernel_rfl; exact rfl))) : P := h.f y
theorem rd (l : List Nat) {P Q : Prop} (y : Q) (h : Stl l P Q := by
  repeat (first
  | with_reducible exact Stl.z
  | (apply Stl.de; exact rfl; exact rfl; exact eR; exact fun _ _ _ _ _ h => h; kernel_rfl; kernel_rfl; kernel_rfl; exact rfl)
  | (apply Stl.ds; exact rfl; exact rfl; exact fun _ _ _ _ _ h => h; kernel_rfl; kernel_rfl; kernel_rfl; exact rfl))) : P := h.f y
theorem Stl.gm (hi : ops[i]? = some ⟨some d, op, ty, pos, af, gd⟩) (hw : wantS ops s ⟨some d, op, ty, pos, af, gd⟩ = some true) (he : Ex x s [] ⟨some d, op, ty, pos, af, gd⟩ v) (hQ : ∀ c a w d v, x.Q (.panic c) (Act.put a (some d) v) w → x.Q (.panic c) a w) (hs0 : Region.noSelect ops = true) (hf : (Region.free .any ops done i && !L.contains i) = true) (hr : (Region.ready .any ops done).contains i = true) (hN : Nat.blt d x.N = true) (h : Stl l (GO x ops k L fuel (done.setIfInBounds i true) ((d, v) :: s) H) Q) : Stl (i :: l) (GO x ops k L (fuel + 1) done s H) Q := ⟨fun y => g_m i hQ hi hs0 hf hr hw rfl hN he (h.f y)⟩
theorem Stl.ge (hi : ops[i]? = some ⟨some d, op, ty, pos, af, gd⟩) (hw : wantS ops s ⟨some d, op, ty, pos, af, gd⟩ = some true) (he : Ex x s H ⟨some d, op, ty, pos, af, gd⟩ v) (hQ : ∀ c a w d v, x.Q (.panic c) (Act.put a (some d) v) w → x.Q (.panic c) a w) (hs0 : Region.noSelect ops = true) (hf : (Region.free .any ops done i && waitL ops done i L && !L.contains i) = true) (hr : (Region.ready .any ops done).contains i = true) (hN : Nat.blt d x.N = true) (h : Stl l (GO x ops k L fuel (done.setIfInBounds i true) ((d, v) :: s) H) Q) : Stl ((i + 1000) :: l) (GO x ops k L (fuel + 1) done s H) Q := ⟨fun y => g_e i hQ hi hs0 hf hr hw rfl hN he (h.f y)⟩
theorem Stl.gs (hi : ops[i]? = some ⟨some d, op, ty, pos, af, gd⟩) (hw : wantS ops s ⟨some d, op, ty, pos, af, gd⟩ = some false) (hQ : ∀ c a w d v, x.Q (.panic c) (Act.put a (some d) v) w → x.Q (.panic c) a w) (hs0 : Region.noSelect ops = true) (hf : (Region.free .any ops done i && !L.contains i) = true) (hr : (Region.ready .any ops done).contains i = true) (hN : Nat.blt d x.N = true) (h : Stl l (GO x ops k L fuel (done.setIfInBounds i true) ((d, .tuple #[]) :: s) H) Q) : Stl (i :: l) (GO x ops k L (fuel + 1) done s H) Q := ⟨fun y => g_skip i hQ hi hs0 hf hr hw rfl hN (h.f y)⟩
theorem lg (l : List Nat) {P Q : Prop} (y : Q) (h : Stl l P Q := by
  repeat (first
  | with_reducible exact Stl.z
  | (apply Stl.ge; exact rfl; exact rfl; exact eX; exact fun _ _ _ _ _ h => h; kernel_rfl; kernel_rfl; kernel_rfl; exact rfl)
  | (apply Stl.gm; exact rfl; exact rfl; exact eX; exact fun _ _ _ _ _ h => h; kernel_rfl; kernel_rfl; kernel_rfl; exact rfl)
  | (apply Stl.gs; exact rfl; exact rfl; exact fun _ _ _ _ _ h => h; kernel_rfl; kernel_rfl; kernel_rfl; exact rfl))) : P := h.f y
theorem rg (l : List Nat) {P Q : Prop} (y : Q) (h : Stl l P Q := by
  repeat (first
  | with_reducible exact Stl.z
  | (apply Stl.ge; exact rfl; exact rfl; exact eR; exact fun _ _ _ _ _ h => h; kernel_rfl; kernel_rfl; kernel_rfl; exact rfl)
  | (apply Stl.gm; exact rfl; exact rfl; exact eR; exact fun _ _ _ _ _ h => h; kernel_rfl; kernel_rfl; kernel_rfl; exact rfl)
  | (apply Stl.gs; exact rfl; exact rfl; exact fun _ _ _ _ _ h => h; kernel_rfl; kernel_rfl; kernel_rfl; exact rfl))) : P := h.f y
theorem Stl.tm (hi : ops[i]? = some ⟨some d, op, ty, pos, af, gd⟩) (hw : wantS ops s ⟨some d, op, ty, pos, af, gd⟩ = some true) (he : Ex x s [] ⟨some d, op, ty, pos, af, gd⟩ v) (hQ : ∀ c a w d v, x.Q (.panic c) (Act.put a (some d) v) w → x.Q (.panic c) a w) (hs0 : Region.noSelect ops = true) (hf : (Region.free .any ops done i && !L.contains i) = true) (hr : (Region.ready .any ops done).contains i = true) (hN : Nat.blt d x.N = true) (h : Stl l (TO x ops k HS L fuel (done.setIfInBounds i true) ((d, v) :: s) H) Q) : Stl (i :: l) (TO x ops k HS L (fuel + 1) done s H) Q := ⟨fun y => t_m i hQ hi hs0 hf hr hw rfl hN he (h.f y)⟩
theorem Stl.te (hi : ops[i]? = some ⟨some d, op, ty, pos, af, gd⟩) (hw : wantS ops s ⟨some d, op, ty, pos, af, gd⟩ = some true) (he : Ex x s HS ⟨some d, op, ty, pos, af, gd⟩ v) (hQ : ∀ c a w d v, x.Q (.panic c) (Act.put a (some d) v) w → x.Q (.panic c) a w) (hs0 : Region.noSelect ops = true) (hf : (Region.free .any ops done i && waitL ops done i L && !L.contains i) = true) (hr : (Region.ready .any ops done).contains i = true) (hN : Nat.blt d x.N = true) (h : Stl l (TO x ops k HS L fuel (done.setIfInBounds i true) ((d, v) :: s) H) Q) : Stl ((i + 1000) :: l) (TO x ops k HS L (fuel + 1) done s H) Q := ⟨fun y => t_e i hQ hi hs0 hf hr hw rfl hN he (h.f y)⟩
theorem Stl.ts (hi : ops[i]? = some ⟨some d, op, ty, pos, af, gd⟩) (hw : wantS ops s ⟨some d, op, ty, pos, af, gd⟩ = some false) (hQ : ∀ c a w d v, x.Q (.panic c) (Act.put a (some d) v) w → x.Q (.panic c) a w) (hs0 : Region.noSelect ops = true) (hf : (Region.free .any ops done i && !L.contains i) = true) (hr : (Region.ready .any ops done).contains i = true) (hN : Nat.blt d x.N = true) (h : Stl l (TO x ops k HS L fuel (done.setIfInBounds i true) ((d, .tuple #[]) :: s) H) Q) : Stl (i :: l) (TO x ops k HS L (fuel + 1) done s H) Q := ⟨fun y => t_skip i hQ hi hs0 hf hr hw rfl hN (h.f y)⟩
theorem lt (l : List Nat) {P Q : Prop} (y : Q) (h : Stl l P Q := by
  repeat (first
  | with_reducible exact Stl.z
  | (apply Stl.te; exact rfl; exact rfl; exact eX; exact fun _ _ _ _ _ h => h; kernel_rfl; kernel_rfl; kernel_rfl; exact rfl)
  | (apply Stl.tm; exact rfl; exact rfl; exact eX; exact fun _ _ _ _ _ h => h; kernel_rfl; kernel_rfl; kernel_rfl; exact rfl)
  | (apply Stl.ts; exact rfl; exact rfl; exact fun _ _ _ _ _ h => h; kernel_rfl; kernel_rfl; kernel_rfl; exact rfl))) : P := h.f y
end
section
variable {o : Oper} {fuel : Nat} {L : List Nat} {done : Array Bool} {Y : Type} {s' : Y → Slots} {J : Y → HP} {A : Y → Prop}
theorem oL (hl : Lo x s H o s' J A) (h : ∀ y, A y → WO x ops k rest (s' y) (J y)) (hw : wantS ops s o = some true := by rfl) : WO x ops k (o :: rest) s H := o_l hw hl h
theorem oT (h : ∀ y, A y → WO x ops k rest (s' y) (J y)) (hw : wantS ops s o = some true := by rfl) (hl : Lo x s H o s' J A := by exact l_store FSz.h rfl rfl rfl aU aS (by omega)) : WO x ops k (o :: rest) s H := o_l hw hl h
theorem oZ (h : ∀ y, A y → WO x ops k rest (s' y) (J y)) (hw : wantS ops s o = some true := by rfl) (hl : Lo x s H o s' J A := by exact l_alloc FZe.h rfl rfl) : WO x ops k (o :: rest) s H := o_l hw hl h
theorem oB (h : ∀ y, A y → WO x ops k rest (s' y) (J y)) (hw : wantS ops s o = some true := by rfl) (hl : Lo x s H o s' J A := by exact l_box rfl rfl rfl) : WO x ops k (o :: rest) s H := o_l hw hl h
theorem oR (h : ∀ y, A y → WO x ops k rest (s' y) (J y)) (hw : wantS ops s o = some true := by rfl) (hl : Lo x s H o s' J A := by first | exact l_st FSz.h rfl rfl aU (by simp only [List.length_set]; omega) (by simp only [List.length_set]; omega) | exact l_st FSz.h rfl rfl aU (by omega) (by omega) | exact l_store FSz.h rfl rfl rfl aU aS (by omega)) : WO x ops k (o :: rest) s H := o_l hw hl h
theorem dL (i : Nat) (hi : ops[i]? = some o) (hl : Lo x s H o s' J A) (h : ∀ y, A y → DO x ops k HS fuel (done.setIfInBounds i true) (s' y) (J y)) (hw : wantS ops s o = some true := by rfl) (hr : Region.ready .any ops done = [i] := by kernel_rfl) (hH : ∀ y, A y → ∀ p ∈ HS, p ∈ J y := by exact aH) : DO x ops k HS (fuel + 1) done s H := d_l i hr hi hw hl hH h
theorem dT (i : Nat) (h : ∀ y, A y → DO x ops k HS fuel (done.setIfInBounds i true) (s' y) (J y)) (hi : ops[i]? = some o := by rfl) (hw : wantS ops s o = some true := by rfl) (hl : Lo x s H o s' J A := by exact l_store FSz.h rfl rfl rfl aU aS (by omega)) (hr : Region.ready .any ops done = [i] := by kernel_rfl) (hH : ∀ y, A y → ∀ p ∈ HS, p ∈ J y := by exact aH) : DO x ops k HS (fuel + 1) done s H := d_l i hr hi hw hl hH h
theorem dZ (i : Nat) (h : ∀ y, A y → DO x ops k HS fuel (done.setIfInBounds i true) (s' y) (J y)) (hi : ops[i]? = some o := by rfl) (hw : wantS ops s o = some true := by rfl) (hl : Lo x s H o s' J A := by exact l_alloc FZe.h rfl rfl) (hr : Region.ready .any ops done = [i] := by kernel_rfl) (hH : ∀ y, A y → ∀ p ∈ HS, p ∈ J y := by exact aH) : DO x ops k HS (fuel + 1) done s H := d_l i hr hi hw hl hH h
theorem dB (i : Nat) (h : ∀ y, A y → DO x ops k HS fuel (done.setIfInBounds i true) (s' y) (J y)) (hi : ops[i]? = some o := by rfl) (hw : wantS ops s o = some true := by rfl) (hl : Lo x s H o s' J A := by exact l_box rfl rfl rfl) (hr : Region.ready .any ops done = [i] := by kernel_rfl) (hH : ∀ y, A y → ∀ p ∈ HS, p ∈ J y := by exact aH) : DO x ops k HS (fuel + 1) done s H := d_l i hr hi hw hl hH h
theorem dR (i : Nat) (h : ∀ y, A y → DO x ops k HS fuel (done.setIfInBounds i true) (s' y) (J y)) (hi : ops[i]? = some o := by rfl) (hw : wantS ops s o = some true := by rfl) (hl : Lo x s H o s' J A := by first | exact l_st FSz.h rfl rfl aU (by simp only [List.length_set]; omega) (by simp only [List.length_set]; omega) | exact l_st FSz.h rfl rfl aU (by omega) (by omega) | exact l_store FSz.h rfl rfl rfl aU aS (by omega)) (hr : Region.ready .any ops done = [i] := by kernel_rfl) (hH : ∀ y, A y → ∀ p ∈ HS, p ∈ J y := by exact aH) : DO x ops k HS (fuel + 1) done s H := d_l i hr hi hw hl hH h
theorem gL (i : Nat) (hi : ops[i]? = some o) (hl : Lo x s H o s' J A) (h : ∀ y, A y → DO x ops k [] fuel (done.setIfInBounds i true) (s' y) (J y)) (hw : wantS ops s o = some true := by rfl) (hr : Region.ready .any ops done = [i] := by kernel_rfl) (hL : L.contains i = true := by rfl) : GO x ops k L (fuel + 1) done s H := g_l i hr hL hi hw hl h
theorem gT (i : Nat) (h : ∀ y, A y → DO x ops k [] fuel (done.setIfInBounds i true) (s' y) (J y)) (hi : ops[i]? = some o := by rfl) (hw : wantS ops s o = some true := by rfl) (hl : Lo x s H o s' J A := by exact l_store FSz.h rfl rfl rfl aU aS (by omega)) (hr : Region.ready .any ops done = [i] := by kernel_rfl) (hL : L.contains i = true := by rfl) : GO x ops k L (fuel + 1) done s H := g_l i hr hL hi hw hl h
theorem gB (i : Nat) (h : ∀ y, A y → DO x ops k [] fuel (done.setIfInBounds i true) (s' y) (J y)) (hi : ops[i]? = some o := by rfl) (hw : wantS ops s o = some true := by rfl) (hl : Lo x s H o s' J A := by exact l_box rfl rfl rfl) (hr : Region.ready .any ops done = [i] := by kernel_rfl) (hL : L.contains i = true := by rfl) : GO x ops k L (fuel + 1) done s H := g_l i hr hL hi hw hl h
theorem gR (i : Nat) (h : ∀ y, A y → DO x ops k [] fuel (done.setIfInBounds i true) (s' y) (J y)) (hi : ops[i]? = some o := by rfl) (hw : wantS ops s o = some true := by rfl) (hl : Lo x s H o s' J A := by first | exact l_st FSz.h rfl rfl aU (by simp only [List.length_set]; omega) (by simp only [List.length_set]; omega) | exact l_st FSz.h rfl rfl aU (by omega) (by omega) | exact l_store FSz.h rfl rfl rfl aU aS (by omega)) (hr : Region.ready .any ops done = [i] := by kernel_rfl) (hL : L.contains i = true := by rfl) : GO x ops k L (fuel + 1) done s H := g_l i hr hL hi hw hl h
theorem tT (i : Nat) (h : ∀ y, A y → DO x ops k [] fuel (done.setIfInBounds i true) (s' y) (J y)) (hi : ops[i]? = some o := by rfl) (hw : wantS ops s o = some true := by rfl) (hl : Lo x s H o s' J A := by exact l_store FSz.h rfl rfl rfl aU aS (by omega)) (hr : Region.ready .any ops done = [i] := by kernel_rfl) (hL : L.contains i = true := by rfl) : TO x ops k HS L (fuel + 1) done s H := t_l i hr hL hi hw hl h
theorem kL (i : Nat) (hi : ops[i]? = some o) (hl : Lo x s H o s' J A) (h : ∀ y, A y → TO x ops k HS L fuel (done.setIfInBounds i true) (s' y) (J y)) (hw : wantS ops s o = some true := by rfl) (hr : Region.ready .any ops done = [i] := by kernel_rfl) (hL : L.contains i = false := by rfl) (hH : ∀ y, A y → ∀ p ∈ HS, p ∈ J y := by exact aH) : TO x ops k HS L (fuel + 1) done s H := t_k i hr hL hi hw hl hH h
end
section
variable {f : FuncId} {args : List Value} {HI HJ Hr : HP} {R : Value → HP → Prop} {ps : List Operand} {ats : Array TypeId} {rv : Value} {nm : String} {tv : TypeId} {vs : List Value}
theorem lC (hc : Ctr x.P f args x.G HI R) (hps : evs s ps = some args) (hsel : Sel H HI Hr) (hf : ∀ az w, (callFunc f az).run x.P w = .ok (.enter f az) w := by exact FCa.h) (hN : Nat.blt d x.N = true := by rfl) : Lo x s H ⟨some d, .call { callee := .value (.func f), args := ps.toArray, argTypes := ats }, ty, pos, af, gd⟩ (Y := Value × HP) (fun y => (d, y.1) :: s) (fun y => y.2 ++ Hr) (fun y => R y.1 y.2) := l_call hf hc hN hps hsel
theorem lJ (hc : Ctr x.P f args (x.G ++ HJ) HI R) (hps : evs s ps = some args) (hsel : Sel H HI Hr) (hj : ∀ p ∈ HJ, p ∈ Hr) (hf : ∀ az w, (callFunc f az).run x.P w = .ok (.enter f az) w := by exact FCa.h) (hN : Nat.blt d x.N = true := by rfl) : Lo x s H ⟨some d, .call { callee := .value (.func f), args := ps.toArray, argTypes := ats }, ty, pos, af, gd⟩ (Y := Value × HP) (fun y => (d, y.1) :: s) (fun y => y.2 ++ Hr) (fun y => R y.1 y.2) := l_callj hf hc hN hps hsel hj
theorem lI (hc : Ctr x.P f (rv :: args) x.G HI R) (hp : ev s p = some (.iface tv v)) (hps : evs s ps = some args) (hsel : Sel H HI Hr) (hf : ∀ az w, (callFunc f az).run x.P w = .ok (.enter f az) w := by exact FCa.h) (hm : ∀ w, (method (x.P.types.size + Made.depth) tv v nm).run x.P w = .ok (f, rv) w := by intro w; kernel_rfl) (hN : Nat.blt d x.N = true := by rfl) : Lo x s H ⟨some d, .call { callee := .invoke p nm, args := ps.toArray, argTypes := ats }, ty, pos, af, gd⟩ (Y := Value × HP) (fun y => (d, y.1) :: s) (fun y => y.2 ++ Hr) (fun y => R y.1 y.2) := l_calli0 hf hm hc hN hp hps hsel
theorem eB {fs : List Field} {pl : List (Nat × Nat)} {ps : List (Nat × Operand)} {pv : List (Nat × Value)} {z : Value} (vs : List Value) (hU : ∀ w, (underlying t).run x.P w = .ok (.struct fs.toArray) w := by exact FUn.h) (hz : ∀ w, (zeroValue t).run x.P w = .ok z w := by exact FZe.h) (hsz : Szs x.P fs pl := by repeat (first | exact Szs.nil | (apply Szs.cons; exact FSz.h))) (hps : evp s ps = some pv := by rfl) (hfill : Instr.fill (pl.toArray[·]?) z.cells pv = some vs.toArray := by first | rfl | kernel_rfl) : Ex x s H ⟨some d, .build t ps.toArray, ty, pos, af, gd⟩ (.agg vs.toArray) := e_build hU hz hsz hps hfill
end
end
end Go.Sl
