import Derived.Test.Qxb6623286aX7
import Derived.Test.Qxb6623286aX4
import Derived.Test.Qxb6623286aX5
import Derived.Test.Qxb6623286aX6
import Derived.Deep.Cut
namespace Go.Proofs.Qxb6623286a
open Go.RowKit

/-- the statement whose first region bears the number: its region, its 'if', all that follows -/
def piece (id : Nat) : Code → Code × Code × Code
  | .seq (.seq (.region i o d) c) rest => match Nat.beq i id with
    | true => (.region i o d, c, rest)
    | false => piece id rest
  | .seq _ rest => piece id rest
  | .scope c => piece id c
  | _ => (.skip, .skip, .skip)
noncomputable def cut3 (id : Nat) : Code × Code × Code := piece id (Try.f3.body.getD .skip)

/-- what the second half of the law stands on -/
structure QPre (w : World) (n nc ns nc' Lc m1 t1 s0 t0 d c0 g gb0 cl0 : Nat) (b2 b3 b4 b5 b6 a1 a2 a3 a4 a5 a7 a8 : Option Addr) (d2 d3 d4 d5 d6 k1 k2 k3 k4 k5 k7 k8 : Nat) (mc ms F L mc' ms' F' L' sp lst : Nat → Int) (r r' : Nat → Value) (ln : Nat → Nat) (nd : Nat → Nat → Int) (run : Nat → Nat) : Prop where
  i1 : I32 w (.slice a1 n k1) n mc'
  i2 : I32 w (.slice a2 n k2) n ms'
  i3 : I32 w (.slice a3 nc' k3) nc' F'
  i4 : I32 w (.slice a4 nc' k4) nc' L'
  i5 : RwS w (.slice a5 nc' k5) nc' r'
  i7 : I32 w (.slice a7 ns k7) ns sp
  i8 : I32 w (.slice a8 ns k8) ns sp
  p2 : I32 w (.slice b2 n d2) n mc
  p3 : I32 w (.slice b3 n d3) n ms
  p4 : I32 w (.slice b4 nc d4) nc F
  p5 : I32 w (.slice b5 nc d5) nc L
  p6 : RwS w (.slice b6 nc d6) nc r
  grow : w.rowIs g 21 Lc (fun i => .int .i32 (run i : Nat))
  fd : F' d = run s0
  ld : L' d = run (s0 + m1)
  f0 : F' c0 = run t0
  l0 : L' c0 = run (t0 + t1)
  nd' : I32 w (r' d) (m1 + 1) (fun i => run (s0 + i))
  n0 : r' c0 = .slice (some ⟨gb0, 0, none⟩) (t1 + 1) cl0
  row0 : gb0 < w.heap.size ∧ ∀ k, k < t1 + 1 → w.cell? ⟨gb0, k, none⟩ = some (.int .i32 (lst k))
  mv : ∀ k, k < m1 + 1 → run (s0 + k) < n ∧ mc' (run (s0 + k)) = d ∧ ms' (run (s0 + k)) = k
  st : ∀ k, k < t1 + 1 → run (t0 + k) < n ∧ mc' (run (t0 + k)) = c0 ∧ ∃ s : Nat, s < t1 + 1 ∧ ms' (run (t0 + k)) = s ∧ lst s = run (t0 + k)
  cov : ∀ u, u < n → (∀ k, k < m1 + 1 → run (s0 + k) ≠ u) → (∀ k, k < t1 + 1 → run (t0 + k) ≠ u) → mc' u = mc u ∧ ms' u = ms u
  keep : ∀ k, k < nc → k ≠ c0 → k ≠ d → F' k = F k ∧ L' k = L k ∧ I32 w (r' k) (ln k) (nd k) ∧ I32 w (r k) (ln k) (nd k) ∧ ln k ≤ 2097152
  small : n ≤ 65536 ∧ nc ≤ 65536 ∧ nc' ≤ 65537 ∧ nc ≤ nc' ∧ d < nc' ∧ c0 < nc ∧ Lc = m1 + t1 + 2 ∧ Lc ≤ 65536 ∧ s0 + m1 + 1 ≤ Lc ∧ t0 + t1 + 1 ≤ Lc ∧ ns ≤ 65536

theorem QPre.drewN {w : World} {n nc ns nc' Lc m1 t1 s0 t0 d c0 g gb0 cl0 : Nat} {b2 b3 b4 b5 b6 a1 a2 a3 a4 a5 a7 a8 : Option Addr} {d2 d3 d4 d5 d6 k1 k2 k3 k4 k5 k7 k8 : Nat} {mc ms F L mc' ms' F' L' sp lst : Nat → Int} {r r' : Nat → Value} {ln : Nat → Nat} {nd : Nat → Nat → Int} {run : Nat → Nat}
    (h : QPre w n nc ns nc' Lc m1 t1 s0 t0 d c0 g gb0 cl0 b2 b3 b4 b5 b6 a1 a2 a3 a4 a5 a7 a8 d2 d3 d4 d5 d6 k1 k2 k3 k4 k5 k7 k8 mc ms F L mc' ms' F' L' sp lst r r' ln nd run) (q : Nat) :
    QPre (w.drewN q) n nc ns nc' Lc m1 t1 s0 t0 d c0 g gb0 cl0 b2 b3 b4 b5 b6 a1 a2 a3 a4 a5 a7 a8 d2 d3 d4 d5 d6 k1 k2 k3 k4 k5 k7 k8 mc ms F L mc' ms' F' L' sp lst r r' ln nd run :=
  ⟨h.i1, h.i2, h.i3, h.i4, h.i5, h.i7, h.i8, h.p2, h.p3, h.p4, h.p5, h.p6, h.grow, h.fd, h.ld, h.f0, h.l0, h.nd', h.n0, h.row0, h.mv, h.st, h.cov, h.keep, h.small⟩

set_option maxRecDepth 1000000 in
set_option maxHeartbeats 4000000 in
theorem law_q {y0 y1 y7 y9 y10 y11 y12 y13 y14 y15 y16 y17 y18 y19 y20 y21 y22 y23 y24 y25 y26 y27 y28 y29 y30 y34 y35 y36 y37 y38 y39 y47 y48 y54 y55 y56 y57 y58 y59 y60 y61 y62 y63 y64 y65 y66 y67 y68 y69 y70 y71 y72 y73 y74 y75 y76 y77 y78 y79 y80 y81 y82 y83 y84 y85 y86 y87 y88 y89 y90 y91 y92 y93 y94 y95 y96 y97 y98 y99 y100 y101 y102 y103 y104 y105 y106 y107 y108 y109 y110 y111 y112 y113 y114 y115 y116 y117 y118 y119 y120 y121 y122 y123 y124 y125 y126 y127 y128 y129 y130 y131 y132 y133 y134 y135 y136 y137 y138 y139 y140 y141 y142 y143 y144 y145 y146 y147 y148 y149 y150 y151 y152 y153 y154 y155 y156 y157 y158 y159 y160 y161 y162 y163 y164 y165 y166 y167 y168 y169 y170 y171 y172 y173 y174 y175 y176 y177 y178 y179 y180 y181 y182 y183 y184 y185 y186 y187 y188 y189 y190 y191 y192 y193 y194 y195 y196 y197 y198 y199 y200 y201 y202 y203 y204 y205 y206 y207 y208 y209 y210 y211 y212 y213 y214 y215 y216 y217 y218 y219 y220 y221 y222 y223 y224 y225 y226 y227 y228 y229 y230 y231 y232 y233 y234 y235 y236 y237 y238 y239 y240 y241 y242 y243 y244 y245 y246 y247 y248 y249 y250 y251 y252 y253 y254 y255 y256 y257 y258 y259 y260 y261 y262 y263 y264 y265 y266 y267 y268 y269 y270 y271 y272 y273 y274 y275 y276 y277 y278 y279 y280 y281 y282 y283 y284 y285 y286 y287 y288 y289 y290 y291 y292 y293 y294 y295 y296 y297 y298 y299 y300 y301 y302 y303 y304 y305 y306 y307 y308 y309 y310 y311 y312 y313 y314 y315 y316 y317 y318 y319 y320 y321 y322 y323 y324 y325 y326 y327 y328 y329 y330 y331 y332 y333 y334 y335 y336 y337 y338 y339 y340 y341 y342 y343 y344 y345 y346 y347 y348 y349 y350 y351 y352 y353 y354 y355 y356 y357 y358 y359 y360 y361 y362 y363 y364 y365 y366 y367 y368 y369 y370 y371 y372 y373 y374 y375 y376 y377 y378 y379 y380 y381 y382 y383 y384 y385 y386 y387 y388 y389 y390 y391 y392 y393 y394 y395 y396 y397 y398 y399 y400 y401 y402 y403 y404 y405 y406 y407 y408 y409 y410 y411 y412 y413 y414 y415 y416 y417 y418 y419 y420 y421 y422 y423 y424 y425 y426 y427 y428 y429 y430 y431 y432 y433 y434 y435 y436 y437 y438 y439 y440 y441 y442 y443 y444 y445 y446 y447 y448 y449 y450 y451 y452 y453 y454 y455 y456 y457 y458 y459 y460 y461 y462 y463 y464 y465 y466 y467 y468 y469 y470 y471 y472 y473 y474 y475 y476 y477 y478 y479 y480 y481 y482 y483 y484 y485 y486 y487 y488 y489 y490 y491 y492 y493 y494 y495 y496 y497 y498 y499 y500 y501 y502 y503 y504 y505 y506 y507 y508 y509 y510 y511 y512 y513 y514 y515 y516 y517 y518 y519 y520 y521 y522 y523 y524 y525 y526 y527 y528 y529 y530 y531 y532 y533 y534 y535 y536 y537 y538 y539 y540 y541 y542 y543 y544 y545 y546 y547 y548 y549 y550 y551 y552 y553 y554 y555 y556 y557 y558 y559 y560 y561 y562 y563 y564 y565 y566 y567 y568 y569 y570 y571 y572 y573 y574 y575 y576 y577 y578 y579 y580 y581 y582 y583 y584 y585 y586 y587 y588 y589 y590 y591 y592 y593 y594 y595 y596 y597 y598 y599 y600 y601 y602 y603 y604 y605 y606 y607 y608 y609 y610 y611 y612 y613 y614 y615 y616 y617 y618 y619 y620 y621 y622 y623 y624 y625 y626 y627 y628 y629 y630 : Value} (w w0 : World) (n nc ns nc' Lc m1 t1 s0 t0 d c0 g gb0 cl0 cm cs : Nat) (b2 b3 b4 b5 b6 a1 a2 a3 a4 a5 a7 a8 : Option Addr) (d2 d3 d4 d5 d6 k1 k2 k3 k4 k5 k7 k8 : Nat) (mc ms F L mc' ms' F' L' sp lst : Nat → Int) (r r' : Nat → Value) (ln : Nat → Nat) (nd : Nat → Nat → Int) (run : Nat → Nat) (cl : Int)
    (Q : Exit → Act → World → Prop) (K0 K1 : Act → World → Prop) (hK1 : ∀ a w, Code.wp Try.prog (cut3 87).2.2 Q a w → K1 a w) (hK0 : ∀ a w, Code.wp Try.prog (cut3 87).2.1 (Exit.then K1 Q) a w → K0 a w)
    (h : QPre w n nc ns nc' Lc m1 t1 s0 t0 d c0 g gb0 cl0 b2 b3 b4 b5 b6 a1 a2 a3 a4 a5 a7 a8 d2 d3 d4 d5 d6 k1 k2 k3 k4 k5 k7 k8 mc ms F L mc' ms' F' L' sp lst r r' ln nd run)
    (hB : Below w0.heap.size w0 w)
    (hret : Hid (∀ a' w', Below w0.heap.size w0 w' → a'.defers = [] → a'.tmps[20]? = some (.bool true) → Q .ret a' w')) :
    Code.wp Try.prog (cut3 87).1 (Exit.then K0 (Exit.then K1 Q)) ⟨(y0 :: y1 :: (.slice b2 n d2) :: (.slice b3 n d3) :: (.slice b4 nc d4) :: (.slice b5 nc d5) :: (.slice b6 nc d6) :: y7 :: (.int .i64 cl) :: y9 :: y10 :: y11 :: y12 :: y13 :: y14 :: y15 :: y16 :: y17 :: y18 :: y19 :: y20 :: y21 :: y22 :: y23 :: y24 :: y25 :: y26 :: y27 :: y28 :: y29 :: y30 :: (.int .i64 n) :: (.int .i64 nc) :: (.int .i32 c0) :: y34 :: y35 :: y36 :: y37 :: y38 :: y39 :: (.slice a1 n k1) :: (.slice a2 n k2) :: (.slice a3 nc' k3) :: (.slice a4 nc' k4) :: (.slice a5 nc' k5) :: (.slice a7 ns k7) :: (.int .i64 (wrap64 (cl + ((m1 : Int) + 1)))) :: y47 :: y48 :: (.slice (some ⟨g, s0, none⟩) (m1 + 1) cm) :: (.slice (some ⟨g, t0, none⟩) (t1 + 1) cs) :: (.int .i32 d) :: (.slice a8 ns k8) :: (.int .i64 nc') :: y54 :: y55 :: y56 :: y57 :: y58 :: y59 :: y60 :: y61 :: y62 :: y63 :: y64 :: y65 :: y66 :: y67 :: y68 :: y69 :: y70 :: y71 :: y72 :: y73 :: y74 :: y75 :: y76 :: y77 :: y78 :: y79 :: y80 :: y81 :: y82 :: y83 :: y84 :: y85 :: y86 :: y87 :: y88 :: y89 :: y90 :: y91 :: y92 :: y93 :: y94 :: y95 :: y96 :: y97 :: y98 :: y99 :: y100 :: y101 :: y102 :: y103 :: y104 :: y105 :: y106 :: y107 :: y108 :: y109 :: y110 :: y111 :: y112 :: y113 :: y114 :: y115 :: y116 :: y117 :: y118 :: y119 :: y120 :: y121 :: y122 :: y123 :: y124 :: y125 :: y126 :: y127 :: y128 :: y129 :: y130 :: y131 :: y132 :: y133 :: y134 :: y135 :: y136 :: y137 :: y138 :: y139 :: y140 :: y141 :: y142 :: y143 :: y144 :: y145 :: y146 :: y147 :: y148 :: y149 :: y150 :: y151 :: y152 :: y153 :: y154 :: y155 :: y156 :: y157 :: y158 :: y159 :: y160 :: y161 :: y162 :: y163 :: y164 :: y165 :: y166 :: y167 :: y168 :: y169 :: y170 :: y171 :: y172 :: y173 :: y174 :: y175 :: y176 :: y177 :: y178 :: y179 :: y180 :: y181 :: y182 :: y183 :: y184 :: y185 :: y186 :: y187 :: y188 :: y189 :: y190 :: y191 :: y192 :: y193 :: y194 :: y195 :: y196 :: y197 :: y198 :: y199 :: y200 :: y201 :: y202 :: y203 :: y204 :: y205 :: y206 :: y207 :: y208 :: y209 :: y210 :: y211 :: y212 :: y213 :: y214 :: y215 :: y216 :: y217 :: y218 :: y219 :: y220 :: y221 :: y222 :: y223 :: y224 :: y225 :: y226 :: y227 :: y228 :: y229 :: y230 :: y231 :: y232 :: y233 :: y234 :: y235 :: y236 :: y237 :: y238 :: y239 :: y240 :: y241 :: y242 :: y243 :: y244 :: y245 :: y246 :: y247 :: y248 :: y249 :: y250 :: y251 :: y252 :: y253 :: y254 :: y255 :: y256 :: y257 :: y258 :: y259 :: y260 :: y261 :: y262 :: y263 :: y264 :: y265 :: y266 :: y267 :: y268 :: y269 :: y270 :: y271 :: y272 :: y273 :: y274 :: y275 :: y276 :: y277 :: y278 :: y279 :: y280 :: y281 :: y282 :: y283 :: y284 :: y285 :: y286 :: y287 :: y288 :: y289 :: y290 :: y291 :: y292 :: y293 :: y294 :: y295 :: y296 :: y297 :: y298 :: y299 :: y300 :: y301 :: y302 :: y303 :: y304 :: y305 :: y306 :: y307 :: y308 :: y309 :: y310 :: y311 :: y312 :: y313 :: y314 :: y315 :: y316 :: y317 :: y318 :: y319 :: y320 :: y321 :: y322 :: y323 :: y324 :: y325 :: y326 :: y327 :: y328 :: y329 :: y330 :: y331 :: y332 :: y333 :: y334 :: y335 :: y336 :: y337 :: y338 :: y339 :: y340 :: y341 :: y342 :: y343 :: y344 :: y345 :: y346 :: y347 :: y348 :: y349 :: y350 :: y351 :: y352 :: y353 :: y354 :: y355 :: y356 :: y357 :: y358 :: y359 :: y360 :: y361 :: y362 :: y363 :: y364 :: y365 :: y366 :: y367 :: y368 :: y369 :: y370 :: y371 :: y372 :: y373 :: y374 :: y375 :: y376 :: y377 :: y378 :: y379 :: y380 :: y381 :: y382 :: y383 :: y384 :: y385 :: y386 :: y387 :: y388 :: y389 :: y390 :: y391 :: y392 :: y393 :: y394 :: y395 :: y396 :: y397 :: y398 :: y399 :: y400 :: y401 :: y402 :: y403 :: y404 :: y405 :: y406 :: y407 :: y408 :: y409 :: y410 :: y411 :: y412 :: y413 :: y414 :: y415 :: y416 :: y417 :: y418 :: y419 :: y420 :: y421 :: y422 :: y423 :: y424 :: y425 :: y426 :: y427 :: y428 :: y429 :: y430 :: y431 :: y432 :: y433 :: y434 :: y435 :: y436 :: y437 :: y438 :: y439 :: y440 :: y441 :: y442 :: y443 :: y444 :: y445 :: y446 :: y447 :: y448 :: y449 :: y450 :: y451 :: y452 :: y453 :: y454 :: y455 :: y456 :: y457 :: y458 :: y459 :: y460 :: y461 :: y462 :: y463 :: y464 :: y465 :: y466 :: y467 :: y468 :: y469 :: y470 :: y471 :: y472 :: y473 :: y474 :: y475 :: y476 :: y477 :: y478 :: y479 :: y480 :: y481 :: y482 :: y483 :: y484 :: y485 :: y486 :: y487 :: y488 :: y489 :: y490 :: y491 :: y492 :: y493 :: y494 :: y495 :: y496 :: y497 :: y498 :: y499 :: y500 :: y501 :: y502 :: y503 :: y504 :: y505 :: y506 :: y507 :: y508 :: y509 :: y510 :: y511 :: y512 :: y513 :: y514 :: y515 :: y516 :: y517 :: y518 :: y519 :: y520 :: y521 :: y522 :: y523 :: y524 :: y525 :: y526 :: y527 :: y528 :: y529 :: y530 :: y531 :: y532 :: y533 :: y534 :: y535 :: y536 :: y537 :: y538 :: y539 :: y540 :: y541 :: y542 :: y543 :: y544 :: y545 :: y546 :: y547 :: y548 :: y549 :: y550 :: y551 :: y552 :: y553 :: y554 :: y555 :: y556 :: y557 :: y558 :: y559 :: y560 :: y561 :: y562 :: y563 :: y564 :: y565 :: y566 :: y567 :: y568 :: y569 :: y570 :: y571 :: y572 :: y573 :: y574 :: y575 :: y576 :: y577 :: y578 :: y579 :: y580 :: y581 :: y582 :: y583 :: y584 :: y585 :: y586 :: y587 :: y588 :: y589 :: y590 :: y591 :: y592 :: y593 :: y594 :: y595 :: y596 :: y597 :: y598 :: y599 :: y600 :: y601 :: y602 :: y603 :: y604 :: y605 :: y606 :: y607 :: y608 :: y609 :: y610 :: y611 :: y612 :: y613 :: y614 :: y615 :: y616 :: y617 :: y618 :: y619 :: y620 :: y621 :: y622 :: y623 :: y624 :: y625 :: y626 :: y627 :: y628 :: y629 :: y630 :: []).toArray, []⟩ w := by
  conv => arg 2; whnf
  conv at hK0 => enter [a, w, 1, 2]; whnf
  conv at hK1 => enter [a, w, 1, 2]; whnf
  have HH := Lib.hid h
  obtain ⟨x1, x2, x3, x4, x5, x6, x7, x9, x10, x11, x12⟩ := h.small
  have y1 : (n : Int) ≤ 65536 := by omega
  have y2 : (nc : Int) ≤ 65536 := by omega
  have y3 : (nc' : Int) ≤ 65537 := by omega
  have y4 : (d : Int) < nc' := by omega
  have y5 : (c0 : Int) < nc' := by omega
  have y6 : (Lc : Int) ≤ 65536 := by omega
  have HE1 := Lib.hid (eq_any w (.slice a7 ns k7) (.slice a8 ns k8) ns sp h.i7 h.i8 (by omega))
  clear h
  go_wp2_with (go_at_call 8; refine (HE1.out).mono ?_; intro e w' hw; obtain ⟨he, q, hq⟩ := hw; subst he; subst w'; refine Hid.out ?_)
  refine Lib.hid ?_
  obtain ⟨_, _, e, hx3⟩ := HH.out.i3
  cases e
  obtain ⟨f3, o3, e, hf3, hc3⟩ := hx3 (by omega)
  subst e
  clear hx3
  obtain ⟨_, _, e, hx4⟩ := HH.out.i4
  cases e
  obtain ⟨f4, o4, e, hf4, hc4⟩ := hx4 (by omega)
  subst e
  clear hx4
  obtain ⟨_, _, e, hx5⟩ := HH.out.i5
  cases e
  obtain ⟨f5, o5, e, hf5, hc5⟩ := hx5 (by omega)
  subst e
  clear hx5
  have g3d := hc3 d (by omega)
  rw [HH.out.fd] at g3d
  have g3c := hc3 c0 (by omega)
  rw [HH.out.f0] at g3c
  have g4d := hc4 d (by omega)
  rw [HH.out.ld] at g4d
  have g4c := hc4 c0 (by omega)
  rw [HH.out.l0] at g4c
  have g5d := hc5 d (by omega)
  have g5c := hc5 c0 (by omega)
  rw [HH.out.n0] at g5c
  have gr1 := HH.out.grow.cell (i := s0) (by omega)
  have gr2 := HH.out.grow.cell (i := s0 + m1) (by omega)
  have gr3 := HH.out.grow.cell (i := t0) (by omega)
  have gr4 := HH.out.grow.cell (i := t0 + t1) (by omega)
  have HRD := HH.out.nd'
  obtain ⟨da, dk, hd, hdc⟩ := HH.out.nd'
  rw [hd] at g5d HRD
  have z9 : I32 w (.slice (some ⟨g, s0, none⟩) (m1 + 1) cm) (m1 + 1) (fun i => run (s0 + i)) := ⟨_, _, rfl, fun _ => ⟨g, s0, rfl, HH.out.grow.lt, fun k hk => HH.out.grow.cell (i := s0 + k) (by omega)⟩⟩
  have hC' : ∀ q', Calls Try.prog 8 #[.slice da (m1 + 1) dk, .slice (some ⟨g, s0, none⟩) (m1 + 1) cm] ((w.drewN q).drewN q') fun e w' => e = .returned (.bool true) ∧ ∃ q'', w' = ((w.drewN q).drewN q').drewN q'' := fun q' => eq_any ((w.drewN q).drewN q') _ _ (m1 + 1) (fun i => run (s0 + i)) HRD z9 (by omega)
  have hC3 : ∀ n', Calls Try.prog 8 #[.slice da (m1 + 1) dk, .slice (some ⟨g, s0, none⟩) (m1 + 1) cm] (w.drewN (q + n')) fun e w' => e = .returned (.bool true) ∧ ∃ m', w' = w.drewN (q + m') := fun n' => by
    have := Calls.quiet_of (hC' n')
    simp only [World.drewN_drewN] at this; exact this
  clear hc3 hc4 hc5 hd hdc z9 hC' HRD HE1
  go_wp2
  go_quiet (first | (go_at_call 8; exact hC3 _))
  rw [World.drewN_drewN]
  obtain ⟨q2, hq2⟩ : ∃ q2, q2 = q + nq := ⟨_, rfl⟩
  rw [← hq2]
  clear hq2 hC3 g5d g3d g4d gr1 gr2
  go_wp2
  go_quiet (fail)
  rw [World.drewN_drewN]
  obtain ⟨wb, hwb⟩ : ∃ wb, wb = w.drewN (q2 + nq) := ⟨_, rfl⟩
  rw [← hwb]
  have HQ : Hid (QPre wb n nc ns nc' Lc m1 t1 s0 t0 d c0 g gb0 cl0 b2 b3 b4 b5 b6 a1 a2 (some ⟨f3, o3, none⟩) (some ⟨f4, o4, none⟩) (some ⟨f5, o5, none⟩) a7 a8 d2 d3 d4 d5 d6 k1 k2 k3 k4 k5 k7 k8 mc ms F L mc' ms' F' L' sp lst r r' ln nd run) := by
    rw [hwb]; exact HH.out.drewN _
  have HBb : Hid (Below w0.heap.size w0 wb) := by rw [hwb]; exact ⟨hB.os, hB.tape, hB.output, hB.size, hB.block⟩
  clear hwb HH g5c g3c g4c gr3 gr4 hB hf3 hf4 hf5
  have hmk := run_make_row' (P := Try.prog) 31 4 (.bool false) 1 Try.underlying31 Try.info4 rfl .i64 .i64 n (by omega) (by omega) wb
  go_wp2
  refine law_loop4 wb _ n (m1 + 1) k1 k2 cm g s0 d wb.heap.size a1 a2 mc' ms' (fun k => run (s0 + k)) _ HQ.out.i1 HQ.out.i2 HQ.out.grow.lt (fun k hk => HQ.out.grow.cell (i := s0 + k) (by omega)) HQ.out.mv y1 (by omega) ((Below.refl _ _).alloc (Nat.le_refl _) _) (Nat.le_refl _) (World.rowIs_made wb (.bool false) n 4) ?_
  refine Lib.hid ?_
  intros
  rename_i w2 b hB2 hE2 hm2
  have HB2 := Lib.hid hB2
  have HE2 := Lib.hid hE2
  have HM2 := Lib.hid hm2
  clear hB2 hE2 hm2 hmk
  go_wp2
  refine law_loop5 wb w2 n nc' (t1 + 1) k1 k2 k5 cs g t0 c0 wb.heap.size gb0 cl0 a1 a2 _ mc' ms' lst r' (fun k => run (t0 + k)) b (fun x => ∃ k, k < m1 + 1 ∧ run (s0 + k) = x) _ HQ.out.i1 HQ.out.i2 HQ.out.i5 HQ.out.n0 HQ.out.row0.1 HQ.out.row0.2 HQ.out.grow.lt (fun k hk => HQ.out.grow.cell (i := t0 + k) (by omega)) HQ.out.st y1 (by omega) (by omega) y3 HB2.out (Nat.le_refl _) HE2.out (fun x hx => by obtain ⟨k, hk, e⟩ := hx; rw [← e]; exact HM2.out k hk) ?_
  refine Lib.hid ?_
  intros
  rename_i w3 b3' hB3 hE3 hP3 hm3
  have HB3 := Lib.hid hB3
  have HE3 := Lib.hid hE3
  have HP3 := Lib.hid hP3
  have HM3 := Lib.hid hm3
  clear hB3 hE3 hP3 hm3 HB2 HE2 HM2
  go_wp2
  refine law_loop6 w3 n k1 k2 d2 d3 wb.heap.size a1 a2 b2 b3 mc ms mc' ms' b3' _ (HQ.out.i1.after HB3.out) (HQ.out.i2.after HB3.out) (HQ.out.p2.after HB3.out) (HQ.out.p3.after HB3.out) HE3.out (fun u hu hf => HQ.out.cov u hu (fun k hk e => by have := HP3.out u ⟨k, hk, e⟩; rw [hf] at this; exact absurd this (by simp)) (fun k hk e => by have := HM3.out k hk; rw [e, hf] at this; exact absurd this (by simp))) y1 ?_
  refine Lib.hid ?_
  intros
  rename_i q3
  obtain ⟨w4, hw4⟩ : ∃ w4, w4 = w3.drewN q3 := ⟨_, rfl⟩
  rw [← hw4]
  have HB4 : Hid (Below wb.heap.size wb w4) := by rw [hw4]; exact ⟨HB3.out.os, HB3.out.tape, HB3.out.output, HB3.out.size, HB3.out.block⟩
  clear hw4 HB3 HE3 HP3 HM3
  go_wp2
  refine law_loop7 w4 nc nc' k3 k4 d4 d5 k5 d6 c0 d _ _ b4 b5 _ b6 F L F' L' r r' ln nd _ (HQ.out.i3.after HB4.out) (HQ.out.i4.after HB4.out) (HQ.out.p4.after HB4.out) (HQ.out.p5.after HB4.out) (HQ.out.i5.after HB4.out) (HQ.out.p6.after HB4.out) (fun k hk h1 h2 => by obtain ⟨z1, z2, z3, z4, z5⟩ := HQ.out.keep k hk h1 h2; exact ⟨z1, z2, z3.after HB4.out, z4.after HB4.out, z5⟩) y2 x4 (by omega) (by omega) ?_
  refine Lib.hid ?_
  intros
  rename_i q4
  have HB5 : Hid (Below w0.heap.size w0 (w4.drewN q4)) := by
    have h := HBb.out.trans (HB4.out.mono HBb.out.size)
    exact ⟨h.os, h.tape, h.output, h.size, h.block⟩
  go_wp2
  exact hret.out _ _ HB5.out rfl rfl
end Go.Proofs.Qxb6623286a
