/-
  Seat b6619397a: the walk of the law (4), its second half: from the two calls of ZZWithoutLocks on.
-/
import Derived.Test.Qxb6619397aPack
namespace Go.Proofs.Qxb6619397a
open Go.RowKit

/-- Is it the statement of the first call? -/
def isR54 : Code → Bool
  | .region i _ _ => i == 54
  | _ => false
/-- That statement, and what stands behind it. -/
def find54 : Code → Option (Code × Code)
  | .seq a b => match isR54 a with
    | true => some (a, b)
    | false => match find54 a with
      | some c => some c
      | none => find54 b
  | _ => none

set_option maxRecDepth 1000000 in
set_option maxHeartbeats 8000000 in
theorem tail (a1 a2 A3 A4 : Option Addr) (k t c1 c2 d3 d4 P bB : Nat) (ks xs is : List Int) (ts : List ByteArray) (items lk lt li : Int) (W w4 : World) (b1 : k ≤ 65536) (b2 : t ≤ 65536) (hP : P ≤ k) (hlk : Plain.lock lk = true)
    (Z1 : Hid (a1 = none → k = 0)) (Z2 : Hid (a2 = none → t = 0)) (HQ : Hid (∀ q, q < k → 0 ≤ xs.getD q 0 ∧ xs.getD q 0 < t)) (HH : Hid (∀ q, q < t → hit xs k q = true)) (hb4 : Below W.heap.size W w4)
    (J1 : Hid (Ints w4 .u8 a1 k ks)) (J2 : Hid (Strs w4 a2 t ts)) (J3 : Hid (Ints w4 .i64 A3 k xs)) (J4 : Hid (Ints w4 .i64 A4 k is))
    (TK : Hid (Ints w4 .u8 (some ⟨bB, 0, none⟩) (k + 1) (Plain.ins ks k P lk))) (TX : Hid (Ints w4 .i64 (some ⟨bB + 1, 0, none⟩) (k + 1) (Plain.ins xs k P lt))) (TI : Hid (Ints w4 .i64 (some ⟨bB + 2, 0, none⟩) (k + 1) (Plain.ins is k P li)))
    (reg54 rest54 : Code) (hc : Try.f4.body.bind find54 = some (reg54, rest54)) (K : Act → World → Prop) (hK : ∀ a w, Code.wp Try.prog rest54 (bodyPost Try.prog Try.f4 fun e w' => e = .returned (.bool true) ∧ Below W.heap.size W w') a w → K a w)
    (s9 s10 s11 s12 s13 s14 s15 s16 s17 s18 s19 s20 s21 s22 s23 s24 s25 s29 s30 s31 s32 s33 s34 s35 s36 s37 s38 s39 s40 s41 s42 s43 s44 s45 s46 s47 s48 s49 s50 s51 s52 s53 s54 s55 s56 s57 s58 s59 s60 s61 s62 s63 s64 s65 s66 s67 s68 s69 s70 s71 s72 s73 s74 s75 s76 s77 s78 s79 s80 s81 s82 s83 s84 s85 s86 s87 s88 s89 s90 s91 s92 s93 s94 s95 s96 s97 s98 s99 s100 s101 s102 s103 s104 s105 s106 s107 s108 s109 s110 s111 s112 s113 s114 s115 s116 s117 s118 s119 s120 s121 s122 s123 s124 s125 s126 s127 s128 s129 s130 s131 s132 s133 s134 s135 s136 s137 s138 s139 s140 s141 s142 s143 s144 s145 s146 s147 s148 s149 s150 s151 s152 s153 s154 s155 s156 s157 s158 s159 s160 s161 s162 s163 s164 s165 s166 s167 s168 s169 s170 s171 s172 s173 s174 s175 s176 s177 s178 s179 s180 s181 s182 s183 s184 s185 s186 s187 s188 s189 s190 s191 s192 s193 s194 s195 s196 s197 s198 s199 s200 s201 s202 s203 s204 s205 s206 s207 s208 s209 s210 s211 s212 s213 s214 s215 s216 s217 s218 s219 s220 s221 s222 s223 s224 s225 s226 s227 s228 s229 s230 s231 s232 s233 s234 s235 s236 s237 s238 s239 s240 s241 s242 s243 s244 s245 s246 s247 s248 s249 s250 s251 s252 s253 s254 s255 s256 s257 s258 s259 s260 s261 s262 s263 s264 s265 s266 s267 s268 s269 s270 s271 s272 s273 s274 s275 s276 s277 s278 s279 s280 s281 s282 s283 s284 s285 s286 s287 s288 s289 s290 s291 s292 s293 s294 s295 s296 s297 s298 s299 s300 s301 s302 s303 s304 s305 s306 s307 s308 s309 s310 s311 s312 s313 s314 s315 s316 s317 s318 s319 s320 s321 s322 s323 s324 s325 s326 s327 s328 s329 s330 s331 s332 s333 s334 s335 s336 s337 s338 s339 s340 s341 s342 s343 s344 s345 s346 s347 s348 s349 s350 s351 s352 s353 s354 s355 s356 s357 s358 s359 s360 s361 s362 s363 s364 s365 s366 s367 s368 s369 s370 s371 s372 s373 s374 s375 s376 s377 s378 s379 s380 s381 s382 s383 s384 s385 s386 s387 s388 s389 s390 s391 s392 s393 s394 s395 s396 s397 s398 s399 s400 s401 s402 s403 s404 s405 s406 s407 s408 s409 s410 s411 s412 s413 s414 s415 s416 s417 s418 s419 s420 s421 s422 s423 s424 s425 s426 s427 s428 s429 s430 s431 s432 s433 s434 s435 s436 s437 s438 s439 s440 s441 s442 s443 s444 s445 s446 s447 s448 s449 s450 s451 s452 : Value) :
    Code.wp Try.prog reg54 (Exit.then K (bodyPost Try.prog Try.f4 fun e w' => e = .returned (.bool true) ∧ Below W.heap.size W w')) ⟨#[.slice a1 k c1, .slice a2 t c2, .slice A3 k d3, .slice A4 k d4, .int .i64 items, .int .i64 P, .int .u8 lk, .int .i64 lt, .int .i64 li, s9, s10, s11, s12, s13, s14, s15, s16, s17, s18, s19, s20, s21, s22, s23, s24, s25, .slice (some ⟨bB, 0, none⟩) (k + 1) (k + 1), .slice (some ⟨bB + 1, 0, none⟩) (k + 1) (k + 1), .slice (some ⟨bB + 2, 0, none⟩) (k + 1) (k + 1), s29, s30, s31, s32, s33, s34, s35, s36, s37, s38, s39, s40, s41, s42, s43, s44, s45, s46, s47, s48, s49, s50, s51, s52, s53, s54, s55, s56, s57, s58, s59, s60, s61, s62, s63, s64, s65, s66, s67, s68, s69, s70, s71, s72, s73, s74, s75, s76, s77, s78, s79, s80, s81, s82, s83, s84, s85, s86, s87, s88, s89, s90, s91, s92, s93, s94, s95, s96, s97, s98, s99, s100, s101, s102, s103, s104, s105, s106, s107, s108, s109, s110, s111, s112, s113, s114, s115, s116, s117, s118, s119, s120, s121, s122, s123, s124, s125, s126, s127, s128, s129, s130, s131, s132, s133, s134, s135, s136, s137, s138, s139, s140, s141, s142, s143, s144, s145, s146, s147, s148, s149, s150, s151, s152, s153, s154, s155, s156, s157, s158, s159, s160, s161, s162, s163, s164, s165, s166, s167, s168, s169, s170, s171, s172, s173, s174, s175, s176, s177, s178, s179, s180, s181, s182, s183, s184, s185, s186, s187, s188, s189, s190, s191, s192, s193, s194, s195, s196, s197, s198, s199, s200, s201, s202, s203, s204, s205, s206, s207, s208, s209, s210, s211, s212, s213, s214, s215, s216, s217, s218, s219, s220, s221, s222, s223, s224, s225, s226, s227, s228, s229, s230, s231, s232, s233, s234, s235, s236, s237, s238, s239, s240, s241, s242, s243, s244, s245, s246, s247, s248, s249, s250, s251, s252, s253, s254, s255, s256, s257, s258, s259, s260, s261, s262, s263, s264, s265, s266, s267, s268, s269, s270, s271, s272, s273, s274, s275, s276, s277, s278, s279, s280, s281, s282, s283, s284, s285, s286, s287, s288, s289, s290, s291, s292, s293, s294, s295, s296, s297, s298, s299, s300, s301, s302, s303, s304, s305, s306, s307, s308, s309, s310, s311, s312, s313, s314, s315, s316, s317, s318, s319, s320, s321, s322, s323, s324, s325, s326, s327, s328, s329, s330, s331, s332, s333, s334, s335, s336, s337, s338, s339, s340, s341, s342, s343, s344, s345, s346, s347, s348, s349, s350, s351, s352, s353, s354, s355, s356, s357, s358, s359, s360, s361, s362, s363, s364, s365, s366, s367, s368, s369, s370, s371, s372, s373, s374, s375, s376, s377, s378, s379, s380, s381, s382, s383, s384, s385, s386, s387, s388, s389, s390, s391, s392, s393, s394, s395, s396, s397, s398, s399, s400, s401, s402, s403, s404, s405, s406, s407, s408, s409, s410, s411, s412, s413, s414, s415, s416, s417, s418, s419, s420, s421, s422, s423, s424, s425, s426, s427, s428, s429, s430, s431, s432, s433, s434, s435, s436, s437, s438, s439, s440, s441, s442, s443, s444, s445, s446, s447, s448, s449, s450, s451, s452], []⟩ w4 := by
  conv at hc => lhs; whnf
  injection hc with hc
  injection hc with h1 h2
  subst h1 h2
  have C8 := hid (toKinds a1 k c1 ks w4 b1 Z1.out J1)
  go_upto_region 55 with (first
    | (go_at_call 8; refine C8.out.mono ?_; rintro e w5 ⟨bK, dK, rfl, _, rK, hb5⟩; have C9 := hid (toTxns a2 t c2 ts w5 b2 Z2.out (hid (J2.out.kept hb5))))
    | (go_at_call 9; refine C9.out.mono ?_; rintro e w6 ⟨bT, dT, rfl, _, rT, hb6⟩; have hb56 := hb5.trans (hb6.mono hb5.size); have C7 := hid (zzA bK bT A3 A4 dK dT d3 d4 k t ks xs is ts items w6 b1 b2 (rK.kept hb6) rT (J3.out.kept hb56) (J4.out.kept hb56) HQ.out HH.out))
    | (go_at_call 7; refine C7.out.mono ?_; rintro e w7 ⟨aK, cK, aT, cT, aX, cX, aI, cI, aA, LA, cA, rfl, fK, fT', fX', fI, fA, hb7⟩))
  have hb47 := hb56.trans (hb7.mono hb56.size)
  clear C7 C9 C8 rT rK hb5 hb6 hb56
  have C9 := hid (toTxns a2 t c2 ts w7 b2 Z2.out (hid (J2.out.kept hb47)))
  go_upto_region 56 with (first
    | (go_at_call 9; refine C9.out.mono ?_; rintro e w8 ⟨bT2, dT2, rfl, _, rT2, hb8⟩; have hb48 := hb47.trans (hb8.mono hb47.size); have C7 := hid (zzB (some ⟨bB, 0, none⟩) bT2 (some ⟨bB + 1, 0, none⟩) (some ⟨bB + 2, 0, none⟩) (k + 1) dT2 (k + 1) (k + 1) k t P ks xs is ts items lk lt li w8 b1 b2 hP hlk (TK.out.kept hb48) rT2 (TX.out.kept hb48) (TI.out.kept hb48) HQ.out))
    | (go_at_call 7; refine C7.out.mono ?_; rintro e w9 ⟨eK, gK, eT, gT, eX, gX, eI, gI, eA, gA, rfl, qK, qT, qX, qI, qA, hb9⟩))
  have hb79 := hb8.trans (hb9.mono hb8.size)
  have hb49 := hb47.trans (hb79.mono hb47.size)
  have hbE : Below W.heap.size W w9 := hb4.trans (hb49.mono hb4.size)
  have AK := hid (fK.kept hb79)
  have AT := hid (fT'.kept hb79)
  have AX := hid (fX'.kept hb79)
  have AI := hid (fI.kept hb79)
  have FA : Hid ((aA = none ∧ (Plain.kp ks k).length = k) ∨ ∃ bA, aA = some ⟨bA, 0, none⟩ ∧ LA = (Plain.kp ks k).length ∧ IntsF w9 .i64 aA (Plain.kp ks k).length (fun j => (kq ks k j : Int))) := by
    rcases fA with h | ⟨bA, h1, h2, h3⟩
    · exact .inl h
    · exact .inr ⟨bA, h1, h2, h3.kept hb79⟩
  have BK := hid qK
  have BT := hid qT
  have BX := hid qX
  have BI := hid qI
  have BA := hid qA
  have J1 := hid (J1.out.kept hb49)
  have HF : Hid (∀ q, q < k → Plain.lock (ks.getD q 0) = false → (Plain.kp ks q).length < (Plain.kp ks k).length ∧ kq ks k (Plain.kp ks q).length = q ∧ ((Plain.kp ks k).length = k → (Plain.kp ks q).length = q)) := fun q hq hl => stays ks k q hq hl
  clear fK fT' fX' fI fA qK qT qX qI qA hb79 hb49 hb9 hb8 hb48 hb47 hb7 C9 C7 rT2 J2 J3 J4 TK TX TI HQ HH hb4 Z1 Z2
  have hut : (Plain.us ks xs k t).length ≤ t := Plain.us_len_le ks xs k t
  generalize hL : (Plain.kp ks k).length = L at *
  have EL := hid hL
  clear hL
  generalize (Plain.us ks xs k t).length = u at *
  generalize fT ks xs ts k t = ft at *
  generalize fX ks xs k = fx at *
  go_wp2
  go_loop [44, 45] (fun v i => ∃ q : Nat, q ≤ k ∧ i = .int .i64 q ∧ v = .int .i64 (Plain.kp ks q).length) (fun _ i => k - (intOf i).toNat)
  case atStart => exact ⟨0, Nat.zero_le _, rfl, rfl⟩
  case round =>
  obtain ⟨q, hq, rfl, rfl⟩ := hrel
  have hle := Plain.kp_len_le ks q
  by_cases hqk : q < k
  · obtain ⟨gk, ok, rfl, hcs⟩ := J1.out (by omega)
    have hc := hcs q hqk
    have HY := hid (Plain.kp_stay ks q)
    have HN := hid (Plain.kp_lock ks q)
    obtain ⟨c, hcc⟩ : ∃ c, c = ks.getD q 0 := ⟨_, rfl⟩
    rw [← hcc] at hc HY HN
    clear hcc hcs
    cases hl : Plain.lock c with
    | true =>
      go_wp2_with (go_at_call 6; refine (isLock c _).mono ?_; rintro e w1 ⟨rfl, hw1⟩; obtain rfl := hw1.symm; rw [hl])
      go_round
      case rel => exact ⟨q + 1, by omega, by go_num, by rw [HN.out hl]⟩
      case measure => simp [intOf] <;> omega
    | false =>
      go_wp2_with (go_at_call 6; refine (isLock c _).mono ?_; rintro e w1 ⟨rfl, hw1⟩; obtain rfl := hw1.symm; rw [hl])
      go_round
      case rel => exact ⟨q + 1, by omega, by go_num, by rw [HY.out hl]; simp⟩
      case measure => simp [intOf] <;> omega
  have eqk : k = q := by omega
  subst eqk
  rw [EL.out]
  clear hq hqk hle
  have heq := fun wx a n c => Lib.run_eql_slice_nil (P := Try.prog) wx 24 3 a n c 0 0 Try.underlying24
  have hne := fun wx a n c => run_neq_slice_nil_any (P := Try.prog) wx 24 3 a n c 0 0 Try.underlying24
  go_upto_region 68 with fail
  go_cut [360] from 353 to 359 (fun c wx => c = .bool false ∧ wx = w9)
  case first =>
    rcases FA.out with ⟨rfl, -⟩ | ⟨bA, rfl, rfl, -⟩
    · go_wp2
      go_meet
      exact ⟨rfl, rfl⟩
    · go_wp2
      go_meet
      exact ⟨rfl, rfl⟩
  case rest =>
  obtain ⟨rfl, hwc⟩ := hcut
  obtain rfl := hwc.symm
  go_wp2
  go_loopw [46] (fun i wr => ∃ j : Nat, j ≤ u ∧ i = .int .i64 j ∧ Hid (Below w9.heap.size w9 wr)) (fun i _ => u - (intOf i).toNat)
  case atStart => exact ⟨0, Nat.zero_le _, rfl, hid (Below.refl _ _)⟩
  case round =>
  obtain ⟨j, hj, rfl, Hb⟩ := hrel
  by_cases hju : j < u
  · obtain ⟨g1, o1, rfl, hc1⟩ := (AT.out.kept Hb.out) (by omega)
    obtain ⟨g2, o2, rfl, hc2⟩ := (BT.out.kept Hb.out) (by omega)
    have d1 := hc1 j hju
    have d2 := hc2 j hju
    generalize ft j = s at d1 d2
    clear hc1 hc2
    go_wp2
    go_quiet (fail)
    go_wp2
    go_roundw
    case rel => exact ⟨j + 1, by omega, by go_num, hid (below_drewN Hb.out _)⟩
    case measure => simp [intOf] <;> omega
  obtain ⟨wv, hwv⟩ : ∃ wv, wv = wr := ⟨_, rfl⟩
  subst hwv
  go_wp2
  go_loopw [47, 48] (fun i q wr => ∃ p : Nat, p ≤ k ∧ q = .int .i64 p ∧ i = .int .i64 (Plain.kp ks p).length ∧ Hid (Below w9.heap.size w9 wr)) (fun _ q _ => k - (intOf q).toNat)
  case atStart => exact ⟨0, Nat.zero_le _, rfl, rfl, Hb⟩
  case round =>
  clear Hb
  obtain ⟨p, hp, rfl, rfl, Hb⟩ := hrel
  have hle := Plain.kp_len_le ks p
  by_cases hpk : p < k
  · obtain ⟨gk, ok, rfl, hcs⟩ := (J1.out.kept Hb.out) (by omega)
    have hc := hcs p hpk
    have HY := hid (Plain.kp_stay ks p)
    have HN := hid (Plain.kp_lock ks p)
    have HF' := hid (HF.out p hpk)
    obtain ⟨c, hcc⟩ : ∃ c, c = ks.getD p 0 := ⟨_, rfl⟩
    rw [← hcc] at hc HY HN HF'
    have HC := hid hcc
    clear hcc hcs
    cases hl : Plain.lock c with
    | true =>
      clear HF HF' HY heq hne
      go_wp2_with (go_at_call 6; refine (isLock c _).mono ?_; rintro e w1 ⟨rfl, hw1⟩; obtain rfl := hw1.symm; rw [hl])
      go_roundw
      case rel => exact ⟨p + 1, by omega, by go_num, by rw [HN.out hl], Hb⟩
      case measure => simp [intOf] <;> omega
    | false =>
      obtain ⟨hi7, hq7, ha7⟩ := HF'.out hl
      have NX : Hid (Value.int .i64 ((Plain.kp ks p).length + 1 : Int) = .int .i64 ((Plain.kp ks (p + 1)).length : Int)) := by rw [HY.out hl]; exact hid (by simp)
      obtain ⟨g1, o1, rfl, hc1⟩ := (AK.out.kept Hb.out) (by omega)
      obtain ⟨g2, o2, rfl, hc2⟩ := (BK.out.kept Hb.out) (by omega)
      obtain ⟨g3, o3, rfl, hc3⟩ := (AX.out.kept Hb.out) (by omega)
      obtain ⟨g4, o4, rfl, hc4⟩ := (BX.out.kept Hb.out) (by omega)
      obtain ⟨g5, o5, rfl, hc5⟩ := (AI.out.kept Hb.out) (by omega)
      obtain ⟨g6, o6, rfl, hc6⟩ := (BI.out.kept Hb.out) (by omega)
      obtain ⟨g7, o7, e7, hc7⟩ := (BA.out.kept Hb.out) (by omega)
      simp only [Option.some.injEq, Addr.mk.injEq] at e7
      obtain ⟨rfl, rfl, -⟩ := e7
      have d1 := hc1 _ hi7
      have d2 := hc2 _ hi7
      have d3 := hc3 _ hi7
      have d4 := hc4 _ hi7
      have d5 := hc5 _ hi7
      have d6 := hc6 _ hi7
      have d7 := hc7 _ hi7
      simp only [hq7, Nat.zero_add] at d1 d2 d5 d6 d7
      rw [← HC.out] at d1 d2
      generalize fx (Plain.kp ks p).length = vx at d3 d4
      generalize is.getD p 0 = vi at d5 d6
      have FA' := FA.out
      clear hc1 hc2 hc3 hc4 hc5 hc6 hc7 AK BK AX BX AI BI BA AT BT HF HF' HY HN HC J1 FA EL
      have D8 : Hid ((aA = none ∧ (Plain.kp ks p).length = p) ∨ ∃ bA, aA = some ⟨bA, 0, none⟩ ∧ LA = L ∧ wr.cell? ⟨bA, (Plain.kp ks p).length, none⟩ = some (.int .i64 p)) := by
        rcases FA' with ⟨h1, h2⟩ | ⟨bA, h1, h2, h3⟩
        · exact .inl ⟨h1, ha7 h2⟩
        · refine .inr ⟨bA, h1, h2, ?_⟩
          obtain ⟨g8, o8, e8, hc8⟩ := (h3.kept Hb.out) (by omega)
          rw [h1] at e8
          simp only [Option.some.injEq, Addr.mk.injEq] at e8
          obtain ⟨rfl, rfl, -⟩ := e8
          have := hc8 _ hi7
          simp only [Nat.zero_add, hq7] at this
          exact this
      clear FA' ha7 hq7
      generalize (Plain.kp ks p).length = i at *
      go_wp2_with (go_at_call 6; refine (isLock c _).mono ?_; rintro e w1 ⟨rfl, hw1⟩; obtain rfl := hw1.symm; rw [hl])
      go_quiet (fail)
      go_wp2
      go_quiet (fail)
      go_upto_region 87 with fail
      rcases D8.out with ⟨rfl, rfl⟩ | ⟨bA, rfl, rfl, d8⟩
      · clear D8
        by_cases hpP : i < P
        · have e9 : Plain.sh P i = i := by simp [Plain.sh, hpP]
          rw [e9] at d7
          clear e9
          go_wp2
          go_roundw
          case rel => exact ⟨i + 1, by omega, by go_num, NX.out, hid (below_drewN Hb.out _)⟩
          case measure => simp [intOf] <;> omega
        · have e9 : (Plain.sh P i : Int) = (i : Int) + 1 := by simp [Plain.sh, hpP]
          rw [e9] at d7
          clear e9
          go_wp2
          go_roundw
          case rel => exact ⟨i + 1, by omega, by go_num, NX.out, hid (below_drewN Hb.out _)⟩
          case measure => simp [intOf] <;> omega
      · clear D8
        by_cases hpP : p < P
        · have e9 : Plain.sh P p = p := by simp [Plain.sh, hpP]
          rw [e9] at d7
          clear e9
          go_wp2
          go_roundw
          case rel => exact ⟨p + 1, by omega, by go_num, NX.out, hid (below_drewN Hb.out _)⟩
          case measure => simp [intOf] <;> omega
        · have e9 : (Plain.sh P p : Int) = (p : Int) + 1 := by simp [Plain.sh, hpP]
          rw [e9] at d7
          clear e9
          go_wp2
          go_roundw
          case rel => exact ⟨p + 1, by omega, by go_num, NX.out, hid (below_drewN Hb.out _)⟩
          case measure => simp [intOf] <;> omega
  go_wp2
  go_ret
  exact ⟨rfl, hbE.trans (Hb.out.mono hbE.size)⟩
end Go.Proofs.Qxb6619397a
