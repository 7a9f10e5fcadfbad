/-
  Rounds of consumeQuotedContent: escapes by three digits of base 8.
-/
import Derived.Test.YtcelnnjjakiehaaGreatDoorQlX
import Derived.StillTailTactics
namespace Go.Proofs.YtcelnnjjakiehaaGreatDoor
open Go.RowKit
set_option linter.unusedVariables false
set_option maxRecDepth 1000000
set_option maxHeartbeats 16000000


/-- the head of a round of the inner loop -/
def QFrameO (t : Nat → Value) (lb : Nat) (q : ByteArray) (raw uni : Bool) (nm : ByteArray) (np he : Bool) (i : Nat) (v : Value) (d : Int) (j : Nat) : Act := ⟨#[.pointer (some ⟨lb, 0, none⟩), .string q, .bool raw, .bool uni, .string nm, .bool np, t 6, t 7, t 8, t 9, t 10, t 11, .string ⟨#[]⟩, .bool false, .int .i64 ((i : Int) + 1 + 1), v, .bool he, .int .u8 92, .int .u8 d, t 19, t 20, t 21, t 22, t 23, t 24, t 25, t 26, t 27, t 28, t 29, t 30, t 31, t 32, t 33, t 34, t 35, t 36, t 37, t 38, t 39, t 40, t 41, t 42, t 43, t 44, t 45, t 46, t 47, t 48, t 49, t 50, t 51, t 52, t 53, t 54, t 55, t 56, t 57, t 58, t 59, t 60, t 61, t 62, t 63, t 64, t 65, t 66, t 67, t 68, t 69, t 70, t 71, t 72, t 73, t 74, t 75, t 76, t 77, t 78, t 79, t 80, t 81, t 82, t 83, t 84, t 85, t 86, t 87, t 88, t 89, t 90, t 91, t 92, t 93, t 94, t 95, t 96, t 97, t 98, t 99, t 100, t 101, t 102, t 103, t 104, t 105, t 106, t 107, t 108, t 109, t 110, t 111, t 112, t 113, t 114, t 115, t 116, t 117, t 118, .int .u8 d, t 120, t 121, t 122, t 123, t 124, t 125, t 126, t 127, t 128, t 129, t 130, t 131, t 132, t 133, t 134, t 135, t 136, t 137, t 138, t 139, t 140, t 141, t 142, t 143, t 144, t 145, t 146, t 147, t 148, t 149, t 150, t 151, t 152, t 153, t 154, t 155, t 156, t 157, t 158, t 159, t 160, t 161, t 162, t 163, t 164, t 165, t 166, t 167, t 168, t 169, t 170, t 171, t 172, t 173, t 174, t 175, t 176, t 177, t 178, t 179, t 180, t 181, t 182, t 183, t 184, t 185, t 186, t 187, t 188, t 189, t 190, t 191, t 192, t 193, t 194, t 195, t 196, t 197, t 198, t 199, t 200, t 201, t 202, t 203, t 204, t 205, t 206, t 207, t 208, t 209, t 210, t 211, t 212, t 213, t 214, t 215, t 216, t 217, t 218, t 219, t 220, t 221, t 222, t 223, t 224, t 225, t 226, t 227, t 228, t 229, t 230, t 231, t 232, t 233, t 234, t 235, t 236, t 237, t 238, t 239, t 240, t 241, t 242, t 243, t 244, t 245, t 246, t 247, t 248, t 249, t 250, t 251, t 252, t 253, t 254, t 255, t 256, t 257, t 258, t 259, t 260, t 261, t 262, t 263, t 264, t 265, t 266, t 267, t 268, t 269, t 270, t 271, t 272, t 273, t 274, t 275, t 276, t 277, t 278, t 279, t 280, t 281, t 282, t 283, t 284, t 285, t 286, t 287, t 288, t 289, t 290, t 291, t 292, t 293, t 294, t 295, t 296, t 297, t 298, t 299, t 300, t 301, t 302, t 303, t 304, t 305, t 306, t 307, t 308, t 309, t 310, t 311, t 312, t 313, t 314, t 315, t 316, t 317, t 318, t 319, t 320, t 321, t 322, t 323, t 324, t 325, t 326, t 327, t 328, t 329, t 330, t 331, t 332, t 333, t 334, t 335, t 336, t 337, t 338, t 339, t 340, t 341, t 342, t 343, t 344, t 345, t 346, t 347, t 348, t 349, t 350, t 351, t 352, t 353, t 354, t 355, t 356, t 357, t 358, t 359, t 360, t 361, t 362, t 363, t 364, t 365, t 366, t 367, t 368, t 369, t 370, t 371, t 372, t 373, t 374, t 375, t 376, t 377, t 378, t 379, t 380, t 381, t 382, t 383, t 384, t 385, t 386, t 387, t 388, t 389, t 390, t 391, t 392, .int .i64 (j : Int), t 394, t 395, t 396, t 397, t 398, t 399, t 400, t 401, t 402, t 403, t 404, t 405, t 406, t 407, t 408, t 409, t 410, t 411, t 412, t 413, t 414, t 415, t 416, t 417, t 418, t 419, t 420, t 421, t 422, t 423, t 424, t 425, t 426, t 427, t 428, t 429, t 430, t 431, t 432, t 433, t 434, t 435, t 436, t 437, t 438, t 439, t 440, t 441, t 442, t 443, t 444, t 445, t 446, t 447, t 448, t 449, t 450, t 451, t 452, t 453, t 454, t 455, t 456, t 457, t 458, t 459, t 460, t 461, t 462, t 463, t 464, t 465, t 466, t 467, t 468, t 469, t 470, t 471, t 472, t 473, t 474, t 475, t 476, t 477, t 478, t 479, t 480, t 481, t 482, t 483, t 484, t 485, t 486, t 487, t 488, t 489, t 490, t 491, t 492, t 493, t 494, t 495, t 496, t 497, t 498, t 499, t 500, t 501, t 502, t 503, t 504, t 505, t 506, t 507, t 508, t 509, t 510, t 511], []⟩
theorem QFrameO.of (l : List Value) {lb : Nat} {q : ByteArray} {raw uni : Bool} {nm : ByteArray} {np he : Bool} {i : Nat} {v : Value} {d : Int} {j : Nat} (hl : l.length = 512) (h0 : l.getD 0 undef = .pointer (some ⟨lb, 0, none⟩)) (h1 : l.getD 1 undef = .string q) (h2 : l.getD 2 undef = .bool raw) (h3 : l.getD 3 undef = .bool uni) (h4 : l.getD 4 undef = .string nm) (h5 : l.getD 5 undef = .bool np) (h12 : l.getD 12 undef = .string ⟨#[]⟩) (h13 : l.getD 13 undef = .bool false) (h14 : l.getD 14 undef = .int .i64 ((i : Int) + 1 + 1)) (h15 : l.getD 15 undef = v) (h16 : l.getD 16 undef = .bool he) (h17 : l.getD 17 undef = .int .u8 92) (h18 : l.getD 18 undef = .int .u8 d) (h119 : l.getD 119 undef = .int .u8 d) (h393 : l.getD 393 undef = .int .i64 (j : Int)) : (⟨l.toArray, []⟩ : Act) = QFrameO (fun k => l.getD k undef) lb q raw uni nm np he i v d j := by
  have h := frame_eq l hl
  rw [h0, h1, h2, h3, h4, h5, h12, h13, h14, h15, h16, h17, h18, h119, h393] at h
  rw [h]; rfl

theorem sub_cons (r : List UInt8) (i j : Nat) (hi : i < j) (hj : j ≤ r.length) : sub r i j = r.getD i 0 :: sub r (i + 1) j := by
  unfold sub
  have h : i < (r.take j).length := by rw [List.length_take]; omega
  rw [List.drop_eq_getElem_cons h, List.getElem_take]
  congr 1
  rw [List.getD_eq_getElem?_getD, List.getElem?_eq_getElem (by omega)]; rfl
theorem q_o48 {W w0 wx : World} {lb fb B i : Nat} {s q nm : ByteArray} {x : LexSt} {raw uni np he ident : Bool} {v : Value} {acc : List UInt8} {R : QR} {r : List UInt8} (t : Nat → Value) (hr : s.data.toList.drop x.pos = r) (hq : q.size = 1 ∨ q.size = 3) (hnm : (nm.toList == [105, 100, 101, 110, 116, 105, 102, 105, 101, 114]) = ident) (hi : i < r.length) (hacc : acc.length ≤ 4 * i)
    (hQ : QAt W w0 lb fb s x B v acc wx) (hrun : Link np he (qrun q.data.toList raw uni ident r i acc) R) (hgood : np = false → R.good r.length) (hcalm : np = true → calm r) (hc : q.data.toList.isPrefixOf (r.drop i) = false) (h92 : byteAt r i = 92) (hlt : i + 1 < r.length) (hraw : raw = false) (hd : byteAt r (i + 1) = 48) {Kx : Act → World → Prop} {Post : Ending → World → Prop} (hPost : ∀ e w', QReadN W w0 lb fb s x np R e w' → Post e w') (J : Nat → Act → World → Prop) (K : Act → World → Prop)
    (hJ : ∀ g a w, QInv W w0 lb fb s x B q raw uni nm np ident r R g a w → J g a w) (hK : ∀ a w, Handed J (r.length - i) a w → K a w) :
    Code.wp Tryz.prog qbody (Exit.then K (Exit.inBlock 0 (Exit.then Kx (bodyPost Tryz.prog Tryz.f71 Post)))) (QFrame t lb q raw uni nm np he i v) wx := by
  have hsz := hQ.cur.sz
  have hpos := hQ.cur.pos
  have hrl : r.length = s.size - x.pos := by rw [← hr]; exact hQ.cur.len
  have hPK : Hid (∀ (acc' : List UInt8) (v' : Value) (w1 : World), QAt W w0 lb fb s x B v' acc' w1 → ∀ (k : Nat) (j : Int), j = k → k < r.length → Calls Tryz.prog 65 #[.pointer (some ⟨lb, 0, none⟩), .int .i64 j] w1 fun e w' => e = .returned (.int .u8 (byteAt r k)) ∧ QAt W w0 lb fb s x B v' acc' w') := Lib.hid (fun acc' v' w1 h1 k j hj hk => by have := peekQ h1 k j hj (by rw [hr]; exact hk); rw [hr] at this; exact this)
  have hOK : Hid (∀ (acc' : List UInt8) (v' : Value) (w1 : World), QAt W w0 lb fb s x B v' acc' w1 → ∀ (k : Nat) (j : Int), j = k → k < r.length → Calls Tryz.prog 63 #[.pointer (some ⟨lb, 0, none⟩), .int .i64 j] w1 fun e w' => e = .returned (.bool true) ∧ QAt W w0 lb fb s x B v' acc' w') := Lib.hid (fun acc' v' w1 h1 k j hj hk => by have := peekOkQ h1 k j hj (by omega); rw [hr, show decide (k < r.length) = true from by simpa using hk] at this; exact this)
  have hSL : Hid (∀ (acc' : List UInt8) (v' : Value) (w1 : World), QAt W w0 lb fb s x B v' acc' w1 → ∀ (a b : Nat) (j k : Int), j = a → k = b → a ≤ b → b ≤ 2000000 → a ≤ r.length → Calls Tryz.prog 76 #[.pointer (some ⟨lb, 0, none⟩), .int .i64 j, .int .i64 k] w1 fun e w' => e = .returned (.string ⟨(sub r a b).toArray⟩) ∧ QAt W w0 lb fb s x B v' acc' w') := Lib.hid (fun acc' v' w1 h1 a b j k hj hk hab hb ha => by have := sliceQ h1 a b j k hj hk hab hb (by rw [hr]; exact ha); rw [hr] at this; exact this)
  rw [qrun_in _ _ _ _ _ _ _ hi] at hrun
  subst hraw
  have hst : qstep q.data.toList false uni r i = (match badAt oct r (i + 2) 0 2 with
      | some j => .fault i (i + 2 + j + 1) 1
      | none => .next 3 [UInt8.ofNat (valL 8 (sub r (i + 1) (i + 4)))]) := by
    unfold qstep
    rw [hc, if_neg (by decide), if_pos h92, if_pos hlt, hd]; rfl
  rw [hst] at hrun
  have hsub : ((⟨(sub r i (i + q.size)).toArray⟩ : ByteArray).toList == q.toList) = false := by rw [sub_pre]; exact hc
  have HSL2 : Hid (∀ w1, QAt W w0 lb fb s x B v acc w1 → Calls Tryz.prog 76 #[.pointer (some ⟨lb, 0, none⟩), .int .i64 (i : Int), .int .i64 ((i : Int) + (q.size : Int))] w1 fun e w' => e = .returned (.string ⟨(sub r i (i + q.size)).toArray⟩) ∧ QAt W w0 lb fb s x B v acc w') := Lib.hid (fun w1 h1 => hSL.out acc v w1 h1 i (i + q.size) _ _ rfl (by omega) (by omega) (by omega) (Nat.le_of_lt hi))
  generalize (⟨(sub r i (i + q.size)).toArray⟩ : ByteArray) = S at *
  obtain ⟨i0, hinf, hz0, hz1, hz2⟩ := info_parts info_u8q
  have HOK2 : Hid (∀ w1, QAt W w0 lb fb s x B v acc w1 → Calls Tryz.prog 63 #[.pointer (some ⟨lb, 0, none⟩), .int .i64 (i : Int)] w1 fun e w' => e = .returned (.bool true) ∧ QAt W w0 lb fb s x B v acc w') := Lib.hid (fun w1 h1 => hOK.out acc v w1 h1 i _ rfl hi)
  have hcb := byteAt_bd r i
  have HPK2 : Hid (∀ w1, QAt W w0 lb fb s x B v acc w1 → Calls Tryz.prog 65 #[.pointer (some ⟨lb, 0, none⟩), .int .i64 (i : Int)] w1 fun e w' => e = .returned (.int .u8 (byteAt r i)) ∧ QAt W w0 lb fb s x B v acc w') := Lib.hid (fun w1 h1 => hPK.out acc v w1 h1 i _ rfl hi)
  rw [h92] at HPK2
  have hdb := byteAt_bd r (i + 1)
  have HOK3 : Hid (∀ w1, QAt W w0 lb fb s x B v acc w1 → Calls Tryz.prog 63 #[.pointer (some ⟨lb, 0, none⟩), .int .i64 ((i : Int) + 1)] w1 fun e w' => e = .returned (.bool true) ∧ QAt W w0 lb fb s x B v acc w') := Lib.hid (fun w1 h1 => hOK.out acc v w1 h1 (i + 1) _ (by omega) hlt)
  have HPK3 : Hid (∀ w1, QAt W w0 lb fb s x B v acc w1 → Calls Tryz.prog 65 #[.pointer (some ⟨lb, 0, none⟩), .int .i64 ((i : Int) + 1)] w1 fun e w' => e = .returned (.int .u8 (byteAt r (i + 1))) ∧ QAt W w0 lb fb s x B v acc w') := Lib.hid (fun w1 h1 => hPK.out acc v w1 h1 (i + 1) _ (by omega) hlt)
  have HRUN := Lib.hid hrun; have HQ := Lib.hid hQ; have HPost := Lib.hid hPost; have HJ := Lib.hid hJ; have HNM := Lib.hid hnm; have HRr := Lib.hid hr
  rw [hd] at HPK3
  have HOKJ := hOK; have HPKJ := hPK; have hSLX := hSL; have HGOOD := Lib.hid hgood; have HD0 := Lib.hid hd; have HCALM : Hid (np = true → i + 9 < r.length) := Lib.hid (fun h => calm_in (hcalm h) hi h92)
  clear hrun hQ hPost hgood hcalm hst hJ hr hnm hOK hPK hSL hc h92 hd hdb
  unfold QFrame
  conv => arg 2; whnf
  go_wp2_with fail
  refine (HOK2.out _ HQ.out).mono ?_
  rintro e w1 ⟨rfl, hQ1⟩
  clear HQ; have HQ := Lib.hid hQ1; clear hQ1
  go_wp2_with fail
  refine (HSL2.out _ HQ.out).mono ?_
  rintro e w1 ⟨rfl, hQ1⟩
  clear HQ; have HQ := Lib.hid hQ1; clear hQ1
  go_wp2_with fail
  refine (HPK2.out _ HQ.out).mono ?_
  rintro e w1 ⟨rfl, hQ1⟩
  clear HQ; have HQ := Lib.hid hQ1; clear hQ1
  go_wp2_with fail
  refine (HOK3.out _ HQ.out).mono ?_
  rintro e w1 ⟨rfl, hQ1⟩
  clear HQ; have HQ := Lib.hid hQ1; clear hQ1
  go_wp2_with fail
  refine (HPK3.out _ HQ.out).mono ?_
  rintro e w1 ⟨rfl, hQ1⟩
  clear HQ; have HQ := Lib.hid hQ1; clear hQ1
  go_wp2_with fail
  refine wp_loop_ghost_k (fun g a wx => ∃ (t : Nat → Value) (j : Nat) (he' : Bool), a = QFrameO t lb q false uni nm np he' i v 48 j ∧ g = 2 - j ∧ j ≤ 2 ∧ QAt W w0 lb fb s x B v acc wx ∧ (he' = false → he = false ∧ badAt oct r (i + 2) 0 2 = badAt oct r (i + 2) j (2 - j)) ∧ (he' = true → np = true ∧ R.bad)) 2 ⟨_, 0, he, QFrameO.of _ rfl rfl rfl rfl rfl rfl rfl rfl rfl rfl rfl rfl rfl rfl rfl rfl, rfl, by omega, HQ.out, fun h => ⟨h, rfl⟩, HRUN.out.bad⟩ ?_
  rintro g a wx ⟨t2, j, he', rfl, rfl, hj, hQ, hb, hb2⟩ J2 K2 hJ2 hK2
  clear HQ
  have HQ := Lib.hid hQ; have HB := Lib.hid hb; have HB2 := Lib.hid hb2; have HJ2 := Lib.hid hJ2
  clear hQ hb hb2 hJ2
  unfold QFrameO
  by_cases hj2 : j = 2
  · subst hj2
    rcases hnone : badAt oct r (i + 2) 0 2 with _ | j0
    rotate_left
    · cases he' with
      | false =>
        have h9 := (HB.out rfl).2
        rw [hnone] at h9
        exact absurd h9 (by intro h; cases h)
      | true =>
        obtain ⟨hnp, hbad⟩ := HB2.out rfl
        subst hnp
        have HBAD := Lib.hid hbad
        have h9 := HCALM.out rfl
        obtain ⟨_, hj0, hpre, hno⟩ := badAt_some oct r (i + 2) 2 0 j0 hnone
        have hno' : oct (byteAt r (i + 2 + j0)) = false := by
          cases h : oct (byteAt r (i + 2 + j0)) with
          | false => rfl
          | true => exact absurd ⟨by omega, h⟩ hno
        have hpre3 : ∀ k, k < j0 + 1 → oct (byteAt r (i + 1 + k)) = true := by
          intro k hk
          by_cases h0 : k = 0
          · subst h0; rw [show i + 1 + 0 = i + 1 from rfl, HD0.out]; rfl
          · have := hpre (k - 1) (by omega) (by omega)
            rw [show i + 2 + (k - 1) = i + 1 + k from by omega] at this; exact this
        have hno3 : oct (byteAt r (i + 1 + (j0 + 1))) = false := by rw [show i + 1 + (j0 + 1) = i + 2 + j0 from by omega]; exact hno'
        have hsl := sub_len r (i + 1) 3 (by omega)
        have hsb := sub_byte r (i + 1) 3
        have hva := val_take 8 2 (by decide) (sub r (i + 1) (i + 1 + 3)) (j0 + 1) (by omega) (by omega) (fun k hk => by rw [hsb k (by omega)]; exact digV_oct _ (hpre3 k hk))
        have hpu : ∀ w1, QAt W w0 lb fb s x B v acc w1 → Calls Tryz.prog 86 #[.string ⟨(sub r (i + 1) (i + 1 + 3)).toArray⟩, .int .i64 8, .int .i64 8] w1 fun e w' => (∃ N, e = .returned (.tuple #[.int .u64 0, .iface 174 (.pointer (some ⟨N, 0, none⟩))])) ∧ Below w1.heap.size w1 w' := fun w1 h1 => by
          obtain ⟨ev, he1, he2⟩ := synQ h1
          exact parseBad8_8 ⟨(sub r (i + 1) (i + 1 + 3)).toArray⟩ (j0 + 1) (by show j0 + 1 < (sub r (i + 1) (i + 1 + 3)).toArray.size; rw [List.size_toArray, hsl]; omega) (by show (sub r (i + 1) (i + 1 + 3)).toArray.size ≤ 100; rw [List.size_toArray, hsl]; decide)
            (fun k hk => by show oct (byteAt (sub r (i + 1) (i + 1 + 3)) k) = true; rw [hsb k (by omega)]; exact hpre3 k hk) (by show oct (byteAt (sub r (i + 1) (i + 1 + 3)) (j0 + 1)) = false; rw [hsb (j0 + 1) (by omega)]; exact hno3) (by show valL 8 ((sub r (i + 1) (i + 1 + 3)).take (j0 + 1)) ≤ 255; have : (8 : Nat) ^ 2 = 64 := rfl; omega) w1 he1 he2
        have hsx := fun w1 (h1 : QAt W w0 lb fb s x B v acc w1) => hSLX.out acc v w1 h1 (i + 1) (i + 1 + 3) ((i : Int) + 1) ((i : Int) + 1 + 1 + 2) (by omega) (by omega) (by omega) (by omega) (by omega)
        generalize (⟨(sub r (i + 1) (i + 1 + 3)).toArray⟩ : ByteArray) = T at *
        have HPU := Lib.hid hpu; have HSX := Lib.hid hsx
        clear hpu hsx hva hpre3 hno3 hno' hno hpre hnone hsl hsb HB HB2 HRUN hbad
        go_wp2_with fail
        refine (HSX.out _ HQ.out).mono ?_
        rintro e w1 ⟨rfl, hQ1⟩
        clear HQ; have HQ := Lib.hid hQ1; clear hQ1
        go_wp2_with fail
        refine (HPU.out _ HQ.out).mono ?_
        rintro e w3 ⟨⟨N, rfl⟩, hb3⟩
        have HQ3 := Lib.hid (HQ.out.keep hb3)
        clear HQ hb3
        have HQ := HQ3; clear HQ3
        go_wp2_with fail
        refine Handed.intro (r.length - (i + 1 + 1)) (by omega) ?_
        exact HJ.out _ _ _ (QInv.of acc _ rfl rfl rfl rfl rfl rfl rfl rfl rfl (by show _ = _; rfl) rfl rfl (by omega) (by omega) HQ.out (Link.loose HBAD.out))
    have hall := badAt_none oct r (i + 2) 2 0 hnone
    have hl1 := (hall 1 (by omega) (by omega)).1
    have hrn : Link np he' (qrun q.data.toList false uni ident r (i + 3 + 1) (acc ++ [UInt8.ofNat (valL 8 (sub r (i + 1) (i + 1 + 3)))])) R := ⟨fun h => by have h9 := HRUN.out.eq (HB.out h).1; rw [hnone] at h9; exact h9, HB2.out⟩
    have hsl := sub_len r (i + 1) 3 (by omega)
    have hsb := sub_byte r (i + 1) 3
    have hall3 : ∀ k, k < 3 → oct (byteAt r (i + 1 + k)) = true := by
      intro k hk
      by_cases h0 : k = 0
      · subst h0; rw [show i + 1 + 0 = i + 1 from rfl, HD0.out]; rfl
      · have := (hall (k - 1) (by omega) (by omega)).2
        rw [show i + 2 + (k - 1) = i + 1 + k from by omega] at this; exact this
    have hv : valL 8 (sub r (i + 1) (i + 1 + 3)) < 256 := by
      have h2 := sub_len r (i + 2) 2 (by omega)
      have h3 := sub_byte r (i + 2) 2
      have h1 := valF_lt 8 (sub r (i + 2) (i + 2 + 2)) (digV 48) (fun k hk => by rw [h2] at hk; rw [h3 k hk]; exact digV_oct _ (hall k (by omega) (by omega)).2)
      rw [h2] at h1
      have hd0 : ((r.getD (i + 1) 0).toNat : Int) = 48 := HD0.out
      rw [sub_cons r (i + 1) (i + 1 + 3) (by omega) (by omega)]
      show valF 8 (0 * 8 + digV ((r.getD (i + 1) 0).toNat : Int)) (sub r (i + 2) (i + 2 + 2)) < 256
      rw [hd0]
      have e : digV 48 = 0 := by decide
      rw [e] at h1 ⊢
      exact Nat.lt_of_lt_of_le h1 (by decide)
    have hpu := fun w => parse8_8 ⟨(sub r (i + 1) (i + 1 + 3)).toArray⟩ (by show (sub r (i + 1) (i + 1 + 3)).toArray.size ≠ 0; rw [List.size_toArray, hsl]; decide) (by show (sub r (i + 1) (i + 1 + 3)).toArray.size ≤ 100; rw [List.size_toArray, hsl]; decide)
      (by intro k hk; have hk : k < 3 := by (have : k < (sub r (i + 1) (i + 1 + 3)).toArray.size := hk); rw [List.size_toArray, hsl] at this; exact this
          show isDig 8 (byteAt (sub r (i + 1) (i + 1 + 3)) k) = true
          rw [hsb k hk]; exact hall3 k hk) (by show valL 8 (sub r (i + 1) (i + 1 + 3)) ≤ 255; omega) w
    have hpu : ∀ w, Calls Tryz.prog 86 #[.string ⟨(sub r (i + 1) (i + 1 + 3)).toArray⟩, .int .i64 8, .int .i64 8] w fun e w' => e = .returned (.tuple #[.int .u64 ((valL 8 (sub r (i + 1) (i + 1 + 3)) : Nat) : Int), .nilIface]) ∧ Below w.heap.size w w' := hpu
    have hsx := fun w1 (h1 : QAt W w0 lb fb s x B v acc w1) => hSLX.out acc v w1 h1 (i + 1) (i + 1 + 3) ((i : Int) + 1) ((i : Int) + 1 + 1 + 2) (by omega) (by omega) (by omega) (by omega) (by omega)
    have hun : ((UInt8.ofNat (valL 8 (sub r (i + 1) (i + 1 + 3)))).toNat : Int) = ((valL 8 (sub r (i + 1) (i + 1 + 3)) : Nat) : Int) := by
      rw [UInt8.toNat_ofNat_of_lt' (by simpa using hv)]
    generalize (⟨(sub r (i + 1) (i + 1 + 3)).toArray⟩ : ByteArray) = T at *
    generalize valL 8 (sub r (i + 1) (i + 1 + 3)) = n at *
    have hnI : ((n : Nat) : Int) < 256 := by omega
    have HPU := Lib.hid hpu; have HSX := Lib.hid hsx; have HRN := Lib.hid hrn; have HUN := Lib.hid hun
    clear hpu hsx hrn hun hall hall3 hnone hsl hsb HB HB2 HRUN hv
    have hn0 : (0 : Int) ≤ (n : Int) := by omega
    generalize (n : Int) = z at *
    go_wp2_with fail
    refine (HSX.out _ HQ.out).mono ?_
    rintro e w1 ⟨rfl, hQ1⟩
    clear HQ; have HQ := Lib.hid hQ1; clear hQ1
    go_wp2_with fail
    refine (HPU.out _).mono ?_
    rintro e w3 ⟨rfl, hb3⟩
    have HQ3 := Lib.hid (HQ.out.keep hb3)
    clear HQ hb3
    have hown := HQ3.out.own
    have hB := HQ3.out.hB
    go_wp2_with (at_builtin; go_loud (refine wpList_append_Own _ rfl (.tmp 460) (.tmp 463) 33 rfl B 5 i0 (.int .u8 0) 1 1 Tryz.underlying33 hinf hz0 hz1 hz2 rfl (by decide) _ _ _ rfl (hown.alloc _) ⟨w3.heap.size, 0, none⟩ 1 1 [.int .u8 z] rfl rfl (cell_one_new _ _ _) (by simp [Value.oneCell']) (by unfold maxLen; omega) (by omega) (by simp; omega) ?_))
    intro v' w2 hown1 hg1 hbk hne
    go_wp2_with fail
    refine Handed.intro (r.length - (i + 3 + 1)) ?_ ?_
    · omega
    · refine HJ.out _ _ _ (QInv.of (acc ++ [UInt8.ofNat n]) _ rfl rfl rfl rfl rfl rfl rfl rfl rfl (by show _ = _; rfl) rfl rfl (by omega) (by simp; omega) ?_ HRN.out)
      refine (HQ3.out.alloc _).app hg1 ?_
      rw [← HUN.out] at hown1
      simpa [bv_append, bv] using hown1
  · have hjl : j < 2 := by omega
    have hNG : oct (byteAt r (i + 2 + j)) = true ∧ i + 2 + j < r.length → (he' = false → he = false ∧ badAt oct r (i + 2) 0 2 = badAt oct r (i + 2) (j + 1) (2 - (j + 1))) := by
      intro h h'
      refine ⟨(HB.out h').1, ?_⟩
      rw [(HB.out h').2, show 2 - j = (2 - (j + 1)) + 1 from by omega]
      exact badAt_go oct r (i + 2) j _ h.2 h.1
    have hNB : ¬ (i + 2 + j < r.length ∧ oct (byteAt r (i + 2 + j)) = true) → he' = false → R = .err i (i + 2 + j + 1) := by
      intro h h'
      have h2 := (HB.out h').2
      rw [show 2 - j = (2 - (j + 1)) + 1 from by omega, badAt_stop oct r (i + 2) j _ h] at h2
      have h3 := HRUN.out.eq (HB.out h').1
      rw [h2] at h3
      exact h3.symm
    have HST : Hid (np = false → he' = false) := Lib.hid (fun h => by
      cases he' with
      | false => rfl
      | true => have := (HB2.out rfl).1; rw [h] at this; exact absurd this (by decide))
    by_cases hin : i + 2 + j < r.length
    · have hokx : Hid (∀ w1, QAt W w0 lb fb s x B v acc w1 → Calls Tryz.prog 63 #[.pointer (some ⟨lb, 0, none⟩), .int .i64 ((i : Int) + 1 + 1 + (j : Int))] w1 fun e w' => e = .returned (.bool true) ∧ QAt W w0 lb fb s x B v acc w') := Lib.hid (fun w1 h1 => HOKJ.out acc v w1 h1 (i + 2 + j) _ (by omega) hin)
      have hpkx : Hid (∀ w1, QAt W w0 lb fb s x B v acc w1 → Calls Tryz.prog 65 #[.pointer (some ⟨lb, 0, none⟩), .int .i64 ((i : Int) + 1 + 1 + (j : Int))] w1 fun e w' => e = .returned (.int .u8 (byteAt r (i + 2 + j))) ∧ QAt W w0 lb fb s x B v acc w') := Lib.hid (fun w1 h1 => HPKJ.out acc v w1 h1 (i + 2 + j) _ (by omega) hin)
      have hcx := byteAt_bd r (i + 2 + j)
      have hhx : Hid (∀ w1, Calls Tryz.prog 88 #[.int .u8 (byteAt r (i + 2 + j))] w1 fun e w' => e = .returned (.bool (oct (byteAt r (i + 2 + j)))) ∧ w1 = w') := Lib.hid (fun w1 => isOctal_any _ w1)
      generalize byteAt r (i + 2 + j) = dx at *
      cases hdx : oct dx with
      | true =>
        rw [hdx] at hhx
        have HNG := Lib.hid (hNG ⟨hdx, hin⟩)
        clear hNG hNB hdx HB
        go_wp2_with fail
        refine (hokx.out _ HQ.out).mono ?_
        rintro e w1 ⟨rfl, hQ1⟩
        clear HQ; have HQ := Lib.hid hQ1; clear hQ1
        go_wp2_with fail
        refine (hpkx.out _ HQ.out).mono ?_
        rintro e w1 ⟨rfl, hQ1⟩
        clear HQ; have HQ := Lib.hid hQ1; clear hQ1
        go_wp2_with fail
        refine (hhx.out _).mono ?_
        rintro e w2 ⟨rfl, rfl⟩
        go_wp2_with fail
        refine Handed.intro (2 - (j + 1)) (by omega) ?_
        exact HJ2.out _ _ _ ⟨_, j + 1, he', QFrameO.of _ rfl rfl rfl rfl rfl rfl rfl rfl rfl rfl rfl rfl rfl rfl rfl rfl, rfl, by omega, HQ.out, HNG.out, HB2.out⟩
      | false =>
        rw [hdx] at hhx
        have HNB := Lib.hid (hNB (by rw [hdx]; simp))
        clear hNG hNB hdx HB
        cases np with
        | false =>
          obtain rfl := HST.out rfl
          have hR := HNB.out rfl
          clear HNB HST HRUN HB2
          subst hR
          go_wp2_with fail
          refine (hokx.out _ HQ.out).mono ?_
          rintro e w1 ⟨rfl, hQ1⟩
          clear HQ; have HQ := Lib.hid hQ1; clear hQ1
          go_wp2_with fail
          refine (hpkx.out _ HQ.out).mono ?_
          rintro e w1 ⟨rfl, hQ1⟩
          clear HQ; have HQ := Lib.hid hQ1; clear hQ1
          go_wp2_with fail
          refine (hhx.out _).mono ?_
          rintro e w2 ⟨rfl, rfl⟩
          go_wp2_with fail
          obtain ⟨c0, c9, c1⟩ := HQ.out.cur.lex.rd
          go_still_tail 17, (by kernel_rfl)
          clear c0 c9 c1
          change wpList _ _ _ _ _ (w1.drewN 1)
          have HQ2 := Lib.hid (HQ.out.drewN 1)
          clear HQ
          generalize w1.drewN 1 = w2 at *
          obtain ⟨c0, c9, c1⟩ := HQ2.out.cur.lex.rd
          go_wp2_with fail
          refine (panicfAtQ HQ2.out i (i + 2 + j + 1) _ _ _ (by omega) (by omega) (by omega) (by omega)).mono ?_
          rintro e w9 ⟨EB, rfl, hE⟩
          have HE := Lib.hid hE; clear hE
          go_wp2_with fail
          exact ⟨rfl, HPost.out _ _ (QReadN.fault ⟨EB, rfl, HE.out⟩)⟩
        | true =>
          have HBAD : Hid R.bad := Lib.hid (by
            cases he' with
            | false => rw [HNB.out rfl]; trivial
            | true => exact (HB2.out rfl).2)
          clear HNB HST HRUN HB2
          go_wp2_with fail
          refine (hokx.out _ HQ.out).mono ?_
          rintro e w1 ⟨rfl, hQ1⟩
          clear HQ; have HQ := Lib.hid hQ1; clear hQ1
          go_wp2_with fail
          refine (hpkx.out _ HQ.out).mono ?_
          rintro e w1 ⟨rfl, hQ1⟩
          clear HQ; have HQ := Lib.hid hQ1; clear hQ1
          go_wp2_with fail
          refine (hhx.out _).mono ?_
          rintro e w2 ⟨rfl, rfl⟩
          go_wp2_with fail
          refine Handed.intro (2 - (j + 1)) (by omega) ?_
          exact HJ2.out _ _ _ ⟨_, j + 1, true, QFrameO.of _ rfl rfl rfl rfl rfl rfl rfl rfl rfl rfl rfl rfl rfl rfl rfl rfl, rfl, by omega, HQ.out, fun h => absurd h (by decide), fun _ => ⟨by trivial, HBAD.out⟩⟩
    · exfalso
      cases np with
      | false =>
        have hR := hNB (fun h => hin h.1) (HST.out rfl)
        have hg := HGOOD.out rfl
        rw [hR] at hg
        have := hg.2
        omega
      | true =>
        have := HCALM.out rfl
        omega
theorem q_o49 {W w0 wx : World} {lb fb B i : Nat} {s q nm : ByteArray} {x : LexSt} {raw uni np he ident : Bool} {v : Value} {acc : List UInt8} {R : QR} {r : List UInt8} (t : Nat → Value) (hr : s.data.toList.drop x.pos = r) (hq : q.size = 1 ∨ q.size = 3) (hnm : (nm.toList == [105, 100, 101, 110, 116, 105, 102, 105, 101, 114]) = ident) (hi : i < r.length) (hacc : acc.length ≤ 4 * i)
    (hQ : QAt W w0 lb fb s x B v acc wx) (hrun : Link np he (qrun q.data.toList raw uni ident r i acc) R) (hgood : np = false → R.good r.length) (hcalm : np = true → calm r) (hc : q.data.toList.isPrefixOf (r.drop i) = false) (h92 : byteAt r i = 92) (hlt : i + 1 < r.length) (hraw : raw = false) (hd : byteAt r (i + 1) = 49) {Kx : Act → World → Prop} {Post : Ending → World → Prop} (hPost : ∀ e w', QReadN W w0 lb fb s x np R e w' → Post e w') (J : Nat → Act → World → Prop) (K : Act → World → Prop)
    (hJ : ∀ g a w, QInv W w0 lb fb s x B q raw uni nm np ident r R g a w → J g a w) (hK : ∀ a w, Handed J (r.length - i) a w → K a w) :
    Code.wp Tryz.prog qbody (Exit.then K (Exit.inBlock 0 (Exit.then Kx (bodyPost Tryz.prog Tryz.f71 Post)))) (QFrame t lb q raw uni nm np he i v) wx := by
  have hsz := hQ.cur.sz
  have hpos := hQ.cur.pos
  have hrl : r.length = s.size - x.pos := by rw [← hr]; exact hQ.cur.len
  have hPK : Hid (∀ (acc' : List UInt8) (v' : Value) (w1 : World), QAt W w0 lb fb s x B v' acc' w1 → ∀ (k : Nat) (j : Int), j = k → k < r.length → Calls Tryz.prog 65 #[.pointer (some ⟨lb, 0, none⟩), .int .i64 j] w1 fun e w' => e = .returned (.int .u8 (byteAt r k)) ∧ QAt W w0 lb fb s x B v' acc' w') := Lib.hid (fun acc' v' w1 h1 k j hj hk => by have := peekQ h1 k j hj (by rw [hr]; exact hk); rw [hr] at this; exact this)
  have hOK : Hid (∀ (acc' : List UInt8) (v' : Value) (w1 : World), QAt W w0 lb fb s x B v' acc' w1 → ∀ (k : Nat) (j : Int), j = k → k < r.length → Calls Tryz.prog 63 #[.pointer (some ⟨lb, 0, none⟩), .int .i64 j] w1 fun e w' => e = .returned (.bool true) ∧ QAt W w0 lb fb s x B v' acc' w') := Lib.hid (fun acc' v' w1 h1 k j hj hk => by have := peekOkQ h1 k j hj (by omega); rw [hr, show decide (k < r.length) = true from by simpa using hk] at this; exact this)
  have hSL : Hid (∀ (acc' : List UInt8) (v' : Value) (w1 : World), QAt W w0 lb fb s x B v' acc' w1 → ∀ (a b : Nat) (j k : Int), j = a → k = b → a ≤ b → b ≤ 2000000 → a ≤ r.length → Calls Tryz.prog 76 #[.pointer (some ⟨lb, 0, none⟩), .int .i64 j, .int .i64 k] w1 fun e w' => e = .returned (.string ⟨(sub r a b).toArray⟩) ∧ QAt W w0 lb fb s x B v' acc' w') := Lib.hid (fun acc' v' w1 h1 a b j k hj hk hab hb ha => by have := sliceQ h1 a b j k hj hk hab hb (by rw [hr]; exact ha); rw [hr] at this; exact this)
  rw [qrun_in _ _ _ _ _ _ _ hi] at hrun
  subst hraw
  have hst : qstep q.data.toList false uni r i = (match badAt oct r (i + 2) 0 2 with
      | some j => .fault i (i + 2 + j + 1) 1
      | none => .next 3 [UInt8.ofNat (valL 8 (sub r (i + 1) (i + 4)))]) := by
    unfold qstep
    rw [hc, if_neg (by decide), if_pos h92, if_pos hlt, hd]; rfl
  rw [hst] at hrun
  have hsub : ((⟨(sub r i (i + q.size)).toArray⟩ : ByteArray).toList == q.toList) = false := by rw [sub_pre]; exact hc
  have HSL2 : Hid (∀ w1, QAt W w0 lb fb s x B v acc w1 → Calls Tryz.prog 76 #[.pointer (some ⟨lb, 0, none⟩), .int .i64 (i : Int), .int .i64 ((i : Int) + (q.size : Int))] w1 fun e w' => e = .returned (.string ⟨(sub r i (i + q.size)).toArray⟩) ∧ QAt W w0 lb fb s x B v acc w') := Lib.hid (fun w1 h1 => hSL.out acc v w1 h1 i (i + q.size) _ _ rfl (by omega) (by omega) (by omega) (Nat.le_of_lt hi))
  generalize (⟨(sub r i (i + q.size)).toArray⟩ : ByteArray) = S at *
  obtain ⟨i0, hinf, hz0, hz1, hz2⟩ := info_parts info_u8q
  have HOK2 : Hid (∀ w1, QAt W w0 lb fb s x B v acc w1 → Calls Tryz.prog 63 #[.pointer (some ⟨lb, 0, none⟩), .int .i64 (i : Int)] w1 fun e w' => e = .returned (.bool true) ∧ QAt W w0 lb fb s x B v acc w') := Lib.hid (fun w1 h1 => hOK.out acc v w1 h1 i _ rfl hi)
  have hcb := byteAt_bd r i
  have HPK2 : Hid (∀ w1, QAt W w0 lb fb s x B v acc w1 → Calls Tryz.prog 65 #[.pointer (some ⟨lb, 0, none⟩), .int .i64 (i : Int)] w1 fun e w' => e = .returned (.int .u8 (byteAt r i)) ∧ QAt W w0 lb fb s x B v acc w') := Lib.hid (fun w1 h1 => hPK.out acc v w1 h1 i _ rfl hi)
  rw [h92] at HPK2
  have hdb := byteAt_bd r (i + 1)
  have HOK3 : Hid (∀ w1, QAt W w0 lb fb s x B v acc w1 → Calls Tryz.prog 63 #[.pointer (some ⟨lb, 0, none⟩), .int .i64 ((i : Int) + 1)] w1 fun e w' => e = .returned (.bool true) ∧ QAt W w0 lb fb s x B v acc w') := Lib.hid (fun w1 h1 => hOK.out acc v w1 h1 (i + 1) _ (by omega) hlt)
  have HPK3 : Hid (∀ w1, QAt W w0 lb fb s x B v acc w1 → Calls Tryz.prog 65 #[.pointer (some ⟨lb, 0, none⟩), .int .i64 ((i : Int) + 1)] w1 fun e w' => e = .returned (.int .u8 (byteAt r (i + 1))) ∧ QAt W w0 lb fb s x B v acc w') := Lib.hid (fun w1 h1 => hPK.out acc v w1 h1 (i + 1) _ (by omega) hlt)
  have HRUN := Lib.hid hrun; have HQ := Lib.hid hQ; have HPost := Lib.hid hPost; have HJ := Lib.hid hJ; have HNM := Lib.hid hnm; have HRr := Lib.hid hr
  rw [hd] at HPK3
  have HOKJ := hOK; have HPKJ := hPK; have hSLX := hSL; have HGOOD := Lib.hid hgood; have HD0 := Lib.hid hd; have HCALM : Hid (np = true → i + 9 < r.length) := Lib.hid (fun h => calm_in (hcalm h) hi h92)
  clear hrun hQ hPost hgood hcalm hst hJ hr hnm hOK hPK hSL hc h92 hd hdb
  unfold QFrame
  conv => arg 2; whnf
  go_wp2_with fail
  refine (HOK2.out _ HQ.out).mono ?_
  rintro e w1 ⟨rfl, hQ1⟩
  clear HQ; have HQ := Lib.hid hQ1; clear hQ1
  go_wp2_with fail
  refine (HSL2.out _ HQ.out).mono ?_
  rintro e w1 ⟨rfl, hQ1⟩
  clear HQ; have HQ := Lib.hid hQ1; clear hQ1
  go_wp2_with fail
  refine (HPK2.out _ HQ.out).mono ?_
  rintro e w1 ⟨rfl, hQ1⟩
  clear HQ; have HQ := Lib.hid hQ1; clear hQ1
  go_wp2_with fail
  refine (HOK3.out _ HQ.out).mono ?_
  rintro e w1 ⟨rfl, hQ1⟩
  clear HQ; have HQ := Lib.hid hQ1; clear hQ1
  go_wp2_with fail
  refine (HPK3.out _ HQ.out).mono ?_
  rintro e w1 ⟨rfl, hQ1⟩
  clear HQ; have HQ := Lib.hid hQ1; clear hQ1
  go_wp2_with fail
  refine wp_loop_ghost_k (fun g a wx => ∃ (t : Nat → Value) (j : Nat) (he' : Bool), a = QFrameO t lb q false uni nm np he' i v 49 j ∧ g = 2 - j ∧ j ≤ 2 ∧ QAt W w0 lb fb s x B v acc wx ∧ (he' = false → he = false ∧ badAt oct r (i + 2) 0 2 = badAt oct r (i + 2) j (2 - j)) ∧ (he' = true → np = true ∧ R.bad)) 2 ⟨_, 0, he, QFrameO.of _ rfl rfl rfl rfl rfl rfl rfl rfl rfl rfl rfl rfl rfl rfl rfl rfl, rfl, by omega, HQ.out, fun h => ⟨h, rfl⟩, HRUN.out.bad⟩ ?_
  rintro g a wx ⟨t2, j, he', rfl, rfl, hj, hQ, hb, hb2⟩ J2 K2 hJ2 hK2
  clear HQ
  have HQ := Lib.hid hQ; have HB := Lib.hid hb; have HB2 := Lib.hid hb2; have HJ2 := Lib.hid hJ2
  clear hQ hb hb2 hJ2
  unfold QFrameO
  by_cases hj2 : j = 2
  · subst hj2
    rcases hnone : badAt oct r (i + 2) 0 2 with _ | j0
    rotate_left
    · cases he' with
      | false =>
        have h9 := (HB.out rfl).2
        rw [hnone] at h9
        exact absurd h9 (by intro h; cases h)
      | true =>
        obtain ⟨hnp, hbad⟩ := HB2.out rfl
        subst hnp
        have HBAD := Lib.hid hbad
        have h9 := HCALM.out rfl
        obtain ⟨_, hj0, hpre, hno⟩ := badAt_some oct r (i + 2) 2 0 j0 hnone
        have hno' : oct (byteAt r (i + 2 + j0)) = false := by
          cases h : oct (byteAt r (i + 2 + j0)) with
          | false => rfl
          | true => exact absurd ⟨by omega, h⟩ hno
        have hpre3 : ∀ k, k < j0 + 1 → oct (byteAt r (i + 1 + k)) = true := by
          intro k hk
          by_cases h0 : k = 0
          · subst h0; rw [show i + 1 + 0 = i + 1 from rfl, HD0.out]; rfl
          · have := hpre (k - 1) (by omega) (by omega)
            rw [show i + 2 + (k - 1) = i + 1 + k from by omega] at this; exact this
        have hno3 : oct (byteAt r (i + 1 + (j0 + 1))) = false := by rw [show i + 1 + (j0 + 1) = i + 2 + j0 from by omega]; exact hno'
        have hsl := sub_len r (i + 1) 3 (by omega)
        have hsb := sub_byte r (i + 1) 3
        have hva := val_take 8 2 (by decide) (sub r (i + 1) (i + 1 + 3)) (j0 + 1) (by omega) (by omega) (fun k hk => by rw [hsb k (by omega)]; exact digV_oct _ (hpre3 k hk))
        have hpu : ∀ w1, QAt W w0 lb fb s x B v acc w1 → Calls Tryz.prog 86 #[.string ⟨(sub r (i + 1) (i + 1 + 3)).toArray⟩, .int .i64 8, .int .i64 8] w1 fun e w' => (∃ N, e = .returned (.tuple #[.int .u64 0, .iface 174 (.pointer (some ⟨N, 0, none⟩))])) ∧ Below w1.heap.size w1 w' := fun w1 h1 => by
          obtain ⟨ev, he1, he2⟩ := synQ h1
          exact parseBad8_8 ⟨(sub r (i + 1) (i + 1 + 3)).toArray⟩ (j0 + 1) (by show j0 + 1 < (sub r (i + 1) (i + 1 + 3)).toArray.size; rw [List.size_toArray, hsl]; omega) (by show (sub r (i + 1) (i + 1 + 3)).toArray.size ≤ 100; rw [List.size_toArray, hsl]; decide)
            (fun k hk => by show oct (byteAt (sub r (i + 1) (i + 1 + 3)) k) = true; rw [hsb k (by omega)]; exact hpre3 k hk) (by show oct (byteAt (sub r (i + 1) (i + 1 + 3)) (j0 + 1)) = false; rw [hsb (j0 + 1) (by omega)]; exact hno3) (by show valL 8 ((sub r (i + 1) (i + 1 + 3)).take (j0 + 1)) ≤ 255; have : (8 : Nat) ^ 2 = 64 := rfl; omega) w1 he1 he2
        have hsx := fun w1 (h1 : QAt W w0 lb fb s x B v acc w1) => hSLX.out acc v w1 h1 (i + 1) (i + 1 + 3) ((i : Int) + 1) ((i : Int) + 1 + 1 + 2) (by omega) (by omega) (by omega) (by omega) (by omega)
        generalize (⟨(sub r (i + 1) (i + 1 + 3)).toArray⟩ : ByteArray) = T at *
        have HPU := Lib.hid hpu; have HSX := Lib.hid hsx
        clear hpu hsx hva hpre3 hno3 hno' hno hpre hnone hsl hsb HB HB2 HRUN hbad
        go_wp2_with fail
        refine (HSX.out _ HQ.out).mono ?_
        rintro e w1 ⟨rfl, hQ1⟩
        clear HQ; have HQ := Lib.hid hQ1; clear hQ1
        go_wp2_with fail
        refine (HPU.out _ HQ.out).mono ?_
        rintro e w3 ⟨⟨N, rfl⟩, hb3⟩
        have HQ3 := Lib.hid (HQ.out.keep hb3)
        clear HQ hb3
        have HQ := HQ3; clear HQ3
        go_wp2_with fail
        refine Handed.intro (r.length - (i + 1 + 1)) (by omega) ?_
        exact HJ.out _ _ _ (QInv.of acc _ rfl rfl rfl rfl rfl rfl rfl rfl rfl (by show _ = _; rfl) rfl rfl (by omega) (by omega) HQ.out (Link.loose HBAD.out))
    have hall := badAt_none oct r (i + 2) 2 0 hnone
    have hl1 := (hall 1 (by omega) (by omega)).1
    have hrn : Link np he' (qrun q.data.toList false uni ident r (i + 3 + 1) (acc ++ [UInt8.ofNat (valL 8 (sub r (i + 1) (i + 1 + 3)))])) R := ⟨fun h => by have h9 := HRUN.out.eq (HB.out h).1; rw [hnone] at h9; exact h9, HB2.out⟩
    have hsl := sub_len r (i + 1) 3 (by omega)
    have hsb := sub_byte r (i + 1) 3
    have hall3 : ∀ k, k < 3 → oct (byteAt r (i + 1 + k)) = true := by
      intro k hk
      by_cases h0 : k = 0
      · subst h0; rw [show i + 1 + 0 = i + 1 from rfl, HD0.out]; rfl
      · have := (hall (k - 1) (by omega) (by omega)).2
        rw [show i + 2 + (k - 1) = i + 1 + k from by omega] at this; exact this
    have hv : valL 8 (sub r (i + 1) (i + 1 + 3)) < 256 := by
      have h2 := sub_len r (i + 2) 2 (by omega)
      have h3 := sub_byte r (i + 2) 2
      have h1 := valF_lt 8 (sub r (i + 2) (i + 2 + 2)) (digV 49) (fun k hk => by rw [h2] at hk; rw [h3 k hk]; exact digV_oct _ (hall k (by omega) (by omega)).2)
      rw [h2] at h1
      have hd0 : ((r.getD (i + 1) 0).toNat : Int) = 49 := HD0.out
      rw [sub_cons r (i + 1) (i + 1 + 3) (by omega) (by omega)]
      show valF 8 (0 * 8 + digV ((r.getD (i + 1) 0).toNat : Int)) (sub r (i + 2) (i + 2 + 2)) < 256
      rw [hd0]
      have e : digV 49 = 1 := by decide
      rw [e] at h1 ⊢
      exact Nat.lt_of_lt_of_le h1 (by decide)
    have hpu := fun w => parse8_8 ⟨(sub r (i + 1) (i + 1 + 3)).toArray⟩ (by show (sub r (i + 1) (i + 1 + 3)).toArray.size ≠ 0; rw [List.size_toArray, hsl]; decide) (by show (sub r (i + 1) (i + 1 + 3)).toArray.size ≤ 100; rw [List.size_toArray, hsl]; decide)
      (by intro k hk; have hk : k < 3 := by (have : k < (sub r (i + 1) (i + 1 + 3)).toArray.size := hk); rw [List.size_toArray, hsl] at this; exact this
          show isDig 8 (byteAt (sub r (i + 1) (i + 1 + 3)) k) = true
          rw [hsb k hk]; exact hall3 k hk) (by show valL 8 (sub r (i + 1) (i + 1 + 3)) ≤ 255; omega) w
    have hpu : ∀ w, Calls Tryz.prog 86 #[.string ⟨(sub r (i + 1) (i + 1 + 3)).toArray⟩, .int .i64 8, .int .i64 8] w fun e w' => e = .returned (.tuple #[.int .u64 ((valL 8 (sub r (i + 1) (i + 1 + 3)) : Nat) : Int), .nilIface]) ∧ Below w.heap.size w w' := hpu
    have hsx := fun w1 (h1 : QAt W w0 lb fb s x B v acc w1) => hSLX.out acc v w1 h1 (i + 1) (i + 1 + 3) ((i : Int) + 1) ((i : Int) + 1 + 1 + 2) (by omega) (by omega) (by omega) (by omega) (by omega)
    have hun : ((UInt8.ofNat (valL 8 (sub r (i + 1) (i + 1 + 3)))).toNat : Int) = ((valL 8 (sub r (i + 1) (i + 1 + 3)) : Nat) : Int) := by
      rw [UInt8.toNat_ofNat_of_lt' (by simpa using hv)]
    generalize (⟨(sub r (i + 1) (i + 1 + 3)).toArray⟩ : ByteArray) = T at *
    generalize valL 8 (sub r (i + 1) (i + 1 + 3)) = n at *
    have hnI : ((n : Nat) : Int) < 256 := by omega
    have HPU := Lib.hid hpu; have HSX := Lib.hid hsx; have HRN := Lib.hid hrn; have HUN := Lib.hid hun
    clear hpu hsx hrn hun hall hall3 hnone hsl hsb HB HB2 HRUN hv
    have hn0 : (0 : Int) ≤ (n : Int) := by omega
    generalize (n : Int) = z at *
    go_wp2_with fail
    refine (HSX.out _ HQ.out).mono ?_
    rintro e w1 ⟨rfl, hQ1⟩
    clear HQ; have HQ := Lib.hid hQ1; clear hQ1
    go_wp2_with fail
    refine (HPU.out _).mono ?_
    rintro e w3 ⟨rfl, hb3⟩
    have HQ3 := Lib.hid (HQ.out.keep hb3)
    clear HQ hb3
    have hown := HQ3.out.own
    have hB := HQ3.out.hB
    go_wp2_with (at_builtin; go_loud (refine wpList_append_Own _ rfl (.tmp 460) (.tmp 463) 33 rfl B 5 i0 (.int .u8 0) 1 1 Tryz.underlying33 hinf hz0 hz1 hz2 rfl (by decide) _ _ _ rfl (hown.alloc _) ⟨w3.heap.size, 0, none⟩ 1 1 [.int .u8 z] rfl rfl (cell_one_new _ _ _) (by simp [Value.oneCell']) (by unfold maxLen; omega) (by omega) (by simp; omega) ?_))
    intro v' w2 hown1 hg1 hbk hne
    go_wp2_with fail
    refine Handed.intro (r.length - (i + 3 + 1)) ?_ ?_
    · omega
    · refine HJ.out _ _ _ (QInv.of (acc ++ [UInt8.ofNat n]) _ rfl rfl rfl rfl rfl rfl rfl rfl rfl (by show _ = _; rfl) rfl rfl (by omega) (by simp; omega) ?_ HRN.out)
      refine (HQ3.out.alloc _).app hg1 ?_
      rw [← HUN.out] at hown1
      simpa [bv_append, bv] using hown1
  · have hjl : j < 2 := by omega
    have hNG : oct (byteAt r (i + 2 + j)) = true ∧ i + 2 + j < r.length → (he' = false → he = false ∧ badAt oct r (i + 2) 0 2 = badAt oct r (i + 2) (j + 1) (2 - (j + 1))) := by
      intro h h'
      refine ⟨(HB.out h').1, ?_⟩
      rw [(HB.out h').2, show 2 - j = (2 - (j + 1)) + 1 from by omega]
      exact badAt_go oct r (i + 2) j _ h.2 h.1
    have hNB : ¬ (i + 2 + j < r.length ∧ oct (byteAt r (i + 2 + j)) = true) → he' = false → R = .err i (i + 2 + j + 1) := by
      intro h h'
      have h2 := (HB.out h').2
      rw [show 2 - j = (2 - (j + 1)) + 1 from by omega, badAt_stop oct r (i + 2) j _ h] at h2
      have h3 := HRUN.out.eq (HB.out h').1
      rw [h2] at h3
      exact h3.symm
    have HST : Hid (np = false → he' = false) := Lib.hid (fun h => by
      cases he' with
      | false => rfl
      | true => have := (HB2.out rfl).1; rw [h] at this; exact absurd this (by decide))
    by_cases hin : i + 2 + j < r.length
    · have hokx : Hid (∀ w1, QAt W w0 lb fb s x B v acc w1 → Calls Tryz.prog 63 #[.pointer (some ⟨lb, 0, none⟩), .int .i64 ((i : Int) + 1 + 1 + (j : Int))] w1 fun e w' => e = .returned (.bool true) ∧ QAt W w0 lb fb s x B v acc w') := Lib.hid (fun w1 h1 => HOKJ.out acc v w1 h1 (i + 2 + j) _ (by omega) hin)
      have hpkx : Hid (∀ w1, QAt W w0 lb fb s x B v acc w1 → Calls Tryz.prog 65 #[.pointer (some ⟨lb, 0, none⟩), .int .i64 ((i : Int) + 1 + 1 + (j : Int))] w1 fun e w' => e = .returned (.int .u8 (byteAt r (i + 2 + j))) ∧ QAt W w0 lb fb s x B v acc w') := Lib.hid (fun w1 h1 => HPKJ.out acc v w1 h1 (i + 2 + j) _ (by omega) hin)
      have hcx := byteAt_bd r (i + 2 + j)
      have hhx : Hid (∀ w1, Calls Tryz.prog 88 #[.int .u8 (byteAt r (i + 2 + j))] w1 fun e w' => e = .returned (.bool (oct (byteAt r (i + 2 + j)))) ∧ w1 = w') := Lib.hid (fun w1 => isOctal_any _ w1)
      generalize byteAt r (i + 2 + j) = dx at *
      cases hdx : oct dx with
      | true =>
        rw [hdx] at hhx
        have HNG := Lib.hid (hNG ⟨hdx, hin⟩)
        clear hNG hNB hdx HB
        go_wp2_with fail
        refine (hokx.out _ HQ.out).mono ?_
        rintro e w1 ⟨rfl, hQ1⟩
        clear HQ; have HQ := Lib.hid hQ1; clear hQ1
        go_wp2_with fail
        refine (hpkx.out _ HQ.out).mono ?_
        rintro e w1 ⟨rfl, hQ1⟩
        clear HQ; have HQ := Lib.hid hQ1; clear hQ1
        go_wp2_with fail
        refine (hhx.out _).mono ?_
        rintro e w2 ⟨rfl, rfl⟩
        go_wp2_with fail
        refine Handed.intro (2 - (j + 1)) (by omega) ?_
        exact HJ2.out _ _ _ ⟨_, j + 1, he', QFrameO.of _ rfl rfl rfl rfl rfl rfl rfl rfl rfl rfl rfl rfl rfl rfl rfl rfl, rfl, by omega, HQ.out, HNG.out, HB2.out⟩
      | false =>
        rw [hdx] at hhx
        have HNB := Lib.hid (hNB (by rw [hdx]; simp))
        clear hNG hNB hdx HB
        cases np with
        | false =>
          obtain rfl := HST.out rfl
          have hR := HNB.out rfl
          clear HNB HST HRUN HB2
          subst hR
          go_wp2_with fail
          refine (hokx.out _ HQ.out).mono ?_
          rintro e w1 ⟨rfl, hQ1⟩
          clear HQ; have HQ := Lib.hid hQ1; clear hQ1
          go_wp2_with fail
          refine (hpkx.out _ HQ.out).mono ?_
          rintro e w1 ⟨rfl, hQ1⟩
          clear HQ; have HQ := Lib.hid hQ1; clear hQ1
          go_wp2_with fail
          refine (hhx.out _).mono ?_
          rintro e w2 ⟨rfl, rfl⟩
          go_wp2_with fail
          obtain ⟨c0, c9, c1⟩ := HQ.out.cur.lex.rd
          go_still_tail 17, (by kernel_rfl)
          clear c0 c9 c1
          change wpList _ _ _ _ _ (w1.drewN 1)
          have HQ2 := Lib.hid (HQ.out.drewN 1)
          clear HQ
          generalize w1.drewN 1 = w2 at *
          obtain ⟨c0, c9, c1⟩ := HQ2.out.cur.lex.rd
          go_wp2_with fail
          refine (panicfAtQ HQ2.out i (i + 2 + j + 1) _ _ _ (by omega) (by omega) (by omega) (by omega)).mono ?_
          rintro e w9 ⟨EB, rfl, hE⟩
          have HE := Lib.hid hE; clear hE
          go_wp2_with fail
          exact ⟨rfl, HPost.out _ _ (QReadN.fault ⟨EB, rfl, HE.out⟩)⟩
        | true =>
          have HBAD : Hid R.bad := Lib.hid (by
            cases he' with
            | false => rw [HNB.out rfl]; trivial
            | true => exact (HB2.out rfl).2)
          clear HNB HST HRUN HB2
          go_wp2_with fail
          refine (hokx.out _ HQ.out).mono ?_
          rintro e w1 ⟨rfl, hQ1⟩
          clear HQ; have HQ := Lib.hid hQ1; clear hQ1
          go_wp2_with fail
          refine (hpkx.out _ HQ.out).mono ?_
          rintro e w1 ⟨rfl, hQ1⟩
          clear HQ; have HQ := Lib.hid hQ1; clear hQ1
          go_wp2_with fail
          refine (hhx.out _).mono ?_
          rintro e w2 ⟨rfl, rfl⟩
          go_wp2_with fail
          refine Handed.intro (2 - (j + 1)) (by omega) ?_
          exact HJ2.out _ _ _ ⟨_, j + 1, true, QFrameO.of _ rfl rfl rfl rfl rfl rfl rfl rfl rfl rfl rfl rfl rfl rfl rfl rfl, rfl, by omega, HQ.out, fun h => absurd h (by decide), fun _ => ⟨by trivial, HBAD.out⟩⟩
    · exfalso
      cases np with
      | false =>
        have hR := hNB (fun h => hin h.1) (HST.out rfl)
        have hg := HGOOD.out rfl
        rw [hR] at hg
        have := hg.2
        omega
      | true =>
        have := HCALM.out rfl
        omega
theorem q_o50 {W w0 wx : World} {lb fb B i : Nat} {s q nm : ByteArray} {x : LexSt} {raw uni np he ident : Bool} {v : Value} {acc : List UInt8} {R : QR} {r : List UInt8} (t : Nat → Value) (hr : s.data.toList.drop x.pos = r) (hq : q.size = 1 ∨ q.size = 3) (hnm : (nm.toList == [105, 100, 101, 110, 116, 105, 102, 105, 101, 114]) = ident) (hi : i < r.length) (hacc : acc.length ≤ 4 * i)
    (hQ : QAt W w0 lb fb s x B v acc wx) (hrun : Link np he (qrun q.data.toList raw uni ident r i acc) R) (hgood : np = false → R.good r.length) (hcalm : np = true → calm r) (hc : q.data.toList.isPrefixOf (r.drop i) = false) (h92 : byteAt r i = 92) (hlt : i + 1 < r.length) (hraw : raw = false) (hd : byteAt r (i + 1) = 50) {Kx : Act → World → Prop} {Post : Ending → World → Prop} (hPost : ∀ e w', QReadN W w0 lb fb s x np R e w' → Post e w') (J : Nat → Act → World → Prop) (K : Act → World → Prop)
    (hJ : ∀ g a w, QInv W w0 lb fb s x B q raw uni nm np ident r R g a w → J g a w) (hK : ∀ a w, Handed J (r.length - i) a w → K a w) :
    Code.wp Tryz.prog qbody (Exit.then K (Exit.inBlock 0 (Exit.then Kx (bodyPost Tryz.prog Tryz.f71 Post)))) (QFrame t lb q raw uni nm np he i v) wx := by
  have hsz := hQ.cur.sz
  have hpos := hQ.cur.pos
  have hrl : r.length = s.size - x.pos := by rw [← hr]; exact hQ.cur.len
  have hPK : Hid (∀ (acc' : List UInt8) (v' : Value) (w1 : World), QAt W w0 lb fb s x B v' acc' w1 → ∀ (k : Nat) (j : Int), j = k → k < r.length → Calls Tryz.prog 65 #[.pointer (some ⟨lb, 0, none⟩), .int .i64 j] w1 fun e w' => e = .returned (.int .u8 (byteAt r k)) ∧ QAt W w0 lb fb s x B v' acc' w') := Lib.hid (fun acc' v' w1 h1 k j hj hk => by have := peekQ h1 k j hj (by rw [hr]; exact hk); rw [hr] at this; exact this)
  have hOK : Hid (∀ (acc' : List UInt8) (v' : Value) (w1 : World), QAt W w0 lb fb s x B v' acc' w1 → ∀ (k : Nat) (j : Int), j = k → k < r.length → Calls Tryz.prog 63 #[.pointer (some ⟨lb, 0, none⟩), .int .i64 j] w1 fun e w' => e = .returned (.bool true) ∧ QAt W w0 lb fb s x B v' acc' w') := Lib.hid (fun acc' v' w1 h1 k j hj hk => by have := peekOkQ h1 k j hj (by omega); rw [hr, show decide (k < r.length) = true from by simpa using hk] at this; exact this)
  have hSL : Hid (∀ (acc' : List UInt8) (v' : Value) (w1 : World), QAt W w0 lb fb s x B v' acc' w1 → ∀ (a b : Nat) (j k : Int), j = a → k = b → a ≤ b → b ≤ 2000000 → a ≤ r.length → Calls Tryz.prog 76 #[.pointer (some ⟨lb, 0, none⟩), .int .i64 j, .int .i64 k] w1 fun e w' => e = .returned (.string ⟨(sub r a b).toArray⟩) ∧ QAt W w0 lb fb s x B v' acc' w') := Lib.hid (fun acc' v' w1 h1 a b j k hj hk hab hb ha => by have := sliceQ h1 a b j k hj hk hab hb (by rw [hr]; exact ha); rw [hr] at this; exact this)
  rw [qrun_in _ _ _ _ _ _ _ hi] at hrun
  subst hraw
  have hst : qstep q.data.toList false uni r i = (match badAt oct r (i + 2) 0 2 with
      | some j => .fault i (i + 2 + j + 1) 1
      | none => .next 3 [UInt8.ofNat (valL 8 (sub r (i + 1) (i + 4)))]) := by
    unfold qstep
    rw [hc, if_neg (by decide), if_pos h92, if_pos hlt, hd]; rfl
  rw [hst] at hrun
  have hsub : ((⟨(sub r i (i + q.size)).toArray⟩ : ByteArray).toList == q.toList) = false := by rw [sub_pre]; exact hc
  have HSL2 : Hid (∀ w1, QAt W w0 lb fb s x B v acc w1 → Calls Tryz.prog 76 #[.pointer (some ⟨lb, 0, none⟩), .int .i64 (i : Int), .int .i64 ((i : Int) + (q.size : Int))] w1 fun e w' => e = .returned (.string ⟨(sub r i (i + q.size)).toArray⟩) ∧ QAt W w0 lb fb s x B v acc w') := Lib.hid (fun w1 h1 => hSL.out acc v w1 h1 i (i + q.size) _ _ rfl (by omega) (by omega) (by omega) (Nat.le_of_lt hi))
  generalize (⟨(sub r i (i + q.size)).toArray⟩ : ByteArray) = S at *
  obtain ⟨i0, hinf, hz0, hz1, hz2⟩ := info_parts info_u8q
  have HOK2 : Hid (∀ w1, QAt W w0 lb fb s x B v acc w1 → Calls Tryz.prog 63 #[.pointer (some ⟨lb, 0, none⟩), .int .i64 (i : Int)] w1 fun e w' => e = .returned (.bool true) ∧ QAt W w0 lb fb s x B v acc w') := Lib.hid (fun w1 h1 => hOK.out acc v w1 h1 i _ rfl hi)
  have hcb := byteAt_bd r i
  have HPK2 : Hid (∀ w1, QAt W w0 lb fb s x B v acc w1 → Calls Tryz.prog 65 #[.pointer (some ⟨lb, 0, none⟩), .int .i64 (i : Int)] w1 fun e w' => e = .returned (.int .u8 (byteAt r i)) ∧ QAt W w0 lb fb s x B v acc w') := Lib.hid (fun w1 h1 => hPK.out acc v w1 h1 i _ rfl hi)
  rw [h92] at HPK2
  have hdb := byteAt_bd r (i + 1)
  have HOK3 : Hid (∀ w1, QAt W w0 lb fb s x B v acc w1 → Calls Tryz.prog 63 #[.pointer (some ⟨lb, 0, none⟩), .int .i64 ((i : Int) + 1)] w1 fun e w' => e = .returned (.bool true) ∧ QAt W w0 lb fb s x B v acc w') := Lib.hid (fun w1 h1 => hOK.out acc v w1 h1 (i + 1) _ (by omega) hlt)
  have HPK3 : Hid (∀ w1, QAt W w0 lb fb s x B v acc w1 → Calls Tryz.prog 65 #[.pointer (some ⟨lb, 0, none⟩), .int .i64 ((i : Int) + 1)] w1 fun e w' => e = .returned (.int .u8 (byteAt r (i + 1))) ∧ QAt W w0 lb fb s x B v acc w') := Lib.hid (fun w1 h1 => hPK.out acc v w1 h1 (i + 1) _ (by omega) hlt)
  have HRUN := Lib.hid hrun; have HQ := Lib.hid hQ; have HPost := Lib.hid hPost; have HJ := Lib.hid hJ; have HNM := Lib.hid hnm; have HRr := Lib.hid hr
  rw [hd] at HPK3
  have HOKJ := hOK; have HPKJ := hPK; have hSLX := hSL; have HGOOD := Lib.hid hgood; have HD0 := Lib.hid hd; have HCALM : Hid (np = true → i + 9 < r.length) := Lib.hid (fun h => calm_in (hcalm h) hi h92)
  clear hrun hQ hPost hgood hcalm hst hJ hr hnm hOK hPK hSL hc h92 hd hdb
  unfold QFrame
  conv => arg 2; whnf
  go_wp2_with fail
  refine (HOK2.out _ HQ.out).mono ?_
  rintro e w1 ⟨rfl, hQ1⟩
  clear HQ; have HQ := Lib.hid hQ1; clear hQ1
  go_wp2_with fail
  refine (HSL2.out _ HQ.out).mono ?_
  rintro e w1 ⟨rfl, hQ1⟩
  clear HQ; have HQ := Lib.hid hQ1; clear hQ1
  go_wp2_with fail
  refine (HPK2.out _ HQ.out).mono ?_
  rintro e w1 ⟨rfl, hQ1⟩
  clear HQ; have HQ := Lib.hid hQ1; clear hQ1
  go_wp2_with fail
  refine (HOK3.out _ HQ.out).mono ?_
  rintro e w1 ⟨rfl, hQ1⟩
  clear HQ; have HQ := Lib.hid hQ1; clear hQ1
  go_wp2_with fail
  refine (HPK3.out _ HQ.out).mono ?_
  rintro e w1 ⟨rfl, hQ1⟩
  clear HQ; have HQ := Lib.hid hQ1; clear hQ1
  go_wp2_with fail
  refine wp_loop_ghost_k (fun g a wx => ∃ (t : Nat → Value) (j : Nat) (he' : Bool), a = QFrameO t lb q false uni nm np he' i v 50 j ∧ g = 2 - j ∧ j ≤ 2 ∧ QAt W w0 lb fb s x B v acc wx ∧ (he' = false → he = false ∧ badAt oct r (i + 2) 0 2 = badAt oct r (i + 2) j (2 - j)) ∧ (he' = true → np = true ∧ R.bad)) 2 ⟨_, 0, he, QFrameO.of _ rfl rfl rfl rfl rfl rfl rfl rfl rfl rfl rfl rfl rfl rfl rfl rfl, rfl, by omega, HQ.out, fun h => ⟨h, rfl⟩, HRUN.out.bad⟩ ?_
  rintro g a wx ⟨t2, j, he', rfl, rfl, hj, hQ, hb, hb2⟩ J2 K2 hJ2 hK2
  clear HQ
  have HQ := Lib.hid hQ; have HB := Lib.hid hb; have HB2 := Lib.hid hb2; have HJ2 := Lib.hid hJ2
  clear hQ hb hb2 hJ2
  unfold QFrameO
  by_cases hj2 : j = 2
  · subst hj2
    rcases hnone : badAt oct r (i + 2) 0 2 with _ | j0
    rotate_left
    · cases he' with
      | false =>
        have h9 := (HB.out rfl).2
        rw [hnone] at h9
        exact absurd h9 (by intro h; cases h)
      | true =>
        obtain ⟨hnp, hbad⟩ := HB2.out rfl
        subst hnp
        have HBAD := Lib.hid hbad
        have h9 := HCALM.out rfl
        obtain ⟨_, hj0, hpre, hno⟩ := badAt_some oct r (i + 2) 2 0 j0 hnone
        have hno' : oct (byteAt r (i + 2 + j0)) = false := by
          cases h : oct (byteAt r (i + 2 + j0)) with
          | false => rfl
          | true => exact absurd ⟨by omega, h⟩ hno
        have hpre3 : ∀ k, k < j0 + 1 → oct (byteAt r (i + 1 + k)) = true := by
          intro k hk
          by_cases h0 : k = 0
          · subst h0; rw [show i + 1 + 0 = i + 1 from rfl, HD0.out]; rfl
          · have := hpre (k - 1) (by omega) (by omega)
            rw [show i + 2 + (k - 1) = i + 1 + k from by omega] at this; exact this
        have hno3 : oct (byteAt r (i + 1 + (j0 + 1))) = false := by rw [show i + 1 + (j0 + 1) = i + 2 + j0 from by omega]; exact hno'
        have hsl := sub_len r (i + 1) 3 (by omega)
        have hsb := sub_byte r (i + 1) 3
        have hva := val_take 8 2 (by decide) (sub r (i + 1) (i + 1 + 3)) (j0 + 1) (by omega) (by omega) (fun k hk => by rw [hsb k (by omega)]; exact digV_oct _ (hpre3 k hk))
        have hpu : ∀ w1, QAt W w0 lb fb s x B v acc w1 → Calls Tryz.prog 86 #[.string ⟨(sub r (i + 1) (i + 1 + 3)).toArray⟩, .int .i64 8, .int .i64 8] w1 fun e w' => (∃ N, e = .returned (.tuple #[.int .u64 0, .iface 174 (.pointer (some ⟨N, 0, none⟩))])) ∧ Below w1.heap.size w1 w' := fun w1 h1 => by
          obtain ⟨ev, he1, he2⟩ := synQ h1
          exact parseBad8_8 ⟨(sub r (i + 1) (i + 1 + 3)).toArray⟩ (j0 + 1) (by show j0 + 1 < (sub r (i + 1) (i + 1 + 3)).toArray.size; rw [List.size_toArray, hsl]; omega) (by show (sub r (i + 1) (i + 1 + 3)).toArray.size ≤ 100; rw [List.size_toArray, hsl]; decide)
            (fun k hk => by show oct (byteAt (sub r (i + 1) (i + 1 + 3)) k) = true; rw [hsb k (by omega)]; exact hpre3 k hk) (by show oct (byteAt (sub r (i + 1) (i + 1 + 3)) (j0 + 1)) = false; rw [hsb (j0 + 1) (by omega)]; exact hno3) (by show valL 8 ((sub r (i + 1) (i + 1 + 3)).take (j0 + 1)) ≤ 255; have : (8 : Nat) ^ 2 = 64 := rfl; omega) w1 he1 he2
        have hsx := fun w1 (h1 : QAt W w0 lb fb s x B v acc w1) => hSLX.out acc v w1 h1 (i + 1) (i + 1 + 3) ((i : Int) + 1) ((i : Int) + 1 + 1 + 2) (by omega) (by omega) (by omega) (by omega) (by omega)
        generalize (⟨(sub r (i + 1) (i + 1 + 3)).toArray⟩ : ByteArray) = T at *
        have HPU := Lib.hid hpu; have HSX := Lib.hid hsx
        clear hpu hsx hva hpre3 hno3 hno' hno hpre hnone hsl hsb HB HB2 HRUN hbad
        go_wp2_with fail
        refine (HSX.out _ HQ.out).mono ?_
        rintro e w1 ⟨rfl, hQ1⟩
        clear HQ; have HQ := Lib.hid hQ1; clear hQ1
        go_wp2_with fail
        refine (HPU.out _ HQ.out).mono ?_
        rintro e w3 ⟨⟨N, rfl⟩, hb3⟩
        have HQ3 := Lib.hid (HQ.out.keep hb3)
        clear HQ hb3
        have HQ := HQ3; clear HQ3
        go_wp2_with fail
        refine Handed.intro (r.length - (i + 1 + 1)) (by omega) ?_
        exact HJ.out _ _ _ (QInv.of acc _ rfl rfl rfl rfl rfl rfl rfl rfl rfl (by show _ = _; rfl) rfl rfl (by omega) (by omega) HQ.out (Link.loose HBAD.out))
    have hall := badAt_none oct r (i + 2) 2 0 hnone
    have hl1 := (hall 1 (by omega) (by omega)).1
    have hrn : Link np he' (qrun q.data.toList false uni ident r (i + 3 + 1) (acc ++ [UInt8.ofNat (valL 8 (sub r (i + 1) (i + 1 + 3)))])) R := ⟨fun h => by have h9 := HRUN.out.eq (HB.out h).1; rw [hnone] at h9; exact h9, HB2.out⟩
    have hsl := sub_len r (i + 1) 3 (by omega)
    have hsb := sub_byte r (i + 1) 3
    have hall3 : ∀ k, k < 3 → oct (byteAt r (i + 1 + k)) = true := by
      intro k hk
      by_cases h0 : k = 0
      · subst h0; rw [show i + 1 + 0 = i + 1 from rfl, HD0.out]; rfl
      · have := (hall (k - 1) (by omega) (by omega)).2
        rw [show i + 2 + (k - 1) = i + 1 + k from by omega] at this; exact this
    have hv : valL 8 (sub r (i + 1) (i + 1 + 3)) < 256 := by
      have h2 := sub_len r (i + 2) 2 (by omega)
      have h3 := sub_byte r (i + 2) 2
      have h1 := valF_lt 8 (sub r (i + 2) (i + 2 + 2)) (digV 50) (fun k hk => by rw [h2] at hk; rw [h3 k hk]; exact digV_oct _ (hall k (by omega) (by omega)).2)
      rw [h2] at h1
      have hd0 : ((r.getD (i + 1) 0).toNat : Int) = 50 := HD0.out
      rw [sub_cons r (i + 1) (i + 1 + 3) (by omega) (by omega)]
      show valF 8 (0 * 8 + digV ((r.getD (i + 1) 0).toNat : Int)) (sub r (i + 2) (i + 2 + 2)) < 256
      rw [hd0]
      have e : digV 50 = 2 := by decide
      rw [e] at h1 ⊢
      exact Nat.lt_of_lt_of_le h1 (by decide)
    have hpu := fun w => parse8_8 ⟨(sub r (i + 1) (i + 1 + 3)).toArray⟩ (by show (sub r (i + 1) (i + 1 + 3)).toArray.size ≠ 0; rw [List.size_toArray, hsl]; decide) (by show (sub r (i + 1) (i + 1 + 3)).toArray.size ≤ 100; rw [List.size_toArray, hsl]; decide)
      (by intro k hk; have hk : k < 3 := by (have : k < (sub r (i + 1) (i + 1 + 3)).toArray.size := hk); rw [List.size_toArray, hsl] at this; exact this
          show isDig 8 (byteAt (sub r (i + 1) (i + 1 + 3)) k) = true
          rw [hsb k hk]; exact hall3 k hk) (by show valL 8 (sub r (i + 1) (i + 1 + 3)) ≤ 255; omega) w
    have hpu : ∀ w, Calls Tryz.prog 86 #[.string ⟨(sub r (i + 1) (i + 1 + 3)).toArray⟩, .int .i64 8, .int .i64 8] w fun e w' => e = .returned (.tuple #[.int .u64 ((valL 8 (sub r (i + 1) (i + 1 + 3)) : Nat) : Int), .nilIface]) ∧ Below w.heap.size w w' := hpu
    have hsx := fun w1 (h1 : QAt W w0 lb fb s x B v acc w1) => hSLX.out acc v w1 h1 (i + 1) (i + 1 + 3) ((i : Int) + 1) ((i : Int) + 1 + 1 + 2) (by omega) (by omega) (by omega) (by omega) (by omega)
    have hun : ((UInt8.ofNat (valL 8 (sub r (i + 1) (i + 1 + 3)))).toNat : Int) = ((valL 8 (sub r (i + 1) (i + 1 + 3)) : Nat) : Int) := by
      rw [UInt8.toNat_ofNat_of_lt' (by simpa using hv)]
    generalize (⟨(sub r (i + 1) (i + 1 + 3)).toArray⟩ : ByteArray) = T at *
    generalize valL 8 (sub r (i + 1) (i + 1 + 3)) = n at *
    have hnI : ((n : Nat) : Int) < 256 := by omega
    have HPU := Lib.hid hpu; have HSX := Lib.hid hsx; have HRN := Lib.hid hrn; have HUN := Lib.hid hun
    clear hpu hsx hrn hun hall hall3 hnone hsl hsb HB HB2 HRUN hv
    have hn0 : (0 : Int) ≤ (n : Int) := by omega
    generalize (n : Int) = z at *
    go_wp2_with fail
    refine (HSX.out _ HQ.out).mono ?_
    rintro e w1 ⟨rfl, hQ1⟩
    clear HQ; have HQ := Lib.hid hQ1; clear hQ1
    go_wp2_with fail
    refine (HPU.out _).mono ?_
    rintro e w3 ⟨rfl, hb3⟩
    have HQ3 := Lib.hid (HQ.out.keep hb3)
    clear HQ hb3
    have hown := HQ3.out.own
    have hB := HQ3.out.hB
    go_wp2_with (at_builtin; go_loud (refine wpList_append_Own _ rfl (.tmp 460) (.tmp 463) 33 rfl B 5 i0 (.int .u8 0) 1 1 Tryz.underlying33 hinf hz0 hz1 hz2 rfl (by decide) _ _ _ rfl (hown.alloc _) ⟨w3.heap.size, 0, none⟩ 1 1 [.int .u8 z] rfl rfl (cell_one_new _ _ _) (by simp [Value.oneCell']) (by unfold maxLen; omega) (by omega) (by simp; omega) ?_))
    intro v' w2 hown1 hg1 hbk hne
    go_wp2_with fail
    refine Handed.intro (r.length - (i + 3 + 1)) ?_ ?_
    · omega
    · refine HJ.out _ _ _ (QInv.of (acc ++ [UInt8.ofNat n]) _ rfl rfl rfl rfl rfl rfl rfl rfl rfl (by show _ = _; rfl) rfl rfl (by omega) (by simp; omega) ?_ HRN.out)
      refine (HQ3.out.alloc _).app hg1 ?_
      rw [← HUN.out] at hown1
      simpa [bv_append, bv] using hown1
  · have hjl : j < 2 := by omega
    have hNG : oct (byteAt r (i + 2 + j)) = true ∧ i + 2 + j < r.length → (he' = false → he = false ∧ badAt oct r (i + 2) 0 2 = badAt oct r (i + 2) (j + 1) (2 - (j + 1))) := by
      intro h h'
      refine ⟨(HB.out h').1, ?_⟩
      rw [(HB.out h').2, show 2 - j = (2 - (j + 1)) + 1 from by omega]
      exact badAt_go oct r (i + 2) j _ h.2 h.1
    have hNB : ¬ (i + 2 + j < r.length ∧ oct (byteAt r (i + 2 + j)) = true) → he' = false → R = .err i (i + 2 + j + 1) := by
      intro h h'
      have h2 := (HB.out h').2
      rw [show 2 - j = (2 - (j + 1)) + 1 from by omega, badAt_stop oct r (i + 2) j _ h] at h2
      have h3 := HRUN.out.eq (HB.out h').1
      rw [h2] at h3
      exact h3.symm
    have HST : Hid (np = false → he' = false) := Lib.hid (fun h => by
      cases he' with
      | false => rfl
      | true => have := (HB2.out rfl).1; rw [h] at this; exact absurd this (by decide))
    by_cases hin : i + 2 + j < r.length
    · have hokx : Hid (∀ w1, QAt W w0 lb fb s x B v acc w1 → Calls Tryz.prog 63 #[.pointer (some ⟨lb, 0, none⟩), .int .i64 ((i : Int) + 1 + 1 + (j : Int))] w1 fun e w' => e = .returned (.bool true) ∧ QAt W w0 lb fb s x B v acc w') := Lib.hid (fun w1 h1 => HOKJ.out acc v w1 h1 (i + 2 + j) _ (by omega) hin)
      have hpkx : Hid (∀ w1, QAt W w0 lb fb s x B v acc w1 → Calls Tryz.prog 65 #[.pointer (some ⟨lb, 0, none⟩), .int .i64 ((i : Int) + 1 + 1 + (j : Int))] w1 fun e w' => e = .returned (.int .u8 (byteAt r (i + 2 + j))) ∧ QAt W w0 lb fb s x B v acc w') := Lib.hid (fun w1 h1 => HPKJ.out acc v w1 h1 (i + 2 + j) _ (by omega) hin)
      have hcx := byteAt_bd r (i + 2 + j)
      have hhx : Hid (∀ w1, Calls Tryz.prog 88 #[.int .u8 (byteAt r (i + 2 + j))] w1 fun e w' => e = .returned (.bool (oct (byteAt r (i + 2 + j)))) ∧ w1 = w') := Lib.hid (fun w1 => isOctal_any _ w1)
      generalize byteAt r (i + 2 + j) = dx at *
      cases hdx : oct dx with
      | true =>
        rw [hdx] at hhx
        have HNG := Lib.hid (hNG ⟨hdx, hin⟩)
        clear hNG hNB hdx HB
        go_wp2_with fail
        refine (hokx.out _ HQ.out).mono ?_
        rintro e w1 ⟨rfl, hQ1⟩
        clear HQ; have HQ := Lib.hid hQ1; clear hQ1
        go_wp2_with fail
        refine (hpkx.out _ HQ.out).mono ?_
        rintro e w1 ⟨rfl, hQ1⟩
        clear HQ; have HQ := Lib.hid hQ1; clear hQ1
        go_wp2_with fail
        refine (hhx.out _).mono ?_
        rintro e w2 ⟨rfl, rfl⟩
        go_wp2_with fail
        refine Handed.intro (2 - (j + 1)) (by omega) ?_
        exact HJ2.out _ _ _ ⟨_, j + 1, he', QFrameO.of _ rfl rfl rfl rfl rfl rfl rfl rfl rfl rfl rfl rfl rfl rfl rfl rfl, rfl, by omega, HQ.out, HNG.out, HB2.out⟩
      | false =>
        rw [hdx] at hhx
        have HNB := Lib.hid (hNB (by rw [hdx]; simp))
        clear hNG hNB hdx HB
        cases np with
        | false =>
          obtain rfl := HST.out rfl
          have hR := HNB.out rfl
          clear HNB HST HRUN HB2
          subst hR
          go_wp2_with fail
          refine (hokx.out _ HQ.out).mono ?_
          rintro e w1 ⟨rfl, hQ1⟩
          clear HQ; have HQ := Lib.hid hQ1; clear hQ1
          go_wp2_with fail
          refine (hpkx.out _ HQ.out).mono ?_
          rintro e w1 ⟨rfl, hQ1⟩
          clear HQ; have HQ := Lib.hid hQ1; clear hQ1
          go_wp2_with fail
          refine (hhx.out _).mono ?_
          rintro e w2 ⟨rfl, rfl⟩
          go_wp2_with fail
          obtain ⟨c0, c9, c1⟩ := HQ.out.cur.lex.rd
          go_still_tail 17, (by kernel_rfl)
          clear c0 c9 c1
          change wpList _ _ _ _ _ (w1.drewN 1)
          have HQ2 := Lib.hid (HQ.out.drewN 1)
          clear HQ
          generalize w1.drewN 1 = w2 at *
          obtain ⟨c0, c9, c1⟩ := HQ2.out.cur.lex.rd
          go_wp2_with fail
          refine (panicfAtQ HQ2.out i (i + 2 + j + 1) _ _ _ (by omega) (by omega) (by omega) (by omega)).mono ?_
          rintro e w9 ⟨EB, rfl, hE⟩
          have HE := Lib.hid hE; clear hE
          go_wp2_with fail
          exact ⟨rfl, HPost.out _ _ (QReadN.fault ⟨EB, rfl, HE.out⟩)⟩
        | true =>
          have HBAD : Hid R.bad := Lib.hid (by
            cases he' with
            | false => rw [HNB.out rfl]; trivial
            | true => exact (HB2.out rfl).2)
          clear HNB HST HRUN HB2
          go_wp2_with fail
          refine (hokx.out _ HQ.out).mono ?_
          rintro e w1 ⟨rfl, hQ1⟩
          clear HQ; have HQ := Lib.hid hQ1; clear hQ1
          go_wp2_with fail
          refine (hpkx.out _ HQ.out).mono ?_
          rintro e w1 ⟨rfl, hQ1⟩
          clear HQ; have HQ := Lib.hid hQ1; clear hQ1
          go_wp2_with fail
          refine (hhx.out _).mono ?_
          rintro e w2 ⟨rfl, rfl⟩
          go_wp2_with fail
          refine Handed.intro (2 - (j + 1)) (by omega) ?_
          exact HJ2.out _ _ _ ⟨_, j + 1, true, QFrameO.of _ rfl rfl rfl rfl rfl rfl rfl rfl rfl rfl rfl rfl rfl rfl rfl rfl, rfl, by omega, HQ.out, fun h => absurd h (by decide), fun _ => ⟨by trivial, HBAD.out⟩⟩
    · exfalso
      cases np with
      | false =>
        have hR := hNB (fun h => hin h.1) (HST.out rfl)
        have hg := HGOOD.out rfl
        rw [hR] at hg
        have := hg.2
        omega
      | true =>
        have := HCALM.out rfl
        omega
theorem q_o51 {W w0 wx : World} {lb fb B i : Nat} {s q nm : ByteArray} {x : LexSt} {raw uni np he ident : Bool} {v : Value} {acc : List UInt8} {R : QR} {r : List UInt8} (t : Nat → Value) (hr : s.data.toList.drop x.pos = r) (hq : q.size = 1 ∨ q.size = 3) (hnm : (nm.toList == [105, 100, 101, 110, 116, 105, 102, 105, 101, 114]) = ident) (hi : i < r.length) (hacc : acc.length ≤ 4 * i)
    (hQ : QAt W w0 lb fb s x B v acc wx) (hrun : Link np he (qrun q.data.toList raw uni ident r i acc) R) (hgood : np = false → R.good r.length) (hcalm : np = true → calm r) (hc : q.data.toList.isPrefixOf (r.drop i) = false) (h92 : byteAt r i = 92) (hlt : i + 1 < r.length) (hraw : raw = false) (hd : byteAt r (i + 1) = 51) {Kx : Act → World → Prop} {Post : Ending → World → Prop} (hPost : ∀ e w', QReadN W w0 lb fb s x np R e w' → Post e w') (J : Nat → Act → World → Prop) (K : Act → World → Prop)
    (hJ : ∀ g a w, QInv W w0 lb fb s x B q raw uni nm np ident r R g a w → J g a w) (hK : ∀ a w, Handed J (r.length - i) a w → K a w) :
    Code.wp Tryz.prog qbody (Exit.then K (Exit.inBlock 0 (Exit.then Kx (bodyPost Tryz.prog Tryz.f71 Post)))) (QFrame t lb q raw uni nm np he i v) wx := by
  have hsz := hQ.cur.sz
  have hpos := hQ.cur.pos
  have hrl : r.length = s.size - x.pos := by rw [← hr]; exact hQ.cur.len
  have hPK : Hid (∀ (acc' : List UInt8) (v' : Value) (w1 : World), QAt W w0 lb fb s x B v' acc' w1 → ∀ (k : Nat) (j : Int), j = k → k < r.length → Calls Tryz.prog 65 #[.pointer (some ⟨lb, 0, none⟩), .int .i64 j] w1 fun e w' => e = .returned (.int .u8 (byteAt r k)) ∧ QAt W w0 lb fb s x B v' acc' w') := Lib.hid (fun acc' v' w1 h1 k j hj hk => by have := peekQ h1 k j hj (by rw [hr]; exact hk); rw [hr] at this; exact this)
  have hOK : Hid (∀ (acc' : List UInt8) (v' : Value) (w1 : World), QAt W w0 lb fb s x B v' acc' w1 → ∀ (k : Nat) (j : Int), j = k → k < r.length → Calls Tryz.prog 63 #[.pointer (some ⟨lb, 0, none⟩), .int .i64 j] w1 fun e w' => e = .returned (.bool true) ∧ QAt W w0 lb fb s x B v' acc' w') := Lib.hid (fun acc' v' w1 h1 k j hj hk => by have := peekOkQ h1 k j hj (by omega); rw [hr, show decide (k < r.length) = true from by simpa using hk] at this; exact this)
  have hSL : Hid (∀ (acc' : List UInt8) (v' : Value) (w1 : World), QAt W w0 lb fb s x B v' acc' w1 → ∀ (a b : Nat) (j k : Int), j = a → k = b → a ≤ b → b ≤ 2000000 → a ≤ r.length → Calls Tryz.prog 76 #[.pointer (some ⟨lb, 0, none⟩), .int .i64 j, .int .i64 k] w1 fun e w' => e = .returned (.string ⟨(sub r a b).toArray⟩) ∧ QAt W w0 lb fb s x B v' acc' w') := Lib.hid (fun acc' v' w1 h1 a b j k hj hk hab hb ha => by have := sliceQ h1 a b j k hj hk hab hb (by rw [hr]; exact ha); rw [hr] at this; exact this)
  rw [qrun_in _ _ _ _ _ _ _ hi] at hrun
  subst hraw
  have hst : qstep q.data.toList false uni r i = (match badAt oct r (i + 2) 0 2 with
      | some j => .fault i (i + 2 + j + 1) 1
      | none => .next 3 [UInt8.ofNat (valL 8 (sub r (i + 1) (i + 4)))]) := by
    unfold qstep
    rw [hc, if_neg (by decide), if_pos h92, if_pos hlt, hd]; rfl
  rw [hst] at hrun
  have hsub : ((⟨(sub r i (i + q.size)).toArray⟩ : ByteArray).toList == q.toList) = false := by rw [sub_pre]; exact hc
  have HSL2 : Hid (∀ w1, QAt W w0 lb fb s x B v acc w1 → Calls Tryz.prog 76 #[.pointer (some ⟨lb, 0, none⟩), .int .i64 (i : Int), .int .i64 ((i : Int) + (q.size : Int))] w1 fun e w' => e = .returned (.string ⟨(sub r i (i + q.size)).toArray⟩) ∧ QAt W w0 lb fb s x B v acc w') := Lib.hid (fun w1 h1 => hSL.out acc v w1 h1 i (i + q.size) _ _ rfl (by omega) (by omega) (by omega) (Nat.le_of_lt hi))
  generalize (⟨(sub r i (i + q.size)).toArray⟩ : ByteArray) = S at *
  obtain ⟨i0, hinf, hz0, hz1, hz2⟩ := info_parts info_u8q
  have HOK2 : Hid (∀ w1, QAt W w0 lb fb s x B v acc w1 → Calls Tryz.prog 63 #[.pointer (some ⟨lb, 0, none⟩), .int .i64 (i : Int)] w1 fun e w' => e = .returned (.bool true) ∧ QAt W w0 lb fb s x B v acc w') := Lib.hid (fun w1 h1 => hOK.out acc v w1 h1 i _ rfl hi)
  have hcb := byteAt_bd r i
  have HPK2 : Hid (∀ w1, QAt W w0 lb fb s x B v acc w1 → Calls Tryz.prog 65 #[.pointer (some ⟨lb, 0, none⟩), .int .i64 (i : Int)] w1 fun e w' => e = .returned (.int .u8 (byteAt r i)) ∧ QAt W w0 lb fb s x B v acc w') := Lib.hid (fun w1 h1 => hPK.out acc v w1 h1 i _ rfl hi)
  rw [h92] at HPK2
  have hdb := byteAt_bd r (i + 1)
  have HOK3 : Hid (∀ w1, QAt W w0 lb fb s x B v acc w1 → Calls Tryz.prog 63 #[.pointer (some ⟨lb, 0, none⟩), .int .i64 ((i : Int) + 1)] w1 fun e w' => e = .returned (.bool true) ∧ QAt W w0 lb fb s x B v acc w') := Lib.hid (fun w1 h1 => hOK.out acc v w1 h1 (i + 1) _ (by omega) hlt)
  have HPK3 : Hid (∀ w1, QAt W w0 lb fb s x B v acc w1 → Calls Tryz.prog 65 #[.pointer (some ⟨lb, 0, none⟩), .int .i64 ((i : Int) + 1)] w1 fun e w' => e = .returned (.int .u8 (byteAt r (i + 1))) ∧ QAt W w0 lb fb s x B v acc w') := Lib.hid (fun w1 h1 => hPK.out acc v w1 h1 (i + 1) _ (by omega) hlt)
  have HRUN := Lib.hid hrun; have HQ := Lib.hid hQ; have HPost := Lib.hid hPost; have HJ := Lib.hid hJ; have HNM := Lib.hid hnm; have HRr := Lib.hid hr
  rw [hd] at HPK3
  have HOKJ := hOK; have HPKJ := hPK; have hSLX := hSL; have HGOOD := Lib.hid hgood; have HD0 := Lib.hid hd; have HCALM : Hid (np = true → i + 9 < r.length) := Lib.hid (fun h => calm_in (hcalm h) hi h92)
  clear hrun hQ hPost hgood hcalm hst hJ hr hnm hOK hPK hSL hc h92 hd hdb
  unfold QFrame
  conv => arg 2; whnf
  go_wp2_with fail
  refine (HOK2.out _ HQ.out).mono ?_
  rintro e w1 ⟨rfl, hQ1⟩
  clear HQ; have HQ := Lib.hid hQ1; clear hQ1
  go_wp2_with fail
  refine (HSL2.out _ HQ.out).mono ?_
  rintro e w1 ⟨rfl, hQ1⟩
  clear HQ; have HQ := Lib.hid hQ1; clear hQ1
  go_wp2_with fail
  refine (HPK2.out _ HQ.out).mono ?_
  rintro e w1 ⟨rfl, hQ1⟩
  clear HQ; have HQ := Lib.hid hQ1; clear hQ1
  go_wp2_with fail
  refine (HOK3.out _ HQ.out).mono ?_
  rintro e w1 ⟨rfl, hQ1⟩
  clear HQ; have HQ := Lib.hid hQ1; clear hQ1
  go_wp2_with fail
  refine (HPK3.out _ HQ.out).mono ?_
  rintro e w1 ⟨rfl, hQ1⟩
  clear HQ; have HQ := Lib.hid hQ1; clear hQ1
  go_wp2_with fail
  refine wp_loop_ghost_k (fun g a wx => ∃ (t : Nat → Value) (j : Nat) (he' : Bool), a = QFrameO t lb q false uni nm np he' i v 51 j ∧ g = 2 - j ∧ j ≤ 2 ∧ QAt W w0 lb fb s x B v acc wx ∧ (he' = false → he = false ∧ badAt oct r (i + 2) 0 2 = badAt oct r (i + 2) j (2 - j)) ∧ (he' = true → np = true ∧ R.bad)) 2 ⟨_, 0, he, QFrameO.of _ rfl rfl rfl rfl rfl rfl rfl rfl rfl rfl rfl rfl rfl rfl rfl rfl, rfl, by omega, HQ.out, fun h => ⟨h, rfl⟩, HRUN.out.bad⟩ ?_
  rintro g a wx ⟨t2, j, he', rfl, rfl, hj, hQ, hb, hb2⟩ J2 K2 hJ2 hK2
  clear HQ
  have HQ := Lib.hid hQ; have HB := Lib.hid hb; have HB2 := Lib.hid hb2; have HJ2 := Lib.hid hJ2
  clear hQ hb hb2 hJ2
  unfold QFrameO
  by_cases hj2 : j = 2
  · subst hj2
    rcases hnone : badAt oct r (i + 2) 0 2 with _ | j0
    rotate_left
    · cases he' with
      | false =>
        have h9 := (HB.out rfl).2
        rw [hnone] at h9
        exact absurd h9 (by intro h; cases h)
      | true =>
        obtain ⟨hnp, hbad⟩ := HB2.out rfl
        subst hnp
        have HBAD := Lib.hid hbad
        have h9 := HCALM.out rfl
        obtain ⟨_, hj0, hpre, hno⟩ := badAt_some oct r (i + 2) 2 0 j0 hnone
        have hno' : oct (byteAt r (i + 2 + j0)) = false := by
          cases h : oct (byteAt r (i + 2 + j0)) with
          | false => rfl
          | true => exact absurd ⟨by omega, h⟩ hno
        have hpre3 : ∀ k, k < j0 + 1 → oct (byteAt r (i + 1 + k)) = true := by
          intro k hk
          by_cases h0 : k = 0
          · subst h0; rw [show i + 1 + 0 = i + 1 from rfl, HD0.out]; rfl
          · have := hpre (k - 1) (by omega) (by omega)
            rw [show i + 2 + (k - 1) = i + 1 + k from by omega] at this; exact this
        have hno3 : oct (byteAt r (i + 1 + (j0 + 1))) = false := by rw [show i + 1 + (j0 + 1) = i + 2 + j0 from by omega]; exact hno'
        have hsl := sub_len r (i + 1) 3 (by omega)
        have hsb := sub_byte r (i + 1) 3
        have hva := val_take 8 2 (by decide) (sub r (i + 1) (i + 1 + 3)) (j0 + 1) (by omega) (by omega) (fun k hk => by rw [hsb k (by omega)]; exact digV_oct _ (hpre3 k hk))
        have hpu : ∀ w1, QAt W w0 lb fb s x B v acc w1 → Calls Tryz.prog 86 #[.string ⟨(sub r (i + 1) (i + 1 + 3)).toArray⟩, .int .i64 8, .int .i64 8] w1 fun e w' => (∃ N, e = .returned (.tuple #[.int .u64 0, .iface 174 (.pointer (some ⟨N, 0, none⟩))])) ∧ Below w1.heap.size w1 w' := fun w1 h1 => by
          obtain ⟨ev, he1, he2⟩ := synQ h1
          exact parseBad8_8 ⟨(sub r (i + 1) (i + 1 + 3)).toArray⟩ (j0 + 1) (by show j0 + 1 < (sub r (i + 1) (i + 1 + 3)).toArray.size; rw [List.size_toArray, hsl]; omega) (by show (sub r (i + 1) (i + 1 + 3)).toArray.size ≤ 100; rw [List.size_toArray, hsl]; decide)
            (fun k hk => by show oct (byteAt (sub r (i + 1) (i + 1 + 3)) k) = true; rw [hsb k (by omega)]; exact hpre3 k hk) (by show oct (byteAt (sub r (i + 1) (i + 1 + 3)) (j0 + 1)) = false; rw [hsb (j0 + 1) (by omega)]; exact hno3) (by show valL 8 ((sub r (i + 1) (i + 1 + 3)).take (j0 + 1)) ≤ 255; have : (8 : Nat) ^ 2 = 64 := rfl; omega) w1 he1 he2
        have hsx := fun w1 (h1 : QAt W w0 lb fb s x B v acc w1) => hSLX.out acc v w1 h1 (i + 1) (i + 1 + 3) ((i : Int) + 1) ((i : Int) + 1 + 1 + 2) (by omega) (by omega) (by omega) (by omega) (by omega)
        generalize (⟨(sub r (i + 1) (i + 1 + 3)).toArray⟩ : ByteArray) = T at *
        have HPU := Lib.hid hpu; have HSX := Lib.hid hsx
        clear hpu hsx hva hpre3 hno3 hno' hno hpre hnone hsl hsb HB HB2 HRUN hbad
        go_wp2_with fail
        refine (HSX.out _ HQ.out).mono ?_
        rintro e w1 ⟨rfl, hQ1⟩
        clear HQ; have HQ := Lib.hid hQ1; clear hQ1
        go_wp2_with fail
        refine (HPU.out _ HQ.out).mono ?_
        rintro e w3 ⟨⟨N, rfl⟩, hb3⟩
        have HQ3 := Lib.hid (HQ.out.keep hb3)
        clear HQ hb3
        have HQ := HQ3; clear HQ3
        go_wp2_with fail
        refine Handed.intro (r.length - (i + 1 + 1)) (by omega) ?_
        exact HJ.out _ _ _ (QInv.of acc _ rfl rfl rfl rfl rfl rfl rfl rfl rfl (by show _ = _; rfl) rfl rfl (by omega) (by omega) HQ.out (Link.loose HBAD.out))
    have hall := badAt_none oct r (i + 2) 2 0 hnone
    have hl1 := (hall 1 (by omega) (by omega)).1
    have hrn : Link np he' (qrun q.data.toList false uni ident r (i + 3 + 1) (acc ++ [UInt8.ofNat (valL 8 (sub r (i + 1) (i + 1 + 3)))])) R := ⟨fun h => by have h9 := HRUN.out.eq (HB.out h).1; rw [hnone] at h9; exact h9, HB2.out⟩
    have hsl := sub_len r (i + 1) 3 (by omega)
    have hsb := sub_byte r (i + 1) 3
    have hall3 : ∀ k, k < 3 → oct (byteAt r (i + 1 + k)) = true := by
      intro k hk
      by_cases h0 : k = 0
      · subst h0; rw [show i + 1 + 0 = i + 1 from rfl, HD0.out]; rfl
      · have := (hall (k - 1) (by omega) (by omega)).2
        rw [show i + 2 + (k - 1) = i + 1 + k from by omega] at this; exact this
    have hv : valL 8 (sub r (i + 1) (i + 1 + 3)) < 256 := by
      have h2 := sub_len r (i + 2) 2 (by omega)
      have h3 := sub_byte r (i + 2) 2
      have h1 := valF_lt 8 (sub r (i + 2) (i + 2 + 2)) (digV 51) (fun k hk => by rw [h2] at hk; rw [h3 k hk]; exact digV_oct _ (hall k (by omega) (by omega)).2)
      rw [h2] at h1
      have hd0 : ((r.getD (i + 1) 0).toNat : Int) = 51 := HD0.out
      rw [sub_cons r (i + 1) (i + 1 + 3) (by omega) (by omega)]
      show valF 8 (0 * 8 + digV ((r.getD (i + 1) 0).toNat : Int)) (sub r (i + 2) (i + 2 + 2)) < 256
      rw [hd0]
      have e : digV 51 = 3 := by decide
      rw [e] at h1 ⊢
      exact Nat.lt_of_lt_of_le h1 (by decide)
    have hpu := fun w => parse8_8 ⟨(sub r (i + 1) (i + 1 + 3)).toArray⟩ (by show (sub r (i + 1) (i + 1 + 3)).toArray.size ≠ 0; rw [List.size_toArray, hsl]; decide) (by show (sub r (i + 1) (i + 1 + 3)).toArray.size ≤ 100; rw [List.size_toArray, hsl]; decide)
      (by intro k hk; have hk : k < 3 := by (have : k < (sub r (i + 1) (i + 1 + 3)).toArray.size := hk); rw [List.size_toArray, hsl] at this; exact this
          show isDig 8 (byteAt (sub r (i + 1) (i + 1 + 3)) k) = true
          rw [hsb k hk]; exact hall3 k hk) (by show valL 8 (sub r (i + 1) (i + 1 + 3)) ≤ 255; omega) w
    have hpu : ∀ w, Calls Tryz.prog 86 #[.string ⟨(sub r (i + 1) (i + 1 + 3)).toArray⟩, .int .i64 8, .int .i64 8] w fun e w' => e = .returned (.tuple #[.int .u64 ((valL 8 (sub r (i + 1) (i + 1 + 3)) : Nat) : Int), .nilIface]) ∧ Below w.heap.size w w' := hpu
    have hsx := fun w1 (h1 : QAt W w0 lb fb s x B v acc w1) => hSLX.out acc v w1 h1 (i + 1) (i + 1 + 3) ((i : Int) + 1) ((i : Int) + 1 + 1 + 2) (by omega) (by omega) (by omega) (by omega) (by omega)
    have hun : ((UInt8.ofNat (valL 8 (sub r (i + 1) (i + 1 + 3)))).toNat : Int) = ((valL 8 (sub r (i + 1) (i + 1 + 3)) : Nat) : Int) := by
      rw [UInt8.toNat_ofNat_of_lt' (by simpa using hv)]
    generalize (⟨(sub r (i + 1) (i + 1 + 3)).toArray⟩ : ByteArray) = T at *
    generalize valL 8 (sub r (i + 1) (i + 1 + 3)) = n at *
    have hnI : ((n : Nat) : Int) < 256 := by omega
    have HPU := Lib.hid hpu; have HSX := Lib.hid hsx; have HRN := Lib.hid hrn; have HUN := Lib.hid hun
    clear hpu hsx hrn hun hall hall3 hnone hsl hsb HB HB2 HRUN hv
    have hn0 : (0 : Int) ≤ (n : Int) := by omega
    generalize (n : Int) = z at *
    go_wp2_with fail
    refine (HSX.out _ HQ.out).mono ?_
    rintro e w1 ⟨rfl, hQ1⟩
    clear HQ; have HQ := Lib.hid hQ1; clear hQ1
    go_wp2_with fail
    refine (HPU.out _).mono ?_
    rintro e w3 ⟨rfl, hb3⟩
    have HQ3 := Lib.hid (HQ.out.keep hb3)
    clear HQ hb3
    have hown := HQ3.out.own
    have hB := HQ3.out.hB
    go_wp2_with (at_builtin; go_loud (refine wpList_append_Own _ rfl (.tmp 460) (.tmp 463) 33 rfl B 5 i0 (.int .u8 0) 1 1 Tryz.underlying33 hinf hz0 hz1 hz2 rfl (by decide) _ _ _ rfl (hown.alloc _) ⟨w3.heap.size, 0, none⟩ 1 1 [.int .u8 z] rfl rfl (cell_one_new _ _ _) (by simp [Value.oneCell']) (by unfold maxLen; omega) (by omega) (by simp; omega) ?_))
    intro v' w2 hown1 hg1 hbk hne
    go_wp2_with fail
    refine Handed.intro (r.length - (i + 3 + 1)) ?_ ?_
    · omega
    · refine HJ.out _ _ _ (QInv.of (acc ++ [UInt8.ofNat n]) _ rfl rfl rfl rfl rfl rfl rfl rfl rfl (by show _ = _; rfl) rfl rfl (by omega) (by simp; omega) ?_ HRN.out)
      refine (HQ3.out.alloc _).app hg1 ?_
      rw [← HUN.out] at hown1
      simpa [bv_append, bv] using hown1
  · have hjl : j < 2 := by omega
    have hNG : oct (byteAt r (i + 2 + j)) = true ∧ i + 2 + j < r.length → (he' = false → he = false ∧ badAt oct r (i + 2) 0 2 = badAt oct r (i + 2) (j + 1) (2 - (j + 1))) := by
      intro h h'
      refine ⟨(HB.out h').1, ?_⟩
      rw [(HB.out h').2, show 2 - j = (2 - (j + 1)) + 1 from by omega]
      exact badAt_go oct r (i + 2) j _ h.2 h.1
    have hNB : ¬ (i + 2 + j < r.length ∧ oct (byteAt r (i + 2 + j)) = true) → he' = false → R = .err i (i + 2 + j + 1) := by
      intro h h'
      have h2 := (HB.out h').2
      rw [show 2 - j = (2 - (j + 1)) + 1 from by omega, badAt_stop oct r (i + 2) j _ h] at h2
      have h3 := HRUN.out.eq (HB.out h').1
      rw [h2] at h3
      exact h3.symm
    have HST : Hid (np = false → he' = false) := Lib.hid (fun h => by
      cases he' with
      | false => rfl
      | true => have := (HB2.out rfl).1; rw [h] at this; exact absurd this (by decide))
    by_cases hin : i + 2 + j < r.length
    · have hokx : Hid (∀ w1, QAt W w0 lb fb s x B v acc w1 → Calls Tryz.prog 63 #[.pointer (some ⟨lb, 0, none⟩), .int .i64 ((i : Int) + 1 + 1 + (j : Int))] w1 fun e w' => e = .returned (.bool true) ∧ QAt W w0 lb fb s x B v acc w') := Lib.hid (fun w1 h1 => HOKJ.out acc v w1 h1 (i + 2 + j) _ (by omega) hin)
      have hpkx : Hid (∀ w1, QAt W w0 lb fb s x B v acc w1 → Calls Tryz.prog 65 #[.pointer (some ⟨lb, 0, none⟩), .int .i64 ((i : Int) + 1 + 1 + (j : Int))] w1 fun e w' => e = .returned (.int .u8 (byteAt r (i + 2 + j))) ∧ QAt W w0 lb fb s x B v acc w') := Lib.hid (fun w1 h1 => HPKJ.out acc v w1 h1 (i + 2 + j) _ (by omega) hin)
      have hcx := byteAt_bd r (i + 2 + j)
      have hhx : Hid (∀ w1, Calls Tryz.prog 88 #[.int .u8 (byteAt r (i + 2 + j))] w1 fun e w' => e = .returned (.bool (oct (byteAt r (i + 2 + j)))) ∧ w1 = w') := Lib.hid (fun w1 => isOctal_any _ w1)
      generalize byteAt r (i + 2 + j) = dx at *
      cases hdx : oct dx with
      | true =>
        rw [hdx] at hhx
        have HNG := Lib.hid (hNG ⟨hdx, hin⟩)
        clear hNG hNB hdx HB
        go_wp2_with fail
        refine (hokx.out _ HQ.out).mono ?_
        rintro e w1 ⟨rfl, hQ1⟩
        clear HQ; have HQ := Lib.hid hQ1; clear hQ1
        go_wp2_with fail
        refine (hpkx.out _ HQ.out).mono ?_
        rintro e w1 ⟨rfl, hQ1⟩
        clear HQ; have HQ := Lib.hid hQ1; clear hQ1
        go_wp2_with fail
        refine (hhx.out _).mono ?_
        rintro e w2 ⟨rfl, rfl⟩
        go_wp2_with fail
        refine Handed.intro (2 - (j + 1)) (by omega) ?_
        exact HJ2.out _ _ _ ⟨_, j + 1, he', QFrameO.of _ rfl rfl rfl rfl rfl rfl rfl rfl rfl rfl rfl rfl rfl rfl rfl rfl, rfl, by omega, HQ.out, HNG.out, HB2.out⟩
      | false =>
        rw [hdx] at hhx
        have HNB := Lib.hid (hNB (by rw [hdx]; simp))
        clear hNG hNB hdx HB
        cases np with
        | false =>
          obtain rfl := HST.out rfl
          have hR := HNB.out rfl
          clear HNB HST HRUN HB2
          subst hR
          go_wp2_with fail
          refine (hokx.out _ HQ.out).mono ?_
          rintro e w1 ⟨rfl, hQ1⟩
          clear HQ; have HQ := Lib.hid hQ1; clear hQ1
          go_wp2_with fail
          refine (hpkx.out _ HQ.out).mono ?_
          rintro e w1 ⟨rfl, hQ1⟩
          clear HQ; have HQ := Lib.hid hQ1; clear hQ1
          go_wp2_with fail
          refine (hhx.out _).mono ?_
          rintro e w2 ⟨rfl, rfl⟩
          go_wp2_with fail
          obtain ⟨c0, c9, c1⟩ := HQ.out.cur.lex.rd
          go_still_tail 17, (by kernel_rfl)
          clear c0 c9 c1
          change wpList _ _ _ _ _ (w1.drewN 1)
          have HQ2 := Lib.hid (HQ.out.drewN 1)
          clear HQ
          generalize w1.drewN 1 = w2 at *
          obtain ⟨c0, c9, c1⟩ := HQ2.out.cur.lex.rd
          go_wp2_with fail
          refine (panicfAtQ HQ2.out i (i + 2 + j + 1) _ _ _ (by omega) (by omega) (by omega) (by omega)).mono ?_
          rintro e w9 ⟨EB, rfl, hE⟩
          have HE := Lib.hid hE; clear hE
          go_wp2_with fail
          exact ⟨rfl, HPost.out _ _ (QReadN.fault ⟨EB, rfl, HE.out⟩)⟩
        | true =>
          have HBAD : Hid R.bad := Lib.hid (by
            cases he' with
            | false => rw [HNB.out rfl]; trivial
            | true => exact (HB2.out rfl).2)
          clear HNB HST HRUN HB2
          go_wp2_with fail
          refine (hokx.out _ HQ.out).mono ?_
          rintro e w1 ⟨rfl, hQ1⟩
          clear HQ; have HQ := Lib.hid hQ1; clear hQ1
          go_wp2_with fail
          refine (hpkx.out _ HQ.out).mono ?_
          rintro e w1 ⟨rfl, hQ1⟩
          clear HQ; have HQ := Lib.hid hQ1; clear hQ1
          go_wp2_with fail
          refine (hhx.out _).mono ?_
          rintro e w2 ⟨rfl, rfl⟩
          go_wp2_with fail
          refine Handed.intro (2 - (j + 1)) (by omega) ?_
          exact HJ2.out _ _ _ ⟨_, j + 1, true, QFrameO.of _ rfl rfl rfl rfl rfl rfl rfl rfl rfl rfl rfl rfl rfl rfl rfl rfl, rfl, by omega, HQ.out, fun h => absurd h (by decide), fun _ => ⟨by trivial, HBAD.out⟩⟩
    · exfalso
      cases np with
      | false =>
        have hR := hNB (fun h => hin h.1) (HST.out rfl)
        have hg := HGOOD.out rfl
        rw [hR] at hg
        have := hg.2
        omega
      | true =>
        have := HCALM.out rfl
        omega
end Go.Proofs.YtcelnnjjakiehaaGreatDoor
