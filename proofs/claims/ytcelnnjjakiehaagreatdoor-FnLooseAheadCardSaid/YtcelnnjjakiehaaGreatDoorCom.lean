/-
  Comments: the contracts of skipCommentUntil and skipComment.
-/
import Derived.Test.YtcelnnjjakiehaaGreatDoorLex2
namespace Go.Proofs.YtcelnnjjakiehaaGreatDoor
open Go.RowKit
set_option linter.unusedVariables false
set_option maxRecDepth 20000
set_option maxHeartbeats 1000000

theorem skipUntil_any {W w0 w : World} {lb fb : Nat} {s : ByteArray} {x : LexSt} (h : Cur W w0 lb fb s x w) (pat : ByteArray) (must np : Bool) (hp1 : 0 < pat.size) (hp2 : pat.size ≤ 100) :
    Calls Tryz.prog 62 #[.pointer (some ⟨lb, 0, none⟩), .string pat, .bool must, .bool np] w fun e w' =>
      match findEnd pat.data.toList (s.data.toList.drop x.pos) with
      | some n => Did W w0 lb fb s (.bool false) { x with pos := x.pos + n } e w'
      | none => if must && !np then Fault W w0 lb fb x.pos e w' else Did W w0 lb fb s (.bool must) { x with pos := s.size } e w' := by
  have hf0 := h.pos
  obtain ⟨c0, c9, c1⟩ := h.lex.rd
  have H := Lib.hid h; clear h
  generalize hfe : findEnd pat.data.toList (s.data.toList.drop x.pos) = fe
  have HF := Lib.hid hfe; clear hfe
  go_enter Tryz.func62, Tryz.ntmps62
  go_wp2_with fail
  go_loopg [] (s.size - x.pos) (fun g wx => ∃ y : Nat, Cur W w0 lb fb s { x with pos := y } wx ∧ x.pos ≤ y ∧ g = s.size - y ∧ fe = (findEnd pat.data.toList (s.data.toList.drop y)).map (· + (y - x.pos)))
  case atStart => exact ⟨x.pos, H.out, Nat.le_refl _, rfl, by rw [HF.out, Nat.sub_self]; cases fe <;> rfl⟩
  case round =>
    obtain ⟨y, hC, hy1, rfl, hy2⟩ := hrel
    have hpos : y ≤ s.size := hC.pos
    by_cases hlt : s.size ≤ y
    · have HE := eofR hC
      rw [show decide (s.size ≤ y) = true from by simpa using hlt] at HE
      have hnil : s.data.toList.drop y = [] := List.drop_eq_nil_of_le (by rw [ba_toList_length]; exact hlt)
      rw [hnil] at hy2
      have hy3 : fe = none := hy2
      have HE1 := Lib.hid HE
      clear hC hnil HE hy2
      subst hy3
      obtain rfl : y = s.size := by omega
      go_wp2_with fail
      refine HE1.out.mono ?_
      rintro e w1 ⟨rfl, hC1⟩
      have HC1 := Lib.hid hC1; clear hC1
      have d9 : w1.cell? ⟨lb, 9, none⟩ = some (.int .i64 (s.size : Int)) := HC1.out.lex.rd.at_
      have HP := Lib.hid (fun msg => panicfAt_any HC1.out x.pos s.size msg hf0 (Nat.le_refl _))
      cases must <;> cases np
      · go_wp2_with fail
        go_ret
        exact ⟨rfl, HC1.out⟩
      · go_wp2_with fail
        go_ret
        exact ⟨rfl, HC1.out⟩
      · go_wp2_with fail
        refine (HP.out _).mono ?_
        rintro e w2 ⟨EB, rfl, hE⟩
        have HE := Lib.hid hE; clear hE
        go_wp2_with fail
        exact ⟨rfl, EB, rfl, HE.out⟩
      · go_wp2_with fail
        go_ret
        exact ⟨rfl, HC1.out⟩
    · have hgt : decide (s.size ≤ y) = false := by simpa using hlt
      have hHE := eofR hC
      rw [hgt] at hHE
      have HE := Lib.hid hHE; clear hHE
      have hrl : (s.data.toList.drop y).length = s.size - y := hC.len
      have hcons : s.data.toList.drop y = s.data.toList[y]'(by rw [ba_toList_length]; omega) :: s.data.toList.drop (y + 1) := List.drop_eq_getElem_cons (by rw [ba_toList_length]; omega)
      have hq : ((⟨(sub (s.data.toList.drop y) 0 pat.size).toArray⟩ : ByteArray).toList == pat.toList) = pat.data.toList.isPrefixOf (s.data.toList.drop y) := by
        rw [Lib.toList_data, Lib.toList_data]
        show (sub (s.data.toList.drop y) 0 pat.size == pat.data.toList) = _
        rw [sub, List.drop_zero, Bool.eq_iff_iff, beq_iff_eq, List.isPrefixOf_iff_prefix, List.prefix_iff_eq_take, ba_toList_length]
        exact eq_comm
      have hfe : findEnd pat.data.toList (s.data.toList.drop y) = if pat.data.toList.isPrefixOf (s.data.toList.drop y) then some pat.data.toList.length else (findEnd pat.data.toList (s.data.toList.drop (y + 1))).map (· + 1) := by
        rw [hcons]; rfl
      rw [hfe, ba_toList_length] at hy2
      have hSL := fun (w1 : World) (h1 : Cur W w0 lb fb s { x with pos := y } w1) => sliceR h1 0 pat.size 0 pat.size rfl rfl (Nat.zero_le _) (by omega) (Nat.zero_le _)
      have hSL : ∀ (w1 : World) (h1 : Cur W w0 lb fb s { x with pos := y } w1), Calls _ _ _ w1 (Did W w0 lb fb s (.string ⟨(sub (s.data.toList.drop y) 0 pat.size).toArray⟩) { x with pos := y }) := hSL
      have hpl : pat.data.toList.isPrefixOf (s.data.toList.drop y) = true → y + pat.size ≤ s.size := by
        intro hp
        have := (List.isPrefixOf_iff_prefix.1 hp).length_le
        rw [ba_toList_length] at this; omega
      generalize (⟨(sub (s.data.toList.drop y) 0 pat.size).toArray⟩ : ByteArray) = S at *
      have HSL := Lib.hid hSL
      have HC := Lib.hid hC; clear hC hcons hfe hSL hrl
      cases hpre : pat.data.toList.isPrefixOf (s.data.toList.drop y) with
      | true =>
        rw [hpre] at hq hy2
        rw [if_pos rfl] at hy2
        have hpl := hpl hpre
        simp only [Option.map_some] at hy2
        clear hpre
        subst hy2
        go_wp2_with fail
        refine HE.out.mono ?_
        rintro e w1 ⟨rfl, hC1⟩
        have HC1 := Lib.hid hC1; clear hC1
        go_wp2_with fail
        refine (HSL.out _ HC1.out).mono ?_
        rintro e w2 ⟨rfl, hC2⟩
        have HC2 := Lib.hid hC2; clear hC2
        go_wp2_with fail
        refine (skipNR HC2.out pat.size _ rfl hpl).mono ?_
        rintro e w3 ⟨rfl, hC3⟩
        have HC3 := Lib.hid hC3; clear hC3
        go_wp2_with fail
        go_ret
        refine ⟨rfl, ?_⟩
        have := HC3.out
        rw [show x.pos + (pat.size + (y - x.pos)) = y + pat.size from by omega]; exact this
      | false =>
        rw [hpre] at hq hy2
        rw [if_neg (by decide)] at hy2
        have HY := Lib.hid hy2
        clear hpre hpl hy2
        go_wp2_with fail
        refine HE.out.mono ?_
        rintro e w1 ⟨rfl, hC1⟩
        have HC1 := Lib.hid hC1; clear hC1
        go_wp2_with fail
        refine (HSL.out _ HC1.out).mono ?_
        rintro e w2 ⟨rfl, hC2⟩
        have HC2 := Lib.hid hC2; clear hC2
        go_wp2_with fail
        refine (skipR HC2.out (show y < s.size by omega)).mono ?_
        rintro e w3 ⟨rfl, hC3⟩
        have HC3 := Lib.hid hC3; clear hC3
        go_wp2_with fail
        go_roundg (s.size - (y + 1))
        case measure => omega
        case rel =>
          refine ⟨y + 1, HC3.out, by omega, rfl, ?_⟩
          rw [HY.out, Option.map_map]
          congr 1
          funext z
          simp only [Function.comp]
          omega

/-- a byte at the head of a rest -/
theorem dec_ascii (c : UInt8) (t : List UInt8) (h : c.toNat < 128) : (dec (c :: t)).1 = c.toNat := by
  unfold dec Utf8.decode
  have e : ((⟨(c :: t).toArray⟩ : ByteArray).get! (0 + 0)) = c := rfl
  simp only [e]
  rw [if_pos h]
theorem dec_high (c : UInt8) (t : List UInt8) (h : ¬ c.toNat < 128) : 128 ≤ (dec (c :: t)).1 := by
  unfold dec Utf8.decode Utf8.runeError
  have e : ((⟨(c :: t).toArray⟩ : ByteArray).get! (0 + 0)) = c := rfl
  simp only [e]
  rw [if_neg h]
  repeat' split
  all_goals (simp only [ge_iff_le, Bool.and_eq_true, decide_eq_true_eq] at *; omega)
/-- what skipComment hands back and leaves -/
def ComDid (W w0 : World) (lb fb : Nat) (s : ByteArray) (x : LexSt) (np : Bool) (e : Ending) (w' : World) : Prop :=
  match comment (s.data.toList.drop x.pos) with
  | .no => Did W w0 lb fb s (.bool false) x e w'
  | .closed n => Did W w0 lb fb s (.bool false) { x with pos := x.pos + n } e w'
  | .open_ => if np then Did W w0 lb fb s (.bool true) { x with pos := s.size } e w' else Fault W w0 lb fb x.pos e w'
theorem skipComment_any {W w0 w : World} {lb fb : Nat} {s : ByteArray} {x : LexSt} (h : Cur W w0 lb fb s x w) (np : Bool) :
    Calls Tryz.prog 50 #[.pointer (some ⟨lb, 0, none⟩), .bool np] w (ComDid W w0 lb fb s x np) := by
  obtain ⟨c0, c9, c1⟩ := h.lex.rd
  have hpos := h.pos
  have hrl := h.len
  have hU1 := fun w1 (h1 : Cur W w0 lb fb s x w1) => skipUntil_any h1 ⟨#[10]⟩ false np (by decide) (by decide)
  have hU2 := fun w1 (h1 : Cur W w0 lb fb s x w1) => skipUntil_any h1 ⟨#[42, 47]⟩ true np (by decide) (by decide)
  have hI := fun w1 (h1 : Cur W w0 lb fb s x w1) (c : Int) => peekIsR h1 1 1 c rfl (by omega)
  have hdg : Lib.decodeGo (s.extract x.pos s.size) = if s.data.toList.drop x.pos = [] then (65533, 0) else dec (s.data.toList.drop x.pos) := by
    have he : (s.extract x.pos s.size).data.toList = s.data.toList.drop x.pos := by
      rw [Lib.extract_data]
      exact List.take_of_length_le (by rw [List.length_drop, ba_toList_length]; exact Nat.le_refl _)
    by_cases hn : s.data.toList.drop x.pos = []
    · rw [if_pos hn]
      unfold Lib.decodeGo
      rw [if_pos]
      rw [← ba_toList_length, he, hn]; rfl
    · rw [if_neg hn, dec_go _ (by rw [← ba_toList_length, he]; intro e; exact hn (List.eq_nil_of_length_eq_zero e)), he]
  have hD : ∀ w', Laid w' → Calls Tryz.prog 58 #[.string (s.extract x.pos s.size)] w' _ := fun w' hw => Tryz.utf8_DecodeRuneInString (s.extract x.pos s.size) w' hw.utf
  rw [hdg] at hD
  generalize hr : s.data.toList.drop x.pos = r at *
  have hlt : decide (s.size < x.pos) = false := by simp; omega
  have H := Lib.hid h; clear h hdg
  have hQ : ∀ e w', (match comment r with
    | .no => Did W w0 lb fb s (.bool false) x e w'
    | .closed n => Did W w0 lb fb s (.bool false) { x with pos := x.pos + n } e w'
    | .open_ => if np then Did W w0 lb fb s (.bool true) { x with pos := s.size } e w' else Fault W w0 lb fb x.pos e w') → ComDid W w0 lb fb s x np e w' := by
    intro e w' hh
    unfold ComDid; rw [hr]; exact hh
  have HQ := Lib.hid hQ; clear hQ
  generalize ComDid W w0 lb fb s x np = Post at *
  have HU1 := Lib.hid hU1; have HU2 := Lib.hid hU2; have HI := Lib.hid hI; have HD := Lib.hid hD
  clear hU1 hU2 hI hD hr
  cases r with
  | nil =>
    have HD2 : Hid (∀ w', Laid w' → Calls Tryz.prog 58 #[.string (s.extract x.pos s.size)] w' fun e w'' => e = .returned (.tuple #[.int .i32 65533, .int .i64 0]) ∧ Below w'.heap.size w' w'') := Lib.hid HD.out
    have HQ2 : Hid (∀ e w', Did W w0 lb fb s (.bool false) x e w' → Post e w') := Lib.hid HQ.out
    clear HQ HD
    go_enter Tryz.func50, Tryz.ntmps50
    go_wp2_with fail
    go_region_held3 (fun w' => w'.cell? ⟨lb, 0, none⟩ = some (.pointer (some ⟨fb, 0, none⟩)) ∧ w'.cell? ⟨lb, 9, none⟩ = some (.int .i64 x.pos) ∧ w'.cell? ⟨fb, 1, none⟩ = some (.string s)) (first | go_keep | exact ⟨by assumption, by assumption, by assumption⟩)
        (first | (go_at_call 58; refine (HD2.out _ (H.out.drewN 1).here).mono ?_; rintro e w2 ⟨rfl, hb⟩; obtain ⟨k0, k9, k1⟩ := ((H.out.drewN 1).keep hb).lex.rd))
    have HC2 := Lib.hid ((H.out.drewN 1).keep hb)
    clear k0 k9 k1 hb
    go_wp2_with fail
    exact HQ2.out _ _ ⟨rfl, HC2.out⟩
  | cons c t =>
    have HD2 : Hid (∀ w', Laid w' → Calls Tryz.prog 58 #[.string (s.extract x.pos s.size)] w' fun e w'' => e = .returned (.tuple #[.int .i32 (dec (c :: t)).1, .int .i64 (dec (c :: t)).2]) ∧ Below w'.heap.size w' w'') := Lib.hid HD.out
    have ha := dec_ascii c t
    have hh := dec_high c t
    have hl := lineCom (c :: t)
    have hcm : comment (c :: t) = if (dec (c :: t)).1 = 35 then lineCom (c :: t) else if (dec (c :: t)).1 = 45 ∧ isAt (c :: t) 1 45 then lineCom (c :: t) else if (dec (c :: t)).1 = 47 ∧ isAt (c :: t) 1 42 then blockCom (c :: t) else .no := by
      have key : ∀ (d : UInt8), d.toNat < 128 → (c = d ↔ (dec (c :: t)).1 = d.toNat) := by
        intro d hd
        constructor
        · intro e; subst e; exact ha hd
        · intro e
          by_cases hc : c.toNat < 128
          · rw [ha hc] at e; exact UInt8.toNat_inj.1 e
          · have := hh hc; omega
      have k1 := key 35 (by decide); have k2 := key 45 (by decide); have k3 := key 47 (by decide)
      unfold comment
      simp only [k1, k2, k3]
      rfl
    rw [hcm] at HQ
    clear ha hh hl hcm HD
    generalize (dec (c :: t)).1 = rn at *
    generalize (dec (c :: t)).2 = wd at *
    generalize c :: t = r at *
    have hline : ∀ w1, Cur W w0 lb fb s x w1 → Calls Tryz.prog 62 #[.pointer (some ⟨lb, 0, none⟩), .string ⟨#[10]⟩, .bool false, .bool np] w1 fun e w' => e = .returned (.bool false) ∧ Cur W w0 lb fb s { x with pos := x.pos + (findEnd [10] r).getD r.length } w' := by
      intro w1 h1
      refine (HU1.out w1 h1).mono ?_
      intro e w' hh
      have hh : match findEnd [10] r with
        | some n => Did W w0 lb fb s (.bool false) { x with pos := x.pos + n } e w'
        | none => if false && !np then Fault W w0 lb fb x.pos e w' else Did W w0 lb fb s (.bool false) { x with pos := s.size } e w' := hh
      cases hf : findEnd [10] r with
      | some n => rw [hf] at hh; exact hh
      | none =>
        rw [hf] at hh
        obtain ⟨e1, e2⟩ : Did W w0 lb fb s (.bool false) { x with pos := s.size } e w' := hh
        refine ⟨e1, ?_⟩
        rw [Option.getD_none, show x.pos + r.length = s.size from by omega]; exact e2
    have hblock : ∀ w1, Cur W w0 lb fb s x w1 → Calls Tryz.prog 62 #[.pointer (some ⟨lb, 0, none⟩), .string ⟨#[42, 47]⟩, .bool true, .bool np] w1 fun e w' => ∃ b, (e = .returned (.bool b) ∧ ((∀ e w', (match blockCom r with
        | .no => Did W w0 lb fb s (.bool false) x e w'
        | .closed n => Did W w0 lb fb s (.bool false) { x with pos := x.pos + n } e w'
        | .open_ => if np then Did W w0 lb fb s (.bool true) { x with pos := s.size } e w' else Fault W w0 lb fb x.pos e w') → Post e w') → Post (.returned (.bool b)) w')) ∨ ∃ c, (e = .panicked c ∧ ((∀ e w', (match blockCom r with
        | .no => Did W w0 lb fb s (.bool false) x e w'
        | .closed n => Did W w0 lb fb s (.bool false) { x with pos := x.pos + n } e w'
        | .open_ => if np then Did W w0 lb fb s (.bool true) { x with pos := s.size } e w' else Fault W w0 lb fb x.pos e w') → Post e w') → Post (.panicked c) w')) := by
      intro w1 h1
      refine (HU2.out w1 h1).mono ?_
      intro e w' hh
      have hh : match findEnd [42, 47] r with
        | some n => Did W w0 lb fb s (.bool false) { x with pos := x.pos + n } e w'
        | none => if true && !np then Fault W w0 lb fb x.pos e w' else Did W w0 lb fb s (.bool true) { x with pos := s.size } e w' := hh
      unfold blockCom
      cases hf : findEnd [42, 47] r with
      | some n =>
        rw [hf] at hh
        obtain ⟨rfl, e2⟩ := hh
        exact ⟨false, .inl ⟨rfl, fun hq => hq _ _ ⟨rfl, e2⟩⟩⟩
      | none =>
        rw [hf] at hh
        cases np with
        | true =>
          obtain ⟨rfl, e2⟩ : Did W w0 lb fb s (.bool true) { x with pos := s.size } e w' := hh
          exact ⟨true, .inl ⟨rfl, fun hq => hq _ _ ⟨rfl, e2⟩⟩⟩
        | false =>
          obtain ⟨EB, rfl, hE⟩ : Fault W w0 lb fb x.pos e w' := hh
          exact ⟨true, .inr ⟨_, rfl, fun hq => hq _ _ ⟨EB, rfl, hE⟩⟩⟩
    have HLINE := Lib.hid hline
    have HBLOCK := Lib.hid hblock
    clear hline hblock HU1 HU2
    go_enter Tryz.func50, Tryz.ntmps50
    go_wp2_with fail
    go_region_held3 (fun w' => w'.cell? ⟨lb, 0, none⟩ = some (.pointer (some ⟨fb, 0, none⟩)) ∧ w'.cell? ⟨lb, 9, none⟩ = some (.int .i64 x.pos) ∧ w'.cell? ⟨fb, 1, none⟩ = some (.string s)) (first | go_keep | exact ⟨by assumption, by assumption, by assumption⟩)
        (first | (go_at_call 58; refine (HD2.out _ (H.out.drewN 1).here).mono ?_; rintro e w2 ⟨rfl, hb⟩; obtain ⟨k0, k9, k1⟩ := ((H.out.drewN 1).keep hb).lex.rd))
    have HC2 := Lib.hid ((H.out.drewN 1).keep hb)
    clear k0 k9 k1 hb
    by_cases h35 : rn = 35
    · have e35 : ((rn : Int) == 35) = true := by rw [beq_iff_eq]; omega
      rw [if_pos h35] at HQ
      clear h35
      go_wp2_with fail
      refine (HLINE.out _ HC2.out).mono ?_
      rintro e w3 ⟨rfl, hC3⟩
      have HC3 := Lib.hid hC3; clear hC3
      go_wp2_with fail
      exact HQ.out _ _ ⟨rfl, HC3.out⟩
    · have e35 : ((rn : Int) == 35) = false := by rw [beq_eq_false_iff_ne]; omega
      rw [if_neg h35] at HQ
      by_cases h45 : rn = 45
      · have e45 : ((rn : Int) == 45) = true := by rw [beq_iff_eq]; omega
        have e47 : ((rn : Int) == 47) = false := by rw [beq_eq_false_iff_ne]; omega
        have h47 : ¬ rn = 47 := by omega
        cases hat : isAt r 1 45 with
        | true =>
          rw [if_pos ⟨h45, hat⟩] at HQ
          have hi := HI.out _ HC2.out 45
          rw [hat] at hi
          have HI2 := Lib.hid hi; clear hi hat h35 h45 h47
          go_wp2_with fail
          refine HI2.out.mono ?_
          rintro e w3 ⟨rfl, hC3⟩
          have HC3 := Lib.hid hC3; clear hC3
          go_wp2_with fail
          refine (HLINE.out _ HC3.out).mono ?_
          rintro e w4 ⟨rfl, hC4⟩
          have HC4 := Lib.hid hC4; clear hC4
          go_wp2_with fail
          exact HQ.out _ _ ⟨rfl, HC4.out⟩
        | false =>
          rw [if_neg (by rw [hat]; simp), if_neg (by omega)] at HQ
          have hi := HI.out _ HC2.out 45
          rw [hat] at hi
          have HI2 := Lib.hid hi; clear hi hat h35 h45 h47
          go_wp2_with fail
          refine HI2.out.mono ?_
          rintro e w3 ⟨rfl, hC3⟩
          have HC3 := Lib.hid hC3; clear hC3
          go_wp2_with fail
          exact HQ.out _ _ ⟨rfl, HC3.out⟩
      · have e45 : ((rn : Int) == 45) = false := by rw [beq_eq_false_iff_ne]; omega
        rw [if_neg (by omega)] at HQ
        by_cases h47 : rn = 47
        · have e47 : ((rn : Int) == 47) = true := by rw [beq_iff_eq]; omega
          cases hat : isAt r 1 42 with
          | true =>
            rw [if_pos ⟨h47, hat⟩] at HQ
            have hi := HI.out _ HC2.out 42
            rw [hat] at hi
            have HI2 := Lib.hid hi; clear hi hat h35 h45 h47
            go_wp2_with fail
            refine HI2.out.mono ?_
            rintro e w3 ⟨rfl, hC3⟩
            have HC3 := Lib.hid hC3; clear hC3
            go_wp2_with fail
            refine (HBLOCK.out _ HC3.out).mono ?_
            rintro e w4 ⟨b, ⟨rfl, hp⟩ | ⟨c, rfl, hp⟩⟩
            · have HP := Lib.hid (hp HQ.out); clear hp
              go_wp2_with fail
              exact HP.out
            · have HP := Lib.hid (hp HQ.out); clear hp
              go_wp2_with fail
              exact ⟨rfl, HP.out⟩
          | false =>
            rw [if_neg (by rw [hat]; simp)] at HQ
            have hi := HI.out _ HC2.out 42
            rw [hat] at hi
            have HI2 := Lib.hid hi; clear hi hat h35 h45 h47
            go_wp2_with fail
            refine HI2.out.mono ?_
            rintro e w3 ⟨rfl, hC3⟩
            have HC3 := Lib.hid hC3; clear hC3
            go_wp2_with fail
            exact HQ.out _ _ ⟨rfl, HC3.out⟩
        · have e47 : ((rn : Int) == 47) = false := by rw [beq_eq_false_iff_ne]; omega
          rw [if_neg (by omega)] at HQ
          clear h35 h45 h47
          go_wp2_with fail
          exact HQ.out _ _ ⟨rfl, HC2.out⟩
end Go.Proofs.YtcelnnjjakiehaaGreatDoor
