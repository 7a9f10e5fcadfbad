/-
  The contract of nextToken.
-/
import Derived.Test.YtcelnnjjakiehaaGreatDoorLead
import Derived.StillTailTactics
import Derived.Deep.RegionHeld3
import Derived.Deep.RegionLaw
namespace Go.Proofs.YtcelnnjjakiehaaGreatDoor
open Go.RowKit
set_option linter.unusedVariables false
set_option linter.unusedSimpArgs false
set_option maxRecDepth 1000000
set_option maxHeartbeats 16000000

/-- the lexer behind a token -/
def LexSt.nextd (x : LexSt) (t : TkF) (dot : Bool) (v : Value) : LexSt := ⟨⟨t.kind.toArray⟩, v, ⟨t.space.toArray⟩, ⟨t.raw.toArray⟩, ⟨t.text.toArray⟩, t.base, t.pos, t.fin, t.fin, x.kind, dot⟩
/-- the lexer ahead of a token: nothing read but comments, at the place p -/
def LexSt.blank (x : LexSt) (v : Value) (p : Nat) : LexSt := ⟨⟨#[]⟩, v, ⟨#[]⟩, ⟨#[]⟩, ⟨#[]⟩, 0, 0, 0, p, x.kind, x.dot⟩
/-- how nextToken ends -/
def NextDid (W w0 : World) (lb fb : Nat) (s : ByteArray) (x : LexSt) (B : Nat) (np : Bool) (rs : NR) (e : Ending) (w' : World) : Prop :=
  if np then ∃ (t : TkF) (dot : Bool) (v : Value), (∀ t' d', rs = .ok t' d' → t = t' ∧ dot = d') ∧ t.fin ≤ s.size ∧ x.pos ≤ t.fin ∧ (x.pos < s.size → x.pos < t.fin) ∧ t.coms.length ≤ s.size + 1 ∧ e = .returned (.tuple #[]) ∧ NAt W w0 lb fb s (x.nextd t dot v) B v t.coms w'
  else match rs with
    | .ok t dot => ∃ v, e = .returned (.tuple #[]) ∧ NAt W w0 lb fb s (x.nextd t dot v) B v t.coms w'
    | .err p _ => Fault W w0 lb fb p e w'
/-- append to a row of the call's own, as one step of a region that draws -/
theorem step_append_Own {P : Program} {ops : Array Oper} {o : Oper} {a : Act} {w : World} {K : Act → World → Prop} {Q : Exit → Act → World → Prop} {E : Prop}
    (hg : o.guard = none) (s x : Operand) (t : TypeId) (hop : o.op = Op.call { callee := Callee.builtin Builtin.append, args := #[s, x], argTypes := #[t, t] })
    (base : Nat) (e : TypeId) (i : TypeInfo) (z : Value) (size bytes : Nat) (h1 : P.underlying t = some (.slice e)) (h2 : P.info? e = some i) (h3 : i.zero = some z) (h4 : i.size = size) (h5 : i.bytes = bytes) (h6 : z.cells.size = size) (h7 : 0 < size)
    (v : Value) (n : Nat) (xs : List Value) (hs : a.eval s = v) (hown : Own w base e size v n xs)
    (ad : Addr) (m c : Nat) (news : List Value) (hx : a.eval x = .slice (some ad) m c) (hl : news.length = m * size) (hnews : ∀ j u, news[j]? = some u → w.cell? (ad.add j) = some u) (h1c : ∀ u ∈ news, u.oneCell' = true)
    (h63 : n + m ≤ maxLen) (hbytes : (n + m) * bytes ≤ 140737488355328) (hbase : base ≤ w.heap.size)
    (hK : ∀ v' w', Own w' base e size v' (n + m) (xs ++ news) → w.grownBy w' v.ownBlock → K (a.put o.dst v') w') :
    if Region.wanted o (yielded ops a.tmps) = true then Oper.wp P o a w K Q else E := by
  have hw : Region.wanted o (yielded ops a.tmps) = true := by simp [Region.wanted, hg]
  rw [if_pos hw]
  obtain ⟨v', w', hrun, r1, r2, _, _⟩ := run_append_Own (P := P) w base t o.type e i z size bytes h1 h2 h3 h4 h5 h6 h7 v n xs hown ad m c news hl hnews h1c h63 hbytes hbase
  unfold Oper.wp
  simp [execOp, hop, resolve, invoke, builtin, hs, hx, hrun, Result.andThen]
  exact hK v' w' r1 r2
/-- append to a row of the call's own, as one operation -/
theorem oper_append_Own {P : Program} {o : Oper} {a : Act} {w : World} {K : Act → World → Prop} {Q : Exit → Act → World → Prop}
    (hg : o.guard = none) (s x : Operand) (t : TypeId) (hop : o.op = Op.call { callee := Callee.builtin Builtin.append, args := #[s, x], argTypes := #[t, t] })
    (base : Nat) (e : TypeId) (i : TypeInfo) (z : Value) (size bytes : Nat) (h1 : P.underlying t = some (.slice e)) (h2 : P.info? e = some i) (h3 : i.zero = some z) (h4 : i.size = size) (h5 : i.bytes = bytes) (h6 : z.cells.size = size) (h7 : 0 < size)
    (v : Value) (n : Nat) (xs : List Value) (hs : a.eval s = v) (hown : Own w base e size v n xs)
    (ad : Addr) (m c : Nat) (news : List Value) (hx : a.eval x = .slice (some ad) m c) (hl : news.length = m * size) (hnews : ∀ j u, news[j]? = some u → w.cell? (ad.add j) = some u) (h1c : ∀ u ∈ news, u.oneCell' = true)
    (h63 : n + m ≤ maxLen) (hbytes : (n + m) * bytes ≤ 140737488355328) (hbase : base ≤ w.heap.size)
    (hK : ∀ v' w', Own w' base e size v' (n + m) (xs ++ news) → w.grownBy w' v.ownBlock → K (a.put o.dst v') w') :
    Oper.wp P o a w K Q := by
  obtain ⟨v', w', hrun, r1, r2, _, _⟩ := run_append_Own (P := P) w base t o.type e i z size bytes h1 h2 h3 h4 h5 h6 h7 v n xs hown ad m c news hl hnews h1c h63 hbytes hbase
  unfold Oper.wp
  simp [execOp, hop, resolve, invoke, builtin, hs, hx, hrun, Result.andThen]
  exact hK v' w' r1 r2
theorem own_shape {w : World} {base : Nat} {e : TypeId} {size : Nat} {v : Value} {n : Nat} {xs : List Value} (h : Own w base e size v (n + 1) xs) : ∃ gb gc, v = .slice (some ⟨gb, 0, none⟩) (n + 1) gc := by
  rcases h.shape with ⟨_, h0, _⟩ | ⟨gb, gc, h0, _⟩
  · omega
  · exact ⟨gb, gc, h0⟩
theorem info_cm : (Tryz.prog.info? 83).map (fun i => (i.zero, i.size, i.bytes)) = some (some (.agg #[.string ⟨#[]⟩, .string ⟨#[]⟩, .int .i64 0, .int .i64 0]), 4, 48) := by kernel_rfl
theorem cell_four_new (w : World) (T : Nat) (a b c d : Value) : ∀ (j : Nat) (u : Value), ([a, b, c, d] : List Value)[j]? = some u → (w.alloc (.cells #[a, b, c, d] T)).cell? ((⟨w.heap.size, 0, none⟩ : Addr).add j) = some u := by
  intro j u h
  have hj : j < 4 := by
    rcases Nat.lt_or_ge j 4 with h' | h'
    · exact h'
    · rw [List.getElem?_eq_none h'] at h; cases h
  have hj4 : j = 0 ∨ j = 1 ∨ j = 2 ∨ j = 3 := by omega
  rcases hj4 with rfl | rfl | rfl | rfl <;> (cases h; exact cell_new w _ _ _ _ rfl)
theorem ReadN.split {W w0 : World} {lb fb : Nat} {s : ByteArray} {x : LexSt} {np : Bool} {rs : Rs} {e : Ending} {w' : World} (h : ReadN W w0 lb fb s x np rs e w') (hp : x.pos ≤ s.size) (hg : np = false → rs.good (s.size - x.pos)) :
    (∃ t, (∀ t', rs = .ok t' → t = t') ∧ (np = false → rs = .ok t) ∧ x.pos + t.len ≤ s.size ∧ (np = true → x.pos < s.size → 0 < t.len) ∧ Did W w0 lb fb s (.tuple #[]) (x.took t) e w') ∨ ∃ p q, np = false ∧ rs = .err p q ∧ Fault W w0 lb fb (x.pos + p) e w' := by
  unfold ReadN at h
  cases np with
  | true =>
    obtain ⟨t, h1, h2, h3, h4⟩ := h
    exact .inl ⟨t, h1, (fun hh => by cases hh), h2, (fun _ => h3), h4⟩
  | false =>
    cases rs with
    | ok t =>
      have h2 : t.len ≤ s.size - x.pos := hg rfl
      exact .inl ⟨t, (fun t' ht => by injection ht), (fun _ => rfl), by omega, (fun hh => by cases hh), h⟩
    | err p q => exact .inr ⟨p, q, rfl, rfl, h⟩
/-- the whole token that a token is, with what stands ahead of it -/
def mkTk (l : List UInt8) (cs : List Cm) (sp : List UInt8) (q : Nat) (t : Tk) : TkF := ⟨t.kind, cs, sp, (l.drop q).take t.len, t.text, t.base, q, q + t.len⟩
theorem NextDid.of_ok {W w0 : World} {lb fb : Nat} {s : ByteArray} {x : LexSt} {B : Nat} {np : Bool} {R : NR} {rs : Rs} {cs : List Cm} {sp : List UInt8} {q : Nat} {dot : Bool} {v : Value} {w' : World}
    (hR : R = match rs with | .ok t => .ok (mkTk s.data.toList cs sp q t) (!dot && t.dot.getD false) | .err a b => .err (q + a) (q + b))
    (hq : x.pos ≤ q) (hqs : q ≤ s.size) (t : Tk) (h1 : ∀ t', rs = .ok t' → t = t') (h2 : np = false → rs = .ok t) (h3 : q + t.len ≤ s.size) (h4 : np = true → q < s.size → 0 < t.len) (hcl : cs.length ≤ s.size + 1)
    (hN : NAt W w0 lb fb s (x.nextd (mkTk s.data.toList cs sp q t) (!dot && t.dot.getD false) v) B v cs w') : NextDid W w0 lb fb s x B np R (.returned (.tuple #[])) w' := by
  unfold NextDid
  cases np with
  | true =>
    refine ⟨mkTk s.data.toList cs sp q t, (!dot && t.dot.getD false), v, ?_, h3, by show x.pos ≤ q + t.len; omega, ?_, hcl, rfl, hN⟩
    · intro t' d' hh
      cases rs with
      | ok t2 =>
        have := h1 t2 rfl
        subst this
        rw [hR] at hh
        injection hh with e1 e2
        exact ⟨e1, e2⟩
      | err a b => rw [hR] at hh; cases hh
    · intro hh
      show x.pos < q + t.len
      have := h4 rfl
      omega
  | false =>
    rw [h2 rfl] at hR
    rw [hR]
    exact ⟨v, rfl, hN⟩
theorem nextToken_any {W w : World} {lb fb : Nat} {s : ByteArray} {x : LexSt} (h : Cur W w lb fb s x w) (np : Bool) (hm : Mode np s) (hg : np = false → (next s.data.toList x.kind.data.toList x.dot x.pos).good s.size) :
    Calls Tryz.prog 43 #[.pointer (some ⟨lb, 0, none⟩), .bool np] w (NextDid W w lb fb s x w.heap.size np (next s.data.toList x.kind.data.toList x.dot x.pos)) := by
  have hpos := h.pos
  have hsz := h.sz
  obtain ⟨c0, c9, c1⟩ := h.lex.rd
  have k1 := (h.lex.cell 1).1; have f1 := (h.lex.cell 1).2
  have k2 := (h.lex.cell 2).1; have f2 := (h.lex.cell 2).2
  have k3 := (h.lex.cell 3).1; have f3 := (h.lex.cell 3).2
  have k4 := (h.lex.cell 4).1; have f4 := (h.lex.cell 4).2
  have k5 := (h.lex.cell 5).1; have f5 := (h.lex.cell 5).2
  have k6 := (h.lex.cell 6).1; have f6 := (h.lex.cell 6).2
  have k7 := (h.lex.cell 7).1; have f7 := (h.lex.cell 7).2
  have k8 := (h.lex.cell 8).1; have f8 := (h.lex.cell 8).2
  have k10 := (h.lex.cell 10).1; have f10 := (h.lex.cell 10).2
  simp only [LexSt.cells, List.getElem?_toArray, List.getElem?_cons_succ, List.getElem?_cons_zero] at k1 k2 k3 k4 k5 k6 k7 k8 k10
  have HC := Lib.hid h
  clear h
  go_enter Tryz.func43, Tryz.ntmps43
  go_wp2_with fail
  have hC1 : Cur W w lb fb s (x.blank (.slice none 0 0) x.pos) (((((((((w.setCell ⟨lb, 10, none⟩ (.string x.kind)).setCell ⟨lb, 1, none⟩ (.string ⟨#[]⟩)).setCell ⟨lb, 2, none⟩ (.slice none 0 0)).setCell ⟨lb, 3, none⟩ (.string ⟨#[]⟩)).setCell ⟨lb, 4, none⟩ (.string ⟨#[]⟩)).setCell ⟨lb, 5, none⟩ (.string ⟨#[]⟩)).setCell ⟨lb, 6, none⟩ (.int .i64 0)).setCell ⟨lb, 7, none⟩ (.int .i64 0)).setCell ⟨lb, 8, none⟩ (.int .i64 0)) := (((((((((HC.out.set 10 (.string x.kind) ({ x with last := x.kind }) rfl hpos).set 1 (.string ⟨#[]⟩) ({ x with last := x.kind, kind := ⟨#[]⟩ }) rfl hpos).set 2 (.slice none 0 0) ({ x with last := x.kind, kind := ⟨#[]⟩, coms := .slice none 0 0 }) rfl hpos).set 3 (.string ⟨#[]⟩) ({ x with last := x.kind, kind := ⟨#[]⟩, coms := .slice none 0 0, space := ⟨#[]⟩ }) rfl hpos).set 4 (.string ⟨#[]⟩) ({ x with last := x.kind, kind := ⟨#[]⟩, coms := .slice none 0 0, space := ⟨#[]⟩, raw := ⟨#[]⟩ }) rfl hpos).set 5 (.string ⟨#[]⟩) ({ x with last := x.kind, kind := ⟨#[]⟩, coms := .slice none 0 0, space := ⟨#[]⟩, raw := ⟨#[]⟩, text := ⟨#[]⟩ }) rfl hpos).set 6 (.int .i64 0) ({ x with last := x.kind, kind := ⟨#[]⟩, coms := .slice none 0 0, space := ⟨#[]⟩, raw := ⟨#[]⟩, text := ⟨#[]⟩, base := 0 }) rfl hpos).set 7 (.int .i64 0) ({ x with last := x.kind, kind := ⟨#[]⟩, coms := .slice none 0 0, space := ⟨#[]⟩, raw := ⟨#[]⟩, text := ⟨#[]⟩, base := 0, tpos := 0 }) rfl hpos).set 8 (.int .i64 0) (x.blank (.slice none 0 0) x.pos) rfl hpos)
  change Code.wp _ _ _ _ (((((((((w.setCell ⟨lb, 10, none⟩ (.string x.kind)).setCell ⟨lb, 1, none⟩ (.string ⟨#[]⟩)).setCell ⟨lb, 2, none⟩ (.slice none 0 0)).setCell ⟨lb, 3, none⟩ (.string ⟨#[]⟩)).setCell ⟨lb, 4, none⟩ (.string ⟨#[]⟩)).setCell ⟨lb, 5, none⟩ (.string ⟨#[]⟩)).setCell ⟨lb, 6, none⟩ (.int .i64 0)).setCell ⟨lb, 7, none⟩ (.int .i64 0)).setCell ⟨lb, 8, none⟩ (.int .i64 0))
  have hB1 : w.heap.size ≤ (((((((((w.setCell ⟨lb, 10, none⟩ (.string x.kind)).setCell ⟨lb, 1, none⟩ (.string ⟨#[]⟩)).setCell ⟨lb, 2, none⟩ (.slice none 0 0)).setCell ⟨lb, 3, none⟩ (.string ⟨#[]⟩)).setCell ⟨lb, 4, none⟩ (.string ⟨#[]⟩)).setCell ⟨lb, 5, none⟩ (.string ⟨#[]⟩)).setCell ⟨lb, 6, none⟩ (.int .i64 0)).setCell ⟨lb, 7, none⟩ (.int .i64 0)).setCell ⟨lb, 8, none⟩ (.int .i64 0)).heap.size := hC1.grow.size
  have hlt := HC.out.lex.lt
  have hN0 : NAt W w lb fb s (x.blank (.slice none 0 0) x.pos) w.heap.size (.slice none 0 0) [] (((((((((w.setCell ⟨lb, 10, none⟩ (.string x.kind)).setCell ⟨lb, 1, none⟩ (.string ⟨#[]⟩)).setCell ⟨lb, 2, none⟩ (.slice none 0 0)).setCell ⟨lb, 3, none⟩ (.string ⟨#[]⟩)).setCell ⟨lb, 4, none⟩ (.string ⟨#[]⟩)).setCell ⟨lb, 5, none⟩ (.string ⟨#[]⟩)).setCell ⟨lb, 6, none⟩ (.int .i64 0)).setCell ⟨lb, 7, none⟩ (.int .i64 0)).setCell ⟨lb, 8, none⟩ (.int .i64 0)) := ⟨hC1, Own.nil _ _ _ _, hlt.1, hlt.2, hB1, Nat.le_refl _⟩
  clear hC1 hB1 hlt
  generalize (((((((((w.setCell ⟨lb, 10, none⟩ (.string x.kind)).setCell ⟨lb, 1, none⟩ (.string ⟨#[]⟩)).setCell ⟨lb, 2, none⟩ (.slice none 0 0)).setCell ⟨lb, 3, none⟩ (.string ⟨#[]⟩)).setCell ⟨lb, 4, none⟩ (.string ⟨#[]⟩)).setCell ⟨lb, 5, none⟩ (.string ⟨#[]⟩)).setCell ⟨lb, 6, none⟩ (.int .i64 0)).setCell ⟨lb, 7, none⟩ (.int .i64 0)).setCell ⟨lb, 8, none⟩ (.int .i64 0)) = w1 at *
  have HN0 := Lib.hid hN0
  clear hN0 HC c0 c9 c1 k1 f1 k2 f2 k3 f3 k4 f4 k5 f5 k6 f6 k7 f7 k8 f8 k10 f10
  generalize w.heap.size = B at *
  generalize hR : next s.data.toList x.kind.data.toList x.dot x.pos = R at *
  have HR := Lib.hid hR; have HG := Lib.hid hg
  clear hR hg
  go_loopg [] (s.size - x.pos) (fun g wx => ∃ (v : Value) (cs : List Cm) (p : Nat), NAt W w lb fb s (x.blank v p) B v cs wx ∧ g = s.size - p ∧ x.pos ≤ p ∧ p ≤ s.size ∧ cs.length ≤ p ∧ lead x.pos (s.data.toList.drop x.pos) [] = lead p (s.data.toList.drop p) cs)
  case atStart => exact ⟨_, [], x.pos, HN0.out, rfl, Nat.le_refl _, hpos, Nat.zero_le _, rfl⟩
  case round =>
    obtain ⟨v, cs, p, hN, rfl, hxp, hps, hcl, hlead⟩ := hrel
    have HN := Lib.hid hN; have HL := Lib.hid hlead
    clear hN hlead HN0
    have hrl : (s.data.toList.drop p).length = s.size - p := HN.out.cur.len
    have hkl := spLen_le (s.data.toList.drop p)
    have HSP : Hid (∀ w1, NAt W w lb fb s (x.blank v p) B v cs w1 → Calls Tryz.prog 49 #[.pointer (some ⟨lb, 0, none⟩)] w1 fun e w' => e = .returned (.tuple #[]) ∧ NAt W w lb fb s (x.blank v (p + spLen (s.data.toList.drop p))) B v cs w') := Lib.hid (fun w1 h1 => (skipSpaces_any h1.cur.own).mono fun e w' hh => ⟨hh.1, h1.turn hh.2⟩)
    have hex : s.extract p (p + spLen (s.data.toList.drop p)) = ⟨((s.data.toList.drop p).take (spLen (s.data.toList.drop p))).toArray⟩ := by
      apply ba_ext
      have h3 := sub_drop s.data.toList p 0 (spLen (s.data.toList.drop p))
      rw [sub_data, show sub s.data.toList p (p + spLen (s.data.toList.drop p)) = sub s.data.toList (p + 0) (p + spLen (s.data.toList.drop p)) from rfl, h3]
      unfold sub; simp
    obtain ⟨c0, c9, c1⟩ := HN.out.cur.lex.rd
    change wr.cell? ⟨lb, 9, none⟩ = some (.int .i64 (p : Int)) at c9
    go_wp2_with fail
    refine (HSP.out _ HN.out).mono ?_
    rintro e w2 ⟨rfl, hN1⟩
    clear HN c0 c9 c1 HSP
    have HN := Lib.hid hN1; clear hN1
    obtain ⟨c0, c9, c1⟩ := HN.out.cur.lex.rd
    have hsv : (s.data.toList.drop p).drop (spLen (s.data.toList.drop p)) = s.data.toList.drop (p + spLen (s.data.toList.drop p)) := by rw [List.drop_drop]
    have hn1 := lead_no p (s.data.toList.drop p) cs
    have hn2 := lead_open p (s.data.toList.drop p) cs
    have hn3 := lead_closed p (s.data.toList.drop p) cs
    rw [hsv] at hn1 hn2 hn3
    have hd2 : ∀ n, (s.data.toList.drop p).drop (spLen (s.data.toList.drop p) + n) = s.data.toList.drop (p + spLen (s.data.toList.drop p) + n) := fun n => by rw [List.drop_drop, Nat.add_assoc]
    simp only [hd2] at hn3
    obtain ⟨q, hq⟩ : ∃ q, p + spLen (s.data.toList.drop p) = q := ⟨_, rfl⟩
    rw [hq] at HN hex hn1 hn2 hn3
    change w2.cell? ⟨lb, 9, none⟩ = some (.int .i64 ((p + spLen (s.data.toList.drop p) : Nat) : Int)) at c9
    rw [hq] at c9
    clear hsv hd2
    have hpq : p ≤ q := by omega
    have hqs : q ≤ s.size := by omega
    clear hq hkl
    generalize (s.data.toList.drop p).take (spLen (s.data.toList.drop p)) = sp at *
    have H1 := Lib.hid hn1; have H2 := Lib.hid hn2; have H3 := Lib.hid hn3
    clear hn1 hn2 hn3 hrl
    have hpqI : (p : Int) ≤ (q : Int) := by omega
    have hqsI : (q : Int) ≤ (s.size : Int) := by omega
    have hqrl : (s.data.toList.drop q).length = s.size - q := HN.out.cur.len
    have HCM : Hid (∀ w1, NAt W w lb fb s (x.blank v q) B v cs w1 → Calls Tryz.prog 50 #[.pointer (some ⟨lb, 0, none⟩), .bool np] w1 (ComDid W w1 lb fb s (x.blank v q) np)) := Lib.hid (fun w1 h1 => skipComment_any h1.cur.own np)
    go_wp2_with fail
    go_quiet (fail)
    go_wp2_with fail
    have hcd := HCM.out (w2.drewN nq) (HN.out.drewN nq)
    have HND := Lib.hid (HN.out.drewN nq)
    clear HCM HN c0 c9 c1
    generalize w2.drewN nq = w3 at *
    unfold ComDid at hcd
    have hcd : Calls Tryz.prog 50 #[.pointer (some ⟨lb, 0, none⟩), .bool np] w3 (fun e w' => match comment (s.data.toList.drop q) with
      | .no => Did W w3 lb fb s (.bool false) (x.blank v q) e w'
      | .closed n => Did W w3 lb fb s (.bool false) (x.blank v (q + n)) e w'
      | .open_ => if np then Did W w3 lb fb s (.bool true) (x.blank v s.size) e w' else Fault W w3 lb fb q e w') := hcd
    cases hcm : comment (s.data.toList.drop q) with
    | no =>
      rw [hcm] at hcd
      have hlq := HL.out.trans (H1.out hcm)
      have hRq : R = match anyTok x.dot x.kind.data.toList (s.data.toList.drop q) with | .ok t => .ok (mkTk s.data.toList cs sp q t) (!x.dot && t.dot.getD false) | .err a b => .err (q + a) (q + b) := by
        rw [← HR.out]
        unfold next
        rw [hlq]
        cases hh : anyTok x.dot x.kind.data.toList (s.data.toList.drop q) with
        | ok t => simp only [hh]; rfl
        | err a b => simp only [hh]
      have hgq : np = false → (anyTok x.dot x.kind.data.toList (s.data.toList.drop q)).good (s.data.toList.drop q).length := by
        intro hnp
        have h2 := HG.out hnp
        rw [hRq] at h2
        rw [hqrl]
        cases hh : anyTok x.dot x.kind.data.toList (s.data.toList.drop q) with
        | ok t => rw [hh] at h2; have h2 : q + t.len ≤ s.size := h2; show t.len ≤ s.size - q; omega
        | err a b => rw [hh] at h2; have h2 : q + a ≤ q + b ∧ q + b ≤ s.size := h2; show a ≤ b ∧ b ≤ s.size - q; omega
      have hcd : Calls Tryz.prog 50 #[.pointer (some ⟨lb, 0, none⟩), .bool np] w3 (fun e w' => e = .returned (.bool false) ∧ NAt W w lb fb s (x.blank v q) B v cs w') := hcd.mono fun e w' hh => ⟨hh.1, HND.out.turn hh.2⟩
      have HCD := Lib.hid hcd; have HRQ := Lib.hid hRq; have HGQ := Lib.hid hgq
      clear hcd hcm HND H1 H2 H3 HL hlq hRq hgq HR HG
      refine HCD.out.mono ?_
      rintro e w4 ⟨rfl, hN1⟩
      have HN := Lib.hid hN1; clear hN1 HCD
      obtain ⟨c0, c9, c1⟩ := HN.out.cur.lex.rd
      change w4.cell? ⟨lb, 9, none⟩ = some (.int .i64 (q : Int)) at c9
      have k3 := (HN.out.cur.lex.cell 3).1; have f3 := (HN.out.cur.lex.cell 3).2
      have k7 := (HN.out.cur.lex.cell 7).1; have f7 := (HN.out.cur.lex.cell 7).2
      have k11 := (HN.out.cur.lex.cell 11).1; have f11 := (HN.out.cur.lex.cell 11).2
      simp only [LexSt.cells, LexSt.blank, List.getElem?_toArray, List.getElem?_cons_succ, List.getElem?_cons_zero] at k3 k7 k11
      cases hdot : x.dot with
      | true =>
        rw [hdot] at k11 HRQ HGQ
        go_wp2_with fail
        have hN1 := (HN.out.set 3 (.string ⟨sp.toArray⟩) { x.blank v q with space := ⟨sp.toArray⟩ } rfl hqs).set 7 (.int .i64 (q : Int)) { x.blank v q with space := ⟨sp.toArray⟩, tpos := (q : Int) } rfl hqs
        clear HN c0 c9 c1 k3 f3 k7 f7 k11 f11
        generalize ((w4.setCell ⟨lb, 3, none⟩ (.string ⟨sp.toArray⟩)).setCell ⟨lb, 7, none⟩ (.int .i64 (q : Int))) = w5 at *
        have HN := Lib.hid hN1; clear hN1
        have HG5 := Lib.hid HN.out.cur.grow
        refine (consumeField_any HN.out.cur.own np hm (r := s.data.toList.drop q) ⟨rfl, rfl⟩ rfl HGQ.out).mono ?_
        intro e w6 hrd
        rcases hrd.split hqs (fun hnp => by have := HGQ.out hnp; rw [hqrl] at this; exact this) with ⟨t, h1, h2, h3, h4, rfl, hC6⟩ | ⟨a, b, hnp, herr, EB, rfl, hE⟩
        · have hN6 := HN.out.turn hC6
          have h3 : q + t.len ≤ s.size := h3
          have h4 : np = true → q < s.size → 0 < t.len := h4
          have H1 := Lib.hid h1; have H2 := Lib.hid h2; have H4 := Lib.hid h4
          clear h1 h2 h4 hrd hC6 HN
          have HN := Lib.hid hN6; clear hN6
          have hex2 : s.extract q (q + t.len) = ⟨((s.data.toList.drop q).take t.len).toArray⟩ := by
            apply ba_ext
            have h5 := sub_drop s.data.toList q 0 t.len
            rw [sub_data, show sub s.data.toList q (q + t.len) = sub s.data.toList (q + 0) (q + t.len) from rfl, h5]
            unfold sub; simp
          have hex3 : ∀ u, u = q + t.len → s.extract q u = ⟨((s.data.toList.drop q).take t.len).toArray⟩ := fun u hu => by rw [hu]; exact hex2
          obtain ⟨u, hu⟩ : ∃ u, q + t.len = u := ⟨_, rfl⟩
          have hex4 := hex3 u hu.symm
          clear hex2 hex3 hex
          have hquI : (q : Int) ≤ (u : Int) := by omega
          have huI : (u : Int) ≤ (s.size : Int) := by omega
          have k11 := (HN.out.cur.lex.cell 11).1; have f11 := (HN.out.cur.lex.cell 11).2
          simp only [LexSt.cells, LexSt.took, LexSt.blank, List.getElem?_toArray, List.getElem?_cons_succ, List.getElem?_cons_zero] at k11
          go_wp2_with fail
          have hN7 := HN.out.set 11 (.bool false) { x.blank v q with space := ⟨sp.toArray⟩, tpos := (q : Int), kind := ⟨t.kind.toArray⟩, text := ⟨t.text.toArray⟩, base := t.base, pos := q + t.len, dot := false } rfl h3
          change Code.wp _ _ _ _ (w6.setCell ⟨lb, 11, none⟩ (.bool false))
          clear HN k11 f11
          generalize w6.setCell ⟨lb, 11, none⟩ (.bool false) = w7 at *
          have HN := Lib.hid hN7; clear hN7
          obtain ⟨c0, c9, c1⟩ := HN.out.cur.lex.rd
          change w7.cell? ⟨lb, 9, none⟩ = some (.int .i64 ((q + t.len : Nat) : Int)) at c9
          rw [hu] at c9
          go_still_tail 17, (by kernel_rfl)
          clear c0 c9 c1
          change wpList _ _ _ _ _ (w7.drewN 1)
          have HN2 := Lib.hid (HN.out.drewN 1)
          clear HN; have HN := HN2; clear HN2
          generalize w7.drewN 1 = w8 at *
          obtain ⟨c0, c9, c1⟩ := HN.out.cur.lex.rd
          change w8.cell? ⟨lb, 9, none⟩ = some (.int .i64 ((q + t.len : Nat) : Int)) at c9
          rw [hu] at c9
          have k4 := (HN.out.cur.lex.cell 4).1; have f4 := (HN.out.cur.lex.cell 4).2
          have k8 := (HN.out.cur.lex.cell 8).1; have f8 := (HN.out.cur.lex.cell 8).2
          simp only [LexSt.cells, LexSt.blank, List.getElem?_toArray, List.getElem?_cons_succ, List.getElem?_cons_zero] at k4 k8
          have hne := HN.out.cur.lex.ne
          go_wp2_with fail
          go_end0
          refine NextDid.of_ok (rs := anyTok true x.kind.data.toList (s.data.toList.drop q)) (v := v) HRQ.out (by omega) hqs t H1.out H2.out h3 H4.out (by omega) ?_
          have hf := (HN.out.set 4 (.string ⟨((s.data.toList.drop q).take t.len).toArray⟩) { x.blank v q with space := ⟨sp.toArray⟩, tpos := (q : Int), kind := ⟨t.kind.toArray⟩, text := ⟨t.text.toArray⟩, base := t.base, pos := q + t.len, dot := false, raw := ⟨((s.data.toList.drop q).take t.len).toArray⟩ } rfl h3).set 8 (.int .i64 ((q + t.len : Nat) : Int)) { x.blank v q with space := ⟨sp.toArray⟩, tpos := (q : Int), kind := ⟨t.kind.toArray⟩, text := ⟨t.text.toArray⟩, base := t.base, pos := q + t.len, dot := false, raw := ⟨((s.data.toList.drop q).take t.len).toArray⟩, tend := ((q + t.len : Nat) : Int) } rfl h3
          rw [hu] at hf
          unfold mkTk
          rw [hu]
          exact hf
        · have HE := Lib.hid hE; clear hE hrd
          go_wp2_with fail
          refine ⟨rfl, ?_⟩
          have hR := HRQ.out
          have herr : anyTok true x.kind.data.toList (s.data.toList.drop q) = .err a b := herr
          rw [herr] at hR
          rw [hR]
          subst hnp
          exact Fault.from ⟨EB, rfl, HE.out⟩ HG5.out
      | false =>
        rw [hdot] at k11 HRQ HGQ
        go_wp2_with fail
        have hN1 := (HN.out.set 3 (.string ⟨sp.toArray⟩) { x.blank v q with space := ⟨sp.toArray⟩ } rfl hqs).set 7 (.int .i64 (q : Int)) { x.blank v q with space := ⟨sp.toArray⟩, tpos := (q : Int) } rfl hqs
        clear HN c0 c9 c1 k3 f3 k7 f7 k11 f11
        generalize ((w4.setCell ⟨lb, 3, none⟩ (.string ⟨sp.toArray⟩)).setCell ⟨lb, 7, none⟩ (.int .i64 (q : Int))) = w5 at *
        have HN := Lib.hid hN1; clear hN1
        have HG5 := Lib.hid HN.out.cur.grow
        refine (consumeToken_any HN.out.cur.own np hm (r := s.data.toList.drop q) ⟨rfl, rfl⟩ rfl HGQ.out).mono ?_
        intro e w6 hrd
        rcases hrd.split hqs (fun hnp => by have := HGQ.out hnp; rw [hqrl] at this; exact this) with ⟨t, h1, h2, h3, h4, rfl, hC6⟩ | ⟨a, b, hnp, herr, EB, rfl, hE⟩
        · have hN6 := HN.out.turn hC6
          have h3 : q + t.len ≤ s.size := h3
          have h4 : np = true → q < s.size → 0 < t.len := h4
          have H1 := Lib.hid h1; have H2 := Lib.hid h2; have H4 := Lib.hid h4
          clear h1 h2 h4 hrd hC6 HN
          have HN := Lib.hid hN6; clear hN6
          have hex2 : s.extract q (q + t.len) = ⟨((s.data.toList.drop q).take t.len).toArray⟩ := by
            apply ba_ext
            have h5 := sub_drop s.data.toList q 0 t.len
            rw [sub_data, show sub s.data.toList q (q + t.len) = sub s.data.toList (q + 0) (q + t.len) from rfl, h5]
            unfold sub; simp
          have hex3 : ∀ u, u = q + t.len → s.extract q u = ⟨((s.data.toList.drop q).take t.len).toArray⟩ := fun u hu => by rw [hu]; exact hex2
          obtain ⟨u, hu⟩ : ∃ u, q + t.len = u := ⟨_, rfl⟩
          have hex4 := hex3 u hu.symm
          clear hex2 hex3 hex
          have hquI : (q : Int) ≤ (u : Int) := by omega
          have huI : (u : Int) ≤ (s.size : Int) := by omega
          go_wp2_with fail
          have hN7 : NAt W w lb fb s { x.blank v q with space := ⟨sp.toArray⟩, tpos := (q : Int), kind := ⟨t.kind.toArray⟩, text := ⟨t.text.toArray⟩, base := t.base, pos := q + t.len, dot := t.dot.getD false } B v cs w6 := by
            have := HN.out
            unfold LexSt.took LexSt.blank at this
            unfold LexSt.blank
            rw [hdot] at this ⊢
            exact this
          clear HN
          generalize w6 = w7 at *
          have HN := Lib.hid hN7; clear hN7
          obtain ⟨c0, c9, c1⟩ := HN.out.cur.lex.rd
          change w7.cell? ⟨lb, 9, none⟩ = some (.int .i64 ((q + t.len : Nat) : Int)) at c9
          rw [hu] at c9
          go_still_tail 17, (by kernel_rfl)
          clear c0 c9 c1
          change wpList _ _ _ _ _ (w7.drewN 1)
          have HN2 := Lib.hid (HN.out.drewN 1)
          clear HN; have HN := HN2; clear HN2
          generalize w7.drewN 1 = w8 at *
          obtain ⟨c0, c9, c1⟩ := HN.out.cur.lex.rd
          change w8.cell? ⟨lb, 9, none⟩ = some (.int .i64 ((q + t.len : Nat) : Int)) at c9
          rw [hu] at c9
          have k4 := (HN.out.cur.lex.cell 4).1; have f4 := (HN.out.cur.lex.cell 4).2
          have k8 := (HN.out.cur.lex.cell 8).1; have f8 := (HN.out.cur.lex.cell 8).2
          simp only [LexSt.cells, LexSt.blank, List.getElem?_toArray, List.getElem?_cons_succ, List.getElem?_cons_zero] at k4 k8
          have hne := HN.out.cur.lex.ne
          go_wp2_with fail
          go_end0
          refine NextDid.of_ok (rs := anyTok false x.kind.data.toList (s.data.toList.drop q)) (v := v) HRQ.out (by omega) hqs t H1.out H2.out h3 H4.out (by omega) ?_
          have hf := (HN.out.set 4 (.string ⟨((s.data.toList.drop q).take t.len).toArray⟩) { x.blank v q with space := ⟨sp.toArray⟩, tpos := (q : Int), kind := ⟨t.kind.toArray⟩, text := ⟨t.text.toArray⟩, base := t.base, pos := q + t.len, dot := (t.dot.getD false), raw := ⟨((s.data.toList.drop q).take t.len).toArray⟩ } rfl h3).set 8 (.int .i64 ((q + t.len : Nat) : Int)) { x.blank v q with space := ⟨sp.toArray⟩, tpos := (q : Int), kind := ⟨t.kind.toArray⟩, text := ⟨t.text.toArray⟩, base := t.base, pos := q + t.len, dot := (t.dot.getD false), raw := ⟨((s.data.toList.drop q).take t.len).toArray⟩, tend := ((q + t.len : Nat) : Int) } rfl h3
          rw [hu] at hf
          unfold mkTk
          rw [hu]
          exact hf
        · have HE := Lib.hid hE; clear hE hrd
          go_wp2_with fail
          refine ⟨rfl, ?_⟩
          have hR := HRQ.out
          have herr : anyTok false x.kind.data.toList (s.data.toList.drop q) = .err a b := herr
          rw [herr] at hR
          rw [hR]
          subst hnp
          exact Fault.from ⟨EB, rfl, HE.out⟩ HG5.out
    | closed n =>
      rw [hcm] at hcd
      have hcl2 := comment_le _ _ hcm
      rw [hqrl] at hcl2
      have hlq := HL.out.trans (H3.out n hcm)
      have hcd : Calls Tryz.prog 50 #[.pointer (some ⟨lb, 0, none⟩), .bool np] w3 (fun e w' => e = .returned (.bool false) ∧ NAt W w lb fb s (x.blank v (q + n)) B v cs w') := hcd.mono fun e w' hh => ⟨hh.1, HND.out.turn hh.2⟩
      have HCD := Lib.hid hcd; have HLQ := Lib.hid hlq
      clear hcd hcm HND H1 H2 H3 HL hlq HR HG hex
      have hraw : ((s.data.toList.drop q).take n).length = n := by rw [List.length_take, hqrl]; omega
      have hex2 : s.extract q (q + n) = ⟨((s.data.toList.drop q).take n).toArray⟩ := by
        apply ba_ext
        have h5 := sub_drop s.data.toList q 0 n
        rw [sub_data, show sub s.data.toList q (q + n) = sub s.data.toList (q + 0) (q + n) from rfl, h5]
        unfold sub; simp
      refine HCD.out.mono ?_
      rintro e w4 ⟨rfl, hN1⟩
      clear HCD
      generalize hrv : (s.data.toList.drop q).take n = rv at *
      obtain ⟨u, hu⟩ : ∃ u, q + n = u := ⟨_, rfl⟩
      rw [hu] at hN1 hex2 HLQ
      have HN := Lib.hid hN1; clear hN1 hrv
      have hbe : ((u : Int) == (q : Int)) = false := by rw [beq_eq_false_iff_ne]; omega
      have hquI : (q : Int) ≤ (u : Int) := by omega
      have huI : (u : Int) ≤ (s.size : Int) := by omega
      obtain ⟨c0, c9, c1⟩ := HN.out.cur.lex.rd
      change w4.cell? ⟨lb, 9, none⟩ = some (.int .i64 (u : Int)) at c9
      go_wp2_with fail
      have k2 := (HN.out.cur.lex.cell 2).1; have f2 := (HN.out.cur.lex.cell 2).2
      simp only [LexSt.cells, LexSt.blank, List.getElem?_toArray, List.getElem?_cons_succ, List.getElem?_cons_zero] at k2
      have hcme : cmCells [⟨sp, rv, q⟩] = [.string ⟨sp.toArray⟩, .string ⟨rv.toArray⟩, .int .i64 (q : Int), .int .i64 (u : Int)] := by
        show [Value.string ⟨sp.toArray⟩, .string ⟨rv.toArray⟩, .int .i64 (q : Int), .int .i64 ((q + rv.length : Nat) : Int)] ++ [] = _
        rw [show rv.length = n from hraw, hu]; rfl
      have hne := HN.out.cur.lex.ne
      have hN5 := HN.out.drewN 1
      have hown := hN5.own
      have hB : B ≤ w4.heap.size := HN.out.hB
      have hlbw := hN5.cur.lex.lt.1
      have hfbw := hN5.cur.lex.lt.2
      have hlbB := hN5.lbB
      have hk2b : ∀ o, (w4.alloc o).cell? ⟨lb, 2, none⟩ = some v := fun o => by rw [World.cell?_alloc_old _ _ _ (Nat.ne_of_lt hlbw)]; exact k2
      have hk2a : ∀ o, (w4.alloc o).drew.cell? ⟨lb, 2, none⟩ = some v := hk2b
      have hfbB := hN5.fbB
      obtain ⟨i0, hinf, hz0, hz1, hz2⟩ := info_parts info_cm
      have hclen : cs.length ≤ 1048576 := by omega
      refine wp_region_noPanic ?_
      refine wp_region_held_drew (S := fun w' => w'.cell? ⟨lb, 0, none⟩ = some (.pointer (some ⟨fb, 0, none⟩)) ∧ w'.cell? ⟨lb, 9, none⟩ = some (.int .i64 (u : Int)) ∧ w'.cell? ⟨fb, 1, none⟩ = some (.string s)) (by kernel_rfl) ⟨c0, c9, c1⟩ (fun hHeld => ?_)
      refine wpAnyH_take (i := 0) (v := ?_) rfl (by kernel_rfl) (by kernel_rfl) (by kernel_rfl) (fun _ _ _ h => h) (Or.inl ⟨by rfl, ?_⟩) (by assumption) ?_
      rotate_left
      · intro wq hSw
        try dsimp only at hSw
        go_simp
        with_reducible rfl
      try simp only [Act.put, List.getElem_toArray, List.getElem_cons_succ, List.getElem_cons_zero, List.setIfInBounds_toArray, List.set_cons_zero, List.set_cons_succ]
      refine wpAnyH_take (i := 1) (v := ?_) rfl (by kernel_rfl) (by kernel_rfl) (by kernel_rfl) (fun _ _ _ h => h) (Or.inl ⟨by rfl, ?_⟩) (by assumption) ?_
      rotate_left
      · intro wq hSw
        try dsimp only at hSw
        go_simp
        with_reducible rfl
      try simp only [Act.put, List.getElem_toArray, List.getElem_cons_succ, List.getElem_cons_zero, List.setIfInBounds_toArray, List.set_cons_zero, List.set_cons_succ]
      refine wpAnyH_take (i := 2) (v := ?_) rfl (by kernel_rfl) (by kernel_rfl) (by kernel_rfl) (fun _ _ _ h => h) (Or.inl ⟨by rfl, ?_⟩) (by assumption) ?_
      rotate_left
      · intro wq hSw
        try dsimp only at hSw
        go_simp
        with_reducible rfl
      try simp only [Act.put, List.getElem_toArray, List.getElem_cons_succ, List.getElem_cons_zero, List.setIfInBounds_toArray, List.set_cons_zero, List.set_cons_succ]
      refine wpAnyH_take (i := 3) (v := ?_) rfl (by kernel_rfl) (by kernel_rfl) (by kernel_rfl) (fun _ _ _ h => h) (Or.inl ⟨by rfl, ?_⟩) (by assumption) ?_
      rotate_left
      · intro wq hSw
        try dsimp only at hSw
        go_simp
        with_reducible rfl
      try simp only [Act.put, List.getElem_toArray, List.getElem_cons_succ, List.getElem_cons_zero, List.setIfInBounds_toArray, List.set_cons_zero, List.set_cons_succ]
      refine wpAnyH_take (i := 4) (v := ?_) rfl (by kernel_rfl) (by kernel_rfl) (by kernel_rfl) (fun _ _ _ h => h) (Or.inl ⟨by rfl, ?_⟩) (by assumption) ?_
      rotate_left
      · intro wq hSw
        try dsimp only at hSw
        go_simp
        with_reducible rfl
      try simp only [Act.put, List.getElem_toArray, List.getElem_cons_succ, List.getElem_cons_zero, List.setIfInBounds_toArray, List.set_cons_zero, List.set_cons_succ]
      refine wpAnyH_take (i := 6) (v := ?_) rfl (by kernel_rfl) (by kernel_rfl) (by kernel_rfl) (fun _ _ _ h => h) (Or.inl ⟨by rfl, ?_⟩) (by assumption) ?_
      rotate_left
      · intro wq hSw
        try dsimp only at hSw
        go_simp
        with_reducible rfl
      try simp only [Act.put, List.getElem_toArray, List.getElem_cons_succ, List.getElem_cons_zero, List.setIfInBounds_toArray, List.set_cons_zero, List.set_cons_succ]
      refine wpAnyH_take (i := 7) (v := ?_) rfl (by kernel_rfl) (by kernel_rfl) (by kernel_rfl) (fun _ _ _ h => h) (Or.inl ⟨by rfl, ?_⟩) (by assumption) ?_
      rotate_left
      · intro wq hSw
        try dsimp only at hSw
        go_simp
        with_reducible rfl
      try simp only [Act.put, List.getElem_toArray, List.getElem_cons_succ, List.getElem_cons_zero, List.setIfInBounds_toArray, List.set_cons_zero, List.set_cons_succ]
      refine wpAnyH_take (i := 8) (v := ?_) rfl (by kernel_rfl) (by kernel_rfl) (by kernel_rfl) (fun _ _ _ h => h) (Or.inl ⟨by rfl, ?_⟩) (by assumption) ?_
      rotate_left
      · intro wq hSw
        try dsimp only at hSw
        go_simp
        with_reducible rfl
      try simp only [Act.put, List.getElem_toArray, List.getElem_cons_succ, List.getElem_cons_zero, List.setIfInBounds_toArray, List.set_cons_zero, List.set_cons_succ]
      refine wpAnyH_take (i := 9) (v := ?_) rfl (by kernel_rfl) (by kernel_rfl) (by kernel_rfl) (fun _ _ _ h => h) (Or.inl ⟨by rfl, ?_⟩) (by assumption) ?_
      rotate_left
      · intro wq hSw
        try dsimp only at hSw
        go_simp
        with_reducible rfl
      try simp only [Act.put, List.getElem_toArray, List.getElem_cons_succ, List.getElem_cons_zero, List.setIfInBounds_toArray, List.set_cons_zero, List.set_cons_succ]
      refine wpAnyH_take (i := 10) (v := ?_) rfl (by kernel_rfl) (by kernel_rfl) (by kernel_rfl) (fun _ _ _ h => h) (Or.inl ⟨by rfl, ?_⟩) (by assumption) ?_
      rotate_left
      · intro wq hSw
        try dsimp only at hSw
        go_simp
        with_reducible rfl
      try simp only [Act.put, List.getElem_toArray, List.getElem_cons_succ, List.getElem_cons_zero, List.setIfInBounds_toArray, List.set_cons_zero, List.set_cons_succ]
      refine wpAnyH_take (i := 11) (v := ?_) rfl (by kernel_rfl) (by kernel_rfl) (by kernel_rfl) (fun _ _ _ h => h) (Or.inl ⟨by rfl, ?_⟩) (by assumption) ?_
      rotate_left
      · intro wq hSw
        try dsimp only at hSw
        go_simp
        with_reducible rfl
      try simp only [Act.put, List.getElem_toArray, List.getElem_cons_succ, List.getElem_cons_zero, List.setIfInBounds_toArray, List.set_cons_zero, List.set_cons_succ]
      refine wpAnyH_take (i := 12) (v := ?_) rfl (by kernel_rfl) (by kernel_rfl) (by kernel_rfl) (fun _ _ _ h => h) (Or.inl ⟨by rfl, ?_⟩) (by assumption) ?_
      rotate_left
      · intro wq hSw
        try dsimp only at hSw
        go_simp
        with_reducible rfl
      try simp only [Act.put, List.getElem_toArray, List.getElem_cons_succ, List.getElem_cons_zero, List.setIfInBounds_toArray, List.set_cons_zero, List.set_cons_succ]
      refine wpAnyH_take (i := 13) (v := ?_) rfl (by kernel_rfl) (by kernel_rfl) (by kernel_rfl) (fun _ _ _ h => h) (Or.inl ⟨by rfl, ?_⟩) (by assumption) ?_
      rotate_left
      · intro wq hSw
        try dsimp only at hSw
        go_simp
        with_reducible rfl
      try simp only [Act.put, List.getElem_toArray, List.getElem_cons_succ, List.getElem_cons_zero, List.setIfInBounds_toArray, List.set_cons_zero, List.set_cons_succ]
      refine wpAnyH_take (i := 14) (v := ?_) rfl (by kernel_rfl) (by kernel_rfl) (by kernel_rfl) (fun _ _ _ h => h) (Or.inl ⟨by rfl, ?_⟩) (by assumption) ?_
      rotate_left
      · intro wq hSw
        try dsimp only at hSw
        go_simp
        with_reducible rfl
      try simp only [Act.put, List.getElem_toArray, List.getElem_cons_succ, List.getElem_cons_zero, List.setIfInBounds_toArray, List.set_cons_zero, List.set_cons_succ]
      refine wpAnyH_take (i := 15) (v := ?_) rfl (by kernel_rfl) (by kernel_rfl) (by kernel_rfl) (fun _ _ _ h => h) (Or.inl ⟨by rfl, ?_⟩) (by assumption) ?_
      rotate_left
      · intro wq hSw
        try dsimp only at hSw
        go_simp
        with_reducible rfl
      try simp only [Act.put, List.getElem_toArray, List.getElem_cons_succ, List.getElem_cons_zero, List.setIfInBounds_toArray, List.set_cons_zero, List.set_cons_succ]
      refine wpAnyH_take (i := 16) (v := ?_) rfl (by kernel_rfl) (by kernel_rfl) (by kernel_rfl) (fun _ _ _ h => h) (Or.inl ⟨by rfl, ?_⟩) (by assumption) ?_
      rotate_left
      · intro wq hSw
        try dsimp only at hSw
        go_simp
        with_reducible rfl
      try simp only [Act.put, List.getElem_toArray, List.getElem_cons_succ, List.getElem_cons_zero, List.setIfInBounds_toArray, List.set_cons_zero, List.set_cons_succ]
      refine wpAnyH_take (i := 17) (v := ?_) rfl (by kernel_rfl) (by kernel_rfl) (by kernel_rfl) (fun _ _ _ h => h) (Or.inl ⟨by rfl, ?_⟩) (by assumption) ?_
      rotate_left
      · intro wq hSw
        try dsimp only at hSw
        go_simp
        with_reducible rfl
      try simp only [Act.put, List.getElem_toArray, List.getElem_cons_succ, List.getElem_cons_zero, List.setIfInBounds_toArray, List.set_cons_zero, List.set_cons_succ]
      refine wpAnyH_take (i := 18) (v := ?_) rfl (by kernel_rfl) (by kernel_rfl) (by kernel_rfl) (fun _ _ _ h => h) (Or.inl ⟨by rfl, ?_⟩) (by assumption) ?_
      rotate_left
      · intro wq hSw
        try dsimp only at hSw
        go_simp
        with_reducible rfl
      try simp only [Act.put, List.getElem_toArray, List.getElem_cons_succ, List.getElem_cons_zero, List.setIfInBounds_toArray, List.set_cons_zero, List.set_cons_succ]
      refine wpAnyH_take (i := 19) (v := ?_) rfl (by kernel_rfl) (by kernel_rfl) (by kernel_rfl) (fun _ _ _ h => h) (Or.inl ⟨by rfl, ?_⟩) (by assumption) ?_
      rotate_left
      · intro wq hSw
        try dsimp only at hSw
        go_simp
        with_reducible rfl
      try simp only [Act.put, List.getElem_toArray, List.getElem_cons_succ, List.getElem_cons_zero, List.setIfInBounds_toArray, List.set_cons_zero, List.set_cons_succ]
      refine wpAnyH_take (i := 20) (v := ?_) rfl (by kernel_rfl) (by kernel_rfl) (by kernel_rfl) (fun _ _ _ h => h) (Or.inl ⟨by rfl, ?_⟩) (by assumption) ?_
      rotate_left
      · intro wq hSw
        try dsimp only at hSw
        go_simp
        with_reducible rfl
      try simp only [Act.put, List.getElem_toArray, List.getElem_cons_succ, List.getElem_cons_zero, List.setIfInBounds_toArray, List.set_cons_zero, List.set_cons_succ]
      refine wpAnyH_take (i := 21) (v := ?_) rfl (by kernel_rfl) (by kernel_rfl) (by kernel_rfl) (fun _ _ _ h => h) (Or.inl ⟨by rfl, ?_⟩) (by assumption) ?_
      rotate_left
      · intro wq hSw
        try dsimp only at hSw
        go_simp
        with_reducible rfl
      try simp only [Act.put, List.getElem_toArray, List.getElem_cons_succ, List.getElem_cons_zero, List.setIfInBounds_toArray, List.set_cons_zero, List.set_cons_succ]
      refine wpAnyH_take (i := 22) (v := ?_) rfl (by kernel_rfl) (by kernel_rfl) (by kernel_rfl) (fun _ _ _ h => h) (Or.inl ⟨by rfl, ?_⟩) (by assumption) ?_
      rotate_left
      · intro wq hSw
        try dsimp only at hSw
        go_simp
        with_reducible rfl
      try simp only [Act.put, List.getElem_toArray, List.getElem_cons_succ, List.getElem_cons_zero, List.setIfInBounds_toArray, List.set_cons_zero, List.set_cons_succ]
      refine wpAnyH_take (i := 23) (v := ?_) rfl (by kernel_rfl) (by kernel_rfl) (by kernel_rfl) (fun _ _ _ h => h) (Or.inl ⟨by rfl, ?_⟩) (by assumption) ?_
      rotate_left
      · intro wq hSw
        try dsimp only at hSw
        go_simp
        with_reducible rfl
      try simp only [Act.put, List.getElem_toArray, List.getElem_cons_succ, List.getElem_cons_zero, List.setIfInBounds_toArray, List.set_cons_zero, List.set_cons_succ]
      refine wpAnyH_take (i := 24) (v := ?_) rfl (by kernel_rfl) (by kernel_rfl) (by kernel_rfl) (fun _ _ _ h => h) (Or.inl ⟨by rfl, ?_⟩) (by assumption) ?_
      rotate_left
      · intro wq hSw
        try dsimp only at hSw
        go_simp
        with_reducible rfl
      try simp only [Act.put, List.getElem_toArray, List.getElem_cons_succ, List.getElem_cons_zero, List.setIfInBounds_toArray, List.set_cons_zero, List.set_cons_succ]
      refine wpAnyH_take (i := 25) (v := ?_) rfl (by kernel_rfl) (by kernel_rfl) (by kernel_rfl) (fun _ _ _ h => h) (Or.inl ⟨by rfl, ?_⟩) (by assumption) ?_
      rotate_left
      · intro wq hSw
        try dsimp only at hSw
        go_simp
        with_reducible rfl
      try simp only [Act.put, List.getElem_toArray, List.getElem_cons_succ, List.getElem_cons_zero, List.setIfInBounds_toArray, List.set_cons_zero, List.set_cons_succ]
      refine wpAnyH_ready (rs := [5, 26]) (by kernel_rfl) (by simp) ?_
      refine AllReadyH.cons rfl (fun K hK => ?_) ?_
      ·
        try simp only [List.getElem_toArray, List.getElem_cons_succ, List.getElem_cons_zero]
        go_simp
        refine hK.out _ _ (by (try dsimp only); (first | assumption | exact ⟨by assumption, by assumption, by assumption⟩ | exact ⟨by rw [World.cell?_setCell_other _ _ _ _ (by simp)]; assumption, by rw [World.cell?_setCell_other _ _ _ _ (by simp)]; assumption, by rw [World.cell?_setCell_other _ _ _ _ (by simp)]; assumption⟩ | go_keep)) (fun hHeld => ?_)
        clear hK K
        try simp only [Act.put, List.getElem_toArray, List.getElem_cons_succ, List.getElem_cons_zero, List.setIfInBounds_toArray, List.set_cons_zero, List.set_cons_succ]
        refine wpAnyH_ready (rs := [26]) (by kernel_rfl) (by simp) ?_
        refine AllReadyH.cons rfl (fun K hK => ?_) AllReadyH.nil
        try simp only [List.getElem_toArray, List.getElem_cons_succ, List.getElem_cons_zero]
        go_simp
        refine hK.out _ _ (by (try dsimp only); (first | assumption | exact ⟨by assumption, by assumption, by assumption⟩ | exact ⟨by rw [World.cell?_setCell_other _ _ _ _ (by simp)]; assumption, by rw [World.cell?_setCell_other _ _ _ _ (by simp)]; assumption, by rw [World.cell?_setCell_other _ _ _ _ (by simp)]; assumption⟩ | go_keep)) (fun hHeld => ?_)
        clear hK K
        try simp only [Act.put, List.getElem_toArray, List.getElem_cons_succ, List.getElem_cons_zero, List.setIfInBounds_toArray, List.set_cons_zero, List.set_cons_succ]
        refine wpAnyH_ready (rs := [27]) (by kernel_rfl) (by simp) ?_
        refine AllReadyH.cons rfl (fun K hK => ?_) AllReadyH.nil
        try simp only [List.getElem_toArray, List.getElem_cons_succ, List.getElem_cons_zero]
        rw [if_pos (by rfl)]
        refine oper_append_Own rfl (.tmp 57) (.tmp 78) 59 rfl B 83 i0 (.agg #[.string ⟨#[]⟩, .string ⟨#[]⟩, .int .i64 0, .int .i64 0]) 4 48 Tryz.underlying59 hinf hz0 hz1 hz2 rfl (by decide) _ _ _ rfl (hown.alloc _) ⟨w4.heap.size, 0, none⟩ 1 1 [.string ⟨sp.toArray⟩, .string ⟨rv.toArray⟩, .int .i64 (q : Int), .int .i64 (u : Int)] rfl rfl (cell_four_new _ _ _ _ _ _) (by simp [Value.oneCell']) (by have h1 : cs.length ≤ 1048576 := hclen; show cs.length + 1 ≤ maxLen; unfold maxLen; omega) (by have h1 : cs.length ≤ 1048576 := hclen; show (cs.length + 1) * 48 ≤ 140737488355328; omega) (by simp; omega) ?_
        intro v' w6 hown1 hg1
        obtain ⟨gb, gc, rfl⟩ := own_shape hown1
        have hN6 := (hN5.alloc (.cells #[.string ⟨sp.toArray⟩, .string ⟨rv.toArray⟩, .int .i64 (q : Int), .int .i64 (u : Int)] 83)).app (cs' := cs ++ [⟨sp, rv, q⟩]) hg1 (by rw [cmCells_append, List.length_append, hcme]; exact hown1)
        obtain ⟨k0', k9', k1'⟩ := hN6.cur.lex.rd
        have k9' : w6.cell? ⟨lb, 9, none⟩ = some (.int .i64 (u : Int)) := k9'
        have k2' := (hN6.cur.lex.cell 2).1; have f2' := (hN6.cur.lex.cell 2).2
        simp only [LexSt.cells, LexSt.blank, List.getElem?_toArray, List.getElem?_cons_succ, List.getElem?_cons_zero] at k2'
        refine hK.out _ _ (by (try dsimp only); (first | assumption | exact ⟨by assumption, by assumption, by assumption⟩ | exact ⟨by rw [World.cell?_setCell_other _ _ _ _ (by simp)]; assumption, by rw [World.cell?_setCell_other _ _ _ _ (by simp)]; assumption, by rw [World.cell?_setCell_other _ _ _ _ (by simp)]; assumption⟩ | go_keep)) (fun hHeld => ?_)
        clear hK K
        try simp only [Act.put, List.getElem_toArray, List.getElem_cons_succ, List.getElem_cons_zero, List.setIfInBounds_toArray, List.set_cons_zero, List.set_cons_succ]
        refine wpAnyH_take (i := 28) (v := ?_) rfl (by kernel_rfl) (by kernel_rfl) (by kernel_rfl) (fun _ _ _ h => h) (Or.inl ⟨by rfl, ?_⟩) (by assumption) ?_
        rotate_left
        · intro wq hSw
          try dsimp only at hSw
          go_simp
          with_reducible rfl
        try simp only [Act.put, List.getElem_toArray, List.getElem_cons_succ, List.getElem_cons_zero, List.setIfInBounds_toArray, List.set_cons_zero, List.set_cons_succ]
        refine wpAnyH_take (i := 29) (v := ?_) rfl (by kernel_rfl) (by kernel_rfl) (by kernel_rfl) (fun _ _ _ h => h) (Or.inl ⟨by rfl, ?_⟩) (by assumption) ?_
        rotate_left
        · intro wq hSw
          try dsimp only at hSw
          go_simp
          with_reducible rfl
        try simp only [Act.put, List.getElem_toArray, List.getElem_cons_succ, List.getElem_cons_zero, List.setIfInBounds_toArray, List.set_cons_zero, List.set_cons_succ]
        refine wpAnyH_take (i := 30) (v := ?_) rfl (by kernel_rfl) (by kernel_rfl) (by kernel_rfl) (fun _ _ _ h => h) (Or.inl ⟨by rfl, ?_⟩) (by assumption) ?_
        rotate_left
        · intro wq hSw
          try dsimp only at hSw
          go_simp
          with_reducible rfl
        try simp only [Act.put, List.getElem_toArray, List.getElem_cons_succ, List.getElem_cons_zero, List.setIfInBounds_toArray, List.set_cons_zero, List.set_cons_succ]
        refine wpAnyH_ready (rs := [31]) (by kernel_rfl) (by simp) ?_
        refine AllReadyH.cons rfl (fun K hK => ?_) AllReadyH.nil
        try simp only [List.getElem_toArray, List.getElem_cons_succ, List.getElem_cons_zero]
        go_simp
        refine hK.out _ _ (by (try dsimp only); (first | assumption | exact ⟨by assumption, by assumption, by assumption⟩ | exact ⟨by rw [World.cell?_setCell_other _ _ _ _ (by simp)]; assumption, by rw [World.cell?_setCell_other _ _ _ _ (by simp)]; assumption, by rw [World.cell?_setCell_other _ _ _ _ (by simp)]; assumption⟩ | go_keep)) (fun hHeld => ?_)
        clear hK K
        try simp only [Act.put, List.getElem_toArray, List.getElem_cons_succ, List.getElem_cons_zero, List.setIfInBounds_toArray, List.set_cons_zero, List.set_cons_succ]
        refine wpAnyH_done (by kernel_rfl) ?_ _
        refine NoPanic.normal ?_
        have hN7 := hN6.set 2 (.slice (some ⟨gb, 0, none⟩) (cs.length + 1) gc) (x.blank (.slice (some ⟨gb, 0, none⟩) (cs.length + 1) gc) u) rfl (by show u ≤ s.size; omega)
        generalize w6.setCell ⟨lb, 2, none⟩ (.slice (some ⟨gb, 0, none⟩) (cs.length + 1) gc) = w7 at *
        have HN7 := Lib.hid hN7
        clear hN7 hN6 HN hown hown1 hg1 k0' k9' k1' k2' f2' c0 c9 c1 k2 f2 hk2a hk2b hN5
        go_wp2_with fail
        go_roundg (s.size - u)
        case measure => omega
        case rel =>
          refine ⟨_, cs ++ [⟨sp, rv, q⟩], u, HN7.out, rfl, by omega, by omega, by rw [List.length_append]; show cs.length + 1 ≤ u; omega, HLQ.out⟩
      ·
        refine AllReadyH.cons rfl (fun K hK => ?_) AllReadyH.nil
        try simp only [List.getElem_toArray, List.getElem_cons_succ, List.getElem_cons_zero]
        go_simp
        refine hK.out _ _ (by (try dsimp only); (first | assumption | exact ⟨by assumption, by assumption, by assumption⟩ | exact ⟨by rw [World.cell?_setCell_other _ _ _ _ (by simp)]; assumption, by rw [World.cell?_setCell_other _ _ _ _ (by simp)]; assumption, by rw [World.cell?_setCell_other _ _ _ _ (by simp)]; assumption⟩ | go_keep)) (fun hHeld => ?_)
        clear hK K
        try simp only [Act.put, List.getElem_toArray, List.getElem_cons_succ, List.getElem_cons_zero, List.setIfInBounds_toArray, List.set_cons_zero, List.set_cons_succ]
        refine wpAnyH_ready (rs := [5]) (by kernel_rfl) (by simp) ?_
        refine AllReadyH.cons rfl (fun K hK => ?_) AllReadyH.nil
        try simp only [List.getElem_toArray, List.getElem_cons_succ, List.getElem_cons_zero]
        go_simp
        refine hK.out _ _ (by (try dsimp only); (first | assumption | exact ⟨by assumption, by assumption, by assumption⟩ | exact ⟨by rw [World.cell?_setCell_other _ _ _ _ (by simp)]; assumption, by rw [World.cell?_setCell_other _ _ _ _ (by simp)]; assumption, by rw [World.cell?_setCell_other _ _ _ _ (by simp)]; assumption⟩ | go_keep)) (fun hHeld => ?_)
        clear hK K
        try simp only [Act.put, List.getElem_toArray, List.getElem_cons_succ, List.getElem_cons_zero, List.setIfInBounds_toArray, List.set_cons_zero, List.set_cons_succ]
        refine wpAnyH_ready (rs := [27]) (by kernel_rfl) (by simp) ?_
        refine AllReadyH.cons rfl (fun K hK => ?_) AllReadyH.nil
        try simp only [List.getElem_toArray, List.getElem_cons_succ, List.getElem_cons_zero]
        rw [if_pos (by rfl)]
        refine oper_append_Own rfl (.tmp 57) (.tmp 78) 59 rfl B 83 i0 (.agg #[.string ⟨#[]⟩, .string ⟨#[]⟩, .int .i64 0, .int .i64 0]) 4 48 Tryz.underlying59 hinf hz0 hz1 hz2 rfl (by decide) _ _ _ rfl (hown.alloc _) ⟨w4.heap.size, 0, none⟩ 1 1 [.string ⟨sp.toArray⟩, .string ⟨rv.toArray⟩, .int .i64 (q : Int), .int .i64 (u : Int)] rfl rfl (cell_four_new _ _ _ _ _ _) (by simp [Value.oneCell']) (by have h1 : cs.length ≤ 1048576 := hclen; show cs.length + 1 ≤ maxLen; unfold maxLen; omega) (by have h1 : cs.length ≤ 1048576 := hclen; show (cs.length + 1) * 48 ≤ 140737488355328; omega) (by simp; omega) ?_
        intro v' w6 hown1 hg1
        obtain ⟨gb, gc, rfl⟩ := own_shape hown1
        have hN6 := (hN5.alloc (.cells #[.string ⟨sp.toArray⟩, .string ⟨rv.toArray⟩, .int .i64 (q : Int), .int .i64 (u : Int)] 83)).app (cs' := cs ++ [⟨sp, rv, q⟩]) hg1 (by rw [cmCells_append, List.length_append, hcme]; exact hown1)
        obtain ⟨k0', k9', k1'⟩ := hN6.cur.lex.rd
        have k9' : w6.cell? ⟨lb, 9, none⟩ = some (.int .i64 (u : Int)) := k9'
        have k2' := (hN6.cur.lex.cell 2).1; have f2' := (hN6.cur.lex.cell 2).2
        simp only [LexSt.cells, LexSt.blank, List.getElem?_toArray, List.getElem?_cons_succ, List.getElem?_cons_zero] at k2'
        refine hK.out _ _ (by (try dsimp only); (first | assumption | exact ⟨by assumption, by assumption, by assumption⟩ | exact ⟨by rw [World.cell?_setCell_other _ _ _ _ (by simp)]; assumption, by rw [World.cell?_setCell_other _ _ _ _ (by simp)]; assumption, by rw [World.cell?_setCell_other _ _ _ _ (by simp)]; assumption⟩ | go_keep)) (fun hHeld => ?_)
        clear hK K
        try simp only [Act.put, List.getElem_toArray, List.getElem_cons_succ, List.getElem_cons_zero, List.setIfInBounds_toArray, List.set_cons_zero, List.set_cons_succ]
        refine wpAnyH_take (i := 28) (v := ?_) rfl (by kernel_rfl) (by kernel_rfl) (by kernel_rfl) (fun _ _ _ h => h) (Or.inl ⟨by rfl, ?_⟩) (by assumption) ?_
        rotate_left
        · intro wq hSw
          try dsimp only at hSw
          go_simp
          with_reducible rfl
        try simp only [Act.put, List.getElem_toArray, List.getElem_cons_succ, List.getElem_cons_zero, List.setIfInBounds_toArray, List.set_cons_zero, List.set_cons_succ]
        refine wpAnyH_take (i := 29) (v := ?_) rfl (by kernel_rfl) (by kernel_rfl) (by kernel_rfl) (fun _ _ _ h => h) (Or.inl ⟨by rfl, ?_⟩) (by assumption) ?_
        rotate_left
        · intro wq hSw
          try dsimp only at hSw
          go_simp
          with_reducible rfl
        try simp only [Act.put, List.getElem_toArray, List.getElem_cons_succ, List.getElem_cons_zero, List.setIfInBounds_toArray, List.set_cons_zero, List.set_cons_succ]
        refine wpAnyH_take (i := 30) (v := ?_) rfl (by kernel_rfl) (by kernel_rfl) (by kernel_rfl) (fun _ _ _ h => h) (Or.inl ⟨by rfl, ?_⟩) (by assumption) ?_
        rotate_left
        · intro wq hSw
          try dsimp only at hSw
          go_simp
          with_reducible rfl
        try simp only [Act.put, List.getElem_toArray, List.getElem_cons_succ, List.getElem_cons_zero, List.setIfInBounds_toArray, List.set_cons_zero, List.set_cons_succ]
        refine wpAnyH_ready (rs := [31]) (by kernel_rfl) (by simp) ?_
        refine AllReadyH.cons rfl (fun K hK => ?_) AllReadyH.nil
        try simp only [List.getElem_toArray, List.getElem_cons_succ, List.getElem_cons_zero]
        go_simp
        refine hK.out _ _ (by (try dsimp only); (first | assumption | exact ⟨by assumption, by assumption, by assumption⟩ | exact ⟨by rw [World.cell?_setCell_other _ _ _ _ (by simp)]; assumption, by rw [World.cell?_setCell_other _ _ _ _ (by simp)]; assumption, by rw [World.cell?_setCell_other _ _ _ _ (by simp)]; assumption⟩ | go_keep)) (fun hHeld => ?_)
        clear hK K
        try simp only [Act.put, List.getElem_toArray, List.getElem_cons_succ, List.getElem_cons_zero, List.setIfInBounds_toArray, List.set_cons_zero, List.set_cons_succ]
        refine wpAnyH_done (by kernel_rfl) ?_ _
        refine NoPanic.normal ?_
        have hN7 := hN6.set 2 (.slice (some ⟨gb, 0, none⟩) (cs.length + 1) gc) (x.blank (.slice (some ⟨gb, 0, none⟩) (cs.length + 1) gc) u) rfl (by show u ≤ s.size; omega)
        generalize w6.setCell ⟨lb, 2, none⟩ (.slice (some ⟨gb, 0, none⟩) (cs.length + 1) gc) = w7 at *
        have HN7 := Lib.hid hN7
        clear hN7 hN6 HN hown hown1 hg1 k0' k9' k1' k2' f2' c0 c9 c1 k2 f2 hk2a hk2b hN5
        go_wp2_with fail
        go_roundg (s.size - u)
        case measure => omega
        case rel =>
          refine ⟨_, cs ++ [⟨sp, rv, q⟩], u, HN7.out, rfl, by omega, by omega, by rw [List.length_append]; show cs.length + 1 ≤ u; omega, HLQ.out⟩
    | open_ =>
      rw [hcm] at hcd
      have hlq := HL.out.trans (H2.out hcm)
      have hRq : R = .err q s.size := by
        rw [← HR.out]
        unfold next
        rw [hlq, ← ba_toList_length]
      have hlt : q < s.size := by
        rcases Nat.lt_or_ge q s.size with h' | h'
        · exact h'
        · have e : s.data.toList.drop q = [] := List.drop_eq_nil_of_le (by rw [ba_toList_length]; exact h')
          rw [e] at hcm; cases hcm
      subst hRq
      cases np with
      | false =>
        have HCD := Lib.hid hcd; have HG3 := Lib.hid HND.out.cur.grow
        clear hcd hcm HND H1 H2 H3 HL hlq HR HG hex
        refine HCD.out.mono ?_
        rintro e w4 ⟨EB, rfl, hE⟩
        have HE := Lib.hid hE; clear hE
        go_wp2_with fail
        exact ⟨rfl, Fault.from ⟨EB, rfl, HE.out⟩ HG3.out⟩
      | true =>
        have hcd : Calls Tryz.prog 50 #[.pointer (some ⟨lb, 0, none⟩), .bool true] w3 (fun e w' => e = .returned (.bool true) ∧ NAt W w lb fb s (x.blank v s.size) B v cs w') := hcd.mono fun e w' hh => ⟨hh.1, HND.out.turn hh.2⟩
        have HCD := Lib.hid hcd
        clear hcd hcm HND H1 H2 H3 HL hlq HR HG hex hm
        have hraw : (s.data.toList.drop q).length = s.size - q := hqrl
        have hex2 : s.extract q s.size = ⟨(s.data.toList.drop q).toArray⟩ := by
          apply ba_ext
          rw [sub_data]
          unfold sub
          rw [List.take_of_length_le (by rw [ba_toList_length]; exact Nat.le_refl _)]
        refine HCD.out.mono ?_
        rintro e w4 ⟨rfl, hN1⟩
        clear HCD
        generalize hrv : s.data.toList.drop q = rv at *
        have HN := Lib.hid hN1; clear hN1 hrv
        have hbe : ((s.size : Int) == (q : Int)) = false := by rw [beq_eq_false_iff_ne]; omega
        have hquI : (q : Int) ≤ (s.size : Int) := by omega
        obtain ⟨c0, c9, c1⟩ := HN.out.cur.lex.rd
        change w4.cell? ⟨lb, 9, none⟩ = some (.int .i64 (s.size : Int)) at c9
        go_wp2_with fail
        have k2 := (HN.out.cur.lex.cell 2).1; have f2 := (HN.out.cur.lex.cell 2).2
        simp only [LexSt.cells, LexSt.blank, List.getElem?_toArray, List.getElem?_cons_succ, List.getElem?_cons_zero] at k2
        have hcme : cmCells [⟨sp, rv, q⟩] = [.string ⟨sp.toArray⟩, .string ⟨rv.toArray⟩, .int .i64 (q : Int), .int .i64 (s.size : Int)] := by
          show [Value.string ⟨sp.toArray⟩, .string ⟨rv.toArray⟩, .int .i64 (q : Int), .int .i64 ((q + rv.length : Nat) : Int)] ++ [] = _
          rw [hraw, show q + (s.size - q) = s.size from by omega]; rfl
        have hne := HN.out.cur.lex.ne
        have hN5 := HN.out.drewN 1
        have hown := hN5.own
        have hB : B ≤ w4.heap.size := HN.out.hB
        have hlbw := hN5.cur.lex.lt.1
        have hfbw := hN5.cur.lex.lt.2
        have hlbB := hN5.lbB
        have hk2b : ∀ o, (w4.alloc o).cell? ⟨lb, 2, none⟩ = some v := fun o => by rw [World.cell?_alloc_old _ _ _ (Nat.ne_of_lt hlbw)]; exact k2
        have hk2a : ∀ o, (w4.alloc o).drew.cell? ⟨lb, 2, none⟩ = some v := hk2b
        have hfbB := hN5.fbB
        obtain ⟨i0, hinf, hz0, hz1, hz2⟩ := info_parts info_cm
        have hclen : cs.length ≤ 1048576 := by omega
        refine wp_region_noPanic ?_
        refine wp_region_held_drew (S := fun w' => w'.cell? ⟨lb, 0, none⟩ = some (.pointer (some ⟨fb, 0, none⟩)) ∧ w'.cell? ⟨lb, 9, none⟩ = some (.int .i64 (s.size : Int)) ∧ w'.cell? ⟨fb, 1, none⟩ = some (.string s)) (by kernel_rfl) ⟨c0, c9, c1⟩ (fun hHeld => ?_)
        refine wpAnyH_take (i := 0) (v := ?_) rfl (by kernel_rfl) (by kernel_rfl) (by kernel_rfl) (fun _ _ _ h => h) (Or.inl ⟨by rfl, ?_⟩) (by assumption) ?_
        rotate_left
        · intro wq hSw
          try dsimp only at hSw
          go_simp
          with_reducible rfl
        try simp only [Act.put, List.getElem_toArray, List.getElem_cons_succ, List.getElem_cons_zero, List.setIfInBounds_toArray, List.set_cons_zero, List.set_cons_succ]
        refine wpAnyH_take (i := 1) (v := ?_) rfl (by kernel_rfl) (by kernel_rfl) (by kernel_rfl) (fun _ _ _ h => h) (Or.inl ⟨by rfl, ?_⟩) (by assumption) ?_
        rotate_left
        · intro wq hSw
          try dsimp only at hSw
          go_simp
          with_reducible rfl
        try simp only [Act.put, List.getElem_toArray, List.getElem_cons_succ, List.getElem_cons_zero, List.setIfInBounds_toArray, List.set_cons_zero, List.set_cons_succ]
        refine wpAnyH_take (i := 2) (v := ?_) rfl (by kernel_rfl) (by kernel_rfl) (by kernel_rfl) (fun _ _ _ h => h) (Or.inl ⟨by rfl, ?_⟩) (by assumption) ?_
        rotate_left
        · intro wq hSw
          try dsimp only at hSw
          go_simp
          with_reducible rfl
        try simp only [Act.put, List.getElem_toArray, List.getElem_cons_succ, List.getElem_cons_zero, List.setIfInBounds_toArray, List.set_cons_zero, List.set_cons_succ]
        refine wpAnyH_take (i := 3) (v := ?_) rfl (by kernel_rfl) (by kernel_rfl) (by kernel_rfl) (fun _ _ _ h => h) (Or.inl ⟨by rfl, ?_⟩) (by assumption) ?_
        rotate_left
        · intro wq hSw
          try dsimp only at hSw
          go_simp
          with_reducible rfl
        try simp only [Act.put, List.getElem_toArray, List.getElem_cons_succ, List.getElem_cons_zero, List.setIfInBounds_toArray, List.set_cons_zero, List.set_cons_succ]
        refine wpAnyH_take (i := 4) (v := ?_) rfl (by kernel_rfl) (by kernel_rfl) (by kernel_rfl) (fun _ _ _ h => h) (Or.inl ⟨by rfl, ?_⟩) (by assumption) ?_
        rotate_left
        · intro wq hSw
          try dsimp only at hSw
          go_simp
          with_reducible rfl
        try simp only [Act.put, List.getElem_toArray, List.getElem_cons_succ, List.getElem_cons_zero, List.setIfInBounds_toArray, List.set_cons_zero, List.set_cons_succ]
        refine wpAnyH_take (i := 6) (v := ?_) rfl (by kernel_rfl) (by kernel_rfl) (by kernel_rfl) (fun _ _ _ h => h) (Or.inl ⟨by rfl, ?_⟩) (by assumption) ?_
        rotate_left
        · intro wq hSw
          try dsimp only at hSw
          go_simp
          with_reducible rfl
        try simp only [Act.put, List.getElem_toArray, List.getElem_cons_succ, List.getElem_cons_zero, List.setIfInBounds_toArray, List.set_cons_zero, List.set_cons_succ]
        refine wpAnyH_take (i := 7) (v := ?_) rfl (by kernel_rfl) (by kernel_rfl) (by kernel_rfl) (fun _ _ _ h => h) (Or.inl ⟨by rfl, ?_⟩) (by assumption) ?_
        rotate_left
        · intro wq hSw
          try dsimp only at hSw
          go_simp
          with_reducible rfl
        try simp only [Act.put, List.getElem_toArray, List.getElem_cons_succ, List.getElem_cons_zero, List.setIfInBounds_toArray, List.set_cons_zero, List.set_cons_succ]
        refine wpAnyH_take (i := 8) (v := ?_) rfl (by kernel_rfl) (by kernel_rfl) (by kernel_rfl) (fun _ _ _ h => h) (Or.inl ⟨by rfl, ?_⟩) (by assumption) ?_
        rotate_left
        · intro wq hSw
          try dsimp only at hSw
          go_simp
          with_reducible rfl
        try simp only [Act.put, List.getElem_toArray, List.getElem_cons_succ, List.getElem_cons_zero, List.setIfInBounds_toArray, List.set_cons_zero, List.set_cons_succ]
        refine wpAnyH_take (i := 9) (v := ?_) rfl (by kernel_rfl) (by kernel_rfl) (by kernel_rfl) (fun _ _ _ h => h) (Or.inl ⟨by rfl, ?_⟩) (by assumption) ?_
        rotate_left
        · intro wq hSw
          try dsimp only at hSw
          go_simp
          with_reducible rfl
        try simp only [Act.put, List.getElem_toArray, List.getElem_cons_succ, List.getElem_cons_zero, List.setIfInBounds_toArray, List.set_cons_zero, List.set_cons_succ]
        refine wpAnyH_take (i := 10) (v := ?_) rfl (by kernel_rfl) (by kernel_rfl) (by kernel_rfl) (fun _ _ _ h => h) (Or.inl ⟨by rfl, ?_⟩) (by assumption) ?_
        rotate_left
        · intro wq hSw
          try dsimp only at hSw
          go_simp
          with_reducible rfl
        try simp only [Act.put, List.getElem_toArray, List.getElem_cons_succ, List.getElem_cons_zero, List.setIfInBounds_toArray, List.set_cons_zero, List.set_cons_succ]
        refine wpAnyH_take (i := 11) (v := ?_) rfl (by kernel_rfl) (by kernel_rfl) (by kernel_rfl) (fun _ _ _ h => h) (Or.inl ⟨by rfl, ?_⟩) (by assumption) ?_
        rotate_left
        · intro wq hSw
          try dsimp only at hSw
          go_simp
          with_reducible rfl
        try simp only [Act.put, List.getElem_toArray, List.getElem_cons_succ, List.getElem_cons_zero, List.setIfInBounds_toArray, List.set_cons_zero, List.set_cons_succ]
        refine wpAnyH_take (i := 12) (v := ?_) rfl (by kernel_rfl) (by kernel_rfl) (by kernel_rfl) (fun _ _ _ h => h) (Or.inl ⟨by rfl, ?_⟩) (by assumption) ?_
        rotate_left
        · intro wq hSw
          try dsimp only at hSw
          go_simp
          with_reducible rfl
        try simp only [Act.put, List.getElem_toArray, List.getElem_cons_succ, List.getElem_cons_zero, List.setIfInBounds_toArray, List.set_cons_zero, List.set_cons_succ]
        refine wpAnyH_take (i := 13) (v := ?_) rfl (by kernel_rfl) (by kernel_rfl) (by kernel_rfl) (fun _ _ _ h => h) (Or.inl ⟨by rfl, ?_⟩) (by assumption) ?_
        rotate_left
        · intro wq hSw
          try dsimp only at hSw
          go_simp
          with_reducible rfl
        try simp only [Act.put, List.getElem_toArray, List.getElem_cons_succ, List.getElem_cons_zero, List.setIfInBounds_toArray, List.set_cons_zero, List.set_cons_succ]
        refine wpAnyH_take (i := 14) (v := ?_) rfl (by kernel_rfl) (by kernel_rfl) (by kernel_rfl) (fun _ _ _ h => h) (Or.inl ⟨by rfl, ?_⟩) (by assumption) ?_
        rotate_left
        · intro wq hSw
          try dsimp only at hSw
          go_simp
          with_reducible rfl
        try simp only [Act.put, List.getElem_toArray, List.getElem_cons_succ, List.getElem_cons_zero, List.setIfInBounds_toArray, List.set_cons_zero, List.set_cons_succ]
        refine wpAnyH_take (i := 15) (v := ?_) rfl (by kernel_rfl) (by kernel_rfl) (by kernel_rfl) (fun _ _ _ h => h) (Or.inl ⟨by rfl, ?_⟩) (by assumption) ?_
        rotate_left
        · intro wq hSw
          try dsimp only at hSw
          go_simp
          with_reducible rfl
        try simp only [Act.put, List.getElem_toArray, List.getElem_cons_succ, List.getElem_cons_zero, List.setIfInBounds_toArray, List.set_cons_zero, List.set_cons_succ]
        refine wpAnyH_take (i := 16) (v := ?_) rfl (by kernel_rfl) (by kernel_rfl) (by kernel_rfl) (fun _ _ _ h => h) (Or.inl ⟨by rfl, ?_⟩) (by assumption) ?_
        rotate_left
        · intro wq hSw
          try dsimp only at hSw
          go_simp
          with_reducible rfl
        try simp only [Act.put, List.getElem_toArray, List.getElem_cons_succ, List.getElem_cons_zero, List.setIfInBounds_toArray, List.set_cons_zero, List.set_cons_succ]
        refine wpAnyH_take (i := 17) (v := ?_) rfl (by kernel_rfl) (by kernel_rfl) (by kernel_rfl) (fun _ _ _ h => h) (Or.inl ⟨by rfl, ?_⟩) (by assumption) ?_
        rotate_left
        · intro wq hSw
          try dsimp only at hSw
          go_simp
          with_reducible rfl
        try simp only [Act.put, List.getElem_toArray, List.getElem_cons_succ, List.getElem_cons_zero, List.setIfInBounds_toArray, List.set_cons_zero, List.set_cons_succ]
        refine wpAnyH_take (i := 18) (v := ?_) rfl (by kernel_rfl) (by kernel_rfl) (by kernel_rfl) (fun _ _ _ h => h) (Or.inl ⟨by rfl, ?_⟩) (by assumption) ?_
        rotate_left
        · intro wq hSw
          try dsimp only at hSw
          go_simp
          with_reducible rfl
        try simp only [Act.put, List.getElem_toArray, List.getElem_cons_succ, List.getElem_cons_zero, List.setIfInBounds_toArray, List.set_cons_zero, List.set_cons_succ]
        refine wpAnyH_take (i := 19) (v := ?_) rfl (by kernel_rfl) (by kernel_rfl) (by kernel_rfl) (fun _ _ _ h => h) (Or.inl ⟨by rfl, ?_⟩) (by assumption) ?_
        rotate_left
        · intro wq hSw
          try dsimp only at hSw
          go_simp
          with_reducible rfl
        try simp only [Act.put, List.getElem_toArray, List.getElem_cons_succ, List.getElem_cons_zero, List.setIfInBounds_toArray, List.set_cons_zero, List.set_cons_succ]
        refine wpAnyH_take (i := 20) (v := ?_) rfl (by kernel_rfl) (by kernel_rfl) (by kernel_rfl) (fun _ _ _ h => h) (Or.inl ⟨by rfl, ?_⟩) (by assumption) ?_
        rotate_left
        · intro wq hSw
          try dsimp only at hSw
          go_simp
          with_reducible rfl
        try simp only [Act.put, List.getElem_toArray, List.getElem_cons_succ, List.getElem_cons_zero, List.setIfInBounds_toArray, List.set_cons_zero, List.set_cons_succ]
        refine wpAnyH_take (i := 21) (v := ?_) rfl (by kernel_rfl) (by kernel_rfl) (by kernel_rfl) (fun _ _ _ h => h) (Or.inl ⟨by rfl, ?_⟩) (by assumption) ?_
        rotate_left
        · intro wq hSw
          try dsimp only at hSw
          go_simp
          with_reducible rfl
        try simp only [Act.put, List.getElem_toArray, List.getElem_cons_succ, List.getElem_cons_zero, List.setIfInBounds_toArray, List.set_cons_zero, List.set_cons_succ]
        refine wpAnyH_take (i := 22) (v := ?_) rfl (by kernel_rfl) (by kernel_rfl) (by kernel_rfl) (fun _ _ _ h => h) (Or.inl ⟨by rfl, ?_⟩) (by assumption) ?_
        rotate_left
        · intro wq hSw
          try dsimp only at hSw
          go_simp
          with_reducible rfl
        try simp only [Act.put, List.getElem_toArray, List.getElem_cons_succ, List.getElem_cons_zero, List.setIfInBounds_toArray, List.set_cons_zero, List.set_cons_succ]
        refine wpAnyH_take (i := 23) (v := ?_) rfl (by kernel_rfl) (by kernel_rfl) (by kernel_rfl) (fun _ _ _ h => h) (Or.inl ⟨by rfl, ?_⟩) (by assumption) ?_
        rotate_left
        · intro wq hSw
          try dsimp only at hSw
          go_simp
          with_reducible rfl
        try simp only [Act.put, List.getElem_toArray, List.getElem_cons_succ, List.getElem_cons_zero, List.setIfInBounds_toArray, List.set_cons_zero, List.set_cons_succ]
        refine wpAnyH_take (i := 24) (v := ?_) rfl (by kernel_rfl) (by kernel_rfl) (by kernel_rfl) (fun _ _ _ h => h) (Or.inl ⟨by rfl, ?_⟩) (by assumption) ?_
        rotate_left
        · intro wq hSw
          try dsimp only at hSw
          go_simp
          with_reducible rfl
        try simp only [Act.put, List.getElem_toArray, List.getElem_cons_succ, List.getElem_cons_zero, List.setIfInBounds_toArray, List.set_cons_zero, List.set_cons_succ]
        refine wpAnyH_take (i := 25) (v := ?_) rfl (by kernel_rfl) (by kernel_rfl) (by kernel_rfl) (fun _ _ _ h => h) (Or.inl ⟨by rfl, ?_⟩) (by assumption) ?_
        rotate_left
        · intro wq hSw
          try dsimp only at hSw
          go_simp
          with_reducible rfl
        try simp only [Act.put, List.getElem_toArray, List.getElem_cons_succ, List.getElem_cons_zero, List.setIfInBounds_toArray, List.set_cons_zero, List.set_cons_succ]
        refine wpAnyH_ready (rs := [5, 26]) (by kernel_rfl) (by simp) ?_
        refine AllReadyH.cons rfl (fun K hK => ?_) ?_
        ·
          try simp only [List.getElem_toArray, List.getElem_cons_succ, List.getElem_cons_zero]
          go_simp
          refine hK.out _ _ (by (try dsimp only); (first | assumption | exact ⟨by assumption, by assumption, by assumption⟩ | exact ⟨by rw [World.cell?_setCell_other _ _ _ _ (by simp)]; assumption, by rw [World.cell?_setCell_other _ _ _ _ (by simp)]; assumption, by rw [World.cell?_setCell_other _ _ _ _ (by simp)]; assumption⟩ | go_keep)) (fun hHeld => ?_)
          clear hK K
          try simp only [Act.put, List.getElem_toArray, List.getElem_cons_succ, List.getElem_cons_zero, List.setIfInBounds_toArray, List.set_cons_zero, List.set_cons_succ]
          refine wpAnyH_ready (rs := [26]) (by kernel_rfl) (by simp) ?_
          refine AllReadyH.cons rfl (fun K hK => ?_) AllReadyH.nil
          try simp only [List.getElem_toArray, List.getElem_cons_succ, List.getElem_cons_zero]
          go_simp
          refine hK.out _ _ (by (try dsimp only); (first | assumption | exact ⟨by assumption, by assumption, by assumption⟩ | exact ⟨by rw [World.cell?_setCell_other _ _ _ _ (by simp)]; assumption, by rw [World.cell?_setCell_other _ _ _ _ (by simp)]; assumption, by rw [World.cell?_setCell_other _ _ _ _ (by simp)]; assumption⟩ | go_keep)) (fun hHeld => ?_)
          clear hK K
          try simp only [Act.put, List.getElem_toArray, List.getElem_cons_succ, List.getElem_cons_zero, List.setIfInBounds_toArray, List.set_cons_zero, List.set_cons_succ]
          refine wpAnyH_ready (rs := [27]) (by kernel_rfl) (by simp) ?_
          refine AllReadyH.cons rfl (fun K hK => ?_) AllReadyH.nil
          try simp only [List.getElem_toArray, List.getElem_cons_succ, List.getElem_cons_zero]
          rw [if_pos (by rfl)]
          refine oper_append_Own rfl (.tmp 57) (.tmp 78) 59 rfl B 83 i0 (.agg #[.string ⟨#[]⟩, .string ⟨#[]⟩, .int .i64 0, .int .i64 0]) 4 48 Tryz.underlying59 hinf hz0 hz1 hz2 rfl (by decide) _ _ _ rfl (hown.alloc _) ⟨w4.heap.size, 0, none⟩ 1 1 [.string ⟨sp.toArray⟩, .string ⟨rv.toArray⟩, .int .i64 (q : Int), .int .i64 (s.size : Int)] rfl rfl (cell_four_new _ _ _ _ _ _) (by simp [Value.oneCell']) (by have h1 : cs.length ≤ 1048576 := hclen; show cs.length + 1 ≤ maxLen; unfold maxLen; omega) (by have h1 : cs.length ≤ 1048576 := hclen; show (cs.length + 1) * 48 ≤ 140737488355328; omega) (by simp; omega) ?_
          intro v' w6 hown1 hg1
          obtain ⟨gb, gc, rfl⟩ := own_shape hown1
          have hN6 := (hN5.alloc (.cells #[.string ⟨sp.toArray⟩, .string ⟨rv.toArray⟩, .int .i64 (q : Int), .int .i64 (s.size : Int)] 83)).app (cs' := cs ++ [⟨sp, rv, q⟩]) hg1 (by rw [cmCells_append, List.length_append, hcme]; exact hown1)
          obtain ⟨k0', k9', k1'⟩ := hN6.cur.lex.rd
          have k9' : w6.cell? ⟨lb, 9, none⟩ = some (.int .i64 (s.size : Int)) := k9'
          have k2' := (hN6.cur.lex.cell 2).1; have f2' := (hN6.cur.lex.cell 2).2
          simp only [LexSt.cells, LexSt.blank, List.getElem?_toArray, List.getElem?_cons_succ, List.getElem?_cons_zero] at k2'
          refine hK.out _ _ (by (try dsimp only); (first | assumption | exact ⟨by assumption, by assumption, by assumption⟩ | exact ⟨by rw [World.cell?_setCell_other _ _ _ _ (by simp)]; assumption, by rw [World.cell?_setCell_other _ _ _ _ (by simp)]; assumption, by rw [World.cell?_setCell_other _ _ _ _ (by simp)]; assumption⟩ | go_keep)) (fun hHeld => ?_)
          clear hK K
          try simp only [Act.put, List.getElem_toArray, List.getElem_cons_succ, List.getElem_cons_zero, List.setIfInBounds_toArray, List.set_cons_zero, List.set_cons_succ]
          refine wpAnyH_take (i := 28) (v := ?_) rfl (by kernel_rfl) (by kernel_rfl) (by kernel_rfl) (fun _ _ _ h => h) (Or.inl ⟨by rfl, ?_⟩) (by assumption) ?_
          rotate_left
          · intro wq hSw
            try dsimp only at hSw
            go_simp
            with_reducible rfl
          try simp only [Act.put, List.getElem_toArray, List.getElem_cons_succ, List.getElem_cons_zero, List.setIfInBounds_toArray, List.set_cons_zero, List.set_cons_succ]
          refine wpAnyH_take (i := 29) (v := ?_) rfl (by kernel_rfl) (by kernel_rfl) (by kernel_rfl) (fun _ _ _ h => h) (Or.inl ⟨by rfl, ?_⟩) (by assumption) ?_
          rotate_left
          · intro wq hSw
            try dsimp only at hSw
            go_simp
            with_reducible rfl
          try simp only [Act.put, List.getElem_toArray, List.getElem_cons_succ, List.getElem_cons_zero, List.setIfInBounds_toArray, List.set_cons_zero, List.set_cons_succ]
          refine wpAnyH_take (i := 30) (v := ?_) rfl (by kernel_rfl) (by kernel_rfl) (by kernel_rfl) (fun _ _ _ h => h) (Or.inl ⟨by rfl, ?_⟩) (by assumption) ?_
          rotate_left
          · intro wq hSw
            try dsimp only at hSw
            go_simp
            with_reducible rfl
          try simp only [Act.put, List.getElem_toArray, List.getElem_cons_succ, List.getElem_cons_zero, List.setIfInBounds_toArray, List.set_cons_zero, List.set_cons_succ]
          refine wpAnyH_ready (rs := [31]) (by kernel_rfl) (by simp) ?_
          refine AllReadyH.cons rfl (fun K hK => ?_) AllReadyH.nil
          try simp only [List.getElem_toArray, List.getElem_cons_succ, List.getElem_cons_zero]
          go_simp
          refine hK.out _ _ (by (try dsimp only); (first | assumption | exact ⟨by assumption, by assumption, by assumption⟩ | exact ⟨by rw [World.cell?_setCell_other _ _ _ _ (by simp)]; assumption, by rw [World.cell?_setCell_other _ _ _ _ (by simp)]; assumption, by rw [World.cell?_setCell_other _ _ _ _ (by simp)]; assumption⟩ | go_keep)) (fun hHeld => ?_)
          clear hK K
          try simp only [Act.put, List.getElem_toArray, List.getElem_cons_succ, List.getElem_cons_zero, List.setIfInBounds_toArray, List.set_cons_zero, List.set_cons_succ]
          refine wpAnyH_done (by kernel_rfl) ?_ _
          refine NoPanic.normal ?_
          have hN7 := hN6.set 2 (.slice (some ⟨gb, 0, none⟩) (cs.length + 1) gc) (x.blank (.slice (some ⟨gb, 0, none⟩) (cs.length + 1) gc) s.size) rfl (Nat.le_refl _)
          generalize w6.setCell ⟨lb, 2, none⟩ (.slice (some ⟨gb, 0, none⟩) (cs.length + 1) gc) = w7 at *
          have HN7 := Lib.hid hN7
          clear hN7 hN6 HN hown hown1 hg1 k0' k9' k1' k2' f2' c0 c9 c1 k2 f2 hk2a hk2b hN5
          have k1 := (HN7.out.cur.lex.cell 1).1; have f1 := (HN7.out.cur.lex.cell 1).2
          have k7 := (HN7.out.cur.lex.cell 7).1; have f7 := (HN7.out.cur.lex.cell 7).2
          have k8 := (HN7.out.cur.lex.cell 8).1; have f8 := (HN7.out.cur.lex.cell 8).2
          have k9 := (HN7.out.cur.lex.cell 9).1
          simp only [LexSt.cells, LexSt.blank, List.getElem?_toArray, List.getElem?_cons_succ, List.getElem?_cons_zero] at k1 k7 k8 k9
          go_wp2_with fail
          go_end0
          refine ⟨⟨kBad, cs ++ [⟨sp, rv, q⟩], [], [], [], 0, s.size, s.size⟩, x.dot, .slice (some ⟨gb, 0, none⟩) (cs.length + 1) gc, (fun t' d' hh => by cases hh), Nat.le_refl _, hpos, (fun hh => hh), (by show (cs ++ [(⟨sp, rv, q⟩ : Cm)]).length ≤ s.size + 1; rw [List.length_append]; show cs.length + 1 ≤ s.size + 1; omega), rfl, ?_⟩
          exact ((HN7.out.set 7 (.int .i64 (s.size : Int)) { x.blank (.slice (some ⟨gb, 0, none⟩) (cs.length + 1) gc) s.size with tpos := (s.size : Int) } rfl (Nat.le_refl _)).set 8 (.int .i64 (s.size : Int)) { x.blank (.slice (some ⟨gb, 0, none⟩) (cs.length + 1) gc) s.size with tpos := (s.size : Int), tend := (s.size : Int) } rfl (Nat.le_refl _)).set 1 (.string ⟨kBad.toArray⟩) _ rfl (Nat.le_refl _)
        ·
          refine AllReadyH.cons rfl (fun K hK => ?_) AllReadyH.nil
          try simp only [List.getElem_toArray, List.getElem_cons_succ, List.getElem_cons_zero]
          go_simp
          refine hK.out _ _ (by (try dsimp only); (first | assumption | exact ⟨by assumption, by assumption, by assumption⟩ | exact ⟨by rw [World.cell?_setCell_other _ _ _ _ (by simp)]; assumption, by rw [World.cell?_setCell_other _ _ _ _ (by simp)]; assumption, by rw [World.cell?_setCell_other _ _ _ _ (by simp)]; assumption⟩ | go_keep)) (fun hHeld => ?_)
          clear hK K
          try simp only [Act.put, List.getElem_toArray, List.getElem_cons_succ, List.getElem_cons_zero, List.setIfInBounds_toArray, List.set_cons_zero, List.set_cons_succ]
          refine wpAnyH_ready (rs := [5]) (by kernel_rfl) (by simp) ?_
          refine AllReadyH.cons rfl (fun K hK => ?_) AllReadyH.nil
          try simp only [List.getElem_toArray, List.getElem_cons_succ, List.getElem_cons_zero]
          go_simp
          refine hK.out _ _ (by (try dsimp only); (first | assumption | exact ⟨by assumption, by assumption, by assumption⟩ | exact ⟨by rw [World.cell?_setCell_other _ _ _ _ (by simp)]; assumption, by rw [World.cell?_setCell_other _ _ _ _ (by simp)]; assumption, by rw [World.cell?_setCell_other _ _ _ _ (by simp)]; assumption⟩ | go_keep)) (fun hHeld => ?_)
          clear hK K
          try simp only [Act.put, List.getElem_toArray, List.getElem_cons_succ, List.getElem_cons_zero, List.setIfInBounds_toArray, List.set_cons_zero, List.set_cons_succ]
          refine wpAnyH_ready (rs := [27]) (by kernel_rfl) (by simp) ?_
          refine AllReadyH.cons rfl (fun K hK => ?_) AllReadyH.nil
          try simp only [List.getElem_toArray, List.getElem_cons_succ, List.getElem_cons_zero]
          rw [if_pos (by rfl)]
          refine oper_append_Own rfl (.tmp 57) (.tmp 78) 59 rfl B 83 i0 (.agg #[.string ⟨#[]⟩, .string ⟨#[]⟩, .int .i64 0, .int .i64 0]) 4 48 Tryz.underlying59 hinf hz0 hz1 hz2 rfl (by decide) _ _ _ rfl (hown.alloc _) ⟨w4.heap.size, 0, none⟩ 1 1 [.string ⟨sp.toArray⟩, .string ⟨rv.toArray⟩, .int .i64 (q : Int), .int .i64 (s.size : Int)] rfl rfl (cell_four_new _ _ _ _ _ _) (by simp [Value.oneCell']) (by have h1 : cs.length ≤ 1048576 := hclen; show cs.length + 1 ≤ maxLen; unfold maxLen; omega) (by have h1 : cs.length ≤ 1048576 := hclen; show (cs.length + 1) * 48 ≤ 140737488355328; omega) (by simp; omega) ?_
          intro v' w6 hown1 hg1
          obtain ⟨gb, gc, rfl⟩ := own_shape hown1
          have hN6 := (hN5.alloc (.cells #[.string ⟨sp.toArray⟩, .string ⟨rv.toArray⟩, .int .i64 (q : Int), .int .i64 (s.size : Int)] 83)).app (cs' := cs ++ [⟨sp, rv, q⟩]) hg1 (by rw [cmCells_append, List.length_append, hcme]; exact hown1)
          obtain ⟨k0', k9', k1'⟩ := hN6.cur.lex.rd
          have k9' : w6.cell? ⟨lb, 9, none⟩ = some (.int .i64 (s.size : Int)) := k9'
          have k2' := (hN6.cur.lex.cell 2).1; have f2' := (hN6.cur.lex.cell 2).2
          simp only [LexSt.cells, LexSt.blank, List.getElem?_toArray, List.getElem?_cons_succ, List.getElem?_cons_zero] at k2'
          refine hK.out _ _ (by (try dsimp only); (first | assumption | exact ⟨by assumption, by assumption, by assumption⟩ | exact ⟨by rw [World.cell?_setCell_other _ _ _ _ (by simp)]; assumption, by rw [World.cell?_setCell_other _ _ _ _ (by simp)]; assumption, by rw [World.cell?_setCell_other _ _ _ _ (by simp)]; assumption⟩ | go_keep)) (fun hHeld => ?_)
          clear hK K
          try simp only [Act.put, List.getElem_toArray, List.getElem_cons_succ, List.getElem_cons_zero, List.setIfInBounds_toArray, List.set_cons_zero, List.set_cons_succ]
          refine wpAnyH_take (i := 28) (v := ?_) rfl (by kernel_rfl) (by kernel_rfl) (by kernel_rfl) (fun _ _ _ h => h) (Or.inl ⟨by rfl, ?_⟩) (by assumption) ?_
          rotate_left
          · intro wq hSw
            try dsimp only at hSw
            go_simp
            with_reducible rfl
          try simp only [Act.put, List.getElem_toArray, List.getElem_cons_succ, List.getElem_cons_zero, List.setIfInBounds_toArray, List.set_cons_zero, List.set_cons_succ]
          refine wpAnyH_take (i := 29) (v := ?_) rfl (by kernel_rfl) (by kernel_rfl) (by kernel_rfl) (fun _ _ _ h => h) (Or.inl ⟨by rfl, ?_⟩) (by assumption) ?_
          rotate_left
          · intro wq hSw
            try dsimp only at hSw
            go_simp
            with_reducible rfl
          try simp only [Act.put, List.getElem_toArray, List.getElem_cons_succ, List.getElem_cons_zero, List.setIfInBounds_toArray, List.set_cons_zero, List.set_cons_succ]
          refine wpAnyH_take (i := 30) (v := ?_) rfl (by kernel_rfl) (by kernel_rfl) (by kernel_rfl) (fun _ _ _ h => h) (Or.inl ⟨by rfl, ?_⟩) (by assumption) ?_
          rotate_left
          · intro wq hSw
            try dsimp only at hSw
            go_simp
            with_reducible rfl
          try simp only [Act.put, List.getElem_toArray, List.getElem_cons_succ, List.getElem_cons_zero, List.setIfInBounds_toArray, List.set_cons_zero, List.set_cons_succ]
          refine wpAnyH_ready (rs := [31]) (by kernel_rfl) (by simp) ?_
          refine AllReadyH.cons rfl (fun K hK => ?_) AllReadyH.nil
          try simp only [List.getElem_toArray, List.getElem_cons_succ, List.getElem_cons_zero]
          go_simp
          refine hK.out _ _ (by (try dsimp only); (first | assumption | exact ⟨by assumption, by assumption, by assumption⟩ | exact ⟨by rw [World.cell?_setCell_other _ _ _ _ (by simp)]; assumption, by rw [World.cell?_setCell_other _ _ _ _ (by simp)]; assumption, by rw [World.cell?_setCell_other _ _ _ _ (by simp)]; assumption⟩ | go_keep)) (fun hHeld => ?_)
          clear hK K
          try simp only [Act.put, List.getElem_toArray, List.getElem_cons_succ, List.getElem_cons_zero, List.setIfInBounds_toArray, List.set_cons_zero, List.set_cons_succ]
          refine wpAnyH_done (by kernel_rfl) ?_ _
          refine NoPanic.normal ?_
          have hN7 := hN6.set 2 (.slice (some ⟨gb, 0, none⟩) (cs.length + 1) gc) (x.blank (.slice (some ⟨gb, 0, none⟩) (cs.length + 1) gc) s.size) rfl (Nat.le_refl _)
          generalize w6.setCell ⟨lb, 2, none⟩ (.slice (some ⟨gb, 0, none⟩) (cs.length + 1) gc) = w7 at *
          have HN7 := Lib.hid hN7
          clear hN7 hN6 HN hown hown1 hg1 k0' k9' k1' k2' f2' c0 c9 c1 k2 f2 hk2a hk2b hN5
          have k1 := (HN7.out.cur.lex.cell 1).1; have f1 := (HN7.out.cur.lex.cell 1).2
          have k7 := (HN7.out.cur.lex.cell 7).1; have f7 := (HN7.out.cur.lex.cell 7).2
          have k8 := (HN7.out.cur.lex.cell 8).1; have f8 := (HN7.out.cur.lex.cell 8).2
          have k9 := (HN7.out.cur.lex.cell 9).1
          simp only [LexSt.cells, LexSt.blank, List.getElem?_toArray, List.getElem?_cons_succ, List.getElem?_cons_zero] at k1 k7 k8 k9
          go_wp2_with fail
          go_end0
          refine ⟨⟨kBad, cs ++ [⟨sp, rv, q⟩], [], [], [], 0, s.size, s.size⟩, x.dot, .slice (some ⟨gb, 0, none⟩) (cs.length + 1) gc, (fun t' d' hh => by cases hh), Nat.le_refl _, hpos, (fun hh => hh), (by show (cs ++ [(⟨sp, rv, q⟩ : Cm)]).length ≤ s.size + 1; rw [List.length_append]; show cs.length + 1 ≤ s.size + 1; omega), rfl, ?_⟩
          exact ((HN7.out.set 7 (.int .i64 (s.size : Int)) { x.blank (.slice (some ⟨gb, 0, none⟩) (cs.length + 1) gc) s.size with tpos := (s.size : Int) } rfl (Nat.le_refl _)).set 8 (.int .i64 (s.size : Int)) { x.blank (.slice (some ⟨gb, 0, none⟩) (cs.length + 1) gc) s.size with tpos := (s.size : Int), tend := (s.size : Int) } rfl (Nat.le_refl _)).set 1 (.string ⟨kBad.toArray⟩) _ rfl (Nat.le_refl _)
end Go.Proofs.YtcelnnjjakiehaaGreatDoor
