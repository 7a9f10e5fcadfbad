/-
  Memory laws of no program: a slice value that owns a row of cells, whatever stretch of the row is frozen outside the spare part; append onto it; strings to bytes and back.
-/
import Derived.WalkKit
import Derived.WalkSpells
import Derived.WalkLawsBesides
import Derived.Lib.Hide
import Derived.Lib.ConvBytes
import Derived.Lib.AppendStr
import Derived.Laws.BytesArg
import Derived.ProofKit
import Derived.OpenShut
import Derived.ShutString
namespace Go.Proofs.YtcelnnjjakiehaaGreatDoor
open Go.RowKit

/-- the bytes of a list as cells -/
def bv (l : List UInt8) : List Value := l.map fun b => Value.int .u8 b.toNat
theorem bv_length (l : List UInt8) : (bv l).length = l.length := by simp [bv]
theorem bv_append (l m : List UInt8) : bv (l ++ m) = bv l ++ bv m := by simp [bv]
theorem bv_oneCell (l : List UInt8) : ∀ u ∈ bv l, u.oneCell' = true := by
  intro u hu
  simp only [bv, List.mem_map] at hu
  obtain ⟨b, _, rfl⟩ := hu
  rfl
theorem bv_get (l : List UInt8) (j : Nat) (h : j < l.length) : (bv l)[j]? = some (.int .u8 (l[j]).toNat) := by
  simp [bv, h]
theorem bv_set (l : List UInt8) (j : Nat) (c : UInt8) : (bv l).set j (.int .u8 c.toNat) = bv (l.set j c) := by
  simp [bv, List.map_set]

/-- 'v', of n elements of 'size' cells each, owns the cells xs; what of its row is frozen lies outside the spare part -/
def Own (w : World) (base : Nat) (e : TypeId) (size : Nat) (v : Value) (n : Nat) (xs : List Value) : Prop :=
  xs.length = n * size ∧
  ((v = .slice none 0 0 ∧ n = 0) ∨
   ∃ g cap cur fz, v = .slice (some ⟨g, 0, none⟩) n cap ∧ base ≤ g ∧ w.heap[g]? = some (.cells cur e fz) ∧ (fz = (0, 0) ∨ cap * size ≤ fz.1) ∧ n ≤ cap ∧ cap ≤ maxLen ∧ cur.size = cap * size ∧ cur.toList.take (n * size) = xs)

section
variable {w : World} {base : Nat} {e : TypeId} {size : Nat} {v : Value} {n : Nat} {xs : List Value}

theorem Own.nil (w : World) (base : Nat) (e : TypeId) (size : Nat) : Own w base e size (.slice none 0 0) 0 [] := ⟨by simp, .inl ⟨rfl, rfl⟩⟩

theorem Own.lt (h : Own w base e size v n xs) : ∀ k, v.ownBlock = some k → base ≤ k ∧ k < w.heap.size := by
  intro k hk
  rcases h.2 with ⟨rfl, _⟩ | ⟨g, cap, cur, fz, rfl, hb, hg, _⟩
  · simp [Value.ownBlock] at hk
  · simp [Value.ownBlock] at hk
    subst hk
    exact ⟨hb, (Array.getElem?_eq_some_iff.1 hg).1⟩

theorem Own.keptB {w' : World} (h : Own w base e size v n xs) (hg : ∀ g, v.ownBlock = some g → w'.heap[g]? = w.heap[g]?) : Own w' base e size v n xs := by
  refine ⟨h.1, ?_⟩
  rcases h.2 with hn | ⟨g, cap, cur, fz, rfl, hb, hgg, rest⟩
  · exact .inl hn
  · exact .inr ⟨g, cap, cur, fz, rfl, hb, by rw [hg g rfl]; exact hgg, rest⟩

theorem Own.kept {w' : World} {row : Option Nat} (h : Own w base e size v n xs) (hg : w.grownBy w' row) (hne : v.ownBlock = none ∨ v.ownBlock ≠ row) : Own w' base e size v n xs := by
  refine h.keptB fun g hgv => hg.block g (h.lt g hgv).2 ?_
  rcases hne with hne | hne
  · rw [hgv] at hne; cases hne
  · rw [hgv] at hne; exact hne

theorem Own.below {w' : World} {B : Nat} (h : Own w base e size v n xs) (hb : Below B w w') (hlt : ∀ g, v.ownBlock = some g → g < B) : Own w' base e size v n xs :=
  h.keptB fun g hgv => hb.block g (hlt g hgv)

theorem Own.alloc (h : Own w base e size v n xs) (o : Obj) : Own (w.alloc o) base e size v n xs :=
  h.kept (World.grownBy_alloc w o none) (by cases hv : v.ownBlock <;> simp)

theorem Own.drew (h : Own w base e size v n xs) : Own w.drew base e size v n xs := h.keptB fun _ _ => rfl

theorem Own.mono {base' : Nat} (h : Own w base e size v n xs) (hb : base' ≤ base) : Own w base' e size v n xs := by
  refine ⟨h.1, ?_⟩
  rcases h.2 with hn | ⟨g, cap, cur, fz, rfl, hb', rest⟩
  · exact .inl hn
  · exact .inr ⟨g, cap, cur, fz, rfl, Nat.le_trans hb hb', rest⟩

theorem Own.cells (h : Own w base e size v n xs) {g : Nat} (hg : v.ownBlock = some g) : ∀ j u, xs[j]? = some u → w.cell? ((⟨g, 0, none⟩ : Addr).add j) = some u := by
  intro j u hu
  rcases h.2 with ⟨rfl, _⟩ | ⟨g', cap, cur, fz, rfl, _, hgg, _, _, _, _, htake⟩
  · simp [Value.ownBlock] at hg
  · simp [Value.ownBlock] at hg
    subst hg
    have hadd : (⟨g', 0, none⟩ : Addr).add j = ⟨g', j, none⟩ := by unfold Addr.add; split <;> simp_all
    rw [hadd, cell_of_row w g' j cur e fz hgg]
    rw [← htake, List.getElem?_take] at hu
    split at hu
    · simpa using hu
    · cases hu

/-- the value itself: nil or at the head of a row -/
theorem Own.shape (h : Own w base e size v n xs) : (v = .slice none 0 0 ∧ n = 0 ∧ xs = []) ∨ ∃ g cap, v = .slice (some ⟨g, 0, none⟩) n cap ∧ base ≤ g ∧ g < w.heap.size ∧ n ≤ cap ∧ cap ≤ maxLen := by
  rcases h.2 with ⟨rfl, rfl⟩ | ⟨g, cap, cur, fz, rfl, hb, hg, _, hn, hc, _⟩
  · exact .inl ⟨rfl, rfl, List.eq_nil_of_length_eq_zero (by simpa using h.1)⟩
  · exact .inr ⟨g, cap, rfl, hb, (Array.getElem?_eq_some_iff.1 hg).1, hn, hc⟩

theorem Own.le (h : Own w base e size v n xs) : n ≤ maxLen := by
  rcases h.shape with ⟨_, rfl, _⟩ | ⟨_, _, _, _, _, h1, h2⟩
  · exact Nat.zero_le _
  · exact Nat.le_trans h1 h2

theorem Own.cellAt {g cap : Nat} (h : Own w base e size (.slice (some ⟨g, 0, none⟩) n cap) n xs) (j : Nat) (hj : j < n * size) : w.cell? ⟨g, j, none⟩ = xs[j]? := by
  rcases h.2 with ⟨h', _⟩ | ⟨g', cap', cur, fz, h', _, hg, _, _, _, _, htake⟩
  · simp at h'
  · simp only [Value.slice.injEq, Option.some.injEq, Addr.mk.injEq, and_true, true_and] at h'
    obtain ⟨rfl, rfl⟩ := h'
    rw [cell_of_row w g j cur e fz hg, ← htake, List.getElem?_take, if_pos hj]
    simp

theorem Own.frozenAt {g cap : Nat} (h : Own w base e size (.slice (some ⟨g, 0, none⟩) n cap) n xs) (j : Nat) (hj : j < n * size) : w.frozen? ⟨g, j, none⟩ = false := by
  rcases h.2 with ⟨h', _⟩ | ⟨g', cap', cur, fz, h', _, hg, hfz, hnc, _, _, _⟩
  · simp at h'
  · simp only [Value.slice.injEq, Option.some.injEq, Addr.mk.injEq, and_true, true_and] at h'
    obtain ⟨rfl, rfl⟩ := h'
    obtain ⟨lo, hi⟩ := fz
    simp only [World.frozen?, hg, Bool.and_eq_false_iff, decide_eq_false_iff_not]
    rcases hfz with hfz | hfz
    · obtain ⟨rfl, rfl⟩ := Prod.mk.inj hfz
      right; omega
    · left
      have := Nat.mul_le_mul_right size hnc
      simp only at hfz; omega

theorem Own.stored {g cap : Nat} (h : Own w base e size (.slice (some ⟨g, 0, none⟩) n cap) n xs) (j : Nat) (u : Value) :
    Own (w.setCell ⟨g, j, none⟩ u) base e size (.slice (some ⟨g, 0, none⟩) n cap) n (xs.set j u) := by
  rcases h.2 with ⟨h', _⟩ | ⟨g', cap', cur, fz, h', hb, hg, hfz, hnc, hcm, hcs, htake⟩
  · simp at h'
  · simp only [Value.slice.injEq, Option.some.injEq, Addr.mk.injEq, and_true, true_and] at h'
    obtain ⟨rfl, rfl⟩ := h'
    refine ⟨by simpa using h.1, .inr ⟨g, cap, cur.setIfInBounds j u, fz, rfl, hb, ?_, hfz, hnc, hcm, by simpa using hcs, ?_⟩⟩
    · simp [World.setCell, Array.getElem?_modify, hg]
    · rw [Array.toList_setIfInBounds, ← htake, List.take_set]

/-- a store elsewhere -/
theorem Own.other (h : Own w base e size v n xs) {a : Addr} (ha : v.ownBlock ≠ some a.block) (u : Value) : Own (w.setCell a u) base e size v n xs :=
  h.keptB fun g hg => Below.heap_setCell _ _ _ _ (fun eq => ha (by rw [hg, eq]))

theorem Own.made (w : World) (cur : Array Value) (n cap : Nat) (hb : base ≤ w.heap.size) (hn : n ≤ cap) (hm : cap ≤ maxLen) (hs : cur.size = cap * size) :
    Own (w.alloc (.cells cur e)) base e size (.slice (some ⟨w.heap.size, 0, none⟩) n cap) n (cur.toList.take (n * size)) :=
  ⟨by rw [List.length_take, Array.length_toList, hs]; exact Nat.min_eq_left (Nat.mul_le_mul_right _ hn), .inr ⟨w.heap.size, cap, cur, (0, 0), rfl, hb, heap_alloc_new w _, .inl rfl, hn, hm, hs, rfl⟩⟩
end

/-- storing cells in a row from a place on behind which nothing is frozen -/
theorem run_storeCells_free (P : Program) (g o : Nat) (t : TypeId) (fz : Nat × Nat) : ∀ (vs : List Value) (i : Nat) (cur : Array Value) (w : World), w.heap[g]? = some (.cells cur t fz) → (fz = (0, 0) ∨ cur.size ≤ fz.1) → o + i + vs.length ≤ cur.size → (∀ v ∈ vs, v.oneCell' = true) →
    (storeCells ⟨g, o, none⟩ vs i).run P w = .ok () (w.setRow g (cur.toList.take (o + i) ++ vs ++ cur.toList.drop (o + i + vs.length)).toArray)
  | [], i, cur, w, hg, _, _, _ => by
    simp only [storeCells, List.append_nil, List.length_nil, Nat.add_zero, List.take_append_drop, Array.toArray_toList]
    rw [setRow_self w g cur t fz hg]
    rfl
  | v :: rest, i, cur, w, hg, hfz, hl, h1 => by
    have hi : o + i < cur.size := by simp at hl; omega
    have hadd : (⟨g, o, none⟩ : Addr).add i = ⟨g, o + i, none⟩ := by unfold Addr.add; split <;> simp_all
    have hcell : w.cell? ⟨g, o + i, none⟩ = some cur[o + i] := by simp [World.cell?, hg, hi]
    have hfro : w.frozen? ⟨g, o + i, none⟩ = false := by
      obtain ⟨lo, hi'⟩ := fz
      simp only [World.frozen?, hg, Bool.and_eq_false_iff, decide_eq_false_iff_not]
      rcases hfz with hfz | hfz
      · obtain ⟨rfl, rfl⟩ := Prod.mk.inj hfz
        right; omega
      · left; simp only at hfz; omega
    have hst : (store ((⟨g, o, none⟩ : Addr).add i) v).run P w = .ok () (w.setRow g (cur.setIfInBounds (o + i) v)) := by
      rw [hadd, run_store P w _ v _ (h1 v (by simp)), hcell]
      simp [hfro, setCell_eq_setRow w g (o + i) cur t fz v hg]
    have ih := run_storeCells_free P g o t fz rest (i + 1) (cur.setIfInBounds (o + i) v) (w.setRow g (cur.setIfInBounds (o + i) v)) (setRow_heap w g cur _ t _ hg) (by simpa using hfz) (by simp at hl ⊢; omega) (fun x hx => h1 x (by simp [hx]))
    simp only [storeCells, Sem.run_bind, hst, Result.andThen_ok, ih, setRow_setRow]
    congr 3
    have e := list_seg_step cur.toList (o + i) v rest (by simp at hl ⊢; omega)
    simpa [Array.toList_setIfInBounds, Nat.add_assoc] using e

section
variable {P : Program} (w : World)

/-- append of a slice's cells onto an owned row -/
theorem run_append_Own (base : Nat) (t ty e : TypeId) (i : TypeInfo) (z : Value) (size bytes : Nat) (ht : P.underlying t = some (.slice e)) (hi : P.info? e = some i) (hz : i.zero = some z)
    (hsize : i.size = size) (hby : i.bytes = bytes) (hzs : z.cells.size = size) (hsz : 0 < size)
    (v : Value) (n : Nat) (xs : List Value) (hown : Own w base e size v n xs)
    (a : Addr) (m c : Nat) (news : List Value) (hl : news.length = m * size) (hnews : ∀ j u, news[j]? = some u → w.cell? (a.add j) = some u) (h1 : ∀ u ∈ news, u.oneCell' = true)
    (h63 : n + m ≤ maxLen) (hbytes : (n + m) * bytes ≤ 140737488355328) (hbase : base ≤ w.heap.size) :
    ∃ v' w', (Builtin.append_ #[t, t] ty #[v, .slice (some a) m c]).run P w = .ok v' w' ∧ Own w' base e size v' (n + m) (xs ++ news) ∧ w.grownBy w' v.ownBlock ∧
      (v'.ownBlock = v.ownBlock ∨ v'.ownBlock = some w.heap.size) ∧ (0 < m → v' ≠ .slice none 0 0) := by
  subst hsize
  subst hby
  have hsmall : n + m ≤ 9223372036854775807 := by simp only [maxLen] at h63; omega
  have hlen : (xs ++ news).length = (n + m) * i.size := by rw [List.length_append, hown.1, hl, Nat.add_mul]
  rcases hown.2 with ⟨rfl, rfl⟩ | ⟨g, cap, cur, fz, rfl, hbg, hg, hfz, hnc, hcm, hcs, htake⟩
  · obtain ⟨v', w', r1, r2, r3, r4⟩ := run_append_own (P := P) w base t ty e i z i.size i.bytes ht hi hz rfl rfl hzs hsz (.slice none 0 0) 0 xs ⟨hown.1, .inl ⟨rfl, rfl⟩⟩ a m c news hl hnews h1 h63 hbytes hbase
    have r2' : Own w' base e i.size v' (0 + m) (xs ++ news) := by
      refine ⟨r2.1, ?_⟩
      rcases r2.2 with hn | ⟨g, cap, cur, hv, hb, hg, hr⟩
      · exact .inl hn
      · exact .inr ⟨g, cap, cur, (0, 0), hv, hb, hg, .inl rfl, hr⟩
    refine ⟨v', w', r1, r2', r3, ?_, fun h0 e => by have := r4.1 e; omega⟩
    by_cases hm : m = 0
    · left; rw [r4.2 ⟨rfl, hm⟩]
    · right
      have hxs : xs = [] := List.eq_nil_of_length_eq_zero (by simpa using hown.1)
      have hr := run_append_nil (P := P) w t ty e i z ht hi hz a m c news hl hnews (by omega) (by omega) (by have hb := hbytes; simp only [Nat.zero_add] at hb; omega)
      rw [r1] at hr
      simp only [Result.ok.injEq] at hr
      rw [hr.1]; rfl
  · by_cases hroom : n + m ≤ cap
    · have hfit : n * i.size + news.length ≤ cur.size := by rw [hl, hcs, ← Nat.add_mul]; exact Nat.mul_le_mul_right _ hroom
      have hf := run_firstCells_some (P := P) w i.size m a m c news hl hnews
      have hst := run_storeCells_free P g (n * i.size) e fz news 0 cur w hg (by rw [hcs]; exact hfz) (by simpa using hfit) h1
      simp only [Nat.add_zero] at hst
      have hr : (Builtin.append_ #[t, t] ty #[.slice (some ⟨g, 0, none⟩) n cap, .slice (some a) m c]).run P w =
          .ok (.slice (some ⟨g, 0, none⟩) (n + m) cap) (w.setRow g (cur.toList.take (n * i.size) ++ news ++ cur.toList.drop (n * i.size + news.length)).toArray) := by
        simp [Builtin.append_, run_underlying ht, sizeOf, typeInfo, hi, Builtin.lenOf, hroom, hf, Addr.add_lit, hst]
      refine ⟨_, _, hr, ⟨hlen, .inr ⟨g, cap, _, fz, rfl, hbg, setRow_heap w g cur _ e _ hg, hfz, hroom, hcm, ?_, ?_⟩⟩, ⟨rfl, rfl, rfl, by simp, fun k _ hk => setRow_other w g k _ (fun e => hk (by simp [Value.ownBlock, e]))⟩, .inl rfl, by simp⟩
      · simp only [List.size_toArray, List.length_append, List.length_take, List.length_drop, Array.length_toList]
        omega
      · rw [htake, ← hlen]
        exact List.take_left
    · have holds : ∀ j u, xs[j]? = some u → w.cell? ((⟨g, 0, none⟩ : Addr).add j) = some u := hown.cells (g := g) rfl
      have hr := run_append_grow (P := P) w t ty e i z ht hi hz ⟨g, 0, none⟩ n cap xs hown.1 holds a m c news hl hnews (by omega) (by omega) (growslice_fits (by omega) hbytes)
      have hge := grownCap_ge w (n + m) cap e
      have hcm2 : grownCap w (n + m) cap e ≤ maxLen := grownCap_le_maxLen w (n + m) cap e h63
      refine ⟨_, _, hr, ⟨hlen, .inr ⟨w.heap.size, _, _, (0, 0), rfl, hbase, heap_alloc_new w.drew _, .inl rfl, hge, hcm2, ?_, ?_⟩⟩, ⟨rfl, rfl, rfl, by simp, fun k hk _ => Below.heap_alloc w.drew _ k hk⟩, .inr rfl, by simp⟩
      · simp only [Array.size_append, List.size_toArray, size_zeroCells, hzs, hown.1, hl, ← Nat.add_mul]
        congr 1
        omega
      · simp only [Array.toList_append, List.append_assoc]
        rw [← List.append_assoc, ← hlen]
        exact List.take_left

theorem wpList_append_Own {ops : Array Oper} {rest : List Oper} {o : Oper} {a : Act} {Q : Exit → Act → World → Prop} (hgd : o.guard = none) (s x : Operand) (t : TypeId)
    (ho : o.op = .call { callee := .builtin .append, args := #[s, x], argTypes := #[t, t] })
    (base : Nat) (e : TypeId) (i : TypeInfo) (z : Value) (size bytes : Nat) (ht : P.underlying t = some (.slice e)) (hi : P.info? e = some i) (hz : i.zero = some z)
    (hsize : i.size = size) (hby : i.bytes = bytes) (hzs : z.cells.size = size) (hsz : 0 < size)
    (v : Value) (n : Nat) (xs : List Value) (hs : a.eval s = v) (hown : Own w base e size v n xs)
    (ad : Addr) (m c : Nat) (news : List Value) (hx : a.eval x = .slice (some ad) m c) (hl : news.length = m * size) (hnews : ∀ j u, news[j]? = some u → w.cell? (ad.add j) = some u) (h1 : ∀ u ∈ news, u.oneCell' = true)
    (h63 : n + m ≤ maxLen) (hbytes : (n + m) * bytes ≤ 140737488355328) (hbase : base ≤ w.heap.size)
    (h : ∀ v' w', Own w' base e size v' (n + m) (xs ++ news) → w.grownBy w' v.ownBlock → (v'.ownBlock = v.ownBlock ∨ v'.ownBlock = some w.heap.size) → (0 < m → v' ≠ .slice none 0 0) → wpList P ops Q rest (a.put o.dst v') w') : wpList P ops Q (o :: rest) a w := by
  refine wpList_plain hgd fun K hK => ?_
  obtain ⟨v', w', hr, h2, h3, h4, h5⟩ := run_append_Own (P := P) w base t o.type e i z size bytes ht hi hz hsize hby hzs hsz v n xs hown ad m c news hl hnews h1 h63 hbytes hbase
  unfold Oper.wp execOp
  simp only [ho, resolve, invoke, builtin, Sem.run_bind, Sem.run_pure, Result.andThen_ok, List.map_toArray, List.map_cons, List.map_nil, hs, hx, hr]
  exact hK _ _ (h v' w' h2 h3 h4 h5)

end

/-- the row that '[]byte(s)' makes -/
theorem own_bytesWorld (w : World) (base : Nat) (e : TypeId) (s : ByteArray) (hb : base ≤ w.heap.size) (hs : s.size ≤ maxLen) :
    Own (Lib.bytesWorld w e s) base e 1 (.slice (some ⟨w.heap.size, 0, none⟩) s.size (grownCap w s.size 0 e)) s.size (bv s.data.toList) := by
  have hge := grownCap_ge w s.size 0 e
  have hz : (Lib.bytesCells w e s).size = grownCap w s.size 0 e := by
    have : s.data.size = s.size := rfl
    simp [Lib.bytesCells]; omega
  have hl : s.data.size = s.size := rfl
  refine ⟨by simp [bv, hl], .inr ⟨w.heap.size, _, _, _, rfl, hb, Lib.bytesWorld_at_new w e s, .inr (by simp [hz]), hge, grownCap_le_maxLen w s.size 0 e hs, by simp [hz], ?_⟩⟩
  simp only [Lib.bytesCells, bv, Nat.mul_one, Array.toList_append, Array.toList_map]
  exact List.take_left' (by rw [List.length_map, Array.length_toList, hl])

theorem below_bytesWorld (w : World) (e : TypeId) (s : ByteArray) : Below w.heap.size w (Lib.bytesWorld w e s) :=
  ⟨rfl, rfl, rfl, by rw [Lib.bytesWorld_size]; omega, fun k hk => Lib.bytesWorld_at_old w e s k hk⟩

/-- 'string(b)' of an owned row of bytes -/
theorem run_string_Own {P : Program} {w : World} {base : Nat} {e : TypeId} {v : Value} {n : Nat} {l : List UInt8} (h : Own w base e 1 v n (bv l)) (src dst : TypeId)
    (hs : P.underlying src = some (.slice e)) (he : P.underlying e = some (.int .u8)) (hd : P.underlying dst = some .string) :
    (convert src dst v).run P w = .ok (.string ⟨l.toArray⟩) w := by
  have hln : l.length = n := by have := h.1; rw [bv_length] at this; omega
  rcases h.shape with ⟨rfl, rfl, hx⟩ | ⟨g, cap, rfl, _⟩
  · rw [run_convert_bytes_nil w src e hs he 0 0 dst hd]
    have : l = [] := List.eq_nil_of_length_eq_zero hln
    subst this; rfl
  · rw [run_convert_bytes_arg w src e hs he g 0 n cap (l.map fun b => (b.toNat : Int)) (by simpa using hln) (fun i hi => by
      rw [Nat.zero_add, h.cellAt i (by omega), bv_get l i (by omega)]
      simp [List.getD, show i < l.length by omega]) dst hd]
    congr 1
    simp only [strOfNums, List.map_map]
    congr 2
    refine congrArg List.toArray ?_
    conv => rhs; rw [← List.map_id l]
    apply List.map_congr_left
    intro b _
    simp

/-- the parts of a type's row in the table -/
theorem below_cell {W w1 : World} {B : Nat} (hb : Below B W w1) : (∀ b o, b < B → w1.cell? ⟨b, o, none⟩ = W.cell? ⟨b, o, none⟩) ∧ (∀ b o, b < B → w1.frozen? ⟨b, o, none⟩ = W.frozen? ⟨b, o, none⟩) :=
  ⟨fun b o h => hb.cell (p := ⟨b, o, none⟩) h, fun b o h => hb.frozen (p := ⟨b, o, none⟩) h⟩

theorem grownBy_set (w : World) (lb k : Nat) (v : Value) : w.grownBy (w.setCell ⟨lb, k, none⟩ v) (some lb) :=
  ⟨rfl, rfl, rfl, by simp [World.setCell], fun j _ hj => Below.heap_setCell _ _ _ _ (fun e => hj (by rw [e]))⟩
theorem grownBy_drewN (w : World) (n : Nat) (r : Option Nat) : w.grownBy (w.drewN n) r := ⟨rfl, rfl, rfl, Nat.le_refl _, fun _ _ _ => rfl⟩
theorem grownBy_trans {a b c : World} {r : Option Nat} (h : a.grownBy b r) (k : b.grownBy c r) : a.grownBy c r :=
  ⟨k.os.trans h.os, k.tape.trans h.tape, k.output.trans h.output, Nat.le_trans h.size k.size, fun i hi hr => (k.block i (Nat.lt_of_lt_of_le hi h.size) hr).trans (h.block i hi hr)⟩
theorem grownBy_below {a b : World} (h : Below a.heap.size a b) (r : Option Nat) : a.grownBy b r := ⟨h.os, h.tape, h.output, h.size, fun k hk _ => h.block k hk⟩
theorem below_drewN (w : World) (n B : Nat) : Below B w (w.drewN n) := ⟨rfl, rfl, rfl, Nat.le_refl _, fun _ _ => rfl⟩
theorem ret_bool {a b : Bool} (h : a = b) : Ending.returned (.bool a) = .returned (.bool b) := by rw [h]
theorem ret_int {k : IntKind} {a b : Int} (h : a = b) : Ending.returned (.int k a) = .returned (.int k b) := by rw [h]
theorem ret_str {a b : ByteArray} (h : a = b) : Ending.returned (.string a) = .returned (.string b) := by rw [h]
theorem take_snoc (s : ByteArray) (k : Nat) (h : k < s.size) : s.data.toList.take (k + 1) = s.data.toList.take k ++ [s[k]] := by
  rw [List.take_succ_eq_append_getElem (by simpa using h)]; rfl
theorem ba_toList_length (s : ByteArray) : s.data.toList.length = s.size := Array.length_toList
theorem ba_ext {a b : ByteArray} (h : a.data.toList = b.data.toList) : a = b := by
  cases a; cases b; simp only at h; congr 1; exact Array.ext' h

/-- THE ROW's POST where nothing that was there before the call has turned (the row does not say 'again') -/
theorem post_of_below {H : Type} {enc : TypeId × Value → H} {P : Program} {f : Func} {s : ChangeSpec} {apart fresh handsOn : Bool} {W W' : World} {args : Array Value} {v : Value} {ds gs : List (DataW H)} {before pa pv : List MemPlace}
    (hW : DataW.Whole enc P f.params.toList s.vars apart W args.toList ds gs before)
    (hres : ∀ (b : Nat) (sp : Nat → Bool) (hd : Bool), DataW.TrodAll enc P W' b sp hd f.resultTypes.toList (v.resultList f.resultTypes.size) (s.fn H (ds ++ gs)).results [])
    (hargs : ∀ sp : Nat → Bool, (∀ p ∈ before, sp p.block = true) → DataW.TrodAll enc P W' 0 sp true f.params.toList args.toList (s.fn H (ds ++ gs)).args pa)
    (hvars : ∀ sp : Nat → Bool, (∀ p ∈ before, sp p.block = true) → DataW.TrodVars enc P W' sp s.vars (s.fn H (ds ++ gs)).vars pv)
    (hps : before = pa ++ pv) (hb : Below W.heap.size W W') :
    s.post enc P f apart fresh handsOn false W args v W' := by
  have hold : ∀ p ∈ before, (fun b => decide (b < W.heap.size)) p.block = true := fun p hp => by simpa using hW.lt p hp
  refine ⟨ds, gs, before, [], pa, pv, hW, hres _ _ _, hargs _ hold, hvars _ hold, World.keptBut_mono (fun p hp => ⟨hp, ?_⟩) (hb.frame (· ∈ before)), fun h => by cases h⟩
  rw [hps, List.mem_append] at hp
  exact Or.inr hp

end Go.Proofs.YtcelnnjjakiehaaGreatDoor
