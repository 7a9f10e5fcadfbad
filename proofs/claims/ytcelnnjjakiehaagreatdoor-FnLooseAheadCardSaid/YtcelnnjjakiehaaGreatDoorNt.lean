/-
  The contract of NextToken: a fault comes back as an error.
-/
import Derived.Test.YtcelnnjjakiehaaGreatDoorNext
import Derived.Tactics
import Derived.Tactics2
import Derived.Defers
import Derived.Recover
import Derived.Laws.Pointers
namespace Go.Proofs.YtcelnnjjakiehaaGreatDoor
open Go.RowKit
set_option linter.unusedVariables false
set_option maxRecDepth 20000
set_option maxHeartbeats 1000000

theorem catch_panicking (p : Addr) (x pv : Value) (older : List PanicEntry) (w : World) (hc : w.cell? p = some x) (hz : w.frozen? p = false) :
    CallsD Tryz.prog 42 #[.pointer (some p)] (.panicking ({ v := .iface 72 pv, recovered := false } :: older)) w fun e u' w' =>
      e = .returned (.tuple #[]) ∧ u' = .panicking ({ v := .iface 72 pv, recovered := true } :: older) ∧ w' = w.setCell p (.iface 72 pv) := by
  have hrep : Array.replicate 15 undef = #[undef, undef, undef, undef, undef, undef, undef, undef, undef, undef, undef, undef, undef, undef, undef] := rfl
  refine callsD_of_wpS Tryz.func42 rfl fun c₀ cs hu => ?_
  apply wpS_seq
  apply wpS_region
  simp [wpOpsS, go_sem, recoverD, hu, Tryz.ntmps42, Exit.thenS, hrep]
  apply wpS_seq
  apply wpS_region
  simp [wpOpsS, go_sem, Exit.thenS]
  refine wpS_cond (t := true) (by simp [Act.eval]) ?_
  simp only [if_true]
  apply wpS_seq
  apply wpS_region
  simp [wpOpsS, go_sem, Exit.thenS]
  apply wpS_seq
  apply wpS_region
  simp [wpOpsS, go_sem, Exit.thenS]
  refine wpS_cond (t := true) (by simp [Act.eval]) ?_
  simp only [if_true]
  apply wpS_region
  simp [wpOpsS, go_sem, hc, hz, bodyPostS, results, Tryz.results42]
theorem catch_idle (p : Addr) (w : World) :
    CallsD Tryz.prog 42 #[.pointer (some p)] .returning w fun e u' w' => e = .returned (.tuple #[]) ∧ u' = .returning ∧ w' = w := by
  have hrep : Array.replicate 15 undef = #[undef, undef, undef, undef, undef, undef, undef, undef, undef, undef, undef, undef, undef, undef, undef] := rfl
  refine callsD_of_wpS Tryz.func42 rfl fun c₀ cs hu => ?_
  apply wpS_seq
  apply wpS_region
  simp [wpOpsS, go_sem, recoverD, hu, Tryz.ntmps42, Exit.thenS, hrep]
  apply wpS_seq
  apply wpS_region
  simp [wpOpsS, go_sem, Exit.thenS]
  refine wpS_cond (t := false) (by simp [Act.eval]) ?_
  simp only [Bool.false_eq_true, if_false]
  refine wpS_of_wp (wp_skip ?_)
  cases c₀
  simp_all [bodyPostS, results, Tryz.results42]
/-- how NextToken ends -/
def NextE (W w0 : World) (lb fb : Nat) (s : ByteArray) (x : LexSt) (rs : NR) (e : Ending) (w' : World) : Prop :=
  match rs with
  | .ok t dot => ∃ v B, e = .returned .nilIface ∧ NAt W w0 lb fb s (x.nextd t dot v) B v t.coms w'
  | .err p _ => ∃ EB, e = .returned (.iface 72 (.pointer (some ⟨EB, 0, none⟩))) ∧ ErrAt W w0 lb fb w' EB p
/-- told from an earlier world -/
theorem NAt.from {W w0 w1 w : World} {lb fb : Nat} {s : ByteArray} {x : LexSt} {B : Nat} {v : Value} {cs : List Cm} (h : NAt W w1 lb fb s x B v cs w) (hg : w0.grownBy w1 (some lb)) : NAt W w0 lb fb s x B v cs w :=
  ⟨⟨h.cur.laid, h.cur.low, h.cur.hlb, h.cur.hfb, h.cur.sz, h.cur.pos, h.cur.lex, grownBy_trans hg h.cur.grow⟩, h.own, h.lbB, h.fbB, h.hB, Nat.le_trans hg.size h.w0B⟩
theorem nextTokenE_any {W w : World} {lb fb : Nat} {s : ByteArray} {x : LexSt} (h : Cur W w lb fb s x w) (hg : (next s.data.toList x.kind.data.toList x.dot x.pos).good s.size) :
    Calls Tryz.prog 30 #[.pointer (some ⟨lb, 0, none⟩)] w (NextE W w lb fb s x (next s.data.toList x.kind.data.toList x.dot x.pos)) := by
  have hmf : ∀ (fn : Fn) (first cap : Array Value) (w : World), (Instr.makeFunc fn first cap).run Tryz.prog w = .ok (.func fn first cap) w := fun _ _ _ _ => rfl
  have h1 : Cur W w lb fb s x (w.alloc (.cells #[.nilIface] 53)) := h.keep ((Below.refl _ _).alloc (Nat.le_refl _) _)
  have hN := nextToken_any h1.own false mode_strict (fun _ => hg)
  have hlt := h.lex.lt
  have hgr := h1.grow
  have hnew : (w.alloc (.cells #[.nilIface] 53)).heap[w.heap.size]? = some (.cells #[.nilIface] 53 (0, 0)) := heap_alloc_new w _
  have hsz1 : (w.alloc (.cells #[.nilIface] 53)).heap.size = w.heap.size + 1 := by simp
  have hlow : W.heap.size ≤ w.heap.size := h.low.size
  generalize next s.data.toList x.kind.data.toList x.dot x.pos = R at *
  have HN := Lib.hid hN; have HG := Lib.hid hgr; have HNEW := Lib.hid hnew
  clear h h1 hN hg hgr hnew
  go_enter_defers Tryz.func30, Tryz.ntmps30
  go_wp2_with fail
  generalize w.alloc (.cells #[.nilIface] 53) = w1 at *
  refine HN.out.mono ?_
  intro e w2 hd
  unfold NextDid at hd
  cases R with
  | ok t dot =>
    obtain ⟨v, rfl, hn⟩ := hd
    have hne : w2.heap[w.heap.size]? = some (.cells #[.nilIface] 53 (0, 0)) := by
      rw [hn.cur.grow.block w.heap.size (by omega) (by intro e; injection e with e; omega)]; exact HNEW.out
    have hc : w2.cell? ⟨w.heap.size, 0, none⟩ = some .nilIface := by simp [World.cell?, hne]
    have HH := Lib.hid (hn.from HG.out)
    clear hn
    go_wp2_with fail
    refine leaves_cons (f := 42) (args := #[.pointer (some ⟨w.heap.size, 0, none⟩)]) (by simp) (by simp [go_sem]) ?_
    refine (catch_idle ⟨w.heap.size, 0, none⟩ _).mono ?_
    rintro e u' w'' ⟨rfl, rfl, rfl⟩
    simp [Leaves, settle, results, Tryz.results30, go_sem, hc]
    exact ⟨_, _, rfl, HH.out⟩
  | err p q =>
    obtain ⟨EB, rfl, PB, e1, e2, e3, e4, e5, e6, e7⟩ := hd
    have hne : w2.heap[w.heap.size]? = some (.cells #[.nilIface] 53 (0, 0)) := by
      rw [e7 w.heap.size (by omega) (by omega) (by omega)]; exact HNEW.out
    have hc : w2.cell? ⟨w.heap.size, 0, none⟩ = some .nilIface := by simp [World.cell?, hne]
    have hf : w2.frozen? ⟨w.heap.size, 0, none⟩ = false := by simp [World.frozen?, hne]
    have hEB : EB ≠ w.heap.size := by
      intro e
      rw [e] at e1
      simp [World.cell?, hne] at e1
    have hPB : PB ≠ w.heap.size := by
      intro e
      rw [e] at e2
      simp [World.cell?, hne] at e2
    have HH : Hid (∀ u, ErrAt W w lb fb (w2.setCell ⟨w.heap.size, 0, none⟩ u) EB p) := Lib.hid (fun u => by
      refine ⟨PB, ?_, ?_, e3, e4, e5.setCell hlow _, ?_, ?_⟩
      · rw [World.cell?_setCell_other _ _ _ _ (by simp)]; exact e1
      · rw [World.cell?_setCell_other _ _ _ _ (by simp)]; exact e2
      · simp [World.setCell]; omega
      · intro k hk hl hb
        rw [Below.heap_setCell _ _ _ _ (by simp; omega), e7 k (by omega) hl hb]
        exact HG.out.block k hk (by intro e; injection e with e; omega))
    clear e1 e2 e3 e4 e5 e6 e7
    go_wp2_with fail
    refine leaves_cons (f := 42) (args := #[.pointer (some ⟨w.heap.size, 0, none⟩)]) (by simp) (by simp [go_sem]) ?_
    refine (catch_panicking ⟨w.heap.size, 0, none⟩ _ _ [] _ hc hf).mono ?_
    rintro e u' w'' ⟨rfl, rfl, rfl⟩
    have hc2 : (w2.setCell ⟨w.heap.size, 0, none⟩ (.iface 72 (.pointer (some ⟨EB, 0, none⟩)))).cell? ⟨w.heap.size, 0, none⟩ = some (.iface 72 (.pointer (some ⟨EB, 0, none⟩))) := by
      simp [World.cell?, World.setCell, Array.getElem?_modify, hne]
    have HH2 := Lib.hid (HH.out (.iface 72 (.pointer (some ⟨EB, 0, none⟩))))
    clear HH
    generalize w2.setCell ⟨w.heap.size, 0, none⟩ (.iface 72 (.pointer (some ⟨EB, 0, none⟩))) = w3 at *
    simp [Leaves, settle, results, Tryz.results30, go_sem, hc2]
    exact ⟨EB, rfl, HH2.out⟩
end Go.Proofs.YtcelnnjjakiehaaGreatDoor
