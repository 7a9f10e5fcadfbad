/-
  The contract of impl.Resolve.
-/
import Derived.Test.YtcelnnjjakiehaaDoorFile
namespace Go.Proofs.YtcelnnjjakiehaaDoor
open Go.RowKit
/-- line and column are told; nothing that was there has turned -/
def ToldLC (w : World) (s : ByteArray) (pos : Nat) (e : Ending) (w' : World) : Prop :=
  e = .returned (.tuple #[.int .i64 ((lc (s.data.toList.take pos)).1 : Int), .int .i64 ((lc (s.data.toList.take pos)).2 : Int)]) ∧ Below w.heap.size w w'
theorem below_of_grown {w w' : World} {b : Nat} {o : Obj} (hg : (w.alloc o).grownBy w' (some b)) (hb : w.heap.size ≤ b) : Below w.heap.size w w' :=
  ((Below.refl _ _).alloc (Nat.le_refl _) o).grown hg (by simp) (fun k hk => by injection hk with hk; omega)
set_option maxRecDepth 20000 in
set_option maxHeartbeats 400000 in
theorem implResolve_any (pos : Nat) (s : ByteArray) (w : World) (hs : s.size ≤ 4294967296) (hp : pos ≤ s.size) :
    Calls Tryd.prog 9 #[.string s, .int .i64 pos] w (ToldLC w s pos) := by
  have hf : FileOk (w.alloc (.cells #[.string ⟨#[]⟩, .string s, .slice none 0 0] 34)) w.heap.size ⟨#[]⟩ s := .inl (heap_alloc_new w _)
  have HF := Lib.hid hf; clear hf
  go_enter Tryd.func9, Tryd.ntmps9
  go_wp2_with fail
  refine (resolve_any w.heap.size pos ⟨#[]⟩ s _ hs hp HF.out).mono ?_
  rintro e w1 ⟨rfl, hl, hg⟩
  have HG := Lib.hid hg
  clear hl hg
  go_wp2_with fail
  go_ret2
  exact ⟨rfl, below_of_grown HG.out (Nat.le_refl _)⟩
end Go.Proofs.YtcelnnjjakiehaaDoor
