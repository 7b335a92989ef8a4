/-
  FnReadyExactlyWhenEarlierSharersApplied: what lies in memory at each round.
-/
import Derived.Test.Qxb6600002aReadyInv
namespace Go.Proofs.Qxb6600002a
set_option linter.unusedSimpArgs false
set_option linter.unusedVariables false
open Go.MapKept Go.ChangeMaps Go.RowKit

/-- A part of a code. -/
def sub : Code → List Nat → Code
  | c, [] => c
  | .seq a _, 0 :: p => sub a p
  | .seq _ b, 1 :: p => sub b p
  | .block _ c, 2 :: p => sub c p
  | .loop c, 3 :: p => sub c p
  | .cond _ a _, 4 :: p => sub a p
  | .cond _ _ b, 5 :: p => sub b p
  | c, _ => c

/-- What does not turn while the script runs. -/
structure RC where
  N : Nat
  wN : World
  aoT : Option Addr
  cT : Nat
  aoO : Option Addr
  cO : Nat
  tx : List Nat
  op : List Nat
  slo : Nat → Nat
  bs : Nat → Nat
  HS : Nat
  HB : Nat

def RC.T (c : RC) (i : Nat) : Nat := c.tx.getD i 0
def RC.sl (c : RC) (k : Nat) : Nat := c.slo k &&& 7

structure RC.ok (c : RC) : Prop where
  size : c.wN.heap.size = c.N
  rowT : Row encB c.wN c.aoT c.tx
  ltT : ∀ x, c.aoT = some x → x.block < c.N
  rowO : Row encW c.wN c.aoO c.op
  ltO : ∀ x, c.aoO = some x → x.block < c.N
  t256 : ∀ i, c.T i < 256
  o65536 : ∀ v ∈ c.op, v < 65536
  arrS : Arr c.wN c.HS 8 41 (fun k => .int .u8 (c.slo k : Nat))
  arrB : Arr c.wN c.HB 8 43 (fun k => .int .u32 (c.bs k : Nat))
  s256 : ∀ k, k < 8 → c.slo k < 256
  b32 : ∀ k, k < 8 → c.bs k < 4294967296
  lenT : c.tx.length ≤ 4096
  lenO : c.op.length ≤ 4096

theorem RC.ok.sl8 {c : RC} (h : c.ok) {k : Nat} : c.sl k < 8 := by
  have : c.slo k &&& 7 ≤ 7 := Nat.and_le_right
  unfold RC.sl
  omega

/-- What turns. -/
structure RSt where
  nxt : Nat
  sc : Nat → Nat
  hd : Nat → Nat
  dn : Nat → Bool
  m : List (ByteArray × Tl)
  wl : Nat → List (ByteArray × Nat)
  wbk : Nat → Nat
  qa : Nat → Option Addr
  qc : Nat → Nat

structure RW (c : RC) (s : RSt) (w : World) : Prop where
  kp : Kp c.N [] c.wN w
  size : c.N + 6 ≤ w.heap.size
  app : App w (c.N + 1) c.N s.m
  ws : Arr w (c.N + 2) c.tx.length 28 (fun i => if i < s.nxt then .map (some (s.wbk i)) else .map none)
  maps : ∀ i, i < s.nxt → MapAt encU w (s.wbk i) (s.wl i) ∧ c.N + 6 ≤ s.wbk i
  q : Arr w (c.N + 3) 8 49 (fun k => .slice (s.qa k) (qs c.T s.nxt k).length (s.qc k))
  rows : ∀ k, k < 8 → QRow w (c.N + 6) (s.qa k) (s.qc k) (qs c.T s.nxt k)
  apart : ∀ j k x y, j < 8 → k < 8 → s.qa j = some x → s.qa k = some y → x.block = y.block → j = k
  hda : Arr w (c.N + 4) 8 50 (fun k => .int .i64 (s.hd k : Nat))
  sca : Arr w (c.N + 5) 8 51 (fun k => .int .u64 (s.sc k : Nat))
  le : s.nxt ≤ c.tx.length
  inv : RInv c.T s.nxt c.sl c.bs s.sc s.hd s.dn s.m s.wl

theorem QRow.lt {w : World} {B c : Nat} {ao : Option Addr} {xs : List Nat} (h : QRow w B ao c xs) {x : Addr} (hx : ao = some x) : x.block < w.heap.size := by
  obtain ⟨_, cs, hcs⟩ := h.block hx
  exact (Array.getElem?_eq_some_iff.1 hcs).1

/-- Nothing that was there has turned. -/
theorem RW.keep {c : RC} {s : RSt} {w w' : World} (h : RW c s w) (hk : Kp w.heap.size [] w w') : RW c s w' := by
  have hb : ∀ i, i < w.heap.size → w'.heap[i]? = w.heap[i]? := fun i hi => hk.block i hi (by simp)
  have hs := h.size
  exact ⟨h.kp.trans (hk.mono (by omega) (by simp)), Nat.le_trans hs hk.size, h.app.keep (hb _ (by omega)) (hb _ (by omega)), h.ws.of_block (hb _ (by omega)), fun i hi => ⟨(h.maps i hi).1.of_block (hb _ (h.maps i hi).1.lt), (h.maps i hi).2⟩,
    h.q.of_block (hb _ (by omega)), fun k hk8 => (h.rows k hk8).keep (fun x hx => hb _ ((h.rows k hk8).lt hx)), h.apart, h.hda.of_block (hb _ (by omega)), h.sca.of_block (hb _ (by omega)), h.le, h.inv⟩

/-- The frame. -/
structure RF (c : RC) (nxt p : Nat) (f : Nat → Value) : Prop where
  f0 : f 0 = .slice c.aoT c.tx.length c.cT
  f1 : f 1 = .slice c.aoO c.op.length c.cO
  f6 : f 6 = .pointer (some ⟨c.HS, 0, none⟩)
  f7 : f 7 = .pointer (some ⟨c.HB, 0, none⟩)
  f9 : f 9 = .pointer (some ⟨c.N + 1, 0, none⟩)
  f10 : f 10 = .slice (some ⟨c.N + 2, 0, none⟩) c.tx.length c.tx.length
  f11 : f 11 = .pointer (some ⟨c.N + 3, 0, none⟩)
  f12 : f 12 = .pointer (some ⟨c.N + 4, 0, none⟩)
  f13 : f 13 = .pointer (some ⟨c.N + 5, 0, none⟩)
  f14 : f 14 = .int .i64 (nxt : Nat)
  f15 : f 15 = .int .i64 (p : Nat)

/-- The slots that the frame names, laid over g. -/
def rfr (c : RC) (nxt p : Nat) (g : Nat → Value) : Nat → Value :=
  upd (upd (upd (upd (upd (upd (upd (upd (upd (upd (upd g 0 (.slice c.aoT c.tx.length c.cT)) 1 (.slice c.aoO c.op.length c.cO)) 6 (.pointer (some ⟨c.HS, 0, none⟩))) 7 (.pointer (some ⟨c.HB, 0, none⟩))) 9 (.pointer (some ⟨c.N + 1, 0, none⟩)))
    10 (.slice (some ⟨c.N + 2, 0, none⟩) c.tx.length c.tx.length)) 11 (.pointer (some ⟨c.N + 3, 0, none⟩))) 12 (.pointer (some ⟨c.N + 4, 0, none⟩))) 13 (.pointer (some ⟨c.N + 5, 0, none⟩))) 14 (.int .i64 (nxt : Nat))) 15 (.int .i64 (p : Nat))

theorem RF.open {c : RC} {nxt p : Nat} {f : Nat → Value} (h : RF c nxt p f) : f = rfr c nxt p f := by
  unfold rfr
  rw [← upd_id h.f0, ← upd_id h.f1, ← upd_id h.f6, ← upd_id h.f7, ← upd_id h.f9, ← upd_id h.f10, ← upd_id h.f11, ← upd_id h.f12, ← upd_id h.f13, ← upd_id h.f14, ← upd_id h.f15]

theorem RF.agr {c : RC} {nxt p : Nat} {f f' : Nat → Value} {W : List Nat} (h : RF c nxt p f) (ha : Agr W f f') (hW : [0, 1, 6, 7, 9, 10, 11, 12, 13, 14, 15].all (fun t => !W.contains t) = true) : RF c nxt p f' := by
  simp only [List.all_cons, List.all_nil, Bool.and_true, Bool.and_eq_true, Bool.not_eq_true'] at hW
  obtain ⟨w0, w1, w6, w7, w9, w10, w11, w12, w13, w14, w15⟩ := hW
  exact ⟨(ha 0 w0).trans h.f0, (ha 1 w1).trans h.f1, (ha 6 w6).trans h.f6, (ha 7 w7).trans h.f7, (ha 9 w9).trans h.f9, (ha 10 w10).trans h.f10, (ha 11 w11).trans h.f11, (ha 12 w12).trans h.f12, (ha 13 w13).trans h.f13, (ha 14 w14).trans h.f14, (ha 15 w15).trans h.f15⟩

theorem RC.getT {c : RC} {i : Nat} (hi : i < c.tx.length) : c.tx[i]? = some (c.T i) := by
  unfold RC.T
  simp [List.getD, hi]

/-- A transaction's mask, read in a later world. -/
theorem RC.ok.cellT {c : RC} (h : c.ok) {w : World} (kp : Kp c.N [] c.wN w) {i : Nat} (hi : i < c.tx.length) : ∃ x, c.aoT = some x ∧ w.cell? (x.add i) = some (.int .u8 (c.T i : Nat)) := by
  obtain ⟨x, hx, hc⟩ := h.rowT i _ (RC.getT hi)
  exact ⟨x, hx, (World.cell?_of_block (by rw [add_block]; exact kp.block _ (h.ltT x hx) (by simp))).trans hc⟩
theorem RC.ok.cellO {c : RC} (h : c.ok) {w : World} (kp : Kp c.N [] c.wN w) {i v : Nat} (hi : c.op[i]? = some v) : ∃ x, c.aoO = some x ∧ w.cell? (x.add i) = some (.int .u16 (v : Nat)) := by
  obtain ⟨x, hx, hc⟩ := h.rowO i _ hi
  exact ⟨x, hx, (World.cell?_of_block (by rw [add_block]; exact kp.block _ (h.ltO x hx) (by simp))).trans hc⟩
theorem RC.ok.ltS {c : RC} (h : c.ok) : c.HS < c.N := by have := h.arrS.lt; rw [h.size] at this; exact this
theorem RC.ok.ltB {c : RC} (h : c.ok) : c.HB < c.N := by have := h.arrB.lt; rw [h.size] at this; exact this
end Go.Proofs.Qxb6600002a
