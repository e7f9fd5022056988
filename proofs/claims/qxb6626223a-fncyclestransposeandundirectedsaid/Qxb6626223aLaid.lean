/-
  THE BLOCKS that Cycles lays for the search.
-/
import Derived.Test.Qxb6626223aLat
namespace Go.Proofs.Qxb6626223a.Laid
open Go.RowKit
open Go.Proofs.Qxb6626223a.Tarjan (upd upd_same upd_other St Inv Ext Post)
open Go.Proofs.Qxb6626223a.MapsV Go.Proofs.Qxb6626223a.Graph Go.Proofs.Qxb6626223a.Canon Go.Proofs.Qxb6626223a.CycPlain Go.Proofs.Qxb6626223a.Lat
open Go.Proofs.Qxb6626223a.Frame Go.Proofs.Qxb6626223a.Order Go.Proofs.Qxb6626223a.Find Go.Proofs.Qxb6626223a.RowsS Go.Proofs.Qxb6626223a.Insert Go.Proofs.Qxb6626223a.Agents Go.Proofs.Qxb6626223a.Same Go.Proofs.Qxb6626223a.Nest Go.Proofs.Qxb6626223a.Index Go.Proofs.Qxb6626223a.Mat Go.Proofs.Qxb6626223a.Rep Go.Proofs.Qxb6626223a.LibC Go.Proofs.Qxb6626223a.Visit
set_option linter.unusedVariables false
set_option linter.unusedSimpArgs false

def fnv (h b0 : Nat) : Value := .func (.func 12) #[] #[ptr (h + 1 + 1), ptr (h + 1 + 1 + 1), ptr (h + 1 + 1 + 1 + 1 + 1 + 1), ptr (h + 1 + 1 + 1 + 1 + 1), ptr (b0 + 1), ptr (h + 1 + 1 + 1 + 1 + 1 + 1 + 1 + 1), ptr (h + 1 + 1 + 1 + 1 + 1 + 1 + 1)]

def l1 (w : World) : World := (w.alloc (.map #[] 0)).alloc (.map #[] 0)
def l2 (w : World) (h : Nat) : World := ((l1 w).alloc (.cells #[.map (some h)] 35)).alloc (.cells #[.map (some (h + 1))] 35)
def l3 (w : World) (h : Nat) : World := ((l2 w h).alloc (.map #[] 0)).alloc (.cells #[.map (some (h + 1 + 1 + 1 + 1))] 36)
def l4 (w : World) (h : Nat) : World := ((l3 w h).alloc (.cells #[.slice Option.none 0 0] 34)).alloc (.cells #[.slice Option.none 0 0] 26)
def l5 (w : World) (h b0 : Nat) : World := (l4 w h).alloc (.cells #[fnv h b0] 37)

structure IsLaid (w : World) (h b0 : Nat) (wX : World) : Prop where
  kept : Kept nothing w wX
  size : wX.heap.size = h + 9
  mI : IsM wX h 0 fun _ => Option.none
  mL : IsM wX (h + 1) 0 fun _ => Option.none
  mO : IsM wX (h + 1 + 1 + 1 + 1) 0 fun _ => Option.none
  bI : wX.heap[h + 1 + 1]? = some (.cells #[.map (some h)] 35 (0, 0))
  bL : wX.heap[h + 1 + 1 + 1]? = some (.cells #[.map (some (h + 1))] 35 (0, 0))
  bO : wX.heap[h + 1 + 1 + 1 + 1 + 1]? = some (.cells #[.map (some (h + 1 + 1 + 1 + 1))] 36 (0, 0))
  bS : wX.heap[h + 1 + 1 + 1 + 1 + 1 + 1]? = some (.cells #[.slice Option.none 0 0] 34 (0, 0))
  bG : wX.heap[h + 1 + 1 + 1 + 1 + 1 + 1 + 1]? = some (.cells #[.slice Option.none 0 0] 26 (0, 0))
  bV : wX.heap[h + 1 + 1 + 1 + 1 + 1 + 1 + 1 + 1]? = some (.cells #[fnv h b0] 37 (0, 0))

theorem new_at (w : World) (o : Obj) {h : Nat} (e : w.heap.size = h) : (w.alloc o).heap[h]? = some o := by
  rw [← e]
  exact block_new w o
theorem made_at (w : World) {h : Nat} (e : w.heap.size = h) : IsM (w.alloc (.map #[] 0)) h 0 fun _ => Option.none := by
  rw [← e]
  exact IsM.made w
theorem ka (w : World) (o : Obj) : Kept nothing w (w.alloc o) := (Kept.refl _ _).alloc o
theorem sz (w : World) (o : Obj) {h : Nat} (e : w.heap.size = h) : (w.alloc o).heap.size = h + 1 := by rw [World.size_alloc, e]

theorem laid_is (w : World) {h : Nat} (e : w.heap.size = h) (b0 : Nat) : IsLaid w h b0 (l5 w h b0) := by
  have s1 := sz w (.map #[] 0) e
  have s2 := sz _ (.map #[] 0) s1
  have s3 := sz _ (.cells #[.map (some h)] 35) s2
  have s4 : (l2 w h).heap.size = h + 1 + 1 + 1 + 1 := sz _ (.cells #[.map (some (h + 1))] 35) s3
  have s5 := sz (l2 w h) (.map #[] 0) s4
  have s6 : (l3 w h).heap.size = h + 1 + 1 + 1 + 1 + 1 + 1 := sz _ (.cells #[.map (some (h + 1 + 1 + 1 + 1))] 36) s5
  have s7 := sz (l3 w h) (.cells #[.slice Option.none 0 0] 34) s6
  have s8 : (l4 w h).heap.size = h + 1 + 1 + 1 + 1 + 1 + 1 + 1 + 1 := sz _ (.cells #[.slice Option.none 0 0] 26) s7
  have s9 := sz (l4 w h) (.cells #[fnv h b0] 37) s8
  have k1 : Kept nothing w (l1 w) := (ka _ _).trans (ka _ _)
  have k2 : Kept nothing (l1 w) (l2 w h) := (ka _ _).trans (ka _ _)
  have k3 : Kept nothing (l2 w h) (l3 w h) := (ka _ _).trans (ka _ _)
  have k4 : Kept nothing (l3 w h) (l4 w h) := (ka _ _).trans (ka _ _)
  have k5 : Kept nothing (l4 w h) (l5 w h b0) := ka _ _
  have k35 := (k3.trans k4).trans k5
  refine ⟨(k1.trans k2).trans k35, s9, ?_, ?_, ?_, ?_, ?_, ?_, ?_, ?_, ?_⟩
  · exact ((made_at w e).kept (ka _ _) id).kept (k2.trans k35) id
  · exact (made_at _ s1).kept (k2.trans k35) id
  · exact ((made_at (l2 w h) s4).kept (ka _ _) id).kept (k4.trans k5) id
  · exact ((ka _ _).trans k35).at (new_at (l1 w) (.cells #[.map (some h)] 35) s2) id
  · exact k35.at (new_at ((l1 w).alloc (.cells #[.map (some h)] 35)) (.cells #[.map (some (h + 1))] 35) s3) id
  · exact (k4.trans k5).at (new_at ((l2 w h).alloc (.map #[] 0)) (.cells #[.map (some (h + 1 + 1 + 1 + 1))] 36) s5) id
  · exact ((ka _ _).trans k5).at (new_at (l3 w h) (.cells #[.slice Option.none 0 0] 34) s6) id
  · exact k5.at (new_at ((l3 w h).alloc (.cells #[.slice Option.none 0 0] 34)) (.cells #[.slice Option.none 0 0] 26) s7) id
  · exact new_at (l4 w h) (.cells #[fnv h b0] 37) s8

/-- The blocks, by name. -/
def con (h b0 B0 nn : Nat) (f : ByteArray → Option Value) : Con :=
  { bI := h + 1 + 1, bL := h + 1 + 1 + 1, bS := h + 1 + 1 + 1 + 1 + 1 + 1, bO := h + 1 + 1 + 1 + 1 + 1, bLa := b0 + 1, bV := h + 1 + 1 + 1 + 1 + 1 + 1 + 1 + 1, bG := h + 1 + 1 + 1 + 1 + 1 + 1 + 1,
    mI := h, mL := h + 1, mO := h + 1 + 1 + 1 + 1, mLa := b0, B0 := B0, nLat := nn, fLat := f }

theorem con_ok {h b0 B0 : Nat} (nn : Nat) (f : ByteArray → Option Value) (h1 : b0 + 1 < h) (h2 : h + 9 ≤ B0) : (con h b0 B0 nn f).Ok := by
  constructor <;> simp only [con, Var] <;> omega

theorem con_fixed {w wL wX wK : World} {h b0 nn : Nat} {f : ByteArray → Option Value} {E : List (ByteArray × ByteArray)} (lat : Lat w wL b0 E nn f) (hh : wL.heap.size = h) (hO : wL.heap[b0 + 1]? = some (.cells #[.map (some b0)] 33 (0, 0))) (hX : IsLaid wL h b0 wX) (hK : Kept nothing wX wK) :
    Fixed (con h b0 wK.heap.size nn f) (succOf E) wK := by
  have kL := hX.kept.trans hK
  have s1 := hX.size
  have s2 := hK.size
  refine ⟨(cell_of (hK.at hX.bI id) 0).trans rfl, (cell_of (hK.at hX.bL id) 0).trans rfl, (cell_of (hK.at hX.bO id) 0).trans rfl, (cell_of (kL.at hO id) 0).trans rfl, (cell_of (hK.at hX.bV id) 0).trans rfl, lat.map.kept kL id, fun a v hv => ?_, fun a ha => lat.empty a ha⟩
  obtain ⟨o, fr⟩ := lat.row a v hv
  obtain ⟨ao, cap, e, _, _, at1, ob⟩ := own_at o
  refine ⟨ao, cap, e, At.kept0 at1 kL, fun p hp => ?_⟩
  have : p.block < wL.heap.size := ownsRow_lt o (ob p hp)
  simp only [con, Var]
  omega

theorem con_rep {wL wX wK : World} {h b0 nn : Nat} {f : ByteArray → Option Value} (hX : IsLaid wL h b0 wX) (hK : Kept nothing wX wK) (U : List ByteArray) :
    Rep (con h b0 wK.heap.size nn f) U wK S0 (onS S0) (.slice Option.none 0 0) (.slice Option.none 0 0) := by
  refine ⟨⟨hK.at hX.bS id, hK.at hX.bG id, World.ownsRow_nil _ _ _ _, fun k hk => by simp [Value.ownBlock] at hk, fun k hk => by simp [Value.ownBlock] at hk, [], [], GrpOf.start, World.ownsRow_nil _ _ _ _, fun i u l hu => by simp at hu⟩, hX.mI.kept hK id, hX.mL.kept hK id, hX.mO.kept hK id, ?_⟩
  show 0 + unv U S0.idx = U.length
  rw [unv0, Nat.zero_add]

end Go.Proofs.Qxb6626223a.Laid
