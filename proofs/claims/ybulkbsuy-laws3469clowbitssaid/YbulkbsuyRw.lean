/-
  RWMutex's passToWriter and what it calls, BY CONTRACT: one goroutine, both queues empty, both queues' locks free.
-/
import Derived.Test.YbulkbsuyQueue
import Derived.Deep.QuietTactic
import Derived.BigQuiet
import Derived.LoopN
import Derived.Outline
import Derived.Deep.RegionWith
namespace Go.Proofs.Ybulkbsuy
open Go.RowKit

/-- An RWMutex at block b: its state word t, the locks of its two queues l1 and l2, both queues empty. -/
structure RwAt (W : World) (b : Nat) (t l1 l2 : Int) : Prop where
  c0 : W.cell? ⟨b, 0, none⟩ = some (.int .i64 t)
  c1 : W.cell? ⟨b, 1, none⟩ = some (.int .i32 l1)
  c5 : W.cell? ⟨b, 5, none⟩ = some (.int .i32 0)
  c6 : W.cell? ⟨b, 6, none⟩ = some (.int .i32 l2)
  c10 : W.cell? ⟨b, 10, none⟩ = some (.int .i32 0)
  f0 : W.frozen? ⟨b, 0, none⟩ = false
  f1 : W.frozen? ⟨b, 1, none⟩ = false
  f6 : W.frozen? ⟨b, 6, none⟩ = false

theorem RwAt.drewN {W : World} {b : Nat} {t l1 l2 : Int} (h : RwAt W b t l1 l2) (n : Nat) : RwAt (W.drewN n) b t l1 l2 :=
  ⟨by simpa using h.c0, by simpa using h.c1, by simpa using h.c5, by simpa using h.c6, by simpa using h.c10, by simpa using h.f0, by simpa using h.f1, by simpa using h.f6⟩

theorem RwAt.set0 {W : World} {b : Nat} {t l1 l2 : Int} (h : RwAt W b t l1 l2) (u : Int) : RwAt (W.setCell ⟨b, 0, none⟩ (.int .i64 u)) b u l1 l2 :=
  ⟨World.cell?_setCell_same _ _ _ h.c0, (World.cell?_setCell_other _ _ _ _ (by simp)).trans h.c1, (World.cell?_setCell_other _ _ _ _ (by simp)).trans h.c5, (World.cell?_setCell_other _ _ _ _ (by simp)).trans h.c6,
   (World.cell?_setCell_other _ _ _ _ (by simp)).trans h.c10, by simpa using h.f0, by simpa using h.f1, by simpa using h.f6⟩

theorem RwAt.set1 {W : World} {b : Nat} {t l1 l2 : Int} (h : RwAt W b t l1 l2) (u : Int) : RwAt (W.setCell ⟨b, 1, none⟩ (.int .i32 u)) b t u l2 :=
  ⟨(World.cell?_setCell_other _ _ _ _ (by simp)).trans h.c0, World.cell?_setCell_same _ _ _ h.c1, (World.cell?_setCell_other _ _ _ _ (by simp)).trans h.c5, (World.cell?_setCell_other _ _ _ _ (by simp)).trans h.c6,
   (World.cell?_setCell_other _ _ _ _ (by simp)).trans h.c10, by simpa using h.f0, by simpa using h.f1, by simpa using h.f6⟩

theorem RwAt.set6 {W : World} {b : Nat} {t l1 l2 : Int} (h : RwAt W b t l1 l2) (u : Int) : RwAt (W.setCell ⟨b, 6, none⟩ (.int .i32 u)) b t l1 u :=
  ⟨(World.cell?_setCell_other _ _ _ _ (by simp)).trans h.c0, (World.cell?_setCell_other _ _ _ _ (by simp)).trans h.c1, (World.cell?_setCell_other _ _ _ _ (by simp)).trans h.c5, World.cell?_setCell_same _ _ _ h.c6,
   (World.cell?_setCell_other _ _ _ _ (by simp)).trans h.c10, by simpa using h.f0, by simpa using h.f1, by simpa using h.f6⟩

/-- What a contract says of the world behind it: whatever world below b the first one has grown out of, the second has too. -/
def Keeps (b : Nat) (w w' : World) : Prop := ∀ w0, w0.heap.size ≤ b → Grown w0 w → Grown w0 w'

theorem Keeps.refl (b : Nat) (w : World) : Keeps b w w := fun _ _ h => h
theorem Keeps.trans {b : Nat} {w1 w2 w3 : World} (h : Keeps b w1 w2) (k : Keeps b w2 w3) : Keeps b w1 w3 := fun w0 hb hg => k w0 hb (h w0 hb hg)
theorem Keeps.set {b : Nat} {w w' : World} (h : Keeps b w w') (o : Nat) (v : Value) : Keeps b w (w'.setCell ⟨b, o, none⟩ v) := fun w0 hb hg => (h w0 hb hg).setCell hb v
theorem Keeps.drewN {b : Nat} {w w' : World} (h : Keeps b w w') (n : Nat) : Keeps b w (w'.drewN n) := by
  intro w0 hb hg
  have := h w0 hb hg
  induction n with
  | zero => exact this
  | succ n ih => exact Grown.drew ih

theorem lockQueues (b : Nat) (t : Int) (w : World) (h : RwAt w b t 0 0) :
    Calls Yba.prog 17 #[.pointer (some ⟨b, 0, none⟩)] w fun e w' => e = .returned (.tuple #[]) ∧ RwAt w' b t 1 1 ∧ Keeps b w w' := by
  have h1 := h.set1 1
  go_enter Yba.func17, Yba.ntmps17
  go_wp2_with fail
  refine (qlock b 1 _ h.c1 h.f1).mono ?_
  rintro e w' ⟨rfl, rfl⟩
  go_wp2_with fail
  refine (qlock b 6 _ h1.c6 h1.f6).mono ?_
  rintro e w' ⟨rfl, rfl⟩
  go_wp2
  go_end0
  exact ⟨rfl, h1.set6 1, ((Keeps.refl _ _).set _ _).set _ _⟩

theorem unlockQueues (b : Nat) (t : Int) (w : World) (h : RwAt w b t 1 1) :
    Calls Yba.prog 19 #[.pointer (some ⟨b, 0, none⟩)] w fun e w' => e = .returned (.tuple #[]) ∧ RwAt w' b t 0 0 ∧ Keeps b w w' := by
  have h1 := h.set6 0
  go_enter Yba.func19, Yba.ntmps19
  go_wp2_with fail
  refine (qunlock b 6 _ h.c6 h.f6).mono ?_
  rintro e w' ⟨rfl, rfl⟩
  go_wp2_with fail
  refine (qunlock b 1 _ h1.c1 h1.f1).mono ?_
  rintro e w' ⟨rfl, rfl⟩
  go_wp2
  go_end0
  exact ⟨rfl, h1.set1 0, ((Keeps.refl _ _).set _ _).set _ _⟩
end Go.Proofs.Ybulkbsuy
