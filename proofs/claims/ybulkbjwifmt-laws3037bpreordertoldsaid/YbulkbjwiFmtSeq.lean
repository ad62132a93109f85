/-
  SEAT b3037aF: All and the sequence that it returns.
-/
import Derived.Test.YbulkbjwiFmtAll
namespace Go.Proofs.YbulkbjwiFmt
open Go.RowKit
attribute [local go_sem ↓] Go.wp_at_zero Go.wp_at_succ

theorem Mem.drew {w : World} {B T AX d cap : Nat} {pg fp : Option Nat} {ch fc : Nat → Option Nat} {t : BT} (h : Mem w B T AX d cap pg ch fp fc t) : Mem w.drew B T AX d cap pg ch fp fc t :=
  h.fr (Fr.drewR (Fr.refl (fun _ => False) w)) (Free.none _)
theorem all_any (a : Addr) (w : World) :
    Calls Ybaf.prog 6 #[.pointer (some a)] w fun e w' => e = .returned (.func (.func 16) #[] #[.pointer (some ⟨w.heap.size, 0, none⟩)]) ∧ w' = w.alloc (.cells #[.pointer (some a)] 23) := by
  have hmf : ∀ (fn : Fn) (first cap : Array Value) (w : World), (Instr.makeFunc fn first cap).run Ybaf.prog w = .ok (.func fn first cap) w := fun _ _ _ _ => rfl
  go_enter Ybaf.func6, Ybaf.ntmps6
  go_wp2
  go_ret
  exact ⟨rfl, rfl⟩

set_option maxRecDepth 100000 in
set_option maxHeartbeats 2000000 in
theorem seq_any (f : Nat) (cp : Array Value) (Inv : World → List Nat → Prop) (more : List Nat → Bool) (G B2 BX : Nat) (w : World) (hV : Vis Inv more G B2 w.heap.size) (hdr : ∀ w L, Inv w L → Inv w.drew L)
    (B T AX d cap : Nat) (pg fp : Option Nat) (ch fc : Nat → Option Nat) (t : BT) (hM : Mem w B T AX d cap pg ch fp fc t) (hn : t.slots.length ≤ 400) (hx : w.cell? ⟨BX, 0, none⟩ = some (.pointer (some ⟨T, 0, none⟩))) (hxs : w.shape? BX = some (23, 1)) (hxG : BX ≠ G)
    (hI : Inv (w.alloc (.cells #[.func (.func f) #[] cp] 31)) []) :
    Calls Ybaf.prog 16 #[.func (.func f) #[] cp, .pointer (some ⟨BX, 0, none⟩)] w fun e w' => e = .returned (.tuple #[]) ∧ Inv w' (pre more [] t).1 ∧ Fl (OwnG G B2 w) w w' := by
  have hmf : ∀ (fn : Fn) (first cap : Array Value) (w : World), (Instr.makeFunc fn first cap).run Ybaf.prog w = .ok (.func fn first cap) w := fun _ _ _ _ => rfl
  obtain ⟨w1, hw1⟩ : ∃ w1, w1 = w.alloc (.cells #[.func (.func f) #[] cp] 31) := ⟨_, rfl⟩
  rw [← hw1] at hI
  have hf1 : Fr (fun _ => False) w w1 := by rw [hw1]; exact Fr.alloc _ _ _
  have hM1 := (hM.fr hf1 (Free.none _)).drew
  have hx1 := hf1.cell hx (fun h => h)
  have hxs1 := (hf1.shape BX (shape_lt hxs)).trans hxs
  obtain ⟨r, hr, hv⟩ := hM1.root.val
  have hr1 : w1.cell? ⟨T, 1, none⟩ = some (.int .u32 r) := hr
  have hI1 := hdr _ _ hI
  have hwalk := walk_any Inv more G B2 w.heap.size hV B T AX d cap pg fp ch fc t t r 0 [] w1.drew hM1 hv hI1 (by omega) (by omega) (by simp; omega)
  have nX : ¬ OwnG G B2 w1.drew BX := not_ownG (w := w1.drew) hxs1 (by decide) hxG
  have nT : ¬ OwnG G B2 w1.drew T := fun h => freeG (hV.shG _ _ hI1) T h _ _ hM1.shT (by unfold Kind; omega)
  obtain ⟨Y, hY⟩ : ∃ Y, Y = w.heap.size := ⟨_, rfl⟩
  rw [← hY] at hwalk
  have hFin : ∀ w', Fl (OwnG G B2 w1.drew) w1.drew w' → Fl (OwnG G B2 w) w w' := by
    intro w' h
    have hd1 : Fl (OwnG G B2 w) w w1.drew := ⟨hf1.os, hf1.tape, hf1.output, hf1.size, fun b hb _ => hf1.block b hb (fun h => h)⟩
    refine hd1.trans h (fun i hi hn h1 => hn ?_)
    rcases h1 with h1 | ⟨h0, n, h1⟩
    · exact .inl h1
    · exact .inr ⟨h0, n, (hf1.shape i hi).symm.trans h1⟩
  replace hw1 : Hid _ := hw1
  replace hY : Hid _ := hY
  go_enter Ybaf.func16, Ybaf.ntmps16
  go_wp2_with fail
  rw [← hw1.out, ← hY.out]
  clear hM hx hxs hf1 hM1 hr hv hI hI1 hxs1
  go_region_held3 (fun w' => w'.cell? ⟨BX, 0, none⟩ = some (.pointer (some ⟨T, 0, none⟩)) ∧ w'.cell? ⟨T, 1, none⟩ = some (.int .u32 r)) (go_keep)
    (first
      | (go_at_call 8; refine (loadM T 1 r _ ?_).mono ?_; (simp [*]); rintro e w' ⟨rfl, rfl⟩)
      | (go_at_call 17; refine hwalk.mono ?_; rintro e w' ⟨rfl, hI2, hf2⟩; have g1 := hf2.cell hx1 nX; have g2 := hf2.cell hr1 nT))
  all_goals
    go_wp2_with fail
    go_end0
    exact ⟨rfl, hI2, hFin _ hf2⟩
end Go.Proofs.YbulkbjwiFmt
