import Derived.Test.YbulkbtxmOrders
import Derived.WalkSpells
import Derived.WalkLawsBesides
import Derived.Outline
import Derived.LaidEql
import Derived.BigQuiet
set_option linter.unusedVariables false
namespace Go.Proofs.Ybulkbtxm
open Go.RowKit

/-- (*zzs3522berr).Error: it counts, and hands its text over. -/
theorem inner_any (ib : Nat) (msg : ByteArray) (n : Int) (w : World) (hn : 0 ≤ n ∧ n ≤ 1000) (h0 : w.cell? ⟨ib, 0, none⟩ = some (.string msg)) (h1 : w.cell? ⟨ib, 1, none⟩ = some (.int .i64 n)) (hf : w.frozen? ⟨ib, 1, none⟩ = false) :
    Calls Yba.prog 22 #[.pointer (some ⟨ib, 0, none⟩)] w fun e w' => e = .returned (.string msg) ∧ w' = w.setCell ⟨ib, 1, none⟩ (.int .i64 (n + 1)) := by
  obtain ⟨hn1, hn2⟩ := hn
  go_enter Yba.func22, Yba.ntmps22
  go_wp2
  go_ret
  exact ⟨rfl, rfl⟩

theorem method_inner (w : World) (a : Addr) : (method 149 22 (.pointer (some a)) "Error").run Yba.prog w = .ok (22, .pointer (some a)) w := by kernel_rfl

def colon : ByteArray := ⟨#[58, 32]⟩
theorem colon_size : colon.size = 2 := rfl

theorem exec_add {ρ : Operand → Value} {o : Oper} {x y : Operand} (ho : o.op = .binOp .add 9 x y 9) {a b : ByteArray} (hx : ρ x = .string a) (hy : ρ y = .string b) (h : a.size + b.size ≤ 1000000) (w : World) :
    (execOp ρ o).run Yba.prog w = .ok (.value (.string (a ++ b))) w := by
  have hr := run_string_add_sum (P := Yba.prog) w a b (by omega)
  obtain ⟨s, hs⟩ : ∃ s, s = Op.stringOp .add a b := ⟨_, rfl⟩
  rw [← hs] at hr
  unfold execOp
  rw [ho]
  simp only [hx, hy, binOp_string_add, ← hs]
  simp [hr, go_sem]

theorem hS_after (eb ib : Nat) (w : World) (file key : ByteArray) (hne : eb ≠ ib) (h0 : w.cell? ⟨eb, 0, none⟩ = some (.string file)) (h1 : w.cell? ⟨eb, 1, none⟩ = some (.string key)) (h2 : w.cell? ⟨eb, 2, none⟩ = some (.iface 22 (.pointer (some ⟨ib, 0, none⟩)))) :
    (w.drew.setCell ⟨ib, 1, none⟩ (.int .i64 (0 + 1))).cell? ⟨eb, 0, none⟩ = some (.string file) ∧ (w.drew.setCell ⟨ib, 1, none⟩ (.int .i64 (0 + 1))).cell? ⟨eb, 1, none⟩ = some (.string key) ∧ (w.drew.setCell ⟨ib, 1, none⟩ (.int .i64 (0 + 1))).cell? ⟨eb, 2, none⟩ = some (.iface 22 (.pointer (some ⟨ib, 0, none⟩))) := by
  have hk : ∀ j, (⟨ib, 1, none⟩ : Addr) ≠ ⟨eb, j, none⟩ := fun j h => hne (congrArg Addr.block h).symm
  exact ⟨(World.cell?_setCell_other _ _ _ _ (hk 0)).trans h0, (World.cell?_setCell_other _ _ _ _ (hk 1)).trans h1, (World.cell?_setCell_other _ _ _ _ (hk 2)).trans h2⟩

set_option maxRecDepth 100000 in
set_option maxHeartbeats 1000000 in
theorem error_nokey (eb ib : Nat) (file msg : ByteArray) (w : World) (hne : eb ≠ ib) (hfs : file.size ≤ 65536) (hms : msg.size ≤ 65536)
    (h0 : w.cell? ⟨eb, 0, none⟩ = some (.string file)) (h1 : w.cell? ⟨eb, 1, none⟩ = some (.string ByteArray.empty)) (h2 : w.cell? ⟨eb, 2, none⟩ = some (.iface 22 (.pointer (some ⟨ib, 0, none⟩))))
    (k0 : w.cell? ⟨ib, 0, none⟩ = some (.string msg)) (k1 : w.cell? ⟨ib, 1, none⟩ = some (.int .i64 0)) (kf : w.frozen? ⟨ib, 1, none⟩ = false) :
    Calls Yba.prog 5 #[.pointer (some ⟨eb, 0, none⟩)] w fun e w' => e = .returned (.string (file ++ colon ++ msg)) ∧ w' = (w.setCell ⟨ib, 1, none⟩ (.int .i64 1)).drew := by
  have hmeth := method_inner
  go_enter Yba.func5, Yba.ntmps5
  go_wp2
  refine wp_region_J (late := fun j => j == 0 || j == 1 || j == 2 || j == 5 || j == 6 || j == 7) (S := fun w' => w'.cell? ⟨eb, 0, none⟩ = some (.string file) ∧ w'.cell? ⟨eb, 1, none⟩ = some (.string ByteArray.empty) ∧ w'.cell? ⟨eb, 2, none⟩ = some (.iface 22 (.pointer (some ⟨ib, 0, none⟩)))) (by kernel_rfl) ?_
  have hS : w.drew.cell? ⟨eb, 0, none⟩ = some (.string file) ∧ w.drew.cell? ⟨eb, 1, none⟩ = some (.string ByteArray.empty) ∧ w.drew.cell? ⟨eb, 2, none⟩ = some (.iface 22 (.pointer (some ⟨ib, 0, none⟩))) := ⟨h0, h1, h2⟩
  refine takeP 0 (some 8) (.move (.tmp 0)) (.pointer (some ⟨eb, 0, none⟩)) (by kernel_rfl) (by kernel_rfl) (by kernel_rfl) (by kernel_rfl) (by kernel_rfl) (fun _ _ _ h => h) ?_ ?_
  · intro o ho x
    unfold execOp
    rw [ho]
    go_simp
  simp only [Act.put, List.setIfInBounds_toArray, List.set_cons_zero, List.set_cons_succ]
  refine takeP 1 (some 9) (.nilCheck (.tmp 8)) (.pointer (some ⟨eb, 0, none⟩)) (by kernel_rfl) (by kernel_rfl) (by kernel_rfl) (by kernel_rfl) (by kernel_rfl) (fun _ _ _ h => h) ?_ ?_
  · intro o ho x
    unfold execOp
    rw [ho]
    go_simp
  simp only [Act.put, List.setIfInBounds_toArray, List.set_cons_zero, List.set_cons_succ]
  refine takeP 2 (some 10) (.fieldAddr 29 (.tmp 9) 0) (.pointer (some ⟨eb, 0, none⟩)) (by kernel_rfl) (by kernel_rfl) (by kernel_rfl) (by kernel_rfl) (by kernel_rfl) (fun _ _ _ h => h) ?_ ?_
  · intro o ho x
    unfold execOp
    rw [ho]
    go_simp
  simp only [Act.put, List.setIfInBounds_toArray, List.set_cons_zero, List.set_cons_succ]
  refine takeP 5 (some 13) (.move (.tmp 0)) (.pointer (some ⟨eb, 0, none⟩)) (by kernel_rfl) (by kernel_rfl) (by kernel_rfl) (by kernel_rfl) (by kernel_rfl) (fun _ _ _ h => h) ?_ ?_
  · intro o ho x
    unfold execOp
    rw [ho]
    go_simp
  simp only [Act.put, List.setIfInBounds_toArray, List.set_cons_zero, List.set_cons_succ]
  refine takeP 6 (some 14) (.nilCheck (.tmp 13)) (.pointer (some ⟨eb, 0, none⟩)) (by kernel_rfl) (by kernel_rfl) (by kernel_rfl) (by kernel_rfl) (by kernel_rfl) (fun _ _ _ h => h) ?_ ?_
  · intro o ho x
    unfold execOp
    rw [ho]
    go_simp
  simp only [Act.put, List.setIfInBounds_toArray, List.set_cons_zero, List.set_cons_succ]
  refine takeP 7 (some 15) (.fieldAddr 29 (.tmp 14) 2) (.pointer (some ⟨eb, 2, none⟩)) (by kernel_rfl) (by kernel_rfl) (by kernel_rfl) (by kernel_rfl) (by kernel_rfl) (fun _ _ _ h => h) ?_ ?_
  · intro o ho x
    unfold execOp
    rw [ho]
    go_simp
  simp only [Act.put, List.setIfInBounds_toArray, List.set_cons_zero, List.set_cons_succ]
  refine takeJ 3 (some 11) (.load 9 (.tmp 10)) (.string file) (by kernel_rfl) (by kernel_rfl) (by kernel_rfl) (by kernel_rfl) (by kernel_rfl) (fun _ _ _ h => h) hS ?_ ?_
  · intro o ho x hx
    obtain ⟨hx0, hx1, hx2⟩ := hx
    unfold execOp
    rw [ho]
    go_simp
  simp only [Act.put, List.setIfInBounds_toArray, List.set_cons_zero, List.set_cons_succ]
  refine takeJ 8 (some 16) (.load 27 (.tmp 15)) (.iface 22 (.pointer (some ⟨ib, 0, none⟩))) (by kernel_rfl) (by kernel_rfl) (by kernel_rfl) (by kernel_rfl) (by kernel_rfl) (fun _ _ _ h => h) hS ?_ ?_
  · intro o ho x hx
    obtain ⟨hx0, hx1, hx2⟩ := hx
    unfold execOp
    rw [ho]
    go_simp
  simp only [Act.put, List.setIfInBounds_toArray, List.set_cons_zero, List.set_cons_succ]
  refine takeJ 4 (some 12) (.binOp .add 9 (.tmp 11) (.const (.string ⟨#[58, 32]⟩)) 9) (.string (file ++ colon)) (by kernel_rfl) (by kernel_rfl) (by kernel_rfl) (by kernel_rfl) (by kernel_rfl) (fun _ _ _ h => h) hS ?_ ?_
  · intro o ho x hx
    exact exec_add ho rfl rfl (by rw [colon_size]; omega) x
  simp only [Act.put, List.setIfInBounds_toArray, List.set_cons_zero, List.set_cons_succ]
  refine wpAnyJ_ready (rs := [9]) (by kernel_rfl) (by simp) ?_
  refine stepJ 9 (some 17) (.call { callee := .invoke (.tmp 16) "Error", args := #[], argTypes := #[] }) (by kernel_rfl) (fun o ho hd K hK => ?_) AllReadyJ.nil
  unfold Oper.wp execOp
  rw [ho]
  go_simp
  refine (inner_any ib msg 0 w.drew (by omega) k0 k1 kf).mono ?_
  rintro e w' ⟨rfl, rfl⟩
  have hS2 := hS_after eb ib w file ByteArray.empty hne h0 h1 h2
  refine hK.out _ _ (Or.inr hS2) ?_
  clear hK K ho hd o
  refine takeJ 10 (some 18) (.binOp .add 9 (.tmp 12) (.tmp 17) 9) (.string (file ++ colon ++ msg)) (by kernel_rfl) (by kernel_rfl) (by kernel_rfl) (by kernel_rfl) (by kernel_rfl) (fun _ _ _ h => h) hS2 ?_ ?_
  · intro o ho x hx
    exact exec_add ho rfl rfl (by rw [ByteArray.size_append, colon_size]; omega) x
  simp only [Act.put, List.setIfInBounds_toArray, List.set_cons_zero, List.set_cons_succ]
  refine takeJ 11 (some 2) (.assign (.tmp 18)) (.string (file ++ colon ++ msg)) (by kernel_rfl) (by kernel_rfl) (by kernel_rfl) (by kernel_rfl) (by kernel_rfl) (fun _ _ _ h => h) hS2 ?_ ?_
  · intro o ho x hx
    obtain ⟨hx0, hx1, hx2⟩ := hx
    unfold execOp
    rw [ho]
    go_simp
  simp only [Act.put, List.setIfInBounds_toArray, List.set_cons_zero, List.set_cons_succ]
  refine wpAnyJ_done (by kernel_rfl) ?_ _
  go_wp2
  go_ret
  exact ⟨rfl, rfl⟩

set_option maxRecDepth 100000 in
set_option maxHeartbeats 1000000 in
theorem error_key (eb ib : Nat) (file key msg : ByteArray) (w : World) (hne : eb ≠ ib) (hfs : file.size ≤ 65536) (hks : key.size ≤ 65536) (hms : msg.size ≤ 65536) (hk0 : key.toList.isEmpty = false)
    (h0 : w.cell? ⟨eb, 0, none⟩ = some (.string file)) (h1 : w.cell? ⟨eb, 1, none⟩ = some (.string key)) (h2 : w.cell? ⟨eb, 2, none⟩ = some (.iface 22 (.pointer (some ⟨ib, 0, none⟩))))
    (k0 : w.cell? ⟨ib, 0, none⟩ = some (.string msg)) (k1 : w.cell? ⟨ib, 1, none⟩ = some (.int .i64 0)) (kf : w.frozen? ⟨ib, 1, none⟩ = false) :
    Calls Yba.prog 5 #[.pointer (some ⟨eb, 0, none⟩)] w fun e w' => e = .returned (.string (file ++ colon ++ key ++ colon ++ msg)) ∧ w' = (w.setCell ⟨ib, 1, none⟩ (.int .i64 1)).drew := by
  have hmeth := method_inner
  go_enter Yba.func5, Yba.ntmps5
  go_wp2
  refine wp_region_J (late := fun j => j == 0 || j == 1 || j == 2 || j == 5 || j == 6 || j == 7 || j == 11 || j == 12 || j == 13) (S := fun w' => w'.cell? ⟨eb, 0, none⟩ = some (.string file) ∧ w'.cell? ⟨eb, 1, none⟩ = some (.string key) ∧ w'.cell? ⟨eb, 2, none⟩ = some (.iface 22 (.pointer (some ⟨ib, 0, none⟩)))) (by kernel_rfl) ?_
  have hS : w.drew.cell? ⟨eb, 0, none⟩ = some (.string file) ∧ w.drew.cell? ⟨eb, 1, none⟩ = some (.string key) ∧ w.drew.cell? ⟨eb, 2, none⟩ = some (.iface 22 (.pointer (some ⟨ib, 0, none⟩))) := ⟨h0, h1, h2⟩
  refine takeP 0 (some 19) (.move (.tmp 0)) (.pointer (some ⟨eb, 0, none⟩)) (by kernel_rfl) (by kernel_rfl) (by kernel_rfl) (by kernel_rfl) (by kernel_rfl) (fun _ _ _ h => h) ?_ ?_
  · intro o ho x
    unfold execOp
    rw [ho]
    go_simp
  simp only [Act.put, List.setIfInBounds_toArray, List.set_cons_zero, List.set_cons_succ]
  refine takeP 1 (some 20) (.nilCheck (.tmp 19)) (.pointer (some ⟨eb, 0, none⟩)) (by kernel_rfl) (by kernel_rfl) (by kernel_rfl) (by kernel_rfl) (by kernel_rfl) (fun _ _ _ h => h) ?_ ?_
  · intro o ho x
    unfold execOp
    rw [ho]
    go_simp
  simp only [Act.put, List.setIfInBounds_toArray, List.set_cons_zero, List.set_cons_succ]
  refine takeP 2 (some 21) (.fieldAddr 29 (.tmp 20) 0) (.pointer (some ⟨eb, 0, none⟩)) (by kernel_rfl) (by kernel_rfl) (by kernel_rfl) (by kernel_rfl) (by kernel_rfl) (fun _ _ _ h => h) ?_ ?_
  · intro o ho x
    unfold execOp
    rw [ho]
    go_simp
  simp only [Act.put, List.setIfInBounds_toArray, List.set_cons_zero, List.set_cons_succ]
  refine takeP 5 (some 24) (.move (.tmp 0)) (.pointer (some ⟨eb, 0, none⟩)) (by kernel_rfl) (by kernel_rfl) (by kernel_rfl) (by kernel_rfl) (by kernel_rfl) (fun _ _ _ h => h) ?_ ?_
  · intro o ho x
    unfold execOp
    rw [ho]
    go_simp
  simp only [Act.put, List.setIfInBounds_toArray, List.set_cons_zero, List.set_cons_succ]
  refine takeP 6 (some 25) (.nilCheck (.tmp 24)) (.pointer (some ⟨eb, 0, none⟩)) (by kernel_rfl) (by kernel_rfl) (by kernel_rfl) (by kernel_rfl) (by kernel_rfl) (fun _ _ _ h => h) ?_ ?_
  · intro o ho x
    unfold execOp
    rw [ho]
    go_simp
  simp only [Act.put, List.setIfInBounds_toArray, List.set_cons_zero, List.set_cons_succ]
  refine takeP 7 (some 26) (.fieldAddr 29 (.tmp 25) 1) (.pointer (some ⟨eb, 1, none⟩)) (by kernel_rfl) (by kernel_rfl) (by kernel_rfl) (by kernel_rfl) (by kernel_rfl) (fun _ _ _ h => h) ?_ ?_
  · intro o ho x
    unfold execOp
    rw [ho]
    go_simp
  simp only [Act.put, List.setIfInBounds_toArray, List.set_cons_zero, List.set_cons_succ]
  refine takeP 11 (some 30) (.move (.tmp 0)) (.pointer (some ⟨eb, 0, none⟩)) (by kernel_rfl) (by kernel_rfl) (by kernel_rfl) (by kernel_rfl) (by kernel_rfl) (fun _ _ _ h => h) ?_ ?_
  · intro o ho x
    unfold execOp
    rw [ho]
    go_simp
  simp only [Act.put, List.setIfInBounds_toArray, List.set_cons_zero, List.set_cons_succ]
  refine takeP 12 (some 31) (.nilCheck (.tmp 30)) (.pointer (some ⟨eb, 0, none⟩)) (by kernel_rfl) (by kernel_rfl) (by kernel_rfl) (by kernel_rfl) (by kernel_rfl) (fun _ _ _ h => h) ?_ ?_
  · intro o ho x
    unfold execOp
    rw [ho]
    go_simp
  simp only [Act.put, List.setIfInBounds_toArray, List.set_cons_zero, List.set_cons_succ]
  refine takeP 13 (some 32) (.fieldAddr 29 (.tmp 31) 2) (.pointer (some ⟨eb, 2, none⟩)) (by kernel_rfl) (by kernel_rfl) (by kernel_rfl) (by kernel_rfl) (by kernel_rfl) (fun _ _ _ h => h) ?_ ?_
  · intro o ho x
    unfold execOp
    rw [ho]
    go_simp
  simp only [Act.put, List.setIfInBounds_toArray, List.set_cons_zero, List.set_cons_succ]
  refine takeJ 3 (some 22) (.load 9 (.tmp 21)) (.string file) (by kernel_rfl) (by kernel_rfl) (by kernel_rfl) (by kernel_rfl) (by kernel_rfl) (fun _ _ _ h => h) hS ?_ ?_
  · intro o ho x hx
    obtain ⟨hx0, hx1, hx2⟩ := hx
    unfold execOp
    rw [ho]
    go_simp
  simp only [Act.put, List.setIfInBounds_toArray, List.set_cons_zero, List.set_cons_succ]
  refine takeJ 8 (some 27) (.load 9 (.tmp 26)) (.string key) (by kernel_rfl) (by kernel_rfl) (by kernel_rfl) (by kernel_rfl) (by kernel_rfl) (fun _ _ _ h => h) hS ?_ ?_
  · intro o ho x hx
    obtain ⟨hx0, hx1, hx2⟩ := hx
    unfold execOp
    rw [ho]
    go_simp
  simp only [Act.put, List.setIfInBounds_toArray, List.set_cons_zero, List.set_cons_succ]
  refine takeJ 14 (some 33) (.load 27 (.tmp 32)) (.iface 22 (.pointer (some ⟨ib, 0, none⟩))) (by kernel_rfl) (by kernel_rfl) (by kernel_rfl) (by kernel_rfl) (by kernel_rfl) (fun _ _ _ h => h) hS ?_ ?_
  · intro o ho x hx
    obtain ⟨hx0, hx1, hx2⟩ := hx
    unfold execOp
    rw [ho]
    go_simp
  simp only [Act.put, List.setIfInBounds_toArray, List.set_cons_zero, List.set_cons_succ]
  refine takeJ 4 (some 23) (.binOp .add 9 (.tmp 22) (.const (.string ⟨#[58, 32]⟩)) 9) (.string (file ++ colon)) (by kernel_rfl) (by kernel_rfl) (by kernel_rfl) (by kernel_rfl) (by kernel_rfl) (fun _ _ _ h => h) hS ?_ ?_
  · intro o ho x hx
    exact exec_add ho rfl rfl (by rw [colon_size]; omega) x
  simp only [Act.put, List.setIfInBounds_toArray, List.set_cons_zero, List.set_cons_succ]
  refine takeJ 9 (some 28) (.binOp .add 9 (.tmp 23) (.tmp 27) 9) (.string (file ++ colon ++ key)) (by kernel_rfl) (by kernel_rfl) (by kernel_rfl) (by kernel_rfl) (by kernel_rfl) (fun _ _ _ h => h) hS ?_ ?_
  · intro o ho x hx
    exact exec_add ho rfl rfl (by rw [ByteArray.size_append, colon_size]; omega) x
  simp only [Act.put, List.setIfInBounds_toArray, List.set_cons_zero, List.set_cons_succ]
  refine takeJ 10 (some 29) (.binOp .add 9 (.tmp 28) (.const (.string ⟨#[58, 32]⟩)) 9) (.string (file ++ colon ++ key ++ colon)) (by kernel_rfl) (by kernel_rfl) (by kernel_rfl) (by kernel_rfl) (by kernel_rfl) (fun _ _ _ h => h) hS ?_ ?_
  · intro o ho x hx
    exact exec_add ho rfl rfl (by rw [ByteArray.size_append, ByteArray.size_append, colon_size]; omega) x
  simp only [Act.put, List.setIfInBounds_toArray, List.set_cons_zero, List.set_cons_succ]
  refine wpAnyJ_ready (rs := [15]) (by kernel_rfl) (by simp) ?_
  refine stepJ 15 (some 34) (.call { callee := .invoke (.tmp 33) "Error", args := #[], argTypes := #[] }) (by kernel_rfl) (fun o ho hd K hK => ?_) AllReadyJ.nil
  unfold Oper.wp execOp
  rw [ho]
  go_simp
  refine (inner_any ib msg 0 w.drew (by omega) k0 k1 kf).mono ?_
  rintro e w' ⟨rfl, rfl⟩
  have hS2 := hS_after eb ib w file key hne h0 h1 h2
  refine hK.out _ _ (Or.inr hS2) ?_
  clear hK K ho hd o
  refine takeJ 16 (some 35) (.binOp .add 9 (.tmp 29) (.tmp 34) 9) (.string (file ++ colon ++ key ++ colon ++ msg)) (by kernel_rfl) (by kernel_rfl) (by kernel_rfl) (by kernel_rfl) (by kernel_rfl) (fun _ _ _ h => h) hS2 ?_ ?_
  · intro o ho x hx
    exact exec_add ho rfl rfl (by rw [ByteArray.size_append, ByteArray.size_append, ByteArray.size_append, colon_size]; omega) x
  simp only [Act.put, List.setIfInBounds_toArray, List.set_cons_zero, List.set_cons_succ]
  refine takeJ 17 (some 2) (.assign (.tmp 35)) (.string (file ++ colon ++ key ++ colon ++ msg)) (by kernel_rfl) (by kernel_rfl) (by kernel_rfl) (by kernel_rfl) (by kernel_rfl) (fun _ _ _ h => h) hS2 ?_ ?_
  · intro o ho x hx
    obtain ⟨hx0, hx1, hx2⟩ := hx
    unfold execOp
    rw [ho]
    go_simp
  simp only [Act.put, List.setIfInBounds_toArray, List.set_cons_zero, List.set_cons_succ]
  refine wpAnyJ_done (by kernel_rfl) ?_ _
  go_wp2
  go_ret
  exact ⟨rfl, rfl⟩

end Go.Proofs.Ybulkbtxm
