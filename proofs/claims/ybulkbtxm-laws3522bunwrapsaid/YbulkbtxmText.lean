import Derived.Test.YbulkbtxmWalk
set_option linter.unusedVariables false
namespace Go.Proofs.Ybulkbtxm
open Go.RowKit

theorem run_neq_iface_same {P : Program} (w : World) {ti tp te : TypeId} {ms : Array (String × TypeId)} {i j : TypeInfo} (a : Addr)
    (hi : P.underlying ti = some (.interface ms)) (hp : P.underlying tp = some (.pointer te)) (hinfo : P.info? tp = some i) (hcomp : i.comparable = true) (hte : P.info? te = some j) :
    (binOp .neq ti (.iface tp (.pointer (some a))) (.iface tp (.pointer (some a)))).run P w = .ok (.bool false) w := by
  simp only [binOp]
  simp [Op.equal, Op.maxDepth, run_equalIn_iface_ptr_same w 9998 a hi hp hinfo hcomp hte]

theorem info_some {P : Program} {t : TypeId} (h : (P.info? t).isSome = true) : ∃ j, P.info? t = some j := Option.isSome_iff_exists.1 h
theorem info_comp {P : Program} {t : TypeId} (h : (P.info? t).map (·.comparable) = some true) : ∃ j, P.info? t = some j ∧ j.comparable = true := by
  obtain ⟨j, hj, hc⟩ := Option.map_eq_some_iff.1 h
  exact ⟨j, hj, hc⟩

theorem same_err (w : World) (a : Addr) : (binOp .neq 27 (.iface 22 (.pointer (some a))) (.iface 22 (.pointer (some a)))).run Yba.prog w = .ok (.bool false) w := by
  obtain ⟨i, hi, hc⟩ := info_comp (P := Yba.prog) (t := 22) (by kernel_rfl)
  obtain ⟨j, hj⟩ := info_some (P := Yba.prog) (t := 24) (by kernel_rfl)
  exact run_neq_iface_same w a Yba.underlying27 Yba.underlying22 hi hc hj

/-- The world when Error is called. -/
def made (w : World) (file key msg : ByteArray) : World :=
  (w.alloc (.cells #[.string msg, .int .i64 0] 24)).alloc (.cells #[.string file, .string key, .iface 22 (.pointer (some ⟨w.heap.size, 0, none⟩))] 29)

theorem made_cells (w : World) (file key msg : ByteArray) :
    (made w file key msg).cell? ⟨w.heap.size + 1, 0, none⟩ = some (.string file) ∧ (made w file key msg).cell? ⟨w.heap.size + 1, 1, none⟩ = some (.string key) ∧
    (made w file key msg).cell? ⟨w.heap.size + 1, 2, none⟩ = some (.iface 22 (.pointer (some ⟨w.heap.size, 0, none⟩))) ∧ (made w file key msg).cell? ⟨w.heap.size, 0, none⟩ = some (.string msg) ∧
    (made w file key msg).cell? ⟨w.heap.size, 1, none⟩ = some (.int .i64 0) ∧ (made w file key msg).frozen? ⟨w.heap.size, 1, none⟩ = false := by
  unfold made
  have h := heap_alloc_new (w.alloc (.cells #[.string msg, .int .i64 0] 24)) (.cells #[.string file, .string key, .iface 22 (.pointer (some ⟨w.heap.size, 0, none⟩))] 29)
  rw [World.size_alloc] at h
  have h' : ((w.alloc (.cells #[.string msg, .int .i64 0] 24)).alloc (.cells #[.string file, .string key, .iface 22 (.pointer (some ⟨w.heap.size, 0, none⟩))] 29)).heap[w.heap.size]? = _ :=
    (Below.heap_alloc _ _ _ (by simp)).trans (heap_alloc_new w (.cells #[.string msg, .int .i64 0] 24))
  exact ⟨cell_of_row _ _ 0 _ _ _ h, cell_of_row _ _ 1 _ _ _ h, cell_of_row _ _ 2 _ _ _ h, cell_of_row _ _ 0 _ _ _ h', cell_of_row _ _ 1 _ _ _ h', frozen_of_row _ _ 1 _ _ h'⟩

set_option maxRecDepth 100000 in
set_option maxHeartbeats 1000000 in
theorem text_nokey (file msg : ByteArray) (w : World) (hfs : file.size ≤ 65536) (hms : msg.size ≤ 65536) :
    Calls Yba.prog 3 #[.string file, .string ByteArray.empty, .string msg] w fun e w' => e = .returned (.bool true) ∧ Grown w w' := by
  have hse := same_err
  have hcol : colon = ⟨#[58, 32]⟩ := rfl
  have d1 : decide ((65536 : Int) < (file.size : Int)) = false := by simp; omega
  have d2 : decide ((65536 : Int) < (msg.size : Int)) = false := by simp; omega
  go_enter Yba.func3, Yba.ntmps3
  go_wp2_with fail
  have mc := made_cells w file ByteArray.empty msg
  refine (error_nokey (w.heap.size + 1) w.heap.size file msg (made w file ByteArray.empty msg) (by omega) hfs hms mc.1 mc.2.1 mc.2.2.1 mc.2.2.2.1 mc.2.2.2.2.1 mc.2.2.2.2.2).mono ?_
  rintro e w' ⟨rfl, rfl⟩
  clear mc
  unfold made
  go_wp2
  go_ret
  exact ⟨rfl, by repeat (first | exact Grown.refl _ | apply Grown.drew | apply Grown.alloc)⟩

set_option maxRecDepth 100000 in
set_option maxHeartbeats 1000000 in
theorem text_key (file key msg : ByteArray) (w : World) (hfs : file.size ≤ 65536) (hks : key.size ≤ 65536) (hms : msg.size ≤ 65536) (hk0 : key.toList.isEmpty = false) (hk1 : ((key.size : Int) == 0) = false) :
    Calls Yba.prog 3 #[.string file, .string key, .string msg] w fun e w' => e = .returned (.bool true) ∧ Grown w w' := by
  have hse := same_err
  have hcol : colon = ⟨#[58, 32]⟩ := rfl
  have d1 : decide ((65536 : Int) < (file.size : Int)) = false := by simp; omega
  have d2 : decide ((65536 : Int) < (msg.size : Int)) = false := by simp; omega
  have d3 : decide ((65536 : Int) < (key.size : Int)) = false := by simp; omega
  go_enter Yba.func3, Yba.ntmps3
  go_wp2_with fail
  have mc := made_cells w file key msg
  refine (error_key (w.heap.size + 1) w.heap.size file key msg (made w file key msg) (by omega) hfs hks hms hk0 mc.1 mc.2.1 mc.2.2.1 mc.2.2.2.1 mc.2.2.2.2.1 mc.2.2.2.2.2).mono ?_
  rintro e w' ⟨rfl, rfl⟩
  clear mc
  unfold made
  go_wp2
  go_ret
  exact ⟨rfl, by repeat (first | exact Grown.refl _ | apply Grown.drew | apply Grown.alloc)⟩

set_option maxHeartbeats 400000 in
theorem text_long1 (file key msg : ByteArray) (w : World) (h : 65536 < file.size) :
    Calls Yba.prog 3 #[.string file, .string key, .string msg] w fun e w' => e = .returned (.bool true) ∧ Grown w w' := by
  have d1 : decide ((65536 : Int) < (file.size : Int)) = true := by simp; omega
  go_enter Yba.func3, Yba.ntmps3
  go_wp2
  go_ret
  exact ⟨rfl, Grown.refl _⟩
set_option maxHeartbeats 400000 in
theorem text_long2 (file key msg : ByteArray) (w : World) (hf : file.size ≤ 65536) (h : 65536 < key.size) :
    Calls Yba.prog 3 #[.string file, .string key, .string msg] w fun e w' => e = .returned (.bool true) ∧ Grown w w' := by
  have d1 : decide ((65536 : Int) < (file.size : Int)) = false := by simp; omega
  have d2 : decide ((65536 : Int) < (key.size : Int)) = true := by simp; omega
  go_enter Yba.func3, Yba.ntmps3
  go_wp2
  go_ret
  exact ⟨rfl, Grown.refl _⟩
set_option maxHeartbeats 400000 in
theorem text_long3 (file key msg : ByteArray) (w : World) (hf : file.size ≤ 65536) (hk : key.size ≤ 65536) (h : 65536 < msg.size) :
    Calls Yba.prog 3 #[.string file, .string key, .string msg] w fun e w' => e = .returned (.bool true) ∧ Grown w w' := by
  have d1 : decide ((65536 : Int) < (file.size : Int)) = false := by simp; omega
  have d2 : decide ((65536 : Int) < (key.size : Int)) = false := by simp; omega
  have d3 : decide ((65536 : Int) < (msg.size : Int)) = true := by simp; omega
  go_enter Yba.func3, Yba.ntmps3
  go_wp2
  go_ret
  exact ⟨rfl, Grown.refl _⟩

theorem bytes_empty (b : ByteArray) (h : b.size = 0) : b = ByteArray.empty := ByteArray.size_eq_zero_iff.1 h

theorem bytes_some (b : ByteArray) (h : b.size ≠ 0) : b.toList.isEmpty = false ∧ ((b.size : Int) == 0) = false := by
  refine ⟨?_, beq_eq_false_iff_ne.2 (by omega)⟩
  rw [ByteArray.toList_eq]
  cases hl : b.data.toList with
  | nil =>
    have hs : b.size = b.data.toList.length := rfl
    rw [hl] at hs
    exact absurd hs h
  | cons x xs => rfl

theorem text_any (file key msg : ByteArray) (w : World) : Calls Yba.prog 3 #[.string file, .string key, .string msg] w fun e w' => e = .returned (.bool true) ∧ Grown w w' := by
  by_cases h1 : file.size ≤ 65536
  · by_cases h2 : key.size ≤ 65536
    · by_cases h3 : msg.size ≤ 65536
      · by_cases h4 : key.size = 0
        · rw [bytes_empty key h4]
          exact text_nokey file msg w h1 h3
        · obtain ⟨k1, k2⟩ := bytes_some key h4
          exact text_key file key msg w h1 h2 h3 k1 k2
      · exact text_long3 file key msg w h1 h2 (by omega)
    · exact text_long2 file key msg w h1 (by omega)
  · exact text_long1 file key msg w (by omega)

end Go.Proofs.Ybulkbtxm
