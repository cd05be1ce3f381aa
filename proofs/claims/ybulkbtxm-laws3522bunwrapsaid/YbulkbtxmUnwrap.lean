import Derived.Test.YbulkbtxmText
import Derived.Lib.Strings
set_option linter.unusedVariables false
namespace Go.Proofs.Ybulkbtxm
open Go.RowKit

theorem unwrap_any (eb ib : Nat) (w : World) (h2 : w.cell? ⟨eb, 2, none⟩ = some (.iface 22 (.pointer (some ⟨ib, 0, none⟩)))) :
    Calls Yba.prog 6 #[.pointer (some ⟨eb, 0, none⟩)] w fun e w' => e = .returned (.iface 22 (.pointer (some ⟨ib, 0, none⟩))) ∧ w' = w := by
  go_enter Yba.func6, Yba.ntmps6
  go_wp2
  go_ret
  exact ⟨rfl, rfl⟩

set_option maxRecDepth 100000 in
set_option maxHeartbeats 1000000 in
theorem unwrap_nokey (file msg G : ByteArray) (w : World) (hfs : file.size ≤ 65536) (hms : msg.size ≤ 65536)
    (herr : Hid (Calls Yba.prog 5 #[.pointer (some ⟨w.heap.size + 1, 0, none⟩)] (made w file ByteArray.empty msg) fun e w' => e = .returned (.string G) ∧ w' = ((made w file ByteArray.empty msg).setCell ⟨w.heap.size, 1, none⟩ (.int .i64 1)).drew))
    (hG1 : file.size + 2 + msg.size ≤ G.size) (hG2 : G.size ≤ 300000) (hEq : ((G.size : Int) == (file.size : Int) + 2 + (msg.size : Int)) = true) (e1 : G.extract 0 (file.size + 2) = file ++ ⟨#[58, 32]⟩) (e2 : G.extract (G.size - msg.size) G.size = msg) :
    Calls Yba.prog 4 #[.string file, .string ByteArray.empty, .string msg] w fun e w' => e = .returned (.bool true) ∧ Grown w w' := by
  have hse := same_err
  have d1 : decide ((65536 : Int) < (file.size : Int)) = false := by simp; omega
  have d2 : decide ((65536 : Int) < (msg.size : Int)) = false := by simp; omega
  go_enter Yba.func4, Yba.ntmps4
  go_wp2_with fail
  have mc := made_cells w file ByteArray.empty msg
  refine (unwrap_any (w.heap.size + 1) w.heap.size (made w file ByteArray.empty msg) mc.2.2.1).mono ?_
  rintro e w' ⟨rfl, rfl⟩
  clear mc
  go_wp2_with fail
  refine herr.out.mono ?_
  rintro e w' ⟨rfl, rfl⟩
  clear herr
  unfold made
  go_wp2
  go_ret
  exact ⟨rfl, by repeat (first | exact Grown.refl _ | apply Grown.drew | apply Grown.alloc)⟩

set_option maxRecDepth 100000 in
set_option maxHeartbeats 1000000 in
theorem unwrap_key (file key msg G : ByteArray) (w : World) (hfs : file.size ≤ 65536) (hks : key.size ≤ 65536) (hk : 0 < key.size) (hms : msg.size ≤ 65536)
    (herr : Hid (Calls Yba.prog 5 #[.pointer (some ⟨w.heap.size + 1, 0, none⟩)] (made w file key msg) fun e w' => e = .returned (.string G) ∧ w' = ((made w file key msg).setCell ⟨w.heap.size, 1, none⟩ (.int .i64 1)).drew))
    (hG1 : file.size + 2 + msg.size ≤ G.size) (hG2 : G.size ≤ 300000) (hEq : ((G.size : Int) == (file.size : Int) + 2 + ((key.size : Int) + 2) + (msg.size : Int)) = true) (e1 : G.extract 0 (file.size + 2) = file ++ ⟨#[58, 32]⟩) (e2 : G.extract (G.size - msg.size) G.size = msg) :
    Calls Yba.prog 4 #[.string file, .string key, .string msg] w fun e w' => e = .returned (.bool true) ∧ Grown w w' := by
  have hse := same_err
  have d1 : decide ((65536 : Int) < (file.size : Int)) = false := by simp; omega
  have d2 : decide ((65536 : Int) < (msg.size : Int)) = false := by simp; omega
  have d3 : decide ((65536 : Int) < (key.size : Int)) = false := by simp; omega
  go_enter Yba.func4, Yba.ntmps4
  go_wp2_with fail
  have mc := made_cells w file key msg
  refine (unwrap_any (w.heap.size + 1) w.heap.size (made w file key msg) mc.2.2.1).mono ?_
  rintro e w' ⟨rfl, rfl⟩
  clear mc
  go_wp2_with fail
  refine herr.out.mono ?_
  rintro e w' ⟨rfl, rfl⟩
  clear herr
  unfold made
  go_wp2
  go_ret
  exact ⟨rfl, by repeat (first | exact Grown.refl _ | apply Grown.drew | apply Grown.alloc)⟩

theorem ba_ext {a b : ByteArray} (h : a.data.toList = b.data.toList) : a = b := by
  obtain ⟨⟨l⟩⟩ := a
  obtain ⟨⟨m⟩⟩ := b
  simp only at h
  rw [h]

theorem data_app (a b : ByteArray) : (a ++ b).data.toList = a.data.toList ++ b.data.toList := by
  rw [ByteArray.data_append, Array.toList_append]

theorem size_data (a : ByteArray) : a.size = a.data.toList.length := rfl

theorem head_part (a r : ByteArray) : (a ++ r).extract 0 a.size = a := by
  apply ba_ext
  rw [Lib.extract_data, data_app, size_data a]
  simp

theorem tail_part (a m : ByteArray) : (a ++ m).extract ((a ++ m).size - m.size) (a ++ m).size = m := by
  apply ba_ext
  rw [Lib.extract_data, data_app, ByteArray.size_append, Nat.add_sub_cancel, Nat.add_sub_cancel_left, size_data a, List.drop_left, size_data m]
  exact List.take_of_length_le (Nat.le_refl _)

theorem app_assoc (a b c : ByteArray) : a ++ b ++ c = a ++ (b ++ c) := by
  apply ba_ext
  rw [data_app, data_app, data_app, data_app, List.append_assoc]

theorem unwrap_any' (file key msg : ByteArray) (w : World) (h1 : file.size ≤ 65536) (h2 : key.size ≤ 65536) (h3 : msg.size ≤ 65536) :
    Calls Yba.prog 4 #[.string file, .string key, .string msg] w fun e w' => e = .returned (.bool true) ∧ Grown w w' := by
  have hfc : (file ++ colon).size = file.size + 2 := by rw [ByteArray.size_append, colon_size]
  by_cases h4 : key.size = 0
  · rw [bytes_empty key h4]
    have mc := made_cells w file ByteArray.empty msg
    have hsz : (file ++ colon ++ msg).size = file.size + 2 + msg.size := by rw [ByteArray.size_append, hfc]
    refine unwrap_nokey file msg (file ++ colon ++ msg) w h1 h3 (error_nokey (w.heap.size + 1) w.heap.size file msg (made w file ByteArray.empty msg) (by omega) h1 h3 mc.1 mc.2.1 mc.2.2.1 mc.2.2.2.1 mc.2.2.2.2.1 mc.2.2.2.2.2) (by omega) (by omega) (beq_iff_eq.2 (by omega)) ?_ (tail_part _ _)
    rw [← hfc]
    exact head_part (file ++ colon) msg
  · obtain ⟨k1, k2⟩ := bytes_some key h4
    have mc := made_cells w file key msg
    have hsz : (file ++ colon ++ key ++ colon ++ msg).size = file.size + 2 + (key.size + 2) + msg.size := by
      rw [ByteArray.size_append, ByteArray.size_append, ByteArray.size_append, hfc, colon_size]; omega
    refine unwrap_key file key msg (file ++ colon ++ key ++ colon ++ msg) w h1 h2 (by omega) h3 (error_key (w.heap.size + 1) w.heap.size file key msg (made w file key msg) (by omega) h1 h2 h3 k1 mc.1 mc.2.1 mc.2.2.1 mc.2.2.2.1 mc.2.2.2.2.1 mc.2.2.2.2.2) (by omega) (by omega) (beq_iff_eq.2 (by omega)) ?_ (tail_part _ _)
    rw [← hfc, app_assoc, app_assoc]
    exact head_part (file ++ colon) _

set_option maxHeartbeats 400000 in
theorem unwrap_long1 (file key msg : ByteArray) (w : World) (h : 65536 < file.size) :
    Calls Yba.prog 4 #[.string file, .string key, .string msg] w fun e w' => e = .returned (.bool true) ∧ Grown w w' := by
  have d1 : decide ((65536 : Int) < (file.size : Int)) = true := by simp; omega
  go_enter Yba.func4, Yba.ntmps4
  go_wp2
  go_ret
  exact ⟨rfl, Grown.refl _⟩
set_option maxHeartbeats 400000 in
theorem unwrap_long2 (file key msg : ByteArray) (w : World) (hf : file.size ≤ 65536) (h : 65536 < key.size) :
    Calls Yba.prog 4 #[.string file, .string key, .string msg] w fun e w' => e = .returned (.bool true) ∧ Grown w w' := by
  have d1 : decide ((65536 : Int) < (file.size : Int)) = false := by simp; omega
  have d2 : decide ((65536 : Int) < (key.size : Int)) = true := by simp; omega
  go_enter Yba.func4, Yba.ntmps4
  go_wp2
  go_ret
  exact ⟨rfl, Grown.refl _⟩
set_option maxHeartbeats 400000 in
theorem unwrap_long3 (file key msg : ByteArray) (w : World) (hf : file.size ≤ 65536) (hk : key.size ≤ 65536) (h : 65536 < msg.size) :
    Calls Yba.prog 4 #[.string file, .string key, .string msg] w fun e w' => e = .returned (.bool true) ∧ Grown w w' := by
  have d1 : decide ((65536 : Int) < (file.size : Int)) = false := by simp; omega
  have d2 : decide ((65536 : Int) < (key.size : Int)) = false := by simp; omega
  have d3 : decide ((65536 : Int) < (msg.size : Int)) = true := by simp; omega
  go_enter Yba.func4, Yba.ntmps4
  go_wp2
  go_ret
  exact ⟨rfl, Grown.refl _⟩

theorem unwrap_all (file key msg : ByteArray) (w : World) : Calls Yba.prog 4 #[.string file, .string key, .string msg] w fun e w' => e = .returned (.bool true) ∧ Grown w w' := by
  by_cases h1 : file.size ≤ 65536
  · by_cases h2 : key.size ≤ 65536
    · by_cases h3 : msg.size ≤ 65536
      · exact unwrap_any' file key msg w h1 h2 h3
      · exact unwrap_long3 file key msg w h1 h2 (by omega)
    · exact unwrap_long2 file key msg w h1 (by omega)
  · exact unwrap_long1 file key msg w (by omega)

end Go.Proofs.Ybulkbtxm
