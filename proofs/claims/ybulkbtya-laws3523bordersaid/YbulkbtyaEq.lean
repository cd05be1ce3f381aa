import Derived.Test.YbulkbtyaCopy
import Derived.Laws.BytesArg
set_option linter.unusedVariables false
namespace Go.Proofs.Ybulkbtya
open Go.RowKit

theorem u64_and_self (n : Nat) (h : n < 1073741824) : bits .and .u64 (n : Int) (n : Int) = (n : Int) := by
  show IntKind.u64.wrap ((BitVec.ofInt 64 (n : Int) &&& BitVec.ofInt 64 (n : Int)).toNat : Int) = _
  have h2 : (BitVec.ofInt 64 (n : Int)).toNat = n := by
    rw [BitVec.toNat_ofInt]
    simp
    omega
  rw [BitVec.and_self, h2]
  show (n : Int) % 18446744073709551616 = n
  omega

theorem sec_any (b n : Nat) (s : Int) (w : World) (hn : n < 1073741824) (h0 : w.cell? ⟨b, 0, none⟩ = some (.int .u64 (n : Int))) (h1 : w.cell? ⟨b, 1, none⟩ = some (.int .i64 s)) :
    Calls Yba.prog 16 #[.pointer (some ⟨b, 0, none⟩)] w fun e w' => e = .returned (.int .i64 s) ∧ w' = w := by
  have ht := u64_and_top n hn
  go_enter Yba.func16, Yba.ntmps16
  go_wp2
  go_ret
  exact ⟨rfl, rfl⟩

theorem nsec_any (b n : Nat) (w : World) (h0 : w.cell? ⟨b, 0, none⟩ = some (.int .u64 (n : Int))) :
    Calls Yba.prog 17 #[.pointer (some ⟨b, 0, none⟩)] w fun e w' => e = .returned (.int .i32 (wrap32 (bits .and .u64 (n : Int) 1073741823))) ∧ w' = w := by
  go_enter Yba.func17, Yba.ntmps17
  go_wp2
  go_ret
  exact ⟨rfl, rfl⟩

set_option maxRecDepth 100000 in
theorem equal_same (n : Nat) (s : Int) (w : World) (hn : n < 1073741824) :
    Calls Yba.prog 7 #[.agg #[.int .u64 (n : Int), .int .i64 s, .pointer none], .agg #[.int .u64 (n : Int), .int .i64 s, .pointer none]] w fun e w' => e = .returned (.bool true) ∧ Chg (fun _ => False) w w' := by
  have ht := u64_and_top n hn
  have hs := u64_and_self n hn
  obtain ⟨W, hW⟩ : ∃ W : World, W = (w.alloc (.cells #[.int .u64 (n : Int), .int .i64 s, .pointer none] 33)).alloc (.cells #[.int .u64 (n : Int), .int .i64 s, .pointer none] 33) := ⟨_, rfl⟩
  have a0 : W.cell? ⟨w.heap.size, 0, none⟩ = some (.int .u64 (n : Int)) := by rw [hW]; simp [go_sem]
  have a1 : W.cell? ⟨w.heap.size, 1, none⟩ = some (.int .i64 s) := by rw [hW]; simp [go_sem]
  have b0 : W.cell? ⟨w.heap.size + 1, 0, none⟩ = some (.int .u64 (n : Int)) := by rw [hW]; simp [go_sem]
  have b1 : W.cell? ⟨w.heap.size + 1, 1, none⟩ = some (.int .i64 s) := by rw [hW]; simp [go_sem]
  have hcw : Chg (fun _ => False) w W := by rw [hW]; exact ((Chg.refl _ _).alloc _).alloc _
  have HCW := show Hid (Chg (fun _ => False) w W) from hcw
  clear hcw
  go_enter Yba.func7, Yba.ntmps7
  go_wp2_with fail
  simp only [← hW]
  clear hW
  refine (sec_any _ n s _ hn a0 a1).mono ?_
  rintro e w' ⟨rfl, rfl⟩
  go_wp2_with fail
  refine (sec_any _ n s _ hn b0 b1).mono ?_
  rintro e w' ⟨rfl, rfl⟩
  go_wp2_with fail
  refine (nsec_any _ n _ a0).mono ?_
  rintro e w' ⟨rfl, rfl⟩
  go_wp2_with fail
  refine (nsec_any _ n _ b0).mono ?_
  rintro e w' ⟨rfl, rfl⟩
  go_wp2_with fail
  go_ret
  exact ⟨rfl, HCW.out⟩

theorem isZero_zero (w : World) :
    Calls Yba.prog 9 #[.agg #[.int .u64 0, .int .i64 0, .pointer none]] w fun e w' => e = .returned (.bool true) ∧ Chg (fun _ => False) w w' := by
  go_enter Yba.func9, Yba.ntmps9
  go_wp2
  go_ret
  exact ⟨rfl, (Chg.refl _ _).alloc _⟩

theorem conv_some (a : Addr) (len cap : Nat) (ns : List Int) (w : World) (hl : ns.length = len) (hc : ∀ j u, (ns.map (Value.int .u8))[j]? = some u → w.cell? (a.add j) = some u) :
    (convert 27 9 (.slice (some a) len cap)).run Yba.prog w = .ok (.string (strOfNums ns)) w := by
  have h := run_loadCells_list (P := Yba.prog) w a (ns.map (Value.int .u8)) hc
  rw [List.length_map, hl] at h
  rw [run_convert_bytes_string w 27 9 5 _ len cap Yba.underlying27 Yba.underlying5 Yba.underlying9, run_bytesToString w _ len cap ns h, foldl_push_bytes]
  simp [strOfNums, ByteArray.empty, ByteArray.emptyWithCapacity]
  rfl

theorem conv_nil (w : World) : (convert 27 9 (.slice none 0 0)).run Yba.prog w = .ok (.string (strOfNums [])) w :=
  run_convert_bytes_nil w 27 5 Yba.underlying27 Yba.underlying5 0 0 9 Yba.underlying9

theorem conv_owned {w : World} {B : Nat} {a : Option Addr} {n c : Nat} {ns : List Int} (h : w.ownsRow B 5 1 (.slice a n c) n (ns.map (Value.int .u8))) : (convert 27 9 (.slice a n c)).run Yba.prog w = .ok (.string (strOfNums ns)) w := by
  have hl : ns.length = n := by have := h.1; simpa using this
  rcases owns_form h with ⟨e, e1, e2⟩ | ⟨g, cap, e, _⟩
  · rw [e]
    obtain rfl : ns = [] := by simpa using e2
    exact conv_nil w
  · injection e with e1 e2 e3
    subst e1 e3
    exact conv_some _ n _ ns w hl (h.cells (g := g) rfl)

theorem conv_body {w : World} {t : It} {ns : List Int} (h : BodyAt w t) (hz : t.zs = ns.map (Value.int .u8)) : (convert 27 9 (.slice t.ba t.bl t.bc)).run Yba.prog w = .ok (.string (strOfNums ns)) w := by
  rcases h with ⟨h1, h2, h3, h4⟩ | ⟨y, h1, h2, h3, h4, _⟩
  · rw [h1, h2, h3]
    obtain rfl : ns = [] := by rw [h4] at hz; simpa using hz.symm
    exact conv_nil w
  · rw [h1]
    rw [hz] at h3 h4
    exact conv_some y t.bl t.bc ns w (by simpa using h3) h4

theorem bytes_same (v1 v2 : Value) (s : ByteArray) (w : World) (h1 : (convert 27 9 v1).run Yba.prog w = .ok (.string s) w) (h2 : (convert 27 9 v2).run Yba.prog w = .ok (.string s) w) :
    Calls Yba.prog 10 #[v1, v2] w fun e w' => e = .returned (.bool true) ∧ w' = w := by
  go_enter Yba.func10, Yba.ntmps10
  go_wp2
  go_ret
  exact ⟨by simp, rfl⟩
end Go.Proofs.Ybulkbtya
