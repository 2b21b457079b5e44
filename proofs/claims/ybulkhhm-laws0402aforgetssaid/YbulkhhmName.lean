import Derived.Test.YbulkhhmRows
import Derived.WalkKit
import Derived.WalkLawsBesides
import Derived.Below
namespace Go.Proofs.Ybulkhhm.Fg
open Go.RowKit
def nameOf (i : Nat) : ByteArray := ⟨#[110, (i / 256).toUInt8, (i % 256).toUInt8]⟩
theorem conv_name (i : Nat) (h : i < 65536) (w : World) : (convert 46 9 (.slice (some ⟨w.heap.size, 0, none⟩) 3 3)).run Yba.prog (w.alloc (.cells #[.int .u8 110, .int .u8 ((i : Int) / 256), .int .u8 ((i : Int) % 256)] 5)) =
    .ok (.string (nameOf i)) (w.alloc (.cells #[.int .u8 110, .int .u8 ((i : Int) / 256), .int .u8 ((i : Int) % 256)] 5)) := by
  have e1 : ((i / 256).toUInt8.toNat : Int) = (i : Int) / 256 := by
    rw [Nat.toUInt8, UInt8.toNat_ofNat']; omega
  have e2 : ((i % 256).toUInt8.toNat : Int) = (i : Int) % 256 := by
    rw [Nat.toUInt8, UInt8.toNat_ofNat']; omega
  exact run_convert_bytes_back _ 46 9 5 ⟨w.heap.size, 0, none⟩ 3 [110, (i / 256).toUInt8, (i % 256).toUInt8] Yba.underlying46 Yba.underlying5 Yba.underlying9 (fun j hj => by
    match j, hj with
    | 0, _ => simp [Addr.add]
    | 1, _ => show _ = some (Value.int .u8 ((i / 256).toUInt8.toNat : Int)); rw [e1]; simp [Addr.add]
    | 2, _ => show _ = some (Value.int .u8 ((i % 256).toUInt8.toNat : Int)); rw [e2]; simp [Addr.add])
set_option maxRecDepth 100000 in
theorem name_any (i : Nat) (h : i < 65536) (w : World) :
    Calls Yba.prog 8 #[.int .i64 i] w fun e w' => e = .returned (.string (nameOf i)) ∧ Below w.heap.size w w' := by
  have hcv := conv_name i h w
  go_enter Yba.func8, Yba.ntmps8
  go_wp2
  go_ret
  exact ⟨rfl, (Below.refl _ _).alloc (Nat.le_refl _) _⟩

/-- what the i-th name reads as -/
def key (i : Nat) : Lit := .string [110, (i / 256).toUInt8, (i % 256).toUInt8]
theorem key_eq (i : Nat) : key i = .string (nameOf i).data.toList := rfl
theorem key_inj {i j : Nat} (hi : i < 65536) (hj : j < 65536) (h : key i = key j) : i = j := by
  simp only [key, Lit.string.injEq, List.cons.injEq] at h
  have a := congrArg UInt8.toNat h.2.1
  have b := congrArg UInt8.toNat h.2.2.1
  simp only [Nat.toUInt8, UInt8.toNat_ofNat'] at a b
  omega
end Go.Proofs.Ybulkhhm.Fg
