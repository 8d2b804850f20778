import Derived.Test.YbulkqlmRows
import Derived.WalkKit
import Derived.WalkSpells
import Derived.WalkLawsBesides
import Derived.LaidEql
namespace Go.Proofs.Ybulkqlm
open Go.RowKit

theorem method_ptr (T E f : Nat) (name : String) (p : Value) (i : TypeInfo) (m : Method) (hi : Yba.prog.info? T = some i) (hm : i.methods.find? (·.name == name) = some m) (hp : m.path = #[]) (hf : m.func = some (f, true))
    (hu : Yba.prog.underlying T = some (.pointer E)) (w : World) (n : Nat) :
    (method (n + 1) T p name).run Yba.prog w = .ok (f, p) w := by
  unfold method
  simp [typeInfo, hi, hm, hp, hf, follow, receiverAt, Place.get, run_underlying hu]
theorem parts {T : TypeId} {name : String} {m : Method} (h : ((Yba.prog.info? T).bind fun i => i.methods.find? (·.name == name)) = some m) : ∃ i, Yba.prog.info? T = some i ∧ i.methods.find? (·.name == name) = some m := by
  cases hi : Yba.prog.info? T with
  | none => rw [hi] at h; cases h
  | some i => rw [hi] at h; exact ⟨i, rfl, h⟩
theorem find_ds : ((Yba.prog.info? 25).bind fun i => i.methods.find? (·.name == "Datasync")) = some ⟨"Datasync", 52, #[], some (22, true)⟩ := by kernel_rfl

theorem m_ds (n : Nat) (p : Value) (w : World) : (method (n + 1) 25 p "Datasync").run Yba.prog w = .ok (22, p) w := by
  obtain ⟨i, h1, h2⟩ := parts find_ds
  exact method_ptr 25 27 22 "Datasync" p i _ h1 h2 rfl rfl Yba.underlying25 w n

theorem info54 : ∃ i, Yba.prog.info? 54 = some i ∧ i.comparable = true := by
  have h : (Yba.prog.info? 54).map (·.comparable) = some true := by kernel_rfl
  cases hi : Yba.prog.info? 54 with
  | none => rw [hi] at h; cases h
  | some i => rw [hi] at h; exact ⟨i, rfl, by simpa using h⟩
theorem info56 : ∃ i, Yba.prog.info? 56 = some i := by
  have h : (Yba.prog.info? 56).isSome = true := by kernel_rfl
  exact Option.isSome_iff_exists.1 h
theorem same_err (b : Nat) (w : World) : (binOp .eql 23 (.iface 54 (.pointer (some ⟨b, 0, Option.none⟩))) (.iface 54 (.pointer (some ⟨b, 0, Option.none⟩)))).run Yba.prog w = .ok (.bool true) w := by
  obtain ⟨i, h1, h2⟩ := info54
  obtain ⟨j, h3⟩ := info56
  exact run_eql_iface_ptr_same w ⟨b, 0, Option.none⟩ Yba.underlying23 Yba.underlying54 h1 h2 h3

set_option maxHeartbeats 800000 in
theorem law (a0 a1 : Bool) (a2 : Int) (w : World) :
    Calls Yba.prog 3 #[.bool a0, .bool a1, .int .i64 a2] w fun e w' => e = .returned (.bool true) ∧ Grown w w' := by
  have hm := m_ds
  cases a0
  · go_enter Yba.func3, Yba.ntmps3
    go_wp2
    go_ret
    exact ⟨rfl, by repeat (first | exact Grown.refl _ | apply Grown.drew | apply Grown.alloc)⟩
  · have he : ∀ (b : Nat) (w : World), (binOp .eql 23 (.iface 54 (.pointer (some ⟨b, 0, Option.none⟩))) (.iface 54 (.pointer (some ⟨b, 0, Option.none⟩)))).run Yba.prog w = .ok (.bool true) w := same_err
    go_enter Yba.func3, Yba.ntmps3
    go_wp2
    go_ret
    exact ⟨rfl, by repeat (first | exact Grown.refl _ | apply Grown.drew | apply Grown.alloc)⟩
end Go.Proofs.Ybulkqlm
