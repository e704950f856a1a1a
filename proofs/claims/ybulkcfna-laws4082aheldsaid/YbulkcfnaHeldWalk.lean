import Derived.Test.YbulkcfnaLoads
import Derived.WalkKit
namespace Go.Proofs.Ybulkcfna.lawS4082AHeld
open Go.MuLone Go.RowKit
theorem walk (a0 : ByteArray) (a1 : Bool) (w : World) :
    Calls Yba.prog 4 #[.string a0, .bool a1] w fun e w' => e = .returned (.bool true) ∧ Grown w w' := by
  have hnot : ∀ (x : Bool) (w : World), (Op.unary .not (.bool x)).run Yba.prog w = .ok (.bool (!x)) w := fun _ _ => rfl
  have he := eqlS
  have hn := neqS
  cases a1
  · go_enter Yba.func4, Yba.ntmps4
    go_wp2_with fail
    refine (loadS_any (w.heap.size + 1) 0 (.pointer (some ⟨w.heap.size, 0, none⟩)) ((w.alloc (.cells #[.string a0] 9)).alloc (.cells #[.int .i32 0, .int .u32 0, .pointer (some ⟨w.heap.size, 0, none⟩)] 46)) (by simp [go_sem]) (by simp [go_sem]) (by simp [go_sem])).mono ?_
    rintro e w' ⟨rfl, rfl⟩
    go_wp2_with fail
    refine (trylock_free ⟨w.heap.size + 1, 0, none⟩ ((w.alloc (.cells #[.string a0] 9)).alloc (.cells #[.int .i32 0, .int .u32 0, .pointer (some ⟨w.heap.size, 0, none⟩)] 46)) (by simp [go_sem]) (by simp [go_sem])).mono ?_
    rintro e w' ⟨rfl, rfl⟩
    go_wp2_with fail
    refine (unlock_held muLib ⟨w.heap.size + 1, 0, none⟩ ((w.alloc (.cells #[.string a0] 9)).alloc (.cells #[.int .i32 1, .int .u32 0, .pointer (some ⟨w.heap.size, 0, none⟩)] 46)) (by simp [go_sem]) (by simp [go_sem])).mono ?_
    rintro e w' ⟨rfl, rfl⟩
    go_wp2
    go_ret
    exact ⟨rfl, by repeat (first | exact Grown.refl _ | apply Grown.drew | apply Grown.alloc)⟩
  · go_enter Yba.func4, Yba.ntmps4
    go_wp2_with fail
    refine (loadS_any (w.heap.size + 1) 0 (.pointer none) ((w.alloc (.cells #[.string a0] 9)).alloc (.cells #[.int .i32 0, .int .u32 0, .pointer none] 46)) (by simp [go_sem]) (by simp [go_sem]) (by simp [go_sem])).mono ?_
    rintro e w' ⟨rfl, rfl⟩
    go_wp2_with fail
    refine (trylock_free ⟨w.heap.size + 1, 0, none⟩ ((w.alloc (.cells #[.string a0] 9)).alloc (.cells #[.int .i32 0, .int .u32 0, .pointer none] 46)) (by simp [go_sem]) (by simp [go_sem])).mono ?_
    rintro e w' ⟨rfl, rfl⟩
    go_wp2_with fail
    refine (unlock_held muLib ⟨w.heap.size + 1, 0, none⟩ ((w.alloc (.cells #[.string a0] 9)).alloc (.cells #[.int .i32 1, .int .u32 0, .pointer none] 46)) (by simp [go_sem]) (by simp [go_sem])).mono ?_
    rintro e w' ⟨rfl, rfl⟩
    go_wp2
    go_ret
    exact ⟨rfl, by repeat (first | exact Grown.refl _ | apply Grown.drew | apply Grown.alloc)⟩
end Go.Proofs.Ybulkcfna.lawS4082AHeld
