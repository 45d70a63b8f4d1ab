/- ReadUnified of nothing. -/
import Derived.Test.YtonajgipkpnpoaaDoorRdF
namespace Go.Proofs.YtonajgipkpnpoaaDoor.Un
open Go.RowKit Go.Proofs.YtonajgipkpnpoaaDoorW.PrintWords Go.Proofs.YtonajgipkpnpoaaDoorW.PrintLast Go.Proofs.YtonajgipkpnpoaaDoorW.PrintMore Go.Uni
set_option linter.unusedVariables false
set_option linter.unusedSimpArgs false

set_option maxRecDepth 100000 in
theorem read_nil (W : World) (a b old : ByteArray) :
    Calls Tryd.prog 12 #[.string ⟨#[]⟩, .string a, .string b, .string old] W fun e w' => ReadPost W old [] e w' := by
  have hnew : (W.alloc (.cells #[] 56)).ownsRow W.heap.size 56 6 (.slice (some ⟨W.heap.size, 0, none⟩) 0 0) 0 [] := World.ownsRow_lit W #[] 0 (Nat.le_refl _) (by decide) rfl
  have HNEW := Aside0.mk hnew
  have hz : (⟨#[]⟩ : ByteArray).toList.isEmpty = true := by rw [ByteArray.toList_eq]; rfl
  clear hnew
  go_enter Tryd.func12, Tryd.ntmps12
  go_wp2_with fail
  go_ret3
  exact ⟨_, [], rfl, rfl, (fun x hx => by cases hx), HNEW.out, below_alloc (Below.refl _ _) _⟩
end Go.Proofs.YtonajgipkpnpoaaDoor.Un
