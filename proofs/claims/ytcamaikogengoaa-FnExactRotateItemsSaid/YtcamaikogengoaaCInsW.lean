/- insertionSortCmpFunc over items from a world of the sort to another. The walk turns the kit's over zsortanyfunc.go to this program. -/
import Derived.Test.YtcamaikogengoaaCIns
import Derived.Sort.WalkB2
import Derived.Sort.WalkB12
import Derived.Deep.LoopGhost
namespace Go.Proofs.Ytcamaikogengoaa
set_option linter.unusedVariables false
set_option linter.unusedSimpArgs false
set_option linter.unusedSectionVars false
open Go.Shelf Go.RowKit Go.Lib Go.Sort
variable {P : Program} {α : Type} [Inhabited α]

theorem insertion_item_w (L : Inner P) (k : Nat) (aE : ∀ w, (isAgg 78).run P w = .ok true w) (zE : ∀ w, (Go.sizeOf 78).run P w = .ok k w) (enc : α → List Value) (cf : α → α → Int) (g : Nat) (cb : Array Value) (blk off cap a b : Nat) (d0 d : Array α) (w0 w : World)
    (eg : ∀ args w, (callFunc g args).run P w = .ok (.enter g args) w) (hcmp : CmpLays P g cb enc k cf blk off d0.size w0) (R : RowK enc k w0 blk off d0) (hs : d0.size = d.size) (S : SWK enc k w0 blk off d w) (hO : SWO (ltOf cf)) (hab : a ≤ b) (hb : b ≤ d.size) (hsz : d.size < 4611686018427387904) :
    Calls P 116 #[.slice (some ⟨blk, off, none⟩) d.size cap, .int .i64 a, .int .i64 b, .func (.func g) #[] cb] w fun e w' => e = .returned (.tuple #[]) ∧ SWK enc k w0 blk off (Sort.insertionSort (ltOf cf) d a b) w' := by
  have hs' : (Sort.insertionSort (ltOf cf) d a b).size = d.size := (insertionSort_holds hO d a b hab hb).1.1
  have hC : CmpLays P g cb enc k cf blk off d.size w := fun m os dk hdk x y => by
    obtain ⟨n0, os0, rfl⟩ := S
    rw [sortWorldK_on enc k w0 blk off n0 m d dk os0 os R.hblk hdk]
    exact hcmp _ _ dk (by omega) x y
  refine (insertion_item L k aE zE enc R.hk R.h1 cf g cb blk off cap a b d w eg hC (S.holds R.hblk R.hH hs.symm) (S.lt R.hblk) hab hb hsz).mono ?_
  rintro e w' ⟨rfl, n, os, rfl⟩
  exact ⟨rfl, S.on R.hblk n _ os hs'⟩

end Go.Proofs.Ytcamaikogengoaa
