/-
  What the rows of FnDecodeWith say of the listed error variables.
-/
import Derived.Test.YtnmokjgiilfdlaaGreatDoorLaid
set_option linter.all false
namespace Go.Proofs.YtnmokjgiilfdlaaGreatDoor
open PubFl Go.RowKit

set_option maxRecDepth 100000 in
theorem glsW_of_laid {W : World} (h : laidMetH Tryz.prog Rows.fnDecodeWithRow.laid W) : Gls W := by
  rw [MakeChecks.laidMetH_plain _ _ _ (by kernel_rfl)] at h
  obtain ⟨ps, h, _, hrows⟩ := h
  exact ⟨gle_of_laid hrows "io.EOF" _ 0 (by kernel_rfl) (by kernel_rfl) _ ps (fun _ h => h) h (by apply List.Mem.tail; exact List.Mem.head _),
    gle_of_laid hrows "io.ErrUnexpectedEOF" _ 1 (by kernel_rfl) (by kernel_rfl) _ ps (fun _ h => h) h (by apply List.Mem.tail; apply List.Mem.tail; exact List.Mem.head _),
    gle_of_laid hrows "loop.example/pub-g01503/pub/orbwkbcommon.ErrNotWKB" _ 2 (by kernel_rfl) (by kernel_rfl) _ ps (fun _ h => h) h (by apply List.Mem.tail; apply List.Mem.tail; apply List.Mem.tail; apply List.Mem.tail; exact List.Mem.head _),
    gle_of_laid hrows "loop.example/pub-g01503/pub/orbwkbcommon.ErrUnsupportedGeometry" _ 3 (by kernel_rfl) (by kernel_rfl) _ ps (fun _ h => h) h (by apply List.Mem.tail; apply List.Mem.tail; apply List.Mem.tail; apply List.Mem.tail; apply List.Mem.tail; apply List.Mem.tail; apply List.Mem.tail; exact List.Mem.head _),
    gle_of_laid hrows "loop.example/pub-g01503/pub/orbwkbcommon.ErrUnsupportedDataType" _ 4 (by kernel_rfl) (by kernel_rfl) _ ps (fun _ h => h) h (by apply List.Mem.tail; apply List.Mem.tail; apply List.Mem.tail; exact List.Mem.head _),
    gle_of_laid hrows "loop.example/pub-g01503/pub/orbwkbcommon.ErrNotWKBHeader" _ 7 (by kernel_rfl) (by kernel_rfl) _ ps (fun _ h => h) h (by apply List.Mem.tail; apply List.Mem.tail; apply List.Mem.tail; apply List.Mem.tail; apply List.Mem.tail; exact List.Mem.head _),
    gle_of_laid hrows "loop.example/pub-g01503/pub/orbwkbcommon.ErrIncorrectGeometry" _ 8 (by kernel_rfl) (by kernel_rfl) _ ps (fun _ h => h) h (by apply List.Mem.tail; apply List.Mem.tail; apply List.Mem.tail; apply List.Mem.tail; apply List.Mem.tail; apply List.Mem.tail; exact List.Mem.head _),
    gle_of_laid hrows "loop.example/pub-g01503/pub/orbwkb.ErrUnsupportedDataType" _ 5 (by kernel_rfl) (by kernel_rfl) _ ps (fun _ h => h) h (by apply List.Mem.tail; apply List.Mem.tail; apply List.Mem.tail; apply List.Mem.tail; apply List.Mem.tail; apply List.Mem.tail; apply List.Mem.tail; apply List.Mem.tail; apply List.Mem.tail; apply List.Mem.tail; apply List.Mem.tail; apply List.Mem.tail; exact List.Mem.head _),
    gle_of_laid hrows "loop.example/pub-g01503/pub/orbwkb.ErrNotWKB" _ 6 (by kernel_rfl) (by kernel_rfl) _ ps (fun _ h => h) h (by apply List.Mem.tail; apply List.Mem.tail; apply List.Mem.tail; apply List.Mem.tail; apply List.Mem.tail; apply List.Mem.tail; apply List.Mem.tail; apply List.Mem.tail; apply List.Mem.tail; apply List.Mem.tail; apply List.Mem.tail; apply List.Mem.tail; apply List.Mem.tail; exact List.Mem.head _),
    gle_of_laid hrows "loop.example/pub-g01503/pub/orbwkb.ErrIncorrectGeometry" _ 9 (by kernel_rfl) (by kernel_rfl) _ ps (fun _ h => h) h (by apply List.Mem.tail; apply List.Mem.tail; apply List.Mem.tail; apply List.Mem.tail; apply List.Mem.tail; apply List.Mem.tail; apply List.Mem.tail; apply List.Mem.tail; apply List.Mem.tail; apply List.Mem.tail; apply List.Mem.tail; apply List.Mem.tail; apply List.Mem.tail; apply List.Mem.tail; exact List.Mem.head _),
    gle_of_laid hrows "loop.example/pub-g01503/pub/orbwkb.ErrUnsupportedGeometry" _ 10 (by kernel_rfl) (by kernel_rfl) _ ps (fun _ h => h) h (by apply List.Mem.tail; apply List.Mem.tail; apply List.Mem.tail; apply List.Mem.tail; apply List.Mem.tail; apply List.Mem.tail; apply List.Mem.tail; apply List.Mem.tail; apply List.Mem.tail; apply List.Mem.tail; apply List.Mem.tail; apply List.Mem.tail; apply List.Mem.tail; apply List.Mem.tail; apply List.Mem.tail; exact List.Mem.head _)⟩
end Go.Proofs.YtnmokjgiilfdlaaGreatDoor
