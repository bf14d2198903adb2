/-
  laws.FnRounded answers true, whatever the shape.
-/
import Derived.Test.YtohidpmkoehmcaaGreatLawRnd
namespace Go.Proofs.YtohidpmkoehmcaaGreat
open PubFl Go.RowKit

theorem rounded_walk (s : Sh) (lv pv : Value) (more : Bool) (w : World) (hs : ShIn 4 w lv pv s) :
    Calls Tryz.prog 3 #[.agg #[.int .i64 s.kind, lv, pv], .bool more] w (Ret w (.bool true)) := by
  cases hf : fitsB s
  · exact lawRnd_no s lv pv more w hs (by rw [hf]; rfl)
  · cases hw : whShB s
    · exact lawRnd_no s lv pv more w hs (by rw [hf, hw]; rfl)
    · exact lawRnd_yes s lv pv more w hs hf hw
end Go.Proofs.YtohidpmkoehmcaaGreat
