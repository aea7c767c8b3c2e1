/- jsonwire.ConsumeString over the text of a string. -/
import Derived.Test.YtldcoaigecnpfaaDoorConsS
namespace Go.Proofs.YtldcoaigecnpfaaDoor
open Go.RowKit
set_option maxRecDepth 100000 in
set_option maxHeartbeats 4000000 in
theorem consume (V g cap e : Nat) (lo vb : Bool) (T : List UInt8) (w : World) (hvb : vb = !lo) (hm : BytesAt w g 0 T) (hcap : T.length ≤ cap) (hnb : T.length ≤ 1000000) (hT : Lib.Utf8Tabs 3 4 w)
    (h0 : atL T 0 = 34) (he : e < T.length) (h34 : atL T e = 34) (h1 : 1 ≤ e) (hs : strN lo T 1 = e) (hF : FV w V true) (hgV : g ≠ V) (hgw : g < w.heap.size) (hTB : ∀ w', w.grownBy w' (some V) → Lib.Utf8Tabs 3 4 w') :
    Calls Tryd.prog 51 #[.pointer (some ⟨V, 0, none⟩), .slice (some ⟨g, 0, none⟩) T.length cap, .bool vb] w (ConsPost e V (T.take e) w) := by
  have HC := Lib.hid (consS V g cap e lo vb T w hvb hm hcap hnb hT h0 he h34 h1 hs hF hgV hgw hTB)
  clear hm hT hTB hF h34 hs h0 hcap hnb hvb
  generalize T.take e = M at HC ⊢
  generalize T.length = n at HC he ⊢
  go_enter Tryd.func51, Tryd.ntmps51
  go_wp2_with fail
  refine HC.out.mono ?_
  rintro en w' ⟨cn, rfl, h⟩
  have H := Lib.hid h
  clear h HC
  go_wp2
  go_ret2
  exact ⟨cn, rfl, H.out⟩
end Go.Proofs.YtldcoaigecnpfaaDoor
