/-
  'ZZPlaces' (11) hands 'places' over.
-/
import Derived.Test.Qxb6603151aPlaces
namespace Go.Proofs.Qxb6603151a
open Go.RowKit

theorem zz_any (ha oa aa na : Option Addr) (hcap ocap acap ncap : Nat) (hd op an nms : List Str) (w : World)
    (h1 : StrsAt w ha hd) (h2 : StrsAt w oa op) (h3 : StrsAt w aa an) (h4 : StrsAt w na nms) (n1 : ha = none → hcap = 0) (n2 : oa = none → ocap = 0)
    (l1 : hd.length ≤ 65536) (l2 : op.length ≤ 65536) (l3 : an.length ≤ 65536) (l4 : nms.length ≤ 65536) :
    Calls Try.prog 11 #[.slice ha hd.length hcap, .slice oa op.length ocap, .slice aa an.length acap, .slice na nms.length ncap] w (PlacesPost w ⟨an, hd ++ op, nms⟩ hd.length) := by
  have hc : Hid _ := places_any ha oa aa na hcap ocap acap ncap hd op an nms w h1 h2 h3 h4 n1 n2 l1 l2 l3 l4
  clear h1 h2 h3 h4 n1 n2
  go_enter Try.func11, Try.ntmps11
  go_wp2_with fail
  refine Calls.mono hc.out ?_
  rintro e w' ⟨hb, hp⟩
  have HB : Hid _ := hb
  have HP : Hid _ := hp
  clear hb hp hc
  rcases HP.out with ⟨k1, P, rfl, k2, k3⟩ | ⟨k1, rfl⟩
  · have K1 : Hid _ := k1
    have K3 : Hid _ := k3
    clear k1 k3 HP
    go_wp2
    go_ret2
    exact ⟨HB.out, .inl ⟨K1.out, P, rfl, k2, K3.out⟩⟩
  · have K1 : Hid _ := k1
    clear k1 HP
    go_wp2
    go_ret2
    exact ⟨HB.out, .inr ⟨K1.out, rfl⟩⟩
end Go.Proofs.Qxb6603151a
