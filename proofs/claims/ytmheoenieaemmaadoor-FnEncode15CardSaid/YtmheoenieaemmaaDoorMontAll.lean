/-
  bigmod.Nat.montgomeryMul.
-/
import Derived.Test.YtmheoenieaemmaaDoorMontBig
import Derived.Test.YtmheoenieaemmaaDoorMont16
import Derived.Test.YtmheoenieaemmaaDoorMont24
import Derived.Test.YtmheoenieaemmaaDoorMont32
namespace Go.Proofs.YtmheoenieaemmaaDoor
open Go.RowKit

theorem montMul_any (p b pa ba pc bc q pn bn n : Nat) (xs rest al ar bl br ms mr : List Nat) (mi : Nat) (rv : Value) (w : World) (hx : NatAt w p b xs rest) (ha : NatAt w pa ba al ar) (hb : NatAt w pc bc bl br) (hm : ModAt w q pn bn ms mr true mi rv)
    (hn : ms.length = n) (hla : al.length = n) (hlb : bl.length = n) (hn1 : 1 ≤ n) (hnm : n + mr.length ≤ 1000000) (hna : n + ar.length ≤ 1000000) (hnb : n + br.length ≤ 1000000) (hpn : pn ≠ p) (hbn : bn ≠ b)
    (hinv : ms.headD 0 * mi % 18446744073709551616 = 18446744073709551615) (hav : val al < val ms) :
    Calls Tryd.prog 111 #[.pointer (some ⟨p, 0, none⟩), .pointer (some ⟨pa, 0, none⟩), .pointer (some ⟨pc, 0, none⟩), .pointer (some ⟨q, 0, none⟩)] w
      (MontPost p b n (val al) (val bl) (val ms) (xs.length + rest.length) w) := by
  by_cases h16 : n = 16
  · exact montMul_16 p b pa ba pc bc q pn bn n xs rest al ar bl br ms mr mi rv w hx ha hb hm hn hla hlb hn1 hnm hna hnb h16 hpn hbn hinv hav
  by_cases h24 : n = 24
  · exact montMul_24 p b pa ba pc bc q pn bn n xs rest al ar bl br ms mr mi rv w hx ha hb hm hn hla hlb hn1 hnm hna hnb h24 hpn hbn hinv hav
  by_cases h32 : n = 32
  · exact montMul_32 p b pa ba pc bc q pn bn n xs rest al ar bl br ms mr mi rv w hx ha hb hm hn hla hlb hn1 hnm hna hnb h32 hpn hbn hinv hav
  by_cases h64 : 64 < n * 2
  · exact montMul_big p b pa ba pc bc q pn bn n xs rest al ar bl br ms mr mi rv w hx ha hb hm hn hla hlb hn1 hnm hna hnb h16 h24 h32 h64 hpn hbn hinv hav
  · exact montMul_small p b pa ba pc bc q pn bn n xs rest al ar bl br ms mr mi rv w hx ha hb hm hn hla hlb hn1 hnm hna hnb h16 h24 h32 h64 hpn hbn hinv hav

end Go.Proofs.YtmheoenieaemmaaDoor
