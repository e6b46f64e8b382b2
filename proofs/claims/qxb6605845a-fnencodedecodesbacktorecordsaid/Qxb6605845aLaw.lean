import Derived.Test.Qxb6605845aL1
import Derived.Test.Qxb6605845aL2
import Derived.Test.Qxb6605845aL3
import Derived.Test.Qxb6605845aL4
import Derived.Test.Qxb6605845aL5
import Derived.Test.Qxb6605845aL6
import Derived.Test.Qxb6605845aL7
namespace Go.Proofs.Qxb6605845a.Ec
set_option linter.unusedVariables false
set_option linter.unusedSimpArgs false
open Go.RowKit

set_option maxHeartbeats 1000000 in
set_option maxRecDepth 100000 in
theorem law_all (k : Int) (site : ByteArray) (node : Int) (idSeq : Nat) (P : List Int) (ticket : Nat) (RT RK WT WK : List ByteArray) (WV : List (Option (List UInt8))) (seq : Nat) (ap a1 a2 a3 a4 a5 : Option Addr) (cp c1 c2 c3 c4 c5 : Nat) (w : World)
    (hp : IArg w ap P) (h1 : SArg w a1 RT) (h2 : SArg w a2 RK) (h3 : SArg w a3 WT) (h4 : SArg w a4 WK) (h5 : VArg w a5 WV)
    (np : ap = none → cp = 0) (n1 : a1 = none → c1 = 0) (n2 : a2 = none → c2 = 0) (n3 : a3 = none → c3 = 0) (n4 : a4 = none → c4 = 0) (n5 : a5 = none → c5 = 0)
    (ls : site.size < 2 ^ 63) (lp : P.length < 2 ^ 63) (l1 : RT.length < 2 ^ 63) (l2 : RK.length < 2 ^ 63) (l3 : WT.length < 2 ^ 63) (l4 : WK.length < 2 ^ 63) (l5 : WV.length < 2 ^ 63)
    (i1 : idSeq < 2 ^ 64) (i2 : ticket < 2 ^ 64) (i3 : seq < 2 ^ 64) :
    Calls Try.prog 5 #[.int .u8 k, .string site, .int .i64 node, .int .u64 idSeq, .slice ap P.length cp, .int .u64 ticket, .slice a1 RT.length c1, .slice a2 RK.length c2, .slice a3 WT.length c3, .slice a4 WK.length c4, .slice a5 WV.length c5, .int .u64 seq] w fun e w' => e = .returned (.bool true) ∧ Below w.heap.size w w' := by
  by_cases q1 : 65536 < P.length
  · exact law_q1 k site node idSeq P ticket RT RK WT WK WV seq ap a1 a2 a3 a4 a5 cp c1 c2 c3 c4 c5 w hp h1 h2 h3 h4 h5 np n1 n2 n3 n4 n5 ls lp l1 l2 l3 l4 l5 i1 i2 i3 q1
  by_cases q2 : 1048576 < site.size
  · exact law_q2 k site node idSeq P ticket RT RK WT WK WV seq ap a1 a2 a3 a4 a5 cp c1 c2 c3 c4 c5 w hp h1 h2 h3 h4 h5 np n1 n2 n3 n4 n5 ls lp l1 l2 l3 l4 l5 i1 i2 i3 q1 q2
  by_cases k1 : k = 1
  · subst k1
    exact law_1 site node idSeq P ticket RT RK WT WK WV seq ap a1 a2 a3 a4 a5 cp c1 c2 c3 c4 c5 w hp h1 h2 h3 h4 h5 np n1 n2 n3 n4 n5 ls lp l1 l2 l3 l4 l5 i1 i2 i3 q1 q2
  by_cases k2 : k = 2
  · subst k2
    exact law_2 site node idSeq P ticket RT RK WT WK WV seq ap a1 a2 a3 a4 a5 cp c1 c2 c3 c4 c5 w hp h1 h2 h3 h4 h5 np n1 n2 n3 n4 n5 ls lp l1 l2 l3 l4 l5 i1 i2 i3 q1 q2
  by_cases k3 : k = 3
  · subst k3
    exact law_3 site node idSeq P ticket RT RK WT WK WV seq ap a1 a2 a3 a4 a5 cp c1 c2 c3 c4 c5 w hp h1 h2 h3 h4 h5 np n1 n2 n3 n4 n5 ls lp l1 l2 l3 l4 l5 i1 i2 i3 q1 q2
  by_cases k4 : k = 4
  · subst k4
    exact law_4 site node idSeq P ticket RT RK WT WK WV seq ap a1 a2 a3 a4 a5 cp c1 c2 c3 c4 c5 w hp h1 h2 h3 h4 h5 np n1 n2 n3 n4 n5 ls lp l1 l2 l3 l4 l5 i1 i2 i3 q1 q2
  by_cases k5 : k = 5
  · subst k5
    exact law_5 site node idSeq P ticket RT RK WT WK WV seq ap a1 a2 a3 a4 a5 cp c1 c2 c3 c4 c5 w hp h1 h2 h3 h4 h5 np n1 n2 n3 n4 n5 ls lp l1 l2 l3 l4 l5 i1 i2 i3 q1 q2
  by_cases k6 : k = 6
  · subst k6
    exact law_6 site node idSeq P ticket RT RK WT WK WV seq ap a1 a2 a3 a4 a5 cp c1 c2 c3 c4 c5 w hp h1 h2 h3 h4 h5 np n1 n2 n3 n4 n5 ls lp l1 l2 l3 l4 l5 i1 i2 i3 q1 q2
  by_cases k7 : k = 7
  · subst k7
    exact law_7 site node idSeq P ticket RT RK WT WK WV seq ap a1 a2 a3 a4 a5 cp c1 c2 c3 c4 c5 w hp h1 h2 h3 h4 h5 np n1 n2 n3 n4 n5 ls lp l1 l2 l3 l4 l5 i1 i2 i3 q1 q2
  exact law_bad k site node idSeq P ticket RT RK WT WK WV seq ap a1 a2 a3 a4 a5 cp c1 c2 c3 c4 c5 w hp h1 h2 h3 h4 h5 np n1 n2 n3 n4 n5 ls lp l1 l2 l3 l4 l5 i1 i2 i3 q1 q2 k1 k2 k3 k4 k5 k6 k7
end Go.Proofs.Qxb6605845a.Ec
