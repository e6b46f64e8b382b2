import Derived.Test.Qxb6605676aRn2
import Derived.Test.Qxb6605676aRn3
import Derived.Test.Qxb6605676aRn4
import Derived.Test.Qxb6605676aRn5
namespace Go.Proofs.Qxb6605676a.Rm
set_option linter.unusedVariables false
set_option linter.unusedSimpArgs false
open Go.RowKit Go.Proofs.Qxb6605676a.Mp Go.Proofs.Qxb6605676a.Tm Go.Proofs.Qxb6605676a.En

theorem first_law_nn (r l : Int) (s : ByteArray) (c1 : Bool) (e1 : Int) (c2 : Bool) (e2 : Int) (p1 : -9223372036854775808 ≤ e1) (p1' : e1 ≤ 9223372036854775807) (p2 : -9223372036854775808 ≤ e2) (p2' : e2 ≤ 9223372036854775807) (w : World)  (m : s.size ≤ maxLen)  :
    Calls Try.prog 8 #[.int .i64 r, .int .i64 l, .string s, .pointer none, .pointer none, .bool c1, .int .i64 e1, .bool c2, .int .i64 e2] w fun e w' => e = .returned (.bool true) ∧ Below w.heap.size w w' := by
  by_cases h : s.size ≤ 1048576
  · cases c1 <;> cases c2
    · exact first_nndd (r := r) (l := l) (s := s) (e1 := e1) (e2 := e2) (p1 := p1) (p1' := p1') (p2 := p2) (p2' := p2') (w := w) (h := h)
    · exact first_nndc (r := r) (l := l) (s := s) (e1 := e1) (e2 := e2) (p1 := p1) (p1' := p1') (p2 := p2) (p2' := p2') (w := w) (h := h)
    · exact first_nncd (r := r) (l := l) (s := s) (e1 := e1) (e2 := e2) (p1 := p1) (p1' := p1') (p2 := p2) (p2' := p2') (w := w) (h := h)
    · exact first_nncc (r := r) (l := l) (s := s) (e1 := e1) (e2 := e2) (p1 := p1) (p1' := p1') (p2 := p2) (p2' := p2') (w := w) (h := h)
  · exact firstOut_nn (r := r) (l := l) (s := s) (k1 := c1) (e1 := e1) (k2 := c2) (e2 := e2) (w := w) (m := m) (h := h)

theorem first_law_ns (r l : Int) (s : ByteArray) (b2 o2 : Nat) (z2 : ZAl) (hok2 : z2.Ok) (c1 : Bool) (e1 : Int) (c2 : Bool) (e2 : Int) (p1 : -9223372036854775808 ≤ e1) (p1' : e1 ≤ 9223372036854775807) (p2 : -9223372036854775808 ≤ e2) (p2' : e2 ≤ 9223372036854775807) (w : World) (hz2 : ZAt w b2 o2 z2) (m : s.size ≤ maxLen) (m4 : z2.st.size ≤ maxLen) (m5 : z2.ls.size ≤ maxLen) (m6 : z2.lm.size ≤ maxLen) :
    Calls Try.prog 8 #[.int .i64 r, .int .i64 l, .string s, .pointer none, .pointer (some ⟨b2, o2, none⟩), .bool c1, .int .i64 e1, .bool c2, .int .i64 e2] w fun e w' => e = .returned (.bool true) ∧ Below w.heap.size w w' := by
  by_cases h : s.size + z2.st.size + z2.ls.size + z2.lm.size ≤ 1048576
  · cases c1 <;> cases c2
    · exact first_nsdd (r := r) (l := l) (s := s) (e1 := e1) (e2 := e2) (p1 := p1) (p1' := p1') (p2 := p2) (p2' := p2') (w := w) (h := h) (ok2 := hok2) (hz2 := hz2)
    · exact first_nsdc (r := r) (l := l) (s := s) (e1 := e1) (e2 := e2) (p1 := p1) (p1' := p1') (p2 := p2) (p2' := p2') (w := w) (h := h) (ok2 := hok2) (hz2 := hz2)
    · exact first_nscd (r := r) (l := l) (s := s) (e1 := e1) (e2 := e2) (p1 := p1) (p1' := p1') (p2 := p2) (p2' := p2') (w := w) (h := h) (ok2 := hok2) (hz2 := hz2)
    · exact first_nscc (r := r) (l := l) (s := s) (e1 := e1) (e2 := e2) (p1 := p1) (p1' := p1') (p2 := p2) (p2' := p2') (w := w) (h := h) (ok2 := hok2) (hz2 := hz2)
  · exact firstOut_ns (r := r) (l := l) (s := s) (k1 := c1) (e1 := e1) (k2 := c2) (e2 := e2) (w := w) (m := m) (h := h) (hz2 := hz2) (m4 := m4) (m5 := m5) (m6 := m6)

theorem first_law_sn (r l : Int) (s : ByteArray) (b1 o1 : Nat) (z1 : ZAl) (hok1 : z1.Ok) (c1 : Bool) (e1 : Int) (c2 : Bool) (e2 : Int) (p1 : -9223372036854775808 ≤ e1) (p1' : e1 ≤ 9223372036854775807) (p2 : -9223372036854775808 ≤ e2) (p2' : e2 ≤ 9223372036854775807) (w : World) (hz1 : ZAt w b1 o1 z1) (m : s.size ≤ maxLen) (m1 : z1.st.size ≤ maxLen) (m2 : z1.ls.size ≤ maxLen) (m3 : z1.lm.size ≤ maxLen) :
    Calls Try.prog 8 #[.int .i64 r, .int .i64 l, .string s, .pointer (some ⟨b1, o1, none⟩), .pointer none, .bool c1, .int .i64 e1, .bool c2, .int .i64 e2] w fun e w' => e = .returned (.bool true) ∧ Below w.heap.size w w' := by
  by_cases h : s.size + z1.st.size + z1.ls.size + z1.lm.size ≤ 1048576
  · cases c1 <;> cases c2
    · exact first_sndd (r := r) (l := l) (s := s) (e1 := e1) (e2 := e2) (p1 := p1) (p1' := p1') (p2 := p2) (p2' := p2') (w := w) (h := h) (ok1 := hok1) (hz1 := hz1)
    · exact first_sndc (r := r) (l := l) (s := s) (e1 := e1) (e2 := e2) (p1 := p1) (p1' := p1') (p2 := p2) (p2' := p2') (w := w) (h := h) (ok1 := hok1) (hz1 := hz1)
    · exact first_sncd (r := r) (l := l) (s := s) (e1 := e1) (e2 := e2) (p1 := p1) (p1' := p1') (p2 := p2) (p2' := p2') (w := w) (h := h) (ok1 := hok1) (hz1 := hz1)
    · exact first_sncc (r := r) (l := l) (s := s) (e1 := e1) (e2 := e2) (p1 := p1) (p1' := p1') (p2 := p2) (p2' := p2') (w := w) (h := h) (ok1 := hok1) (hz1 := hz1)
  · exact firstOut_sn (r := r) (l := l) (s := s) (k1 := c1) (e1 := e1) (k2 := c2) (e2 := e2) (w := w) (m := m) (h := h) (hz1 := hz1) (m1 := m1) (m2 := m2) (m3 := m3)

theorem first_law_ss (r l : Int) (s : ByteArray) (b1 o1 : Nat) (z1 : ZAl) (hok1 : z1.Ok) (b2 o2 : Nat) (z2 : ZAl) (hok2 : z2.Ok) (c1 : Bool) (e1 : Int) (c2 : Bool) (e2 : Int) (p1 : -9223372036854775808 ≤ e1) (p1' : e1 ≤ 9223372036854775807) (p2 : -9223372036854775808 ≤ e2) (p2' : e2 ≤ 9223372036854775807) (w : World) (hz1 : ZAt w b1 o1 z1) (hz2 : ZAt w b2 o2 z2) (m : s.size ≤ maxLen) (m1 : z1.st.size ≤ maxLen) (m2 : z1.ls.size ≤ maxLen) (m3 : z1.lm.size ≤ maxLen) (m4 : z2.st.size ≤ maxLen) (m5 : z2.ls.size ≤ maxLen) (m6 : z2.lm.size ≤ maxLen) :
    Calls Try.prog 8 #[.int .i64 r, .int .i64 l, .string s, .pointer (some ⟨b1, o1, none⟩), .pointer (some ⟨b2, o2, none⟩), .bool c1, .int .i64 e1, .bool c2, .int .i64 e2] w fun e w' => e = .returned (.bool true) ∧ Below w.heap.size w w' := by
  by_cases h : s.size + z1.st.size + z1.ls.size + z1.lm.size + z2.st.size + z2.ls.size + z2.lm.size ≤ 1048576
  · cases c1 <;> cases c2
    · exact first_ssdd (r := r) (l := l) (s := s) (e1 := e1) (e2 := e2) (p1 := p1) (p1' := p1') (p2 := p2) (p2' := p2') (w := w) (h := h) (ok1 := hok1) (hz1 := hz1) (ok2 := hok2) (hz2 := hz2)
    · exact first_ssdc (r := r) (l := l) (s := s) (e1 := e1) (e2 := e2) (p1 := p1) (p1' := p1') (p2 := p2) (p2' := p2') (w := w) (h := h) (ok1 := hok1) (hz1 := hz1) (ok2 := hok2) (hz2 := hz2)
    · exact first_sscd (r := r) (l := l) (s := s) (e1 := e1) (e2 := e2) (p1 := p1) (p1' := p1') (p2 := p2) (p2' := p2') (w := w) (h := h) (ok1 := hok1) (hz1 := hz1) (ok2 := hok2) (hz2 := hz2)
    · exact first_sscc (r := r) (l := l) (s := s) (e1 := e1) (e2 := e2) (p1 := p1) (p1' := p1') (p2 := p2) (p2' := p2') (w := w) (h := h) (ok1 := hok1) (hz1 := hz1) (ok2 := hok2) (hz2 := hz2)
  · exact firstOut_ss (r := r) (l := l) (s := s) (k1 := c1) (e1 := e1) (k2 := c2) (e2 := e2) (w := w) (m := m) (h := h) (hz1 := hz1) (m1 := m1) (m2 := m2) (m3 := m3) (hz2 := hz2) (m4 := m4) (m5 := m5) (m6 := m6)

end Go.Proofs.Qxb6605676a.Rm
