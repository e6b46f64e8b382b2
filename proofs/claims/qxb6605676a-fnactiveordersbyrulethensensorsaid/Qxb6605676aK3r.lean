import Derived.Test.Qxb6605676aKz27
namespace Go.Proofs.Qxb6605676a.Kz
set_option linter.unusedVariables false
set_option linter.unusedSimpArgs false
open Go.RowKit Go.Proofs.Qxb6605676a.Mp Go.Proofs.Qxb6605676a.Tm Go.Proofs.Qxb6605676a.En
open Go.ChangeMaps (setBlock heap_setBlock_same)

section
attribute [local go_sem] Rm.run_store_float
variable {mb rb pb lr bx base kb sb tb : Nat} {rs : Array Value} {R : List RuleD} {K : List ZK} {S : List ZS} {T' : List ZR} {w0 : World} {sa ta : Option Addr} {XS : List ZS} {XA : List (ZK × Nat)} {XC XL U : List ZK} {wr : World} {l : Value}

set_option maxHeartbeats 3200000 in
set_option maxRecDepth 100000 in
theorem w3_round (P0 : Act → World → Prop) (Q0 : Exit → Act → World → Prop) (q : ZS) (j n : Nat) (hq : S[j]? = some q) (hjn : j < n) (hn : n ≤ 4096) (hlr : mb + 5 < lr ∧ mb + 5 < pb ∧ pb ≠ lr)
    (rel : Rel3 w0 sa ta mb rb pb lr bx base kb sb tb rs R K S T' XS XA XC XL U wr l) (u18 u152 u153 u154 u155 u156 u157 u158 u159 u160 u161 u162 u163 u164 u165 u166 c1 c2 c3 c4 c5 c6 c7 c8 c9 c10 c11 c12 c13 c14 c15 c16 c17 c19 c20 c21 c22 c23 c24 c25 c26 c27 c28 c29 c30 c31 c32 c33 c34 c35 c36 c37 c38 c39 c40 c41 c42 c43 c44 c45 c46 c47 c48 c49 c50 c51 c52 c53 c54 c55 c56 c57 c58 c59 c60 c61 c62 c63 c64 c65 c66 c67 c68 c69 c70 c71 c72 c73 c74 c75 c76 c77 c78 c79 c80 c81 c82 c83 c84 c85 c86 c87 c88 c89 c90 c91 c92 c93 c94 c95 c96 c97 c98 c99 c100 c101 c102 c103 c104 c105 c106 c107 c108 c109 c110 c111 c112 c113 c114 c115 c116 c117 c118 c119 c120 c121 c122 c123 c124 c125 c126 c127 c128 c129 c130 c131 c132 c133 c134 c135 c136 c137 c138 c139 c140 c141 c142 c143 c144 c145 c146 c147 c148 c167 c168 c169 c170 c171 c172 c173 c174 c175 c176 c177 c178 c179 c180 c181 c182 c183 c184 c185 c186 c187 c188 c189 c190 c191 c192 c193 c194 c195 c196 c197 c198 c199 c200 c201 c202 c203 c204 c205 c206 c207 c208 c209 c210 c211 c212 c213 c214 c215 c216 c217 c218 c219 c220 : Value)
    (hend : ∀ (v18 v152 v153 v154 v155 v156 v157 v158 v159 v160 v161 v162 v163 v164 v165 v166 : Value) (w' : World), Rel3 w0 sa ta mb rb pb lr bx base kb sb tb rs R K S T' (XS ++ [q]) XA XC XL U w' l → P0 ⟨#[.pointer (some ⟨mb + 5, 0, none⟩), c1, c2, c3, c4, c5, c6, c7, c8, c9, c10, c11, c12, c13, c14, c15, c16, c17, v18, c19, c20, c21, c22, c23, c24, c25, c26, c27, c28, c29, c30, c31, c32, c33, c34, c35, c36, c37, c38, c39, c40, c41, c42, c43, c44, c45, c46, c47, c48, c49, c50, c51, c52, c53, c54, c55, c56, c57, c58, c59, c60, c61, c62, c63, c64, c65, c66, c67, c68, c69, c70, c71, c72, c73, c74, c75, c76, c77, c78, c79, c80, c81, c82, c83, c84, c85, c86, c87, c88, c89, c90, c91, c92, c93, c94, c95, c96, c97, c98, c99, c100, c101, c102, c103, c104, c105, c106, c107, c108, c109, c110, c111, c112, c113, c114, c115, c116, c117, c118, c119, c120, c121, c122, c123, c124, c125, c126, c127, c128, c129, c130, c131, c132, c133, c134, c135, c136, c137, c138, c139, c140, c141, c142, c143, c144, c145, c146, c147, c148, .slice (some ⟨sb, 0, none⟩) n n, .int .i64 n, .int .i64 ((j + 1 : Nat) : Int), v152, v153, v154, v155, v156, v157, v158, v159, v160, v161, v162, v163, v164, v165, v166, c167, c168, c169, c170, c171, c172, c173, c174, c175, c176, c177, c178, c179, c180, c181, c182, c183, c184, c185, c186, c187, c188, c189, c190, c191, c192, c193, c194, c195, c196, c197, c198, c199, c200, c201, c202, c203, c204, c205, c206, c207, c208, c209, c210, c211, c212, c213, c214, c215, c216, c217, c218, c219, c220], []⟩ w') :
    Code.wp Try.prog body3 (Exit.then P0 Q0) ⟨#[.pointer (some ⟨mb + 5, 0, none⟩), c1, c2, c3, c4, c5, c6, c7, c8, c9, c10, c11, c12, c13, c14, c15, c16, c17, u18, c19, c20, c21, c22, c23, c24, c25, c26, c27, c28, c29, c30, c31, c32, c33, c34, c35, c36, c37, c38, c39, c40, c41, c42, c43, c44, c45, c46, c47, c48, c49, c50, c51, c52, c53, c54, c55, c56, c57, c58, c59, c60, c61, c62, c63, c64, c65, c66, c67, c68, c69, c70, c71, c72, c73, c74, c75, c76, c77, c78, c79, c80, c81, c82, c83, c84, c85, c86, c87, c88, c89, c90, c91, c92, c93, c94, c95, c96, c97, c98, c99, c100, c101, c102, c103, c104, c105, c106, c107, c108, c109, c110, c111, c112, c113, c114, c115, c116, c117, c118, c119, c120, c121, c122, c123, c124, c125, c126, c127, c128, c129, c130, c131, c132, c133, c134, c135, c136, c137, c138, c139, c140, c141, c142, c143, c144, c145, c146, c147, c148, .slice (some ⟨sb, 0, none⟩) n n, .int .i64 n, .int .i64 j, u152, u153, u154, u155, u156, u157, u158, u159, u160, u161, u162, u163, u164, u165, u166, c167, c168, c169, c170, c171, c172, c173, c174, c175, c176, c177, c178, c179, c180, c181, c182, c183, c184, c185, c186, c187, c188, c189, c190, c191, c192, c193, c194, c195, c196, c197, c198, c199, c200, c201, c202, c203, c204, c205, c206, c207, c208, c209, c210, c211, c212, c213, c214, c215, c216, c217, c218, c219, c220], []⟩ wr := by
  conv => arg 2; whnf
  obtain ⟨W2, HW2, REL, hks⟩ := open3 rel q
  have HR2 : Hid (wr.rangeAt sb (j * 5) (ssCells q)) := rel.srow j q hq
  have hi107 : (Try.prog.info? 139).map (·.size) = some (ssCells q).length := by kernel_rfl
  have hi108 : (Try.prog.info? 139).map (·.size) = some (ssCells q).toArray.size := by kernel_rfl
  generalize hkq : wr.heap.size = kq at hks
  have k0 : W2.cell? ⟨kq, 0, none⟩ = some (.string q.sensor) := hks.1 0 _ rfl
  have k1 : W2.cell? ⟨kq, 1, none⟩ = some (.string q.metric) := hks.1 1 _ rfl
  have k2 : W2.cell? ⟨kq, 2, none⟩ = some (.int .u64 (q.last % 1000000000)) := hks.1 2 _ rfl
  have k3 : W2.cell? ⟨kq, 3, none⟩ = some (.int .i64 (q.last / 1000000000)) := hks.1 3 _ rfl
  have k4 : W2.cell? ⟨kq, 4, none⟩ = some (.pointer none) := hks.1 4 _ rfl
  have HREL : Hid (Rel3 w0 sa ta mb rb pb lr bx base kb sb tb rs R K S T' XS XA XC XL U W2 l) := REL
  obtain ⟨_, _, e3, _, _, _⟩ := REL.eng.cells
  obtain ⟨es, clock, hes, hes2⟩ := REL.eng.last
  obtain ⟨es3, clock3, hE3, hup⟩ := EntriesAre.store (hes2 : EntriesAre es clock pv (lsMap XS)) keyTy141 Try.underlying115 (q.sensor, q.metric) (T q.last)
  simp only [pv, T, tv] at hup
  have HEE : Hid (EntriesAre es3 clock3 pv (put sameP (q.sensor, q.metric) (T q.last) (lsMap XS))) := hE3
  have qd := heap_drew
  have HES : Hid (W2.heap[mb + 1]? = some (.map es clock)) := hes
  clear hes2 hE3 rel REL hks
  subst hkq
  go_wp2_with (first
    | (with_reducible show wpList _ _ _ (⟨some 154, .load 139 (.tmp 153), _, _, _, _⟩ :: _) _ _; refine wpList_load_mid ?_ 139 (.tmp 153) ?_ sb (j * 5) ?_ (ssCells q) _ HR2.out Try.underlying139 rfl hi107 ?_; exact rfl; exact rfl; simp [Act.eval])
    | (with_reducible show wpList _ _ _ (⟨none, .store 139 (.tmp 18) (.tmp 154), _, _, _, _⟩ :: _) _ _; refine wpList_store_new ?_ 139 (.tmp 18) (.tmp 154) ?_ _ (ssCells q).toArray ?_ ?_ hi108 ?_ (ssOne q) ?_; exact rfl; exact rfl; simp [Act.eval]; simp [Act.eval]; simp [ssCells]; rw [← HW2.out]))
  go_region
  go_wp2_with fail
  have hgr := setBlock_grown W2.drew (mb + 1) (.map es3 clock3)
  have hmp : MapIs (setBlock W2.drew (mb + 1) (.map es3 clock3)) (mb + 1) pv (put sameP (q.sensor, q.metric) (T q.last) (lsMap XS)) := HEE.out.at (setBlock_get (by exact HES.out) _)
  exact (HREL.out.below below_drew).putS q ⟨by omega, by omega⟩ hgr hmp

end
end Go.Proofs.Qxb6605676a.Kz
