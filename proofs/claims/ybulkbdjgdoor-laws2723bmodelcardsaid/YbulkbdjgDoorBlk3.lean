import Derived.Test.YbulkbdjgDoorBlk
namespace Go.Proofs.YbulkbdjgDoor
open Go.RowKit

set_option maxRecDepth 1000000 in
set_option maxHeartbeats 4000000 in
theorem blk6_dense {B t g k : Nat} {w wr : World} {es cs : List (Int × Int)} {md : Int} (K' : Act → World → Prop) (Post : Ending → World → Prop) (code : Code) (hcode : code = ((Ybad.f4.body.bind (findBlock 6)).getD .skip))
    (c0 c1 c2 c3 c4 c5 c6 c7 c8 c9 c10 c12 c15 c16 c17 c18 c19 c20 c21 c23 c27 c28 c29 c30 c31 c32 c33 c34 c35 c36 c37 c38 c39 c40 c41 c42 c43 c44 c45 c46 c47 c48 c49 c50 c51 c52 c53 c54 c55 c56 c57 c58 c59 c60 c61 c62 c63 c64 c65 c66 c67 c68 c69 c70 c71 c72 c73 c74 c75 c76 c77 c78 c79 c80 c81 c82 c83 c84 c85 c86 c87 c88 c89 c90 c91 c92 c93 c94 c95 c96 c97 c98 c99 c100 c101 c102 c103 c104 c105 c106 c107 c108 c109 c110 c111 c112 c113 c114 c115 c116 c117 c118 c119 c120 c121 c122 c123 c124 c125 c126 c127 c128 c129 c130 c131 c132 c133 c134 c135 c136 c137 c138 c139 c140 c141 c142 c143 c144 c145 c146 c147 c148 c149 c150 c151 c152 c153 c154 c155 c156 c157 c158 c159 c160 c161 c162 c163 c164 c165 c166 c167 c168 c169 c170 c171 c172 c173 c174 c175 c176 c177 c178 c179 c180 c181 c182 c183 c184 c185 c186 c187 c188 c189 c190 c191 c192 c193 c194 c195 c196 c197 c198 c199 c200 c201 c202 c203 c204 c205 c206 c207 c208 c209 c210 c211 c212 c213 c214 c215 c216 c217 c218 c219 c220 c221 c222 c223 c224 c225 c226 c227 c228 c229 c230 c231 c232 c233 c234 c235 c236 c237 c238 c239 c240 c241 c242 c243 c244 c245 c246 c247 c248 c249 c250 c251 c252 c253 c254 c255 c256 c257 c258 c259 c260 c261 c262 c263 c264 c265 c266 c267 c268 c269 c270 c271 c272 c273 c274 c275 c276 c277 c278 c279 c280 c281 c282 c283 c284 c285 c286 c287 c288 : Value)
    (hC : Cuts B w wr es g (k + 64) cs) (hcl : cs.length = k) (hT : TBox B g wr t 0 0 false) (_hk : k < 3) (_hmd : 0 ≤ md ∧ md < 256) (hes : 1 ≤ es.length) (hm : md % 3 = 1)
    (hmeet : ∀ a' w', (∃ u22 u27 u28 u29 u30 u31 u32 u33 u34 u35 u36 u37 u39 u40 u41 u42 u43 u44 u45 u46 u47 u48 u49 u50 u51 u52 u53 u54 u55 u56 u57 u58 u59 u60 u61 u62 u63 u64 u65 u66 u67 u68 u69 u70 u71 u72 u73 u74 u75 u76 u77 u78 u79 u80 u81 u82 u83 u84 u85 u86 u87 u88 u89 u90 u91 u92 u93 u94 u95 u96 u97 u98 u99 u100 u101 u102 u103 u104 u105 u106 u107 u108 u109 u110 u111 u112 u113 u114 u115 u116 u117 u118 u119 u120 u121 u122 u123 u124 u125 u126 u127 u128 u129 u130 u131 u132 u133 u134 u135 u136 u137 u138 u139 u140 u141 u142 u143 u144 u145 u146 u147 u148 u149 u150 u151 u152 u153 u154 u155 u156 u157 u158 u159 u160 u161 u162 u163 u164 u165 u166 u167 u168 u169 u170 u171 u172 u173 u174 u175 u176 u177 u178 u179 u180 u181 u182 u183 u184 u185 u186 u187 u188 u189 u190 u191 u192 u193 u194 u195 u196 u197 u198 u199 u200 u201 u202 u203 u204 u205 u206 u207 u208 u209 u210 u211 u212 u213 u214 u215 u216 u217 u218 u219 u220 u221 u222 u223 u224 u225 u226 u227 u228 u229 u230 u231 u232 u233 u234 u235 u236 u237 u238 u239 u240 u241 u242 u243 u244 u245 u246 u247 u248 u249 u250 u251 u252 u253 u254 u255 u256 u257 u258 u259 u260 u261 u262 u263 u264 u265 u266 u267 u268 u269 u270 u271 u272 u273 u274 u275 u276 u277 u278 u279 u280 u281 u282 u283 u284 u285 u286 u287 u288 : Value, Blk6Rel B t g k w es u22 w' ∧ a' = ⟨List.toArray (c0 :: c1 :: c2 :: c3 :: c4 :: c5 :: c6 :: c7 :: c8 :: c9 :: c10 :: (.int .i64 (md % 3) : Value) :: c12 :: (.slice (some ⟨B + 1, 0, none⟩) es.length 48 : Value) :: (.slice (some ⟨B + 1 + 1, 0, none⟩) es.length 48 : Value) :: c15 :: c16 :: c17 :: c18 :: c19 :: c20 :: c21 :: (u22 : Value) :: c23 :: (.int .i64 k : Value) :: (.int .i64 es.length : Value) :: (.pointer (some ⟨t, 0, none⟩) : Value) :: (u27 : Value) :: (u28 : Value) :: (u29 : Value) :: (u30 : Value) :: (u31 : Value) :: (u32 : Value) :: (u33 : Value) :: (u34 : Value) :: (u35 : Value) :: (u36 : Value) :: (u37 : Value) :: c38 :: (u39 : Value) :: (u40 : Value) :: (u41 : Value) :: (u42 : Value) :: (u43 : Value) :: (u44 : Value) :: (u45 : Value) :: (u46 : Value) :: (u47 : Value) :: (u48 : Value) :: (u49 : Value) :: (u50 : Value) :: (u51 : Value) :: (u52 : Value) :: (u53 : Value) :: (u54 : Value) :: (u55 : Value) :: (u56 : Value) :: (u57 : Value) :: (u58 : Value) :: (u59 : Value) :: (u60 : Value) :: (u61 : Value) :: (u62 : Value) :: (u63 : Value) :: (u64 : Value) :: (u65 : Value) :: (u66 : Value) :: (u67 : Value) :: (u68 : Value) :: (u69 : Value) :: (u70 : Value) :: (u71 : Value) :: (u72 : Value) :: (u73 : Value) :: (u74 : Value) :: (u75 : Value) :: (u76 : Value) :: (u77 : Value) :: (u78 : Value) :: (u79 : Value) :: (u80 : Value) :: (u81 : Value) :: (u82 : Value) :: (u83 : Value) :: (u84 : Value) :: (u85 : Value) :: (u86 : Value) :: (u87 : Value) :: (u88 : Value) :: (u89 : Value) :: (u90 : Value) :: (u91 : Value) :: (u92 : Value) :: (u93 : Value) :: (u94 : Value) :: (u95 : Value) :: (u96 : Value) :: (u97 : Value) :: (u98 : Value) :: (u99 : Value) :: (u100 : Value) :: (u101 : Value) :: (u102 : Value) :: (u103 : Value) :: (u104 : Value) :: (u105 : Value) :: (u106 : Value) :: (u107 : Value) :: (u108 : Value) :: (u109 : Value) :: (u110 : Value) :: (u111 : Value) :: (u112 : Value) :: (u113 : Value) :: (u114 : Value) :: (u115 : Value) :: (u116 : Value) :: (u117 : Value) :: (u118 : Value) :: (u119 : Value) :: (u120 : Value) :: (u121 : Value) :: (u122 : Value) :: (u123 : Value) :: (u124 : Value) :: (u125 : Value) :: (u126 : Value) :: (u127 : Value) :: (u128 : Value) :: (u129 : Value) :: (u130 : Value) :: (u131 : Value) :: (u132 : Value) :: (u133 : Value) :: (u134 : Value) :: (u135 : Value) :: (u136 : Value) :: (u137 : Value) :: (u138 : Value) :: (u139 : Value) :: (u140 : Value) :: (u141 : Value) :: (u142 : Value) :: (u143 : Value) :: (u144 : Value) :: (u145 : Value) :: (u146 : Value) :: (u147 : Value) :: (u148 : Value) :: (u149 : Value) :: (u150 : Value) :: (u151 : Value) :: (u152 : Value) :: (u153 : Value) :: (u154 : Value) :: (u155 : Value) :: (u156 : Value) :: (u157 : Value) :: (u158 : Value) :: (u159 : Value) :: (u160 : Value) :: (u161 : Value) :: (u162 : Value) :: (u163 : Value) :: (u164 : Value) :: (u165 : Value) :: (u166 : Value) :: (u167 : Value) :: (u168 : Value) :: (u169 : Value) :: (u170 : Value) :: (u171 : Value) :: (u172 : Value) :: (u173 : Value) :: (u174 : Value) :: (u175 : Value) :: (u176 : Value) :: (u177 : Value) :: (u178 : Value) :: (u179 : Value) :: (u180 : Value) :: (u181 : Value) :: (u182 : Value) :: (u183 : Value) :: (u184 : Value) :: (u185 : Value) :: (u186 : Value) :: (u187 : Value) :: (u188 : Value) :: (u189 : Value) :: (u190 : Value) :: (u191 : Value) :: (u192 : Value) :: (u193 : Value) :: (u194 : Value) :: (u195 : Value) :: (u196 : Value) :: (u197 : Value) :: (u198 : Value) :: (u199 : Value) :: (u200 : Value) :: (u201 : Value) :: (u202 : Value) :: (u203 : Value) :: (u204 : Value) :: (u205 : Value) :: (u206 : Value) :: (u207 : Value) :: (u208 : Value) :: (u209 : Value) :: (u210 : Value) :: (u211 : Value) :: (u212 : Value) :: (u213 : Value) :: (u214 : Value) :: (u215 : Value) :: (u216 : Value) :: (u217 : Value) :: (u218 : Value) :: (u219 : Value) :: (u220 : Value) :: (u221 : Value) :: (u222 : Value) :: (u223 : Value) :: (u224 : Value) :: (u225 : Value) :: (u226 : Value) :: (u227 : Value) :: (u228 : Value) :: (u229 : Value) :: (u230 : Value) :: (u231 : Value) :: (u232 : Value) :: (u233 : Value) :: (u234 : Value) :: (u235 : Value) :: (u236 : Value) :: (u237 : Value) :: (u238 : Value) :: (u239 : Value) :: (u240 : Value) :: (u241 : Value) :: (u242 : Value) :: (u243 : Value) :: (u244 : Value) :: (u245 : Value) :: (u246 : Value) :: (u247 : Value) :: (u248 : Value) :: (u249 : Value) :: (u250 : Value) :: (u251 : Value) :: (u252 : Value) :: (u253 : Value) :: (u254 : Value) :: (u255 : Value) :: (u256 : Value) :: (u257 : Value) :: (u258 : Value) :: (u259 : Value) :: (u260 : Value) :: (u261 : Value) :: (u262 : Value) :: (u263 : Value) :: (u264 : Value) :: (u265 : Value) :: (u266 : Value) :: (u267 : Value) :: (u268 : Value) :: (u269 : Value) :: (u270 : Value) :: (u271 : Value) :: (u272 : Value) :: (u273 : Value) :: (u274 : Value) :: (u275 : Value) :: (u276 : Value) :: (u277 : Value) :: (u278 : Value) :: (u279 : Value) :: (u280 : Value) :: (u281 : Value) :: (u282 : Value) :: (u283 : Value) :: (u284 : Value) :: (u285 : Value) :: (u286 : Value) :: (u287 : Value) :: (u288 : Value) :: []), []⟩) → K' a' w') :
    Code.wp Ybad.prog code (Exit.then K' (bodyPost Ybad.prog Ybad.f4 Post)) ⟨List.toArray (c0 :: c1 :: c2 :: c3 :: c4 :: c5 :: c6 :: c7 :: c8 :: c9 :: c10 :: (.int .i64 (md % 3) : Value) :: c12 :: (.slice (some ⟨B + 1, 0, none⟩) es.length 48 : Value) :: (.slice (some ⟨B + 1 + 1, 0, none⟩) es.length 48 : Value) :: c15 :: c16 :: c17 :: c18 :: c19 :: c20 :: c21 :: (.slice (some ⟨g, 0, none⟩) k (k + 64) : Value) :: c23 :: (.int .i64 k : Value) :: (.int .i64 es.length : Value) :: (.pointer (some ⟨t, 0, none⟩) : Value) :: c27 :: c28 :: c29 :: c30 :: c31 :: c32 :: c33 :: c34 :: c35 :: c36 :: c37 :: c38 :: c39 :: c40 :: c41 :: c42 :: c43 :: c44 :: c45 :: c46 :: c47 :: c48 :: c49 :: c50 :: c51 :: c52 :: c53 :: c54 :: c55 :: c56 :: c57 :: c58 :: c59 :: c60 :: c61 :: c62 :: c63 :: c64 :: c65 :: c66 :: c67 :: c68 :: c69 :: c70 :: c71 :: c72 :: c73 :: c74 :: c75 :: c76 :: c77 :: c78 :: c79 :: c80 :: c81 :: c82 :: c83 :: c84 :: c85 :: c86 :: c87 :: c88 :: c89 :: c90 :: c91 :: c92 :: c93 :: c94 :: c95 :: c96 :: c97 :: c98 :: c99 :: c100 :: c101 :: c102 :: c103 :: c104 :: c105 :: c106 :: c107 :: c108 :: c109 :: c110 :: c111 :: c112 :: c113 :: c114 :: c115 :: c116 :: c117 :: c118 :: c119 :: c120 :: c121 :: c122 :: c123 :: c124 :: c125 :: c126 :: c127 :: c128 :: c129 :: c130 :: c131 :: c132 :: c133 :: c134 :: c135 :: c136 :: c137 :: c138 :: c139 :: c140 :: c141 :: c142 :: c143 :: c144 :: c145 :: c146 :: c147 :: c148 :: c149 :: c150 :: c151 :: c152 :: c153 :: c154 :: c155 :: c156 :: c157 :: c158 :: c159 :: c160 :: c161 :: c162 :: c163 :: c164 :: c165 :: c166 :: c167 :: c168 :: c169 :: c170 :: c171 :: c172 :: c173 :: c174 :: c175 :: c176 :: c177 :: c178 :: c179 :: c180 :: c181 :: c182 :: c183 :: c184 :: c185 :: c186 :: c187 :: c188 :: c189 :: c190 :: c191 :: c192 :: c193 :: c194 :: c195 :: c196 :: c197 :: c198 :: c199 :: c200 :: c201 :: c202 :: c203 :: c204 :: c205 :: c206 :: c207 :: c208 :: c209 :: c210 :: c211 :: c212 :: c213 :: c214 :: c215 :: c216 :: c217 :: c218 :: c219 :: c220 :: c221 :: c222 :: c223 :: c224 :: c225 :: c226 :: c227 :: c228 :: c229 :: c230 :: c231 :: c232 :: c233 :: c234 :: c235 :: c236 :: c237 :: c238 :: c239 :: c240 :: c241 :: c242 :: c243 :: c244 :: c245 :: c246 :: c247 :: c248 :: c249 :: c250 :: c251 :: c252 :: c253 :: c254 :: c255 :: c256 :: c257 :: c258 :: c259 :: c260 :: c261 :: c262 :: c263 :: c264 :: c265 :: c266 :: c267 :: c268 :: c269 :: c270 :: c271 :: c272 :: c273 :: c274 :: c275 :: c276 :: c277 :: c278 :: c279 :: c280 :: c281 :: c282 :: c283 :: c284 :: c285 :: c286 :: c287 :: c288 :: []), []⟩ wr := by
  have hm0' : (md % 3 == 0) = false := beq_eq_false_iff_ne.2 (by omega)
  have hm1' : (md % 3 == 1) = true := beq_iff_eq.2 hm
  clear hm
  subst hcode
  conv => arg 2; whnf
  have he0 : ((es.length : Int) == 0) = false := beq_eq_false_iff_ne.2 (by omega)
  obtain ⟨i44, hi44, hy0, hy1, hy2⟩ := info_parts Ybad.info44
  have hesl := hC.gath.le
  have HCL := hide hcl
  clear hcl
  go_cut [22] from 39 (fun s22 wd => Blk6Rel B t g k w es s22 wd)
  case rest =>
    exact hmeet _ _ ⟨_, _, _, _, _, _, _, _, _, _, _, _, _, _, _, _, _, _, _, _, _, _, _, _, _, _, _, _, _, _, _, _, _, _, _, _, _, _, _, _, _, _, _, _, _, _, _, _, _, _, _, _, _, _, _, _, _, _, _, _, _, _, _, _, _, _, _, _, _, _, _, _, _, _, _, _, _, _, _, _, _, _, _, _, _, _, _, _, _, _, _, _, _, _, _, _, _, _, _, _, _, _, _, _, _, _, _, _, _, _, _, _, _, _, _, _, _, _, _, _, _, _, _, _, _, _, _, _, _, _, _, _, _, _, _, _, _, _, _, _, _, _, _, _, _, _, _, _, _, _, _, _, _, _, _, _, _, _, _, _, _, _, _, _, _, _, _, _, _, _, _, _, _, _, _, _, _, _, _, _, _, _, _, _, _, _, _, _, _, _, _, _, _, _, _, _, _, _, _, _, _, _, _, _, _, _, _, _, _, _, _, _, _, _, _, _, _, _, _, _, _, _, _, _, _, _, _, _, _, _, _, _, _, _, _, _, _, _, _, _, _, _, _, _, _, _, _, _, _, _, _, _, _, _, _, _, _, _, _, _, _, _, hcut, rfl⟩
  case first =>
    clear hmeet
    have l0 := hC.lane 0 (by omega)
    have r0 := hC.gath.rng es[0] (List.getElem_mem (by omega))
    have tk1 : es.take 1 = [es[0]] := by rw [List.take_succ_eq_append_getElem (by omega)]; rfl
    generalize es[0] = e0 at *
    have TK1 := hide tk1
    clear tk1
    have hes1 : (0 : Int) < es.length := by omega
    go_wp2
    go_quiet (fail)
    go_wp2
    go_loop [28, 29, 30] (fun s28 s29 s30 => ∃ (i : Nat) (lo hi : Int), 1 ≤ i ∧ i ≤ es.length ∧ s30 = .int .i64 i ∧ s28 = .int .i64 lo ∧ s29 = .int .i64 hi ∧ Hid (PlainB.LoHi (es.take i) lo hi)) (fun _ _ s30 => es.length - (intOf s30).toNat)
    case atStart => exact ⟨1, e0.1, e0.1, by omega, hes, rfl, rfl, rfl, by rw [TK1.out]; exact PlainB.LoHi.one r0.1 r0.2⟩
    case round =>
      obtain ⟨i, lo, hi, hi1, hil, rfl, rfl, rfl, hL⟩ := hrel
      by_cases hilt : i < es.length
      · have l1 := hC.lane i hilt
        have rng := hC.gath.rng es[i] (List.getElem_mem hilt)
        have htk : es.take (i + 1) = es.take i ++ [es[i]] := List.take_succ_eq_append_getElem hilt
        generalize es[i] = ei at *
        have HTK := hide htk
        clear htk
        by_cases q1 : ei.1 < lo
        · by_cases q2 : hi < ei.1
          · go_wp2
            go_round
            case rel => exact ⟨i + 1, ei.1, ei.1, by omega, hilt, by go_num, rfl, rfl, by rw [HTK.out]; exact hL.out.step rng.1 rng.2 (Or.inl ⟨q1, rfl⟩) (Or.inl ⟨q2, rfl⟩)⟩
            case measure => simp [intOf]; omega
          · go_wp2
            go_round
            case rel => exact ⟨i + 1, ei.1, hi, by omega, hilt, by go_num, rfl, rfl, by rw [HTK.out]; exact hL.out.step rng.1 rng.2 (Or.inl ⟨q1, rfl⟩) (Or.inr ⟨q2, rfl⟩)⟩
            case measure => simp [intOf]; omega
        · by_cases q2 : hi < ei.1
          · go_wp2
            go_round
            case rel => exact ⟨i + 1, lo, ei.1, by omega, hilt, by go_num, rfl, rfl, by rw [HTK.out]; exact hL.out.step rng.1 rng.2 (Or.inr ⟨q1, rfl⟩) (Or.inl ⟨q2, rfl⟩)⟩
            case measure => simp [intOf]; omega
          · go_wp2
            go_round
            case rel => exact ⟨i + 1, lo, hi, by omega, hilt, by go_num, rfl, rfl, by rw [HTK.out]; exact hL.out.step rng.1 rng.2 (Or.inr ⟨q1, rfl⟩) (Or.inr ⟨q2, rfl⟩)⟩
            case measure => simp [intOf]; omega
      · have hie : i = es.length := by omega
        subst hie
        have hL2 := hL.out
        rw [List.take_length] at hL2
        have HL := hide hL2
        have hloh : lo ≤ hi := by
          obtain ⟨⟨x, hx, hxl⟩, hall, _⟩ := hL2
          have := hall x hx; omega
        have hlo0 : 0 ≤ lo := hL2.2.2.1
        have hhi0 : hi < 64 := hL2.2.2.2
        obtain ⟨sz, hsz⟩ : ∃ sz : Nat, hi - lo + 1 = sz := ⟨(hi - lo + 1).toNat, by omega⟩
        have hsz1 : 1 ≤ sz := by omega
        have hsz64 : sz ≤ 64 := by omega
        have HSZ := hide hsz
        clear hsz hL hL2 l0
        go_wp2_with fail
        go_loopg [22, 32] sz (fun gg s22 s32 wx => ∃ (j : Nat) (ds : List (Int × Int)), Hid (gg + j = sz) ∧ j ≤ sz ∧ s32 = .int .i64 j ∧ s22 = .slice (some ⟨g, 0, none⟩) (k + j) (k + 64) ∧ Hid (ds = cs ++ List.replicate j (-1, 0)) ∧ Cuts B w wx es g (k + 64) ds ∧ TBox B g wx t 0 0 false)
        case atStart => exact ⟨0, cs, hide (by omega), Nat.zero_le _, rfl, rfl, hide (by simp), hC.drewN _, hT.drewN _⟩
        case round =>
          clear hC hT
          obtain ⟨j, ds, hgj, hj, rfl, rfl, hds, hD, hTx⟩ := hrel
          have hDl : ds.length = k + j := by rw [hds.out, List.length_append, HCL.out, List.length_replicate]
          have own := hD.own
          rw [hDl] at own
          have HDl := hide hDl
          clear hDl
          have gsz := hD.gath.sz
          by_cases hjl : j < sz
          · have hjl' : (j : Int) < hi - lo + 1 := by have := HSZ.out; omega
            go_wp2_with (first | (at_builtin; refine wpList_append_fits _ rfl (.tmp 245) (.tmp 247) 42 rfl (B + 3) 44 i44 2 Ybad.underlying42 hi44 hy1 g (k + j) (k + 64) (cutCells ds) rfl (own.alloc _) ⟨wr.heap.size, 0, none⟩ 1 1 [.int .i64 (-1), .int .i64 0] rfl rfl (cell_two _ _ _ _) (two_cell_int _ _ _) (by omega) ?_; intro w1 hown1 hgrow1))
            have hD' := hD.pushed (a := -1) (b := 0) (by rw [HDl.out]; exact hown1) hgrow1
            have hT' := (hTx.alloc _).grown hgrow1 (by simpa using fun e => hTx.far e.symm)
            clear own hown1 hgrow1 hD hTx
            go_roundg (gk - 1)
            case rel => exact ⟨j + 1, _, (by have := hgj.out; exact (by omega : gk - 1 + (j + 1) = sz)), hjl, by go_num, rfl, (by rw [hds.out, List.replicate_succ', List.append_assoc]; rfl), hD', hT'⟩
            case measure => have := hgj.out; omega
          · have hjl' : ¬ (j : Int) < hi - lo + 1 := by have := HSZ.out; omega
            have hje : j = sz := by omega
            subst hje
            clear own hgj
            go_wp2_with fail
            go_loopg [33] es.length (fun gg s33 wx => ∃ (i : Nat) (T : List (Int × Int)), Hid (gg + i = es.length) ∧ i ≤ es.length ∧ s33 = .int .i64 i ∧ Hid (T.length = j) ∧ Cuts B w wx es g (k + 64) (cs ++ T) ∧ TBox B g wx t 0 0 false ∧ Hid (PlainB.DenseT lo T (es.take i)))
            case atStart => exact ⟨0, List.replicate j (-1, 0), hide (by omega), Nat.zero_le _, rfl, hide List.length_replicate, by rw [← hds.out]; exact hD, hTx, hide (PlainB.dense_start lo j)⟩
            case round =>
              clear hD hTx hds HDl gsz
              obtain ⟨i, T, hgi, hi', rfl, hTl, hD, hTx, hH⟩ := hrel
              have gsz := hD.gath.sz
              by_cases hil : i < es.length
              · have l1 := hD.lane i hil
                have l2 := hD.ns i hil
                have rng := hD.gath.rng es[i] (List.getElem_mem hil)
                have rlh := HL.out.2.1 es[i] (List.getElem_mem hil)
                have htk : es.take (i + 1) = es.take i ++ [es[i]] := List.take_succ_eq_append_getElem hil
                have hnew : ∀ x, x ∈ es.take i → x.1 ≠ es[i].1 := by
                  have hp := hD.gath.nod.sublist (List.take_sublist (i + 1) es)
                  rw [htk, List.pairwise_append] at hp
                  exact fun x hx => hp.2.2 x hx _ (by simp)
                generalize es[i] = ei at *
                have HTK := hide htk
                have HNW := hide hnew
                clear htk hnew
                obtain ⟨m, hm⟩ : ∃ m : Nat, ei.1 = lo + m := ⟨(ei.1 - lo).toNat, by omega⟩
                have hmj : m < j := by have := HSZ.out; omega
                have hq : (k : Int) + ei.1 - lo = ((k + m : Nat) : Int) := by omega
                have HM := hide hm
                clear hm
                have g0 : wr.cell? ⟨g, (k + m) * 2, none⟩ = some (.int .i64 (T.getD m (-1, 0)).1) := by
                  have := hD.tabFst rfl m (by rw [hTl.out]; exact hmj)
                  rw [HCL.out, show 2 * k + 2 * m = (k + m) * 2 by omega] at this
                  exact this
                have g1 : wr.cell? ⟨g, (k + m) * 2 + 1, none⟩ = some (.int .i64 (T.getD m (-1, 0)).2) := by
                  have := hD.tabSnd rfl m (by rw [hTl.out]; exact hmj)
                  rw [HCL.out, show 2 * k + 2 * m + 1 = (k + m) * 2 + 1 by omega] at this
                  exact this
                generalize T.getD m (-1, 0) = x at g0 g1
                have f0 := hD.free ((k + m) * 2)
                have f1 := hD.free ((k + m) * 2 + 1)
                have hgl := hD.glt
                have hb1 : B + 1 ≠ g := by omega
                have hb2 : B + 1 + 1 ≠ g := by omega
                go_wp2
                go_region
                have hD' := (hD.stored (k + m) ei.1 ei.2).drew
                rw [set_pad _ _ _ _ _ HCL.out] at hD'
                have hT' := ((hTx.setG ((k + m) * 2) (.int .i64 ei.1)).setG ((k + m) * 2 + 1) (.int .i64 ei.2)).drew
                clear g0 g1 f0 f1 l1 l2 hq
                go_wp2
                go_roundg (gk - 1)
                case rel =>
                  refine ⟨i + 1, T.set m ei, ?_, hil, by go_num, ?_, hD', hT', ?_⟩
                  · have := hgi.out; exact (by omega : gk - 1 + (i + 1) = es.length)
                  · exact (by rw [List.length_set, hTl.out] : (T.set m ei).length = j)
                  · rw [HTK.out]
                    exact PlainB.DenseT.put hH.out (by rw [hTl.out]; exact hmj) HM.out (by omega) HNW.out
                case measure => have := hgi.out; omega
              · have hie : i = es.length := by omega
                subst hie
                have f0 := hTx.free 0
                have f1 := hTx.free 1
                have f2 := hTx.free 2
                have t0 := hTx.c0
                have t1 := hTx.c1
                have t2 := hTx.c2
                go_wp2
                go_meet
                case rel =>
                  have hH' := hH.out
                  rw [List.take_length] at hH'
                  rw [HSZ.out]
                  refine ⟨cs ++ T, j, true, by rw [List.length_append, HCL.out, hTl.out], hD.setT3 hTx _ _ _, hTx.stored, Or.inr ⟨cs, T, rfl, HCL.out, hTl.out, hsz1, ?_⟩⟩
                  by_cases h8 : j ≤ 8
                  · exact Or.inl ⟨h8, by have := hH'.tab; rw [hTl.out] at this; exact this⟩
                  · exact Or.inr (Or.inl ⟨by omega, hsz64, rfl, lo, hlo0, by omega, hH', PlainB.dense_first hH' HL.out⟩)
end Go.Proofs.YbulkbdjgDoor
