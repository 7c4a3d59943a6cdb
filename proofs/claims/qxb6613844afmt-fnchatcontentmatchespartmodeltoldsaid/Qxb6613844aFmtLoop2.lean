/- The law's second loop: the texts, and whether the parts are kept. -/
import Derived.Test.Qxb6613844aFmtLoops
import Derived.Test.Qxb6613844aFmtPtrs
import Derived.Test.Qxb6613844aFmtKey
import Derived.Test.Qxb6613844aFmtMid
import Derived.Deep.RegionHeld3
import Derived.Deep.LoopGhost
import Derived.Deep.Light
namespace Go.Proofs.Qxb6613844aFmt
open Go.RowKit
attribute [local go_sem] eqlNil22 eqlNil25 eqlNil29 neqNil29

set_option maxHeartbeats 8000000 in
set_option maxRecDepth 1000000 in
theorem loop2 (role : ByteArray) (a : Addr) (cap : Nat) (ps : List LP) (w3 wS : World) (Q0 : Exit → Act → World → Prop)
    (hn : ps.length ≤ 1048576) (hP3 : Lies w3 a ps) (hB7 : Below w3.heap.size w3 wS)
    (s1 s3 s4 s5 s6 s7 s8 s9 s10 s11 s12 s13 s14 s15 s16 s17 s18 s22 s23 s24 s25 s26 s27 s28 s29 s30 s31 s32 s33 s34 s35 s36 s37 s38 s39 s40 s41 s42 s43 s44 s45 s46 s47 s48 s49 s50 s51 s52 s53 s54 s55 s56 s57 s58 s59 s60 s61 s62 s63 s64 s65 s66 s67 s68 s69 s70 s71 s72 s73 s74 s75 s76 s77 s78 s79 s80 s81 s82 s83 s84 s85 s86 s87 s88 s89 s90 s91 s92 s93 s94 s95 s96 s97 s98 s99 s100 s101 s102 s103 s104 s105 s106 s107 s108 s109 s110 s111 s112 s113 s114 s115 s116 s117 s118 s119 s120 s121 s122 s123 s124 s125 s126 s127 s128 s129 s130 s131 s132 s133 s134 s135 s136 s137 s138 s139 s140 s141 s142 s143 s144 s145 s146 s147 s148 s149 s150 s151 s152 s153 s154 s155 s156 s157 s158 s159 s160 s161 s162 s163 s164 s165 s166 s167 s168 s169 s170 s171 s172 s173 s174 s175 s176 s177 s178 s179 s180 s181 s182 s183 s184 s185 s186 s187 s188 s189 s190 s191 s192 s193 s194 s195 s196 s197 s198 s199 s200 s201 s202 s203 s204 s205 s206 s207 s208 s209 s210 s211 s212 s213 s214 s215 s216 s217 s218 s219 s220 s221 s222 s223 s224 s225 s226 s227 s228 s229 s230 s231 s232 s233 s234 s235 s236 s237 s238 s239 s240 s241 s242 s243 s244 s245 s246 s247 s248 s249 s250 s251 s252 s253 s254 s255 s256 s257 s258 s259 s260 s261 s262 s263 s264 s265 s266 s267 s268 s269 s270 s271 s272 s273 s274 s275 s276 s277 s278 s279 s280 s281 s282 s283 s284 s285 s286 s287 s288 s289 s290 s291 s292 s293 s294 s295 s296 s297 s298 s299 s300 s301 s302 s303 s304 s305 s306 s307 s308 s309 s310 s311 s312 s313 : Value)
    (hexit : ∀ (u21 u22 u168 u169 u170 u171 u172 u173 u174 u175 u176 u177 u178 u179 u180 u181 u182 u183 u184 u185 u186 u187 u188 u189 u190 u191 u192 u193 u194 u195 u196 u197 u198 u199 u200 u201 : Value) (ta : Option Addr) (tc : Nat) (wc : World), Strs wc ta tc (texts role ps) → Below w3.heap.size w3 wc → Q0 (.exit 2) ⟨List.toArray (.string role :: s1 :: .slice (some a) ps.length cap :: s3 :: s4 :: s5 :: s6 :: s7 :: s8 :: s9 :: s10 :: s11 :: s12 :: s13 :: s14 :: s15 :: s16 :: s17 :: s18 :: .slice ta (texts role ps).length tc :: .bool (keepB role ps) :: u21 :: u22 :: s23 :: s24 :: s25 :: s26 :: s27 :: s28 :: s29 :: s30 :: s31 :: s32 :: s33 :: s34 :: s35 :: s36 :: s37 :: s38 :: s39 :: s40 :: s41 :: s42 :: s43 :: s44 :: s45 :: s46 :: s47 :: s48 :: s49 :: s50 :: s51 :: s52 :: s53 :: s54 :: s55 :: s56 :: s57 :: s58 :: s59 :: s60 :: s61 :: s62 :: s63 :: s64 :: s65 :: s66 :: s67 :: s68 :: s69 :: s70 :: s71 :: s72 :: s73 :: s74 :: s75 :: s76 :: s77 :: s78 :: s79 :: s80 :: s81 :: s82 :: s83 :: s84 :: s85 :: s86 :: s87 :: s88 :: s89 :: s90 :: s91 :: s92 :: s93 :: s94 :: s95 :: s96 :: s97 :: s98 :: s99 :: s100 :: s101 :: s102 :: s103 :: s104 :: s105 :: s106 :: s107 :: s108 :: s109 :: s110 :: s111 :: s112 :: s113 :: s114 :: s115 :: s116 :: s117 :: s118 :: s119 :: s120 :: s121 :: s122 :: s123 :: s124 :: s125 :: s126 :: s127 :: s128 :: s129 :: s130 :: s131 :: s132 :: s133 :: s134 :: s135 :: s136 :: s137 :: s138 :: s139 :: s140 :: s141 :: s142 :: s143 :: s144 :: s145 :: s146 :: s147 :: s148 :: s149 :: s150 :: s151 :: s152 :: s153 :: s154 :: s155 :: s156 :: s157 :: s158 :: s159 :: s160 :: s161 :: s162 :: s163 :: s164 :: s165 :: s166 :: s167 :: u168 :: u169 :: u170 :: u171 :: u172 :: u173 :: u174 :: u175 :: u176 :: u177 :: u178 :: u179 :: u180 :: u181 :: u182 :: u183 :: u184 :: u185 :: u186 :: u187 :: u188 :: u189 :: u190 :: u191 :: u192 :: u193 :: u194 :: u195 :: u196 :: u197 :: u198 :: u199 :: u200 :: u201 :: s202 :: s203 :: s204 :: s205 :: s206 :: s207 :: s208 :: s209 :: s210 :: s211 :: s212 :: s213 :: s214 :: s215 :: s216 :: s217 :: s218 :: s219 :: s220 :: s221 :: s222 :: s223 :: s224 :: s225 :: s226 :: s227 :: s228 :: s229 :: s230 :: s231 :: s232 :: s233 :: s234 :: s235 :: s236 :: s237 :: s238 :: s239 :: s240 :: s241 :: s242 :: s243 :: s244 :: s245 :: s246 :: s247 :: s248 :: s249 :: s250 :: s251 :: s252 :: s253 :: s254 :: s255 :: s256 :: s257 :: s258 :: s259 :: s260 :: s261 :: s262 :: s263 :: s264 :: s265 :: s266 :: s267 :: s268 :: s269 :: s270 :: s271 :: s272 :: s273 :: s274 :: s275 :: s276 :: s277 :: s278 :: s279 :: s280 :: s281 :: s282 :: s283 :: s284 :: s285 :: s286 :: s287 :: s288 :: s289 :: s290 :: s291 :: s292 :: s293 :: s294 :: s295 :: s296 :: s297 :: s298 :: s299 :: s300 :: s301 :: s302 :: s303 :: s304 :: s305 :: s306 :: s307 :: s308 :: s309 :: s310 :: s311 :: s312 :: s313 :: []), []⟩ wc) :
    Code.wp Tryf.prog (.loop (((Tryf.f3.body.map loopsOf).getD []).getD 1 .skip)) Q0 ⟨List.toArray (.string role :: s1 :: .slice (some a) ps.length cap :: s3 :: s4 :: s5 :: s6 :: s7 :: s8 :: s9 :: s10 :: s11 :: s12 :: s13 :: s14 :: s15 :: s16 :: s17 :: s18 :: .slice none 0 0 :: .bool false :: .int .i64 0 :: s22 :: s23 :: s24 :: s25 :: s26 :: s27 :: s28 :: s29 :: s30 :: s31 :: s32 :: s33 :: s34 :: s35 :: s36 :: s37 :: s38 :: s39 :: s40 :: s41 :: s42 :: s43 :: s44 :: s45 :: s46 :: s47 :: s48 :: s49 :: s50 :: s51 :: s52 :: s53 :: s54 :: s55 :: s56 :: s57 :: s58 :: s59 :: s60 :: s61 :: s62 :: s63 :: s64 :: s65 :: s66 :: s67 :: s68 :: s69 :: s70 :: s71 :: s72 :: s73 :: s74 :: s75 :: s76 :: s77 :: s78 :: s79 :: s80 :: s81 :: s82 :: s83 :: s84 :: s85 :: s86 :: s87 :: s88 :: s89 :: s90 :: s91 :: s92 :: s93 :: s94 :: s95 :: s96 :: s97 :: s98 :: s99 :: s100 :: s101 :: s102 :: s103 :: s104 :: s105 :: s106 :: s107 :: s108 :: s109 :: s110 :: s111 :: s112 :: s113 :: s114 :: s115 :: s116 :: s117 :: s118 :: s119 :: s120 :: s121 :: s122 :: s123 :: s124 :: s125 :: s126 :: s127 :: s128 :: s129 :: s130 :: s131 :: s132 :: s133 :: s134 :: s135 :: s136 :: s137 :: s138 :: s139 :: s140 :: s141 :: s142 :: s143 :: s144 :: s145 :: s146 :: s147 :: s148 :: s149 :: s150 :: s151 :: s152 :: s153 :: s154 :: s155 :: s156 :: s157 :: s158 :: s159 :: s160 :: s161 :: s162 :: s163 :: s164 :: s165 :: s166 :: s167 :: s168 :: s169 :: s170 :: s171 :: s172 :: s173 :: s174 :: s175 :: s176 :: s177 :: s178 :: s179 :: s180 :: s181 :: s182 :: s183 :: s184 :: s185 :: s186 :: s187 :: s188 :: s189 :: s190 :: s191 :: s192 :: s193 :: s194 :: s195 :: s196 :: s197 :: s198 :: s199 :: s200 :: s201 :: s202 :: s203 :: s204 :: s205 :: s206 :: s207 :: s208 :: s209 :: s210 :: s211 :: s212 :: s213 :: s214 :: s215 :: s216 :: s217 :: s218 :: s219 :: s220 :: s221 :: s222 :: s223 :: s224 :: s225 :: s226 :: s227 :: s228 :: s229 :: s230 :: s231 :: s232 :: s233 :: s234 :: s235 :: s236 :: s237 :: s238 :: s239 :: s240 :: s241 :: s242 :: s243 :: s244 :: s245 :: s246 :: s247 :: s248 :: s249 :: s250 :: s251 :: s252 :: s253 :: s254 :: s255 :: s256 :: s257 :: s258 :: s259 :: s260 :: s261 :: s262 :: s263 :: s264 :: s265 :: s266 :: s267 :: s268 :: s269 :: s270 :: s271 :: s272 :: s273 :: s274 :: s275 :: s276 :: s277 :: s278 :: s279 :: s280 :: s281 :: s282 :: s283 :: s284 :: s285 :: s286 :: s287 :: s288 :: s289 :: s290 :: s291 :: s292 :: s293 :: s294 :: s295 :: s296 :: s297 :: s298 :: s299 :: s300 :: s301 :: s302 :: s303 :: s304 :: s305 :: s306 :: s307 :: s308 :: s309 :: s310 :: s311 :: s312 :: s313 :: []), []⟩ wS := by
  obtain ⟨i0, hi, hz0, hz1, hz2⟩ := info_parts info9
  conv => arg 2; arg 1; whnf
  go_loopg [19, 20, 21] ps.length (fun gk tv kp i wr => ∃ (k : Nat) (l : List LP), k ≤ ps.length ∧ gk = ps.length - k ∧ Hid (l = ps.take k) ∧ i = .int .i64 k ∧ kp = .bool (keepB role l) ∧ wr.ownsRow w3.heap.size 9 1 tv (texts role l).length ((texts role l).map Value.string) ∧ Below w3.heap.size w3 wr)
  case atStart => exact ⟨0, [], Nat.zero_le _, rfl, rfl, rfl, rfl, World.ownsRow_nil _ _ _ _, hB7⟩
  case round =>
    obtain ⟨k, l, hk, hgk, Hl, rfl, rfl, hown, hB⟩ := hrel
    obtain ⟨va, vc, hv, hST⟩ := strs_of_row hown
    rw [hv]
    by_cases hlt : k < ps.length
    · obtain ⟨p, hpk⟩ : ∃ p, ps[k]? = some p := ⟨_, List.getElem?_eq_getElem hlt⟩
      obtain ⟨b, off, ha, hb, hat⟩ := hP3 k p hpk
      subst ha
      obtain ⟨c0, c1, c2, c3, c4, c5, c6⟩ := hat.below hB hb
      have hT1 : Hid (ps.take (k + 1) = l ++ [p]) := by show _ = _; rw [take_snoc hpk, Hl.out]
      have hll : (texts role l).length ≤ k := by
        have : l.length ≤ k := by rw [Hl.out]; exact List.length_take_le _ _
        refine Nat.le_trans ?_ this
        unfold texts; rw [List.length_map]; exact List.length_filter_le _ _
      have HO : Hid (wr.ownsRow w3.heap.size 9 1 (.slice va (texts role l).length vc) (texts role l).length ((texts role l).map Value.string)) := by rw [hv] at hown; exact hown
      have hz := hB.size
      have hbz : b < wr.heap.size := by omega
      clear hpk hat hown hv hST Hl
      by_cases hc : cls role p = 0
      · have hc0 : (cls role p == 0) = true := by simp [hc]
        have hc3 : (cls role p == 3) = false := by simp [hc]
        have HT : Hid (texts role (l ++ [p]) = texts role l ++ [p.tx]) := by show _ = _; rw [texts_snoc, if_pos (txt_ref hc).1]
        have HK : Hid (keepB role (l ++ [p]) = (keepB role l || p.bp.isSome)) := by show _ = _; rw [keepB_snoc]; simp [keeps, txt, hc]
        clear hc
        go_wp2_with (first | (go_at_call 13; refine (class_any role p _).mono ?_; rintro e w' ⟨rfl, cs, rfl⟩) | (at_builtin; refine wpList_append_own _ rfl _ _ 39 rfl w3.heap.size 9 i0 (.string ⟨#[]⟩) 1 16 Tryf.underlying39 hi hz0 hz1 hz2 rfl (by decide) _ _ _ rfl ((HO.out.alloc _).alloc _) ⟨wr.heap.size + 1, 0, none⟩ 1 1 [.string p.tx] rfl rfl ?c1 ?c2 ?c3 ?c4 ?c5 ?_))
        case c1 =>
          intro j u hj
          match j, hj with
          | 0, hj => simp at hj; subst hj; simp [Addr.add]
        case c2 => intro u hu; simp at hu; subst hu; rfl
        case c3 => unfold maxLen; omega
        case c4 => omega
        case c5 => simp; omega
        intro v' w2 hown' hgrow _
        have HO2 : Hid (w2.ownsRow w3.heap.size 9 1 v' (texts role (l ++ [p])).length ((texts role (l ++ [p])).map Value.string)) := by
          show World.ownsRow _ _ _ _ _ _ _
          rw [HT.out]
          simpa using hown'
        have HB2 : Hid (Below w3.heap.size w3 w2) := ((hB.alloc hz _).alloc (by simp; omega) _).grown hgrow (by simp; omega) (fun k' hk' => (HO.out.lt k' hk').1)
        have e6 : w2.cell? ⟨b, off + k * 7 + 6, none⟩ = some (.pointer p.bp) := hgrow.cell (by first | go_keep | simp [*]) (by intro hx; have := (HO.out.lt b hx.symm).1; omega)
        clear hown' hgrow
        cases hbp : p.bp with
        | none =>
          rw [hbp] at e6
          have HK2 : Hid (keepB role (l ++ [p]) = keepB role l) := by show _ = _; rw [HK.out, hbp]; simp
          go_wp2
          go_roundg (ps.length - (k + 1))
          case measure => go_light; omega
          case rel => exact ⟨k + 1, l ++ [p], by go_light; omega, rfl, hT1.out.symm, by go_num, by rw [HK2.out], HO2.out, HB2.out⟩
        | some bq =>
          rw [hbp] at e6
          have HK2 : Hid (keepB role (l ++ [p]) = true) := by show _ = _; rw [HK.out, hbp]; simp
          go_wp2
          go_roundg (ps.length - (k + 1))
          case measure => go_light; omega
          case rel => exact ⟨k + 1, l ++ [p], by go_light; omega, rfl, hT1.out.symm, by go_num, by rw [HK2.out], HO2.out, HB2.out⟩
      · have hc0 : (cls role p == 0) = false := by simp [hc]
        have HT : Hid (texts role (l ++ [p]) = texts role l) := by show _ = _; rw [texts_snoc, if_neg (by simp [txt, hc])]
        by_cases hc3 : cls role p = 3
        · have hc3' : (cls role p == 3) = true := by simp [hc3]
          by_cases ht : (role.toList == [116, 111, 111, 108]) = true
          · have HK2 : Hid (keepB role (l ++ [p]) = keepB role l) := by show _ = _; rw [keepB_snoc]; simp [keeps, txt, hc3, isTool, sTool, ht]
            clear hc hc3
            go_wp2_with (go_at_call 13; refine (class_any role p _).mono ?_; rintro e w' ⟨rfl, cs, rfl⟩)
            go_roundg (ps.length - (k + 1))
            case measure => go_light; omega
            case rel => exact ⟨k + 1, l ++ [p], by go_light; omega, rfl, hT1.out.symm, by go_num, by rw [HK2.out], by rw [HT.out]; exact HO.out.alloc _, hB.alloc hz _⟩
          · have ht' : (role.toList == [116, 111, 111, 108]) = false := by simpa using ht
            have HK2 : Hid (keepB role (l ++ [p]) = true) := by show _ = _; rw [keepB_snoc]; simp [keeps, txt, hc3, isTool, sTool, ht']
            clear hc hc3 ht
            go_wp2_with (go_at_call 13; refine (class_any role p _).mono ?_; rintro e w' ⟨rfl, cs, rfl⟩)
            go_roundg (ps.length - (k + 1))
            case measure => go_light; omega
            case rel => exact ⟨k + 1, l ++ [p], by go_light; omega, rfl, hT1.out.symm, by go_num, by rw [HK2.out], by rw [HT.out]; exact HO.out.alloc _, hB.alloc hz _⟩
        · have hc3' : (cls role p == 3) = false := by simp [hc3]
          have HK2 : Hid (keepB role (l ++ [p]) = keepB role l) := by show _ = _; rw [keepB_snoc]; simp [keeps, txt, hc, hc3]
          clear hc hc3
          go_wp2_with (go_at_call 13; refine (class_any role p _).mono ?_; rintro e w' ⟨rfl, cs, rfl⟩)
          go_roundg (ps.length - (k + 1))
          case measure => go_light; omega
          case rel => exact ⟨k + 1, l ++ [p], by go_light; omega, rfl, hT1.out.symm, by go_num, by rw [HK2.out], by rw [HT.out]; exact HO.out.alloc _, hB.alloc hz _⟩
    · have hl : l = ps := by rw [Hl.out]; exact List.take_of_length_le (by omega)
      subst hl
      go_wp2_with fail
      first | (apply hexit; exact hST; exact hB) | exact ⟨hST, hB⟩
end Go.Proofs.Qxb6613844aFmt
