/- The law, from region 33 on. -/
import Derived.Test.Qxb6613844aFmtTails
import Derived.Test.Qxb6613844aFmtPtrs
import Derived.Test.Qxb6613844aFmtKey
import Derived.Test.Qxb6613844aFmtMid
import Derived.Test.Qxb6613844aFmtLoop2
import Derived.Deep.RegionHeld3
import Derived.Deep.CutBlock
import Derived.Deep.DeepCutAuto
import Derived.Deep.Light
import Derived.Test.Qxb6613844aFmtLoop3
namespace Go.Proofs.Qxb6613844aFmt
open Go.RowKit Go.Extern.Stop Go.Stop Go.Extern
attribute [local go_sem] eqlNil22 eqlNil25 eqlNil29 neqNil29

set_option maxHeartbeats 8000000 in
set_option maxRecDepth 1000000 in
theorem from33 (role : ByteArray) (a : Addr) (cap : Nat) (ps qs : List LP) (I : Nat) (c ia fa : Option Addr) (ic fc : Nat) (ss : List ByteArray) (EP EI : List (LP × Nat)) (w w3 wc : World)
    (hn : ps.length ≤ 1048576) (hsz : ∀ p ∈ ps, p.rf.size ≤ 1048576 ∧ p.tx.size ≤ 1048576) (hkey : qs.map LP.key = ps.map LP.key) (hB : Below w.heap.size w w3) (hP3 : Lies w3 a ps) (hQ3 : Lies w3 ⟨I, 0, none⟩ qs)
    (hEP : EP.map Prod.fst = qs.filter (kept role)) (hEI : EI.map Prod.fst = qs.filter (img role)) (hss : refs role ps = ss) (hCC : ConIs role qs EP EI w3 c) (hB8 : Below w3.heap.size w3 wc)
    (s1 s3 s4 s5 s6 s7 s8 s11 s13 s16 s17 s18 s19 s20 s21 s22 s23 s24 s25 s26 s27 s28 s29 s30 s31 s32 s33 s34 s35 s36 s37 s38 s39 s40 s41 s42 s43 s44 s45 s46 s47 s48 s49 s50 s51 s52 s53 s54 s55 s56 s57 s58 s59 s60 s61 s62 s63 s64 s65 s66 s67 s68 s69 s70 s71 s72 s73 s74 s75 s76 s77 s78 s79 s80 s81 s82 s83 s84 s85 s86 s87 s88 s89 s90 s91 s92 s93 s94 s95 s96 s97 s98 s99 s100 s101 s102 s103 s104 s105 s106 s107 s108 s109 s110 s111 s112 s113 s114 s115 s116 s117 s118 s119 s120 s121 s122 s123 s124 s125 s126 s127 s128 s129 s130 s131 s132 s133 s134 s135 s136 s137 s138 s139 s140 s141 s142 s143 s144 s145 s146 s147 s148 s149 s150 s151 s152 s153 s154 s155 s156 s157 s158 s159 s160 s161 s162 s163 s164 s165 s166 s167 s168 s169 s170 s171 s172 s173 s174 s175 s176 s177 s178 s179 s180 s181 s182 s183 s184 s185 s186 s187 s188 s189 s190 s191 s192 s193 s194 s195 s196 s197 s198 s199 s200 s201 s202 s203 s204 s205 s206 s207 s208 s209 s210 s211 s212 s213 s214 s215 s216 s217 s218 s219 s220 s221 s222 s223 s224 s225 s226 s227 s228 s229 s230 s231 s232 s233 s234 s235 s236 s237 s238 s239 s240 s241 s242 s243 s244 s245 s246 s247 s248 s249 s250 s251 s252 s253 s254 s255 s256 s257 s258 s259 s260 s261 s262 s263 s264 s265 s266 s267 s268 s269 s270 s271 s272 s273 s274 s275 s276 s277 s278 s279 s280 s281 s282 s283 s284 s285 s286 s287 s288 s289 s290 s291 s292 s293 s294 s295 s296 s297 s298 s299 s300 s301 s302 s303 s304 s305 s306 s307 s308 s309 s310 s311 s312 s313 : Value) :
    Code.wp Tryf.prog ((Tryf.f3.body.map (tailAt 33)).getD .skip) (bodyPost Tryf.prog Tryf.f3 (fun e w' => e = .returned (.bool true) ∧ Below w.heap.size w w')) ⟨List.toArray (.string role :: s1 :: .slice (some a) ps.length cap :: s3 :: s4 :: s5 :: s6 :: s7 :: s8 :: .slice (some ⟨I, 0, none⟩) ps.length ps.length :: .pointer c :: s11 :: .slice ia EI.length ic :: s13 :: .slice fa ss.length fc :: .int .i64 EI.length :: s16 :: s17 :: s18 :: s19 :: s20 :: s21 :: s22 :: s23 :: s24 :: s25 :: s26 :: s27 :: s28 :: s29 :: s30 :: s31 :: s32 :: s33 :: s34 :: s35 :: s36 :: s37 :: s38 :: s39 :: s40 :: s41 :: s42 :: s43 :: s44 :: s45 :: s46 :: s47 :: s48 :: s49 :: s50 :: s51 :: s52 :: s53 :: s54 :: s55 :: s56 :: s57 :: s58 :: s59 :: s60 :: s61 :: s62 :: s63 :: s64 :: s65 :: s66 :: s67 :: s68 :: s69 :: s70 :: s71 :: s72 :: s73 :: s74 :: s75 :: s76 :: s77 :: s78 :: s79 :: s80 :: s81 :: s82 :: s83 :: s84 :: s85 :: s86 :: s87 :: s88 :: s89 :: s90 :: s91 :: s92 :: s93 :: s94 :: s95 :: s96 :: s97 :: s98 :: s99 :: s100 :: s101 :: s102 :: s103 :: s104 :: s105 :: s106 :: s107 :: s108 :: s109 :: s110 :: s111 :: s112 :: s113 :: s114 :: s115 :: s116 :: s117 :: s118 :: s119 :: s120 :: s121 :: s122 :: s123 :: s124 :: s125 :: s126 :: s127 :: s128 :: s129 :: s130 :: s131 :: s132 :: s133 :: s134 :: s135 :: s136 :: s137 :: s138 :: s139 :: s140 :: s141 :: s142 :: s143 :: s144 :: s145 :: s146 :: s147 :: s148 :: s149 :: s150 :: s151 :: s152 :: s153 :: s154 :: s155 :: s156 :: s157 :: s158 :: s159 :: s160 :: s161 :: s162 :: s163 :: s164 :: s165 :: s166 :: s167 :: s168 :: s169 :: s170 :: s171 :: s172 :: s173 :: s174 :: s175 :: s176 :: s177 :: s178 :: s179 :: s180 :: s181 :: s182 :: s183 :: s184 :: s185 :: s186 :: s187 :: s188 :: s189 :: s190 :: s191 :: s192 :: s193 :: s194 :: s195 :: s196 :: s197 :: s198 :: s199 :: s200 :: s201 :: s202 :: s203 :: s204 :: s205 :: s206 :: s207 :: s208 :: s209 :: s210 :: s211 :: s212 :: s213 :: s214 :: s215 :: s216 :: s217 :: s218 :: s219 :: s220 :: s221 :: s222 :: s223 :: s224 :: s225 :: s226 :: s227 :: s228 :: s229 :: s230 :: s231 :: s232 :: s233 :: s234 :: s235 :: s236 :: s237 :: s238 :: s239 :: s240 :: s241 :: s242 :: s243 :: s244 :: s245 :: s246 :: s247 :: s248 :: s249 :: s250 :: s251 :: s252 :: s253 :: s254 :: s255 :: s256 :: s257 :: s258 :: s259 :: s260 :: s261 :: s262 :: s263 :: s264 :: s265 :: s266 :: s267 :: s268 :: s269 :: s270 :: s271 :: s272 :: s273 :: s274 :: s275 :: s276 :: s277 :: s278 :: s279 :: s280 :: s281 :: s282 :: s283 :: s284 :: s285 :: s286 :: s287 :: s288 :: s289 :: s290 :: s291 :: s292 :: s293 :: s294 :: s295 :: s296 :: s297 :: s298 :: s299 :: s300 :: s301 :: s302 :: s303 :: s304 :: s305 :: s306 :: s307 :: s308 :: s309 :: s310 :: s311 :: s312 :: s313 :: []), []⟩ wc := by
  obtain ⟨kl, kb, kr, kt, kk, ki, kp⟩ := keyed role hkey
  have hsm : Small (refs role ps) := (small_refs hn hsz).1
  rw [hss] at hsm
  have hsl := hsm.1
  conv => arg 2; whnf
  let Q' : Exit → Act → World → Prop := bodyPost Tryf.prog Tryf.f3 (fun e w' => e = .returned (.bool true) ∧ Below w.heap.size w w')
  show Code.wp Tryf.prog _ Q' _ _
  go_wp2_with fail
  refine (kept_any role a cap ps wc hn (hP3.below hB8)).mono ?_
  rintro e w9 ⟨rfl, hB9⟩
  rw [← kp, ← hEP, List.length_map]
  replace hB9 := hB8.trans (hB9.mono hB8.size)
  clear hB8
  go_wp2_with fail
  apply loop2 role a cap ps w3 _ _ hn hP3 hB9
  intro u21 u22 u168 u169 u170 u171 u172 u173 u174 u175 u176 u177 u178 u179 u180 u181 u182 u183 u184 u185 u186 u187 u188 u189 u190 u191 u192 u193 u194 u195 u196 u197 u198 u199 u200 u201 ta tc wd hST hBd
  clear hB9
  have lEP : EP.length ≤ 1048576 := by rw [← List.length_map (f := Prod.fst), hEP]; exact Nat.le_trans (List.length_filter_le _ _) (by rw [kl]; exact hn)
  have lEI : EI.length ≤ 1048576 := by rw [← List.length_map (f := Prod.fst), hEI]; exact Nat.le_trans (List.length_filter_le _ _) (by rw [kl]; exact hn)
  have hBw : Below w.heap.size w wd := hB.trans (hBd.mono hB.size)
  unfold ConIs at hCC
  rw [kr, hss, kk, kt] at hCC
  have hsT : Small (texts role ps) := (small_refs hn hsz).2
  have lT := hsT.1
  rcases hCC with ⟨hp0, hor, rfl⟩ | ⟨hor, cq, rfl, hcq, hkeep⟩
  · subst hp0
    rcases hor with h | h
    · have hx : 0 < ss.length := List.length_pos_iff.2 h
      go_wp2
      all_goals (go_ret; exact ⟨rfl, hBw⟩)
    · have hx : 0 < EI.length := List.length_pos_iff.2 h
      by_cases hs0 : ss = []
      · subst hs0
        go_wp2
        go_ret
        exact ⟨rfl, hBw⟩
      · have hx2 : 0 < ss.length := List.length_pos_iff.2 hs0
        go_wp2
        go_ret
        exact ⟨rfl, hBw⟩
  · have hcz : cq < wd.heap.size := by have := hBd.size; omega
    rcases hkeep with ⟨hkb, hq0, hq1⟩ | ⟨hkb, hq0, pa, pc, hq1, hRP⟩
    · rw [hkb]
      have e0 : wd.cell? ⟨cq, 0, none⟩ = some (.string (joinB (texts role ps))) := (hBd.cell (p := ⟨cq, 0, none⟩) hcq).trans hq0
      have e1 : wd.cell? ⟨cq, 1, none⟩ = some (.slice none 0 0) := (hBd.cell (p := ⟨cq, 1, none⟩) hcq).trans hq1
      rcases hor with hp | ⟨h1, h2⟩
      · have hx : 0 < EP.length := List.length_pos_iff.2 hp
        go_wp2_with fail
        go_region_held3 (fun w' => w'.cell? ⟨cq, 0, none⟩ = some (.string (joinB (texts role ps))) ∧ w'.cell? ⟨cq, 1, none⟩ = some (.slice none 0 0)) (first | go_keep | (exact ⟨(hB6.cell (p := ⟨cq, 0, none⟩) hcz).trans e0, (hB6.cell (p := ⟨cq, 1, none⟩) hcz).trans e1⟩))
          (first | (go_at_call 11; refine (lines_any ta tc (texts role ps) _ ?_ hsT).mono ?_; (exact hST); rintro e w' ⟨rfl, hB6⟩))
        go_wp2
        go_ret
        exact ⟨rfl, hBw.drew.trans (hB6.mono hBw.size)⟩
      · subst h1
        subst h2
        by_cases hp : EP = []
        · subst hp
          go_wp2_with fail
          go_region_held3 (fun w' => w'.cell? ⟨cq, 0, none⟩ = some (.string (joinB (texts role ps))) ∧ w'.cell? ⟨cq, 1, none⟩ = some (.slice none 0 0)) (first | go_keep | (exact ⟨(hB6.cell (p := ⟨cq, 0, none⟩) hcz).trans e0, (hB6.cell (p := ⟨cq, 1, none⟩) hcz).trans e1⟩))
            (first | (go_at_call 11; refine (lines_any ta tc (texts role ps) _ ?_ hsT).mono ?_; (exact hST); rintro e w' ⟨rfl, hB6⟩))
          go_wp2
          go_ret
          exact ⟨rfl, hBw.drew.trans (hB6.mono hBw.size)⟩
        · have hx : 0 < EP.length := List.length_pos_iff.2 hp
          go_wp2_with fail
          go_region_held3 (fun w' => w'.cell? ⟨cq, 0, none⟩ = some (.string (joinB (texts role ps))) ∧ w'.cell? ⟨cq, 1, none⟩ = some (.slice none 0 0)) (first | go_keep | (exact ⟨(hB6.cell (p := ⟨cq, 0, none⟩) hcz).trans e0, (hB6.cell (p := ⟨cq, 1, none⟩) hcz).trans e1⟩))
            (first | (go_at_call 11; refine (lines_any ta tc (texts role ps) _ ?_ hsT).mono ?_; (exact hST); rintro e w' ⟨rfl, hB6⟩))
          go_wp2
          go_ret
          exact ⟨rfl, hBw.drew.trans (hB6.mono hBw.size)⟩
    · rw [hkb]
      have hp : EP ≠ [] := by
        intro h
        rw [h] at hEP
        have := keepB_nil hEP.symm
        rw [kk, hkb] at this
        cases this
      have hx : 0 < EP.length := List.length_pos_iff.2 hp
      obtain ⟨g, rfl, hg, hcg⟩ := hRP.2.2 hp
      have e0 : wd.cell? ⟨cq, 0, none⟩ = some (.string ⟨#[]⟩) := (hBd.cell (p := ⟨cq, 0, none⟩) hcq).trans hq0
      have e1 : wd.cell? ⟨cq, 1, none⟩ = some (.slice (some ⟨g, 0, none⟩) EP.length pc) := (hBd.cell (p := ⟨cq, 1, none⟩) hcq).trans hq1
      go_wp2_with fail
      apply loop3 role a cap ps qs I g pc cq EP w3 _ _ hn hkey hP3 hQ3 hEP hRP.2.1 hg hcg hcq hq1 hBd
      intro u8 u23 u24 u25 u247 u248 u249 u250 u251 u252 u253 u254 u255 u256 u257 u258 u259 u260 u261 u262 u263 u264 u265 u266 u267 u268 u269 u270 u271 u272 u273 u274 u275 u276 u277 u278 u279 u280 u281 u282 u283 u284 u285 u286 u287 u288 u289 u290 u291 u292 u293 u294 u295 u296 u297 u298 u299 u300 u301 u302 u303 u304 u305 u306 u307 u308 u309 u310 u311 u312 u313 we hBe
      go_wp2
      go_ret
      exact ⟨rfl, hB.trans (hBe.mono hB.size)⟩
end Go.Proofs.Qxb6613844aFmt
