/- The law, from region 19 on. -/
import Derived.Test.Qxb6613844aFmtTails
import Derived.Test.Qxb6613844aFmtPtrs
import Derived.Test.Qxb6613844aFmtKey
import Derived.Test.Qxb6613844aFmtMid
import Derived.Test.Qxb6613844aFmtLoop1
import Derived.Deep.RegionHeld3
import Derived.Deep.CutBlock
import Derived.Deep.DeepCutAuto
import Derived.Deep.Light
import Derived.Test.Qxb6613844aFmtFrom33
namespace Go.Proofs.Qxb6613844aFmt
open Go.RowKit Go.Extern.Stop Go.Stop Go.Extern
attribute [local go_sem] eqlNil22 eqlNil25 eqlNil29 neqNil29

set_option maxHeartbeats 8000000 in
set_option maxRecDepth 1000000 in
theorem from19 (role : ByteArray) (a : Addr) (cap : Nat) (ps qs : List LP) (I : Nat) (c ia fa : Option Addr) (ic fc : Nat) (ss : List ByteArray) (EP EI : List (LP × Nat)) (w w3 wc : World)
    (hn : ps.length ≤ 1048576) (hsz : ∀ p ∈ ps, p.rf.size ≤ 1048576 ∧ p.tx.size ≤ 1048576) (hkey : qs.map LP.key = ps.map LP.key) (hB : Below w.heap.size w w3) (hP3 : Lies w3 a ps) (hQ3 : Lies w3 ⟨I, 0, none⟩ qs)
    (hEP : EP.map Prod.fst = qs.filter (kept role)) (hEI : EI.map Prod.fst = qs.filter (img role)) (hss : refs role ps = ss) (hCC : ConIs role qs EP EI w3 c) (hI0 : EI = [] → ia = none ∧ ic = 0) (hRI : RowIs role EI w3 ia ic) (hB6 : Below w3.heap.size w3 wc)
    (s1 s3 s4 s5 s6 s7 s8 s11 s13 s15 s16 s17 s18 s19 s20 s21 s22 s23 s24 s25 s26 s27 s28 s29 s30 s31 s32 s33 s34 s35 s36 s37 s38 s39 s40 s41 s42 s43 s44 s45 s46 s47 s48 s49 s50 s51 s52 s53 s54 s55 s56 s57 s58 s59 s60 s61 s62 s63 s64 s65 s66 s67 s68 s69 s70 s71 s72 s73 s74 s75 s76 s77 s78 s79 s80 s81 s82 s83 s84 s85 s86 s87 s88 s89 s90 s91 s92 s93 s94 s95 s96 s97 s98 s99 s100 s101 s102 s103 s104 s105 s106 s107 s108 s109 s110 s111 s112 s113 s114 s115 s116 s117 s118 s119 s120 s121 s122 s123 s124 s125 s126 s127 s128 s129 s130 s131 s132 s133 s134 s135 s136 s137 s138 s139 s140 s141 s142 s143 s144 s145 s146 s147 s148 s149 s150 s151 s152 s153 s154 s155 s156 s157 s158 s159 s160 s161 s162 s163 s164 s165 s166 s167 s168 s169 s170 s171 s172 s173 s174 s175 s176 s177 s178 s179 s180 s181 s182 s183 s184 s185 s186 s187 s188 s189 s190 s191 s192 s193 s194 s195 s196 s197 s198 s199 s200 s201 s202 s203 s204 s205 s206 s207 s208 s209 s210 s211 s212 s213 s214 s215 s216 s217 s218 s219 s220 s221 s222 s223 s224 s225 s226 s227 s228 s229 s230 s231 s232 s233 s234 s235 s236 s237 s238 s239 s240 s241 s242 s243 s244 s245 s246 s247 s248 s249 s250 s251 s252 s253 s254 s255 s256 s257 s258 s259 s260 s261 s262 s263 s264 s265 s266 s267 s268 s269 s270 s271 s272 s273 s274 s275 s276 s277 s278 s279 s280 s281 s282 s283 s284 s285 s286 s287 s288 s289 s290 s291 s292 s293 s294 s295 s296 s297 s298 s299 s300 s301 s302 s303 s304 s305 s306 s307 s308 s309 s310 s311 s312 s313 : Value) :
    Code.wp Tryf.prog ((Tryf.f3.body.map (tailAt 19)).getD .skip) (bodyPost Tryf.prog Tryf.f3 (fun e w' => e = .returned (.bool true) ∧ Below w.heap.size w w')) ⟨List.toArray (.string role :: s1 :: .slice (some a) ps.length cap :: s3 :: s4 :: s5 :: s6 :: s7 :: s8 :: .slice (some ⟨I, 0, none⟩) ps.length ps.length :: .pointer c :: s11 :: .slice ia EI.length ic :: s13 :: .slice fa ss.length fc :: s15 :: s16 :: s17 :: s18 :: s19 :: s20 :: s21 :: s22 :: s23 :: s24 :: s25 :: s26 :: s27 :: s28 :: s29 :: s30 :: s31 :: s32 :: s33 :: s34 :: s35 :: s36 :: s37 :: s38 :: s39 :: s40 :: s41 :: s42 :: s43 :: s44 :: s45 :: s46 :: s47 :: s48 :: s49 :: s50 :: s51 :: s52 :: s53 :: s54 :: s55 :: s56 :: s57 :: s58 :: s59 :: s60 :: s61 :: s62 :: s63 :: s64 :: s65 :: s66 :: s67 :: s68 :: s69 :: s70 :: s71 :: s72 :: s73 :: s74 :: s75 :: s76 :: s77 :: s78 :: s79 :: s80 :: s81 :: s82 :: s83 :: s84 :: s85 :: s86 :: s87 :: s88 :: s89 :: s90 :: s91 :: s92 :: s93 :: s94 :: s95 :: s96 :: s97 :: s98 :: s99 :: s100 :: s101 :: s102 :: s103 :: s104 :: s105 :: s106 :: s107 :: s108 :: s109 :: s110 :: s111 :: s112 :: s113 :: s114 :: s115 :: s116 :: s117 :: s118 :: s119 :: s120 :: s121 :: s122 :: s123 :: s124 :: s125 :: s126 :: s127 :: s128 :: s129 :: s130 :: s131 :: s132 :: s133 :: s134 :: s135 :: s136 :: s137 :: s138 :: s139 :: s140 :: s141 :: s142 :: s143 :: s144 :: s145 :: s146 :: s147 :: s148 :: s149 :: s150 :: s151 :: s152 :: s153 :: s154 :: s155 :: s156 :: s157 :: s158 :: s159 :: s160 :: s161 :: s162 :: s163 :: s164 :: s165 :: s166 :: s167 :: s168 :: s169 :: s170 :: s171 :: s172 :: s173 :: s174 :: s175 :: s176 :: s177 :: s178 :: s179 :: s180 :: s181 :: s182 :: s183 :: s184 :: s185 :: s186 :: s187 :: s188 :: s189 :: s190 :: s191 :: s192 :: s193 :: s194 :: s195 :: s196 :: s197 :: s198 :: s199 :: s200 :: s201 :: s202 :: s203 :: s204 :: s205 :: s206 :: s207 :: s208 :: s209 :: s210 :: s211 :: s212 :: s213 :: s214 :: s215 :: s216 :: s217 :: s218 :: s219 :: s220 :: s221 :: s222 :: s223 :: s224 :: s225 :: s226 :: s227 :: s228 :: s229 :: s230 :: s231 :: s232 :: s233 :: s234 :: s235 :: s236 :: s237 :: s238 :: s239 :: s240 :: s241 :: s242 :: s243 :: s244 :: s245 :: s246 :: s247 :: s248 :: s249 :: s250 :: s251 :: s252 :: s253 :: s254 :: s255 :: s256 :: s257 :: s258 :: s259 :: s260 :: s261 :: s262 :: s263 :: s264 :: s265 :: s266 :: s267 :: s268 :: s269 :: s270 :: s271 :: s272 :: s273 :: s274 :: s275 :: s276 :: s277 :: s278 :: s279 :: s280 :: s281 :: s282 :: s283 :: s284 :: s285 :: s286 :: s287 :: s288 :: s289 :: s290 :: s291 :: s292 :: s293 :: s294 :: s295 :: s296 :: s297 :: s298 :: s299 :: s300 :: s301 :: s302 :: s303 :: s304 :: s305 :: s306 :: s307 :: s308 :: s309 :: s310 :: s311 :: s312 :: s313 :: []), []⟩ wc := by
  obtain ⟨kl, kb, kr, kt, kk, ki, kp⟩ := keyed role hkey
  have hsm : Small (refs role ps) := (small_refs hn hsz).1
  rw [hss] at hsm
  have hsl := hsm.1
  conv => arg 2; whnf
  let Q' : Exit → Act → World → Prop := bodyPost Tryf.prog Tryf.f3 (fun e w' => e = .returned (.bool true) ∧ Below w.heap.size w w')
  show Code.wp Tryf.prog _ Q' _ _
  go_wp2_with fail
  refine (tools_any role a cap ps wc hn (hP3.below hB6)).mono ?_
  rintro e w7 ⟨rfl, hB7⟩
  rw [← ki, ← hEI, List.length_map]
  replace hB7 := hB6.trans (hB7.mono hB6.size)
  clear hB6
  go_upto_if 122 with fail
  go_cut [15] (fun t wc => t = .int .i64 EI.length ∧ Below w3.heap.size w3 wc)
  case first =>
    by_cases hi0 : EI = []
    · subst hi0
      obtain ⟨rfl, rfl⟩ := hI0 rfl
      go_wp2_with fail
      go_meet
      case rel => exact ⟨rfl, hB7⟩
    · have hl0 : 0 < EI.length := List.length_pos_iff.2 hi0
      have hl2 : ((EI.length : Int) == 0) = false := by simp; exact hi0
      rw [hl2]
      obtain ⟨g, rfl, hg, hcg⟩ := hRI.2.2 hi0
      have htool : isTool role = true := by
        obtain ⟨e, he⟩ := List.exists_mem_of_ne_nil _ hi0
        have hm : e.1 ∈ qs.filter (img role) := by rw [← hEI]; exact List.mem_map_of_mem he
        have := (List.mem_filter.1 hm).2
        simp [img] at this
        exact this.2
      go_wp2_with fail
      apply loop1 role a cap ps qs I g ic EI w3 _ _ hn hkey hP3 hQ3 hEI htool hRI hg hcg hB7
      intro u8 u16 u17 u129 u130 u131 u132 u133 u134 u135 u136 u137 u138 u139 u140 u141 u142 u143 u144 u145 u146 u147 u148 u149 u150 u151 u152 u153 u154 u155 u156 u157 u158 u159 u160 u161 u162 u163 u164 wc hB8
      go_wp2_with fail
      go_meet
      case rel => exact ⟨rfl, hB8⟩
  case rest =>
    obtain ⟨rfl, hB8⟩ := hcut
    apply_assumption
    apply from33 role a cap ps qs I c ia fa ic fc ss EP EI w w3 wc hn hsz hkey hB hP3 hQ3 hEP hEI hss hCC hB8
end Go.Proofs.Qxb6613844aFmt
