/- The law's third loop: the parts that are kept. -/
import Derived.Test.Qxb6613844aFmtLoops
import Derived.Test.Qxb6613844aFmtPtrs
import Derived.Test.Qxb6613844aFmtKey
import Derived.Test.Qxb6613844aFmtMid
import Derived.Deep.RegionHeld3
import Derived.Deep.LoopGhost
import Derived.Deep.Light
namespace Go.Proofs.Qxb6613844aFmt
open Go.RowKit
attribute [local go_sem] eqlNil22 eqlNil25 eqlNil29 neqNil29

set_option maxHeartbeats 8000000 in
set_option maxRecDepth 1000000 in
theorem loop3 (role : ByteArray) (a : Addr) (cap : Nat) (ps qs : List LP) (I g pc cq : Nat) (EP : List (LP × Nat)) (w3 wS : World) (Q0 : Exit → Act → World → Prop)
    (hn : ps.length ≤ 1048576) (hkey : qs.map LP.key = ps.map LP.key) (hP3 : Lies w3 a ps) (hQ3 : Lies w3 ⟨I, 0, none⟩ qs) (hEP : EP.map Prod.fst = qs.filter (kept role))
    (hRP : ∀ e ∈ EP, e.2 < w3.heap.size ∧ Box role w3 e) (hg : g < w3.heap.size) (hcg : ∀ (j : Nat) (v : Value), (EP.flatMap (eCells role))[j]? = some v → w3.cell? ⟨g, j, none⟩ = some v)
    (hcq3 : cq < w3.heap.size) (hq1 : w3.cell? ⟨cq, 1, none⟩ = some (.slice (some ⟨g, 0, none⟩) EP.length pc)) (hB7 : Below w3.heap.size w3 wS)
    (s1 s3 s4 s5 s6 s7 s8 s11 s12 s13 s14 s15 s16 s17 s18 s19 s20 s21 s22 s25 s26 s27 s28 s29 s30 s31 s32 s33 s34 s35 s36 s37 s38 s39 s40 s41 s42 s43 s44 s45 s46 s47 s48 s49 s50 s51 s52 s53 s54 s55 s56 s57 s58 s59 s60 s61 s62 s63 s64 s65 s66 s67 s68 s69 s70 s71 s72 s73 s74 s75 s76 s77 s78 s79 s80 s81 s82 s83 s84 s85 s86 s87 s88 s89 s90 s91 s92 s93 s94 s95 s96 s97 s98 s99 s100 s101 s102 s103 s104 s105 s106 s107 s108 s109 s110 s111 s112 s113 s114 s115 s116 s117 s118 s119 s120 s121 s122 s123 s124 s125 s126 s127 s128 s129 s130 s131 s132 s133 s134 s135 s136 s137 s138 s139 s140 s141 s142 s143 s144 s145 s146 s147 s148 s149 s150 s151 s152 s153 s154 s155 s156 s157 s158 s159 s160 s161 s162 s163 s164 s165 s166 s167 s168 s169 s170 s171 s172 s173 s174 s175 s176 s177 s178 s179 s180 s181 s182 s183 s184 s185 s186 s187 s188 s189 s190 s191 s192 s193 s194 s195 s196 s197 s198 s199 s200 s201 s202 s203 s204 s205 s206 s207 s208 s209 s210 s211 s212 s213 s214 s215 s216 s217 s218 s219 s220 s221 s222 s223 s224 s225 s226 s227 s228 s229 s230 s231 s232 s233 s234 s235 s236 s237 s238 s239 s240 s241 s242 s243 s244 s245 s246 s247 s248 s249 s250 s251 s252 s253 s254 s255 s256 s257 s258 s259 s260 s261 s262 s263 s264 s265 s266 s267 s268 s269 s270 s271 s272 s273 s274 s275 s276 s277 s278 s279 s280 s281 s282 s283 s284 s285 s286 s287 s288 s289 s290 s291 s292 s293 s294 s295 s296 s297 s298 s299 s300 s301 s302 s303 s304 s305 s306 s307 s308 s309 s310 s311 s312 s313 : Value)
    (hexit : ∀ (u8 u23 u24 u25 u247 u248 u249 u250 u251 u252 u253 u254 u255 u256 u257 u258 u259 u260 u261 u262 u263 u264 u265 u266 u267 u268 u269 u270 u271 u272 u273 u274 u275 u276 u277 u278 u279 u280 u281 u282 u283 u284 u285 u286 u287 u288 u289 u290 u291 u292 u293 u294 u295 u296 u297 u298 u299 u300 u301 u302 u303 u304 u305 u306 u307 u308 u309 u310 u311 u312 u313 : Value) (wc : World), Below w3.heap.size w3 wc → Q0 (.exit 4) ⟨List.toArray (.string role :: s1 :: .slice (some a) ps.length cap :: s3 :: s4 :: s5 :: s6 :: s7 :: u8 :: .slice (some ⟨I, 0, none⟩) ps.length ps.length :: .pointer (some ⟨cq, 0, none⟩) :: s11 :: s12 :: s13 :: s14 :: s15 :: s16 :: s17 :: s18 :: s19 :: s20 :: s21 :: s22 :: u23 :: u24 :: u25 :: s26 :: s27 :: s28 :: s29 :: s30 :: s31 :: s32 :: s33 :: s34 :: s35 :: s36 :: s37 :: s38 :: s39 :: s40 :: s41 :: s42 :: s43 :: s44 :: s45 :: s46 :: s47 :: s48 :: s49 :: s50 :: s51 :: s52 :: s53 :: s54 :: s55 :: s56 :: s57 :: s58 :: s59 :: s60 :: s61 :: s62 :: s63 :: s64 :: s65 :: s66 :: s67 :: s68 :: s69 :: s70 :: s71 :: s72 :: s73 :: s74 :: s75 :: s76 :: s77 :: s78 :: s79 :: s80 :: s81 :: s82 :: s83 :: s84 :: s85 :: s86 :: s87 :: s88 :: s89 :: s90 :: s91 :: s92 :: s93 :: s94 :: s95 :: s96 :: s97 :: s98 :: s99 :: s100 :: s101 :: s102 :: s103 :: s104 :: s105 :: s106 :: s107 :: s108 :: s109 :: s110 :: s111 :: s112 :: s113 :: s114 :: s115 :: s116 :: s117 :: s118 :: s119 :: s120 :: s121 :: s122 :: s123 :: s124 :: s125 :: s126 :: s127 :: s128 :: s129 :: s130 :: s131 :: s132 :: s133 :: s134 :: s135 :: s136 :: s137 :: s138 :: s139 :: s140 :: s141 :: s142 :: s143 :: s144 :: s145 :: s146 :: s147 :: s148 :: s149 :: s150 :: s151 :: s152 :: s153 :: s154 :: s155 :: s156 :: s157 :: s158 :: s159 :: s160 :: s161 :: s162 :: s163 :: s164 :: s165 :: s166 :: s167 :: s168 :: s169 :: s170 :: s171 :: s172 :: s173 :: s174 :: s175 :: s176 :: s177 :: s178 :: s179 :: s180 :: s181 :: s182 :: s183 :: s184 :: s185 :: s186 :: s187 :: s188 :: s189 :: s190 :: s191 :: s192 :: s193 :: s194 :: s195 :: s196 :: s197 :: s198 :: s199 :: s200 :: s201 :: s202 :: s203 :: s204 :: s205 :: s206 :: s207 :: s208 :: s209 :: s210 :: s211 :: s212 :: s213 :: s214 :: s215 :: s216 :: s217 :: s218 :: s219 :: s220 :: s221 :: s222 :: s223 :: s224 :: s225 :: s226 :: s227 :: s228 :: s229 :: s230 :: s231 :: s232 :: s233 :: s234 :: s235 :: s236 :: s237 :: s238 :: s239 :: s240 :: s241 :: s242 :: s243 :: s244 :: s245 :: s246 :: u247 :: u248 :: u249 :: u250 :: u251 :: u252 :: u253 :: u254 :: u255 :: u256 :: u257 :: u258 :: u259 :: u260 :: u261 :: u262 :: u263 :: u264 :: u265 :: u266 :: u267 :: u268 :: u269 :: u270 :: u271 :: u272 :: u273 :: u274 :: u275 :: u276 :: u277 :: u278 :: u279 :: u280 :: u281 :: u282 :: u283 :: u284 :: u285 :: u286 :: u287 :: u288 :: u289 :: u290 :: u291 :: u292 :: u293 :: u294 :: u295 :: u296 :: u297 :: u298 :: u299 :: u300 :: u301 :: u302 :: u303 :: u304 :: u305 :: u306 :: u307 :: u308 :: u309 :: u310 :: u311 :: u312 :: u313 :: []), []⟩ wc) :
    Code.wp Tryf.prog (.loop (((Tryf.f3.body.map loopsOf).getD []).getD 2 .skip)) Q0 ⟨List.toArray (.string role :: s1 :: .slice (some a) ps.length cap :: s3 :: s4 :: s5 :: s6 :: s7 :: s8 :: .slice (some ⟨I, 0, none⟩) ps.length ps.length :: .pointer (some ⟨cq, 0, none⟩) :: s11 :: s12 :: s13 :: s14 :: s15 :: s16 :: s17 :: s18 :: s19 :: s20 :: s21 :: s22 :: .int .i64 0 :: .int .i64 0 :: s25 :: s26 :: s27 :: s28 :: s29 :: s30 :: s31 :: s32 :: s33 :: s34 :: s35 :: s36 :: s37 :: s38 :: s39 :: s40 :: s41 :: s42 :: s43 :: s44 :: s45 :: s46 :: s47 :: s48 :: s49 :: s50 :: s51 :: s52 :: s53 :: s54 :: s55 :: s56 :: s57 :: s58 :: s59 :: s60 :: s61 :: s62 :: s63 :: s64 :: s65 :: s66 :: s67 :: s68 :: s69 :: s70 :: s71 :: s72 :: s73 :: s74 :: s75 :: s76 :: s77 :: s78 :: s79 :: s80 :: s81 :: s82 :: s83 :: s84 :: s85 :: s86 :: s87 :: s88 :: s89 :: s90 :: s91 :: s92 :: s93 :: s94 :: s95 :: s96 :: s97 :: s98 :: s99 :: s100 :: s101 :: s102 :: s103 :: s104 :: s105 :: s106 :: s107 :: s108 :: s109 :: s110 :: s111 :: s112 :: s113 :: s114 :: s115 :: s116 :: s117 :: s118 :: s119 :: s120 :: s121 :: s122 :: s123 :: s124 :: s125 :: s126 :: s127 :: s128 :: s129 :: s130 :: s131 :: s132 :: s133 :: s134 :: s135 :: s136 :: s137 :: s138 :: s139 :: s140 :: s141 :: s142 :: s143 :: s144 :: s145 :: s146 :: s147 :: s148 :: s149 :: s150 :: s151 :: s152 :: s153 :: s154 :: s155 :: s156 :: s157 :: s158 :: s159 :: s160 :: s161 :: s162 :: s163 :: s164 :: s165 :: s166 :: s167 :: s168 :: s169 :: s170 :: s171 :: s172 :: s173 :: s174 :: s175 :: s176 :: s177 :: s178 :: s179 :: s180 :: s181 :: s182 :: s183 :: s184 :: s185 :: s186 :: s187 :: s188 :: s189 :: s190 :: s191 :: s192 :: s193 :: s194 :: s195 :: s196 :: s197 :: s198 :: s199 :: s200 :: s201 :: s202 :: s203 :: s204 :: s205 :: s206 :: s207 :: s208 :: s209 :: s210 :: s211 :: s212 :: s213 :: s214 :: s215 :: s216 :: s217 :: s218 :: s219 :: s220 :: s221 :: s222 :: s223 :: s224 :: s225 :: s226 :: s227 :: s228 :: s229 :: s230 :: s231 :: s232 :: s233 :: s234 :: s235 :: s236 :: s237 :: s238 :: s239 :: s240 :: s241 :: s242 :: s243 :: s244 :: s245 :: s246 :: s247 :: s248 :: s249 :: s250 :: s251 :: s252 :: s253 :: s254 :: s255 :: s256 :: s257 :: s258 :: s259 :: s260 :: s261 :: s262 :: s263 :: s264 :: s265 :: s266 :: s267 :: s268 :: s269 :: s270 :: s271 :: s272 :: s273 :: s274 :: s275 :: s276 :: s277 :: s278 :: s279 :: s280 :: s281 :: s282 :: s283 :: s284 :: s285 :: s286 :: s287 :: s288 :: s289 :: s290 :: s291 :: s292 :: s293 :: s294 :: s295 :: s296 :: s297 :: s298 :: s299 :: s300 :: s301 :: s302 :: s303 :: s304 :: s305 :: s306 :: s307 :: s308 :: s309 :: s310 :: s311 :: s312 :: s313 :: []), []⟩ wS := by
  conv => arg 2; arg 1; whnf
  go_loopg [23, 24] ps.length (fun gk jv i wr => ∃ k : Nat, k ≤ ps.length ∧ gk = ps.length - k ∧ i = .int .i64 k ∧ jv = .int .i64 ((qs.take k).filter (kept role)).length ∧ Below w3.heap.size w3 wr)
  case atStart => exact ⟨0, Nat.zero_le _, rfl, rfl, rfl, hB7⟩
  case round =>
    obtain ⟨k, hk, hgk, rfl, rfl, hBr⟩ := hrel
    have hjk : ((qs.take k).filter (kept role)).length ≤ k := Nat.le_trans (List.length_filter_le _ _) (List.length_take_le _ _)
    generalize hj : ((qs.take k).filter (kept role)).length = j at hjk ⊢
    by_cases hlt : k < ps.length
    · obtain ⟨p, hpk⟩ : ∃ p, ps[k]? = some p := ⟨_, List.getElem?_eq_getElem hlt⟩
      obtain ⟨q, hqk, hsame⟩ := same_at role hkey hpk
      have hj1 : Hid (((qs.take (k + 1)).filter (kept role)).length = j + if kept role q = true then 1 else 0) := by
        show _ = _
        rw [take_snoc hqk, filter_snoc, ← hj]
        split <;> simp
      obtain ⟨b, off, ha, hb, hat⟩ := hP3 k p hpk
      subst ha
      obtain ⟨c0, c1, c2, c3, c4, c5, c6⟩ := hat.below hBr hb
      have hz := hBr.size
      have hbz : b < wr.heap.size := by omega
      by_cases hcq : cls role q = 0
      · have hc' : (cls role p == 0) = true := by rw [hsame.c]; simp [hcq]
        have hiq : Hid (kept role q = true) := by show _ = _; simp [kept, hcq]
        obtain ⟨tb, hE⟩ := entry_at hEP hqk hiq.out
        rw [hj] at hE
        have hjl : j < EP.length := (List.getElem?_eq_some_iff.1 hE).1
        have hec : eCells role (q, tb) = [.string ⟨#[116, 101, 120, 116]⟩, .pointer (some ⟨tb, 0, none⟩), .pointer none, .pointer q.bp] := by unfold eCells; rw [if_pos hcq]
        have hgc : ∀ (m : Nat) (v : Value), (eCells role (q, tb))[m]? = some v → wr.cell? ⟨g, j * 4 + m, none⟩ = some v := fun m v hv => (hBr.cell (p := ⟨g, j * 4 + m, none⟩) hg).trans (hcg _ _ (cells_at EP j _ hE m v hv))
        rw [hec] at hgc
        have g0 : wr.cell? ⟨g, j * 4, none⟩ = some (.string ⟨#[116, 101, 120, 116]⟩) := hgc 0 _ rfl
        have g1 : wr.cell? ⟨g, j * 4 + 1, none⟩ = some (.pointer (some ⟨tb, 0, none⟩)) := hgc 1 _ rfl
        have g2 : wr.cell? ⟨g, j * 4 + 2, none⟩ = some (.pointer none) := hgc 2 _ rfl
        have g3 : wr.cell? ⟨g, j * 4 + 3, none⟩ = some (.pointer q.bp) := hgc 3 _ rfl
        have hgz : g < wr.heap.size := by omega
        obtain ⟨htb, hbox⟩ := hRP _ (List.mem_of_getElem? hE)
        have htz : tb < wr.heap.size := by have : tb < w3.heap.size := htb; omega
        unfold Box at hbox
        rw [if_pos hcq] at hbox
        have x0 : wr.cell? ⟨tb, 0, none⟩ = some (.string p.tx) := by rw [hsame.tx, hBr.cell (p := ⟨tb, 0, none⟩) htb]; exact hbox
        obtain ⟨b2, off2, ha2, hb2, hat2⟩ := hQ3 k q hqk
        injection ha2 with ha3 ha4
        subst ha3
        subst ha4
        have d6 : wr.cell? ⟨I, k * 7 + 6, none⟩ = some (.pointer q.bp) := by
          have := (hat2.below hBr hb2).2.2.2.2.2.2
          rwa [Nat.zero_add] at this
        have hIz : I < wr.heap.size := by omega
        have k1 : wr.cell? ⟨cq, 1, none⟩ = some (.slice (some ⟨g, 0, none⟩) EP.length pc) := (hBr.cell (p := ⟨cq, 1, none⟩) hcq3).trans hq1
        have hcqz : cq < wr.heap.size := by omega
        have HB : Hid (Below w3.heap.size w3 wr) := hBr
        clear hgc hec hbox htb hE hat hat2 hpk hqk hsame hj hBr hcq hcg
        go_wp2_with (go_at_call 13; refine (class_any role p _).mono ?_; rintro e w' ⟨rfl, cs, rfl⟩)
        clear c0 c2 c3 c4 c5 c6
        go_region_held3 (fun w' => (w'.cell? ⟨cq, 1, none⟩ = some (.slice (some ⟨g, 0, none⟩) EP.length pc) ∧ w'.cell? ⟨g, j * 4, none⟩ = some (.string ⟨#[116, 101, 120, 116]⟩) ∧ w'.cell? ⟨g, j * 4 + 1, none⟩ = some (.pointer (some ⟨tb, 0, none⟩)) ∧ w'.cell? ⟨g, j * 4 + 2, none⟩ = some (.pointer none) ∧ w'.cell? ⟨g, j * 4 + 3, none⟩ = some (.pointer q.bp)) ∧ w'.cell? ⟨b, off + k * 7 + 1, none⟩ = some (.string p.tx) ∧ w'.cell? ⟨I, k * 7 + 6, none⟩ = some (.pointer q.bp)) (go_keep)
          (first | (go_at_call 16; refine (textIs p.tx tb q.bp _ ?_ ?_).mono ?_; (go_keep); (simp; omega); rintro e w' ⟨rfl, cs2, rfl⟩))
        go_wp2_with fail
        go_roundg (ps.length - (k + 1))
        case measure => go_light; omega
        case rel => exact ⟨k + 1, by go_light; omega, rfl, by go_num, by rw [hj1.out, if_pos hiq.out]; go_num, ((HB.out.alloc hz _).drew.alloc (by simp; omega) _)⟩
      · have hc0' : (cls role p == 0) = false := by rw [hsame.c]; simp [hcq]
        have hcz : ¬ cls role q = 0 := hcq
        clear hcq
        by_cases hcq : cls role q = 3
        · have hc' : (cls role p == 3) = true := by rw [hsame.c]; simp [hcq]
          by_cases ht : (role.toList == [116, 111, 111, 108]) = true
          · have hiq : Hid (¬ kept role q = true) := by show ¬ _; simp [kept, hcq, isTool, sTool, ht]
            clear hcz
            clear hj hat hpk hqk hsame hcq
            go_wp2_with (go_at_call 13; refine (class_any role p _).mono ?_; rintro e w' ⟨rfl, cs, rfl⟩)
            go_roundg (ps.length - (k + 1))
            case measure => go_light; omega
            case rel => exact ⟨k + 1, by go_light; omega, rfl, by go_num, by rw [hj1.out, if_neg hiq.out]; go_num, hBr.alloc hz _⟩
          · have ht' : (role.toList == [116, 111, 111, 108]) = false := by simpa using ht
            have hiq : Hid (kept role q = true) := by show _ = _; simp [kept, hcq, isTool, sTool, ht']
            clear hcz ht
            obtain ⟨tb, hE⟩ := entry_at hEP hqk hiq.out
            rw [hj] at hE
            have hjl : j < EP.length := (List.getElem?_eq_some_iff.1 hE).1
            have hec : eCells role (q, tb) = [.string ⟨#[105, 109, 97, 103, 101, 95, 117, 114, 108]⟩, .pointer none, .pointer (some ⟨tb, 0, none⟩), .pointer q.bp] := by unfold eCells; rw [if_neg (by show ¬ cls role q = 0; rw [hcq]; decide)]
            have hgc : ∀ (m : Nat) (v : Value), (eCells role (q, tb))[m]? = some v → wr.cell? ⟨g, j * 4 + m, none⟩ = some v := fun m v hv => (hBr.cell (p := ⟨g, j * 4 + m, none⟩) hg).trans (hcg _ _ (cells_at EP j _ hE m v hv))
            rw [hec] at hgc
            have g0 : wr.cell? ⟨g, j * 4, none⟩ = some (.string ⟨#[105, 109, 97, 103, 101, 95, 117, 114, 108]⟩) := hgc 0 _ rfl
            have g1 : wr.cell? ⟨g, j * 4 + 1, none⟩ = some (.pointer none) := hgc 1 _ rfl
            have g2 : wr.cell? ⟨g, j * 4 + 2, none⟩ = some (.pointer (some ⟨tb, 0, none⟩)) := hgc 2 _ rfl
            have g3 : wr.cell? ⟨g, j * 4 + 3, none⟩ = some (.pointer q.bp) := hgc 3 _ rfl
            have hgz : g < wr.heap.size := by omega
            obtain ⟨htb, hbox⟩ := hRP _ (List.mem_of_getElem? hE)
            have htz : tb < wr.heap.size := by have : tb < w3.heap.size := htb; omega
            unfold Box at hbox
            rw [if_neg (by show ¬ cls role q = 0; rw [hcq]; decide)] at hbox
            have x0 : wr.cell? ⟨tb, 0, none⟩ = some (.string p.iu) := by rw [hsame.iu, hBr.cell (p := ⟨tb, 0, none⟩) htb]; exact hbox.1
            have x1 : wr.cell? ⟨tb, 1, none⟩ = some (.string p.dt) := by rw [hsame.dt, hBr.cell (p := ⟨tb, 1, none⟩) htb]; exact hbox.2
            obtain ⟨b2, off2, ha2, hb2, hat2⟩ := hQ3 k q hqk
            injection ha2 with ha3 ha4
            subst ha3
            subst ha4
            have d6 : wr.cell? ⟨I, k * 7 + 6, none⟩ = some (.pointer q.bp) := by
              have := (hat2.below hBr hb2).2.2.2.2.2.2
              rwa [Nat.zero_add] at this
            have hIz : I < wr.heap.size := by omega
            have k1 : wr.cell? ⟨cq, 1, none⟩ = some (.slice (some ⟨g, 0, none⟩) EP.length pc) := (hBr.cell (p := ⟨cq, 1, none⟩) hcq3).trans hq1
            have hcqz : cq < wr.heap.size := by omega
            have HB : Hid (Below w3.heap.size w3 wr) := hBr
            clear hgc hec hbox htb hE hat hat2 hpk hqk hsame hj hBr hcq hcg
            go_wp2_with (go_at_call 13; refine (class_any role p _).mono ?_; rintro e w' ⟨rfl, cs, rfl⟩)
            clear c0 c1 c2 c4 c6
            go_region_held3 (fun w' => (w'.cell? ⟨cq, 1, none⟩ = some (.slice (some ⟨g, 0, none⟩) EP.length pc) ∧ w'.cell? ⟨g, j * 4, none⟩ = some (.string ⟨#[105, 109, 97, 103, 101, 95, 117, 114, 108]⟩) ∧ w'.cell? ⟨g, j * 4 + 1, none⟩ = some (.pointer none) ∧ w'.cell? ⟨g, j * 4 + 2, none⟩ = some (.pointer (some ⟨tb, 0, none⟩)) ∧ w'.cell? ⟨g, j * 4 + 3, none⟩ = some (.pointer q.bp)) ∧ w'.cell? ⟨b, off + k * 7 + 3, none⟩ = some (.string p.iu) ∧ w'.cell? ⟨b, off + k * 7 + 5, none⟩ = some (.string p.dt) ∧ w'.cell? ⟨I, k * 7 + 6, none⟩ = some (.pointer q.bp)) (go_keep)
              (first | (go_at_call 14; refine (imageIs p.iu p.dt tb q.bp _ ?_ ?_ ?_).mono ?_; (go_keep); (go_keep); (simp; omega); rintro e w' ⟨rfl, cs2, rfl⟩))
            go_wp2_with fail
            go_roundg (ps.length - (k + 1))
            case measure => go_light; omega
            case rel => exact ⟨k + 1, by go_light; omega, rfl, by go_num, by rw [hj1.out, if_pos hiq.out]; go_num, ((HB.out.alloc hz _).drew.alloc (by simp; omega) _)⟩
        · have hc' : (cls role p == 3) = false := by rw [hsame.c]; simp [hcq]
          have hiq : Hid (¬ kept role q = true) := by show ¬ _; simp [kept, hcq, hcz]
          clear hcz
          clear hj hat hpk hqk hsame hcq
          go_wp2_with (go_at_call 13; refine (class_any role p _).mono ?_; rintro e w' ⟨rfl, cs, rfl⟩)
          go_roundg (ps.length - (k + 1))
          case measure => go_light; omega
          case rel => exact ⟨k + 1, by go_light; omega, rfl, by go_num, by rw [hj1.out, if_neg hiq.out]; go_num, hBr.alloc hz _⟩
    · go_wp2_with fail
      first | exact hBr | (apply hexit; exact hBr)
end Go.Proofs.Qxb6613844aFmt
