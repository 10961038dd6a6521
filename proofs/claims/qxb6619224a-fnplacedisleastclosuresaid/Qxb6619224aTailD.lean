/- The law's walk: the call of ZZHistoryPlaced and the comparison. -/
import Derived.Test.Qxb6619224aZz
import Derived.Test.Qxb6619224aCopy
namespace Go.Proofs.Qxb6619224a
open Go.RowKit Pl

set_option maxHeartbeats 4000000 in
set_option maxRecDepth 100000 in
theorem tailD (n m : Nat) (P : Nat → Bool) (K V Wr Z0 Z1 Z5 : Nat → Int) (ok : Hid (Ok n m K V Wr)) (b0 b1 b2 b3 b4 b5 b6 : Option Addr) (d0 d1 d2 d3 d4 d5 d6 g0 g1 g2 g3 g4 g5 g6 gI : Nat) (fl : Bool) (sl : List Bool) (w0 W : World) (hn : n ≤ 16384)
    (D0 : Hid (Dst W b0 g0 n (fun j => .int .i64 (Z0 j)))) (D1 : Hid (Dst W b1 g1 n (fun j => .int .i64 (Z1 j)))) (D2 : Hid (Dst W b2 g2 n (fun j => .bool (P j)))) (D3 : Hid (Dst W b3 g3 n (fun j => .int .u8 (K j)))) (D4 : Hid (Dst W b4 g4 n (fun j => .int .i64 (V j)))) (D5 : Hid (Dst W b5 g5 n (fun j => .int .i64 (Z5 j)))) (D6 : Hid (Dst W b6 g6 m (fun j => .int .i64 (Wr j))))
    (hb0 : Hid (Below w0.heap.size w0 W)) (hI : Hid (W.heap[gI]? = some (.cells (bools sl) 4 (0, 0)))) (hlen : Hid (sl.length = n))
    (hfl : Hid ((fl = true → Bad n P K V Wr) ∧ (fl = false → (∀ k, k < n → (sl.getD k false = true ↔ Cl n P K V Wr k)) ∧ ¬ Bad n P K V Wr)))
    (sv7 sv8 sv9 sv10 sv11 sv12 sv13 sv14 sv15 sv16 sv17 sv18 sv19 sv20 sv21 sv23 sv24 sv25 sv27 sv28 sv30 sv31 sv32 sv33 sv34 sv35 sv36 sv37 sv38 sv39 sv40 sv41 sv42 sv43 sv44 sv45 sv46 sv47 sv48 sv49 sv50 sv51 sv52 sv53 sv54 sv55 sv56 sv57 sv58 sv59 sv60 sv61 sv62 sv63 sv64 sv65 sv66 sv67 sv68 sv69 sv70 sv71 sv72 sv73 sv74 sv75 sv76 sv77 sv78 sv79 sv80 sv81 sv82 sv83 sv84 sv85 sv86 sv87 sv88 sv89 sv90 sv91 sv92 sv93 sv94 sv95 sv96 sv97 sv98 sv99 sv100 sv101 sv102 sv103 sv104 sv105 sv106 sv107 sv108 sv109 sv110 sv111 sv112 sv113 sv114 sv115 sv116 sv117 sv118 sv119 sv120 sv121 sv122 sv123 sv124 sv125 sv126 sv127 sv128 sv129 sv130 sv131 sv132 sv133 sv134 sv135 sv136 sv137 sv138 sv139 sv140 sv141 sv142 sv143 sv144 sv145 sv146 sv147 sv148 sv149 sv150 sv151 sv152 sv153 sv154 sv155 sv156 sv157 sv158 sv159 sv160 sv161 sv162 sv163 sv164 sv165 sv166 sv167 sv168 sv169 sv170 sv171 sv172 sv173 sv174 sv175 sv176 sv177 sv178 sv179 sv180 sv181 sv182 sv183 sv184 sv185 sv186 sv187 sv188 sv189 sv190 sv191 sv192 sv193 sv194 sv195 sv196 sv197 sv198 sv199 sv200 sv201 sv202 sv203 sv204 sv205 sv206 sv207 sv208 sv209 sv210 sv211 sv212 sv213 sv214 sv215 sv216 sv217 sv218 sv219 sv220 sv221 sv222 sv223 sv224 sv225 sv226 sv227 sv228 sv229 sv230 sv231 sv232 sv233 sv234 sv235 sv236 sv237 sv238 sv239 sv240 sv241 sv242 sv243 sv244 sv245 sv246 sv247 sv248 sv249 sv250 sv251 sv252 sv253 sv254 sv255 sv256 sv257 sv258 sv259 sv260 sv261 sv262 sv263 sv264 sv265 sv266 sv267 sv268 sv269 sv270 sv271 sv272 sv273 sv274 sv275 sv276 sv277 sv278 sv279 sv280 sv281 sv282 sv283 sv284 sv285 sv286 sv287 sv288 sv289 sv290 sv291 sv292 sv293 sv294 sv295 sv296 sv297 sv298 sv299 sv300 sv301 sv302 sv303 sv304 sv305 sv306 sv307 sv308 sv309 sv310 sv311 sv312 sv313 sv314 sv315 sv316 sv317 sv318 sv319 sv320 sv321 sv322 sv323 sv324 sv325 sv326 sv327 sv328 sv329 sv330 sv331 sv332 sv333 sv334 sv335 sv336 sv337 sv338 sv339 sv340 sv341 sv342 sv343 sv344 sv345 sv346 sv347 sv348 sv349 sv350 sv351 : Value) :
    Code.wp Try.prog (tailAt 81 (Try.f3.body.getD .skip)) (bodyPost Try.prog Try.f3 fun e w' => e = .returned (.bool true) ∧ Below w0.heap.size w0 w') ⟨#[.slice b0 n d0, .slice b1 n d1, .slice b2 n d2, .slice b3 n d3, .slice b4 n d4, .slice b5 n d5, .slice b6 m d6, sv7, sv8, sv9, sv10, sv11, sv12, sv13, sv14, sv15, sv16, sv17, sv18, sv19, sv20, sv21, .int .i64 (n : Int), sv23, sv24, sv25, .slice (some ⟨gI, 0, none⟩) n n, sv27, sv28, .bool fl, sv30, sv31, sv32, sv33, sv34, sv35, sv36, sv37, sv38, sv39, sv40, sv41, sv42, sv43, sv44, sv45, sv46, sv47, sv48, sv49, sv50, sv51, sv52, sv53, sv54, sv55, sv56, sv57, sv58, sv59, sv60, sv61, sv62, sv63, sv64, sv65, sv66, sv67, sv68, sv69, sv70, sv71, sv72, sv73, sv74, sv75, sv76, sv77, sv78, sv79, sv80, sv81, sv82, sv83, sv84, sv85, sv86, sv87, sv88, sv89, sv90, sv91, sv92, sv93, sv94, sv95, sv96, sv97, sv98, sv99, sv100, sv101, sv102, sv103, sv104, sv105, sv106, sv107, sv108, sv109, sv110, sv111, sv112, sv113, sv114, sv115, sv116, sv117, sv118, sv119, sv120, sv121, sv122, sv123, sv124, sv125, sv126, sv127, sv128, sv129, sv130, sv131, sv132, sv133, sv134, sv135, sv136, sv137, sv138, sv139, sv140, sv141, sv142, sv143, sv144, sv145, sv146, sv147, sv148, sv149, sv150, sv151, sv152, sv153, sv154, sv155, sv156, sv157, sv158, sv159, sv160, sv161, sv162, sv163, sv164, sv165, sv166, sv167, sv168, sv169, sv170, sv171, sv172, sv173, sv174, sv175, sv176, sv177, sv178, sv179, sv180, sv181, sv182, sv183, sv184, sv185, sv186, sv187, sv188, sv189, sv190, sv191, sv192, sv193, sv194, sv195, sv196, sv197, sv198, sv199, sv200, sv201, sv202, sv203, sv204, sv205, sv206, sv207, sv208, sv209, sv210, sv211, sv212, sv213, sv214, sv215, sv216, sv217, sv218, sv219, sv220, sv221, sv222, sv223, sv224, sv225, sv226, sv227, sv228, sv229, sv230, sv231, sv232, sv233, sv234, sv235, sv236, sv237, sv238, sv239, sv240, sv241, sv242, sv243, sv244, sv245, sv246, sv247, sv248, sv249, sv250, sv251, sv252, sv253, sv254, sv255, sv256, sv257, sv258, sv259, sv260, sv261, sv262, sv263, sv264, sv265, sv266, sv267, sv268, sv269, sv270, sv271, sv272, sv273, sv274, sv275, sv276, sv277, sv278, sv279, sv280, sv281, sv282, sv283, sv284, sv285, sv286, sv287, sv288, sv289, sv290, sv291, sv292, sv293, sv294, sv295, sv296, sv297, sv298, sv299, sv300, sv301, sv302, sv303, sv304, sv305, sv306, sv307, sv308, sv309, sv310, sv311, sv312, sv313, sv314, sv315, sv316, sv317, sv318, sv319, sv320, sv321, sv322, sv323, sv324, sv325, sv326, sv327, sv328, sv329, sv330, sv331, sv332, sv333, sv334, sv335, sv336, sv337, sv338, sv339, sv340, sv341, sv342, sv343, sv344, sv345, sv346, sv347, sv348, sv349, sv350, sv351], []⟩ W := by
  have hz := zz_any n m P K V Wr ok b0 b1 b2 b3 b4 b5 b6 d0 d1 d2 d3 d4 d5 d6 g0 g1 g2 g3 g4 g5 g6 W hn D0.out.at_ D1.out.at_ D2.out.at_ D3.out.at_ D4.out.at_ D5.out.at_ D6.out.at_
    (fun j hj => ⟨_, D0.out.cells j hj⟩) (fun j hj => ⟨_, D1.out.cells j hj⟩) D2.out.cells D3.out.cells D4.out.cells (fun j hj => ⟨_, D5.out.cells j hj⟩) D6.out.cells
  have HZ : Hid _ := hz
  clear hz D0 D1 D2 D3 D4 D5 D6
  conv => arg 2; whnf
  go_wp2_with fail
  refine Calls.mono HZ.out ?_
  rintro e w1 ⟨hb1, ⟨gq, sq, rfl, hO, hR⟩ | ⟨rfl, hbad⟩⟩
  · obtain ⟨f1, f2⟩ := hO.fin
    have ef : fl = false := by
      cases fl
      · rfl
      · exact absurd (hfl.out.1 rfl) f2
    subst ef
    have hf := hfl.out.2 rfl
    have same : ∀ k, k < n → sq.getD k false = sl.getD k false := by
      intro k hk
      have e1 := f1 k hk
      have e2 := hf.1 k hk
      rw [Bool.eq_iff_iff, e1, e2]
    have h1 := fun w => Lib.run_eql_slice_nil (P := Try.prog) w 23 4 (some ⟨gq, 0, none⟩) n n 0 0 Try.underlying23
    have SAME : Hid _ := same
    have HB : Hid (Below w0.heap.size w0 w1) := hb0.out.trans (hb1.mono hb0.out.size)
    have rq : ∀ k, k < n → w1.cell? ⟨gq, k, none⟩ = some (.bool (sl.getD k false)) := fun k hk => by
      rw [cell_of_row w1 gq k _ _ _ hR, bools_at sq k (by rw [hO.len]; exact hk), same k hk]
    have ri : ∀ k, k < n → w1.cell? ⟨gI, k, none⟩ = some (.bool (sl.getD k false)) := fun k hk => by
      have hlt : gI < W.heap.size := by
        rcases Nat.lt_or_ge gI W.heap.size with h | h
        · exact h
        · have := hI.out; rw [Array.getElem?_eq_none h] at this; cases this
      rw [cell_of_row w1 gI k _ _ _ ((hb1.block gI hlt).trans hI.out)]
      exact bools_at sl k (by rw [hlen.out]; exact hk)
    have RQ : Hid _ := rq
    have RI : Hid _ := ri
    clear rq ri same hf f1 f2 hO hR hb1 HZ hfl hI hlen hb0
    go_wp2_with fail
    go_loopg [35] n (fun g v wr => ∃ k : Nat, v = .int .i64 (k : Int) ∧ k ≤ n ∧ Hid (g = n - k) ∧ ∃ q, wr = w1.drewN q)
    case atStart => exact ⟨0, rfl, Nat.zero_le _, rfl, 0, rfl⟩
    case round =>
      obtain ⟨k, rfl, hk, hg, q, rfl⟩ := hrel
      by_cases hlt : k < n
      · have hlt1 : (k : Int) < (n : Int) := by omega
        have q1 := RQ.out k hlt
        have q2 := RI.out k hlt
        generalize sl.getD k false = bb at q1 q2
        go_wp2_with fail
        go_quiet (fail)
        go_wp2_with fail
        go_roundg (n - (k + 1))
        case rel => exact ⟨k + 1, by go_num, by omega, rfl, _, rfl⟩
        case measure => rw [hg.out]; omega
      · go_wp2_with fail
        go_ret
        exact ⟨rfl, HB.out.trans ⟨rfl, rfl, rfl, Nat.le_refl _, fun _ _ => rfl⟩⟩
  · have ef : fl = true := by
      cases fl
      · exact absurd hbad (hfl.out.2 rfl).2
      · rfl
    subst ef
    have h1 := fun w => Lib.run_eql_slice_nil (P := Try.prog) w 23 4 none 0 0 0 0 Try.underlying23
    have HB : Hid (Below w0.heap.size w0 w1) := hb0.out.trans (hb1.mono hb0.out.size)
    clear hbad hb1 HZ hfl hI hlen hb0
    go_wp2_with fail
    go_ret
    exact ⟨rfl, HB.out⟩
end Go.Proofs.Qxb6619224a
