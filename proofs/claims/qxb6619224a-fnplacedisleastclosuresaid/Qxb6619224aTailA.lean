/- The law's walk: the tests ahead of the closure. -/
import Derived.Test.Qxb6619224aTailB
namespace Go.Proofs.Qxb6619224a
open Go.RowKit Pl

set_option maxHeartbeats 4000000 in
set_option maxRecDepth 100000 in
theorem tailA2 (n m : Nat) (P : Nat → Bool) (K V Wr Z0 Z1 Z5 : Nat → Int) (b0 b1 b2 b3 b4 b5 b6 : Option Addr) (d0 d1 d2 d3 d4 d5 d6 g0 g1 g2 g3 g4 g5 g6 : Nat) (w0 W : World) (hn : n ≤ 16384) (hm : m ≤ 16384)
    (D0 : Hid (Dst W b0 g0 n (fun j => .int .i64 (Z0 j)))) (D1 : Hid (Dst W b1 g1 n (fun j => .int .i64 (Z1 j)))) (D2 : Hid (Dst W b2 g2 n (fun j => .bool (P j)))) (D3 : Hid (Dst W b3 g3 n (fun j => .int .u8 (K j)))) (D4 : Hid (Dst W b4 g4 n (fun j => .int .i64 (V j)))) (D5 : Hid (Dst W b5 g5 n (fun j => .int .i64 (Z5 j)))) (D6 : Hid (Dst W b6 g6 m (fun j => .int .i64 (Wr j))))
    (hb0 : Hid (Below w0.heap.size w0 W))
    (sv7 sv8 sv9 sv10 sv11 sv12 sv13 sv14 sv15 sv16 sv17 sv18 sv19 sv20 sv21 sv22 sv23 sv24 sv25 sv26 sv27 sv28 sv29 sv30 sv31 sv32 sv33 sv34 sv35 sv36 sv37 sv38 sv39 sv40 sv41 sv42 sv43 sv44 sv45 sv46 sv47 sv48 sv49 sv50 sv51 sv52 sv53 sv54 sv55 sv56 sv57 sv58 sv59 sv60 sv61 sv62 sv63 sv64 sv65 sv66 sv67 sv68 sv69 sv70 sv71 sv72 sv73 sv74 sv75 sv76 sv77 sv78 sv79 sv80 sv81 sv82 sv83 sv84 sv85 sv86 sv87 sv88 sv89 sv90 sv91 sv92 sv93 sv94 sv95 sv96 sv97 sv98 sv99 sv100 sv101 sv102 sv103 sv104 sv105 sv106 sv107 sv108 sv109 sv110 sv111 sv112 sv113 sv114 sv115 sv116 sv117 sv118 sv119 sv120 sv121 sv122 sv123 sv124 sv125 sv126 sv127 sv128 sv129 sv130 sv131 sv132 sv133 sv134 sv135 sv136 sv137 sv138 sv139 sv140 sv141 sv142 sv143 sv144 sv145 sv146 sv147 sv148 sv149 sv150 sv151 sv152 sv153 sv154 sv155 sv156 sv157 sv158 sv159 sv160 sv161 sv162 sv163 sv164 sv165 sv166 sv167 sv168 sv169 sv170 sv171 sv172 sv173 sv174 sv175 sv176 sv177 sv178 sv179 sv180 sv181 sv182 sv183 sv184 sv185 sv186 sv187 sv188 sv189 sv190 sv191 sv192 sv193 sv194 sv195 sv196 sv197 sv198 sv199 sv200 sv201 sv202 sv203 sv204 sv205 sv206 sv207 sv208 sv209 sv210 sv211 sv212 sv213 sv214 sv215 sv216 sv217 sv218 sv219 sv220 sv221 sv222 sv223 sv224 sv225 sv226 sv227 sv228 sv229 sv230 sv231 sv232 sv233 sv234 sv235 sv236 sv237 sv238 sv239 sv240 sv241 sv242 sv243 sv244 sv245 sv246 sv247 sv248 sv249 sv250 sv251 sv252 sv253 sv254 sv255 sv256 sv257 sv258 sv259 sv260 sv261 sv262 sv263 sv264 sv265 sv266 sv267 sv268 sv269 sv270 sv271 sv272 sv273 sv274 sv275 sv276 sv277 sv278 sv279 sv280 sv281 sv282 sv283 sv284 sv285 sv286 sv287 sv288 sv289 sv290 sv291 sv292 sv293 sv294 sv295 sv296 sv297 sv298 sv299 sv300 sv301 sv302 sv303 sv304 sv305 sv306 sv307 sv308 sv309 sv310 sv311 sv312 sv313 sv314 sv315 sv316 sv317 sv318 sv319 sv320 sv321 sv322 sv323 sv324 sv325 sv326 sv327 sv328 sv329 sv330 sv331 sv332 sv333 sv334 sv335 sv336 sv337 sv338 sv339 sv340 sv341 sv342 sv343 sv344 sv345 sv346 sv347 sv348 sv349 sv350 sv351 : Value) :
    Code.wp Try.prog (tailAt 45 (Try.f3.body.getD .skip)) (bodyPost Try.prog Try.f3 fun e w' => e = .returned (.bool true) ∧ Below w0.heap.size w0 w') ⟨#[.slice b0 n d0, .slice b1 n d1, .slice b2 n d2, .slice b3 n d3, .slice b4 n d4, .slice b5 n d5, .slice b6 m d6, sv7, sv8, sv9, sv10, sv11, sv12, sv13, sv14, sv15, sv16, sv17, sv18, sv19, sv20, sv21, sv22, sv23, sv24, sv25, sv26, sv27, sv28, sv29, sv30, sv31, sv32, sv33, sv34, sv35, sv36, sv37, sv38, sv39, sv40, sv41, sv42, sv43, sv44, sv45, sv46, sv47, sv48, sv49, sv50, sv51, sv52, sv53, sv54, sv55, sv56, sv57, sv58, sv59, sv60, sv61, sv62, sv63, sv64, sv65, sv66, sv67, sv68, sv69, sv70, sv71, sv72, sv73, sv74, sv75, sv76, sv77, sv78, sv79, sv80, sv81, sv82, sv83, sv84, sv85, sv86, sv87, sv88, sv89, sv90, sv91, sv92, sv93, sv94, sv95, sv96, sv97, sv98, sv99, sv100, sv101, sv102, sv103, sv104, sv105, sv106, sv107, sv108, sv109, sv110, sv111, sv112, sv113, sv114, sv115, sv116, sv117, sv118, sv119, sv120, sv121, sv122, sv123, sv124, sv125, sv126, sv127, sv128, sv129, sv130, sv131, sv132, sv133, sv134, sv135, sv136, sv137, sv138, sv139, sv140, sv141, sv142, sv143, sv144, sv145, sv146, sv147, sv148, sv149, sv150, sv151, sv152, sv153, sv154, sv155, sv156, sv157, sv158, sv159, sv160, sv161, sv162, sv163, sv164, sv165, sv166, sv167, sv168, sv169, sv170, sv171, sv172, sv173, sv174, sv175, sv176, sv177, sv178, sv179, sv180, sv181, sv182, sv183, sv184, sv185, sv186, sv187, sv188, sv189, sv190, sv191, sv192, sv193, sv194, sv195, sv196, sv197, sv198, sv199, sv200, sv201, sv202, sv203, sv204, sv205, sv206, sv207, sv208, sv209, sv210, sv211, sv212, sv213, sv214, sv215, sv216, sv217, sv218, sv219, sv220, sv221, sv222, sv223, sv224, sv225, sv226, sv227, sv228, sv229, sv230, sv231, sv232, sv233, sv234, sv235, sv236, sv237, sv238, sv239, sv240, sv241, sv242, sv243, sv244, sv245, sv246, sv247, sv248, sv249, sv250, sv251, sv252, sv253, sv254, sv255, sv256, sv257, sv258, sv259, sv260, sv261, sv262, sv263, sv264, sv265, sv266, sv267, sv268, sv269, sv270, sv271, sv272, sv273, sv274, sv275, sv276, sv277, sv278, sv279, sv280, sv281, sv282, sv283, sv284, sv285, sv286, sv287, sv288, sv289, sv290, sv291, sv292, sv293, sv294, sv295, sv296, sv297, sv298, sv299, sv300, sv301, sv302, sv303, sv304, sv305, sv306, sv307, sv308, sv309, sv310, sv311, sv312, sv313, sv314, sv315, sv316, sv317, sv318, sv319, sv320, sv321, sv322, sv323, sv324, sv325, sv326, sv327, sv328, sv329, sv330, sv331, sv332, sv333, sv334, sv335, sv336, sv337, sv338, sv339, sv340, sv341, sv342, sv343, sv344, sv345, sv346, sv347, sv348, sv349, sv350, sv351], []⟩ W := by
  have hdn : ((n : Int) != (n : Int)) = false := by simp
  conv => arg 2; whnf
  go_upto_block 0 with fail
  go_cut [24] from 161 to 178 (fun v wd => Hid (∀ j, j < m → -1 ≤ Wr j ∧ Wr j < (n : Int)) ∧ wd = W)
  case first =>
    go_wp2_with fail
    go_loopg [24] m (fun g v wr => ∃ k : Nat, v = .int .i64 (k : Int) ∧ k ≤ m ∧ Hid (g = m - k) ∧ Hid (∀ j, j < k → -1 ≤ Wr j ∧ Wr j < (n : Int)) ∧ wr = W)
    case atStart => exact ⟨0, rfl, Nat.zero_le _, rfl, fun j hj => by omega, rfl⟩
    case round =>
      obtain ⟨k, rfl, hk, hg, hA, rfl⟩ := hrel
      by_cases hlt : k < m
      · have hlt1 : (k : Int) < (m : Int) := by omega
        obtain rfl := D6.out.at_ (by omega)
        have q6 := D6.out.cells k hlt
        by_cases w1 : Wr k < -1
        · go_wp2_with fail
          go_ret
          exact ⟨rfl, hb0.out⟩
        · by_cases w2 : (n : Int) ≤ Wr k
          · go_wp2_with fail
            go_ret
            exact ⟨rfl, hb0.out⟩
          · have HN : Hid (∀ j, j < k + 1 → -1 ≤ Wr j ∧ Wr j < (n : Int)) := fun j hj => by
              by_cases e : j = k
              · subst e; omega
              · exact hA.out j (by omega)
            go_wp2_with fail
            go_roundg (m - (k + 1))
            case rel => exact ⟨k + 1, by go_num, by omega, rfl, HN, rfl⟩
            case measure => rw [hg.out]; omega
      · obtain rfl : k = m := by omega
        go_wp2_with fail
        go_meet
        case rel => exact ⟨hA, rfl⟩
  case rest =>
    obtain ⟨hA, rfl⟩ := hcut
    go_upto_block 2 with fail
    go_cut [25] from 179 to 223 (fun v wd => Hid (∀ j, j < n → (K j = 1 → -1 ≤ V j ∧ V j < (m : Int)) ∧ (K j = 2 → 0 ≤ V j ∧ V j < (m : Int))) ∧ wd = wc)
    case first =>
      go_wp2_with fail
      go_loopg [25] n (fun g v wr => ∃ k : Nat, v = .int .i64 (k : Int) ∧ k ≤ n ∧ Hid (g = n - k) ∧ Hid (∀ j, j < k → (K j = 1 → -1 ≤ V j ∧ V j < (m : Int)) ∧ (K j = 2 → 0 ≤ V j ∧ V j < (m : Int))) ∧ wr = wc)
      case atStart => exact ⟨0, rfl, Nat.zero_le _, rfl, fun j hj => by omega, rfl⟩
      case round =>
        obtain ⟨k, rfl, hk, hg, hC, rfl⟩ := hrel
        by_cases hlt : k < n
        · have hlt1 : (k : Int) < (n : Int) := by omega
          obtain rfl := D3.out.at_ (by omega)
          obtain rfl := D4.out.at_ (by omega)
          have q3 := D3.out.cells k hlt
          have q4 := D4.out.cells k hlt
          by_cases k1 : K k = 1
          · have kb1 : (K k == 1) = true := by rw [k1]; rfl
            have kb2 : (K k == 2) = false := by rw [k1]; rfl
            have K1 : Hid _ := k1
            clear k1
            by_cases w1 : V k < -1
            · go_wp2_with fail
              go_ret
              exact ⟨rfl, hb0.out⟩
            · by_cases w2 : (m : Int) ≤ V k
              · go_wp2_with fail
                go_ret
                exact ⟨rfl, hb0.out⟩
              · have HN : Hid (∀ j, j < k + 1 → (K j = 1 → -1 ≤ V j ∧ V j < (m : Int)) ∧ (K j = 2 → 0 ≤ V j ∧ V j < (m : Int))) := fun j hj => by
                  by_cases e : j = k
                  · subst e; exact ⟨fun _ => by omega, fun h => by have := K1.out; omega⟩
                  · exact hC.out j (by omega)
                go_wp2_with fail
                go_roundg (n - (k + 1))
                case rel => exact ⟨k + 1, by go_num, by omega, rfl, HN, rfl⟩
                case measure => rw [hg.out]; omega
          · have kb1 : (K k == 1) = false := by rw [beq_eq_false_iff_ne]; exact k1
            have K1 : Hid _ := k1
            clear k1
            by_cases k2 : K k = 2
            · have kb2 : (K k == 2) = true := by rw [k2]; rfl
              clear k2
              by_cases w1 : V k < 0
              · go_wp2_with fail
                go_ret
                exact ⟨rfl, hb0.out⟩
              · by_cases w2 : (m : Int) ≤ V k
                · go_wp2_with fail
                  go_ret
                  exact ⟨rfl, hb0.out⟩
                · have HN : Hid (∀ j, j < k + 1 → (K j = 1 → -1 ≤ V j ∧ V j < (m : Int)) ∧ (K j = 2 → 0 ≤ V j ∧ V j < (m : Int))) := fun j hj => by
                    by_cases e : j = k
                    · subst e; exact ⟨fun h => absurd h K1.out, fun h => by omega⟩
                    · exact hC.out j (by omega)
                  go_wp2_with fail
                  go_roundg (n - (k + 1))
                  case rel => exact ⟨k + 1, by go_num, by omega, rfl, HN, rfl⟩
                  case measure => rw [hg.out]; omega
            · have kb2 : (K k == 2) = false := by rw [beq_eq_false_iff_ne]; exact k2
              have HN : Hid (∀ j, j < k + 1 → (K j = 1 → -1 ≤ V j ∧ V j < (m : Int)) ∧ (K j = 2 → 0 ≤ V j ∧ V j < (m : Int))) := fun j hj => by
                by_cases e : j = k
                · subst e; exact ⟨fun h => absurd h K1.out, fun h => absurd h k2⟩
                · exact hC.out j (by omega)
              clear k2
              go_wp2_with fail
              go_roundg (n - (k + 1))
              case rel => exact ⟨k + 1, by go_num, by omega, rfl, HN, rfl⟩
              case measure => rw [hg.out]; omega
        · obtain rfl : k = n := by omega
          go_wp2_with fail
          go_meet
          case rel => exact ⟨hC, rfl⟩
    case rest =>
      obtain ⟨hC, rfl⟩ := hcut
      rename_i hk
      exact hk _ _ (tailB n m P K V Wr Z0 Z1 Z5 { wr := hA.out, one := fun k hk h => (hC.out k hk).1 h, two := fun k hk h => (hC.out k hk).2 h } b0 b1 b2 b3 b4 b5 b6 d0 d1 d2 d3 d4 d5 d6 g0 g1 g2 g3 g4 g5 g6 w0 _ hn D0 D1 D2 D3 D4 D5 D6 hb0 _ _ _ _ _ _ _ _ _ _ _ _ _ _ _ _ _ _ _ _ _ _ _ _ _ _ _ _ _ _ _ _ _ _ _ _ _ _ _ _ _ _ _ _ _ _ _ _ _ _ _ _ _ _ _ _ _ _ _ _ _ _ _ _ _ _ _ _ _ _ _ _ _ _ _ _ _ _ _ _ _ _ _ _ _ _ _ _ _ _ _ _ _ _ _ _ _ _ _ _ _ _ _ _ _ _ _ _ _ _ _ _ _ _ _ _ _ _ _ _ _ _ _ _ _ _ _ _ _ _ _ _ _ _ _ _ _ _ _ _ _ _ _ _ _ _ _ _ _ _ _ _ _ _ _ _ _ _ _ _ _ _ _ _ _ _ _ _ _ _ _ _ _ _ _ _ _ _ _ _ _ _ _ _ _ _ _ _ _ _ _ _ _ _ _ _ _ _ _ _ _ _ _ _ _ _ _ _ _ _ _ _ _ _ _ _ _ _ _ _ _ _ _ _ _ _ _ _ _ _ _ _ _ _ _ _ _ _ _ _ _ _ _ _ _ _ _ _ _ _ _ _ _ _ _ _ _ _ _ _ _ _ _ _ _ _ _ _ _ _ _ _ _ _ _ _ _ _ _ _ _ _ _ _ _ _ _ _ _ _ _ _ _ _ _ _ _ _ _ _ _ _ _ _ _ _ _ _ _ _ _ _ _ _ _ _ _ _ _ _ _ _ _ _ _ _ _ _ _ _ _ _ _ _ _ _ _ _ _ _ _ _ _ _)


set_option maxHeartbeats 4000000 in
set_option maxRecDepth 100000 in
theorem tailA (n0 n1 n2 n3 n4 n5 n6 : Nat) (P : Nat → Bool) (K V Wr Z0 Z1 Z5 : Nat → Int) (b0 b1 b2 b3 b4 b5 b6 : Option Addr) (d0 d1 d2 d3 d4 d5 d6 g0 g1 g2 g3 g4 g5 g6 : Nat) (w0 W : World) (hn : n3 ≤ 16384) (hm : n6 ≤ 16384)
    (D0 : Hid (Dst W b0 g0 n0 (fun j => .int .i64 (Z0 j)))) (D1 : Hid (Dst W b1 g1 n1 (fun j => .int .i64 (Z1 j)))) (D2 : Hid (Dst W b2 g2 n2 (fun j => .bool (P j)))) (D3 : Hid (Dst W b3 g3 n3 (fun j => .int .u8 (K j)))) (D4 : Hid (Dst W b4 g4 n4 (fun j => .int .i64 (V j)))) (D5 : Hid (Dst W b5 g5 n5 (fun j => .int .i64 (Z5 j)))) (D6 : Hid (Dst W b6 g6 n6 (fun j => .int .i64 (Wr j))))
    (hb0 : Hid (Below w0.heap.size w0 W))
    (sv7 sv8 sv9 sv10 sv11 sv12 sv13 sv14 sv15 sv16 sv17 sv18 sv19 sv20 sv21 sv22 sv23 sv24 sv25 sv26 sv27 sv28 sv29 sv30 sv31 sv32 sv33 sv34 sv35 sv36 sv37 sv38 sv39 sv40 sv41 sv42 sv43 sv44 sv45 sv46 sv47 sv48 sv49 sv50 sv51 sv52 sv53 sv54 sv55 sv56 sv57 sv58 sv59 sv60 sv61 sv62 sv63 sv64 sv65 sv66 sv67 sv68 sv69 sv70 sv71 sv72 sv73 sv74 sv75 sv76 sv77 sv78 sv79 sv80 sv81 sv82 sv83 sv84 sv85 sv86 sv87 sv88 sv89 sv90 sv91 sv92 sv93 sv94 sv95 sv96 sv97 sv98 sv99 sv100 sv101 sv102 sv103 sv104 sv105 sv106 sv107 sv108 sv109 sv110 sv111 sv112 sv113 sv114 sv115 sv116 sv117 sv118 sv119 sv120 sv121 sv122 sv123 sv124 sv125 sv126 sv127 sv128 sv129 sv130 sv131 sv132 sv133 sv134 sv135 sv136 sv137 sv138 sv139 sv140 sv141 sv142 sv143 sv144 sv145 sv146 sv147 sv148 sv149 sv150 sv151 sv152 sv153 sv154 sv155 sv156 sv157 sv158 sv159 sv160 sv161 sv162 sv163 sv164 sv165 sv166 sv167 sv168 sv169 sv170 sv171 sv172 sv173 sv174 sv175 sv176 sv177 sv178 sv179 sv180 sv181 sv182 sv183 sv184 sv185 sv186 sv187 sv188 sv189 sv190 sv191 sv192 sv193 sv194 sv195 sv196 sv197 sv198 sv199 sv200 sv201 sv202 sv203 sv204 sv205 sv206 sv207 sv208 sv209 sv210 sv211 sv212 sv213 sv214 sv215 sv216 sv217 sv218 sv219 sv220 sv221 sv222 sv223 sv224 sv225 sv226 sv227 sv228 sv229 sv230 sv231 sv232 sv233 sv234 sv235 sv236 sv237 sv238 sv239 sv240 sv241 sv242 sv243 sv244 sv245 sv246 sv247 sv248 sv249 sv250 sv251 sv252 sv253 sv254 sv255 sv256 sv257 sv258 sv259 sv260 sv261 sv262 sv263 sv264 sv265 sv266 sv267 sv268 sv269 sv270 sv271 sv272 sv273 sv274 sv275 sv276 sv277 sv278 sv279 sv280 sv281 sv282 sv283 sv284 sv285 sv286 sv287 sv288 sv289 sv290 sv291 sv292 sv293 sv294 sv295 sv296 sv297 sv298 sv299 sv300 sv301 sv302 sv303 sv304 sv305 sv306 sv307 sv308 sv309 sv310 sv311 sv312 sv313 sv314 sv315 sv316 sv317 sv318 sv319 sv320 sv321 sv322 sv323 sv324 sv325 sv326 sv327 sv328 sv329 sv330 sv331 sv332 sv333 sv334 sv335 sv336 sv337 sv338 sv339 sv340 sv341 sv342 sv343 sv344 sv345 sv346 sv347 sv348 sv349 sv350 sv351 : Value) :
    Code.wp Try.prog (tailAt 45 (Try.f3.body.getD .skip)) (bodyPost Try.prog Try.f3 fun e w' => e = .returned (.bool true) ∧ Below w0.heap.size w0 w') ⟨#[.slice b0 n0 d0, .slice b1 n1 d1, .slice b2 n2 d2, .slice b3 n3 d3, .slice b4 n4 d4, .slice b5 n5 d5, .slice b6 n6 d6, sv7, sv8, sv9, sv10, sv11, sv12, sv13, sv14, sv15, sv16, sv17, sv18, sv19, sv20, sv21, sv22, sv23, sv24, sv25, sv26, sv27, sv28, sv29, sv30, sv31, sv32, sv33, sv34, sv35, sv36, sv37, sv38, sv39, sv40, sv41, sv42, sv43, sv44, sv45, sv46, sv47, sv48, sv49, sv50, sv51, sv52, sv53, sv54, sv55, sv56, sv57, sv58, sv59, sv60, sv61, sv62, sv63, sv64, sv65, sv66, sv67, sv68, sv69, sv70, sv71, sv72, sv73, sv74, sv75, sv76, sv77, sv78, sv79, sv80, sv81, sv82, sv83, sv84, sv85, sv86, sv87, sv88, sv89, sv90, sv91, sv92, sv93, sv94, sv95, sv96, sv97, sv98, sv99, sv100, sv101, sv102, sv103, sv104, sv105, sv106, sv107, sv108, sv109, sv110, sv111, sv112, sv113, sv114, sv115, sv116, sv117, sv118, sv119, sv120, sv121, sv122, sv123, sv124, sv125, sv126, sv127, sv128, sv129, sv130, sv131, sv132, sv133, sv134, sv135, sv136, sv137, sv138, sv139, sv140, sv141, sv142, sv143, sv144, sv145, sv146, sv147, sv148, sv149, sv150, sv151, sv152, sv153, sv154, sv155, sv156, sv157, sv158, sv159, sv160, sv161, sv162, sv163, sv164, sv165, sv166, sv167, sv168, sv169, sv170, sv171, sv172, sv173, sv174, sv175, sv176, sv177, sv178, sv179, sv180, sv181, sv182, sv183, sv184, sv185, sv186, sv187, sv188, sv189, sv190, sv191, sv192, sv193, sv194, sv195, sv196, sv197, sv198, sv199, sv200, sv201, sv202, sv203, sv204, sv205, sv206, sv207, sv208, sv209, sv210, sv211, sv212, sv213, sv214, sv215, sv216, sv217, sv218, sv219, sv220, sv221, sv222, sv223, sv224, sv225, sv226, sv227, sv228, sv229, sv230, sv231, sv232, sv233, sv234, sv235, sv236, sv237, sv238, sv239, sv240, sv241, sv242, sv243, sv244, sv245, sv246, sv247, sv248, sv249, sv250, sv251, sv252, sv253, sv254, sv255, sv256, sv257, sv258, sv259, sv260, sv261, sv262, sv263, sv264, sv265, sv266, sv267, sv268, sv269, sv270, sv271, sv272, sv273, sv274, sv275, sv276, sv277, sv278, sv279, sv280, sv281, sv282, sv283, sv284, sv285, sv286, sv287, sv288, sv289, sv290, sv291, sv292, sv293, sv294, sv295, sv296, sv297, sv298, sv299, sv300, sv301, sv302, sv303, sv304, sv305, sv306, sv307, sv308, sv309, sv310, sv311, sv312, sv313, sv314, sv315, sv316, sv317, sv318, sv319, sv320, sv321, sv322, sv323, sv324, sv325, sv326, sv327, sv328, sv329, sv330, sv331, sv332, sv333, sv334, sv335, sv336, sv337, sv338, sv339, sv340, sv341, sv342, sv343, sv344, sv345, sv346, sv347, sv348, sv349, sv350, sv351], []⟩ W := by
  by_cases e0 : n0 = n3
  case neg =>
    have f0 : ((n0 : Int) != (n3 : Int)) = true := by rw [bne_iff_ne]; omega
    clear e0
    conv => arg 2; whnf
    go_wp2_with fail
    go_ret
    exact ⟨rfl, hb0.out⟩
  obtain rfl := e0.symm
  by_cases e1 : n1 = n3
  case neg =>
    have f1 : ((n1 : Int) != (n3 : Int)) = true := by rw [bne_iff_ne]; omega
    clear e1
    conv => arg 2; whnf
    go_wp2_with fail
    go_ret
    exact ⟨rfl, hb0.out⟩
  obtain rfl := e1.symm
  by_cases e2 : n2 = n3
  case neg =>
    have f2 : ((n2 : Int) != (n3 : Int)) = true := by rw [bne_iff_ne]; omega
    clear e2
    conv => arg 2; whnf
    go_wp2_with fail
    go_ret
    exact ⟨rfl, hb0.out⟩
  obtain rfl := e2.symm
  by_cases e4 : n4 = n3
  case neg =>
    have f4 : ((n4 : Int) != (n3 : Int)) = true := by rw [bne_iff_ne]; omega
    clear e4
    conv => arg 2; whnf
    go_wp2_with fail
    go_ret
    exact ⟨rfl, hb0.out⟩
  obtain rfl := e4.symm
  by_cases e5 : n5 = n3
  case neg =>
    have f5 : ((n5 : Int) != (n3 : Int)) = true := by rw [bne_iff_ne]; omega
    clear e5
    conv => arg 2; whnf
    go_wp2_with fail
    go_ret
    exact ⟨rfl, hb0.out⟩
  obtain rfl := e5.symm
  exact tailA2 _ n6 P K V Wr Z0 Z1 Z5 b0 b1 b2 b3 b4 b5 b6 d0 d1 d2 d3 d4 d5 d6 g0 g1 g2 g3 g4 g5 g6 w0 W hn hm D0 D1 D2 D3 D4 D5 D6 hb0 sv7 sv8 sv9 sv10 sv11 sv12 sv13 sv14 sv15 sv16 sv17 sv18 sv19 sv20 sv21 sv22 sv23 sv24 sv25 sv26 sv27 sv28 sv29 sv30 sv31 sv32 sv33 sv34 sv35 sv36 sv37 sv38 sv39 sv40 sv41 sv42 sv43 sv44 sv45 sv46 sv47 sv48 sv49 sv50 sv51 sv52 sv53 sv54 sv55 sv56 sv57 sv58 sv59 sv60 sv61 sv62 sv63 sv64 sv65 sv66 sv67 sv68 sv69 sv70 sv71 sv72 sv73 sv74 sv75 sv76 sv77 sv78 sv79 sv80 sv81 sv82 sv83 sv84 sv85 sv86 sv87 sv88 sv89 sv90 sv91 sv92 sv93 sv94 sv95 sv96 sv97 sv98 sv99 sv100 sv101 sv102 sv103 sv104 sv105 sv106 sv107 sv108 sv109 sv110 sv111 sv112 sv113 sv114 sv115 sv116 sv117 sv118 sv119 sv120 sv121 sv122 sv123 sv124 sv125 sv126 sv127 sv128 sv129 sv130 sv131 sv132 sv133 sv134 sv135 sv136 sv137 sv138 sv139 sv140 sv141 sv142 sv143 sv144 sv145 sv146 sv147 sv148 sv149 sv150 sv151 sv152 sv153 sv154 sv155 sv156 sv157 sv158 sv159 sv160 sv161 sv162 sv163 sv164 sv165 sv166 sv167 sv168 sv169 sv170 sv171 sv172 sv173 sv174 sv175 sv176 sv177 sv178 sv179 sv180 sv181 sv182 sv183 sv184 sv185 sv186 sv187 sv188 sv189 sv190 sv191 sv192 sv193 sv194 sv195 sv196 sv197 sv198 sv199 sv200 sv201 sv202 sv203 sv204 sv205 sv206 sv207 sv208 sv209 sv210 sv211 sv212 sv213 sv214 sv215 sv216 sv217 sv218 sv219 sv220 sv221 sv222 sv223 sv224 sv225 sv226 sv227 sv228 sv229 sv230 sv231 sv232 sv233 sv234 sv235 sv236 sv237 sv238 sv239 sv240 sv241 sv242 sv243 sv244 sv245 sv246 sv247 sv248 sv249 sv250 sv251 sv252 sv253 sv254 sv255 sv256 sv257 sv258 sv259 sv260 sv261 sv262 sv263 sv264 sv265 sv266 sv267 sv268 sv269 sv270 sv271 sv272 sv273 sv274 sv275 sv276 sv277 sv278 sv279 sv280 sv281 sv282 sv283 sv284 sv285 sv286 sv287 sv288 sv289 sv290 sv291 sv292 sv293 sv294 sv295 sv296 sv297 sv298 sv299 sv300 sv301 sv302 sv303 sv304 sv305 sv306 sv307 sv308 sv309 sv310 sv311 sv312 sv313 sv314 sv315 sv316 sv317 sv318 sv319 sv320 sv321 sv322 sv323 sv324 sv325 sv326 sv327 sv328 sv329 sv330 sv331 sv332 sv333 sv334 sv335 sv336 sv337 sv338 sv339 sv340 sv341 sv342 sv343 sv344 sv345 sv346 sv347 sv348 sv349 sv350 sv351
end Go.Proofs.Qxb6619224a
