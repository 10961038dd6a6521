/- The law's walk: the first filling of the set and of the work list. -/
import Derived.Test.Qxb6619224aTailC
namespace Go.Proofs.Qxb6619224a
open Go.RowKit Pl

theorem mkStack (n : Nat) (h : n ≤ 16384) (w : World) : (Instr.makeSlice 25 (.int .i64 0) (.int .i64 (n : Int))).run Try.prog w = .ok (.slice (some ⟨w.heap.size, 0, none⟩) 0 n) (w.alloc (.cells (madeCells #[.int .i64 0] n) 3)) := by
  obtain ⟨i, hi, e⟩ := Option.map_eq_some_iff.1 (show (Try.prog.info? 3).map (fun i => (i.zero, i.size, i.bytes)) = some (some (Value.int .i64 0), 1, 8) by kernel_rfl)
  simp only [Prod.mk.injEq] at e
  have hr := run_make (P := Try.prog) w 25 3 i (.int .i64 0) Try.underlying25 hi e.1 .i64 .i64 0 n (by omega) (by omega) (by rw [e.2.2]; omega) (by omega)
  rw [e.2.1, Nat.mul_one, Int.toNat_natCast] at hr
  exact hr

theorem SMem.start (W : World) (n : Nat) (hn : n ≤ 16384) : SMem ((W.alloc (.cells (bools (List.replicate n false)) 4)).alloc (.cells (madeCells #[.int .i64 0] n) 3)) W.heap.size (W.heap.size + 1) n (List.replicate n false) [] ((W.alloc (.cells (bools (List.replicate n false)) 4)).alloc (.cells (madeCells #[.int .i64 0] n) 3)) := by
  refine { keep := Keep2.refl _ _ _, row := ?_, own := ?_ }
  · rw [Below.heap_alloc _ _ _ (by simp)]; exact Go.heap_alloc_new _ _
  · have := World.ownsRow_made (base := 0) (e := 3) (size := 1) (W.alloc (.cells (bools (List.replicate n false)) 4)) (madeCells #[.int .i64 0] n) n (Nat.zero_le _) (by unfold maxLen; omega) (by simp [size_madeCells])
    simpa [nums] using this

theorem SMem.rebase {W wr : World} {gI gS n : Nat} {sl : List Bool} {st : List Nat} (h : SMem W gI gS n sl st wr) : SMem wr gI gS n sl st wr := { keep := Keep2.refl _ _ _, row := h.row, own := h.own }

theorem Dst.fix {W : World} {a : Option Addr} {g n : Nat} {f : Nat → Value} (h : Dst W a g n f) : ∃ g', g' ≠ W.heap.size ∧ g' ≠ W.heap.size + 1 ∧ Dst W a g' n f := by
  by_cases hn : 0 < n
  · have : g < W.heap.size := block_lt_of_cell (h.cells 0 hn)
    exact ⟨g, by omega, by omega, h⟩
  · exact ⟨W.heap.size + 2, by omega, by omega, { at_ := fun h => absurd h hn, cells := fun j hj => by omega }⟩

set_option maxHeartbeats 4000000 in
set_option maxRecDepth 100000 in
theorem tailB (n m : Nat) (P : Nat → Bool) (K V Wr Z0 Z1 Z5 : Nat → Int) (ok : Hid (Ok n m K V Wr)) (b0 b1 b2 b3 b4 b5 b6 : Option Addr) (d0 d1 d2 d3 d4 d5 d6 g0 g1 g2 g3 g4 g5 g6 : Nat) (w0 W : World) (hn : n ≤ 16384)
    (D0 : Hid (Dst W b0 g0 n (fun j => .int .i64 (Z0 j)))) (D1 : Hid (Dst W b1 g1 n (fun j => .int .i64 (Z1 j)))) (D2 : Hid (Dst W b2 g2 n (fun j => .bool (P j)))) (D3 : Hid (Dst W b3 g3 n (fun j => .int .u8 (K j)))) (D4 : Hid (Dst W b4 g4 n (fun j => .int .i64 (V j)))) (D5 : Hid (Dst W b5 g5 n (fun j => .int .i64 (Z5 j)))) (D6 : Hid (Dst W b6 g6 m (fun j => .int .i64 (Wr j))))
    (hb0 : Hid (Below w0.heap.size w0 W))
    (sv7 sv8 sv9 sv10 sv11 sv12 sv13 sv14 sv15 sv16 sv17 sv18 sv19 sv20 sv21 sv23 sv24 sv25 sv26 sv27 sv28 sv29 sv30 sv31 sv32 sv33 sv34 sv35 sv36 sv37 sv38 sv39 sv40 sv41 sv42 sv43 sv44 sv45 sv46 sv47 sv48 sv49 sv50 sv51 sv52 sv53 sv54 sv55 sv56 sv57 sv58 sv59 sv60 sv61 sv62 sv63 sv64 sv65 sv66 sv67 sv68 sv69 sv70 sv71 sv72 sv73 sv74 sv75 sv76 sv77 sv78 sv79 sv80 sv81 sv82 sv83 sv84 sv85 sv86 sv87 sv88 sv89 sv90 sv91 sv92 sv93 sv94 sv95 sv96 sv97 sv98 sv99 sv100 sv101 sv102 sv103 sv104 sv105 sv106 sv107 sv108 sv109 sv110 sv111 sv112 sv113 sv114 sv115 sv116 sv117 sv118 sv119 sv120 sv121 sv122 sv123 sv124 sv125 sv126 sv127 sv128 sv129 sv130 sv131 sv132 sv133 sv134 sv135 sv136 sv137 sv138 sv139 sv140 sv141 sv142 sv143 sv144 sv145 sv146 sv147 sv148 sv149 sv150 sv151 sv152 sv153 sv154 sv155 sv156 sv157 sv158 sv159 sv160 sv161 sv162 sv163 sv164 sv165 sv166 sv167 sv168 sv169 sv170 sv171 sv172 sv173 sv174 sv175 sv176 sv177 sv178 sv179 sv180 sv181 sv182 sv183 sv184 sv185 sv186 sv187 sv188 sv189 sv190 sv191 sv192 sv193 sv194 sv195 sv196 sv197 sv198 sv199 sv200 sv201 sv202 sv203 sv204 sv205 sv206 sv207 sv208 sv209 sv210 sv211 sv212 sv213 sv214 sv215 sv216 sv217 sv218 sv219 sv220 sv221 sv222 sv223 sv224 sv225 sv226 sv227 sv228 sv229 sv230 sv231 sv232 sv233 sv234 sv235 sv236 sv237 sv238 sv239 sv240 sv241 sv242 sv243 sv244 sv245 sv246 sv247 sv248 sv249 sv250 sv251 sv252 sv253 sv254 sv255 sv256 sv257 sv258 sv259 sv260 sv261 sv262 sv263 sv264 sv265 sv266 sv267 sv268 sv269 sv270 sv271 sv272 sv273 sv274 sv275 sv276 sv277 sv278 sv279 sv280 sv281 sv282 sv283 sv284 sv285 sv286 sv287 sv288 sv289 sv290 sv291 sv292 sv293 sv294 sv295 sv296 sv297 sv298 sv299 sv300 sv301 sv302 sv303 sv304 sv305 sv306 sv307 sv308 sv309 sv310 sv311 sv312 sv313 sv314 sv315 sv316 sv317 sv318 sv319 sv320 sv321 sv322 sv323 sv324 sv325 sv326 sv327 sv328 sv329 sv330 sv331 sv332 sv333 sv334 sv335 sv336 sv337 sv338 sv339 sv340 sv341 sv342 sv343 sv344 sv345 sv346 sv347 sv348 sv349 sv350 sv351 : Value) :
    Code.wp Try.prog (tailAt 61 (Try.f3.body.getD .skip)) (bodyPost Try.prog Try.f3 fun e w' => e = .returned (.bool true) ∧ Below w0.heap.size w0 w') ⟨#[.slice b0 n d0, .slice b1 n d1, .slice b2 n d2, .slice b3 n d3, .slice b4 n d4, .slice b5 n d5, .slice b6 m d6, sv7, sv8, sv9, sv10, sv11, sv12, sv13, sv14, sv15, sv16, sv17, sv18, sv19, sv20, sv21, .int .i64 (n : Int), sv23, sv24, sv25, sv26, sv27, sv28, sv29, sv30, sv31, sv32, sv33, sv34, sv35, sv36, sv37, sv38, sv39, sv40, sv41, sv42, sv43, sv44, sv45, sv46, sv47, sv48, sv49, sv50, sv51, sv52, sv53, sv54, sv55, sv56, sv57, sv58, sv59, sv60, sv61, sv62, sv63, sv64, sv65, sv66, sv67, sv68, sv69, sv70, sv71, sv72, sv73, sv74, sv75, sv76, sv77, sv78, sv79, sv80, sv81, sv82, sv83, sv84, sv85, sv86, sv87, sv88, sv89, sv90, sv91, sv92, sv93, sv94, sv95, sv96, sv97, sv98, sv99, sv100, sv101, sv102, sv103, sv104, sv105, sv106, sv107, sv108, sv109, sv110, sv111, sv112, sv113, sv114, sv115, sv116, sv117, sv118, sv119, sv120, sv121, sv122, sv123, sv124, sv125, sv126, sv127, sv128, sv129, sv130, sv131, sv132, sv133, sv134, sv135, sv136, sv137, sv138, sv139, sv140, sv141, sv142, sv143, sv144, sv145, sv146, sv147, sv148, sv149, sv150, sv151, sv152, sv153, sv154, sv155, sv156, sv157, sv158, sv159, sv160, sv161, sv162, sv163, sv164, sv165, sv166, sv167, sv168, sv169, sv170, sv171, sv172, sv173, sv174, sv175, sv176, sv177, sv178, sv179, sv180, sv181, sv182, sv183, sv184, sv185, sv186, sv187, sv188, sv189, sv190, sv191, sv192, sv193, sv194, sv195, sv196, sv197, sv198, sv199, sv200, sv201, sv202, sv203, sv204, sv205, sv206, sv207, sv208, sv209, sv210, sv211, sv212, sv213, sv214, sv215, sv216, sv217, sv218, sv219, sv220, sv221, sv222, sv223, sv224, sv225, sv226, sv227, sv228, sv229, sv230, sv231, sv232, sv233, sv234, sv235, sv236, sv237, sv238, sv239, sv240, sv241, sv242, sv243, sv244, sv245, sv246, sv247, sv248, sv249, sv250, sv251, sv252, sv253, sv254, sv255, sv256, sv257, sv258, sv259, sv260, sv261, sv262, sv263, sv264, sv265, sv266, sv267, sv268, sv269, sv270, sv271, sv272, sv273, sv274, sv275, sv276, sv277, sv278, sv279, sv280, sv281, sv282, sv283, sv284, sv285, sv286, sv287, sv288, sv289, sv290, sv291, sv292, sv293, sv294, sv295, sv296, sv297, sv298, sv299, sv300, sv301, sv302, sv303, sv304, sv305, sv306, sv307, sv308, sv309, sv310, sv311, sv312, sv313, sv314, sv315, sv316, sv317, sv318, sv319, sv320, sv321, sv322, sv323, sv324, sv325, sv326, sv327, sv328, sv329, sv330, sv331, sv332, sv333, sv334, sv335, sv336, sv337, sv338, sv339, sv340, sv341, sv342, sv343, sv344, sv345, sv346, sv347, sv348, sv349, sv350, sv351], []⟩ W := by
  have k1 := make23 n hn
  have k2 := mkStack n hn
  obtain ⟨g0, x0, y0, D0⟩ := D0.out.fix
  obtain ⟨g1, x1, y1, D1⟩ := D1.out.fix
  obtain ⟨g2, x2, y2, D2⟩ := D2.out.fix
  obtain ⟨g3, x3, y3, D3⟩ := D3.out.fix
  obtain ⟨g4, x4, y4, D4⟩ := D4.out.fix
  obtain ⟨g5, x5, y5, D5⟩ := D5.out.fix
  obtain ⟨g6, x6, y6, D6⟩ := D6.out.fix
  have HW1 : Hid (Below W.heap.size W ((W.alloc (.cells (bools (List.replicate n false)) 4)).alloc (.cells (madeCells #[.int .i64 0] n) 3))) := ((Below.refl _ _).alloc (Nat.le_refl _) _).alloc (by simp) _
  replace D0 : Hid _ := D0.later HW1.out
  replace D1 : Hid _ := D1.later HW1.out
  replace D2 : Hid _ := D2.later HW1.out
  replace D3 : Hid _ := D3.later HW1.out
  replace D4 : Hid _ := D4.later HW1.out
  replace D5 : Hid _ := D5.later HW1.out
  replace D6 : Hid _ := D6.later HW1.out
  have hM0 := SMem.start W n hn
  have HM0 : Hid _ := hM0
  clear hM0
  conv => arg 2; whnf
  go_upto_block 4 with fail
  go_cut [27, 28] from 228 to 244 (fun v27 v28 wd => ∃ sl st L, v27 = .slice (some ⟨W.heap.size + 1, 0, none⟩) L n ∧ Hid (L = List.length st) ∧ Hid (SMem ((W.alloc (.cells (bools (List.replicate n false)) 4)).alloc (.cells (madeCells #[.int .i64 0] n) 3)) W.heap.size (W.heap.size + 1) n sl st wd) ∧ Hid (SInv n P n sl st))
  case first =>
    generalize (W.alloc (.cells (bools (List.replicate n false)) 4)).alloc (.cells (madeCells #[.int .i64 0] n) 3) = W1 at *
    go_wp2_with fail
    go_loopg [27, 28] n (fun g v27 v28 wr => ∃ k sl st L, v27 = .slice (some ⟨W.heap.size + 1, 0, none⟩) L n ∧ v28 = .int .i64 ((k : Nat) : Int) ∧ Hid (L = List.length st) ∧ k ≤ n ∧ Hid (g = n - k) ∧ Hid (SMem W1 W.heap.size (W.heap.size + 1) n sl st wr) ∧ Hid (SInv n P k sl st))
    case atStart => exact ⟨0, _, [], 0, rfl, rfl, rfl, Nat.zero_le _, rfl, HM0, SInv.start⟩
    case round =>
      obtain ⟨k, sl, st, L, rfl, rfl, hL, hk, hg, hM, hS⟩ := hrel
      clear HM0
      by_cases hlt : k < n
      · have hlt1 : (k : Int) < (n : Int) := by omega
        obtain rfl := D2.out.at_ (by omega)
        have q2 := hM.out.keep.cell (D2.out.cells k hlt) x2 y2
        cases hp : P k with
        | true =>
          rw [hp] at q2
          have HN : Hid _ := hS.out.skip hp
          clear hp
          go_wp2_with fail
          go_roundg (n - (k + 1))
          case rel => exact ⟨k + 1, sl, st, L, rfl, by go_num, hL, by omega, rfl, hM, HN⟩
          case measure => rw [hg.out]; omega
        | false =>
          rw [hp] at q2
          obtain rfl : L = st.length := hL.out
          have HN : Hid _ := hS.out.put hlt hp
          have hroom := HN.out.room
          rw [List.length_append] at hroom
          have hroom2 : st.length + 1 ≤ n := by simp at hroom; omega
          have ci : wr.cell? ⟨W.heap.size, k, none⟩ = some (.bool (sl.getD k false)) := by
            rw [cell_of_row wr _ k _ _ _ hM.out.row]; exact bools_at sl k (by rw [hS.out.len]; exact hlt)
          have hfz : wr.frozen? ⟨W.heap.size, k, none⟩ = false := frozen_of_row wr _ k _ _ hM.out.row
          generalize sl.getD k false = bb at ci
          have HM1 : Hid _ := (hM.out.setI (by omega) k).alloc (.cells #[.int .i64 (k : Int)] 3)
          obtain ⟨i3, hi3, hs3⟩ := info3
          have HI3 : Hid _ := hi3
          clear hi3 hp hroom
          go_wp2_with (at_builtin; refine wpList_append_fits _ (by rfl) _ _ 25 (by rfl) 0 3 i3 1 Try.underlying25 HI3.out hs3 (W.heap.size + 1) st.length n (nums st) (by rfl) HM1.out.own ⟨wr.heap.size, 0, none⟩ 1 1 [.int .i64 (k : Int)] (by rfl) (by rfl) ?_ ?_ (by omega) ?_)
          · rfl
          · intro w2 ho hgr
            have HM2 : Hid (SMem W1 W.heap.size (W.heap.size + 1) n (sl.set k true) (st ++ [k]) w2) := HM1.out.push (by omega) hgr ho
            clear ho hgr HM1
            go_wp2_with fail
            go_roundg (n - (k + 1))
            case rel => exact ⟨k + 1, _, _, _, rfl, by go_num, by show _ = _; simp, by omega, rfl, HM2, HN⟩
            case measure => rw [hg.out]; omega
      · obtain rfl : k = n := by omega
        go_wp2_with fail
        go_meet
        case rel => exact ⟨sl, st, L, rfl, hL, hM, hS⟩
  case rest =>
    obtain ⟨sl, st, L, rfl, hL, hM, hS⟩ := hcut
    rename_i hk
    have hbw : Below w0.heap.size w0 wc := hM.out.keep.below (hb0.out.trans (HW1.out.mono hb0.out.size)) hb0.out.size (by have := hb0.out.size; omega)
    refine hk _ _ (tailC n m P K V Wr Z0 Z1 Z5 ok b0 b1 b2 b3 b4 b5 b6 d0 d1 d2 d3 d4 d5 d6 g0 g1 g2 g3 g4 g5 g6 W.heap.size (W.heap.size + 1) L sl st w0 wc hn (hM.out.keep.dst D0.out x0 y0) (hM.out.keep.dst D1.out x1 y1) (hM.out.keep.dst D2.out x2 y2) (hM.out.keep.dst D3.out x3 y3) (hM.out.keep.dst D4.out x4 y4) (hM.out.keep.dst D5.out x5 y5) (hM.out.keep.dst D6.out x6 y6)
      x0 y0 x1 y1 x2 y2 x3 y3 x4 y4 x5 y5 x6 y6 (by omega) hb0.out.size (by have := hb0.out.size; omega) hL.out.symm hbw hM.out.rebase hS.out.fin _ _ _ _ _ _ _ _ _ _ _ _ _ _ _ _ _ _ _ _ _ _ _ _ _ _ _ _ _ _ _ _ _ _ _ _ _ _ _ _ _ _ _ _ _ _ _ _ _ _ _ _ _ _ _ _ _ _ _ _ _ _ _ _ _ _ _ _ _ _ _ _ _ _ _ _ _ _ _ _ _ _ _ _ _ _ _ _ _ _ _ _ _ _ _ _ _ _ _ _ _ _ _ _ _ _ _ _ _ _ _ _ _ _ _ _ _ _ _ _ _ _ _ _ _ _ _ _ _ _ _ _ _ _ _ _ _ _ _ _ _ _ _ _ _ _ _ _ _ _ _ _ _ _ _ _ _ _ _ _ _ _ _ _ _ _ _ _ _ _ _ _ _ _ _ _ _ _ _ _ _ _ _ _ _ _ _ _ _ _ _ _ _ _ _ _ _ _ _ _ _ _ _ _ _ _ _ _ _ _ _ _ _ _ _ _ _ _ _ _ _ _ _ _ _ _ _ _ _ _ _ _ _ _ _ _ _ _ _ _ _ _ _ _ _ _ _ _ _ _ _ _ _ _ _ _ _ _ _ _ _ _ _ _ _ _ _ _ _ _ _ _ _ _ _ _ _ _ _ _ _ _ _ _ _ _ _ _ _ _ _ _ _ _ _ _ _ _ _ _ _ _ _ _ _ _ _ _ _ _ _ _ _ _ _ _ _ _ _ _ _ _ _ _ _ _ _ _ _ _ _ _ _ _ _ _ _ _ _ _ _ _)

end Go.Proofs.Qxb6619224a
