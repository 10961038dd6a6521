/- The law's walk: the work list. -/
import Derived.Test.Qxb6619224aTailD
import Derived.WalkSmall
import Derived.Deep.CutBlock
namespace Go.Proofs.Qxb6619224a
open Go.RowKit Pl

/-- All blocks of W but two are as they were. -/
structure Keep2 (W wr : World) (gI gS : Nat) : Prop where
  os : wr.os = W.os
  tape : wr.tape = W.tape
  output : wr.output = W.output
  size : W.heap.size ≤ wr.heap.size
  block : ∀ k, k < W.heap.size → k ≠ gI → k ≠ gS → wr.heap[k]? = W.heap[k]?

theorem Keep2.refl (W : World) (gI gS : Nat) : Keep2 W W gI gS := ⟨rfl, rfl, rfl, Nat.le_refl _, fun _ _ _ _ => rfl⟩
theorem Keep2.alloc {W wr : World} {gI gS : Nat} (h : Keep2 W wr gI gS) (o : Obj) : Keep2 W (wr.alloc o) gI gS :=
  ⟨h.os, h.tape, h.output, by have := h.size; simp; omega, fun k hk h1 h2 => (Below.heap_alloc _ _ _ (by have := h.size; omega)).trans (h.block k hk h1 h2)⟩
theorem Keep2.setI {W wr : World} {gI gS : Nat} (h : Keep2 W wr gI gS) (i : Nat) (v : Value) : Keep2 W (wr.setCell ⟨gI, i, none⟩ v) gI gS :=
  ⟨h.os, h.tape, h.output, by simpa [World.setCell] using h.size, fun k hk h1 h2 => (Below.heap_setCell _ _ _ _ h1).trans (h.block k hk h1 h2)⟩
theorem Keep2.grown {W wr w' : World} {gI gS : Nat} (h : Keep2 W wr gI gS) (hg : wr.grownBy w' (some gS)) : Keep2 W w' gI gS :=
  ⟨hg.os.trans h.os, hg.tape.trans h.tape, hg.output.trans h.output, Nat.le_trans h.size hg.size, fun k hk h1 h2 => (hg.block k (by have := h.size; omega) (by intro e; exact h2 (by simpa using e))).trans (h.block k hk h1 h2)⟩
theorem Keep2.cell {W wr : World} {gI gS : Nat} (h : Keep2 W wr gI gS) {g j : Nat} {v : Value} (hc : W.cell? ⟨g, j, none⟩ = some v) (h1 : g ≠ gI) (h2 : g ≠ gS) : wr.cell? ⟨g, j, none⟩ = some v :=
  (World.cell?_of_block (h.block g (block_lt_of_cell hc) h1 h2)).trans hc
theorem Keep2.below {w0 W wr : World} {gI gS : Nat} (h : Keep2 W wr gI gS) (hb : Below w0.heap.size w0 W) (h1 : w0.heap.size ≤ gI) (h2 : w0.heap.size ≤ gS) : Below w0.heap.size w0 wr :=
  hb.trans ⟨h.os, h.tape, h.output, h.size, fun k hk => h.block k (by have := hb.size; omega) (by omega) (by omega)⟩
theorem Keep2.dst {W wr : World} {gI gS : Nat} (h : Keep2 W wr gI gS) {a : Option Addr} {g n : Nat} {f : Nat → Value} (hd : Dst W a g n f) (h1 : g ≠ gI) (h2 : g ≠ gS) : Dst wr a g n f :=
  { at_ := hd.at_, cells := fun j hj => h.cell (hd.cells j hj) h1 h2 }

theorem last_cases (st : List Nat) : st = [] ∨ ∃ st' x, st = st' ++ [x] := by
  rcases List.eq_nil_or_concat st with h | ⟨l, x, h⟩
  · exact .inl h
  · exact .inr ⟨l, x, by rw [h, List.concat_eq_append]⟩

/-- The stack's values. -/
def nums (st : List Nat) : List Value := st.map fun x : Nat => Value.int .i64 (x : Int)

/-- The row of 'in' and the stack's row. -/
structure SMem (W : World) (gI gS n : Nat) (sl : List Bool) (st : List Nat) (wr : World) : Prop where
  keep : Keep2 W wr gI gS
  row : wr.heap[gI]? = some (.cells (bools sl) 4 (0, 0))
  own : wr.ownsRow 0 3 1 (.slice (some ⟨gS, 0, none⟩) st.length n) st.length (nums st)

theorem info3 : ∃ i, Try.prog.info? 3 = some i ∧ i.size = 1 := by
  obtain ⟨i, hi, e⟩ := Option.map_eq_some_iff.1 (show (Try.prog.info? 3).map (·.size) = some 1 by kernel_rfl)
  exact ⟨i, hi, e⟩

theorem SMem.top {W wr : World} {gI gS n : Nat} {sl : List Bool} {st : List Nat} {x : Nat} (h : SMem W gI gS n sl (st ++ [x]) wr) : wr.cell? ⟨gS, st.length, none⟩ = some (.int .i64 (x : Int)) := by
  obtain ⟨_, h2⟩ := h.own
  rcases h2 with ⟨h2, _⟩ | ⟨g, cap, cur, hv, _, hh, _, _, _, ht⟩
  · cases h2
  · simp only [Value.slice.injEq, Option.some.injEq, Addr.mk.injEq] at hv
    obtain ⟨⟨rfl, _⟩, _, rfl⟩ := hv
    rw [cell_of_row wr gS _ _ _ _ hh]
    have e := congrArg (fun l : List Value => l[st.length]?) ht
    simp [nums] at e
    simpa using e

theorem SMem.pop {W wr : World} {gI gS n : Nat} {sl : List Bool} {st : List Nat} {x : Nat} (h : SMem W gI gS n sl (st ++ [x]) wr) : SMem W gI gS n sl st wr := by
  refine { keep := h.keep, row := h.row, own := ?_ }
  obtain ⟨_, h2⟩ := h.own
  rcases h2 with ⟨h2, _⟩ | ⟨g, cap, cur, hv, h3, hh, h4, h5, h6, ht⟩
  · cases h2
  · refine ⟨by simp [nums], .inr ⟨g, cap, cur, ?_, h3, hh, by simp at h4; omega, h5, h6, ?_⟩⟩
    · simp only [Value.slice.injEq] at hv ⊢
      exact ⟨hv.1, trivial, hv.2.2⟩
    · have e := congrArg (fun l : List Value => l.take st.length) ht
      simp [nums, List.take_take] at e ⊢
      exact e

theorem SMem.setI {W wr : World} {gI gS n : Nat} {sl : List Bool} {st : List Nat} (h : SMem W gI gS n sl st wr) (hne : gS ≠ gI) (i : Nat) : SMem W gI gS n (sl.set i true) st (wr.setCell ⟨gI, i, none⟩ (.bool true)) := by
  refine { keep := h.keep.setI i _, row := by rw [heap_setCell_same wr gI i _ _ _ h.row, bools_set], own := ?_ }
  obtain ⟨h1, h2⟩ := h.own
  refine ⟨h1, ?_⟩
  rcases h2 with ⟨h2, _⟩ | ⟨g, cap, cur, hv, h3, hh, r⟩
  · cases h2
  · have hg : g = gS := by simp only [Value.slice.injEq, Option.some.injEq, Addr.mk.injEq] at hv; exact hv.1.1.symm
    exact .inr ⟨g, cap, cur, hv, h3, by rw [Below.heap_setCell _ _ _ _ (by rw [hg]; exact hne)]; exact hh, r⟩

theorem SMem.alloc {W wr : World} {gI gS n : Nat} {sl : List Bool} {st : List Nat} (h : SMem W gI gS n sl st wr) (o : Obj) : SMem W gI gS n sl st (wr.alloc o) := by
  have lt : ∀ {g : Nat} {ob : Obj}, wr.heap[g]? = some ob → g < wr.heap.size := fun {g} {ob} hg => by
    rcases Nat.lt_or_ge g wr.heap.size with h | h
    · exact h
    · rw [Array.getElem?_eq_none h] at hg; cases hg
  refine { keep := h.keep.alloc o, row := (Below.heap_alloc _ _ _ (lt h.row)).trans h.row, own := ?_ }
  obtain ⟨h1, h2⟩ := h.own
  refine ⟨h1, ?_⟩
  rcases h2 with ⟨h2, _⟩ | ⟨g, cap, cur, hv, h3, hh, r⟩
  · cases h2
  · exact .inr ⟨g, cap, cur, hv, h3, (Below.heap_alloc _ _ _ (lt hh)).trans hh, r⟩

theorem SMem.push {W wr w' : World} {gI gS n : Nat} {sl : List Bool} {st : List Nat} {x : Nat} (h : SMem W gI gS n sl st wr) (hne : gS ≠ gI) (hg : wr.grownBy w' (some gS)) (ho : w'.ownsRow 0 3 1 (.slice (some ⟨gS, 0, none⟩) (st.length + 1) n) (st.length + 1) (nums st ++ [.int .i64 (x : Int)])) : SMem W gI gS n sl (st ++ [x]) w' := by
  have hlt : gI < wr.heap.size := by
    rcases Nat.lt_or_ge gI wr.heap.size with h' | h'
    · exact h'
    · have := h.row; rw [Array.getElem?_eq_none h'] at this; cases this
  refine { keep := h.keep.grown hg, row := (hg.block gI hlt (by intro e; exact hne (by simpa using e.symm))).trans h.row, own := ?_ }
  have e : nums (st ++ [x]) = nums st ++ [.int .i64 (x : Int)] := by simp [nums]
  rw [e, List.length_append]
  exact ho

theorem new_cell (w : World) (g y : Nat) (b v : Value) : ∀ (j : Nat) (u : Value), [v][j]? = some u → ((w.setCell ⟨g, y, none⟩ b).alloc (.cells #[v] 3)).cell? ((⟨w.heap.size, 0, none⟩ : Addr).add j) = some u := by
  intro j u h
  have hs : (w.setCell ⟨g, y, none⟩ b).heap.size = w.heap.size := by simp [World.setCell]
  cases j with
  | zero =>
    have hv : v = u := by simpa using h
    subst hv
    have := Go.heap_alloc_new (w.setCell ⟨g, y, none⟩ b) (.cells #[v] 3)
    rw [hs] at this
    have e : (⟨w.heap.size, 0, none⟩ : Addr).add 0 = ⟨w.heap.size, 0, none⟩ := rfl
    rw [e, cell_of_row _ w.heap.size 0 _ _ _ this]
    rfl
  | succ j => simp at h

set_option maxHeartbeats 4000000 in
set_option maxRecDepth 100000 in
theorem tailC (n m : Nat) (P : Nat → Bool) (K V Wr Z0 Z1 Z5 : Nat → Int) (ok : Hid (Ok n m K V Wr)) (b0 b1 b2 b3 b4 b5 b6 : Option Addr) (d0 d1 d2 d3 d4 d5 d6 g0 g1 g2 g3 g4 g5 g6 gI gS L0 : Nat) (sl0 : List Bool) (st0 : List Nat) (w0 W : World) (hn : n ≤ 16384)
    (D0 : Hid (Dst W b0 g0 n (fun j => .int .i64 (Z0 j)))) (D1 : Hid (Dst W b1 g1 n (fun j => .int .i64 (Z1 j)))) (D2 : Hid (Dst W b2 g2 n (fun j => .bool (P j)))) (D3 : Hid (Dst W b3 g3 n (fun j => .int .u8 (K j)))) (D4 : Hid (Dst W b4 g4 n (fun j => .int .i64 (V j)))) (D5 : Hid (Dst W b5 g5 n (fun j => .int .i64 (Z5 j)))) (D6 : Hid (Dst W b6 g6 m (fun j => .int .i64 (Wr j))))
    (x0 : g0 ≠ gI) (y0 : g0 ≠ gS) (x1 : g1 ≠ gI) (y1 : g1 ≠ gS) (x2 : g2 ≠ gI) (y2 : g2 ≠ gS) (x3 : g3 ≠ gI) (y3 : g3 ≠ gS) (x4 : g4 ≠ gI) (y4 : g4 ≠ gS) (x5 : g5 ≠ gI) (y5 : g5 ≠ gS) (x6 : g6 ≠ gI) (y6 : g6 ≠ gS) (hSI : gS ≠ gI) (l1 : w0.heap.size ≤ gI) (l2 : w0.heap.size ≤ gS) (hL0 : st0.length = L0)
    (hb0 : Hid (Below w0.heap.size w0 W)) (hM0 : Hid (SMem W gI gS n sl0 st0 W)) (hW0 : Hid (WInv n P K V Wr sl0 st0 false))
    (sv7 sv8 sv9 sv10 sv11 sv12 sv13 sv14 sv15 sv16 sv17 sv18 sv19 sv20 sv21 sv23 sv24 sv25 sv28 sv29 sv30 sv31 sv32 sv33 sv34 sv35 sv36 sv37 sv38 sv39 sv40 sv41 sv42 sv43 sv44 sv45 sv46 sv47 sv48 sv49 sv50 sv51 sv52 sv53 sv54 sv55 sv56 sv57 sv58 sv59 sv60 sv61 sv62 sv63 sv64 sv65 sv66 sv67 sv68 sv69 sv70 sv71 sv72 sv73 sv74 sv75 sv76 sv77 sv78 sv79 sv80 sv81 sv82 sv83 sv84 sv85 sv86 sv87 sv88 sv89 sv90 sv91 sv92 sv93 sv94 sv95 sv96 sv97 sv98 sv99 sv100 sv101 sv102 sv103 sv104 sv105 sv106 sv107 sv108 sv109 sv110 sv111 sv112 sv113 sv114 sv115 sv116 sv117 sv118 sv119 sv120 sv121 sv122 sv123 sv124 sv125 sv126 sv127 sv128 sv129 sv130 sv131 sv132 sv133 sv134 sv135 sv136 sv137 sv138 sv139 sv140 sv141 sv142 sv143 sv144 sv145 sv146 sv147 sv148 sv149 sv150 sv151 sv152 sv153 sv154 sv155 sv156 sv157 sv158 sv159 sv160 sv161 sv162 sv163 sv164 sv165 sv166 sv167 sv168 sv169 sv170 sv171 sv172 sv173 sv174 sv175 sv176 sv177 sv178 sv179 sv180 sv181 sv182 sv183 sv184 sv185 sv186 sv187 sv188 sv189 sv190 sv191 sv192 sv193 sv194 sv195 sv196 sv197 sv198 sv199 sv200 sv201 sv202 sv203 sv204 sv205 sv206 sv207 sv208 sv209 sv210 sv211 sv212 sv213 sv214 sv215 sv216 sv217 sv218 sv219 sv220 sv221 sv222 sv223 sv224 sv225 sv226 sv227 sv228 sv229 sv230 sv231 sv232 sv233 sv234 sv235 sv236 sv237 sv238 sv239 sv240 sv241 sv242 sv243 sv244 sv245 sv246 sv247 sv248 sv249 sv250 sv251 sv252 sv253 sv254 sv255 sv256 sv257 sv258 sv259 sv260 sv261 sv262 sv263 sv264 sv265 sv266 sv267 sv268 sv269 sv270 sv271 sv272 sv273 sv274 sv275 sv276 sv277 sv278 sv279 sv280 sv281 sv282 sv283 sv284 sv285 sv286 sv287 sv288 sv289 sv290 sv291 sv292 sv293 sv294 sv295 sv296 sv297 sv298 sv299 sv300 sv301 sv302 sv303 sv304 sv305 sv306 sv307 sv308 sv309 sv310 sv311 sv312 sv313 sv314 sv315 sv316 sv317 sv318 sv319 sv320 sv321 sv322 sv323 sv324 sv325 sv326 sv327 sv328 sv329 sv330 sv331 sv332 sv333 sv334 sv335 sv336 sv337 sv338 sv339 sv340 sv341 sv342 sv343 sv344 sv345 sv346 sv347 sv348 sv349 sv350 sv351 : Value) :
    Code.wp Try.prog (tailAt 69 (Try.f3.body.getD .skip)) (bodyPost Try.prog Try.f3 fun e w' => e = .returned (.bool true) ∧ Below w0.heap.size w0 w') ⟨#[.slice b0 n d0, .slice b1 n d1, .slice b2 n d2, .slice b3 n d3, .slice b4 n d4, .slice b5 n d5, .slice b6 m d6, sv7, sv8, sv9, sv10, sv11, sv12, sv13, sv14, sv15, sv16, sv17, sv18, sv19, sv20, sv21, .int .i64 (n : Int), sv23, sv24, sv25, .slice (some ⟨gI, 0, none⟩) n n, .slice (some ⟨gS, 0, none⟩) L0 n, sv28, sv29, sv30, sv31, sv32, sv33, sv34, sv35, sv36, sv37, sv38, sv39, sv40, sv41, sv42, sv43, sv44, sv45, sv46, sv47, sv48, sv49, sv50, sv51, sv52, sv53, sv54, sv55, sv56, sv57, sv58, sv59, sv60, sv61, sv62, sv63, sv64, sv65, sv66, sv67, sv68, sv69, sv70, sv71, sv72, sv73, sv74, sv75, sv76, sv77, sv78, sv79, sv80, sv81, sv82, sv83, sv84, sv85, sv86, sv87, sv88, sv89, sv90, sv91, sv92, sv93, sv94, sv95, sv96, sv97, sv98, sv99, sv100, sv101, sv102, sv103, sv104, sv105, sv106, sv107, sv108, sv109, sv110, sv111, sv112, sv113, sv114, sv115, sv116, sv117, sv118, sv119, sv120, sv121, sv122, sv123, sv124, sv125, sv126, sv127, sv128, sv129, sv130, sv131, sv132, sv133, sv134, sv135, sv136, sv137, sv138, sv139, sv140, sv141, sv142, sv143, sv144, sv145, sv146, sv147, sv148, sv149, sv150, sv151, sv152, sv153, sv154, sv155, sv156, sv157, sv158, sv159, sv160, sv161, sv162, sv163, sv164, sv165, sv166, sv167, sv168, sv169, sv170, sv171, sv172, sv173, sv174, sv175, sv176, sv177, sv178, sv179, sv180, sv181, sv182, sv183, sv184, sv185, sv186, sv187, sv188, sv189, sv190, sv191, sv192, sv193, sv194, sv195, sv196, sv197, sv198, sv199, sv200, sv201, sv202, sv203, sv204, sv205, sv206, sv207, sv208, sv209, sv210, sv211, sv212, sv213, sv214, sv215, sv216, sv217, sv218, sv219, sv220, sv221, sv222, sv223, sv224, sv225, sv226, sv227, sv228, sv229, sv230, sv231, sv232, sv233, sv234, sv235, sv236, sv237, sv238, sv239, sv240, sv241, sv242, sv243, sv244, sv245, sv246, sv247, sv248, sv249, sv250, sv251, sv252, sv253, sv254, sv255, sv256, sv257, sv258, sv259, sv260, sv261, sv262, sv263, sv264, sv265, sv266, sv267, sv268, sv269, sv270, sv271, sv272, sv273, sv274, sv275, sv276, sv277, sv278, sv279, sv280, sv281, sv282, sv283, sv284, sv285, sv286, sv287, sv288, sv289, sv290, sv291, sv292, sv293, sv294, sv295, sv296, sv297, sv298, sv299, sv300, sv301, sv302, sv303, sv304, sv305, sv306, sv307, sv308, sv309, sv310, sv311, sv312, sv313, sv314, sv315, sv316, sv317, sv318, sv319, sv320, sv321, sv322, sv323, sv324, sv325, sv326, sv327, sv328, sv329, sv330, sv331, sv332, sv333, sv334, sv335, sv336, sv337, sv338, sv339, sv340, sv341, sv342, sv343, sv344, sv345, sv346, sv347, sv348, sv349, sv350, sv351], []⟩ W := by
  subst hL0
  conv => arg 2; whnf
  go_upto_block 6 with fail
  go_cut [27, 29] from 245 to 307 (fun v27 v29 wd => ∃ sl fl, v29 = .bool fl ∧ Hid (SMem W gI gS n sl [] wd) ∧ Hid (WInv n P K V Wr sl [] fl))
  case first =>
    go_wp2_with fail
    go_loopg [27, 29] (2 * cf sl0 + st0.length) (fun g v27 v29 wr => ∃ sl st fl L, v27 = .slice (some ⟨gS, 0, none⟩) L n ∧ v29 = .bool fl ∧ Hid (L = List.length st) ∧ Hid (g = 2 * cf sl + st.length) ∧ Hid (SMem W gI gS n sl st wr) ∧ Hid (WInv n P K V Wr sl st fl))
    case atStart => exact ⟨sl0, st0, false, _, rfl, rfl, rfl, rfl, hM0, hW0⟩
    case round =>
      obtain ⟨sl, st, fl, L, rfl, rfl, hL, hg, hM, hW⟩ := hrel
      clear hM0 hW0
      rcases last_cases st with rfl | ⟨st', x, rfl⟩
      · have e0 : L = 0 := by rw [hL.out]; rfl
        subst e0
        go_wp2_with fail
        go_meet
        case rel => exact ⟨sl, fl, rfl, hM, hW⟩
      · obtain rfl : L = st'.length + 1 := by rw [hL.out]; simp
        obtain ⟨hxn, hxs⟩ := hW.out.mem x (by simp)
        have hroom := hW.out.room
        rw [List.length_append] at hroom
        have hroom2 : st'.length + 1 ≤ n := by simp at hroom; omega
        clear hroom
        obtain rfl := D2.out.at_ (by omega)
        obtain rfl := D3.out.at_ (by omega)
        obtain rfl := D4.out.at_ (by omega)
        have ct := hM.out.top
        have q2 := hM.out.keep.cell (D2.out.cells x hxn) x2 y2
        have q3 := hM.out.keep.cell (D3.out.cells x hxn) x3 y3
        have q4 := hM.out.keep.cell (D4.out.cells x hxn) x4 y4
        have hMp := hM.out.pop
        have HMP : Hid _ := hMp
        have mlow : 2 * cf sl + st'.length < gk := by rw [hg.out]; simp
        have hxi : (x : Int) < (n : Int) := by omega
        clear hL hg hMp
        by_cases hnd : needs P K V x
        · obtain ⟨hv0, hvm⟩ := ok.out.val hxn hnd
          obtain ⟨v, hv⟩ := Int.eq_ofNat_of_zero_le hv0
          have hvm2 : v < m := by omega
          have hvi : (v : Int) < (m : Int) := by omega
          obtain rfl := D6.out.at_ (by omega)
          have q6 := hM.out.keep.cell (D6.out.cells v hvm2) x6 y6
          have hwr := ok.out.wr v hvm2
          rw [hv] at q4
          have HV : Hid (V x = (v : Int)) := hv
          have HND : Hid _ := hnd
          clear hv0 hvm hnd hv
          by_cases k2 : K x = 2
          · have kb2 : (K x == 2) = true := by rw [k2]; rfl
            clear k2
            skip
            by_cases hw : Wr v = -1
            · have HN : Hid (WInv n P K V Wr sl st' true) := hW.out.lack HND.out (by rw [HV.out]; simpa using hw)
              rw [hw] at q6
              clear hw hwr
              go_wp2_with fail
              go_roundg (2 * cf sl + st'.length)
              case rel => exact ⟨sl, st', true, _, rfl, rfl, rfl, rfl, HMP, HN⟩
              case measure => exact mlow
            · obtain ⟨y, hy⟩ := Int.eq_ofNat_of_zero_le (show 0 ≤ Wr v by omega)
              have hyn : y < n := by omega
              have hyi : (y : Int) < (n : Int) := by omega
              have HY : Hid (Wr (V x).toNat = (y : Int)) := by show _ = _; rw [HV.out]; simpa using hy
              rw [hy] at q6
              have hyb : ((y : Int) == -1) = false := by rw [beq_eq_false_iff_ne]; omega
              have ci : wr.cell? ⟨gI, y, none⟩ = some (.bool (sl.getD y false)) := by
                rw [cell_of_row wr gI y _ _ _ hM.out.row]; exact bools_at sl y (by rw [hW.out.len]; exact hyn)
              have hfz : wr.frozen? ⟨gI, y, none⟩ = false := frozen_of_row wr gI y _ _ hM.out.row
              clear hw hwr hy
              cases hs : sl.getD y false with
              | true =>
                rw [hs] at ci
                have HN : Hid (WInv n P K V Wr sl st' fl) := hW.out.old y hyn HY.out hs
                clear hs hfz
                go_wp2_with fail
                go_roundg (2 * cf sl + st'.length)
                case rel => exact ⟨sl, st', fl, _, rfl, rfl, rfl, rfl, HMP, HN⟩
                case measure => exact mlow
              | false =>
                rw [hs] at ci
                have HN : Hid (WInv n P K V Wr (sl.set y true) (st' ++ [y]) fl) := hW.out.new HND.out y hyn HY.out hs
                have HC : Hid _ := cf_set sl y (by rw [hW.out.len]; exact hyn) hs
                have HM1 : Hid _ := (HMP.out.setI hSI y).alloc (.cells #[.int .i64 (y : Int)] 3)
                clear hs
                obtain ⟨i3, hi3, hs3⟩ := info3
                have HI3 : Hid _ := hi3
                clear hi3
                go_wp2_with (at_builtin; refine wpList_append_fits _ (by rfl) _ _ 25 (by rfl) 0 3 i3 1 Try.underlying25 HI3.out hs3 gS st'.length n (nums st') (by rfl) HM1.out.own ⟨wr.heap.size, 0, none⟩ 1 1 [.int .i64 (y : Int)] (by rfl) (by rfl) ?_ ?_ (by omega) ?_)
                · exact new_cell wr gI y _ _
                · intro u hu
                  rw [List.mem_singleton] at hu
                  subst hu
                  rfl
                · intro w2 ho hgr
                  have HM2 : Hid (SMem W gI gS n (sl.set y true) (st' ++ [y]) w2) := HM1.out.push hSI hgr ho
                  clear ho hgr HM1
                  go_wp2_with fail
                  go_roundg (2 * cf (sl.set y true) + (st' ++ [y]).length)
                  case rel => exact ⟨_, _, fl, _, rfl, rfl, by show _ = _; simp, rfl, HM2, HN⟩
                  case measure => have := HC.out; simp; omega
          · have kb2 : (K x == 2) = false := by rw [beq_eq_false_iff_ne]; exact k2
            obtain ⟨k1, hp⟩ : K x = 1 ∧ P x = false := by
              rcases HND.out with h | ⟨h, h', _⟩
              · exact absurd h k2
              · exact ⟨h, h'⟩
            have kb1 : (K x == 1) = true := by rw [k1]; rfl
            have vb : ((v : Int) != -1) = true := by rw [bne_iff_ne]; omega
            rw [hp] at q2
            clear k2 k1 hp
            skip
            by_cases hw : Wr v = -1
            · have HN : Hid (WInv n P K V Wr sl st' true) := hW.out.lack HND.out (by rw [HV.out]; simpa using hw)
              rw [hw] at q6
              clear hw hwr
              go_wp2_with fail
              go_roundg (2 * cf sl + st'.length)
              case rel => exact ⟨sl, st', true, _, rfl, rfl, rfl, rfl, HMP, HN⟩
              case measure => exact mlow
            · obtain ⟨y, hy⟩ := Int.eq_ofNat_of_zero_le (show 0 ≤ Wr v by omega)
              have hyn : y < n := by omega
              have hyi : (y : Int) < (n : Int) := by omega
              have HY : Hid (Wr (V x).toNat = (y : Int)) := by show _ = _; rw [HV.out]; simpa using hy
              rw [hy] at q6
              have hyb : ((y : Int) == -1) = false := by rw [beq_eq_false_iff_ne]; omega
              have ci : wr.cell? ⟨gI, y, none⟩ = some (.bool (sl.getD y false)) := by
                rw [cell_of_row wr gI y _ _ _ hM.out.row]; exact bools_at sl y (by rw [hW.out.len]; exact hyn)
              have hfz : wr.frozen? ⟨gI, y, none⟩ = false := frozen_of_row wr gI y _ _ hM.out.row
              clear hw hwr hy
              cases hs : sl.getD y false with
              | true =>
                rw [hs] at ci
                have HN : Hid (WInv n P K V Wr sl st' fl) := hW.out.old y hyn HY.out hs
                clear hs hfz
                go_wp2_with fail
                go_roundg (2 * cf sl + st'.length)
                case rel => exact ⟨sl, st', fl, _, rfl, rfl, rfl, rfl, HMP, HN⟩
                case measure => exact mlow
              | false =>
                rw [hs] at ci
                have HN : Hid (WInv n P K V Wr (sl.set y true) (st' ++ [y]) fl) := hW.out.new HND.out y hyn HY.out hs
                have HC : Hid _ := cf_set sl y (by rw [hW.out.len]; exact hyn) hs
                have HM1 : Hid _ := (HMP.out.setI hSI y).alloc (.cells #[.int .i64 (y : Int)] 3)
                clear hs
                obtain ⟨i3, hi3, hs3⟩ := info3
                have HI3 : Hid _ := hi3
                clear hi3
                go_wp2_with (at_builtin; refine wpList_append_fits _ (by rfl) _ _ 25 (by rfl) 0 3 i3 1 Try.underlying25 HI3.out hs3 gS st'.length n (nums st') (by rfl) HM1.out.own ⟨wr.heap.size, 0, none⟩ 1 1 [.int .i64 (y : Int)] (by rfl) (by rfl) ?_ ?_ (by omega) ?_)
                · exact new_cell wr gI y _ _
                · intro u hu
                  rw [List.mem_singleton] at hu
                  subst hu
                  rfl
                · intro w2 ho hgr
                  have HM2 : Hid (SMem W gI gS n (sl.set y true) (st' ++ [y]) w2) := HM1.out.push hSI hgr ho
                  clear ho hgr HM1
                  go_wp2_with fail
                  go_roundg (2 * cf (sl.set y true) + (st' ++ [y]).length)
                  case rel => exact ⟨_, _, fl, _, rfl, rfl, by show _ = _; simp, rfl, HM2, HN⟩
                  case measure => have := HC.out; simp; omega
        · have HN : Hid (WInv n P K V Wr sl st' fl) := hW.out.idle hnd
          have HND : Hid _ := hnd
          clear hnd
          have nk2 : (K x == 2) = false := by rw [beq_eq_false_iff_ne]; exact fun e => HND.out (.inl e)
          by_cases k1 : K x = 1
          · have kb1 : (K x == 1) = true := by rw [k1]; rfl
            cases hp : P x with
            | true =>
              rw [hp] at q2
              clear k1 hp
              go_wp2_with fail
              go_roundg (2 * cf sl + st'.length)
              case rel => exact ⟨sl, st', fl, _, rfl, rfl, rfl, rfl, HMP, HN⟩
              case measure => exact mlow
            | false =>
              rw [hp] at q2
              have vb : (V x != -1) = false := by
                by_cases hv : V x = -1
                · rw [hv]; rfl
                · exact absurd (.inr ⟨k1, hp, hv⟩) HND.out
              clear k1 hp
              go_wp2_with fail
              go_roundg (2 * cf sl + st'.length)
              case rel => exact ⟨sl, st', fl, _, rfl, rfl, rfl, rfl, HMP, HN⟩
              case measure => exact mlow
          · have kb1 : (K x == 1) = false := by rw [beq_eq_false_iff_ne]; exact k1
            clear k1
            go_wp2_with fail
            go_roundg (2 * cf sl + st'.length)
            case rel => exact ⟨sl, st', fl, _, rfl, rfl, rfl, rfl, HMP, HN⟩
            case measure => exact mlow
  case rest =>
    obtain ⟨sl, fl, rfl, hM, hW⟩ := hcut
    rename_i hk
    refine hk _ _ (tailD n m P K V Wr Z0 Z1 Z5 ok b0 b1 b2 b3 b4 b5 b6 d0 d1 d2 d3 d4 d5 d6 g0 g1 g2 g3 g4 g5 g6 gI fl sl w0 wc hn (hM.out.keep.dst D0.out x0 y0) (hM.out.keep.dst D1.out x1 y1) (hM.out.keep.dst D2.out x2 y2) (hM.out.keep.dst D3.out x3 y3) (hM.out.keep.dst D4.out x4 y4) (hM.out.keep.dst D5.out x5 y5) (hM.out.keep.dst D6.out x6 y6)
      (hM.out.keep.below hb0.out l1 l2) hM.out.row hW.out.len hW.out.fin _ _ _ _ _ _ _ _ _ _ _ _ _ _ _ _ _ _ _ _ _ _ _ _ _ _ _ _ _ _ _ _ _ _ _ _ _ _ _ _ _ _ _ _ _ _ _ _ _ _ _ _ _ _ _ _ _ _ _ _ _ _ _ _ _ _ _ _ _ _ _ _ _ _ _ _ _ _ _ _ _ _ _ _ _ _ _ _ _ _ _ _ _ _ _ _ _ _ _ _ _ _ _ _ _ _ _ _ _ _ _ _ _ _ _ _ _ _ _ _ _ _ _ _ _ _ _ _ _ _ _ _ _ _ _ _ _ _ _ _ _ _ _ _ _ _ _ _ _ _ _ _ _ _ _ _ _ _ _ _ _ _ _ _ _ _ _ _ _ _ _ _ _ _ _ _ _ _ _ _ _ _ _ _ _ _ _ _ _ _ _ _ _ _ _ _ _ _ _ _ _ _ _ _ _ _ _ _ _ _ _ _ _ _ _ _ _ _ _ _ _ _ _ _ _ _ _ _ _ _ _ _ _ _ _ _ _ _ _ _ _ _ _ _ _ _ _ _ _ _ _ _ _ _ _ _ _ _ _ _ _ _ _ _ _ _ _ _ _ _ _ _ _ _ _ _ _ _ _ _ _ _ _ _ _ _ _ _ _ _ _ _ _ _ _ _ _ _ _ _ _ _ _ _ _ _ _ _ _ _ _ _ _ _ _ _ _ _ _ _ _ _ _ _ _ _ _ _ _ _ _ _ _ _ _ _ _ _ _ _ _ _)

end Go.Proofs.Qxb6619224a
