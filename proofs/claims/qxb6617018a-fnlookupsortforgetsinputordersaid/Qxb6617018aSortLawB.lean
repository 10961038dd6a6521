/- Two lookups side by side. -/
import Derived.Test.Qxb6617018aSortLawA
namespace Go.Proofs.Qxb6617018a
open Go.RowKit

/-- Is x one of the blocks of a lookup that is being built? -/
def InLb (bl : Nat) (v : Value) (bs : Nat → Nat) (n x : Nat) : Prop := x = bl ∨ v.ownBlock = some x ∨ ∃ y, y < n ∧ bs y = x

section
variable {w w' : World} {B bl bl1 bl2 blk n n1 n2 c : Nat} {v v1 v1' v2 : Value} {tg : List UInt8} {bs bs1 bs1' bs2 : Nat → Nat} {I I1 I2 : Nat → List UInt8} {K K1 K2 : Nat → Bool} {H H1 H2 : Nat → Int}

theorem Lb.lt (h : Lb w B bl v n tg bs I K H) {x : Nat} (hx : InLb bl v bs n x) : x < w.heap.size := by
  rcases hx with rfl | e | ⟨y, hy, rfl⟩
  · exact World.block_lt_of_cell? w _ h.cands
  · exact (h.own.lt x e).2
  · exact World.block_lt_of_cell? w _ (h.known y hy)

/-- A lookup whose blocks stand as they stood. -/
theorem Lb.keep (h : Lb w B bl v n tg bs I K H) (hk : ∀ x, InLb bl v bs n x → w'.heap[x]? = w.heap[x]?) : Lb w' B bl v n tg bs I K H := by
  have hbl := hk bl (.inl rfl)
  have hbs : ∀ y, y < n → w'.heap[bs y]? = w.heap[bs y]? := fun y hy => hk _ (.inr (.inr ⟨y, hy, rfl⟩))
  refine { cands := ?_, fz := ?_, tgt := ?_, tlen := h.tlen, own := ?_, id := ?_, ilen := h.ilen, known := ?_, hop := ?_, ne := h.ne, nes := h.nes, bsl := h.bsl, bl_ge := h.bl_ge, bs_ge := h.bs_ge }
  · rw [World.cell?_of_block hbl]; exact h.cands
  · rw [World.frozen?_of_block hbl]; exact h.fz
  · intro j u hj; rw [World.cell?_of_block hbl]; exact h.tgt j u hj
  · refine ⟨h.own.1, ?_⟩
    rcases h.own.2 with q | ⟨g, cap, cur, rfl, hb, hg, rest⟩
    · exact .inl q
    · exact .inr ⟨g, cap, cur, rfl, hb, (hk g (.inr (.inl rfl))).trans hg, rest⟩
  · intro x hx j u hj; rw [World.cell?_of_block (hbs x hx)]; exact h.id x hx j u hj
  · intro x hx; rw [World.cell?_of_block (hbs x hx)]; exact h.known x hx
  · intro x hx; rw [World.cell?_of_block (hbs x hx)]; exact h.hop x hx

/-- Two lookups that are being built, no block of the one the other's to write. -/
structure Two (w : World) (B : Nat) (tg : List UInt8) (bl1 : Nat) (v1 : Value) (n1 : Nat) (bs1 : Nat → Nat) (I1 : Nat → List UInt8) (K1 : Nat → Bool) (H1 : Nat → Int) (bl2 : Nat) (v2 : Value) (n2 : Nat) (bs2 : Nat → Nat) (I2 : Nat → List UInt8) (K2 : Nat → Bool) (H2 : Nat → Int) : Prop where
  a : Lb w B bl1 v1 n1 tg bs1 I1 K1 H1
  b : Lb w B bl2 v2 n2 tg bs2 I2 K2 H2
  ab : ∀ x, InLb bl1 v1 bs1 n1 x → x ≠ bl2 ∧ v2.ownBlock ≠ some x
  ba : ∀ x, InLb bl2 v2 bs2 n2 x → x ≠ bl1 ∧ v1.ownBlock ≠ some x

theorem Two.swap (h : Two w B tg bl1 v1 n1 bs1 I1 K1 H1 bl2 v2 n2 bs2 I2 K2 H2) : Two w B tg bl2 v2 n2 bs2 I2 K2 H2 bl1 v1 n1 bs1 I1 K1 H1 := ⟨h.b, h.a, h.ba, h.ab⟩
theorem Two.drew (h : Two w B tg bl1 v1 n1 bs1 I1 K1 H1 bl2 v2 n2 bs2 I2 K2 H2) : Two w.drew B tg bl1 v1 n1 bs1 I1 K1 H1 bl2 v2 n2 bs2 I2 K2 H2 := ⟨h.a.drew, h.b.drew, h.ab, h.ba⟩

/-- A candidate is added to the first. -/
theorem Two.add (h : Two w B tg bl1 v1 n1 bs1 I1 K1 H1 bl2 v2 n2 bs2 I2 K2 H2) (k : Added w w' B bl1 v1 v1' n1 tg bs1 bs1' I1 K1 H1) : Two w' B tg bl1 v1' (n1 + 1) bs1' I1 K1 H1 bl2 v2 n2 bs2 I2 K2 H2 := by
  have l2 : ∀ x, InLb bl2 v2 bs2 n2 x → x < w.heap.size := fun x hx => h.b.lt hx
  refine ⟨k.lb, h.b.keep fun x hx => k.block x (l2 x hx) (h.ba x hx).1 (fun e => (h.ba x hx).2 e.symm), fun x hx => ?_, fun x hx => ?_⟩
  · have fresh : w.heap.size ≤ x → x ≠ bl2 ∧ v2.ownBlock ≠ some x := fun q =>
      ⟨fun e => by have := l2 bl2 (.inl rfl); omega, fun e => by have := l2 x (.inr (.inl e)); omega⟩
    rcases hx with rfl | e | ⟨y, hy, rfl⟩
    · exact h.ab _ (.inl rfl)
    · rcases k.own x e with e1 | e1
      · exact h.ab _ (.inr (.inl e1))
      · exact fresh e1
    · by_cases q : y = n1
      · subst q; exact fresh k.new
      · rw [k.old y (by omega)]; exact h.ab _ (.inr (.inr ⟨y, by omega, rfl⟩))
  · refine ⟨(h.ba x hx).1, fun e => ?_⟩
    rcases k.own x e with e1 | e1
    · exact (h.ba x hx).2 e1
    · have := l2 x hx; omega

/-- A lookup in memory, where one other block has been written. -/
theorem Lk.keep {p : Option Addr} {d : Nat → Nat} {z : Nat} (h : Lk w bl blk p n c tg bs I K H d) (k : w.grownBy w' (some z)) (h1 : bl ≠ z) (h2 : ∀ x, x < n → bs x ≠ z) (h3 : 0 < n → blk ≠ z) : Lk w' bl blk p n c tg bs I K H d := by
  have n1 : some bl ≠ some z := fun e => h1 (by injection e)
  have n2 : ∀ x, x < n → some (bs x) ≠ some z := fun x hx e => h2 x hx (by injection e)
  have n3 : ∀ x, x < n → some blk ≠ some z := fun x hx e => h3 (by omega) (by injection e)
  exact { hp := h.hp, cands := k.cell h.cands n1, fz := by rw [World.frozen?_of_block (k.block bl h.block_lt n1)]; exact h.fz, tgt := range_grown h.tgt k n1, tlen := h.tlen, id := fun x hx => range_grown (h.id x hx) k (n2 x hx), ilen := h.ilen,
          known := fun x hx => k.cell (h.known x hx) (n2 x hx), hop := fun x hx => k.cell (h.hop x hx) (n2 x hx),
          row := fun x hx => ⟨k.cell (h.row x hx).1 (n3 x hx), by rw [World.frozen?_of_block (k.block blk (World.block_lt_of_cell? w _ (h.row x hx).1) (n3 x hx))]; exact (h.row x hx).2⟩, ne := h.ne, nes := h.nes }

theorem InLb.row (e : v.ownBlock = some blk ∨ blk = bl) : InLb bl v bs n blk := by
  rcases e with e | e
  · exact .inr (.inl e)
  · exact .inl e

/-- The first is sorted: the second stands. -/
theorem Two.other {p : Option Addr} {d : Nat → Nat} {blk1 blk2 : Nat} (h : Two w B tg bl1 v1 n1 bs1 I1 K1 H1 bl2 v2 n2 bs2 I2 K2 H2) (e1 : v1.ownBlock = some blk1 ∨ blk1 = bl1) (e2 : v2.ownBlock = some blk2 ∨ blk2 = bl2) {W W' : World}
    (hl : Lk W bl2 blk2 p n2 c tg bs2 I2 K2 H2 d) (k : W.grownBy W' (some blk1)) : Lk W' bl2 blk2 p n2 c tg bs2 I2 K2 H2 d := by
  have hne : ∀ x, InLb bl2 v2 bs2 n2 x → x ≠ blk1 := fun x hx e => by
    subst e
    rcases e1 with e1 | e1
    · exact (h.ba x hx).2 e1
    · exact (h.ba x hx).1 e1
  exact hl.keep k (hne _ (.inl rfl)) (fun y hy => hne _ (.inr (.inr ⟨y, hy, rfl⟩))) (fun _ => hne _ (InLb.row e2))

/-- Both empty. -/
theorem Two.start (ha : Lb w B bl1 (.slice none 0 0) 0 tg bs1 I1 K1 H1) (hb : Lb w B bl2 (.slice none 0 0) 0 tg bs2 I2 K2 H2) (hne : bl1 ≠ bl2) : Two w B tg bl1 (.slice none 0 0) 0 bs1 I1 K1 H1 bl2 (.slice none 0 0) 0 bs2 I2 K2 H2 := by
  refine ⟨ha, hb, fun x hx => ?_, fun x hx => ?_⟩
  · rcases hx with rfl | e | ⟨y, hy, _⟩
    · exact ⟨hne, by simp [Value.ownBlock]⟩
    · simp [Value.ownBlock] at e
    · omega
  · rcases hx with rfl | e | ⟨y, hy, _⟩
    · exact ⟨fun e => hne e.symm, by simp [Value.ownBlock]⟩
    · simp [Value.ownBlock] at e
    · omega
end

theorem foldC (l : List UInt8) (h : l.length = 20) : ∃ D, Array.foldl (fun cs x => cs.setIfInBounds x.snd x.fst) #[Value.int IntKind.u8 0, Value.int IntKind.u8 0, Value.int IntKind.u8 0, Value.int IntKind.u8 0, Value.int IntKind.u8 0, Value.int IntKind.u8 0, Value.int IntKind.u8 0, Value.int IntKind.u8 0, Value.int IntKind.u8 0, Value.int IntKind.u8 0, Value.int IntKind.u8 0, Value.int IntKind.u8 0, Value.int IntKind.u8 0, Value.int IntKind.u8 0, Value.int IntKind.u8 0, Value.int IntKind.u8 0, Value.int IntKind.u8 0, Value.int IntKind.u8 0, Value.int IntKind.u8 0, Value.int IntKind.u8 0, Value.bool false] (arrv l).zipIdx 0 20 = D ∧ D.size = 21 ∧ ∀ k, D.setIfInBounds 20 (Value.bool k) = candv l k := by
  obtain ⟨a0, a1, a2, a3, a4, a5, a6, a7, a8, a9, a10, a11, a12, a13, a14, a15, a16, a17, a18, a19, rfl⟩ := list20 l h
  refine ⟨_, rfl, ?_, fun k => ?_⟩ <;> kernel_rfl

theorem fields37 : Try.prog.fieldsOf 37 = #[{ name := "ID", type := 22, offset := 0, embedded := false, tag := "", pkgPath := "", byteOffset := 0 }, { name := "Known", type := 4, offset := 20, embedded := false, tag := "", pkgPath := "", byteOffset := 20 }] := by
  unfold Program.fieldsOf; rw [Try.underlying37]

theorem part22 (l : List UInt8) (k : Bool) (h : l.length = 20) (w : World) : (part 22 (candv l k) 0).run Try.prog w = .ok (.agg (arrv l)) w := by
  have hs : (arrv l).size = 20 := by rw [arrv_size, h]
  have hi : (Try.prog.info? 22).map (·.size) = some 20 := by kernel_rfl
  obtain ⟨i, hi1, hi2⟩ := Option.map_eq_some_iff.1 hi
  have he : (candv l k).extract 0 20 = arrv l := by
    rw [candv, Array.extract_append, hs]
    have : (arrv l).extract 0 20 = arrv l := by rw [← hs]; exact Array.extract_size
    rw [this]; simp
  simp [part, isAgg, run_underlying Try.underlying22, sizeOf, typeInfo, hi1, hi2, he]

theorem part4 (l : List UInt8) (k : Bool) (h : l.length = 20) (w : World) : (part 4 (candv l k) 20).run Try.prog w = .ok (.bool k) w := by
  simp [part, isAgg, run_underlying Try.underlying4, candv_last l k h]

theorem eqFields37 (d : Nat) (l : List UInt8) (k : Bool) (h : l.length = 20) (w : World) (e0 : (Op.equalIn d 22 (.agg (arrv l)) (.agg (arrv l))).run Try.prog w = .ok true w) (e1 : (Op.equalIn d 4 (.bool k) (.bool k)).run Try.prog w = .ok true w) :
    (Op.eqFields d (candv l k) (candv l k) (Try.prog.fieldsOf 37).toList).run Try.prog w = .ok true w := by
  rw [fields37]
  simp [Op.eqFields, part22 l k h w, part4 l k h w, e0, e1]

/-- Two Cands of one text are equal. -/
theorem equal37d (d : Nat) (l : List UInt8) (k : Bool) (h : l.length = 20) (w : World) : (Op.equalIn (d + 3) 37 (.agg (candv l k)) (.agg (candv l k))).run Try.prog w = .ok true w := by
  rw [run_equalIn_struct w (d + 2) 37 _ _ (by rw [fields37]; exact Try.underlying37) Try.stoodInHeld37]
  refine eqFields37 (d + 2) l k h w ?_ ?_
  · have := run_equalIn_bytes (P := Try.prog) w d 22 5 20 Try.underlying22 Try.underlying5 (fun w => by kernel_rfl) l l h h
    rw [beq_self_eq_true] at this
    exact this
  · rw [run_equalIn_bool' w (d + 1) 4 k k Try.underlying4, beq_self_eq_true]
theorem equal37 (l : List UInt8) (k : Bool) (h : l.length = 20) (w : World) : (Op.equalIn 10000 37 (.agg (candv l k)) (.agg (candv l k))).run Try.prog w = .ok true w := equal37d 9997 l k h w
end Go.Proofs.Qxb6617018a
