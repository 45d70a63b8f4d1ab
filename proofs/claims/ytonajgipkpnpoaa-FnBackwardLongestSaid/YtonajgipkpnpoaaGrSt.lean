/- The state of an edit graph, and the small methods of the road from the end. -/
import Derived.Test.YtonajgipkpnpoaaGrSeq
namespace Go.Proofs.Ytonajgipkpnpoaa.Gr
open Go.RowKit Go.Proofs.YtonajgipkpnpoaaW.PrintWords Go.Myers

/-- one step: what is not F stays -/
structure Step (W W' : World) (F F' : Nat → Prop) : Prop where
  os : W'.os = W.os
  tape : W'.tape = W.tape
  output : W'.output = W.output
  size : W.heap.size ≤ W'.heap.size
  keep : ∀ k, k < W.heap.size → ¬ F k → W'.heap[k]? = W.heap[k]?
  new : ∀ k, F' k → F k ∨ W.heap.size ≤ k

theorem Step.refl (W : World) (F : Nat → Prop) : Step W W F F := ⟨rfl, rfl, rfl, Nat.le_refl _, fun _ _ _ => rfl, fun _ h => Or.inl h⟩

theorem Step.trans {W W1 W2 : World} {F F1 F2 : Nat → Prop} (h : Step W W1 F F1) (h' : Step W1 W2 F1 F2) : Step W W2 F F2 :=
  ⟨h'.os.trans h.os, h'.tape.trans h.tape, h'.output.trans h.output, Nat.le_trans h.size h'.size, fun k hk hF => (h'.keep k (Nat.lt_of_lt_of_le hk h.size) (fun hf => (h.new k hf).elim hF (fun e => by omega))).trans (h.keep k hk hF), fun k hk => (h'.new k hk).elim (fun h1 => h.new k h1) (fun h1 => Or.inr (Nat.le_trans h.size h1))⟩

theorem Step.of_below {W W' : World} {F : Nat → Prop} (h : Below W.heap.size W W') : Step W W' F F := ⟨h.os, h.tape, h.output, h.size, fun k hk _ => h.block k hk, fun _ h => Or.inl h⟩

theorem Step.below {W W' : World} {F F' : Nat → Prop} (h : Step W W' F F') {B : Nat} (hB : ∀ k, F k → B ≤ k) (hs : B ≤ W.heap.size) : Below B W W' :=
  ⟨h.os, h.tape, h.output, h.size, fun k hk => h.keep k (by omega) (fun hf => by have := hB k hf; omega)⟩

def egC (sq vf vb : Value) (lim ux uy dl : Int) : Array Value := #[sq, vf, vb, .int .i64 lim, .int .i64 0, .int .i64 0, .int .i64 ux, .int .i64 uy, .int .i64 dl]

structure EGx (W : World) (B ge : Nat) (sq : Value) (lim ux uy dl : Int) (F : Nat → Prop) (nf : Nat) (Lf : Nat → Nat → Int) (nb : Nat) (Lb : Nat → Nat → Int) (vf vb : Value) (Ff Fb : Nat → Prop) : Prop where
  cells : W.heap[ge]? = some (.cells (egC sq vf vb lim ux uy dl) 85 (0, 0))
  tf : Tri W B Ff vf nf Lf
  tb : Tri W B Fb vb nb Lb
  dis : ∀ k, Ff k → ¬ Fb k
  gf : ¬ Ff ge
  gb : ¬ Fb ge
  F : ∀ k, F k ↔ (Ff k ∨ Fb k ∨ k = ge)
  lo : B ≤ ge

def EG (W : World) (B ge : Nat) (sq : Value) (lim ux uy dl : Int) (F : Nat → Prop) (nf : Nat) (Lf : Nat → Nat → Int) (nb : Nat) (Lb : Nat → Nat → Int) : Prop :=
  ∃ vf vb Ff Fb, EGx W B ge sq lim ux uy dl F nf Lf nb Lb vf vb Ff Fb

section
variable {W W' : World} {B ge : Nat} {sq : Value} {lim ux uy dl : Int} {F : Nat → Prop} {nf : Nat} {Lf : Nat → Nat → Int} {nb : Nat} {Lb : Nat → Nat → Int}

theorem EG.lo (h : EG W B ge sq lim ux uy dl F nf Lf nb Lb) : ∀ k, F k → B ≤ k := by
  obtain ⟨vf, vb, Ff, Fb, h⟩ := h
  intro k hk
  rcases (h.F k).1 hk with h1 | h1 | h1
  · obtain ⟨_, _, _, t⟩ := h.tf; exact (t.lo k h1).1
  · obtain ⟨_, _, _, t⟩ := h.tb; exact (t.lo k h1).1
  · rw [h1]; exact h.lo

theorem EG.size (h : EG W B ge sq lim ux uy dl F nf Lf nb Lb) : ∀ k, F k → k < W.heap.size := by
  obtain ⟨vf, vb, Ff, Fb, h⟩ := h
  intro k hk
  rcases (h.F k).1 hk with h1 | h1 | h1
  · obtain ⟨_, _, _, t⟩ := h.tf; exact (t.lo k h1).2
  · obtain ⟨_, _, _, t⟩ := h.tb; exact (t.lo k h1).2
  · rw [h1]; exact blk_lt h.cells

theorem EG.base (h : EG W B ge sq lim ux uy dl F nf Lf nb Lb) : B ≤ W.heap.size := by
  obtain ⟨vf, vb, Ff, Fb, h⟩ := h
  have := h.lo
  have := blk_lt h.cells
  omega

theorem EG.below (h : EG W B ge sq lim ux uy dl F nf Lf nb Lb) (hb : Below W.heap.size W W') : EG W' B ge sq lim ux uy dl F nf Lf nb Lb := by
  obtain ⟨vf, vb, Ff, Fb, h⟩ := h
  exact ⟨vf, vb, Ff, Fb, (hb.block ge (blk_lt h.cells)).trans h.cells, h.tf.below hb, h.tb.below hb, h.dis, h.gf, h.gb, h.F, h.lo⟩

/-- a label of the road from the end was set -/
theorem EG.setb {D j : Nat} {x : Int} {vf vb : Value} {Ff Fb : Nat → Prop} (h : EGx W B ge sq lim ux uy dl F nf Lf nb Lb vf vb Ff Fb) (hp : SetPost W B ge 2 (egC sq vf vb lim ux uy dl) Fb nb Lb D j x W') :
    ∃ F' L', Step W W' F F' ∧ EG W' B ge sq lim ux uy dl F' nf Lf (if D < nb then nb else D + 1) L' ∧ L' D j = x ∧ (∀ d i, d < nb → ¬ (d = D ∧ i = j) → L' d i = Lb d i) := by
  obtain ⟨v', F', L', hc, ht, hn, hg, h1, h2⟩ := hp.ex
  have hFf : ∀ k, Ff k → k < W.heap.size ∧ k ≠ ge ∧ ¬ Fb k := fun k hk => by
    refine ⟨?_, fun e => h.gf (by rw [← e]; exact hk), h.dis k hk⟩
    obtain ⟨_, _, _, t⟩ := h.tf; exact (t.lo k hk).2
  refine ⟨fun k => Ff k ∨ F' k ∨ k = ge, L', ⟨hp.os, hp.tape, hp.output, hp.size, fun k hk hF => hp.keep k hk (fun e => hF ((h.F k).2 (Or.inr (Or.inr e)))) (fun e => hF ((h.F k).2 (Or.inr (Or.inl e)))), fun k hk => ?_⟩, ⟨vf, v', Ff, F', ?_, ?_, ht, fun k hk hk' => ?_, h.gf, hg, fun k => Iff.rfl, h.lo⟩, h1, h2⟩
  · rcases hk with hk | hk | hk
    · exact Or.inl ((h.F k).2 (Or.inl hk))
    · rcases hn k hk with h3 | h3
      · exact Or.inl ((h.F k).2 (Or.inr (Or.inl h3)))
      · exact Or.inr h3
    · exact Or.inl ((h.F k).2 (Or.inr (Or.inr hk)))
  · exact hc
  · exact h.tf.move hp.size (fun k hk => hp.keep k (hFf k hk).1 (hFf k hk).2.1 (hFf k hk).2.2)
  · rcases hn k hk' with h3 | h3
    · exact (hFf k hk).2.2 h3
    · have := (hFf k hk).1; omega
end

/-- a slice of the sequences -/
def RdA (W : World) (F : Nat → Prop) (A : Option Addr) (n c : Nat) (f : Nat → Int) : Prop := 0 < n → ∃ b o, A = some ⟨b, o, none⟩ ∧ n ≤ c ∧ ¬ F b ∧ b < W.heap.size ∧ Rd W b o n f

theorem Rd.congr {W W' : World} {b o n : Nat} {f : Nat → Int} (h : Rd W b o n f) (he : W'.heap[b]? = W.heap[b]?) : Rd W' b o n f := fun i hi => by
  rw [← h i hi]
  simp [World.cell?, he]

theorem RdA.step {W W' : World} {F F' : Nat → Prop} {A : Option Addr} {n c : Nat} {f : Nat → Int} (h : RdA W F A n c f) (hs : Step W W' F F') : RdA W' F' A n c f := fun hn => by
  obtain ⟨b, o, h1, h2, h3, h4, h5⟩ := h hn
  exact ⟨b, o, h1, h2, fun hf => (hs.new b hf).elim h3 (fun e => by omega), Nat.lt_of_lt_of_le h4 hs.size, h5.congr (hs.keep b h4 h3)⟩

/-- the sequences of an edit graph -/
def SQ (W : World) (F : Nat → Prop) (sq : Value) (E : Nat → Nat → Bool) (N M : Nat) : Prop :=
  ∃ A1 c1 A2 c2 f g, sq = .iface 75 (.agg #[.slice A1 N c1, .slice A2 M c2]) ∧ E = (fun i j => f i == g j) ∧ RdA W F A1 N c1 f ∧ RdA W F A2 M c2 g ∧ N ≤ 1099511627776 ∧ M ≤ 1099511627776

theorem SQ.step {W W' : World} {F F' : Nat → Prop} {sq : Value} {E : Nat → Nat → Bool} {N M : Nat} (h : SQ W F sq E N M) (hs : Step W W' F F') : SQ W' F' sq E N M := by
  obtain ⟨A1, c1, A2, c2, f, g, h1, h2, h3, h4, h5⟩ := h
  exact ⟨A1, c1, A2, c2, f, g, h1, h2, h3.step hs, h4.step hs, h5⟩

/-- the index of a label -/
def ix (D : Nat) (k : Int) : Nat := (((D : Int) + k) / 2).toNat

theorem ix_of {D : Nat} {k : Int} (h : valid D k) : (D : Int) + k = 2 * ix D k ∧ ix D k ≤ D := by
  obtain ⟨h1, h2, h3⟩ := h
  unfold ix
  omega

section
variable {W : World} {B ge : Nat} {sq : Value} {lim ux uy dl : Int} {F : Nat → Prop} {nf : Nat} {Lf : Nat → Nat → Int} {nb : Nat} {Lb : Nat → Nat → Int}

set_option maxRecDepth 100000 in
theorem get_back (h : EG W B ge sq lim ux uy dl F nf Lf nb Lb) (D : Nat) (k : Int) (hv : valid D k) (hD : D < nb) (hn : D < 1099511627776) :
    Calls Try.prog 34 #[.pointer (some ⟨ge, 0, none⟩), .int .i64 D, .int .i64 k] W fun e w' => e = .returned (.int .i64 (Lb D (ix D k))) ∧ W = w' := by
  obtain ⟨vf, vb, Ff, Fb, h⟩ := h
  have hi := ix_of hv
  have hg := label_get W B ge 2 Fb vb nb Lb ((blk_cell h.cells 2).trans rfl) h.tb D (ix D k) k hD hi.1 hi.2 hn
  clear h hi
  go_enter Try.func34, Try.ntmps34
  go_wp2_with (go_at_call 42; refine hg.mono ?_; rintro e w' ⟨rfl, rfl⟩)
  go_ret
  exact ⟨rfl, rfl⟩

set_option maxRecDepth 100000 in
theorem look_back (h : EG W B ge sq lim ux uy dl F nf Lf nb Lb) {E : Nat → Nat → Bool} {N M : Nat} (hs : SQ W F sq E N M) (k r : Int) (hk : -1099511627776 ≤ k ∧ k ≤ 1099511627776) (hr : -1099511627776 ≤ r ∧ r ≤ N) (hy : r - (k + dl) ≤ M) (hdl : -1099511627776 ≤ dl ∧ dl ≤ 1099511627776) :
    Calls Try.prog 35 #[.pointer (some ⟨ge, 0, none⟩), .int .i64 k, .int .i64 r] W fun e w' => e = .returned (.int .i64 (Go.Myers.look E dl k r)) ∧ Below W.heap.size W w' := by
  obtain ⟨vf, vb, Ff, Fb, h⟩ := h
  obtain ⟨A1, c1, A2, c2, f, g, rfl, rfl, ha, hb, hN, hM⟩ := hs
  have cell := fun i => blk_cell h.cells i
  have c0 := cell 0
  have c4 := cell 4
  have c5 := cell 5
  have c8 := cell 8
  simp [egC] at c0 c4 c5 c8
  clear cell h
  go_enter Try.func35, Try.ntmps35
  by_cases hp : 0 < r
  · by_cases hq : 0 < r - (k + dl)
    · obtain ⟨b1, o1, rfl, hc1, _, hb1, hf⟩ := ha (by omega)
      obtain ⟨b2, o2, rfl, hc2, _, hb2, hg⟩ := hb (by omega)
      obtain ⟨x, rfl⟩ : ∃ x : Nat, r = x := ⟨r.toNat, by omega⟩
      obtain ⟨y, hy2⟩ : ∃ y : Nat, (x : Int) - (k + dl) = y := ⟨((x : Int) - (k + dl)).toNat, by omega⟩
      have hcs := fun q => csl_seqs (W.drewN q) b1 o1 N c1 b2 o2 M c2 f g (hf.drew q) (hg.drew q) hN hM hc1 hc2 x y (by omega) (by omega) (by omega) (by omega)
      have hl : Go.Myers.look (fun i j => f i == g j) dl k x = x - (suf (fun i j => f i == g j) x y : Nat) := by
        unfold Go.Myers.look
        rw [if_pos ⟨hp, hq⟩, hy2]
        rfl
      have hsl := suf_le (E := fun i j => f i == g j) x y
      have HL := Lib.hid hl
      rw [← hy2] at hcs
      have HY := Lib.hid hy2
      clear hl hy2 hf hg ha hb
      have hm : ∀ w, Sem.run Try.prog (method 220 75 (.agg #[.slice (some ⟨b1, o1, none⟩) N c1, .slice (some ⟨b2, o2, none⟩) M c2]) "loop.example/pub-g01452/pub/xdiff_lcs.commonSuffixLen") w = .ok (68, .agg #[.slice (some ⟨b1, o1, none⟩) N c1, .slice (some ⟨b2, o2, none⟩) M c2]) w := fun _ => by kernel_rfl
      go_wp2_with fail
      go_quiet (fail)
      go_wp2_with (go_at_call 68; refine (hcs _).mono ?_; rintro e w' ⟨rfl, o3, q3, rfl⟩)
      go_ret
      refine ⟨by rw [HL.out]; rfl, ?_⟩
      exact below_drewN (below_alloc (below_drewN (Below.refl _ _) _) _) _
    · have hl := look_out (E := fun i j => f i == g j) (dl := dl) (k := k) (r := r) (fun h => hq h.2)
      have HL := Lib.hid hl
      clear hl
      go_wp2_with fail
      go_quiet (fail)
      go_wp2_with fail
      go_ret
      exact ⟨by rw [HL.out]; rfl, below_drewN (Below.refl _ _) _⟩
  · have hl := look_out (E := fun i j => f i == g j) (dl := dl) (k := k) (r := r) (fun h => hp h.1)
    have HL := Lib.hid hl
    clear hl
    go_wp2_with fail
    go_quiet (fail)
    go_wp2_with fail
    go_ret
    exact ⟨by rw [HL.out]; rfl, below_drewN (Below.refl _ _) _⟩

theorem label_set (W : World) (B ge c : Nat) (cs0 : Array Value) (F : Nat → Prop) (v : Value) (n : Nat) (L : Nat → Nat → Int) (hg : W.heap[ge]? = some (.cells cs0 85 (0, 0))) (hcv : cs0[c]? = some v) (hT : Tri W B F v n L) (hFg : ¬ F ge) (hBg : B ≤ ge)
    (D j : Nat) (k x : Int) (hD : D ≤ n) (hj : (D : Int) + k = 2 * j) (hjD : j ≤ D) (hn : D < 1099511627776) :
    Calls Try.prog 41 #[.pointer (some ⟨ge, c, none⟩), .int .i64 D, .int .i64 k, .int .i64 x] W fun e w' => e = .returned (.tuple #[]) ∧ SetPost W B ge c cs0 F n L D j x w' := by
  rcases Nat.lt_or_ge D n with h | h
  · exact label_set_old W B ge c cs0 F v n L hg hcv hT hFg hBg D j k x h hj hjD hn
  · obtain rfl : D = n := by omega
    exact label_set_new W B ge c cs0 F v D L hg hcv hT hFg (by have := blk_lt hg; omega) j k x hj hjD hn

/-- what a new label of the road from the end leaves -/
def SetB (W w' : World) (B ge : Nat) (sq : Value) (lim ux uy dl : Int) (F : Nat → Prop) (nf : Nat) (Lf : Nat → Nat → Int) (nb : Nat) (Lb : Nat → Nat → Int) (D j : Nat) (x : Int) : Prop :=
  ∃ F' L', Step W w' F F' ∧ EG w' B ge sq lim ux uy dl F' nf Lf (if D < nb then nb else D + 1) L' ∧ L' D j = x ∧ (∀ d i, d < nb → ¬ (d = D ∧ i = j) → L' d i = Lb d i)

set_option maxRecDepth 100000 in
theorem set_back (h : EG W B ge sq lim ux uy dl F nf Lf nb Lb) {E : Nat → Nat → Bool} {N M : Nat} (hs : SQ W F sq E N M) (D : Nat) (k r : Int) (hv : valid D k) (hD : D ≤ nb) (hn : D < 1099511627776) (hr : -1099511627776 ≤ r ∧ r ≤ N) (hy : r - (k + dl) ≤ M) (hdl : -1099511627776 ≤ dl ∧ dl ≤ 1099511627776) :
    Calls Try.prog 32 #[.pointer (some ⟨ge, 0, none⟩), .int .i64 D, .int .i64 k, .int .i64 r] W fun e w' => e = .returned (.tuple #[]) ∧ SetB W w' B ge sq lim ux uy dl F nf Lf nb Lb D (ix D k) (Go.Myers.look E dl k r) := by
  have hl := look_back h hs k r (by obtain ⟨a, b, _⟩ := hv; omega) hr hy hdl
  have hi := ix_of hv
  have hlk : -2199023255552 ≤ Go.Myers.look E dl k r ∧ Go.Myers.look E dl k r ≤ 1099511627776 := by
    have h1 := look_le (E := E) dl k r
    have hN : N ≤ 1099511627776 := by obtain ⟨_, _, _, _, _, _, _, _, _, _, hN, _⟩ := hs; exact hN
    by_cases hp : 0 < r ∧ 0 < r - (k + dl)
    · have := look_in (E := E) hp.1 hp.2; omega
    · rw [look_out hp] at *; omega
  have H := Aside0.mk h
  have HLK := Lib.hid hi
  clear hs h hi hy hr
  go_enter Try.func32, Try.ntmps32
  go_wp2_with (go_at_call 35; refine hl.mono ?_; rintro e w1 ⟨rfl, hb1⟩)
  have h1 := H.out.below hb1.drew
  have HB := Aside0.mk hb1.drew
  obtain ⟨vf, vb, Ff, Fb, hx⟩ := h1
  have c4 : w1.cell? ⟨ge, 4, none⟩ = some (.int .i64 0) := (blk_cell hx.cells 4).trans rfl
  have hset := label_set w1.drew B ge 2 _ Fb vb nb Lb hx.cells rfl hx.tb hx.gb hx.lo D (ix D k) k (Go.Myers.look E dl k r) hD HLK.out.1 HLK.out.2 hn
  have HX := Aside0.mk hx
  clear hb1 hl hx
  go_still_tail 11, (by kernel_rfl)
  change wpList _ _ _ _ _ w1.drew
  generalize w1.drew = w2 at *
  go_wp2_with (go_at_call 41; refine hset.mono ?_; rintro e w3 ⟨rfl, hp⟩)
  go_end0
  obtain ⟨F', L', s1, s2, s3, s4⟩ := EG.setb HX.out hp
  exact ⟨rfl, F', L', (Step.of_below HB.out).trans s1, s2, s3, s4⟩
end
end Go.Proofs.Ytonajgipkpnpoaa.Gr
