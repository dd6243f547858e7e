/-
  WORLDS ON THE ROAD OF FnEncodedCommitKeepsEverySignature: the commit that the law lays, and its signatures.
-/
import Derived.Test.Qxb6600223aEncoded
import Derived.Test.Qxb6600223aTxLaw
namespace Go.Proofs.Qxb6600223a.TxW
open Go.RowKit

/-- a commit signature's zero. -/
def zero21 : Value := .agg #[.int .u8 0, .int .u8 0, .int .u8 0, .int .u8 0, .int .u8 0, .int .u8 0, .int .u8 0, .int .u8 0, .int .u8 0, .int .u8 0, .int .u8 0, .int .u8 0, .int .u8 0, .int .u8 0, .int .u8 0, .int .u8 0, .int .u8 0, .int .u8 0, .int .u8 0, .int .u8 0, .slice none 0 0]
theorem info49 : (Try.prog.info? 49).map (fun i => (i.zero, i.size, i.bytes)) = some (some zero21, 21, 48) := by kernel_rfl

theorem make49 (m : Nat) (hm : m ≤ 1048576) : ∃ cs : Array Value, ∀ w : World, (Instr.makeSlice 42 (.int .i64 (m : Int)) (.int .i64 (m : Int))).run Try.prog w = .ok (.slice (some ⟨w.heap.size, 0, none⟩) m m) (w.alloc (.cells (madeCells cs (m * 21)) 49)) :=
  ⟨_, fun w => run_make_wide (P := Try.prog) 42 49 _ 21 48 Try.underlying42 info49 m (by omega) (by omega) w⟩

/-- a commit's three cells. -/
def comF (ht rd : Int) (sa : Option Addr) (t sc : Nat) (q : Nat) : Value := if q = 0 then .int .u64 ht else if q = 1 then .int .i32 rd else .slice sa t sc

theorem comF_row (w : World) (ht rd : Int) (sa : Option Addr) (t sc : Nat) : (w.alloc (.cells #[.int .u64 ht, .int .i32 rd, .slice sa t sc] 44)).rowIs w.heap.size 44 3 (comF ht rd sa t sc) :=
  World.rowIs_alloc w #[.int .u64 ht, .int .i32 rd, .slice sa t sc] 44 (comF ht rd sa t sc) (fun i hi => by
    have : i = 0 ∨ i = 1 ∨ i = 2 := by simp at hi; omega
    rcases this with rfl | rfl | rfl <;> rfl)

/-- the commit that the law itself lays, with room for t signatures. -/
structure CommitAt (w2 wc : World) (ht rd : Int) (sa : Option Addr) (t sc : Nat) : Prop where
  bel : Below w2.heap.size w2 wc
  box : wc.rowIs w2.heap.size 44 3 (comF ht rd sa t sc)
  room : 0 < t → sa = some ⟨w2.heap.size + 1, 0, none⟩ ∧ ∃ f, wc.rowIs (w2.heap.size + 1) 49 (t * 21) f

theorem CommitAt.made (w2 : World) (ht rd : Int) (t : Nat) (cs : Array Value) :
    CommitAt w2 ((w2.alloc (.cells #[.int .u64 ht, .int .i32 rd, .slice (some ⟨w2.heap.size + 1, 0, none⟩) t t] 44)).alloc (.cells (madeCells cs (t * 21)) 49)) ht rd (some ⟨w2.heap.size + 1, 0, none⟩) t t := by
  refine ⟨((Below.refl _ _).alloc (Nat.le_refl _) _).alloc (by simp) _, (comF_row w2 ht rd _ t t).alloc _, fun _ => ⟨rfl, ?_⟩⟩
  obtain ⟨f, hf⟩ := made_row (w2.alloc (.cells #[.int .u64 ht, .int .i32 rd, .slice (some ⟨w2.heap.size + 1, 0, none⟩) t t] 44)) cs (t * 21) 49
  exact ⟨f, by simpa using hf⟩

theorem CommitAt.bare (w2 : World) (ht rd : Int) (t : Nat) (h0 : t = 0) :
    CommitAt w2 (w2.alloc (.cells #[.int .u64 ht, .int .i32 rd, .slice none 0 0] 44)) ht rd none t 0 := by
  subst h0
  exact ⟨(Below.refl _ _).alloc (Nat.le_refl _) _, comF_row w2 ht rd _ 0 0, fun h => by omega⟩

theorem Byt.storedCells {w : World} {B : Nat} {a : Option Addr} {l : Nat} {z : Nat → Int} (h : Byt w B a l z) {q : Nat} (hq : q < B) (o : Nat) (vs : List Value) : Byt (w.setCells q o vs) B a l z :=
  ⟨h.nil, fun p hp => ⟨(h.cell p hp).1, fun i hi => by
    have hc := (h.cell p hp).2 i hi
    have hblk : (p.add i).block ≠ q := by rw [add_block]; have := (h.cell p hp).1; omega
    rw [World.cell?_of_block (w := w) (heap_setCells_far q hblk vs o w)]; exact hc⟩⟩

theorem cell_keep {w w1 : World} {p : Addr} {v : Value} (hb : Below w.heap.size w w1) (h : w.cell? p = some v) : w1.cell? p = some v := by rw [hb.cell (lt_of_cell h)]; exact h
theorem range_keep {w w1 : World} {b o : Nat} {cs : List Value} (hb : Below w.heap.size w w1) (h : w.rangeAt b o cs) : w1.rangeAt b o cs := fun j v hv => cell_keep hb (h j v hv)
theorem there_keep {w w1 : World} {b o n : Nat} (hb : Below w.heap.size w w1) (h : w.there b o n) : w1.there b o n := fun j hj => by
  obtain ⟨h1, h2⟩ := h j hj
  obtain ⟨u, hu⟩ := Option.isSome_iff_exists.1 h1
  exact ⟨by rw [cell_keep hb hu]; rfl, by rw [hb.frozen (lt_of_cell hu)]; exact h2⟩

/-- after k rounds of the law's second loop: k signatures are laid. -/
structure SigRel (w2 wr : World) (ht rd : Int) (sa : Option Addr) (t sc k : Nat) (z : Nat → Int) (A' A'' : Nat → Option Addr) (L C'' : Nat → Nat) (Z : Nat → Nat → Int) : Prop where
  com : CommitAt w2 wr ht rd sa t sc
  sig : ∀ i, i < k → wr.rangeAt (w2.heap.size + 1) (i * 21) (sigC z A'' L C'' i)
  fam : Fam wr (w2.heap.size + 2) k A' A'' L Z

theorem SigRel.start {w2 wr : World} {ht rd : Int} {sa : Option Addr} {t sc : Nat} (h : CommitAt w2 wr ht rd sa t sc) (z : Nat → Int) (A' A'' : Nat → Option Addr) (L C'' : Nat → Nat) (Z : Nat → Nat → Int) :
    SigRel w2 wr ht rd sa t sc 0 z A' A'' L C'' Z := ⟨h, fun i hi => by omega, ⟨fun i hi => by omega, fun i hi => by omega⟩⟩

theorem sigC_congr (z : Nat → Int) (A B : Nat → Option Addr) (L C D : Nat → Nat) (i : Nat) (ha : A i = B i) (hc : C i = D i) : sigC z A L C i = sigC z B L D i := by
  unfold sigC; rw [ha, hc]

theorem SigRel.step {w2 wr w1 : World} {ht rd : Int} {sa : Option Addr} {t sc k : Nat} {z : Nat → Int} {A' A'' : Nat → Option Addr} {L C'' : Nat → Nat} {Z : Nat → Nat → Int} {a : Option Addr} {c : Nat}
    (h : SigRel w2 wr ht rd sa t sc k z A' A'' L C'' Z) (hk : k < t) (hb : Below wr.heap.size wr w1) (hn : a = none ↔ A' k = none) (hbyt : Byt w1 wr.heap.size a (L k) (Z k)) :
    SigRel w2 (w1.setCells (w2.heap.size + 1) (k * 21) (bytes20 z (k * 20) ++ [.slice a (L k) c])) ht rd sa t sc (k + 1) z A' (fun i => if i = k then a else A'' i) L (fun i => if i = k then c else C'' i) Z := by
  obtain ⟨hsa, f, hf⟩ := h.com.room (by omega)
  have hlt := hf.lt
  have hf1 := hf.of_block (hb.block _ hlt)
  have hlen : (bytes20 z (k * 20) ++ [Value.slice a (L k) c]).length = 21 := by simp [bytes20_len]
  refine ⟨⟨below_setCells _ (by omega) _ _ _ (h.com.bel.trans (hb.mono (by omega))), rowIs_setCells_far (h.com.box.of_block (hb.block _ (by omega))) (by omega) _ _, fun _ => ⟨hsa, _, rowIs_setCells _ _ _ _ hf1⟩⟩, fun i hi => ?_, ?_⟩
  · by_cases e : i = k
    · subst e
      have hs : sigC z (fun j => if j = i then a else A'' j) L (fun j => if j = i then c else C'' j) i = bytes20 z (i * 20) ++ [.slice a (L i) c] := by simp [sigC]
      rw [hs]
      exact World.rangeAt_setCells_same _ _ _ _ (there_row hf1 _ _ (by rw [hlen]; omega))
    · rw [sigC_congr z _ A'' L _ C'' i (by simp [e]) (by simp [e])]
      exact World.rangeAt_setCells_apart (range_keep hb (h.sig i (by omega))) _ _ _ (Or.inr (by rw [hlen, sigC_len]; omega))
  · exact h.fam.step (fun i _ hi => (hi.later hb).storedCells (by omega) _ _) hn ((hbyt.mono (by omega)).storedCells (by omega) _ _)

theorem SigRel.drew {w2 wr : World} {ht rd : Int} {sa : Option Addr} {t sc k : Nat} {z : Nat → Int} {A' A'' : Nat → Option Addr} {L C'' : Nat → Nat} {Z : Nat → Nat → Int}
    (h : SigRel w2 wr ht rd sa t sc k z A' A'' L C'' Z) : SigRel w2 wr.drew ht rd sa t sc k z A' A'' L C'' Z :=
  ⟨⟨h.com.bel.drew, h.com.box, h.com.room⟩, fun i hi => by have := h.sig i hi; simpa using this, ⟨h.fam.nil, fun i hi => (h.fam.byt i hi).later ((Below.refl _ _).drew)⟩⟩

/-! ### 'CommitSig{..}' built and stored whole, inside a region that draws its order -/

/-- the 21 cells of a signature as an array. -/
def sig21 (z : Nat → Int) (o : Nat) (a : Option Addr) (l c : Nat) : Array Value := (bytes20 z o ++ [Value.slice a l c]).toArray

theorem sig21_size (z : Nat → Int) (o : Nat) (a : Option Addr) (l c : Nat) : (sig21 z o a l c).size = 21 := by simp [sig21, bytes20_len]
theorem sig21_list (z : Nat → Int) (o : Nat) (a : Option Addr) (l c : Nat) : (sig21 z o a l c).toList = bytes20 z o ++ [Value.slice a l c] := by simp [sig21]

/-- the build of a CommitSig, its two parts given. -/
def bld49 (P : Program) (u v : Value) (w : World) : Result Next := (do pure (Next.value (← Instr.build 49 #[(0, u), (1, v)])) : Sem Next).run P w
theorem exec_build49 (P : Program) (ev : Operand → Value) (d : Option Tmp) (x y : Operand) (ty : TypeId) (ps : String) (af : Array Edge) (g : Option (Nat × Bool)) (w : World) :
    (execOp ev ⟨d, .build 49 #[(0, x), (1, y)], ty, ps, af, g⟩).run P w = bld49 P (ev x) (ev y) w := by
  simp [execOp, bld49]
theorem bld49_run (z : Nat → Int) (o : Nat) (a : Option Addr) (l c : Nat) (w : World) : bld49 Try.prog (.agg (bytes20 z o).toArray) (.slice a l c) w = .ok (.value (.agg (sig21 z o a l c))) w := by kernel_rfl

/-- the store of a CommitSig, the address and the value given. -/
def sto49 (P : Program) (p v : Value) (w : World) : Result Next := (do Instr.storeAt 49 p v; pure Next.skip : Sem Next).run P w
theorem exec_store49 (P : Program) (ev : Operand → Value) (d : Option Tmp) (x y : Operand) (ty : TypeId) (ps : String) (af : Array Edge) (g : Option (Nat × Bool)) (w : World) :
    (execOp ev ⟨d, .store 49 x y, ty, ps, af, g⟩).run P w = sto49 P (ev x) (ev y) w := rfl
theorem sto49_run (b o : Nat) (z : Nat → Int) (q : Nat) (a : Option Addr) (l c : Nat) (w : World) (ht : w.there b o 21) :
    sto49 Try.prog (.pointer (some ⟨b, o, none⟩)) (.agg (sig21 z q a l c)) w = .ok .skip (w.setCells b o (sig21 z q a l c).toList) := by
  have h := run_storeAt_mid (P := Try.prog) w b o 49 (sig21 z q a l c) (by rw [sig21_size]; exact ht) (by rw [sig21_size]; exact size49) (by
    refine all_oneCell_toArray (fun v hv => ?_)
    simp only [List.mem_append, List.mem_singleton] at hv
    rcases hv with hv | rfl
    · exact bytes20_one _ _ v hv
    · rfl)
  simp only [sto49, Sem.run_bind, h, Result.andThen_ok, Sem.run_pure]

/-! ### what the region of the second loop reads, carried on -/
theorem keepS_draw {w : World} {p1 p2 : Addr} {v1 v2 : Value} {b o b' o' n : Nat} {cs : List Value} (h1 : w.cell? p1 = some v1) (h2 : w.cell? p2 = some v2) (h3 : w.rangeAt b o cs) (h4 : w.there b' o' n) :
    w.drew.cell? p1 = some v1 ∧ w.drew.cell? p2 = some v2 ∧ w.drew.rangeAt b o cs ∧ w.drew.there b' o' n := ⟨h1, h2, by simpa using h3, by simpa using h4⟩
theorem keepS_below {w w1 : World} {p1 p2 : Addr} {v1 v2 : Value} {b o b' o' n : Nat} {cs : List Value} (hb : Below w.heap.size w w1) (h : w.cell? p1 = some v1 ∧ w.cell? p2 = some v2 ∧ w.rangeAt b o cs ∧ w.there b' o' n) :
    w1.cell? p1 = some v1 ∧ w1.cell? p2 = some v2 ∧ w1.rangeAt b o cs ∧ w1.there b' o' n := ⟨cell_keep hb h.1, cell_keep hb h.2.1, range_keep hb h.2.2.1, there_keep hb h.2.2.2⟩
theorem keepS_store {w : World} {p1 p2 : Addr} {v1 v2 : Value} {b o b' o' n : Nat} {cs : List Value} (h : w.cell? p1 = some v1 ∧ w.cell? p2 = some v2 ∧ w.rangeAt b o cs ∧ w.there b' o' n) (vs : List Value)
    (n1 : p1.block ≠ b') (n2 : p2.block ≠ b') (n3 : b ≠ b') :
    (w.setCells b' o' vs).cell? p1 = some v1 ∧ (w.setCells b' o' vs).cell? p2 = some v2 ∧ (w.setCells b' o' vs).rangeAt b o cs ∧ (w.setCells b' o' vs).there b' o' n := by
  refine ⟨?_, ?_, World.rangeAt_setCells_apart h.2.2.1 _ _ _ (Or.inl n3), World.there_setCells h.2.2.2 _ _ _⟩
  · rw [World.cell?_of_block (w := w) (heap_setCells_far b' n1 vs o' w)]; exact h.1
  · rw [World.cell?_of_block (w := w) (heap_setCells_far b' n2 vs o' w)]; exact h.2.1

/-! ### all that the last loop reads -/
structure FinAt (w5 : World) (E G : Nat) (V : Nat → Nat) (a' s' : Option Addr) (n k t : Nat) (ht rd : Int) (z : Nat → Int) (A' A'' : Nat → Option Addr) (L C' C'' : Nat → Nat) (Z : Nat → Nat → Int) : Prop where
  e0 : w5.cell? ⟨E, 0, none⟩ = some (.int .u64 ht)
  e1 : w5.cell? ⟨E, 1, none⟩ = some (.int .i32 rd)
  e2 : w5.cell? ⟨E, 2, none⟩ = some (.slice (some ⟨G, 0, none⟩) t t)
  g0 : ∀ i, i < t → w5.cell? ⟨G, i * 2, none⟩ = some (.slice (some ⟨V i, 0, none⟩) 20 20)
  g1 : ∀ i, i < t → w5.cell? ⟨G, i * 2 + 1, none⟩ = some (.slice (A'' i) (L i) (C'' i))
  vb : ∀ i, i < t → ∀ q, q < 20 → w5.cell? ⟨V i, q, none⟩ = some (.int .u8 (z (i * 20 + q)))
  ad : Byt w5 0 a' (20 * n) z
  so : Outer w5 s' k A' L C'
  by1 : ∀ i, i < t → Byt w5 0 (A' i) (L i) (Z i)
  by2 : ∀ i, i < t → Byt w5 0 (A'' i) (L i) (Z i)
  nil : ∀ i, i < t → (A'' i = none ↔ A' i = none)

theorem FinAt.later {w5 wr : World} {E G : Nat} {V : Nat → Nat} {a' s' : Option Addr} {n k t : Nat} {ht rd : Int} {z : Nat → Int} {A' A'' : Nat → Option Addr} {L C' C'' : Nat → Nat} {Z : Nat → Nat → Int}
    (h : FinAt w5 E G V a' s' n k t ht rd z A' A'' L C' C'' Z) (hb : Below w5.heap.size w5 wr) : FinAt wr E G V a' s' n k t ht rd z A' A'' L C' C'' Z :=
  ⟨cell_keep hb h.e0, cell_keep hb h.e1, cell_keep hb h.e2, fun i hi => cell_keep hb (h.g0 i hi), fun i hi => cell_keep hb (h.g1 i hi), fun i hi q hq => cell_keep hb (h.vb i hi q hq),
    h.ad.later hb, h.so.later hb, fun i hi => (h.by1 i hi).later hb, fun i hi => (h.by2 i hi).later hb, h.nil⟩

theorem sigC_byte (z : Nat → Int) (A : Nat → Option Addr) (L C : Nat → Nat) (i q : Nat) (hq : q < 20) : (sigC z A L C i).getD q undef = .int .u8 (z (i * 20 + q)) := by
  have h : (bytes20 z (i * 20)).length = 20 := bytes20_len _ _
  have h2 := bytes20_getD z (i * 20) q hq
  rw [List.getD_eq_getElem?_getD] at h2 ⊢
  unfold sigC
  rw [List.getElem?_append_left (by omega)]
  exact h2

theorem FinAt.of_enc {w2 wr w5 : World} {a' s' : Option Addr} {n k t sc B1 B2 : Nat} {ht rd : Int} {sa : Option Addr} {z : Nat → Int} {A A' A'' : Nat → Option Addr} {L C' C'' : Nat → Nat} {Z : Nat → Nat → Int}
    (hs : SigRel w2 wr ht rd sa t sc t z A' A'' L C'' Z) (he : EncRel wr w5 t t ht rd z A'' L C'') (ha : Byt w2 B1 a' (20 * n) z) (ho : Outer w2 s' k A' L C') (hf : Fam w2 B2 k A A' L Z) (htk : t ≤ k) :
    FinAt w5 (wr.heap.size + 1) wr.heap.size (fun i => wr.heap.size + 2 + i) a' s' n k t ht rd z A' A'' L C' C'' Z := by
  have hb1 := hs.com.bel
  have hb2 := he.bel
  obtain ⟨f, hfr, hfs⟩ := he.row
  refine ⟨?_, ?_, ?_, fun i hi => ?_, fun i hi => ?_, fun i hi q hq => ?_, ((ha.mono (Nat.zero_le _)).later hb1).later hb2, (ho.later hb1).later hb2,
    fun i hi => (((hf.byt i (by omega)).mono (Nat.zero_le _)).later hb1).later hb2, fun i hi => ((hs.fam.byt i hi).mono (Nat.zero_le _)).later hb2, hs.fam.nil⟩
  · have := he.box.cell (i := 0) (by omega); simpa using this
  · have := he.box.cell (i := 1) (by omega); simpa using this
  · have := he.box.cell (i := 2) (by omega); simpa using this
  · rw [hfr.cell (by omega), (hfs i hi).1]
  · rw [hfr.cell (by omega), (hfs i hi).2]
  · rw [(he.own i hi).cell (by omega), sigC_byte _ _ _ _ _ _ hq]

theorem byt_drewN {w : World} {B : Nat} {a : Option Addr} {l : Nat} {z : Nat → Int} (h : Byt w B a l z) (n : Nat) : Byt (w.drewN n) B a l z :=
  ⟨h.nil, fun p hp => ⟨(h.cell p hp).1, fun i hi => by simpa using (h.cell p hp).2 i hi⟩⟩

theorem comF_cells {w : World} {b : Nat} {ht rd : Int} {sa : Option Addr} {t sc : Nat} (h : w.rowIs b 44 3 (comF ht rd sa t sc)) :
    w.cell? ⟨b, 0, none⟩ = some (.int .u64 ht) ∧ w.cell? ⟨b, 1, none⟩ = some (.int .i32 rd) ∧ w.cell? ⟨b, 2, none⟩ = some (.slice sa t sc) := by
  refine ⟨?_, ?_, ?_⟩
  · have := h.cell (i := 0) (by omega); simpa [comF] using this
  · have := h.cell (i := 1) (by omega); simpa [comF] using this
  · have := h.cell (i := 2) (by omega); simpa [comF] using this

end Go.Proofs.Qxb6600223a.TxW
