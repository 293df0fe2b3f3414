import Derived.Test.YbulkcgjqFmtKit16
namespace Go.Proofs.YbulkcgjqFmt
set_option linter.unusedSimpArgs false
set_option linter.unusedVariables false
open Go.ChangeShapes Go.WideShapes Go.ChangeAt Go.RowKit Go.Sort

theorem und115 : Ybaf.prog.underlying 115 = some (.array 4 21) := by kernel_rfl
theorem und21 : Ybaf.prog.underlying 21 = some (.int .i32) := by kernel_rfl
theorem sz21 (w : World) : (sizeOf 21).run Ybaf.prog w = .ok 1 w := by kernel_rfl
theorem part21 (xs : Array Value) (k : Nat) (v : Int) (h : xs[k]? = some (.int .i32 v)) (w : World) : (part 21 xs k).run Ybaf.prog w = .ok (.int .i32 v) w := by
  unfold part
  simp [h]
theorem eqIn115 (d : Nat) (a0 a1 a2 a3 b0 b1 b2 b3 : Int) (w : World) : (Op.equalIn (d + 2) 115 (.agg #[.int .i32 a0, .int .i32 a1, .int .i32 a2, .int .i32 a3]) (.agg #[.int .i32 b0, .int .i32 b1, .int .i32 b2, .int .i32 b3])).run Ybaf.prog w = .ok (a0 == b0 && (a1 == b1 && (a2 == b2 && a3 == b3))) w := by
  have e1 : ∀ (a b : Int) (w : World), (Op.equalIn (d + 1) 21 (.int .i32 a) (.int .i32 b)).run Ybaf.prog w = .ok (a == b) w := fun a b w => run_equalIn_int w d 21 .i32 .i32 a b und21
  rw [Op.equalIn]
  simp only [Sem.run_bind, run_underlying und115, Result.andThen_ok, sz21]
  rw [Std.Legacy.Range.forIn_eq_forIn_range']
  simp only [Std.Legacy.Range.size, List.range', Nat.sub_zero, Nat.reduceAdd, Nat.reduceSub, Nat.div_one, List.forIn_cons, List.forIn_nil, Sem.run_bind]
  rw [part21 _ _ a0 rfl, Result.andThen_ok, part21 _ _ b0 rfl, Result.andThen_ok, e1, Result.andThen_ok]
  cases h0 : (a0 == b0)
  · simp
  simp only [Bool.not_true, Bool.false_eq_true, if_false, Sem.run_pure, Result.andThen_ok, Sem.run_bind]
  rw [part21 _ _ a1 rfl, Result.andThen_ok, part21 _ _ b1 rfl, Result.andThen_ok, e1, Result.andThen_ok]
  cases h1 : (a1 == b1)
  · simp
  simp only [Bool.not_true, Bool.false_eq_true, if_false, Sem.run_pure, Result.andThen_ok, Sem.run_bind]
  rw [part21 _ _ a2 rfl, Result.andThen_ok, part21 _ _ b2 rfl, Result.andThen_ok, e1, Result.andThen_ok]
  cases h2 : (a2 == b2)
  · simp
  simp only [Bool.not_true, Bool.false_eq_true, if_false, Sem.run_pure, Result.andThen_ok, Sem.run_bind]
  rw [part21 _ _ a3 rfl, Result.andThen_ok, part21 _ _ b3 rfl, Result.andThen_ok, e1, Result.andThen_ok]
  cases h3 : (a3 == b3)
  · simp
  simp
theorem eql115 (a0 a1 b0 b1 : Nat) (w : World) : (binOp .eql 115 (.agg #[.int .i32 a0, .int .i32 a1, .int .i32 (-1), .int .i32 (-1)]) (.agg #[.int .i32 b0, .int .i32 b1, .int .i32 (-1), .int .i32 (-1)])).run Ybaf.prog w = .ok (.bool (decide (a0 = b0 ∧ a1 = b1))) w := by
  rw [run_eql_struct, eqIn115 9998]
  simp only [Result.andThen_ok]
  congr 2
  rw [Bool.eq_iff_iff]; simp; omega

theorem Rs.start {w wr w5 w6 : World} {B Mb gb nb cE nE N Gb fb sb Eb cap : Nat} {cn : Nat → Nat → Nat} {k : KP} {E : List En}
    (h : Cc w w5 B Mb gb nb cE nE N Gb cn k ∧ Ft w5 fb nE nE ∧ RS w5 sb (List.replicate cap (0, 0, 0)) ∧ w5.cell? ⟨sb + 1, 0, none⟩ = some (.slice (some ⟨fb, 0, none⟩) (nE + 1) (nE + 1)) ∧ w5.cell? ⟨sb + 1, 1, none⟩ = some (.slice (some ⟨sb, 0, none⟩) cap cap) ∧ w5.cell? ⟨sb + 1, 2, none⟩ = some (.int .i64 0) ∧ w5.cell? ⟨sb + 1, 3, none⟩ = some (.int .i64 0) ∧ w5.cell? ⟨sb + 1, 4, none⟩ = some (.int .i64 0) ∧ (∀ i, w5.frozen? ⟨sb + 1, i, none⟩ = false) ∧ Below sb wr w5 ∧ w5.heap.size = sb + 2)
    (hG : Gb < fb) (hf : fb < sb) (h6 : RE w6 Eb E ∧ w5.drew.heap.size ≤ Eb ∧ Below w5.drew.heap.size w5.drew w6) : Rs w w6 B Mb gb nb cE nE N Gb fb sb Eb cap cn k E ⟨List.replicate cap (0, 0, 0), 0, 0⟩ := by
  obtain ⟨h1, h2, h3, h4, h5, h7, h8, h9, h10, h11, h12⟩ := h
  obtain ⟨h13, h14, h15⟩ := h6
  have hb : Below w5.heap.size w5 w6 := ((Below.refl w5.heap.size w5).drew).trans h15
  have h14' : w5.heap.size ≤ Eb := h14
  have hc : ∀ i, w6.cell? ⟨sb + 1, i, none⟩ = w5.cell? ⟨sb + 1, i, none⟩ := fun i => hb.cell (p := ⟨sb + 1, i, none⟩) (by show sb + 1 < w5.heap.size; omega)
  exact ⟨h1.kept hb h1.hi, h2.kept hb h2.lt, h3.kept hb h3.lt, h13, (hc 0).trans h4, (hc 1).trans h5, (hc 2).trans h7, (hc 3).trans h8, (hc 4).trans h9, fun i => (hb.frozen (p := ⟨sb + 1, i, none⟩) (by show sb + 1 < w5.heap.size; omega)).trans (h10 i), by simp, hG, hf, by omega⟩

/-- What a run of the faces begins with. -/
structure Ru (w wq : World) (B Mb gb nb cE nE N Gb fb sb Eb cap base i n cc : Nat) (q : Option Addr) (cn : Nat → Nat → Nat) (k : KP) (E : List En) (fin : Plain.St) : Prop where
  ex : ∃ fuel st, Plain.runsF cn fuel (E.drop i) st = some fin ∧ Rs w wq B Mb gb nb cE nE N Gb fb sb Eb cap cn k E st
  own : ∃ xs, wq.ownsRow base 3 1 (.slice q n cc) n xs
  hb : base ≤ wq.heap.size
  hE : Eb < base
theorem Ru.addr {w wq : World} {B Mb gb nb cE nE N Gb fb sb Eb cap base i n cc : Nat} {q : Option Addr} {cn : Nat → Nat → Nat} {k : KP} {E : List En} {fin : Plain.St} (h : Ru w wq B Mb gb nb cE nE N Gb fb sb Eb cap base i n cc q cn k E fin) : (q = none ∧ n = 0 ∧ cc = 0) ∨ ∃ g, q = some ⟨g, 0, none⟩ := by
  obtain ⟨xs, h1, h2⟩ := h.own
  rcases h2 with ⟨h2, h3⟩ | ⟨g, cap, cur, hv, _⟩
  · cases h2; exact .inl ⟨rfl, rfl, rfl⟩
  · cases hv; exact .inr ⟨g, rfl⟩

/-- The state of the runs, beside the row of partners. -/
structure Ro (w wq : World) (B Mb gb nb cE nE N Gb fb sb Eb cap base n cc : Nat) (q : Option Addr) (cn : Nat → Nat → Nat) (k : KP) (E : List En) (st : Plain.St) : Prop where
  rs : Rs w wq B Mb gb nb cE nE N Gb fb sb Eb cap cn k E st
  own : ∃ xs, wq.ownsRow base 3 1 (.slice q n cc) n xs
  hb : base ≤ wq.heap.size
  hE : Eb < base
theorem Ro.drewN {w wq : World} {B Mb gb nb cE nE N Gb fb sb Eb cap base n cc : Nat} {q : Option Addr} {cn : Nat → Nat → Nat} {k : KP} {E : List En} {st : Plain.St} (h : Ro w wq B Mb gb nb cE nE N Gb fb sb Eb cap base n cc q cn k E st) (m : Nat) : Ro w (wq.drewN m) B Mb gb nb cE nE N Gb fb sb Eb cap base n cc q cn k E st :=
  ⟨h.rs.kept (X := wq.heap.size) ⟨rfl, rfl, rfl, Nat.le_refl _, fun _ _ => rfl⟩ (Nat.lt_of_lt_of_le h.hE h.hb), h.own, h.hb, h.hE⟩
theorem Ro.addr {w wq : World} {B Mb gb nb cE nE N Gb fb sb Eb cap base n cc : Nat} {q : Option Addr} {cn : Nat → Nat → Nat} {k : KP} {E : List En} {st : Plain.St} (h : Ro w wq B Mb gb nb cE nE N Gb fb sb Eb cap base n cc q cn k E st) : (q = none ∧ n = 0 ∧ cc = 0) ∨ ∃ g, q = some ⟨g, 0, none⟩ := by
  obtain ⟨xs, h1, h2⟩ := h.own
  rcases h2 with ⟨h2, h3⟩ | ⟨g, cap, cur, hv, _⟩
  · cases h2; exact .inl ⟨rfl, rfl, rfl⟩
  · cases hv; exact .inr ⟨g, rfl⟩

/-- The state of the runs, beside the partners of this run. -/
structure Rq (w wq : World) (B Mb gb nb cE nE N Gb fb sb Eb cap base g c s : Nat) (cn : Nat → Nat → Nat) (k : KP) (E : List En) (st : Plain.St) : Prop where
  rs : Rs w wq B Mb gb nb cE nE N Gb fb sb Eb cap cn k E st
  own : wq.ownsRow base 3 1 (.slice (some ⟨g, 0, none⟩) s c) s (pairL s)
  hb : base ≤ wq.heap.size
  hE : Eb < base
theorem Ro.toRq {w wq w2 : World} {B Mb gb nb cE nE N Gb fb sb Eb cap base n cc g c s : Nat} {q : Option Addr} {cn : Nat → Nat → Nat} {k : KP} {E : List En} {st : Plain.St} (h : Ro w wq B Mb gb nb cE nE N Gb fb sb Eb cap base n cc q cn k E st) (ho : w2.ownsRow base 3 1 (.slice (some ⟨g, 0, none⟩) s c) s (pairL s)) (hb : Below base wq w2) : Rq w w2 B Mb gb nb cE nE N Gb fb sb Eb cap base g c s cn k E st :=
  ⟨h.rs.kept hb h.hE, ho, Nat.le_trans h.hb hb.size, h.hE⟩
theorem Rq.kept {w wq : World} {B Mb gb nb cE nE N Gb fb sb Eb cap base g c s : Nat} {cn : Nat → Nat → Nat} {k : KP} {E : List En} {st : Plain.St} {wz : World} (h : Rq w wq B Mb gb nb cE nE N Gb fb sb Eb cap base g c s cn k E st) (hb : Below wq.heap.size wq wz) : Rq w wz B Mb gb nb cE nE N Gb fb sb Eb cap base g c s cn k E st :=
  ⟨h.rs.kept hb (Nat.lt_of_lt_of_le h.hE h.hb), owns_kept h.own hb, Nat.le_trans h.hb hb.size, h.hE⟩
theorem Rq.put {w wq : World} {B Mb gb nb cE nE N Gb fb sb Eb cap base g c s : Nat} {cn : Nat → Nat → Nat} {k : KP} {E : List En} {st : Plain.St} (h : Rq w wq B Mb gb nb cE nE N Gb fb sb Eb cap base g c s cn k E st) (i : Nat) (hi : i < cap) (x : Plain.Side) : Rq w (put5 wq sb i x) B Mb gb nb cE nE N Gb fb sb Eb cap base g c s cn k E { st with sides := st.sides.set i x } := by
  have h3 := h.rs.se
  have h4 := h.hE
  refine ⟨h.rs.put i hi x, ?_, by rw [put5_size]; exact h.hb, h.hE⟩
  unfold put5
  exact ownsRow_setCell_below (ownsRow_setCell_below (ownsRow_setCell_below (ownsRow_setCell_below (ownsRow_setCell_below h.own (by show sb < base; omega) _) (by show sb < base; omega) _) (by show sb < base; omega) _) (by show sb < base; omega) _) (by show sb < base; omega) _
theorem Rq.bnd {w wq : World} {B Mb gb nb cE nE N Gb fb sb Eb cap base g c s : Nat} {cn : Nat → Nat → Nat} {k : KP} {E : List En} {st : Plain.St} (h : Rq w wq B Mb gb nb cE nE N Gb fb sb Eb cap base g c s cn k E st) (v : Int) (hv : v = ((st.bnd + 1 : Nat) : Int)) : Rq w (wq.setCell ⟨sb + 1, 4, none⟩ (.int .i64 v)) B Mb gb nb cE nE N Gb fb sb Eb cap base g c s cn k E { st with bnd := st.bnd + 1 } := by
  have h3 := h.rs.se
  have h4 := h.hE
  exact ⟨h.rs.bnd v hv, ownsRow_setCell_below h.own (by show sb + 1 < base; omega) _, by simpa using h.hb, h.hE⟩
theorem Rq.inn {w wq : World} {B Mb gb nb cE nE N Gb fb sb Eb cap base g c s : Nat} {cn : Nat → Nat → Nat} {k : KP} {E : List En} {st : Plain.St} (h : Rq w wq B Mb gb nb cE nE N Gb fb sb Eb cap base g c s cn k E st) (v : Int) (hv : v = ((st.inn + 1 : Nat) : Int)) : Rq w (wq.setCell ⟨sb + 1, 2, none⟩ (.int .i64 v)) B Mb gb nb cE nE N Gb fb sb Eb cap base g c s cn k E { st with inn := st.inn + 1 } := by
  have h3 := h.rs.se
  have h4 := h.hE
  exact ⟨h.rs.inn v hv, ownsRow_setCell_below h.own (by show sb + 1 < base; omega) _, by simpa using h.hb, h.hE⟩
theorem Rq.part {w wq : World} {B Mb gb nb cE nE N Gb fb sb Eb cap base g c s : Nat} {cn : Nat → Nat → Nat} {k : KP} {E : List En} {st : Plain.St} (h : Rq w wq B Mb gb nb cE nE N Gb fb sb Eb cap base g c s cn k E st) (m : Nat) (hm : m < s) : wq.cell? ⟨g, m, none⟩ = (pairL s)[m]? := by
  obtain ⟨h1, h2⟩ := h.own
  rcases h2 with ⟨h2, h3⟩ | ⟨g', cap', cur, hv, hg, hh, hn, hm2, hs, ht⟩
  · cases h2
  · cases hv
    have hc : wq.cell? ⟨g, m, none⟩ = cur[m]? := by simp only [World.cell?]; rw [hh]; rfl
    rw [hc, ← ht, List.getElem?_take, if_pos (by omega), Array.getElem?_toList]
theorem Rq.toRu {w wq : World} {B Mb gb nb cE nE N Gb fb sb Eb cap base g c s : Nat} {cn : Nat → Nat → Nat} {k : KP} {E : List En} {st : Plain.St} {j fuel : Nat} {fin : Plain.St} (h : Rq w wq B Mb gb nb cE nE N Gb fb sb Eb cap base g c s cn k E st) (hr : Plain.runsF cn fuel (E.drop j) st = some fin) : Ru w wq B Mb gb nb cE nE N Gb fb sb Eb cap base j s c (some ⟨g, 0, none⟩) cn k E fin :=
  ⟨⟨fuel, st, hr, h.rs⟩, ⟨_, h.own⟩, h.hb, h.hE⟩

namespace Plain
/-- A run of the faces at place i: kk faces. -/
structure Rnd (cn : Nat → Nat → Nat) (E : List En) (i kk : Nat) (st fin : St) : Prop where
  hk : kk = 1 ∨ kk = 2
  le : i + kk ≤ E.length
  same : ∀ j, i < j → j < i + kk → (E.getD j En.z).k0 = (E.getD i En.z).k0 ∧ (E.getD j En.z).k1 = (E.getD i En.z).k1
  diff : i + kk < E.length → ¬ ((E.getD (i + kk) En.z).k0 = (E.getD i En.z).k0 ∧ (E.getD (i + kk) En.z).k1 = (E.getD i En.z).k1)
  one : kk = 1 → 4 * (E.getD i En.z).e + (E.getD i En.z).f < st.sides.length ∧ ∃ f2, runsF cn f2 (E.drop (i + 1)) { st with sides := st.sides.set (4 * (E.getD i En.z).e + (E.getD i En.z).f) (-1, -1, 0), bnd := st.bnd + 1 } = some fin
  two : kk = 2 → (4 * (E.getD i En.z).e + (E.getD i En.z).f < st.sides.length ∧ 4 * (E.getD (i + 1) En.z).e + (E.getD (i + 1) En.z).f < st.sides.length ∧ (E.getD i En.z).f < 4 ∧ (E.getD (i + 1) En.z).f < 4 ∧ cn (E.getD i En.z).e (E.getD i En.z).f = cn (E.getD (i + 1) En.z).e (((E.getD (i + 1) En.z).f + 1) % 4) ∧ cn (E.getD i En.z).e (((E.getD i En.z).f + 1) % 4) = cn (E.getD (i + 1) En.z).e (E.getD (i + 1) En.z).f ∧ cn (E.getD i En.z).e (E.getD i En.z).f ≠ cn (E.getD (i + 1) En.z).e (E.getD (i + 1) En.z).f) ∧
      ∃ f2, runsF cn f2 (E.drop (i + 2)) { sides := (st.sides.set (4 * (E.getD i En.z).e + (E.getD i En.z).f) (((E.getD (i + 1) En.z).e : Int), ((E.getD (i + 1) En.z).f : Int), 1)).set (4 * (E.getD (i + 1) En.z).e + (E.getD (i + 1) En.z).f) (((E.getD i En.z).e : Int), ((E.getD i En.z).f : Int), 1), inn := st.inn + 1, bnd := st.bnd } = some fin
theorem round_kk (cn : Nat → Nat → Nat) (fuel : Nat) (E : List En) (i : Nat) (st fin : St) (h : runsF cn fuel (E.drop i) st = some fin) (hi : i < E.length) : ∃ kk, Rnd cn E i kk st fin := by
  rcases runsF_round cn fuel E i st fin h hi with ⟨f2, rfl, h1, h2, h3⟩ | ⟨f2, rfl, h1, h2, h3, h4, h5⟩
  · refine ⟨1, .inl rfl, by omega, fun j h4 h5 => by omega, fun h4 h5 => ?_, fun _ => ⟨h2, f2, h3⟩, fun h4 => by omega⟩
    rcases h1 with h1 | ⟨_, h1⟩
    · omega
    · exact h1 ⟨h5.1.symm, h5.2.symm⟩
  · refine ⟨2, .inr rfl, by omega, fun j h6 h7 => ?_, fun h6 h7 => ?_, fun h6 => by omega, fun _ => ⟨h4, f2, h5⟩⟩
    · obtain rfl : j = i + 1 := by omega
      exact ⟨h2.1.symm, h2.2.symm⟩
    · rcases h3 with h3 | ⟨_, h3⟩
      · omega
      · exact h3 ⟨h7.1.symm, h7.2.symm⟩
end Plain
/-- A face's own copy. -/
structure Ec (w : World) (a : Nat) (x : En) : Prop where
  cell : ∀ c, c < 6 → w.cell? ⟨a, c, none⟩ = (enc x)[c]?
  lt : a < w.heap.size
theorem Ec.kept {w w' : World} {a : Nat} {x : En} (h : Ec w a x) (hb : Below w.heap.size w w') : Ec w' a x :=
  ⟨fun c hc => (hb.cell (p := ⟨a, c, none⟩) h.lt).trans (h.cell c hc), Nat.lt_of_lt_of_le h.lt hb.size⟩
theorem Ec.put {w : World} {a b i : Nat} {x : En} (h : Ec w a x) (s : Plain.Side) (hne : b ≠ a) : Ec (put5 w b i s) a x :=
  ⟨fun c hc => by rw [put5_other s hne]; exact h.cell c hc, by rw [put5_size]; exact h.lt⟩
theorem Ec.new (w : World) (x : En) : Ec (w.alloc (Obj.cells #[.int .i32 (x.k0 : Nat), .int .i32 (x.k1 : Nat), .int .i32 (-1), .int .i32 (-1), .int .i32 (x.e : Nat), .int .i32 (x.f : Nat)] 117)) w.heap.size x := by
  refine ⟨fun c hc => ?_, by simp⟩
  simp only [World.cell?]; rw [heap_alloc_new]
  rcases c with _ | _ | _ | _ | _ | _ | c <;> first | rfl | omega
theorem Rq.orient {w wq : World} {B Mb gb nb cE nE N Gb fb sb Eb cap base g c s : Nat} {cn : Nat → Nat → Nat} {k : KP} {E : List En} {st : Plain.St} (h : Rq w wq B Mb gb nb cE nE N Gb fb sb Eb cap base g c s cn k E st) (ea eb fa fc : Nat) (hea : ea < nE) (heb : eb < nE) (hfa : fa < 4) (hfc : fc < 4) (h1 : cn ea fa = cn eb ((fc + 1) % 4)) (h2 : cn ea ((fa + 1) % 4) = cn eb fc) (h3 : cn ea fa ≠ cn eb fc) :
    Calls Ybaf.prog 29 #[.pointer (some ⟨gb, ea * 11, none⟩), .int .i32 fa, .pointer (some ⟨gb, eb * 11, none⟩), .int .i32 fc] wq fun e w' => e = .returned (.tuple #[.int .u8 1, .bool true]) ∧ Below wq.heap.size wq w' :=
  orient_calls B gb ea eb fa fc (cn ea fa) (cn eb fc) k wq (Nat.le_trans h.rs.cc.bB h.rs.cc.bel.size) h.rs.cc.kn h.rs.cc.mh.bg hfa hfc (h.rs.cc.mh.kind ea hea) (h.rs.cc.mh.kind eb heb) (h.rs.cc.mh.corner ea fa hea hfa)
    (by rw [← h2]; exact h.rs.cc.mh.corner ea ((fa + 1) % 4) hea (by omega)) (h.rs.cc.mh.corner eb fc heb hfc) (by rw [h1]; exact h.rs.cc.mh.corner eb ((fc + 1) % 4) heb (by omega)) h3
theorem Rq.rel {w wq : World} {B Mb gb nb cE nE N Gb fb sb Eb cap base g c s : Nat} {cn : Nat → Nat → Nat} {k : KP} {E : List En} {st : Plain.St} (h : Rq w wq B Mb gb nb cE nE N Gb fb sb Eb cap base g c s cn k E st) (x y : En) :
    Calls Ybaf.prog 28 #[.pointer (some ⟨Gb, 0, none⟩), .agg #[.int .i32 (x.k0 : Nat), .int .i32 (x.k1 : Nat), .int .i32 (-1), .int .i32 (-1), .int .i32 (x.e : Nat), .int .i32 (x.f : Nat)], .agg #[.int .i32 (y.k0 : Nat), .int .i32 (y.k1 : Nat), .int .i32 (-1), .int .i32 (-1), .int .i32 (y.e : Nat), .int .i32 (y.f : Nat)]] wq fun e w' => e = .returned (.int .u8 1) ∧ Below wq.heap.size wq w' :=
  relate_calls Gb x y wq h.rs.cc.g3
theorem wraps64_id {x : Int} (h0 : 0 ≤ x) (h1 : x < 2147483648) : wrap64 x = x := by
  unfold wrap64
  omega
namespace Plain
theorem runsF_mono (cn : Nat → Nat → Nat) : ∀ (fuel : Nat) (l : List En) (st fin : St), runsF cn fuel l st = some fin → st.bnd ≤ fin.bnd ∧ st.inn ≤ fin.inn
  | 0, [], st, fin, h => by simp [runsF] at h; subst h; simp
  | _ + 1, [], st, fin, h => by simp [runsF] at h; subst h; simp
  | 0, _ :: _, st, fin, h => by simp [runsF] at h
  | n + 1, [x], st, fin, h => by
    simp only [runsF] at h
    split at h
    · cases h; simp
    · cases h
  | n + 1, x :: y :: l, st, fin, h => by
    simp only [runsF] at h
    split at h
    · rw [Option.bind_eq_some_iff] at h
      obtain ⟨_, _, h⟩ := h
      split at h
      · have := runsF_mono cn n _ _ _ h
        exact ⟨this.1, by have := this.2; simp at this; omega⟩
      · cases h
    · split at h
      · have := runsF_mono cn n _ _ _ h
        exact ⟨by have := this.1; simp at this; omega, this.2⟩
      · cases h
end Plain
end Go.Proofs.YbulkcgjqFmt
