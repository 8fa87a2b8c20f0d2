import PyProof.Rows.All
import PySem.Sre
import Wide.All
import OpenK.AllK
import Wide.FinOn
import PySem.Challenge.RW_pg0182_01
set_option Elab.async false
set_option linter.all false

section PartHd
open PySem PySem.W PyProof.Rows
set_option maxRecDepth 100000
set_option maxHeartbeats 8000000
namespace Mine
open_top hd for PySem.Challenge.rw_pg0182_01
end Mine
end PartHd

section PartBs
open PySem PySem.W PySem.Spec PySem.Calls PyProof.Rows
set_option maxRecDepth 100000
set_option maxHeartbeats 8000000
namespace Mine
section

noncomputable abbrev PR : Program := PySem.Challenge.rw_pg0182_01.row.prog
noncomputable abbrev VP : Program := topProg
noncomputable abbrev LOO0 : List Str := looseW Mine.hd.view_39 [Str.ofString "_twin_re_1", Str.ofString "_twin_re_2", Str.ofString "Whitespace"]
noncomputable abbrev LOO : List Str := LOO0 ++ (recsOf Mine.hd.view_39).map (·.name) ++ (litsOf Mine.hd.view_39).map (·.1) ++ (clssOf Mine.hd.view_39 LOO0).map (·.name)


/-- a call from a def's frame: what it makes stands ahead of the ledger -/
def Does (w : World) (mean : ExcName → Option Value) (mg mb : Str → Option Value) (f : Value) (vs : List Value) (need : Nat) (news : List (Addr × Obj)) (Out : List (Addr × Obj) → Value → Prop) : Prop :=
  ∀ (dp un : Nat) (gd : Option (List Code)) (cn : Str) (cs : Scope) (a : Addr) (ccd : Value) (cl : List (Str × Addr)) (outer : List Env) (A₀ : Around) (base h₀ : Heap) (L : Addr) (m : Str → Option Value) (s : Shared)
    (Q E : Value → Shared → Prop),
    Below A₀ base outer h₀ → Fr h₀ L s.heap m → (Mine.hd.heap_39 w.params).In h₀ → News h₀ L s.heap news → Top VP LOO mean mg mb h₀ → cs.kind = .function → dp + need < recursionLimit → un + 8 * need < cLine →
    (∀ r tl h' tk', Fr h₀ L h' m → News h₀ L h' (tl ++ news) → (∀ q ∈ news, ∀ p ∈ tl, q.1 < p.1) → Out tl r → Q r { s with heap := h', toks := tk' }) →
    wpAny (model PR w) (ktrTop dp un gd cn cs L a ccd cl outer) (call f vs) Q E s

noncomputable abbrev tupOf (its : List Value) : Obj := { cls := .type "tuple", data := .seq its.toArray }

noncomputable abbrev wsEntries (w : World) (raw : Str) (n nt : Int) (norm : Addr) (simple : Bool) (k0 k1 k2 k3 k4 t1 t2 t3 : Tok) : List DictEntry :=
  [⟨PyData.keyHash w.params (Str.ofString "raw"), .str (Str.ofString "raw") k0, .str raw t1⟩,
   ⟨PyData.keyHash w.params (Str.ofString "n"), .str (Str.ofString "n") k1, .int n t2⟩,
   ⟨PyData.keyHash w.params (Str.ofString "nt"), .str (Str.ofString "nt") k2, .int nt t3⟩,
   ⟨PyData.keyHash w.params (Str.ofString "norm"), .str (Str.ofString "norm") k3, .ref norm⟩,
   ⟨PyData.keyHash w.params (Str.ofString "is_simple"), .str (Str.ofString "is_simple") k4, .bool simple⟩]
end
end Mine
end PartBs

section PartBs2
open PySem PySem.W PySem.Spec PySem.Calls PyProof.Rows
set_option maxRecDepth 100000
set_option maxHeartbeats 8000000
namespace Mine
section
variable {prog : Program} {w : World} {A : Around} {E : Value → Shared → Prop} {s : Shared}
theorem len_tup_ints {t : Addr} {vs : List Value} {ns : List Int} {Q : Value → Shared → Prop} (ht : IsTup s.heap t vs.toArray) (hi : IntsAre vs ns) (hfit : ns.length < 2 ^ 62)
    (h : Q (.int (ns.length : Int) (s.toks + 1)) { s with toks := s.toks + 1 + 1 }) : wpAny (model prog w) A (call (.builtin "len") [.ref t]) Q E s := by
  have e : vs.toArray.size = ns.length := by simp [hi.length]
  refine PyProof.Rows.len_tuple ht (by rw [e]; omega) ?_
  rw [e]; exact h
theorem item_tup_ints {value slice : PySem.Expr} {l : Addr} {vs : List Value} {ns : List Int} {k : Int} {u : Tok} {Q : Value → Shared → Prop} (hl : IsTup s.heap l vs.toArray) (hi : IntsAre vs ns)
    (h0 : 0 ≤ k) (h1 : k < ns.length) (hfit : k < 2 ^ 63) (h : ∀ t, Q (.int (ns.getD k.toNat 0) t) s)
    (hs : subscripted slice false (.ref l) (.int k u) = operate [.ref l, .int k u] (getItem (.ref l) (.int k u)) := by with_unfolding_all rfl) :
    wpAny (model prog w) A (subscriptTail value slice (.ref l) (.int k u)) Q E s := by
  obtain ⟨t, hx⟩ := hi.get k.toNat _ (ints_getD h0 h1)
  exact item_tupleT hl (by omega) hfit (seqIndex_of h0 (by rw [hi.length]; exact h1)) hx (h t) hs
theorem len_led_ints {h₀ : Heap} {L l : Addr} {news : List (Addr × Obj)} {vs : List Value} {ns : List Int} {k : Nat} {Q : Value → Shared → Prop} (N : News h₀ L s.heap news) (hm : (l, listOf vs.toArray k) ∈ news) (hi : IntsAre vs ns) (hfit : ns.length < 2 ^ 62)
    (h : Q (.int (ns.length : Int) (s.toks + 1)) { s with toks := s.toks + 1 + 1 }) : wpAny (model prog w) A (call (.builtin "len") [.ref l]) Q E s :=
  kst_len N hm hi.length (by omega) h
theorem mul_left {a b : Int} {t u : Tok} {Q : Value → Shared → Prop} (h1 : -(2 ^ 64) < a) (h2 : a < 2 ^ 64) (h : Q (.int (a * b) s.toks) { s with toks := s.toks + 1 }) :
    wpAny (model prog w) A (binaryOp .Mult (.int a t) (.int b u)) Q E s := PyProof.Rows.mul_int h (.of_left (intBits_le_64 h1 h2))
end

theorem allLt_append {d : Addr} {b : List (Addr × Obj)} : ∀ {a : List (Addr × Obj)}, AllLt d (a ++ b) ↔ AllLt d a ∧ AllLt d b
  | [] => ⟨fun h => ⟨trivial, h⟩, fun h => h.2⟩
  | _ :: _ => ⟨fun h => ⟨⟨h.1, (allLt_append.mp h.2).1⟩, (allLt_append.mp h.2).2⟩, fun h => ⟨h.1.1, allLt_append.mpr ⟨h.1.2, h.2⟩⟩⟩
/-- what indent_level adds up -/
def ilSum (ts : Int) (cs : List Int) (pre : List Int) : Int := (pre.map fun i => i.fdiv ts * cs.getD i.toNat 0).sum
theorem ilSum_nil (ts : Int) (cs : List Int) : ilSum ts cs [] = 0 := rfl
theorem ilSum_snoc (ts : Int) (cs pre : List Int) (i : Int) : ilSum ts cs (pre ++ [i]) = ilSum ts cs pre + i.fdiv ts * cs.getD i.toNat 0 := by
  simp [ilSum]
theorem fdiv_lo {i ts : Int} (h1 : 1 ≤ ts) (h0 : 0 ≤ i) (h : i < 2 ^ 60) : -(2 ^ 64) < i.fdiv ts := by
  rw [Int.fdiv_eq_ediv_of_nonneg _ (by omega)]
  have := Int.ediv_nonneg h0 (by omega : 0 ≤ ts)
  omega
theorem fdiv_hi {i ts : Int} (h1 : 1 ≤ ts) (h0 : 0 ≤ i) (h : i < 2 ^ 60) : i.fdiv ts < 2 ^ 64 := by
  rw [Int.fdiv_eq_ediv_of_nonneg _ (by omega)]
  have := Int.ediv_le_self ts h0
  omega
end Mine
end PartBs2

section PartSr
set_option maxRecDepth 100000
namespace Mine
open PySem PySem.Sre

def code1 : Array Nat := #[14, 4, 0, 1, 1, 6, 1, 16, 46, 1]
def code2 : Array Nat := #[14, 9, 4, 1, 2, 16, 10, 16, 13, 0, 7, 7, 16, 13, 16, 10, 15, 18, 5, 16, 10, 15, 13, 11, 16, 13, 5, 5, 0, 16, 10, 1, 15, 2, 0, 1]

theorem runFor_done (n : Nat) (m : M) (h : m.outcome.isSome = true) : M.runFor n m = m := by
  cases n with
  | zero => rfl
  | succ n => unfold M.runFor; rw [if_pos h]
theorem runFor_add (a b : Nat) (m : M) : M.runFor (a + b) m = M.runFor b (M.runFor a m) := by
  induction a generalizing m with
  | zero => rw [Nat.zero_add]; rfl
  | succ a ih =>
    rw [Nat.add_right_comm]
    by_cases h : m.outcome.isSome = true
    · rw [runFor_done _ _ h, runFor_done (a + 1) _ h, runFor_done _ _ h]
    · rw [M.runFor, if_neg h, M.runFor, if_neg h, ih]
theorem runFor_succ (n : Nat) (m : M) (h : m.outcome = none) : M.runFor (n + 1) m = M.runFor n m.step := by
  rw [M.runFor, if_neg (by rw [h]; exact Bool.false_ne_true)]

/-- a machine of these two patterns: no groups, no repeats -/
abbrev st (code T : Array Nat) (lim start lastStart pc pos handed : Nat) (outermost : Bool) (frames : List PySem.Sre.Frame) (weight : Nat) (answer : Option Bool) (seen : Seen) (outcome : Option PySem.Sre.Outcome) : M :=
  { code, text := T, lim, start, lastStart, wholeText := false, mustAdvance := false, pc, pos, handed, outermost, marks := #[], lastmark := -1, lastindex := -1, loops := #[], inner := none, frames, weight, answer, seen, outcome }

section
variable {code T : Array Nat} {lim start lastStart pc pos handed : Nat} {outermost : Bool} {frames : List PySem.Sre.Frame} {weight : Nat} {seen : Seen}

theorem lit_yes {c : Nat} (h0 : code.getD pc 0 = 16) (h1 : code.getD (pc + 1) 0 = c) (hz : pc < code.size) (hp : pos < lim) (hc : T.getD pos 0 = c) :
    (st code T lim start lastStart pc pos handed outermost frames weight none seen none).step = st code T lim start lastStart (pc + 2) (pos + 1) handed outermost frames weight none (seen.add 16) none := by
  have hw : M.word (st code T lim start lastStart pc pos handed outermost frames weight none seen none) 0 = 16 := h0
  unfold M.step
  rw [if_neg (by exact Bool.false_ne_true)]
  show (if pc < code.size then _ else _) = _
  rw [if_pos hz]
  unfold M.exec
  rw [hw]
  show (if pos ≥ lim then _ else _) = _
  rw [if_neg (by omega)]
  have ha : accepts code pc (T.getD pos 0) (seen.add 16) = .ok (true, seen.add 16) := by
    unfold accepts
    rw [h0, h1, hc]
    show Except.ok (c == c, seen.add 16) = _
    rw [beq_self_eq_true]
  have hi : itemWidth code pc = 2 := by
    unfold itemWidth
    rw [h0]
    rfl
  show (match accepts code pc (T.getD pos 0) (seen.add 16) with | .error why => _ | .ok (false, seen) => _ | .ok (true, seen) => _) = _
  rw [ha]
  show M.mk _ _ _ _ _ _ _ (pc + itemWidth code pc) _ _ _ _ _ _ _ _ _ _ _ _ _ = _
  rw [hi]

theorem lit_no {c : Nat} (h0 : code.getD pc 0 = 16) (h1 : code.getD (pc + 1) 0 = c) (hz : pc < code.size) (hc : pos < lim → T.getD pos 0 ≠ c) :
    (st code T lim start lastStart pc pos handed outermost frames weight none seen none).step = st code T lim start lastStart pc pos handed outermost frames weight (some false) (seen.add 16) none := by
  have hw : M.word (st code T lim start lastStart pc pos handed outermost frames weight none seen none) 0 = 16 := h0
  unfold M.step
  rw [if_neg (by exact Bool.false_ne_true)]
  show (if pc < code.size then _ else _) = _
  rw [if_pos hz]
  unfold M.exec
  rw [hw]
  show (if pos ≥ lim then _ else _) = _
  by_cases hp : pos < lim
  · rw [if_neg (by omega)]
    have ha : accepts code pc (T.getD pos 0) (seen.add 16) = .ok (false, seen.add 16) := by
      unfold accepts
      rw [h0, h1]
      show Except.ok (T.getD pos 0 == c, seen.add 16) = _
      rw [beq_eq_false_iff_ne.mpr (hc hp)]
    show (match accepts code pc (T.getD pos 0) (seen.add 16) with | .error why => _ | .ok (false, seen) => _ | .ok (true, seen) => _) = _
    rw [ha]
    rfl
  · rw [if_pos (by omega)]
    rfl

theorem success (h0 : code.getD pc 0 = 1) (hz : pc < code.size) :
    (st code T lim start lastStart pc pos handed outermost frames weight none seen none).step = st code T lim start lastStart pc pos pos outermost frames weight (some true) (seen.add 1) none := by
  have hw : M.word (st code T lim start lastStart pc pos handed outermost frames weight none seen none) 0 = 1 := h0
  unfold M.step
  rw [if_neg (by exact Bool.false_ne_true)]
  show (if pc < code.size then _ else _) = _
  rw [if_pos hz]
  unfold M.exec
  rw [hw]
  show (if (outermost && ((false && pos != lim) || (false && pos == start))) = true then _ else _) = _
  rw [if_neg (by simp)]
  rfl

theorem jump {k : Nat} (h0 : code.getD pc 0 = 15) (h1 : code.getD (pc + 1) 0 = k) (hz : pc < code.size) :
    (st code T lim start lastStart pc pos handed outermost frames weight none seen none).step = st code T lim start lastStart (pc + 1 + k) pos handed outermost frames weight none (seen.add 15) none := by
  have hw : M.word (st code T lim start lastStart pc pos handed outermost frames weight none seen none) 0 = 15 := h0
  unfold M.step
  rw [if_neg (by exact Bool.false_ne_true)]
  show (if pc < code.size then _ else _) = _
  rw [if_pos hz]
  unfold M.exec
  rw [hw]
  show M.mk _ _ _ _ _ _ _ (pc + 1 + code.getD (pc + 1) 0) _ _ _ _ _ _ _ _ _ _ _ _ _ = _
  rw [h1]

theorem atLine (h0 : code.getD pc 0 = 6) (h1 : code.getD (pc + 1) 0 = 1) (hz : pc < code.size) (hc : (pos == 0 || T.getD (pos - 1) 0 == 10) = true) :
    (st code T lim start lastStart pc pos handed outermost frames weight none seen none).step = st code T lim start lastStart (pc + 2) pos handed outermost frames weight none ((seen.add 6).add 44) none := by
  have hw : M.word (st code T lim start lastStart pc pos handed outermost frames weight none seen none) 0 = 6 := h0
  unfold M.step
  rw [if_neg (by exact Bool.false_ne_true)]
  show (if pc < code.size then _ else _) = _
  rw [if_pos hz]
  unfold M.exec
  rw [hw]
  show (match M.isAt (st code T lim start lastStart pc pos handed outermost frames weight none (seen.add 6) none) (code.getD (pc + 1) 0) with | .error why => _ | .ok yes => _) = _
  rw [h1]
  show (if (pos == 0 || T.getD (pos - 1) 0 == 10) = true then _ else _) = _
  rw [if_pos hc]
  show M.mk _ _ _ _ _ _ _ _ _ _ _ _ _ _ _ _ _ _ _ ((seen.add 6).add (43 + code.getD (pc + 1) 0)) _ = _
  rw [h1]

theorem notAtLine (h0 : code.getD pc 0 = 6) (h1 : code.getD (pc + 1) 0 = 1) (hz : pc < code.size) (hc : (pos == 0 || T.getD (pos - 1) 0 == 10) = false) :
    (st code T lim start lastStart pc pos handed outermost frames weight none seen none).step = st code T lim start lastStart pc pos handed outermost frames weight (some false) ((seen.add 6).add 44) none := by
  have hw : M.word (st code T lim start lastStart pc pos handed outermost frames weight none seen none) 0 = 6 := h0
  unfold M.step
  rw [if_neg (by exact Bool.false_ne_true)]
  show (if pc < code.size then _ else _) = _
  rw [if_pos hz]
  unfold M.exec
  rw [hw]
  show (match M.isAt (st code T lim start lastStart pc pos handed outermost frames weight none (seen.add 6) none) (code.getD (pc + 1) 0) with | .error why => _ | .ok yes => _) = _
  rw [h1]
  show (if (pos == 0 || T.getD (pos - 1) 0 == 10) = true then _ else _) = _
  rw [if_neg (by rw [hc]; exact Bool.false_ne_true)]
  show M.mk _ _ _ _ _ _ _ _ _ _ _ _ _ _ _ _ _ _ _ ((seen.add 6).add (43 + code.getD (pc + 1) 0)) _ = _
  rw [h1]

abbrev frBranch (pc pos : Nat) (o : Bool) : PySem.Sre.Frame := { wait := .nextBranch, pc, pos, outermost := o, kept := {} }
abbrev frStart (pc pos : Nat) (o : Bool) : PySem.Sre.Frame := { wait := .nextStart, pc, pos, outermost := o }
abbrev frNot (pc pos : Nat) (o : Bool) : PySem.Sre.Frame := { wait := .lookNot, pc, pos, outermost := o, kept := {} }

theorem branch {k : Nat} (h0 : code.getD pc 0 = 7) (h1 : code.getD (pc + 1) 0 = k) (hk : k ≠ 0) (hz : pc < code.size) (hw : weight < 1000) :
    (st code T lim start lastStart pc pos handed outermost frames weight none seen none).step = st code T lim start lastStart (pc + 1 + 1) pos pos outermost (frBranch (pc + 1) pos outermost :: frames) (weight + 1) none (seen.add 7) none := by
  have hw' : M.word (st code T lim start lastStart pc pos handed outermost frames weight none seen none) 0 = 7 := h0
  unfold M.step
  rw [if_neg (by exact Bool.false_ne_true)]
  show (if pc < code.size then _ else _) = _
  rw [if_pos hz]
  unfold M.exec
  rw [hw']
  show M.alternative _ _ _ = _
  unfold M.alternative
  show (if (code.getD (pc + 1) 0 == 0) = true then _ else _) = _
  rw [if_neg (by rw [h1]; simpa using hk)]
  unfold M.attempt
  show (if weight + 1 + 0 > 16777216 then _ else _) = _
  rw [if_neg (by omega)]
  rfl

theorem assertNot (h0 : code.getD pc 0 = 5) (h2 : code.getD (pc + 2) 0 = 0) (hz : pc < code.size) (hw : weight < 1000) :
    (st code T lim start lastStart pc pos handed outermost frames weight none seen none).step = st code T lim start lastStart (pc + 3) pos pos false (frNot pc pos outermost :: frames) (weight + 1) none (seen.add 5) none := by
  have hw' : M.word (st code T lim start lastStart pc pos handed outermost frames weight none seen none) 0 = 5 := h0
  unfold M.step
  rw [if_neg (by exact Bool.false_ne_true)]
  show (if pc < code.size then _ else _) = _
  rw [if_pos hz]
  unfold M.exec
  rw [hw']
  show (if pos < code.getD (pc + 2) 0 then _ else M.attempt _ _ _ (pos - code.getD (pc + 2) 0) _) = _
  rw [h2, if_neg (by omega)]
  unfold M.attempt
  show (if weight + 1 + 0 > 16777216 then _ else _) = _
  rw [if_neg (by omega)]
  rfl

theorem endNow {yes : Bool} : (st code T lim start lastStart pc pos handed outermost [] weight (some yes) seen none).step = st code T lim start lastStart pc pos handed outermost [] weight (some yes) seen (some (if yes then .matched else .failed)) := rfl
theorem upYes {pc' pos' : Nat} {o : Bool} : (st code T lim start lastStart pc pos handed outermost (frBranch pc' pos' o :: frames) (weight + 1) (some true) seen none).step = st code T lim start lastStart pc' pos' handed o frames weight (some true) seen none := rfl
theorem upStart {pc' pos' : Nat} {o : Bool} : (st code T lim start lastStart pc pos handed outermost (frStart pc' pos' o :: frames) (weight + 1) (some true) seen none).step = st code T lim start lastStart pc' pos' handed o frames weight (some true) seen none := rfl
theorem nextAlt {pc' pos' : Nat} {o : Bool} (hk : code.getD (pc' + code.getD pc' 0) 0 ≠ 0) (hw : weight < 1000) : (st code T lim start lastStart pc pos handed outermost (frBranch pc' pos' o :: frames) (weight + 1) (some false) seen none).step =
    st code T lim start lastStart (pc' + code.getD pc' 0 + 1) pos' pos' o (frBranch (pc' + code.getD pc' 0) pos' o :: frames) (weight + 1) none seen none := by
  show M.alternative (st code T lim start lastStart pc' pos' handed o frames weight none seen none) _ _ = _
  unfold M.alternative
  show (if (code.getD (pc' + code.getD pc' 0) 0 == 0) = true then _ else _) = _
  rw [if_neg (by simpa using hk)]
  unfold M.attempt
  show (if weight + 1 + 0 > 16777216 then _ else _) = _
  rw [if_neg (by omega)]
  rfl
theorem notFound {pc' pos' k : Nat} {o : Bool} (h1 : code.getD (pc' + 1) 0 = k) : (st code T lim start lastStart pc pos handed outermost (frNot pc' pos' o :: frames) (weight + 1) (some false) seen none).step =
    st code T lim start lastStart (pc' + 1 + k) pos' handed o frames weight none seen none := by
  rw [← h1]; rfl
end
end Mine
end PartSr

section PartSr2
set_option maxRecDepth 100000
namespace Mine
open PySem PySem.Sre

structure Found (m : M) (s e : Nat) : Prop where
  out : m.outcome = some .matched
  start : m.start = s
  handed : m.handed = e

section
variable {T : Array Nat} {lim s ls : Nat} {o : Bool} {sn : Seen}
theorem found2A (h1 : s + 1 < lim) (c1 : T.getD s 0 = 13) (c2 : T.getD (s + 1) 0 = 10) : Found (M.runFor 16 (st code2 T lim s ls 10 s s o [frStart 10 s o] 1 none sn none)) s (s + 2) := by
  rw [runFor_succ _ _ rfl, branch (k := 7) rfl rfl (by decide) (by decide) (by omega)]
  rw [runFor_succ _ _ rfl, lit_yes (c := 13) rfl rfl (by decide) (by omega) c1]
  rw [runFor_succ _ _ rfl, lit_yes (c := 10) rfl rfl (by decide) (by omega) c2]
  rw [runFor_succ _ _ rfl, jump (k := 18) rfl rfl (by decide)]
  rw [runFor_succ _ _ rfl, success rfl (by decide)]
  rw [runFor_succ _ _ rfl, upYes]
  rw [runFor_succ _ _ rfl, upStart]
  rw [runFor_succ _ _ rfl, endNow]
  rw [runFor_done _ _ rfl]
  exact ⟨rfl, rfl, rfl⟩
theorem found2B (h1 : s < lim) (c1 : T.getD s 0 = 10) : Found (M.runFor 16 (st code2 T lim s ls 10 s s o [frStart 10 s o] 1 none sn none)) s (s + 1) := by
  rw [runFor_succ _ _ rfl, branch (k := 7) rfl rfl (by decide) (by decide) (by omega)]
  rw [runFor_succ _ _ rfl, lit_no (c := 13) rfl rfl (by decide) (by rw [c1]; omega)]
  rw [runFor_succ _ _ rfl, nextAlt (by decide) (by omega)]
  rw [runFor_succ _ _ rfl, lit_yes (c := 10) rfl rfl (by decide) h1 c1]
  rw [runFor_succ _ _ rfl, jump (k := 13) rfl rfl (by decide)]
  rw [runFor_succ _ _ rfl, success rfl (by decide)]
  rw [runFor_succ _ _ rfl, upYes]
  rw [runFor_succ _ _ rfl, upStart]
  rw [runFor_succ _ _ rfl, endNow]
  rw [runFor_done _ _ rfl]
  exact ⟨rfl, rfl, rfl⟩
theorem found2C (h1 : s < lim) (c1 : T.getD s 0 = 13) (c2 : s + 1 < lim → T.getD (s + 1) 0 ≠ 10) : Found (M.runFor 16 (st code2 T lim s ls 10 s s o [frStart 10 s o] 1 none sn none)) s (s + 1) := by
  rw [runFor_succ _ _ rfl, branch (k := 7) rfl rfl (by decide) (by decide) (by omega)]
  rw [runFor_succ _ _ rfl, lit_yes (c := 13) rfl rfl (by decide) (by omega) c1]
  rw [runFor_succ _ _ rfl, lit_no (c := 10) rfl rfl (by decide) c2]
  rw [runFor_succ _ _ rfl, nextAlt (by decide) (by omega)]
  rw [runFor_succ _ _ rfl, lit_no (c := 10) rfl rfl (by decide) (by rw [c1]; omega)]
  rw [runFor_succ _ _ rfl, nextAlt (by decide) (by omega)]
  rw [runFor_succ _ _ rfl, lit_yes (c := 13) rfl rfl (by decide) (by omega) c1]
  rw [runFor_succ _ _ rfl, assertNot rfl rfl (by decide) (by omega)]
  rw [runFor_succ _ _ rfl, lit_no (c := 10) rfl rfl (by decide) c2]
  rw [runFor_succ _ _ rfl, notFound (k := 5) rfl]
  rw [runFor_succ _ _ rfl, jump (k := 2) rfl rfl (by decide)]
  rw [runFor_succ _ _ rfl, success rfl (by decide)]
  rw [runFor_succ _ _ rfl, upYes]
  rw [runFor_succ _ _ rfl, upStart]
  rw [runFor_succ _ _ rfl, endNow]
  rw [runFor_done _ _ rfl]
  exact ⟨rfl, rfl, rfl⟩
end
end Mine
end PartSr2

section PartSr3
set_option maxRecDepth 100000
namespace Mine
open PySem PySem.Sre

theorem inSet2 (c : Nat) (sn : Seen) : ∃ sn', inSet code2 c code2.size 5 true sn = .ok (c == 10 || c == 13, sn') := by
  have e0 : code2.size = 33 + 3 := rfl
  rw [e0, inSet]
  show ∃ sn', (if (c == 10) = true then _ else inSet code2 c 35 7 true (sn.add 16)) = _
  by_cases h1 : (c == 10) = true
  · rw [if_pos h1]; exact ⟨_, by rw [h1]; rfl⟩
  · rw [if_neg h1, inSet]
    show ∃ sn', (if (c == 13) = true then _ else inSet code2 c 34 9 true ((sn.add 16).add 16)) = _
    by_cases h2 : (c == 13) = true
    · rw [if_pos h2]; exact ⟨_, by rw [h2, Bool.or_true]⟩
    · rw [if_neg h2, inSet]
      refine ⟨((sn.add 16).add 16).add 0, ?_⟩
      rw [Bool.eq_false_iff.mpr h1, Bool.eq_false_iff.mpr h2]
      rfl

theorem read0 (a : List Nat) (c : Nat) (r : List Nat) : (a ++ c :: r).toArray.getD a.length 0 = c := by simp [Array.getD]
theorem read1 (a : List Nat) (c d : Nat) (r : List Nat) : (a ++ c :: d :: r).toArray.getD (a.length + 1) 0 = d := by
  have h := read0 (a ++ [c]) d r
  rw [List.append_assoc, List.length_append] at h
  exact h
theorem readB (a : List Nat) (c : Nat) (r : List Nat) : (a ++ c :: r).toArray.getD (a.length + 1 - 1) 0 = c := by rw [Nat.add_sub_cancel]; exact read0 a c r

def noEnd (u : List Nat) : Prop := ∀ c ∈ u, (c == 10 || c == 13) = false

theorem admitted_some {m : M} (hm : m.code = code2) : ∀ (u : List Nat) (a : List Nat) (c : Nat) (v : List Nat) (fuel : Nat) (sn : Seen), noEnd u → (c == 10 || c == 13) = true → m.text = (a ++ (u ++ c :: v)).toArray → m.lim = (a ++ (u ++ c :: v)).length → u.length < fuel →
    ∃ sn', M.admitted m fuel a.length sn = .ok (some (a.length + u.length), sn')
  | [], a, c, v, 0, sn, _, _, _, _, hf => absurd hf (Nat.not_lt_zero _)
  | [], a, c, v, fuel + 1, sn, _, hc, ht, hl, _ => by
    rw [List.nil_append] at ht
    rw [M.admitted, if_neg (by rw [hl]; simp), hm, ht, read0]
    obtain ⟨sn', e⟩ := inSet2 c sn
    rw [e, hc]
    exact ⟨sn', rfl⟩
  | b :: u, a, c, v, 0, sn, _, _, _, _, hf => absurd hf (Nat.not_lt_zero _)
  | b :: u, a, c, v, fuel + 1, sn, hu, hc, ht, hl, hf => by
    rw [List.cons_append] at ht
    rw [M.admitted, if_neg (by rw [hl]; simp), hm, ht, read0]
    obtain ⟨sn', e⟩ := inSet2 b sn
    rw [e, hu b (.head _)]
    show ∃ sn', M.admitted m fuel (a.length + 1) _ = _
    have := admitted_some hm u (a ++ [b]) c v fuel sn' (fun x hx => hu x (.tail _ hx)) hc (by rw [ht]; simp) (by rw [hl]; simp) (by simpa using hf)
    rw [List.length_append] at this
    obtain ⟨s2, e2⟩ := this
    refine ⟨s2, e2.trans ?_⟩
    have e3 : a.length + [b].length + u.length = a.length + (b :: u).length := by simp only [List.length_cons, List.length_nil]; omega
    rw [e3]

theorem admitted_none {m : M} (hm : m.code = code2) : ∀ (u : List Nat) (a : List Nat) (fuel : Nat) (sn : Seen), noEnd u → m.text = (a ++ u).toArray → m.lim = (a ++ u).length → ∃ sn', M.admitted m fuel a.length sn = .ok (none, sn')
  | _, a, 0, sn, _, _, _ => ⟨sn, rfl⟩
  | [], a, fuel + 1, sn, _, _, hl => by
    rw [M.admitted, if_pos (by rw [hl]; simp)]
    exact ⟨_, rfl⟩
  | b :: u, a, fuel + 1, sn, hu, ht, hl => by
    rw [M.admitted, if_neg (by rw [hl]; simp), hm, ht, read0]
    obtain ⟨sn', e⟩ := inSet2 b sn
    rw [e, hu b (.head _)]
    have := admitted_none hm u (a ++ [b]) fuel sn' (fun x hx => hu x (.tail _ hx)) (by rw [ht]; simp) (by rw [hl]; simp)
    rw [List.length_append] at this
    exact this

theorem search2_eq (T : Array Nat) (p lim : Nat) : ∃ sn, forSearch code2 T 0 p lim false = if (decide (p > lim) || decide (lim - p < 1)) = true then (st code2 T lim p 0 10 p p true [] 0 none sn none).say false
    else (st code2 T lim p lim 10 p p true [] 0 none sn none).attemptFrom p true := ⟨_, rfl⟩

theorem attempt2_some (T : Array Nat) (p lim ls : Nat) (sn : Seen) (q : Nat) (sn' : Seen) (h : M.admitted (st code2 T lim p ls 10 p p true [] 0 none sn none) (lim + 1 - p) p sn = .ok (some q, sn')) :
    (st code2 T lim p ls 10 p p true [] 0 none sn none).attemptFrom p true = st code2 T lim q ls 10 q q true [frStart 10 q true] 1 none sn' none := by
  unfold M.attemptFrom
  rw [if_neg (by show ¬ ((!true) = true); decide)]
  rw [h]
  rfl
theorem attempt2_none (T : Array Nat) (p lim ls : Nat) (sn : Seen) (sn' : Seen) (h : M.admitted (st code2 T lim p ls 10 p p true [] 0 none sn none) (lim + 1 - p) p sn = .ok (none, sn')) :
    (st code2 T lim p ls 10 p p true [] 0 none sn none).attemptFrom p true = st code2 T lim p ls 10 p p true [] 0 (some false) sn' none := by
  unfold M.attemptFrom
  rw [if_neg (by show ¬ ((!true) = true); decide)]
  rw [h]
  rfl

/-- the next end of a row, from the place where the rest r begins -/
theorem search2_none (a u : List Nat) (hu : noEnd u) : ∃ n, n ≤ 16 ∧ (M.runFor n (forSearch code2 (a ++ u).toArray 0 a.length (a ++ u).length false)).outcome = some .failed := by
  obtain ⟨sn, e⟩ := search2_eq (a ++ u).toArray a.length (a ++ u).length
  rw [e]
  split
  · exact ⟨1, by omega, rfl⟩
  · obtain ⟨sn', e2⟩ := admitted_none (m := st code2 (a ++ u).toArray (a ++ u).length a.length (a ++ u).length 10 a.length a.length true [] 0 none sn none) rfl u a ((a ++ u).length + 1 - a.length) sn hu rfl rfl
    rw [attempt2_none _ _ _ _ _ _ e2]
    exact ⟨1, by omega, rfl⟩

theorem search2_some (a u : List Nat) (c : Nat) (v : List Nat) (hu : noEnd u) (hc : (c == 10 || c == 13) = true) : ∃ k, Found (M.runFor 16 (forSearch code2 (a ++ (u ++ c :: v)).toArray 0 a.length (a ++ (u ++ c :: v)).length false)) (a.length + u.length) (a.length + u.length + k) ∧
    (k = if (c == 13 && v.head? == some 10) = true then 2 else 1) := by
  obtain ⟨sn, e⟩ := search2_eq (a ++ (u ++ c :: v)).toArray a.length (a ++ (u ++ c :: v)).length
  rw [e]
  have hlen : (a ++ (u ++ c :: v)).length = a.length + u.length + 1 + v.length := by simp; omega
  have ef : (decide (a.length > (a ++ (u ++ c :: v)).length) || decide ((a ++ (u ++ c :: v)).length - a.length < 1)) = false := by
    rw [Bool.or_eq_false_iff, decide_eq_false_iff_not, decide_eq_false_iff_not, hlen]; omega
  rw [ef, if_neg Bool.false_ne_true]
  obtain ⟨sn', e2⟩ := admitted_some (m := st code2 (a ++ (u ++ c :: v)).toArray (a ++ (u ++ c :: v)).length a.length (a ++ (u ++ c :: v)).length 10 a.length a.length true [] 0 none sn none) rfl u a c v ((a ++ (u ++ c :: v)).length + 1 - a.length) sn hu hc rfl rfl (by rw [hlen]; omega)
  rw [attempt2_some _ _ _ _ _ _ _ e2]
  have hT : (a ++ (u ++ c :: v)).toArray = ((a ++ u) ++ c :: v).toArray := by rw [List.append_assoc]
  have hs : a.length + u.length = (a ++ u).length := by simp
  have r0 : (a ++ (u ++ c :: v)).toArray.getD (a.length + u.length) 0 = c := by rw [hT, hs]; exact read0 _ _ _
  simp only [Bool.or_eq_true, beq_iff_eq] at hc
  rcases hc with hc | hc
  · subst hc
    exact ⟨1, found2B (by rw [hlen]; omega) r0, rfl⟩
  · subst hc
    cases v with
    | nil => exact ⟨1, found2C (by rw [hlen]; omega) r0 (fun h => absurd h (by rw [hlen]; simp)), rfl⟩
    | cons d v =>
      have r1 : (a ++ (u ++ 13 :: d :: v)).toArray.getD (a.length + u.length + 1) 0 = d := by rw [hT, hs]; exact read1 _ _ _ _
      by_cases hd : d = 10
      · subst hd
        exact ⟨2, found2A (by rw [hlen, List.length_cons]; omega) r0 r1, rfl⟩
      · refine ⟨1, found2C (by rw [hlen]; omega) r0 (fun _ => by rw [r1]; exact hd), ?_⟩
        rw [if_neg (by simp [hd])]
end Mine
end PartSr3

section PartSr4
set_option maxRecDepth 100000
namespace Mine
open PySem PySem.Sre

section
variable {T : Array Nat} {lim p : Nat} {o : Bool} {sn : Seen}
theorem retry {pc pos handed : Nat} (hp : p < lim) : (st code1 T lim p lim pc pos handed o [frStart 5 p o] 1 (some false) sn none).step = st code1 T lim (p + 1) lim 5 (p + 1) (p + 1) false [frStart 5 (p + 1) false] 1 none sn none := by
  show (if false = true then _ else if p < lim then _ else _) = _
  rw [if_neg Bool.false_ne_true, if_pos hp]
  rfl
theorem retryNo {pc pos handed : Nat} (hp : ¬ p < lim) : (st code1 T lim p lim pc pos handed o [frStart 5 p o] 1 (some false) sn none).step = st code1 T lim p lim 5 p handed o [] 0 (some false) sn none := by
  show (if false = true then _ else if p < lim then _ else _) = _
  rw [if_neg Bool.false_ne_true, if_neg hp]
  rfl

theorem found1 (hp : p < lim) (hb : (p == 0 || T.getD (p - 1) 0 == 10) = true) (hc : T.getD p 0 = 46) : Found (M.runFor 6 (st code1 T lim p lim 5 p p o [frStart 5 p o] 1 none sn none)) p (p + 1) := by
  rw [runFor_succ _ _ rfl, atLine rfl rfl (by decide) hb]
  rw [runFor_succ _ _ rfl, lit_yes (c := 46) rfl rfl (by decide) hp hc]
  rw [runFor_succ _ _ rfl, success rfl (by decide)]
  rw [runFor_succ _ _ rfl, upStart]
  rw [runFor_succ _ _ rfl, endNow]
  rw [runFor_done _ _ rfl]
  exact ⟨rfl, rfl, rfl⟩

theorem fail1 (h : ¬ ((p == 0 || T.getD (p - 1) 0 == 10) = true ∧ p < lim ∧ T.getD p 0 = 46)) : ∃ n pc sn', n ≤ 2 ∧ M.runFor n (st code1 T lim p lim 5 p p o [frStart 5 p o] 1 none sn none) = st code1 T lim p lim pc p p o [frStart 5 p o] 1 (some false) sn' none := by
  by_cases hb : (p == 0 || T.getD (p - 1) 0 == 10) = true
  · refine ⟨2, 7, ((sn.add 6).add 44).add 16, Nat.le_refl _, ?_⟩
    rw [runFor_succ _ _ rfl, atLine rfl rfl (by decide) hb]
    rw [runFor_succ _ _ rfl, lit_no (c := 46) rfl rfl (by decide) (fun hp hc => h ⟨hb, hp, hc⟩)]
    rfl
  · refine ⟨1, 5, (sn.add 6).add 44, by omega, ?_⟩
    rw [runFor_succ _ _ rfl, notAtLine rfl rfl (by decide) (Bool.eq_false_iff.mpr hb)]
    rfl
end

/-- no dot at a row's beginning in u (b: u itself begins a row) -/
def noStart : Bool → List Nat → Bool
  | _, [] => true
  | b, c :: u => !(b && c == 46) && noStart (c == 10) u
def begAfter : Bool → List Nat → Bool
  | b, [] => b
  | _, c :: u => begAfter (c == 10) u
/-- does a place behind a begin a row -/
def begins (a : List Nat) : Bool := begAfter true a

theorem begAfter_append (b : Bool) (a u : List Nat) : begAfter b (a ++ u) = begAfter (begAfter b a) u := by
  induction a generalizing b with
  | nil => rfl
  | cons c a ih => exact ih _
theorem begAfter_snoc (b : Bool) (a : List Nat) (c : Nat) : begAfter b (a ++ [c]) = (c == 10) := by rw [begAfter_append]; rfl

theorem begins_at (a r : List Nat) : (a.length == 0 || (a ++ r).toArray.getD (a.length - 1) 0 == 10) = begins a := by
  rcases List.eq_nil_or_concat a with rfl | ⟨a', c, rfl⟩
  · rfl
  · rw [List.concat_eq_append]
    unfold begins
    rw [begAfter_snoc, List.length_append, List.append_assoc, List.singleton_append, List.length_singleton, readB]
    simp

theorem scan1_some : ∀ (u a v : List Nat) (o : Bool) (sn : Seen), noStart (begins a) u = true → begAfter (begins a) u = true →
    ∃ n, n ≤ 3 * u.length + 6 ∧ Found (M.runFor n (st code1 (a ++ (u ++ 46 :: v)).toArray (a ++ (u ++ 46 :: v)).length a.length (a ++ (u ++ 46 :: v)).length 5 a.length a.length o [frStart 5 a.length o] 1 none sn none)) (a.length + u.length) (a.length + u.length + 1)
  | [], a, v, o, sn, _, hb => by
    refine ⟨6, by simp, ?_⟩
    refine found1 (by simp) ?_ ?_
    · rw [begins_at]; exact hb
    · exact read0 _ _ _
  | c :: u, a, v, o, sn, hn, hb => by
    have hn' : ((begins a && c == 46) = false) ∧ noStart (c == 10) u = true := by
      simp only [noStart, Bool.and_eq_true, Bool.not_eq_true'] at hn
      exact hn
    have e : a ++ (c :: u ++ 46 :: v) = (a ++ [c]) ++ (u ++ 46 :: v) := by simp
    have hbeg : begins (a ++ [c]) = (c == 10) := begAfter_snoc _ _ _
    obtain ⟨n1, pc, sn1, hn1, e1⟩ := fail1 (T := (a ++ (c :: u ++ 46 :: v)).toArray) (lim := (a ++ (c :: u ++ 46 :: v)).length) (p := a.length) (o := o) (sn := sn) (by
      rintro ⟨h1, _, h3⟩
      rw [begins_at] at h1
      rw [List.cons_append, read0] at h3
      rw [h1, h3] at hn'
      exact absurd hn'.1 (by decide))
    obtain ⟨n2, hn2, e2⟩ := scan1_some u (a ++ [c]) v false sn1 (by rw [hbeg]; exact hn'.2) (by rw [hbeg]; exact hb)
    refine ⟨n1 + (n2 + 1), by simp only [List.length_cons]; omega, ?_⟩
    rw [runFor_add, e1, runFor_succ _ _ rfl, retry (by simp)]
    have hl : (a ++ [c]).length = a.length + 1 := by simp
    rw [hl, ← e] at e2
    have e3 : a.length + 1 + u.length = a.length + (c :: u).length := by simp only [List.length_cons]; omega
    rw [e3] at e2
    exact e2

theorem scan1_none : ∀ (u a : List Nat) (o : Bool) (sn : Seen), noStart (begins a) u = true →
    ∃ n, n ≤ 3 * u.length + 6 ∧ (M.runFor n (st code1 (a ++ u).toArray (a ++ u).length a.length (a ++ u).length 5 a.length a.length o [frStart 5 a.length o] 1 none sn none)).outcome = some .failed
  | [], a, o, sn, _ => by
    obtain ⟨n1, pc, sn1, hn1, e1⟩ := fail1 (T := (a ++ []).toArray) (lim := (a ++ []).length) (p := a.length) (o := o) (sn := sn) (by rintro ⟨_, h2, _⟩; simp at h2)
    refine ⟨n1 + (1 + 1), by omega, ?_⟩
    rw [runFor_add, e1, runFor_succ _ _ rfl, retryNo (by simp), runFor_succ _ _ rfl, endNow]
    rfl
  | c :: u, a, o, sn, hn => by
    have hn' : ((begins a && c == 46) = false) ∧ noStart (c == 10) u = true := by
      simp only [noStart, Bool.and_eq_true, Bool.not_eq_true'] at hn
      exact hn
    have e : a ++ (c :: u) = (a ++ [c]) ++ u := by simp
    have hbeg : begins (a ++ [c]) = (c == 10) := begAfter_snoc _ _ _
    obtain ⟨n1, pc, sn1, hn1, e1⟩ := fail1 (T := (a ++ (c :: u)).toArray) (lim := (a ++ (c :: u)).length) (p := a.length) (o := o) (sn := sn) (by
      rintro ⟨h1, _, h3⟩
      rw [begins_at] at h1
      rw [read0] at h3
      rw [h1, h3] at hn'
      exact absurd hn'.1 (by decide))
    obtain ⟨n2, hn2, e2⟩ := scan1_none u (a ++ [c]) false sn1 (by rw [hbeg]; exact hn'.2)
    refine ⟨n1 + (n2 + 1), by simp only [List.length_cons]; omega, ?_⟩
    rw [runFor_add, e1, runFor_succ _ _ rfl, retry (by simp)]
    have hl : (a ++ [c]).length = a.length + 1 := by simp
    rw [hl, ← e] at e2
    exact e2

theorem search1_eq (T : Array Nat) (p lim : Nat) : ∃ sn, forSearch code1 T 0 p lim false = if (decide (p > lim) || decide (lim - p < 1)) = true then (st code1 T lim p 0 5 p p true [] 0 none sn none).say false
    else st code1 T lim p lim 5 p p true [frStart 5 p true] 1 none sn none := ⟨_, rfl⟩

theorem search1_none (a u : List Nat) (hu : noStart (begins a) u = true) : ∃ n, n ≤ 3 * u.length + 6 ∧ (M.runFor n (forSearch code1 (a ++ u).toArray 0 a.length (a ++ u).length false)).outcome = some .failed := by
  obtain ⟨sn, e⟩ := search1_eq (a ++ u).toArray a.length (a ++ u).length
  rw [e]
  split
  · exact ⟨1, by omega, rfl⟩
  · exact scan1_none u a true sn hu
theorem search1_some (a u v : List Nat) (hu : noStart (begins a) u = true) (hb : begAfter (begins a) u = true) :
    ∃ n, n ≤ 3 * u.length + 6 ∧ Found (M.runFor n (forSearch code1 (a ++ (u ++ 46 :: v)).toArray 0 a.length (a ++ (u ++ 46 :: v)).length false)) (a.length + u.length) (a.length + u.length + 1) := by
  obtain ⟨sn, e⟩ := search1_eq (a ++ (u ++ 46 :: v)).toArray a.length (a ++ (u ++ 46 :: v)).length
  rw [e]
  have ef : (decide (a.length > (a ++ (u ++ 46 :: v)).length) || decide ((a ++ (u ++ 46 :: v)).length - a.length < 1)) = false := by
    rw [Bool.or_eq_false_iff, decide_eq_false_iff_not, decide_eq_false_iff_not]
    simp only [List.length_append, List.length_cons]
    omega
  rw [ef, if_neg Bool.false_ne_true]
  exact scan1_some u a v true sn hu hb
end Mine
end PartSr4

section PartRe1
open PySem PySem.W PySem.Spec PySem.Calls PyProof.Rows
set_option maxRecDepth 100000
namespace Mine
open PySem.Sre PySem.Builtin.Re

theorem runFor_same {m : M} {a b : Nat} (ha : (M.runFor a m).outcome.isSome = true) (hb : (M.runFor b m).outcome.isSome = true) : M.runFor a m = M.runFor b m := by
  rcases Nat.le_total a b with h | h
  · obtain ⟨c, rfl⟩ := Nat.exists_eq_add_of_le h
    rw [runFor_add, runFor_done _ _ ha]
  · obtain ⟨c, rfl⟩ := Nat.exists_eq_add_of_le h
    rw [runFor_add, runFor_done _ _ hb]

section
variable {MM : Model} {A : Around} {E : Value → Shared → Prop} {s : Shared}
theorem wp_reDrive : ∀ (turns n : Nat) (m : M) {Q : M → Shared → Prop}, (M.runFor n m).outcome.isSome = true → n + 4 ≤ 4 * turns → Q (M.runFor n m) s → wpAny MM A (reDrive turns m) Q E s
  | 0, n, m, Q, _, hn, _ => by omega
  | turns + 1, n, m, Q, hd, hn, hq => by
    unfold reDrive
    show wpAny MM A (if (M.runFor 4 m).outcome.isSome = true then pure (M.runFor 4 m) else _) Q E s
    by_cases h : (M.runFor 4 m).outcome.isSome = true
    · rw [if_pos h, runFor_same h hd]
      exact wpAny_pure hq
    · rw [if_neg h]
      have h4 : ¬ n ≤ 4 := fun hle => h (by
        obtain ⟨c, hc⟩ := Nat.exists_eq_add_of_le hle
        rw [hc, runFor_add, runFor_done _ _ hd]; exact hd)
      have e : M.runFor n m = M.runFor (n - 4) (M.runFor 4 m) := by
        rw [← runFor_add]; congr 1; omega
      rw [e] at hd hq
      exact wpAny_bind (wpAny_rule (wp_reDrive turns (n - 4) _ hd (by omega) hq))

theorem wp_names (p : Nat → Bool) (tag : Nat → String) : ∀ (l : List Nat) {Q : PUnit → Shared → Prop}, Q ⟨⟩ s →
    wpAny MM A (forIn l PUnit.unit fun i _ => if p i = true then do rule (tag i); pure (ForInStep.yield PUnit.unit) else pure (ForInStep.yield PUnit.unit)) Q E s
  | [], Q, hq => wpAny_pure hq
  | i :: l, Q, hq => by
    rw [List.forIn_cons]
    by_cases h : p i = true
    · rw [if_pos h]
      exact wpAny_bind (wpAny_bind (wpAny_rule (wpAny_pure (wp_names p tag l hq))))
    · rw [if_neg h]
      exact wpAny_bind (wpAny_pure (wp_names p tag l hq))
theorem wp_reRun {m : M} {n : Nat} {Q : Option M → Shared → Prop} (hn : n ≤ 2 ^ 64) (ho : ((M.runFor n m).outcome = some .matched ∧ Q (some (M.runFor n m)) s) ∨ ((M.runFor n m).outcome = some .failed ∧ Q none s)) : wpAny MM A (reRunToEnd m) Q E s := by
  unfold reRunToEnd
  have hd : (M.runFor n m).outcome.isSome = true := by rcases ho with ⟨h, _⟩ | ⟨h, _⟩ <;> rw [h] <;> rfl
  refine wpAny_bind (wp_reDrive _ n m hd (by omega) ?_)
  refine wpAny_bind (wp_names _ _ _ ?_)
  rcases ho with ⟨h, hq⟩ | ⟨h, hq⟩ <;> rw [h] <;> exact wpAny_pure hq
end

theorem slot_re_sub : Slot "re.Pattern" "sub" "re.Pattern.sub" :=
  .of (owner := "re.Pattern") (n := "sub") (by rw [typeLookup_type, builtinLookup_eq_fast]; kernel_rfl) (by decide +kernel) (by decide +kernel) (by decide +kernel)
    (by first | exact .inl (by decide +kernel) | exact .inr (by decide +kernel)) (by rw [isSubtype_type]; kernel_rfl)
theorem type_re_sub : typeOf (.builtin "re.Pattern.sub") = pure (.type "method_descriptor") := by show builtinType _ = _; rw [builtinType_eq_fast]; kernel_rfl
theorem entry_re_sub : entryFor table "re.Pattern.sub" = some Builtin.«re.Pattern.sub» := entryFor_of_tree (by kernel_rfl)
theorem entry_re_loop : entryFor table "re.Pattern.sub.loop" = some Builtin.«re.Pattern.sub.loop» := entryFor_of_tree (by kernel_rfl)
theorem plain_re_loop : plainId "re.Pattern.sub.loop" = true := by decide +kernel
theorem args_re_sub (a b c : Value) : argsOk "re.Pattern.sub" ⟨[a, b, c], []⟩ := by unfold argsOk; kernel_rfl
theorem re_getattribute : typeLookup (.type "re.Pattern") "__getattribute__" = pure (some (.builtin "object.__getattribute__")) := by rw [typeLookup_type, builtinLookup_eq_fast]; kernel_rfl
theorem canon_object_getattribute : (Manifest.canonical "object.__getattribute__" != "object.__getattribute__") = false := by decide +kernel
theorem re_getattr_none : typeLookup (.type "re.Pattern") "__getattr__" = pure none := by rw [typeLookup_type, builtinLookup_eq_fast]; kernel_rfl
theorem str_call_none : typeLookup (.type "str") "__call__" = pure none := by rw [typeLookup_type, builtinLookup_eq_fast]; kernel_rfl

section
variable {prog : Program} {w : World} {A : Around} {E : Value → Shared → Prop} {s : Shared}
theorem getMethod_re_sub {l : Addr} {o : Obj} {pl : Sem Bool} {Q : Value × List Value → Shared → Prop} (ho : s.heap.get? l = some o) (hc : o.cls = .type "re.Pattern") (hd : o.dict = none)
    (h : Q (.builtin "re.Pattern.sub", [.ref l]) s) : wpAny (model prog w) A (getMethod (.ref l) "sub" pl) Q E s := by
  have hT : s.TypeIs (.ref l) "re.Pattern" := ⟨o, ho, hc⟩
  unfold getMethod
  refine wpAny_bind (wpAny_specialOf hT re_getattribute ?_)
  show wpAny (model prog w) A (if (Manifest.canonical "object.__getattribute__" != "object.__getattribute__") = true then _ else _) Q E s
  rw [canon_object_getattribute, if_neg Bool.false_ne_true]
  refine wpAny_bind (wpAny_specialOf hT re_getattr_none ?_)
  refine wpAny_bind (wpAny_specialOf hT slot_re_sub.lookup ?_)
  refine wpAny_bind (wpAny_of_eq type_re_sub ?_)
  refine wpAny_bind (wpAny_load ho ?_)
  rw [hd]
  exact wpAny_bind (wpAny_rule (wpAny_pure h))
end
end Mine
end PartRe1

section PartRe2
open PySem PySem.W PySem.Spec PySem.Calls PyProof.Rows
set_option maxRecDepth 100000
namespace Mine
open PySem.Sre PySem.Builtin.Re

structure PatAt (h : Heap) (P : Addr) (code : Array Nat) : Prop where
  at_ : ∃ o fs, h.get? P = some o ∧ o.data = .fields fs ∧ reRawNat (fs.getD 6 .none) = 0 ∧ reRawNat (fs.getD 2 .none) = 0 ∧ ∃ c oc its k, fs.getD 5 .none = .ref c ∧ h.get? c = some oc ∧ oc.data = .seq its k ∧ (its.map reRawOf).map (·.toNat) = code
theorem PatAt.keeps {h h' : Heap} {P : Addr} {code : Array Nat} (x : PatAt h P code) (hk : ∀ b o, h.get? b = some o → h'.get? b = some o) : PatAt h' P code := by
  obtain ⟨o, fs, h1, h2, h3, h4, c, oc, its, k, h5, h6, h7, h8⟩ := x.at_
  exact ⟨o, fs, hk _ _ h1, h2, h3, h4, c, oc, its, k, h5, hk _ _ h6, h7, h8⟩

section
variable {prog : Program} {w : World} {A : Around} {E : Value → Shared → Prop} {s : Shared}
theorem wp_target {P : Addr} {code : Array Nat} {T : Str} {t : Tok} {Q : ReTarget → Shared → Prop} (hP : PatAt s.heap P code)
    (h : Q { pattern := .ref P, string := .str T t, code, text := T.cps, kind := 0, groups := 0, pos := 0, lim := T.cps.size } s) :
    wpAny (model prog w) A (reWholeTarget (.ref P) (.str T t)) Q E s := by
  obtain ⟨o, fs, h1, h2, h3, h4, c, oc, its, k, h5, h6, h7, h8⟩ := hP.at_
  unfold reWholeTarget
  refine wpAny_bind (wpAny_fieldsOf h1 h2 ?_)
  refine wpAny_bind (m := reTextOf (.str T t)) ?_
  unfold reTextOf
  refine wpAny_bind (m := asStr? (.str T t)) (wpAny_pure ?_)
  refine wpAny_pure ?_
  dsimp only
  rw [h3]
  show wpAny (model prog w) A (do reNoCollectionInside (.str T t) 0; _) Q E s
  refine wpAny_bind (m := reNoCollectionInside (.str T t) 0) (wpAny_pure ?_)
  rw [h5]
  refine wpAny_bind (m := reRawItems (.ref c)) ?_
  unfold reRawItems
  refine wpAny_bind (wpAny_seqItems h6 h7 (wpAny_pure ?_))
  rw [h4]
  refine wpAny_pure ?_
  show Q { pattern := .ref P, string := .str T t, code := (its.map reRawOf).map (·.toNat), text := T.cps, kind := 0, groups := 0, pos := 0, lim := T.cps.size } s
  rw [h8]
  exact h
end
end Mine
end PartRe2

section PartRe3
open PySem PySem.W PySem.Spec PySem.Calls PyProof.Rows
set_option maxRecDepth 100000
namespace Mine
open PySem.Sre PySem.Builtin.Re

/-- what sub makes of the rest r behind a -/
inductive Subs (code : Array Nat) (R : List Nat) : List Nat → List Nat → List Nat → Prop
  | stop {a r : List Nat} (n : Nat) (hn : n ≤ 2 ^ 64) (h : (M.runFor n (forSearch code (a ++ r).toArray 0 a.length (a ++ r).length false)).outcome = some .failed) : Subs code R a r r
  | go {a u v o : List Nat} (w : List Nat) (n : Nat) (hw : w ≠ []) (hn : n ≤ 2 ^ 64) (h : Found (M.runFor n (forSearch code (a ++ (u ++ (w ++ v))).toArray 0 a.length (a ++ (u ++ (w ++ v))).length false)) (a.length + u.length) (a.length + u.length + w.length))
      (next : Subs code R (a ++ u ++ w) v o) : Subs code R a (u ++ (w ++ v)) (u ++ (R ++ o))

def catL (l : List (Str × Tok)) : List Nat := l.flatMap fun p => p.1.cps.toList
theorem catL_snoc (l : List (Str × Tok)) (x : Str) (t : Tok) : catL (l ++ [(x, t)]) = catL l ++ x.cps.toList := by simp [catL]
theorem cat_join (texts : List Str) : (Txt.join ⟨#[]⟩ texts).cps.toList = texts.flatMap (·.cps.toList) := by
  show (Builtin.Str.glued ⟨#[]⟩ texts).cps.toList = _
  rw [StrLaws.glued_eq_join]
  induction texts with
  | nil => rfl
  | cons x r ih =>
    cases r with
    | nil => show x.cps.toList = _; simp
    | cons y r =>
      show (x ++ (⟨#[]⟩ : Str) ++ Str.join ⟨#[]⟩ (y :: r)).cps.toList = _
      rw [Str.cps_append, Str.cps_append, Array.toList_append, Array.toList_append, ih]
      simp

section
variable {prog : Program} {w : World} {A : Around} {E : Value → Shared → Prop} {s : Shared}
theorem push_piece {D : Addr} {l : List (Str × Tok)} {k : Nat} {x : Str} {t : Tok} {Q : Unit → Shared → Prop} (hp : s.heap.get? D = some (listOf (strValues l).toArray k)) (hz : l.length ≤ 100000)
    (h : ∀ h' k', h'.get? D = some (listOf (strValues (l ++ [(x, t)])).toArray k') → (∀ b, b ≠ D → h'.get? b = s.heap.get? b) → Q () { s with heap := h' }) :
    wpAny (model prog w) A (updateSeq D (·.push (.str x t))) Q E s := by
  have hz1 : (strValues l).toArray.size ≤ 100000 := by simpa [strValues] using hz
  refine wpAny_updateSeq hp rfl ?_ (by rw [sizeLine_eq]; omega) (by rw [Array.size_push, sizeLine_eq]; omega)
  have hsb : Heap.SameBut D s.heap (s.heap.update D (Obj.mapSeq (·.push (.str x t)))) := Heap.SameBut.update ..
  have e := Heap.get?_update_self (Obj.mapSeq (·.push (.str x t))) hp rfl
  have e2 : (strValues l).toArray.push (Value.str x t) = (strValues (l ++ [(x, t)])).toArray := by simp [strValues]
  have e3 : ∃ k', (s.heap.update D (Obj.mapSeq (·.push (.str x t)))).get? D = some (listOf (strValues (l ++ [(x, t)])).toArray k') := by
    rw [← e2, e]
    exact ⟨_, rfl⟩
  obtain ⟨k', e4⟩ := e3
  exact h _ k' e4 hsb.2

theorem wp_slice {T : Array Nat} {b e : Nat} {Q : Value → Shared → Prop} (hz : T.size ≤ 100000) (h : Q (.str ⟨T.extract b e⟩ s.toks) { s with toks := s.toks + 1 }) : wpAny (model prog w) A (reSlice T 0 b e) Q E s := by
  unfold reSlice
  show wpAny (model prog w) A (mkStr ⟨T.extract b e⟩) Q E s
  refine wpAny_mkStr h ?_
  show (T.extract b e).size ≤ sizeLine
  rw [Array.size_extract, sizeLine_eq]; omega

theorem sub_join {D : Addr} {l : List (Str × Tok)} {k : Nat} {t : Tok} {res : List Nat} {α : Type} {kk kk' : Value → Sem α} {Q : α → Shared → Prop} (hp : s.heap.get? D = some (listOf (strValues l).toArray k)) (hc : catL l = res) (hl : res.length ≤ 100000)
    (h : ∀ t' tk, wpAny (model prog w) A (kk (.str ⟨res.toArray⟩ t')) Q E { s with toks := tk }) (h' : ∀ t' tk, wpAny (model prog w) A (kk' (.str ⟨res.toArray⟩ t')) Q E { s with toks := tk }) :
    wpAny (model prog w) A (seqItems? (.ref D) >>= fun x => if (x.getD #[]).isEmpty = true then (pure (.str ⟨#[]⟩ t) >>= kk) else (call (.builtin "str.join") [.str ⟨#[]⟩ t, .ref D] >>= kk')) Q E s := by
  refine wpAny_bind (wpAny_seqItems hp rfl ?_)
  show wpAny (model prog w) A (if (strValues l).toArray.isEmpty = true then _ else _) Q E s
  by_cases he : (strValues l).toArray.isEmpty = true
  · rw [if_pos he]
    have hl0 : l = [] := by
      cases l with
      | nil => rfl
      | cons p l => simp [strValues] at he
    subst hl0
    have hr : res = [] := hc.symm
    subst hr
    exact wpAny_bind (wpAny_pure (h t s.toks))
  · rw [if_neg he]
    have hsum : ((l.map (·.1)).map (·.length)).sum = res.length := by
      rw [← hc]
      clear hp hc hl h he
      induction l with
      | nil => rfl
      | cons p l ih =>
        simp only [List.map_cons, List.sum_cons, ih, catL, List.flatMap_cons, List.length_append]
        congr 1
    have hok : JoinOk ⟨#[]⟩ (l.map (·.1)) = true := by
      unfold JoinOk
      rw [Bool.not_eq_true']
      have e := StrLaws.joinTotal ⟨#[]⟩ (l.map (·.1))
      rw [e, hsum]
      unfold Builtin.Str.tooLong
      rw [decide_eq_false_iff_not, sizeLine_eq]
      show ¬ (res.length + _ * 0 > _)
      omega
    refine wpAny_bind (SC.join (l := l) (texts := l.map (·.1)) ⟨_, hp, rfl, k, rfl⟩ rfl hok fun t' tk => ?_)
    have e : Txt.join ⟨#[]⟩ (l.map (·.1)) = ⟨res.toArray⟩ := by
      refine Str.ext' ?_
      refine Array.toList_inj.mp ?_
      rw [cat_join, ← hc]
      simp [catL, List.flatMap_map]
    rw [e]
    exact h' t' tk
end
end Mine
end PartRe3

section PartRe4
open PySem PySem.W PySem.Spec PySem.Calls PyProof.Rows
set_option maxRecDepth 100000
namespace Mine
open PySem.Sre PySem.Builtin.Re
section
variable {prog : Program} {wd : World} {A : Around} {E : Value → Shared → Prop}
abbrev loopCode (P D : Addr) (T Rs : Str) (tT tR : Tok) (nn : Int) (d : Nat) : Code := .builtin "re.Pattern.sub.loop" ⟨[.ref P, .str T tT, .str Rs tR, rawInt 0, rawInt 0, rawInt nn, rawInt d, rawInt d, .bool false, .ref D, .bool false], []⟩
theorem sub_loop {code : Array Nat} {R a r o : List Nat} (S : Subs code R a r o) {P D : Addr} {T Rs : Str} {tT tR : Tok} (hR : Rs.cps.toList = R) (hR0 : R ≠ []) :
    ∀ (s : Shared) (l : List (Str × Tok)) (k : Nat) (nn : Int) {RR : Result → Shared → Prop},
      (∀ h', (∀ b, b ≠ D → h'.get? b = s.heap.get? b) → PatAt h' P code) → T.cps.toList = a ++ r → (a ++ r).length ≤ 100000 → (catL l ++ o).length ≤ 100000 → l.length ≤ (catL l).length → s.heap.get? D = some (listOf (strValues l).toArray k) →
      (∀ t h' tk', (∀ b, b ≠ D → h'.get? b = s.heap.get? b) → RR (.ok (.ret (.str ⟨(catL l ++ o).toArray⟩ t))) { s with heap := h', toks := tk' }) →
      codeAny (model prog wd) A (loopCode P D T Rs tT tR nn a.length) RR s := by
  induction S with
  | @stop a r n hn hs =>
    intro s l k nn RR hP hT hz ho hl hD h
    have hTa : T.cps = (a ++ r).toArray := by rw [← hT]
    have hsz : T.cps.size = (a ++ r).length := by rw [hTa]; simp
    refine codeAny_builtin entry_re_loop ?_
    unfold Builtin.«re.Pattern.sub.loop»
    refine wpAny_bind (wp_target (hP _ fun _ _ => rfl) ?_)
    dsimp only
    rw [if_pos (show ((0 : Int) == 0) = true from rfl)]
    refine wpAny_bind (m := reLiteralCannotBeTurned (.str Rs tR)) (wpAny_pure ?_)
    refine wpAny_bind (m := reNextFound _ a.length false) (wp_reRun hn (.inr ⟨?_, ?_⟩))
    · dsimp only
      rw [hsz, hTa]; exact hs
    dsimp only
    have fin : ∀ (s' : Shared) (l' : List (Str × Tok)) (k' : Nat), s'.gens = s.gens → s'.drawn = s.drawn → s'.os = s.os → (∀ b, b ≠ D → s'.heap.get? b = s.heap.get? b) → catL l' = catL l ++ r → s'.heap.get? D = some (listOf (strValues l').toArray k') →
        wpAny (model prog wd) (A.under (loopCode P D T Rs tT tR nn a.length)) (reSlice T.cps 0 0 0 >>= fun joiner => seqItems? (.ref D) >>= fun x => if (x.getD #[]).isEmpty = true then (pure joiner >>= fun text => ret text) else (call (.builtin "str.join") [joiner, .ref D] >>= fun text => ret text))
          (fun fin s' => match fin with | .done f => RR (.ok f) s' | .again c' => c'.quiet = true ∧ codeAny (model prog wd) A c' RR s') (fun e s' => RR (.error e) s') s' := by
      intro s' l' k' e1 e2 e3 hb hc hD'
      obtain ⟨hp', g', d', t', os'⟩ := s'
      dsimp only at e1 e2 e3 hb hD'
      subst e1 e2 e3
      refine wpAny_bind (wp_slice (by rw [hsz]; exact hz) ?_)
      have e0 : T.cps.extract 0 0 = #[] := by simp
      rw [e0]
      exact sub_join (s := ⟨hp', s.gens, s.drawn, t' + 1, s.os⟩) hD' hc ho (fun t'' tk => wpAny_pure (h t'' hp' tk hb)) (fun t'' tk => wpAny_pure (h t'' hp' tk hb))
    by_cases hlt : a.length < T.cps.size
    · show wpAny _ _ (if a.length < T.cps.size then _ else _) _ _ _
      rw [if_pos hlt]
      refine wpAny_bind (wp_slice (by rw [hsz]; exact hz) ?_)
      have ex : T.cps.extract (a.length : Int).toNat T.cps.size = r.toArray := by
        rw [Int.toNat_natCast, hTa]; simp
      rw [ex]
      refine wpAny_bind (push_piece (s := { s with toks := s.toks + 1 }) hD (by rw [List.length_append] at ho; omega) fun h' k' hD' hb => ?_)
      refine fin _ _ k' rfl rfl rfl hb ?_ hD'
      rw [catL_snoc]
    · show wpAny _ _ (if a.length < T.cps.size then _ else _) _ _ _
      rw [if_neg hlt]
      refine fin s l k rfl rfl rfl (fun _ _ => rfl) ?_ hD
      have : r = [] := by
        rw [hsz, List.length_append] at hlt
        exact List.eq_nil_of_length_eq_zero (by omega)
      rw [this, List.append_nil]
  | @go a u v o w n hw hn hs next ih =>
    intro s l k nn RR hP hT hz ho hl hD h
    have hTa : T.cps = (a ++ (u ++ (w ++ v))).toArray := by rw [← hT]
    have hsz : T.cps.size = (a ++ (u ++ (w ++ v))).length := by rw [hTa]; simp
    refine codeAny_builtin entry_re_loop ?_
    unfold Builtin.«re.Pattern.sub.loop»
    refine wpAny_bind (wp_target (hP _ fun _ _ => rfl) ?_)
    dsimp only
    rw [if_pos (show ((0 : Int) == 0) = true from rfl)]
    refine wpAny_bind (m := reLiteralCannotBeTurned (.str Rs tR)) (wpAny_pure ?_)
    refine wpAny_bind (m := reNextFound _ a.length false) (wp_reRun (n := n) hn (.inl ?_))
    have hs' := hs
    rw [← hTa, ← hsz] at hs'
    refine ⟨hs'.out, ?_⟩
    dsimp only
    generalize M.runFor n (forSearch code T.cps 0 a.length T.cps.size false) = m at hs' ⊢
    obtain ⟨_, hst, hhd⟩ := hs'
    rw [hst, hhd]
    have hw0 : w.length ≠ 0 := fun e => hw (List.eq_nil_of_length_eq_zero e)
    have hmu : (a.length + u.length + w.length == a.length + u.length) = false := by
      rw [beq_eq_false_iff_ne]; omega
    rw [hmu]
    have hlen : a.length + u.length + w.length = (a ++ u ++ w).length := by simp only [List.length_append]
    rw [hlen]
    have hRl : R.length ≠ 0 := fun e => hR0 (List.eq_nil_of_length_eq_zero e)
    have fin : ∀ (s' : Shared) (l' : List (Str × Tok)) (k' : Nat), s'.gens = s.gens → s'.drawn = s.drawn → s'.os = s.os → (∀ b, b ≠ D → s'.heap.get? b = s.heap.get? b) → catL l' = catL l ++ u → l'.length ≤ (catL l').length → s'.heap.get? D = some (listOf (strValues l').toArray k') →
        wpAny (model prog wd) (A.under (loopCode P D T Rs tT tR nn a.length)) (do
          updateSeq D (·.push (.str Rs tR))
          again (loopCode P D T Rs tT tR (nn + 1) (a ++ u ++ w).length) : Sem Fin) (fun fin s' => match fin with | .done f => RR (.ok f) s' | .again c' => c'.quiet = true ∧ codeAny (model prog wd) A c' RR s') (fun e s' => RR (.error e) s') s' := by
      intro s' l' k' e1 e2 e3 hb hc hl' hD'
      obtain ⟨hp', g', d', t', os'⟩ := s'
      dsimp only at e1 e2 e3 hb hD'
      subst e1 e2 e3
      have hc' : catL l' ++ (R ++ o) = catL l ++ (u ++ (R ++ o)) := by rw [hc, List.append_assoc]
      have ho' := ho
      rw [← hc'] at ho'
      simp only [List.length_append] at ho'
      refine wpAny_bind (push_piece (s := ⟨hp', s.gens, s.drawn, t', s.os⟩) hD' (by omega) fun h' k'' hD'' hb' => ?_)
      refine wpAny_pure ⟨plainId_quiet plain_re_loop _, ?_⟩
      have hbb : ∀ b, b ≠ D → h'.get? b = s.heap.get? b := fun b hne => (hb' b hne).trans (hb b hne)
      have hcc : catL (l' ++ [(Rs, tR)]) = catL l' ++ R := by rw [catL_snoc, hR]
      refine ih (s := ⟨h', s.gens, s.drawn, t', s.os⟩) (l' ++ [(Rs, tR)]) k'' (nn + 1) (fun h'' hh => hP h'' fun b hne => (hh b hne).trans (hbb b hne)) ?_ ?_ ?_ ?_ hD'' ?_
      · rw [hT]; simp only [List.append_assoc]
      · simpa only [List.append_assoc] using hz
      · rw [hcc]; simp only [List.length_append]; omega
      · rw [hcc]; simp only [List.length_append, List.length_singleton]; omega
      · intro t'' h'' tk'' hh
        have := h t'' h'' tk'' fun b hne => (hh b hne).trans (hbb b hne)
        rw [hcc, List.append_assoc, hc']
        exact this
    by_cases hlt : a.length < a.length + u.length
    · show wpAny _ _ (if a.length < a.length + u.length then _ else _) _ _ _
      rw [if_pos hlt]
      refine wpAny_bind (wp_slice (by rw [hsz]; exact hz) ?_)
      have ex : T.cps.extract (a.length : Int).toNat (a.length + u.length) = u.toArray := by
        rw [Int.toNat_natCast, hTa]; simp
      rw [ex]
      have ho' := ho
      simp only [List.length_append] at ho'
      refine wpAny_bind (push_piece (s := { s with toks := s.toks + 1 }) hD (by omega) fun h' k' hD' hb => ?_)
      refine fin _ _ k' rfl rfl rfl hb ?_ ?_ hD'
      · rw [catL_snoc]
      · rw [catL_snoc]; simp only [List.length_append, List.length_singleton]; omega
    · show wpAny _ _ (if a.length < a.length + u.length then _ else _) _ _ _
      rw [if_neg hlt]
      have hu : u = [] := List.eq_nil_of_length_eq_zero (by omega)
      refine fin s l k rfl rfl rfl (fun _ _ => rfl) ?_ hl hD
      rw [hu, List.append_nil]
end
end Mine
end PartRe4

section PartRe5
open PySem PySem.W PySem.Spec PySem.Calls PyProof.Rows
set_option maxRecDepth 100000
namespace Mine
open PySem.Sre PySem.Builtin.Re
theorem named_sub (a b : Value) : reNamed "re.Pattern.sub" "sub" ["repl", "string", "count"] 2 [a, b] [] = pure [some a, some b, none] := by kernel_rfl
section
variable {prog : Program} {w : World} {A : Around} {E : Value → Shared → Prop} {s : Shared}
theorem sub_call {code : Array Nat} {R r o : List Nat} (S : Subs code R [] r o) {P : Addr} {T Rs : Str} {tT tR : Tok} {Q : Value → Shared → Prop} (hR : Rs.cps.toList = R) (hR0 : R ≠ []) (hlit : Rs.cps.contains 92 = false)
    (hP : PatAt s.heap P code) (hty : s.TypeIs (.ref P) "re.Pattern") (hT : T.cps.toList = r) (hz : r.length ≤ 100000) (ho : o.length ≤ 100000)
    (h : ∀ t h' tk', (∀ b ob, s.heap.get? b = some ob → h'.get? b = some ob) → Q (.str ⟨o.toArray⟩ t) { s with heap := h', toks := tk' }) :
    wpAny (model prog w) A (call (.builtin "re.Pattern.sub") [.ref P, .str Rs tR, .str T tT]) Q E s := by
  refine wpAny_call (codeAny_call_builtin slot_re_sub.plain entry_re_sub (slot_re_sub.check _ _ _ _ _ _ _ _ hty (args_re_sub _ _ _) ?_))
  show wpAny _ _ (reSubstitute "re.Pattern.sub" "sub" false ⟨[.ref P, .str Rs tR, .str T tT], []⟩) _ _ s
  unfold reSubstitute
  dsimp only
  rw [named_sub]
  refine wpAny_bind (wpAny_pure ?_)
  dsimp only
  refine wpAny_bind (wpAny_pure ?_)
  refine wpAny_bind (wpAny_specialOf (typeIs_str _ _ _) str_call_none ?_)
  show wpAny _ _ (asStr? (.str Rs tR) >>= _) _ _ _
  refine wpAny_bind (m := asStr? (.str Rs tR)) (wpAny_pure ?_)
  dsimp only
  rw [hlit]
  refine wpAny_bind (wpAny_pure ?_)
  refine wpAny_bind (wpAny_pure ?_)
  refine wpAny_bind (wpAny_holding (wp_target hP ?_))
  refine wpAny_bind (wpAny_newList ?_)
  refine wpAny_pure ⟨plainId_quiet plain_re_loop _, ?_⟩
  have hfresh : ∀ b ob, s.heap.get? b = some ob → b ≠ s.heap.objs.size := fun b ob e => Nat.ne_of_lt (Heap.lt_size e)
  have kp : ∀ h' : Heap, (∀ b, b ≠ s.heap.objs.size → h'.get? b = (s.heap.push (listOf #[] 0)).get? b) → ∀ b ob, s.heap.get? b = some ob → h'.get? b = some ob :=
    fun h' hh b ob e => (hh b (hfresh b ob e)).trans (Heap.get?_push_of_some _ e)
  refine sub_loop S (D := s.heap.objs.size) hR hR0 { s with heap := s.heap.push (listOf #[] 0) } [] 0 0 (fun h' hh => hP.keeps (kp h' hh)) hT hz ho (Nat.le_refl _) (Heap.get?_push_size _ rfl) fun t h' tk' hh => ?_
  exact h t h' tk' (kp h' hh)

theorem sub_K {h₀ : Heap} {L : Addr} {m : Str → Option Value} {news : List (Addr × Obj)} {code : Array Nat} {R r o : List Nat} (S : Subs code R [] r o) {P : Addr} {T Rs : Str} {tT tR : Tok} {Q : Value → Shared → Prop}
    (F : Fr h₀ L s.heap m) (N : News h₀ L s.heap news) (hP : PatAt h₀ P code) (hty : ∃ ob, h₀.get? P = some ob ∧ ob.cls = .type "re.Pattern")
    (hR : Rs.cps.toList = R) (hR0 : R ≠ []) (hlit : Rs.cps.contains 92 = false) (hT : T.cps.toList = r) (hz : r.length ≤ 100000) (ho : o.length ≤ 100000)
    (h : ∀ t h' tk', Fr h₀ L h' m → News h₀ L h' news → Q (.str ⟨o.toArray⟩ t) { s with heap := h', toks := tk' }) :
    wpAny (model prog w) A (call (.builtin "re.Pattern.sub") [.ref P, .str Rs tR, .str T tT]) Q E s := by
  obtain ⟨ob, e1, e2⟩ := hty
  refine sub_call S hR hR0 hlit (hP.keeps F.keep) ⟨ob, F.keep _ _ e1, e2⟩ hT hz ho fun t h' tk' hk => h t h' tk' ⟨F.ns.keeps hk, fun b o e => hk _ _ (F.keep _ _ e), F.above⟩ fun p hp => ⟨hk _ _ (N p hp).1, (N p hp).2⟩
end
end Mine
end PartRe5

section PartPl1
set_option maxRecDepth 100000
namespace Mine
open PySem PySem.Sre

/-- a row: its dots, its end -/
abbrev Row := Nat × List Nat
def rowText (x : Row) : List Nat := List.replicate x.1 46 ++ x.2
def mailText (rows : List Row) : List Nat := rows.flatMap rowText
def RowOk (x : Row) : Prop := (x.2 = [10] ∨ x.2 = [13] ∨ x.2 = [13, 10]) ∧ (x.1 = 0 → x.2 = [13, 10]) ∧ x.1 ≤ 7
def crlfRow (b : Nat) : Row := (b, [13, 10])
def fixed (bs : List Nat) : List Nat := mailText (bs.map crlfRow)
def quoteB (b : Nat) : Nat := if b = 0 then 0 else b + 1

theorem mailText_cons (x : Row) (rows : List Row) : mailText (x :: rows) = List.replicate x.1 46 ++ (x.2 ++ mailText rows) := by
  simp [mailText, rowText]
theorem fixed_cons (b : Nat) (bs : List Nat) : fixed (b :: bs) = List.replicate b 46 ++ ([13, 10] ++ fixed bs) := mailText_cons _ _
theorem fixed_nil : fixed [] = [] := rfl

theorem noEnd_dots (b : Nat) : noEnd (List.replicate b 46) := by
  intro c hc
  rw [List.eq_of_mem_replicate hc]
  rfl
theorem head_mail (rows : List Row) (h : ∀ x ∈ rows, RowOk x) : ((mailText rows).head? == some 10) = false := by
  cases rows with
  | nil => rfl
  | cons x r =>
    obtain ⟨b, e⟩ := x
    obtain ⟨h1, h2, _⟩ := h _ (.head _)
    rw [mailText_cons]
    cases b with
    | zero => rw [show e = [13, 10] from h2 rfl]; rfl
    | succ b => rfl

theorem subs2 : ∀ (rows : List Row) (a : List Nat), (∀ x ∈ rows, RowOk x) → Subs code2 [13, 10] a (mailText rows) (fixed (rows.map (·.1)))
  | [], a, _ => by
    obtain ⟨n, hn, e⟩ := search2_none a [] (fun _ h => nomatch h)
    exact .stop n (by omega) e
  | x :: rows, a, h => by
    obtain ⟨b, e⟩ := x
    have hx := h _ (.head _)
    have hr : ∀ y ∈ rows, RowOk y := fun y hy => h y (.tail _ hy)
    rw [mailText_cons, List.map_cons, fixed_cons]
    dsimp only
    have next := subs2 rows (a ++ List.replicate b 46 ++ e) hr
    rcases hx.1 with h1 | h1 | h1
    · dsimp only at h1
      subst h1
      obtain ⟨k, hf, hk⟩ := search2_some a (List.replicate b 46) 10 (mailText rows) (noEnd_dots b) rfl
      rw [if_neg (by simp)] at hk
      subst hk
      exact .go [10] 16 (by simp) (by omega) hf next
    · dsimp only at h1
      subst h1
      obtain ⟨k, hf, hk⟩ := search2_some a (List.replicate b 46) 13 (mailText rows) (noEnd_dots b) rfl
      rw [if_neg (by rw [head_mail rows hr]; decide)] at hk
      subst hk
      exact .go [13] 16 (by simp) (by omega) hf next
    · dsimp only at h1
      subst h1
      obtain ⟨k, hf, hk⟩ := search2_some a (List.replicate b 46) 13 (10 :: mailText rows) (noEnd_dots b) rfl
      rw [if_pos (by rfl)] at hk
      subst hk
      exact .go [13, 10] 16 (by simp) (by omega) hf next

theorem noStart_append (b : Bool) (p q : List Nat) : noStart b (p ++ q) = (noStart b p && noStart (begAfter b p) q) := by
  induction p generalizing b with
  | nil => rfl
  | cons c p ih =>
    show (!(b && c == 46) && noStart (c == 10) (p ++ q)) = ((!(b && c == 46) && noStart (c == 10) p) && noStart (begAfter (c == 10) p) q)
    rw [ih, Bool.and_assoc]
theorem noStart_dots : ∀ b : Nat, noStart false (List.replicate b 46) = true
  | 0 => rfl
  | b + 1 => noStart_dots b
theorem begAfter_dots : ∀ b : Nat, begAfter false (List.replicate b 46) = false
  | 0 => rfl
  | b + 1 => begAfter_dots b

theorem subs1 : ∀ (bs : List Nat) (a p : List Nat), noStart (begins a) p = true → begAfter (begins a) p = true → (p ++ fixed bs).length ≤ 100000 → Subs code1 [46, 46] a (p ++ fixed bs) (p ++ fixed (bs.map quoteB))
  | [], a, p, h1, h2, hz => by
    rw [List.map_nil, fixed_nil, List.append_nil] at *
    obtain ⟨n, hn, e⟩ := search1_none a p h1
    exact .stop n (by omega) e
  | 0 :: bs, a, p, h1, h2, hz => by
    have hp := subs1 bs a (p ++ [13, 10]) (by rw [noStart_append, h1, h2]; rfl) (by rw [begAfter_append]; rfl) (by simpa [fixed_cons] using hz)
    have e1 : p ++ fixed (0 :: bs) = (p ++ [13, 10]) ++ fixed bs := by simp [fixed_cons]
    have e2 : p ++ fixed ((0 :: bs).map quoteB) = (p ++ [13, 10]) ++ fixed (bs.map quoteB) := by simp [fixed_cons, quoteB]
    rw [e1, e2]
    exact hp
  | (b + 1) :: bs, a, p, h1, h2, hz => by
    have hb : begins (a ++ p ++ [46]) = false := begAfter_snoc _ _ _
    have hp := subs1 bs (a ++ p ++ [46]) (List.replicate b 46 ++ [13, 10]) (by rw [hb, noStart_append, noStart_dots, begAfter_dots]; rfl) (by rw [begAfter_append]; rfl)
      (by rw [fixed_cons] at hz; simp only [List.length_append, List.length_replicate, List.length_cons, List.length_nil] at hz ⊢; omega)
    have e1 : p ++ fixed ((b + 1) :: bs) = p ++ ([46] ++ (List.replicate b 46 ++ [13, 10] ++ fixed bs)) := by simp [fixed_cons, List.replicate_succ]
    have e2 : p ++ fixed (((b + 1) :: bs).map quoteB) = p ++ ([46, 46] ++ (List.replicate b 46 ++ [13, 10] ++ fixed (bs.map quoteB))) := by simp [fixed_cons, quoteB, List.replicate_succ]
    rw [e1, e2]
    obtain ⟨n, hn, hf⟩ := search1_some a p (List.replicate b 46 ++ [13, 10] ++ fixed bs) h1 h2
    have hpl : p.length ≤ 100000 := by
      rw [List.length_append] at hz; omega
    exact .go [46] n (by simp) (by omega) hf hp

theorem subs_fix (rows : List Row) (h : ∀ x ∈ rows, RowOk x) : Subs code2 [13, 10] [] (mailText rows) (fixed (rows.map (·.1))) := subs2 rows [] h
theorem subs_quote (bs : List Nat) (hz : (fixed bs).length ≤ 100000) : Subs code1 [46, 46] [] (fixed bs) (fixed (bs.map quoteB)) := subs1 bs [] [] rfl rfl hz
theorem fixed_length (bs : List Nat) : (fixed bs).length = bs.sum + 2 * bs.length := by
  induction bs with
  | nil => rfl
  | cons b bs ih => rw [fixed_cons]; simp only [List.length_append, List.length_replicate, List.length_cons, List.length_nil, List.sum_cons, ih]; omega
end Mine
end PartPl1

section PartFx
open PySem PySem.W PySem.Spec PySem.Calls PyProof.Rows
set_option maxRecDepth 100000
set_option maxHeartbeats 8000000
namespace Mine
theorem look57 (w : World) : ∃ o fs, (hd.heap_39 w.params).lookup 57 = some o ∧ o.cls = .type "re.Pattern" ∧ o.dict = none ∧ o.data = .fields fs ∧ Builtin.Re.reRawNat (fs.getD 6 .none) = 0 ∧ Builtin.Re.reRawNat (fs.getD 2 .none) = 0 ∧ fs.getD 5 .none = .ref 56 := ⟨_, _, rfl, rfl, rfl, rfl, rfl, rfl, rfl⟩
theorem look56 (w : World) : ∃ o its k, (hd.heap_39 w.params).lookup 56 = some o ∧ o.data = .seq its k ∧ (its.map Builtin.Re.reRawOf).map (·.toNat) = code1 := ⟨_, _, _, rfl, rfl, by decide +kernel⟩
theorem look62 (w : World) : ∃ o fs, (hd.heap_39 w.params).lookup 62 = some o ∧ o.cls = .type "re.Pattern" ∧ o.dict = none ∧ o.data = .fields fs ∧ Builtin.Re.reRawNat (fs.getD 6 .none) = 0 ∧ Builtin.Re.reRawNat (fs.getD 2 .none) = 0 ∧ fs.getD 5 .none = .ref 61 := ⟨_, _, rfl, rfl, rfl, rfl, rfl, rfl, rfl⟩
theorem look61 (w : World) : ∃ o its k, (hd.heap_39 w.params).lookup 61 = some o ∧ o.data = .seq its k ∧ (its.map Builtin.Re.reRawOf).map (·.toNat) = code2 := ⟨_, _, _, rfl, rfl, by decide +kernel⟩

theorem pat1 {w : World} {h : Heap} (X : (hd.heap_39 w.params).In h) : PatAt h 57 code1 := by
  obtain ⟨o, fs, h1, _, _, h2, h3, h4, h5⟩ := look57 w
  obtain ⟨oc, its, k, h6, h7, h8⟩ := look56 w
  exact ⟨o, fs, X _ _ h1, h2, h3, h4, 56, oc, its, k, h5, X _ _ h6, h7, h8⟩
theorem pat2 {w : World} {h : Heap} (X : (hd.heap_39 w.params).In h) : PatAt h 62 code2 := by
  obtain ⟨o, fs, h1, _, _, h2, h3, h4, h5⟩ := look62 w
  obtain ⟨oc, its, k, h6, h7, h8⟩ := look61 w
  exact ⟨o, fs, X _ _ h1, h2, h3, h4, 61, oc, its, k, h5, X _ _ h6, h7, h8⟩
theorem ty1 {w : World} {h : Heap} (X : (hd.heap_39 w.params).In h) : ∃ ob, h.get? 57 = some ob ∧ ob.cls = .type "re.Pattern" ∧ ob.dict = none := by
  obtain ⟨o, fs, h1, h2, h3, _⟩ := look57 w
  exact ⟨o, X _ _ h1, h2, h3⟩
theorem ty2 {w : World} {h : Heap} (X : (hd.heap_39 w.params).In h) : ∃ ob, h.get? 62 = some ob ∧ ob.cls = .type "re.Pattern" ∧ ob.dict = none := by
  obtain ⟨o, fs, h1, h2, h3, _⟩ := look62 w
  exact ⟨o, X _ _ h1, h2, h3⟩
section
variable {prog : Program} {w w' : World} {A : Around} {E : Value → Shared → Prop} {s : Shared} {h₀ : Heap} {L : Addr} {m : Str → Option Value} {news : List (Addr × Obj)} {pl : Sem Bool}
theorem meth1 {Q : Value × List Value → Shared → Prop} (F : Fr h₀ L s.heap m) (X : (hd.heap_39 w'.params).In h₀) (h : Q (.builtin "re.Pattern.sub", [.ref 57]) s) : wpAny (model prog w) A (getMethod (.ref 57) "sub" pl) Q E s := by
  obtain ⟨o, h1, h2, h3⟩ := ty1 X
  exact getMethod_re_sub (F.keep _ _ h1) h2 h3 h
theorem meth2 {Q : Value × List Value → Shared → Prop} (F : Fr h₀ L s.heap m) (X : (hd.heap_39 w'.params).In h₀) (h : Q (.builtin "re.Pattern.sub", [.ref 62]) s) : wpAny (model prog w) A (getMethod (.ref 62) "sub" pl) Q E s := by
  obtain ⟨o, h1, h2, h3⟩ := ty2 X
  exact getMethod_re_sub (F.keep _ _ h1) h2 h3 h
theorem callRe1 {r o : List Nat} {tT tR : Tok} {Q : Value → Shared → Prop} (F : Fr h₀ L s.heap m) (X : (hd.heap_39 w'.params).In h₀) (N : News h₀ L s.heap news) (S : Subs code1 [46, 46] [] r o) (hz : r.length ≤ 100000 ∧ o.length ≤ 100000)
    (h : ∀ t h' tk', Fr h₀ L h' m → News h₀ L h' news → Q (.str ⟨o.toArray⟩ t) { s with heap := h', toks := tk' }) :
    wpAny (model prog w) A (call (.builtin "re.Pattern.sub") [.ref 57, .str (Str.ofString "..") tR, .str ⟨r.toArray⟩ tT]) Q E s := by
  obtain ⟨o, h1, h2, h3⟩ := ty1 X
  exact sub_K S F N (pat1 X) ⟨o, h1, h2⟩ (by decide +kernel) (by simp) (by decide +kernel) rfl hz.1 hz.2 h
theorem callRe2 {r o : List Nat} {tT tR : Tok} {Q : Value → Shared → Prop} (F : Fr h₀ L s.heap m) (X : (hd.heap_39 w'.params).In h₀) (N : News h₀ L s.heap news) (S : Subs code2 [13, 10] [] r o) (hz : r.length ≤ 100000 ∧ o.length ≤ 100000)
    (h : ∀ t h' tk', Fr h₀ L h' m → News h₀ L h' news → Q (.str ⟨o.toArray⟩ t) { s with heap := h', toks := tk' }) :
    wpAny (model prog w) A (call (.builtin "re.Pattern.sub") [.ref 62, .str (Str.ofString "\r\n") tR, .str ⟨r.toArray⟩ tT]) Q E s := by
  obtain ⟨o, h1, h2, h3⟩ := ty2 X
  exact sub_K S F N (pat2 X) ⟨o, h1, h2⟩ (by decide +kernel) (by simp) (by decide +kernel) rfl hz.1 hz.2 h
end
end Mine
end PartFx

section PartFe
open PySem PySem.W PySem.Spec PySem.Calls PyProof.Rows
set_option maxRecDepth 100000
set_option maxHeartbeats 8000000
namespace Mine
local macro_rules | `(tactic| walk_at "no key 0") => `(tactic| skip)
local macro_rules | `(tactic| walk_at "no key 1") => `(tactic| skip)
local macro_rules | `(tactic| walk_at "no key 2") => `(tactic| skip)
local macro_rules | `(tactic| walk_at "no key 3") => `(tactic| skip)
local macro_rules | `(tactic| walk_at "no key 4") => `(tactic| skip)
local macro_rules | `(tactic| walk_at "no key 5") => `(tactic| skip)
local macro_rules | `(tactic| walk_at "no key 6") => `(tactic| skip)
local macro_rules | `(tactic| walk_at "no key 7") => `(tactic| skip)
local macro_rules | `(tactic| walk_at "no key 8") => `(tactic| skip)
local macro_rules | `(tactic| walk_at "no key 9") => `(tactic| skip)
local macro_rules | `(tactic| walk_at "no key 10") => `(tactic| skip)
local macro_rules | `(tactic| walk_at "no key 11") => `(tactic| skip)
local macro_rules | `(tactic| walk_at "no key 12") => `(tactic| skip)
local macro_rules | `(tactic| walk_at "no key 13") => `(tactic| skip)
local macro_rules | `(tactic| walk_at "no key 14") => `(tactic| skip)
local macro_rules | `(tactic| walk_at "no key 15") => `(tactic| skip)
local macro_rules | `(tactic| walk_at "no key 16") => `(tactic| skip)
local macro_rules | `(tactic| walk_at "no key 17") => `(tactic| skip)
local macro_rules | `(tactic| walk_at "no key 18") => `(tactic| skip)
local macro_rules | `(tactic| walk_at "no key 19") => `(tactic| skip)
local macro_rules | `(tactic| walk_at "no key 20") => `(tactic| skip)
local macro_rules | `(tactic| walk_at "no key 21") => `(tactic| skip)
local macro_rules | `(tactic| walk_at "no key 22") => `(tactic| skip)
local macro_rules | `(tactic| walk_at "no key 23") => `(tactic| skip)
example : PySem.Challenge.rw_pg0182_01 = PySem.Challenge.rw_pg0182_01 ∧ hd.heap_39 = hd.heap_39 := by
  k_fill
  exact ⟨rfl, rfl⟩
local macro_rules | `(tactic| walk_at "getMethod ref") => `(tactic| (k_here; k_dflt (first | (refine' meth2 ?k1 ?k2 ?_; (case k1 => k_asm); (case k2 => k_asm); k_whole) | (refine' meth1 ?k1 ?k2 ?_; (case k1 => k_asm); (case k2 => k_asm); k_whole))))
local macro_rules | `(tactic| walk_at "call builtin:re.Pattern.sub") => `(tactic| (k_here; k_dflt (first | (refine' callRe2 ?k1 ?k2 ?k3 ?k4 ?k5 ?_; (case k1 => k_asm); (case k2 => k_asm); (case k3 => k_asm); (case k4 => assumption); (case k5 => assumption); k_whole) | (refine' callRe1 ?k1 ?k2 ?k3 ?k4 ?k5 ?_; (case k1 => k_asm); (case k2 => k_asm); (case k3 => k_asm); (case k4 => assumption); (case k5 => assumption); k_whole)); intro _ h' _ F' N'; k_sweep))

theorem fixEols (w : World) (mean : ExcName → Option Value) (mg mb : Str → Option Value) (news : List (Addr × Obj))
    (r o : List Nat) (t : Tok) (hS : Subs code2 [13, 10] [] r o) (hz : r.length ≤ 100000 ∧ o.length ≤ 100000) :
    Does w mean mg mb (.ref 76) [.str ⟨r.toArray⟩ t] 1 news fun tl v => tl = [] ∧ ∃ t, v = .str ⟨o.toArray⟩ t := by
  unfold Does
  intro dp un gd cn csc a ccd cl outer A₀ base h₀ L m s Q E B F X N T hk hdp hun hret
  refine wpAny_call ?_
  k_dflt cell_enter
  k_steps
  all_goals exact hret _ [] _ _ (by k_asm) (by (show News _ _ _ news); k_asm) (fun _ _ _ h9 => nomatch h9) ⟨rfl, _, rfl⟩

theorem quoted (w : World) (mean : ExcName → Option Value) (mg mb : Str → Option Value) (news : List (Addr × Obj))
    (r o q : List Nat) (t : Tok) (hS : Subs code2 [13, 10] [] r o) (hS2 : Subs code1 [46, 46] [] o q) (hz : r.length ≤ 100000 ∧ o.length ≤ 100000) (hz2 : o.length ≤ 100000 ∧ q.length ≤ 100000) :
    Does w mean mg mb (.ref 69) [.str ⟨r.toArray⟩ t] 1 news fun tl v => tl = [] ∧ ∃ t, v = .str ⟨q.toArray⟩ t := by
  unfold Does
  intro dp un gd cn csc a ccd cl outer A₀ base h₀ L m s Q E B F X N T hk hdp hun hret
  refine wpAny_call ?_
  k_dflt cell_enter
  k_steps

  all_goals exact hret _ [] _ _ (by k_asm) (by (show News _ _ _ news); k_asm) (fun _ _ _ h9 => nomatch h9) ⟨rfl, _, rfl⟩
end Mine
end PartFe

section PartRp
open PySem PySem.W PySem.Spec PySem.Calls PyProof.Rows
set_option maxRecDepth 100000
set_option maxHeartbeats 8000000
namespace Mine
example : PySem.Challenge.rw_pg0182_01 = PySem.Challenge.rw_pg0182_01 ∧ hd.heap_39 = hd.heap_39 := by
  k_fill
  exact ⟨rfl, rfl⟩

theorem join_fact {prog : Program} {w : World} {A : Around} {E : Value → Shared → Prop} {s : Shared} {D : Addr} {l : List (Str × Tok)} {texts : List Str} {x y : Str} {t : Tok} {Q : Value → Shared → Prop} (hl : s.heap.IsList D (strValues l).toArray) (ht : l.map (·.1) = texts) (hf : JoinOk x texts = true ∧ Txt.join x texts = y)
    (hq : ∀ t' k, Q (.str y t') { s with toks := k }) : wpAny (model prog w) A (call (.builtin "str.join") [.str x t, .ref D]) Q E s := SC.join hl ht hf.1 fun t' k => hf.2 ▸ hq t' k
local macro_rules | `(tactic| walk_at "call builtin:str.join") => `(tactic| (k_here; k_dflt (refine' join_fact ?k1 ?k2 ?k3 ?_; (case k1 => assumption); (case k2 => assumption); (case k3 => assumption); k_whole); intro _ _))
theorem slice2_lit {prog : Program} {w : World} {A : Around} {E : Value → Shared → Prop} {s : Shared} {h₀ : Heap} {L : Addr} {m : Str → Option Value} {news : List (Addr × Obj)} {value slice : PySem.Expr} {t : Addr} {x y : Value} {vs : List Value} {u : Tok} {Q : Value → Shared → Prop}
    (F : Fr h₀ L s.heap m) (N : News h₀ L s.heap news) (ht : IsTup s.heap t (x :: y :: vs).toArray) (hsz : (x :: y :: vs).length ≤ 1000)
    (h : ∀ D h', Fr h₀ L h' m → News h₀ L h' ((D, tupOf vs) :: news) → (∀ p ∈ news, p.1 < D) → Q (.ref D) { s with heap := h' })
    (hs : subscripted slice false (.ref t) (.ref s.heap.objs.size) = operate [.ref s.heap.objs.size, .ref t] (getItem (.ref t) (.ref s.heap.objs.size)) := by with_unfolding_all rfl)
    (hg : ∀ r, letTemporaryGo value (.ref t) r = pure () := by intro _; with_unfolding_all rfl) :
    wpAny (model prog w) A (subscriptTail value slice (.ref t) (.ref s.heap.objs.size)) Q E { s with heap := s.heap.push { cls := .type "slice", data := .fields #[.int 2 u, .none, .none] } } :=
  slice_tuple_from (a := 2) F N ht (by omega) (by rw [List.size_toArray, List.length_cons, List.length_cons]; omega) (fun h' F' N' => h _ h' F' N' fun p hp => Nat.lt_succ_of_lt (Heap.lt_size (N p hp).1)) hs hg (by rw [List.size_toArray, sizeLine_eq]; omega)
local macro_rules | `(tactic| walk_at "subscriptTail Name Slice ref ref") => `(tactic| (k_here; k_dflt (refine' slice2_lit ?F ?N ?t ?z ?_; (case F => k_asm); (case N => k_asm); (case t => exact News.isTup (by k_asm) (by k_mem)); (case z => exact Nat.le_of_ble_eq_true rfl); k_whole); intro D' h' F' N' l1; (try k_lt l1)))
local macro_rules | `(tactic| walk_at "exec While Name cons nil") => `(tactic| (k_here; k_dflt (refine whl_start 10 ?_)))
theorem replaced (w : World) (mean : ExcName → Option Value) (mg mb : Str → Option Value) (news : List (Addr × Obj))
    (x : Str) (t t1 t2 t3 t4 : Tok) (hx : x.length ≤ 1000) (y z : Str) (hy : y.length ≤ 1000) (f1 : JoinOk (Str.ofString "\t") (Txt.split x (Str.ofString "\r\n")) = true ∧ Txt.join (Str.ofString "\t") (Txt.split x (Str.ofString "\r\n")) = y) (f2 : JoinOk (Str.ofString " ") (Txt.split y (Str.ofString ".")) = true ∧ Txt.join (Str.ofString " ") (Txt.split y (Str.ofString ".")) = z) :
    Does w mean mg mb (.ref 45) [.str x t, .str (Str.ofString "\r\n") t1, .str (Str.ofString "\t") t2, .str (Str.ofString ".") t3, .str (Str.ofString " ") t4] 1 news fun tl v => tl = [] ∧ ∃ t, v = .str z t := by
  unfold Does
  intro dp un gd cn csc a ccd cl outer A₀ base h₀ L m s Q E B F X N T hk hdp hun hret
  refine wpAny_call ?_
  k_dflt (refine' kp_rest ?k1 ?k2 ?k3 ?k4 ?k5 ?kA ?kF ?kK ?k6 ?k7 ?k8 ?kV ?kP ?kG ?kB ?_ ?c2 ?c3 ?c4 ?c5; (case kA => exact rfl); (case kF => exact rfl); (case kK => assumption); (case k1 => k_asm); (case k2 => k_asm); (case k3 => k_asm); (case k4 => k_asm); (case k5 => k_asm); (case k6 => k_is); (case k7 => k_is); (case k8 => ktr_room); (case kV => kl_lit); (case kP => exact rfl); (case kG => exact fun _ => rfl); (case kB => exact fun _ => locs rfl); (case c5 => decide); (case c2 => exact rfl); (case c3 => exact rfl); (case c4 => exact rfl); k_whole; intro D' g' L' h' l1 FG' F' N' B' X' T'; (try k_lt l1); (try dsimp only); (try k_lift B'); (try k_fold))
  k_steps
  (rename News _ _ _ _ => kN9)
  exact hret _ [] _ _ (by k_asm) (cb_drop kN9 (by intro p hp; repeat' (first | exact hp | refine List.mem_cons_of_mem _ ?_))) (fun _ _ _ h9 => nomatch h9) ⟨rfl, _, rfl⟩
end Mine
end PartRp

section PartPl2
set_option maxRecDepth 100000
namespace Mine
open PySem PySem.Builtin PySem.Builtin.Str PySem.StrLaws

/-- pieces with sep between -/
def joinN (sep : List Nat) : List (List Nat) → List Nat
  | [] => []
  | [p] => p
  | p :: q :: r => p ++ (sep ++ joinN sep (q :: r))

theorem join_toList (sep : Str) : ∀ parts : List Str, (Str.join sep parts).cps.toList = joinN sep.cps.toList (parts.map (·.cps.toList))
  | [] => rfl
  | [p] => rfl
  | p :: q :: r => by
    show (p ++ sep ++ Str.join sep (q :: r)).cps.toList = _
    rw [Str.cps_append, Str.cps_append, Array.toList_append, Array.toList_append, join_toList sep (q :: r)]
    show _ = p.cps.toList ++ (sep.cps.toList ++ _)
    rw [List.append_assoc]
    rfl

abbrev S (l : List Nat) : Str := ⟨l.toArray⟩

theorem at_sep (pre sep r : List Nat) : At (S (pre ++ (sep ++ r))) (S sep) (pre ++ (sep ++ r)).length pre.length := by
  refine ⟨?_, ?_⟩
  · show pre.length + sep.toArray.size ≤ _
    simp only [List.size_toArray, List.length_append]; omega
  · rw [subAt_eq]
    show (((pre ++ (sep ++ r)).toArray.toList.drop pre.length).take sep.toArray.size == sep.toArray.toList) = true
    simp
theorem not_at {x : List Nat} {c : Nat} {sep : List Nat} {k d : Nat} (h : x[k]? = some d) (hd : d ≠ c) : ¬ At (S x) (S (c :: sep)) x.length k := by
  rintro ⟨_, h2⟩
  rw [subAt_eq] at h2
  have h3 : (x.drop k).take (sep.length + 1) = c :: sep := by
    have e : (S (c :: sep)).length = sep.length + 1 := by simp [Str.length]
    rw [e] at h2
    simpa using h2
  have h4 : ((x.drop k).take (sep.length + 1))[0]? = some c := by rw [h3]; rfl
  rw [List.getElem?_take_of_lt (by omega), List.getElem?_drop, Nat.add_zero, h] at h4
  exact hd (Option.some.inj h4)

theorem parts_at {c : Nat} {sep : List Nat} : ∀ (parts : List (List Nat)) (pre : List Nat) (cuts : List Nat) (f : Nat), parts ≠ [] → (∀ p ∈ parts, c ∉ p) →
    ChainG (S (pre ++ joinN (c :: sep) parts)) (S (c :: sep)) (pre ++ joinN (c :: sep) parts).length pre.length cuts f → (∀ k, f ≤ k → ¬ At (S (pre ++ joinN (c :: sep) parts)) (S (c :: sep)) (pre ++ joinN (c :: sep) parts).length k) →
    partsFrom (S (pre ++ joinN (c :: sep) parts)) (sep.length + 1) pre.length cuts = parts.map S
  | [], _, _, _, h, _, _, _ => absurd rfl h
  | [p], pre, cuts, f, _, hf, hc, hn => by
    have hfree : ∀ k, pre.length ≤ k → ¬ At (S (pre ++ p)) (S (c :: sep)) (pre ++ p).length k := by
      intro k hk hA
      have hk2 : k < (pre ++ p).length := by
        have := hA.1
        simp only [Str.length, List.size_toArray, List.length_cons] at this
        omega
      have hget : (pre ++ p)[k]? = some ((pre ++ p)[k]) := List.getElem?_eq_getElem hk2
      refine not_at hget ?_ hA
      intro e
      have hm : (pre ++ p)[k] ∈ p := by
        rw [List.getElem_append_right hk]
        exact List.getElem_mem _
      rw [e] at hm
      exact hf p (.head _) hm
    cases cuts with
    | nil =>
      show [strSub (S (pre ++ p)) pre.length (S (pre ++ p)).length] = [S p]
      congr 1
      refine Str.ext' (Array.toList_inj.mp ?_)
      rw [strSub_toList]
      simp [Str.length]
    | cons k r => exact absurd hc.2.1 (hfree k hc.1)
  | p :: q :: r, pre, cuts, f, _, hf, hc, hn => by
    have hA : At (S (pre ++ joinN (c :: sep) (p :: q :: r))) (S (c :: sep)) (pre ++ joinN (c :: sep) (p :: q :: r)).length (pre ++ p).length := by
      have := at_sep (pre ++ p) (c :: sep) (joinN (c :: sep) (q :: r))
      rw [List.append_assoc] at this
      exact this
    have hfree : ∀ k, pre.length ≤ k → k < (pre ++ p).length → ¬ At (S (pre ++ joinN (c :: sep) (p :: q :: r))) (S (c :: sep)) (pre ++ joinN (c :: sep) (p :: q :: r)).length k := by
      intro k hk hk2
      have hget : (pre ++ joinN (c :: sep) (p :: q :: r))[k]? = some ((pre ++ p)[k]) := by
        show (pre ++ (p ++ _))[k]? = _
        rw [← List.append_assoc, List.getElem?_append_left hk2]
        exact List.getElem?_eq_getElem hk2
      refine not_at hget ?_
      intro e
      have hm : (pre ++ p)[k] ∈ p := by
        rw [List.getElem_append_right hk]
        exact List.getElem_mem _
      rw [e] at hm
      exact hf p (.head _) hm
    cases cuts with
    | nil =>
      have e : f = pre.length := hc
      exact absurd hA (hn _ (by rw [e, List.length_append]; omega))
    | cons k cuts =>
      obtain ⟨h1, h2, h3, h4⟩ := hc
      have ek : k = (pre ++ p).length := by
        rcases Nat.lt_trichotomy k (pre ++ p).length with h | h | h
        · exact absurd h2 (hfree k h1 h)
        · exact h
        · exact absurd hA (h3 _ (by rw [List.length_append]; omega) h)
      subst ek
      have e : pre ++ joinN (c :: sep) (p :: q :: r) = (pre ++ p ++ (c :: sep)) ++ joinN (c :: sep) (q :: r) := by
        show pre ++ (p ++ ((c :: sep) ++ _)) = _
        simp only [List.append_assoc]
      have el : (pre ++ p).length + (sep.length + 1) = (pre ++ p ++ (c :: sep)).length := by simp only [List.length_append, List.length_cons]
      have el2 : (S (c :: sep)).length = sep.length + 1 := by simp [Str.length]
      rw [el2, el, e] at h4
      rw [e] at hn
      have ih := parts_at (q :: r) (pre ++ p ++ (c :: sep)) cuts f (by simp) (fun x hx => hf x (.tail _ hx)) h4 hn
      show strSub _ pre.length (pre ++ p).length :: partsFrom _ (sep.length + 1) ((pre ++ p).length + (sep.length + 1)) cuts = S p :: (q :: r).map S
      rw [el]
      rw [← e] at ih
      rw [ih]
      congr 1
      refine Str.ext' (Array.toList_inj.mp ?_)
      rw [strSub_toList]
      show ((pre ++ (p ++ _)).toArray.toList.drop pre.length).take _ = _
      simp

theorem kind_pos (x : Str) : 1 ≤ Str.strKind x := by
  unfold Str.strKind
  split
  · exact Nat.le_refl _
  · split <;> omega

theorem joinN_length (c : Nat) (sep : List Nat) : ∀ p q r, sep.length + 1 ≤ (joinN (c :: sep) (p :: q :: r)).length := by
  intro p q r
  show _ ≤ (p ++ ((c :: sep) ++ _)).length
  simp only [List.length_append, List.length_cons]; omega

theorem split_parts {c : Nat} {sep : List Nat} (hk : Str.strKind (S (c :: sep)) = 1) (parts : List (List Nat)) (h0 : parts ≠ []) (hf : ∀ p ∈ parts, c ∉ p) : Txt.split (S (joinN (c :: sep) parts)) (S (c :: sep)) = parts.map S := by
  unfold Txt.split
  have hk1 : decide (Str.strKind (S (joinN (c :: sep) parts)) < Str.strKind (S (c :: sep))) = false := by
    rw [hk, decide_eq_false_iff_not]
    have := kind_pos (S (joinN (c :: sep) parts))
    omega
  rw [hk1, Bool.or_false]
  have hw : (S (c :: sep)).length = sep.length + 1 := by simp [Str.length]
  obtain ⟨f, h1, h2⟩ := occ_tight (S (joinN (c :: sep) parts)) (S (c :: sep)) (by rw [hw]; omega)
  have el : (S (joinN (c :: sep) parts)).length = (joinN (c :: sep) parts).length := by simp [Str.length]
  have key := parts_at parts [] (occurrences (S (joinN (c :: sep) parts)) (S (c :: sep)) 0 (S (joinN (c :: sep) parts)).length ((S (joinN (c :: sep) parts)).length + 1)) f h0 hf (by rw [List.nil_append, ← el]; exact h1) (by rw [List.nil_append, ← el]; exact h2)
  rw [List.nil_append] at key
  by_cases hlt : (S (joinN (c :: sep) parts)).length < (S (c :: sep)).length
  · rw [if_pos (by simpa using hlt)]
    cases parts with
    | nil => exact absurd rfl h0
    | cons p r =>
      cases r with
      | nil => rfl
      | cons q r =>
        rw [el, hw] at hlt
        exact absurd (joinN_length c sep p q r) (by omega)
  · rw [if_neg (by simpa using hlt)]
    split
    · rename_i he
      have he' := List.isEmpty_iff.mp he
      rw [he'] at key
      rw [← key]
      show [S (joinN (c :: sep) parts)] = [strSub _ 0 _]
      rw [sub_whole]
    · rw [partsBetween_eq, hw]
      exact key

/-- each c becomes z -/
def subst1 (c : Nat) (z : List Nat) (l : List Nat) : List Nat := l.flatMap fun d => if d = c then z else [d]
theorem subst1_free {c : Nat} {z l : List Nat} (h : c ∉ l) : subst1 c z l = l := by
  induction l with
  | nil => rfl
  | cons d l ih =>
    show (if d = c then z else [d]) ++ subst1 c z l = d :: l
    rw [if_neg (fun e : d = c => h (e ▸ List.Mem.head l)), ih (fun hm => h (.tail _ hm))]
    rfl
theorem subst1_append (c : Nat) (z a b : List Nat) : subst1 c z (a ++ b) = subst1 c z a ++ subst1 c z b := by simp [subst1]
theorem subst1_join (c : Nat) (z : List Nat) : ∀ parts : List (List Nat), (∀ p ∈ parts, c ∉ p) → subst1 c z (joinN [c] parts) = joinN z parts
  | [], _ => rfl
  | [p], h => subst1_free (h p (.head _))
  | p :: q :: r, h => by
    show subst1 c z (p ++ ([c] ++ joinN [c] (q :: r))) = p ++ (z ++ joinN z (q :: r))
    rw [subst1_append, subst1_append, subst1_free (h p (.head _)), subst1_join c z (q :: r) (fun x hx => h x (.tail _ hx))]
    congr 2
    show (if c = c then z else [c]) ++ [] = z
    rw [if_pos rfl, List.append_nil]

theorem join_split_one (x : Str) (c : Nat) (z : Str) : (Txt.join z (Txt.split x ⟨#[c]⟩)).cps.toList = subst1 c z.cps.toList x.cps.toList := by
  show (glued z _).cps.toList = _
  rw [glued_eq_join, join_toList]
  have h1 : (Str.join ⟨#[c]⟩ (Txt.split x ⟨#[c]⟩)).cps.toList = x.cps.toList := congrArg (fun s : PySem.Str => s.cps.toList) (join_split x ⟨#[c]⟩)
  rw [join_toList] at h1
  rw [← h1]
  refine (subst1_join c _ _ ?_).symm
  intro p hp
  obtain ⟨s, hs, rfl⟩ := List.mem_map.mp hp
  exact split_free x c s hs

theorem joinN_sum (sep : List Nat) : ∀ parts : List (List Nat), parts ≠ [] → (joinN sep parts).length + sep.length = (parts.map (·.length)).sum + parts.length * sep.length
  | [], h => absurd rfl h
  | [p], _ => by simp [joinN]
  | p :: q :: r, _ => by
    have ih := joinN_sum sep (q :: r) (by simp)
    show (p ++ (sep ++ joinN sep (q :: r))).length + sep.length = _
    rw [List.length_append, List.length_append, List.map_cons, List.sum_cons, List.length_cons, Nat.succ_mul]
    omega
theorem split_ne (x y : Str) : Txt.split x y ≠ [] := by
  unfold Txt.split
  split
  · simp
  · split
    · simp
    · rw [partsBetween_eq]
      obtain ⟨p, r, e⟩ := partsFrom_ne x y.length 0 (occurrences x y 0 x.length (x.length + 1))
      rw [e]; simp
theorem joinOk_of {z : Str} {parts : List Str} (hp : parts ≠ []) (h : (Txt.join z parts).length + z.length ≤ 1000000) : JoinOk z parts = true := by
  unfold JoinOk
  rw [Bool.not_eq_true', joinTotal]
  unfold tooLong
  rw [decide_eq_false_iff_not, sizeLine_eq]
  have e1 : (Txt.join z parts).length = (joinN z.cps.toList (parts.map (·.cps.toList))).length := by
    show (glued z parts).cps.size = _
    rw [glued_eq_join, ← join_toList, Array.length_toList]
  have e2 := joinN_sum z.cps.toList (parts.map (·.cps.toList)) (by simpa using hp)
  have e3 : z.cps.toList.length = z.length := by simp [Str.length]
  have e4 : ((parts.map (·.cps.toList)).map (·.length)).sum = (parts.map (·.length)).sum := by
    rw [List.map_map]; congr 1
  rw [e3, e4, List.length_map, ← e1] at e2
  omega
end Mine
end PartPl2

section PartPl3
set_option maxRecDepth 100000
namespace Mine
open PySem PySem.Builtin PySem.Builtin.Str PySem.StrLaws

def rowsOf (c : Nat) (sep : List Nat) (bs : List Nat) : List Nat := bs.flatMap fun b => List.replicate b c ++ sep
def lead (bs : List Nat) : List Nat := rowsOf 32 [9] bs
theorem fixed_eq (bs : List Nat) : fixed bs = rowsOf 46 [13, 10] bs := by
  induction bs with
  | nil => rfl
  | cons b bs ih => rw [fixed_cons, ih]; simp [rowsOf]
theorem rowsOf_cons (c : Nat) (sep : List Nat) (b : Nat) (bs : List Nat) : rowsOf c sep (b :: bs) = List.replicate b c ++ (sep ++ rowsOf c sep bs) := by simp [rowsOf]
theorem rowsOf_join (c : Nat) (sep : List Nat) : ∀ bs : List Nat, joinN sep (bs.map (List.replicate · c) ++ [[]]) = rowsOf c sep bs
  | [] => rfl
  | [b] => by simp [joinN, rowsOf]
  | b :: b2 :: bs => by
    rw [rowsOf_cons, ← rowsOf_join c sep (b2 :: bs)]
    rfl
theorem rowsOf_length (c : Nat) (sep : List Nat) (bs : List Nat) : (rowsOf c sep bs).length = bs.sum + bs.length * sep.length := by
  induction bs with
  | nil => simp [rowsOf]
  | cons b bs ih => rw [rowsOf_cons, List.length_append, List.length_append, ih, List.length_replicate, List.sum_cons, List.length_cons, Nat.succ_mul]; omega
theorem subst1_rows (bs : List Nat) : subst1 46 [32] (rowsOf 46 [9] bs) = lead bs := by
  induction bs with
  | nil => rfl
  | cons b bs ih =>
    unfold lead
    rw [rowsOf_cons, rowsOf_cons, subst1_append, subst1_append, ih]
    congr 1
    induction b with
    | zero => rfl
    | succ b ihb =>
      rw [List.replicate_succ, List.replicate_succ]
      show (if 46 = 46 then [32] else [46]) ++ subst1 46 [32] (List.replicate b 46) = _
      rw [ihb]
      rfl

theorem crlf_is : Str.ofString "\r\n" = S [13, 10] := by decide +kernel
theorem tab_is : Str.ofString "\t" = S [9] := by decide +kernel
theorem dot_is : Str.ofString "." = S [46] := by decide +kernel
theorem blank_is : Str.ofString " " = S [32] := by decide +kernel

theorem str_eq {x : Str} {l : List Nat} (h : x.cps.toList = l) : x = S l := Str.ext' (Array.toList_inj.mp h)

theorem lead1 (bs : List Nat) (hz : (rowsOf 46 [9] bs).length ≤ 100000) : JoinOk (Str.ofString "\t") (Txt.split (S (fixed bs)) (Str.ofString "\r\n")) = true ∧ Txt.join (Str.ofString "\t") (Txt.split (S (fixed bs)) (Str.ofString "\r\n")) = S (rowsOf 46 [9] bs) := by
  have hj : Txt.join (Str.ofString "\t") (Txt.split (S (fixed bs)) (Str.ofString "\r\n")) = S (rowsOf 46 [9] bs) := by
    rw [crlf_is, tab_is, fixed_eq, ← rowsOf_join 46 [13, 10] bs, split_parts (by decide +kernel) _ (by simp) (by
      intro p hp
      rcases List.mem_append.mp hp with hp | hp
      · obtain ⟨b, _, rfl⟩ := List.mem_map.mp hp
        intro hm
        exact absurd (List.eq_of_mem_replicate hm) (by decide)
      · rw [List.mem_singleton.mp hp]; simp)]
    refine str_eq ?_
    show (glued (S [9]) _).cps.toList = _
    rw [glued_eq_join, join_toList, List.map_map, ← rowsOf_join]
    congr 1
    exact List.map_id _
  refine ⟨joinOk_of (split_ne _ _) ?_, hj⟩
  rw [hj, tab_is]
  simp only [Str.length, List.size_toArray, List.length_cons, List.length_nil]
  omega
theorem lead2 (bs : List Nat) (hz : (rowsOf 46 [9] bs).length ≤ 100000) : JoinOk (Str.ofString " ") (Txt.split (S (rowsOf 46 [9] bs)) (Str.ofString ".")) = true ∧ Txt.join (Str.ofString " ") (Txt.split (S (rowsOf 46 [9] bs)) (Str.ofString ".")) = S (lead bs) := by
  have hj : Txt.join (Str.ofString " ") (Txt.split (S (rowsOf 46 [9] bs)) (Str.ofString ".")) = S (lead bs) := by
    rw [dot_is, blank_is]
    refine str_eq ?_
    rw [← subst1_rows]
    exact join_split_one _ 46 _
  refine ⟨joinOk_of (split_ne _ _) ?_, hj⟩
  rw [hj, blank_is]
  have e : (lead bs).length = (rowsOf 46 [9] bs).length := by unfold lead; rw [rowsOf_length, rowsOf_length]
  simp only [Str.length, List.size_toArray, List.length_cons, List.length_nil]
  omega
end Mine
end PartPl3

section PartLp
open PySem PySem.W PySem.Spec PySem.Calls PyProof.Rows
set_option maxRecDepth 100000
namespace Mine

section
variable {prog : Program} {w : World} {A : Around} {E : Value → Shared → Prop} {s : Shared} {env : Env} {h₀ : Heap} {x : Str} {body : List Stmt} {Q : Flow → Shared → Prop}

/-- a turn's end, the ledger's addresses free -/
def TurnEnd (h₀ : Heap) (L : Addr) (J : (Str → Option Value) → List (Addr × Obj) → Prop) (own : List (Addr × Obj)) (s₁ s₂ : Shared) : Prop :=
  ∃ h' tk m' news' nx, s₂ = { s₁ with heap := h', toks := tk } ∧ Fr h₀ L h' m' ∧ News h₀ L h' news' ∧ (∀ p ∈ nx, p ∈ news') ∧ (∀ p ∈ own, p ∈ news') ∧ (∀ p ∈ nx, ∀ q ∈ own, p.1 ≠ q.1) ∧ J m' nx
def TurnPost (h₀ : Heap) (L : Addr) (J : (Str → Option Value) → List (Addr × Obj) → Prop) (own : List (Addr × Obj)) (s₁ : Shared) (Q : Flow → Shared → Prop) (f : Flow) (s₂ : Shared) : Prop :=
  match f with
  | .ret v => Q (.ret v) s₂
  | .brk => Q .next s₂
  | _ => TurnEnd h₀ L J own s₁ s₂

/-- an iterator that owns one address -/
theorem loopG {I : Addr} {n : Nat} {P : Nat → Value → Prop} {St : Nat → Heap → Prop} {m₀ : Str → Option Value} {news : List (Addr × Obj)} (J : Nat → (Str → Option Value) → List (Addr × Obj) → Prop)
    (W : Walks prog w A I [I] [I] n P St) (hI : h₀.get? I = none) (hLI : env.locals ≠ I) (hnew : ∀ p ∈ news, p.1 ≠ I) (hth : ∀ i h, St i h → ∃ o, h.get? I = some o)
    (hst : St 0 s.heap) (F : Fr h₀ env.locals s.heap m₀) (N : News h₀ env.locals s.heap news) (hj : J 0 m₀ news)
    (turn : ∀ i v m₁ nx h tk oI, i < n → P i v → J i m₁ nx → (∀ p ∈ nx, p.1 ≠ I) → Fr h₀ env.locals h (fun y => if y = x then some v else m₁ y) → News h₀ env.locals h (nx ++ [(I, oI)]) →
      wpAny (model prog w) A (execs body env) (TurnPost h₀ env.locals (J (i + 1)) [(I, oI)] { s with heap := h, toks := tk } Q) E { s with heap := h, toks := tk })
    (done : ∀ m₁ nx h tk, J n m₁ nx → Fr h₀ env.locals h m₁ → News h₀ env.locals h nx → Q .next { s with heap := h, toks := tk }) :
    LoopAtV prog w A h₀ env x body Q E (.ref I) s := by
  refine ⟨I, [I], [I], n, P, St, m₀, news, J, rfl, W, ?_, ?_, ?_, hst, F, N, hj, ?_, ?_⟩
  · intro hm; exact hLI (List.mem_singleton.mp hm)
  · intro b hb; rw [List.mem_singleton.mp hb]; exact hI
  · intro p hp hq; exact hnew p hp (List.mem_singleton.mp hq)
  · rintro i v m₁ news₁ s₁ own ⟨hh', tk', rfl⟩ hin hP hJ hoff hown hget hall hst' F₁ N₁
    obtain ⟨oI, hoI⟩ := hth _ _ hst'
    have hm : (I, oI) ∈ own := hall I (.head _) hI oI hoI
    have N₂ : News h₀ env.locals hh' (news₁ ++ [(I, oI)]) := fun p hp => N₁ p ((List.mem_append.mp hp).elim (fun h => List.mem_append.mpr (.inr h)) fun h => List.mem_append.mpr (.inl (by rw [List.mem_singleton.mp h]; exact hm)))
    have hne : ∀ p ∈ news₁, p.1 ≠ I := fun p hp e => hoff p hp (List.mem_singleton.mpr e)
    have hsame : ∀ p ∈ own, p = (I, oI) := by
      intro p hp
      have h1 : p.1 = I := List.mem_singleton.mp (hown p hp)
      have h2 := hget p hp
      rw [h1] at h2
      have h3 : some p.2 = some oI := by rw [← h2]; exact hoI
      exact Prod.ext h1 (Option.some.inj h3)
    refine wpAny_mono (turn i v m₁ news₁ hh' tk' oI hin hP hJ hne F₁ N₂) (fun f s₂ p => ?_) fun _ _ e => e
    have fin : TurnEnd h₀ env.locals (J (i + 1)) [(I, oI)] { s with heap := hh', toks := tk' } s₂ → LoopStepU h₀ env.locals [I] own (J (i + 1)) { s with heap := hh', toks := tk' } .next s₂ := by
      rintro ⟨h', tk, m', news', nx, e, F', N', hn, ho, ha, hm'⟩
      refine ⟨rfl, h', tk, m', nx, e, F', fun p hp => ?_, fun p hp hq => ?_, hm'⟩
      · rcases List.mem_append.mp hp with h | h
        · rw [hsame p h]; exact N' _ (ho _ (.head _))
        · exact N' p (hn p h)
      · exact ha p hp _ (.head _) (List.mem_singleton.mp hq)
    cases f with
    | ret v => exact .ret p
    | brk => exact .brk p
    | next => exact .next (fin p)
    | cont => exact .cont (fin p)
  · rintro h' tk m' news' F' N' _ hJ
    exact done m' news' h' tk hJ F' N'

/-- a state of a loop: what the names hold, what the ledger holds -/
def StG {σ : Type} (Led : σ → List (Addr × Obj)) (ps : σ → List (Str × Value)) (x : Str) (m₀ : Str → Option Value) (P : σ → Prop) (m : Str → Option Value) (nx : List (Addr × Obj)) : Prop :=
  ∃ c : σ, nx = Led c ∧ (∀ p ∈ ps c, m p.1 = some p.2) ∧ (∀ z, z ≠ x → (∀ p ∈ ps c, z ≠ p.1) → m z = m₀ z) ∧ P c
theorem stG_in {ps : List (Str × Value)} {m₀ m₁ : Str → Option Value} {L : Addr} {h : Heap} {v : Value} (h1 : ∀ p ∈ ps, m₁ p.1 = some p.2) (h2 : ∀ z, z ≠ x → (∀ p ∈ ps, z ≠ p.1) → m₁ z = m₀ z)
    (F : Fr h₀ L h (fun y => if y = x then some v else m₁ y)) : Fr h₀ L h (fun y => if y = x then some v else kstB m₀ ps y) := by
  have e : (fun y => if y = x then some v else kstB m₀ ps y) = fun y => if y = x then some v else m₁ y := by
    funext y
    by_cases hy : y = x
    · rw [if_pos hy, if_pos hy]
    · rw [if_neg hy, if_neg hy]
      exact kstB_eq h1 fun hn => (h2 y hy hn).symm
  rw [e]; exact F
theorem stG_out {ps : List (Str × Value)} {m₀ m₁ : Str → Option Value} {L : Addr} {h : Heap} (h1 : ∀ p ∈ ps, m₁ p.1 = some p.2) (h2 : ∀ z, z ≠ x → (∀ p ∈ ps, z ≠ p.1) → m₁ z = m₀ z)
    (F : Fr h₀ L h m₁) : Fr h₀ L h (fun y => if y = x then m₁ y else kstB m₀ ps y) := by
  have e : (fun y => if y = x then m₁ y else kstB m₀ ps y) = m₁ := by
    funext y
    by_cases hy : y = x
    · rw [if_pos hy]
    · rw [if_neg hy]
      exact kstB_eq h1 fun hn => (h2 y hy hn).symm
  rw [e]; exact F

theorem strLoop {σ : Type} {xt : Str} {tx : Tok} {m₀ : Str → Option Value} (Led : σ → List (Addr × Obj)) (ps : σ → List (Str × Value)) (P : List Nat → σ → Prop) (c₀ : σ)
    (hh : A.handled = none) (F : Fr h₀ env.locals s.heap m₀) (N : News h₀ env.locals s.heap (Led c₀)) (hk : ∀ p ∈ ps c₀, m₀ p.1 = some p.2) (hp : P [] c₀)
    (turn : ∀ (c : σ) (pre post : List Nat) (n : Nat) t h tk I oI, xt.cps.toList = pre ++ n :: post → (∀ p ∈ Led c, p.1 ≠ I) → P pre c →
      Fr h₀ env.locals h (fun y => if y = x then some (.str ⟨#[n]⟩ t) else kstB m₀ (ps c) y) → News h₀ env.locals h (Led c ++ [(I, oI)]) →
      wpAny (model prog w) A (execs body env) (TurnPost h₀ env.locals (StG Led ps x m₀ (P (pre ++ [n]))) [(I, oI)] { s with heap := h, toks := tk } Q) E { s with heap := h, toks := tk })
    (done : ∀ (c : σ) (u : Str → Option Value) h tk, P xt.cps.toList c → Fr h₀ env.locals h (fun y => if y = x then u y else kstB m₀ (ps c) y) → News h₀ env.locals h (Led c) → Q .next { s with heap := h, toks := tk }) :
    wpAny (model prog w) A (pyIter (.str xt tx)) (fun it s₂ => LoopAtV prog w A h₀ env x body Q E it s₂) E s := by
  have key : ∀ (o : Obj) (St : Nat → Heap → Prop), Walks prog w A s.heap.objs.size [s.heap.objs.size] [s.heap.objs.size] xt.cps.size (SignAt xt) St → (∀ i h, St i h → ∃ o, h.get? s.heap.objs.size = some o) → St 0 (s.heap.push o) →
      LoopAtV prog w A h₀ env x body Q E (.ref s.heap.objs.size) { s with heap := s.heap.push o } := by
    intro o St W hth hst
    refine loopG (s := { s with heap := s.heap.push o }) (fun i => StG Led ps x m₀ (P (xt.cps.toList.take i))) W (next_is_new F) (Nat.ne_of_lt F.ns.lt) (fun p hp => Nat.ne_of_lt (Heap.lt_size (N p hp).1)) hth hst (F.push _)
      (fun p hp => ⟨Heap.get?_push_of_some _ (N p hp).1, (N p hp).2⟩) ⟨c₀, rfl, hk, fun _ _ _ => rfl, hp⟩ ?_ ?_
    · rintro i v m₁ nx h tk oI hi ⟨n, t, hn, rfl⟩ ⟨c, rfl, h1, h2, hP⟩ hne F₁ N₁
      have hn' : xt.cps.toList[i]? = some n := by rw [Array.getElem?_toList]; exact hn
      have hs : xt.cps.toList.take (i + 1) = xt.cps.toList.take i ++ [n] := by rw [List.take_add_one, hn']; rfl
      have e : xt.cps.toList = xt.cps.toList.take i ++ n :: xt.cps.toList.drop (i + 1) := by
        have ht := List.take_append_drop (i + 1) xt.cps.toList
        rw [hs, List.append_assoc] at ht
        exact ht.symm
      rw [hs]
      exact turn c _ _ n t h tk _ oI e hne hP (stG_in h1 h2 F₁) N₁
    · rintro m₁ nx h tk ⟨c, rfl, h1, h2, hP⟩ F₁ N₁
      have hl : xt.cps.toList.take xt.cps.size = xt.cps.toList := by rw [← Array.length_toList, List.take_length]
      rw [hl] at hP
      exact done c m₁ h tk hP (stG_out h1 h2 F₁) N₁
  cases ha : xt.cps.all (· < 128)
  · exact wpAny_pyIter_wide ha (key _ _ (Walks.strWide hh _ xt tx) (fun _ _ ⟨o, ho, _⟩ => ⟨o, ho⟩) ⟨_, Heap.get?_push_size _ rfl, rfl, rfl⟩)
  · exact wpAny_pyIter_ascii ha (key _ _ (Walks.strAscii hh _ xt tx) (fun _ _ ⟨o, ho, _⟩ => ⟨o, ho⟩) ⟨_, Heap.get?_push_size _ rfl, rfl, rfl⟩)

/-- one object of the ledger moves: it lies above the rest -/
theorem strLoop1 {σ : Type} {xt : Str} {tx : Tok} {m₀ : Str → Option Value} {rest : List (Addr × Obj)} (D : σ → Addr) (o : σ → Obj) (ps : σ → List (Str × Value)) (P : List Nat → σ → Prop) (c₀ : σ)
    (hh : A.handled = none) (F : Fr h₀ env.locals s.heap m₀) (N : News h₀ env.locals s.heap ((D c₀, o c₀) :: rest)) (h0 : ∀ p ∈ rest, p.1 < D c₀) (hk : ∀ p ∈ ps c₀, m₀ p.1 = some p.2) (hp : P [] c₀)
    (turn : ∀ (c : σ) (pre post : List Nat) (n : Nat) t h tk I oI, xt.cps.toList = pre ++ n :: post → (∀ p ∈ rest, p.1 < D c) → D c ≠ I → (∀ p ∈ rest, p.1 ≠ I) → P pre c →
      Fr h₀ env.locals h (fun y => if y = x then some (.str ⟨#[n]⟩ t) else kstB m₀ (ps c) y) → News h₀ env.locals h ((D c, o c) :: (rest ++ [(I, oI)])) →
      wpAny (model prog w) A (execs body env) (TurnPost h₀ env.locals (StG (fun c => (D c, o c) :: rest) ps x m₀ (fun c => (∀ p ∈ rest, p.1 < D c) ∧ P (pre ++ [n]) c)) [(I, oI)] { s with heap := h, toks := tk } Q) E { s with heap := h, toks := tk })
    (done : ∀ (c : σ) (u : Str → Option Value) h tk, P xt.cps.toList c → (∀ p ∈ rest, p.1 < D c) → Fr h₀ env.locals h (fun y => if y = x then u y else kstB m₀ (ps c) y) → News h₀ env.locals h ((D c, o c) :: rest) → Q .next { s with heap := h, toks := tk }) :
    wpAny (model prog w) A (pyIter (.str xt tx)) (fun it s₂ => LoopAtV prog w A h₀ env x body Q E it s₂) E s :=
  strLoop (fun c => (D c, o c) :: rest) ps (fun pre c => (∀ p ∈ rest, p.1 < D c) ∧ P pre c) c₀ hh F N hk ⟨h0, hp⟩
    (fun c pre post n t h tk I oI e hI hP F' N' => turn c pre post n t h tk I oI e hP.1 (hI _ (.head _)) (fun p hp => hI p (.tail _ hp)) hP.2 F' N')
    (fun c u h tk hP F' N' => done c u h tk hP.2 hP.1 F' N')

theorem turnEnd1 {σ : Type} {L : Addr} {rest own news' : List (Addr × Obj)} {D : σ → Addr} {o : σ → Obj} {ps : σ → List (Str × Value)} {m₀ m' : Str → Option Value} {P : σ → Prop} (c : σ) {s₁ : Shared} {h' : Heap} {tk : Nat}
    (F : Fr h₀ L h' m') (N : News h₀ L h' news') (h1 : (D c, o c) ∈ news') (h2 : ∀ p ∈ rest, p ∈ news') (h3 : ∀ p ∈ own, p ∈ news') (h4 : ∀ q ∈ own, D c ≠ q.1) (h5 : ∀ p ∈ rest, ∀ q ∈ own, p.1 ≠ q.1)
    (h6 : ∀ p ∈ ps c, m' p.1 = some p.2) (h7 : ∀ z, z ≠ x → (∀ p ∈ ps c, z ≠ p.1) → m' z = m₀ z) (h8 : ∀ p ∈ rest, p.1 < D c) (h9 : P c) :
    TurnEnd h₀ L (StG (fun c => (D c, o c) :: rest) ps x m₀ (fun c => (∀ p ∈ rest, p.1 < D c) ∧ P c)) own s₁ { s₁ with heap := h', toks := tk } :=
  ⟨h', tk, m', news', (D c, o c) :: rest, rfl, F, N, fun p hp => (List.mem_cons.mp hp).elim (fun e => e ▸ h1) (h2 p), h3, fun p hp => (List.mem_cons.mp hp).elim (fun e => e ▸ h4) (h5 p), c, rfl, h6, h7, h8, h9⟩

theorem rangeLoop {σ : Type} {r : Addr} {a₀ b₀ : Int} {t₀ u₀ v₀ : Tok} {n : Nat} {m₀ : Str → Option Value} (Led : σ → List (Addr × Obj)) (ps : σ → List (Str × Value)) (P : Nat → σ → Prop) (c₀ : σ)
    (hh : A.handled = none) (hr : IsRange s.heap r a₀ b₀ 1 t₀ u₀ v₀) (hsmall : Builtin.Range.small a₀ b₀ 1 = true) (hn : Builtin.Range.rangeSize a₀ b₀ 1 = (n : Int)) (F : Fr h₀ env.locals s.heap m₀) (N : News h₀ env.locals s.heap (Led c₀)) (hk : ∀ p ∈ ps c₀, m₀ p.1 = some p.2) (hp : P 0 c₀)
    (turn : ∀ (c : σ) (i : Nat) (k : Int) t h tk I oI, k = a₀ + (i : Int) → i < n → (∀ p ∈ Led c, p.1 ≠ I) → P i c →
      Fr h₀ env.locals h (fun y => if y = x then some (.int k t) else kstB m₀ (ps c) y) → News h₀ env.locals h (Led c ++ [(I, oI)]) →
      wpAny (model prog w) A (execs body env) (TurnPost h₀ env.locals (StG Led ps x m₀ (P (i + 1))) [(I, oI)] { s with heap := h, toks := tk } Q) E { s with heap := h, toks := tk })
    (done : ∀ (c : σ) (u : Str → Option Value) h tk, P n c → Fr h₀ env.locals h (fun y => if y = x then u y else kstB m₀ (ps c) y) → News h₀ env.locals h (Led c) → Q .next { s with heap := h, toks := tk }) :
    wpAny (model prog w) A (pyIter (.ref r)) (fun it s₂ => LoopAtV prog w A h₀ env x body Q E it s₂) E s := by
  refine wpAny_pyIter_range hr hsmall ?_
  have W : Walks prog w A s.heap.objs.size [s.heap.objs.size] [s.heap.objs.size] n (fun i v => i < n ∧ ∃ t, v = .int (a₀ + i * 1) t)
      (fun i h => IsRangeIter h s.heap.objs.size (a₀ + (i : Nat) * 1) ((n : Int) - (i : Nat)) 1) := (Walks.range hh _ a₀ 1 n).bound
  refine loopG (fun i => StG Led ps x m₀ (P i)) W (next_is_new F) (Nat.ne_of_lt F.ns.lt) (fun p hp => Nat.ne_of_lt (Heap.lt_size (N p hp).1)) ?_ (by show IsRangeIter _ _ _ _ _; rw [hn]; simpa using Heap.get?_push_size _ rfl) (F.push _)
    (fun p hp => ⟨Heap.get?_push_of_some _ (N p hp).1, (N p hp).2⟩) ⟨c₀, rfl, hk, fun _ _ _ => rfl, hp⟩ ?_ ?_
  · intro i h hst
    exact ⟨_, hst⟩
  · rintro i v m₁ nx h tk oI hi ⟨_, t, rfl⟩ ⟨c, rfl, h1, h2, hP⟩ hne F₁ N₁
    have e1 : a₀ + (i : Int) * 1 = a₀ + (i : Int) := by omega
    rw [e1] at F₁
    exact turn c i _ t h tk _ oI rfl hi hne hP (stG_in h1 h2 F₁) N₁
  · rintro m₁ nx h tk ⟨c, rfl, h1, h2, hP⟩ F₁ N₁
    exact done c m₁ h tk hP (stG_out h1 h2 F₁) N₁

theorem turnEnd {σ : Type} {L : Addr} {own news' : List (Addr × Obj)} {Led : σ → List (Addr × Obj)} {ps : σ → List (Str × Value)} {m₀ m' : Str → Option Value} {P : σ → Prop} (c : σ) {s₁ : Shared} {h' : Heap} {tk : Nat}
    (F : Fr h₀ L h' m') (N : News h₀ L h' news') (h1 : ∀ p ∈ Led c, p ∈ news') (h3 : ∀ p ∈ own, p ∈ news') (h5 : ∀ p ∈ Led c, ∀ q ∈ own, p.1 ≠ q.1)
    (h6 : ∀ p ∈ ps c, m' p.1 = some p.2) (h7 : ∀ z, z ≠ x → (∀ p ∈ ps c, z ≠ p.1) → m' z = m₀ z) (h9 : P c) :
    TurnEnd h₀ L (StG Led ps x m₀ P) own s₁ { s₁ with heap := h', toks := tk } :=
  ⟨h', tk, m', news', Led c, rfl, F, N, h1, h3, h5, c, rfl, h6, h7, h9⟩
end

section
variable {w : World} {mean : ExcName → Option Value} {mg mb : Str → Option Value} {f : Value} {vs : List Value} {need : Nat} {news : List (Addr × Obj)} {Out : List (Addr × Obj) → Value → Prop} {R : Tok → Value}
  {dp un : Nat} {gd : Option (List Code)} {cn : Str} {cs : Scope} {a : Addr} {ccd : Value} {cl : List (Str × Addr)} {outer : List Env} {A₀ : Around} {base h₀ : Heap} {L : Addr} {m : Str → Option Value} {s : Shared} {Q E : Value → Shared → Prop}
theorem Does.ask (D : Does w mean mg mb f vs need news Out) (B : Below A₀ base outer h₀) (F : Fr h₀ L s.heap m) (X : (Mine.hd.heap_39 w.params).In h₀) (N : News h₀ L s.heap news) (T : Top VP LOO mean mg mb h₀) (hk : cs.kind = .function) (hd : dp + need < recursionLimit) (hu : un + 8 * need < cLine)
    (h : ∀ r tl h' tk', Fr h₀ L h' m → News h₀ L h' (tl ++ news) → (∀ q ∈ news, ∀ p ∈ tl, q.1 < p.1) → Out tl r → Q r { s with heap := h', toks := tk' }) :
    wpAny (model PR w) (ktrTop dp un gd cn cs L a ccd cl outer) (call f vs) Q E s := D dp un gd cn cs a ccd cl outer A₀ base h₀ L m s Q E B F X N T hk hd hu h
theorem Does.ask0 (D : Does w mean mg mb f vs need news fun tl r => tl = [] ∧ ∃ t, r = R t) (B : Below A₀ base outer h₀) (F : Fr h₀ L s.heap m) (X : (Mine.hd.heap_39 w.params).In h₀) (N : News h₀ L s.heap news) (T : Top VP LOO mean mg mb h₀) (hk : cs.kind = .function) (hd : dp + need < recursionLimit) (hu : un + 8 * need < cLine)
    (h : ∀ t h' tk', Fr h₀ L h' m → News h₀ L h' news → Q (R t) { s with heap := h', toks := tk' }) :
    wpAny (model PR w) (ktrTop dp un gd cn cs L a ccd cl outer) (call f vs) Q E s := by
  refine D dp un gd cn cs a ccd cl outer A₀ base h₀ L m s Q E B F X N T hk hd hu ?_
  rintro r tl h' tk' F' N' ho ⟨rfl, t, rfl⟩
  exact h t h' tk' F' N'
end
end Mine
end PartLp

section PartWs
set_option maxRecDepth 100000
namespace Mine
open PySem

/-- what __init__ has after some signs -/
structure Cnt where
  n : Int
  b : Int
  nt : Int
  cs : List Int
def Cnt.zero : Cnt := ⟨0, 0, 0, []⟩
/-- the list long enough for the place b -/
def grown (cs : List Int) (b : Int) : List Int := if b < cs.length then cs else cs ++ List.replicate (b - cs.length + 1).toNat 0
def bump (cs : List Int) (b : Int) : List Int := (grown cs b).set b.toNat ((grown cs b).getD b.toNat 0 + 1)
def Cnt.step (c : Cnt) (d : Nat) : Cnt := if d = 32 then { c with n := c.n + 1, b := c.b + 1 } else ⟨c.n + 1, 0, c.nt + 1, bump c.cs c.b⟩
def Cnt.after (pre : List Nat) : Cnt := pre.foldl Cnt.step .zero
theorem after_snoc (pre : List Nat) (d : Nat) : Cnt.after (pre ++ [d]) = (Cnt.after pre).step d := by simp [Cnt.after]

theorem grown_length (cs : List Int) (b : Int) (n : Nat) (h1 : cs.length ≤ n) (h2 : b ≤ n) : (grown cs b).length ≤ n + 1 := by
  unfold grown
  split
  · omega
  · rw [List.length_append, List.length_replicate]; omega
theorem snoc_rec {P : List Nat → Prop} (h0 : P []) (h1 : ∀ pre d, P pre → P (pre ++ [d])) (l : List Nat) : P l := by
  have key : ∀ r : List Nat, P r.reverse := by
    intro r
    induction r with
    | nil => exact h0
    | cons d r ih => rw [List.reverse_cons]; exact h1 _ _ ih
  have := key l.reverse
  rwa [List.reverse_reverse] at this
theorem after_bound (pre : List Nat) : 0 ≤ (Cnt.after pre).b ∧ (Cnt.after pre).b ≤ pre.length ∧ (Cnt.after pre).cs.length ≤ pre.length := by
  refine snoc_rec (P := fun pre => 0 ≤ (Cnt.after pre).b ∧ (Cnt.after pre).b ≤ pre.length ∧ (Cnt.after pre).cs.length ≤ pre.length) ?_ ?_ pre
  · exact ⟨by decide, by decide, by decide⟩
  · intro pre d ih
    obtain ⟨h1, h2, h3⟩ := ih
    rw [after_snoc, List.length_append, List.length_singleton]
    unfold Cnt.step
    split
    · refine ⟨by dsimp only; omega, by dsimp only; omega, by dsimp only; omega⟩
    · refine ⟨by dsimp only; omega, by dsimp only; omega, ?_⟩
      dsimp only [bump]
      rw [List.length_set]
      exact grown_length _ _ _ h3 h2
theorem flat0 (n : Nat) : (List.replicate n [(0 : Int)]).flatten = List.replicate n 0 := by
  induction n with
  | zero => rfl
  | succ n ih => rw [List.replicate_succ, List.flatten_cons, ih]; rfl
theorem step_blank (n b nt : Int) (cs : List Int) : Cnt.step ⟨n, b, nt, cs⟩ 32 = ⟨n + 1, b + 1, nt, cs⟩ := rfl
theorem step_long (n b nt : Int) (cs : List Int) (h : (cs.length : Int) ≤ b) : Cnt.step ⟨n, b, nt, cs⟩ 9 = ⟨n + 1, 0, nt + 1, (cs ++ (List.replicate (b - cs.length + 1).toNat [0]).flatten).set b.toNat ((cs ++ (List.replicate (b - cs.length + 1).toNat [0]).flatten).getD b.toNat 0 + 1)⟩ := by
  show Cnt.mk _ _ _ (bump cs b) = _
  unfold bump grown
  rw [if_neg (by omega), flat0]
theorem step_short (n b nt : Int) (cs : List Int) (h : ¬ (cs.length : Int) ≤ b) : Cnt.step ⟨n, b, nt, cs⟩ 9 = ⟨n + 1, 0, nt + 1, cs.set b.toNat (cs.getD b.toNat 0 + 1)⟩ := by
  show Cnt.mk _ _ _ (bump cs b) = _
  unfold bump grown
  rw [if_pos (by omega)]
theorem lead_sign (bs : List Nat) {d : Nat} (h : d ∈ lead bs) : d = 32 ∨ d = 9 := by
  unfold lead rowsOf at h
  obtain ⟨b, _, hb⟩ := List.mem_flatMap.mp h
  rcases List.mem_append.mp hb with h1 | h1
  · exact .inl (List.eq_of_mem_replicate h1)
  · exact .inr (List.mem_singleton.mp h1)
/-- the ledger holds a Whitespace of these counts at x -/
def WsIs (w : World) (led : List (Addr × Obj)) (x : Addr) (c : Cnt) : Prop :=
  ∃ (d tn tc : Addr) (vs : List Value) (raw : Str) (k0 k1 k2 k3 k4 t1 t2 t3 t4 : Tok) (de : Nat),
    (x, PySem.W.instObj 138 d) ∈ led ∧ (d, PySem.W.dictOf (wsEntries w raw c.n c.nt tn (decide ((c.cs.length : Int) ≤ 1)) k0 k1 k2 k3 k4 t1 t2 t3) de) ∈ led ∧ (tn, tupOf [.ref tc, .int c.b t4]) ∈ led ∧ (tc, tupOf vs) ∈ led ∧ PyProof.Rows.IntsAre vs c.cs
theorem WsIs.mono {w : World} {led led' : List (Addr × Obj)} {x : Addr} {c : Cnt} (h : WsIs w led x c) (hs : ∀ p ∈ led, p ∈ led') : WsIs w led' x c := by
  obtain ⟨d, tn, tc, vs, raw, k0, k1, k2, k3, k4, t1, t2, t3, t4, de, h1, h2, h3, h4, h5⟩ := h
  exact ⟨d, tn, tc, vs, raw, k0, k1, k2, k3, k4, t1, t2, t3, t4, de, hs _ h1, hs _ h2, hs _ h3, hs _ h4, h5⟩
structure CSt where
  D : Addr
  vs : List Value
  k : Nat
  c : Cnt
  t1 : Tok
  t2 : Tok
  t3 : Tok
end Mine
end PartWs

section PartLd
open PySem PySem.W PySem.Spec PySem.Calls PyProof.Rows
set_option maxRecDepth 100000
set_option maxHeartbeats 8000000
namespace Mine
local macro_rules | `(tactic| walk_at "no key 0") => `(tactic| skip)
local macro_rules | `(tactic| walk_at "no key 1") => `(tactic| skip)
local macro_rules | `(tactic| walk_at "no key 2") => `(tactic| skip)
local macro_rules | `(tactic| walk_at "no key 3") => `(tactic| skip)
local macro_rules | `(tactic| walk_at "no key 4") => `(tactic| skip)
local macro_rules | `(tactic| walk_at "no key 5") => `(tactic| skip)
local macro_rules | `(tactic| walk_at "no key 6") => `(tactic| skip)
local macro_rules | `(tactic| walk_at "no key 7") => `(tactic| skip)
local macro_rules | `(tactic| walk_at "no key 8") => `(tactic| skip)
local macro_rules | `(tactic| walk_at "no key 9") => `(tactic| skip)
local macro_rules | `(tactic| walk_at "no key 10") => `(tactic| skip)
local macro_rules | `(tactic| walk_at "no key 11") => `(tactic| skip)
local macro_rules | `(tactic| walk_at "no key 12") => `(tactic| skip)
local macro_rules | `(tactic| walk_at "no key 13") => `(tactic| skip)
local macro_rules | `(tactic| walk_at "no key 14") => `(tactic| skip)
local macro_rules | `(tactic| walk_at "no key 15") => `(tactic| skip)
local macro_rules | `(tactic| walk_at "no key 16") => `(tactic| skip)
local macro_rules | `(tactic| walk_at "no key 17") => `(tactic| skip)
local macro_rules | `(tactic| walk_at "no key 18") => `(tactic| skip)
local macro_rules | `(tactic| walk_at "no key 19") => `(tactic| skip)
local macro_rules | `(tactic| walk_at "no key 20") => `(tactic| skip)
local macro_rules | `(tactic| walk_at "no key 21") => `(tactic| skip)
local macro_rules | `(tactic| walk_at "no key 22") => `(tactic| skip)
local macro_rules | `(tactic| walk_at "no key 23") => `(tactic| skip)
example : PySem.Challenge.rw_pg0182_01 = PySem.Challenge.rw_pg0182_01 ∧ hd.heap_39 = hd.heap_39 := by
  k_fill
  exact ⟨rfl, rfl⟩
local macro_rules | `(tactic| k_room) => `(tactic| ktr_room)
theorem replaced_ask {w : World} {mean : ExcName → Option Value} {mg mb : Str → Option Value} {news : List (Addr × Obj)} {bs : List Nat} {t t1 t2 t3 t4 : Tok} (hz : (rowsOf 46 [9] bs).length ≤ 1000 ∧ (fixed bs).length ≤ 1000) {dp un : Nat} {gd : Option (List Code)} {cn : Str} {cs : Scope} {a : Addr} {ccd : Value} {cl : List (Str × Addr)} {outer : List Env} {A₀ : Around} {base h₀ : Heap} {L : Addr} {m : Str → Option Value} {s : Shared}
    {Q E : Value → Shared → Prop} (B : Below A₀ base outer h₀) (F : Fr h₀ L s.heap m) (X : (Mine.hd.heap_39 w.params).In h₀) (N : News h₀ L s.heap news) (T : Top VP LOO mean mg mb h₀) (hk : cs.kind = .function) (hd : dp + 1 < recursionLimit) (hu : un + 8 * 1 < cLine)
    (h : ∀ t h' tk', Fr h₀ L h' m → News h₀ L h' news → Q (.str (S (lead bs)) t) { s with heap := h', toks := tk' }) :
    wpAny (model PR w) (ktrTop dp un gd cn cs L a ccd cl outer) (call (.ref 45) [.str (S (fixed bs)) t, .str (Str.ofString "\r\n") t1, .str (Str.ofString "\t") t2, .str (Str.ofString ".") t3, .str (Str.ofString " ") t4]) Q E s := by
  refine replaced w mean mg mb news (S (fixed bs)) t t1 t2 t3 t4 (by simpa [Str.length] using hz.2) (S (rowsOf 46 [9] bs)) (S (lead bs)) (by simpa [Str.length] using hz.1) (lead1 bs (by omega)) (lead2 bs (by omega)) dp un gd cn cs a ccd cl outer A₀ base h₀ L m s Q E B F X N T hk hd hu ?_
  rintro r tl h' tk' F' N' ho ⟨rfl, t', rfl⟩
  exact h t' h' tk' F' N'
local macro_rules | `(tactic| walk_at "call ref") => `(tactic| (k_here; (with_reducible show wpAny _ _ (call (Value.ref 45) _) _ _ _); k_dflt (refine' replaced_ask ?kz ?k1 ?k2 ?k3 ?k4 ?k5 ?kK ?kd ?ku ?_; (case kz => assumption); (case k1 => k_asm); (case k2 => k_asm); (case k3 => k_asm); (case k4 => k_asm); (case k5 => k_asm); (case kK => first | exact rfl | assumption); (case kd => ktr_room); (case ku => ktr_units); k_whole); intro t' h' tk' F' N'; (try k_sweep)))

local macro_rules | `(tactic| walk_at "call builtin:len") => `(tactic| (k_here; (with_reducible show wpAny _ _ (call (Value.builtin "len") [Value.ref _]) _ _ _); k_dflt (refine' len_led_ints ?k1 ?k2 ?k3 ?k4 ?_; (case k1 => k_asm); (case k2 => k_mem); (case k3 => assumption); (case k4 => omega); k_whole)))
theorem tup_of_ints {prog : Program} {w : World} {A : Around} {E : Value → Shared → Prop} {s : Shared} {h₀ : Heap} {L l : Addr} {m : Str → Option Value} {news : List (Addr × Obj)} {vs : List Value} {ns : List Int} {k : Nat} {Q : Value → Shared → Prop} (F : Fr h₀ L s.heap m) (N : News h₀ L s.heap news) (hm : (l, listOf vs.toArray k) ∈ news) (hi : IntsAre vs ns) (hfit : ns.length ≤ 10000)
    (h : ∀ D h', Fr h₀ L h' m → News h₀ L h' ((D, tupOf vs) :: news) → (∀ p ∈ news, p.1 < D) → Q (.ref D) { s with heap := h' }) : wpAny (model prog w) A (call (.type "tuple") [.ref l]) Q E s :=
  kde_tupleOf F N (News.isList N hm) (by rw [List.size_toArray, hi.length]; omega) rfl h
local macro_rules | `(tactic| walk_at "call type:tuple") => `(tactic| (k_here; (with_reducible show wpAny _ _ (call (Value.type _) [Value.ref _]) _ _ _); k_dflt (refine' tup_of_ints ?k1 ?k2 ?k3 ?k4 ?k5 ?_; (case k1 => k_asm); (case k2 => k_asm); (case k3 => k_mem); (case k4 => assumption); (case k5 => omega); k_whole); intro D' h' F' N' l1; (try k_lt l1); (try k_sweep)))
local macro_rules | `(tactic| walk_at "TurnPost") => `(tactic| (dsimp only [TurnPost]))
theorem leads (w : World) (mean : ExcName → Option Value) (mg mb : Str → Option Value) (news : List (Addr × Obj))
    (bs : List Nat) (t : Tok) (hz : (rowsOf 46 [9] bs).length ≤ 1000 ∧ (fixed bs).length ≤ 1000) :
    Does w mean mg mb (.ref 154) [.str (S (fixed bs)) t] 3 news fun tl v => ∃ x, v = .ref x ∧ WsIs w tl x (Cnt.after (lead bs)) := by
  unfold Does
  intro dp un gd cn csc a ccd cl outer A₀ base h₀ L m s Q E B F X N T hk hdp hun hret
  refine wpAny_call ?_
  k_dflt cell_enter
  k_steps
  (rename Fr _ _ _ _ => lF9)
  (rename News _ _ _ _ => lN9)
  k_dflt (refine' strLoop1 (σ := CSt) (fun c => c.D) (fun c => listOf c.vs.toArray c.k) (fun c => [(Str.ofString "count", .ref c.D), (Str.ofString "b", .int c.c.b c.t2), (Str.ofString "n", .int c.c.n c.t1), (Str.ofString "nt", .int c.c.nt c.t3)]) (fun pre c => c.c = Cnt.after pre ∧ IntsAre c.vs c.c.cs) ⟨_, [], 0, .zero, _, _, _⟩ ?kh lF9 ?kN ?k0 ?kk ?kp ?turn ?done)
  case kh => rfl
  case kN => with_unfolding_all exact lN9
  case kk => kst_all
  case k0 => ((simp only [List.forall_mem_cons]); (repeat' (refine And.intro ?_ ?_)); all_goals first | assumption | (refine ltN ?_; omega) | (refine kst_ltOf ?_; grind only))
  case kp => exact ⟨rfl, .nil⟩
  case turn =>
    clear lF9 lN9
    rintro ⟨D, vs, k, ⟨n, b, nt, cs⟩, t1, t2, t3⟩ pre post d t h tk I oI hsp hlt hDI hI ⟨hP, hi⟩ F N
    dsimp only [kstB, List.cons_append, List.nil_append] at hlt hDI hP hi hI F N
    dsimp only
    k_fold
    have hmem : d ∈ lead bs := by
      have e : lead bs = pre ++ d :: post := hsp
      rw [e]; simp
    have hlen : pre.length < 1000 := by
      have e : lead bs = pre ++ d :: post := hsp
      have e2 := congrArg List.length e
      unfold lead at e2
      rw [rowsOf_length, List.length_append] at e2
      have e3 := hz.1
      rw [rowsOf_length] at e3
      simp only [List.length_cons, List.length_nil, Nat.zero_add, Nat.mul_one] at e2 e3
      omega
    have hbd := after_bound pre
    rw [← hP] at hbd
    obtain ⟨hb0, hb1, hcl⟩ := hbd
    dsimp only at hb0 hb1 hcl
    have hd := lead_sign bs hmem
    clear hsp hmem
    have kMk : KstMark := kstMark
    k_lt hlt
    replace hDI := neN hDI
    have kLen := hi.length
    rcases hd with rfl | rfl
    · k_steps
      (rename Fr _ _ _ _ => F9)
      (rename News _ _ _ _ => N9)
      refine' turnEnd1 ⟨D, vs, k, ⟨n + 1, b + 1, nt, cs⟩, _, _, _⟩ F9 N9 ?e1 ?e2 ?e3 ?e4 ?e5 ?e6 ?e7 ?e8 ?e9
      case e6 => kst_all
      case e1 => k_mem
      case e2 => kst_inAny
      case e3 => kst_inAny
      case e4 => exact List.forall_mem_cons.mpr ⟨hDI, List.forall_mem_nil _⟩
      case e5 => exact fun p hp => List.forall_mem_cons.mpr ⟨hI p hp, List.forall_mem_nil _⟩
      case e7 => intro z h1 h2; (simp only [List.forall_mem_cons, List.not_mem_nil, false_implies, implies_true, and_true, ne_eq] at h2); (simp [h1, h2])
      case e8 => ((simp only [List.forall_mem_cons]); (repeat' (refine And.intro ?_ ?_)); all_goals first | assumption | (refine ltN ?_; omega) | (refine kst_ltOf ?_; grind only))
      case e9 => exact ⟨by rw [after_snoc, ← hP]; rfl, hi⟩
    · k_steps
      · (rename _ ∧ _ => l9)
        simp only [allLt_append, AllLt, and_true] at l9
        (rename Fr _ _ _ _ => F9)
        (rename News _ _ _ _ => N9)
        refine' turnEnd1 ⟨_, _, _, ⟨n + 1, 0, nt + 1, _⟩, _, _, _⟩ F9 N9 ?e1 ?e2 ?e3 ?e4 ?e5 ?e6 ?e7 ?e8 ?e9
        case e6 => kst_all
        case e1 => k_mem
        case e9 => exact ⟨by rw [after_snoc, ← hP, step_long _ _ _ _ (by omega)], by assumption⟩
        case e2 => kst_inAny
        case e3 => kst_inAny
        case e4 => exact List.forall_mem_cons.mpr ⟨by (refine neN ?_); (try dsimp only); omega, List.forall_mem_nil _⟩
        case e5 => exact fun p hp => List.forall_mem_cons.mpr ⟨hI p hp, List.forall_mem_nil _⟩
        case e7 => intro z h1 h2; (simp only [List.forall_mem_cons, List.not_mem_nil, false_implies, implies_true, and_true, ne_eq] at h2); (simp [h1, h2])
        case e8 => ((simp only [List.forall_mem_cons]); (repeat' (refine And.intro ?_ ?_)); all_goals first | assumption | (refine ltN ?_; omega) | (refine kst_ltOf ?_; grind only))
      · (rename Fr _ _ _ _ => F9)
        (rename News _ _ _ _ => N9)
        refine' turnEnd1 ⟨_, _, _, ⟨n + 1, 0, nt + 1, _⟩, _, _, _⟩ F9 N9 ?e1 ?e2 ?e3 ?e4 ?e5 ?e6 ?e7 ?e8 ?e9
        case e6 => kst_all
        case e1 => k_mem
        case e9 => exact ⟨by rw [after_snoc, ← hP, step_short _ _ _ _ (by omega)], by assumption⟩
        case e2 => kst_inAny
        case e3 => kst_inAny
        case e4 => exact List.forall_mem_cons.mpr ⟨hDI, List.forall_mem_nil _⟩
        case e5 => exact fun p hp => List.forall_mem_cons.mpr ⟨hI p hp, List.forall_mem_nil _⟩
        case e7 => intro z h1 h2; (simp only [List.forall_mem_cons, List.not_mem_nil, false_implies, implies_true, and_true, ne_eq] at h2); (simp [h1, h2])
        case e8 => ((simp only [List.forall_mem_cons]); (repeat' (refine And.intro ?_ ?_)); all_goals first | assumption | (refine ltN ?_; omega) | (refine kst_ltOf ?_; grind only))
  case done =>
    clear lF9 lN9
    rintro ⟨D, vs, k, ⟨n, b, nt, cs⟩, t1, t2, t3⟩ u h tk ⟨hP, hi⟩ hlt F N
    dsimp only [kstB, List.cons_append, List.nil_append] at hlt hP hi F N
    dsimp only
    have kMk : KstMark := kstMark
    k_lt hlt
    have hbd := after_bound (lead bs)
    rw [← hP] at hbd
    have hll : (lead bs).length ≤ 1000 := by
      have e3 := hz.1
      unfold lead
      rw [rowsOf_length] at e3 ⊢
      exact e3
    obtain ⟨hb0, hb1, hcl⟩ := hbd
    dsimp only at hb0 hb1 hcl
    k_steps
    (rename News _ _ _ _ => kN9)
    (rename (∀ p ∈ news, p.1 < _) => lb9)
    refine hret _ [_, _, _, _, _, _] _ _ (by k_asm) kN9 ?_ ⟨_, rfl, ?_⟩
    · intro q hq
      have h9 := ltN (lb9 q hq)
      simp only [List.forall_mem_cons]
      (repeat' (refine And.intro ?_ ?_))
      all_goals first | (refine ltN ?_; omega) | exact List.forall_mem_nil _
    · rw [← hP]
      unfold WsIs
      refine' ⟨_, _, _, _, _, _, _, _, _, _, _, _, _, _, _, ?w1, ?w2, ?w3, ?w4, ?w5⟩
      case w5 => exact hi
      case w1 => k_mem
      case w2 => k_mem
      case w3 => k_mem
      case w4 => k_mem
end Mine
end PartLd

section PartIn
open PySem PySem.W PySem.Spec PySem.Calls PyProof.Rows
set_option maxRecDepth 100000
set_option maxHeartbeats 8000000
namespace Mine
def lev (c : Cnt) (ts : Int) : Int := c.b + ts * (ilSum ts c.cs (rangeKs ts ((c.cs.length : Int) - ts).toNat) + c.nt)
local macro_rules | `(tactic| walk_at "pyIter ref") => `(tactic| (k_dflt (k_extra "iter")))
example : PySem.Challenge.rw_pg0182_01 = PySem.Challenge.rw_pg0182_01 ∧ hd.heap_39 = hd.heap_39 := by
  k_fill
  exact ⟨rfl, rfl⟩
local macro_rules | `(tactic| walk_at "call builtin:len") => `(tactic| (k_here; (with_reducible show wpAny _ _ (call (Value.builtin "len") [Value.ref _]) _ _ _); k_dflt (refine' len_tup_ints ?k1 ?k2 ?k3 ?_; (case k1 => exact News.isTup (by k_asm) (by k_mem)); (case k2 => assumption); (case k3 => omega); k_whole)))
local macro_rules | `(tactic| walk_at "subscriptTail") => `(tactic| (k_here; (with_reducible show wpAny _ _ (subscriptTail _ _ (Value.ref _) (Value.int _ _)) _ _ _); k_dflt (refine' item_tup_ints ?k1 ?k2 ?k3 ?k4 ?k5 ?_; (case k1 => exact News.isTup (by k_asm) (by k_mem)); (case k2 => assumption); (case k3 => omega); (case k4 => omega); (case k5 => omega); k_whole); intro _))

local macro_rules | `(tactic| walk_at "binaryOp Mult int int") => `(tactic| (k_here; k_dflt (refine' mul_left ?k1 ?k2 ?_; (case k1 => first | omega | exact fdiv_lo (by omega) (by omega) (by omega)); (case k2 => first | omega | exact fdiv_hi (by omega) (by omega) (by omega)); k_whole)))
theorem indent (w : World) (mean : ExcName → Option Value) (mg mb : Str → Option Value) (news : List (Addr × Obj))
    (x : Addr) (c : Cnt) (hW : WsIs w news x c) (ts : Int) (tt : Tok) (h1 : 1 ≤ ts) (h2 : ts < 1000) (hlen : c.cs.length < 1000) :
    Does w mean mg mb (.ref 107) [.ref x, .int ts tt] 1 news fun tl r => tl = [] ∧ ∃ t, r = .int (lev c ts) t := by
  obtain ⟨d, tn, tc, vs, raw, k0, k1, k2, k3, k4, t1, t2, t3, t4, de, hx, hdd, htn, htc, hi⟩ := hW
  obtain ⟨n, b, nt, cs⟩ := c
  dsimp only at hdd htn hi hlen
  unfold Does
  intro dp un gd cn csc a ccd cl outer A₀ base h₀ L m s Q E B F X N T hk hdp hun hret
  refine wpAny_call ?_
  k_dflt cell_enter
  k_with_none
  k_with "iter" => k_state (fun pre il => il = ilSum ts cs pre) "il"
  k_with "state" => first | exact ilSum_nil _ _ | (rw [ilSum_snoc]; omega)
  k_steps
  all_goals (rename _ = ilSum _ _ _ => hil; subst hil)
  all_goals exact hret _ [] _ _ (by k_asm) (by (show News _ _ _ news); k_asm) (fun _ _ _ h9 => nomatch h9) ⟨rfl, _, rfl⟩
end Mine
end PartIn

section PartLo
open PySem PySem.W PySem.Spec PySem.Calls PyProof.Rows
set_option maxRecDepth 100000
set_option maxHeartbeats 8000000
namespace Mine
local macro_rules | `(tactic| walk_at "no key 0") => `(tactic| skip)
local macro_rules | `(tactic| walk_at "no key 1") => `(tactic| skip)
local macro_rules | `(tactic| walk_at "no key 2") => `(tactic| skip)
local macro_rules | `(tactic| walk_at "no key 3") => `(tactic| skip)
local macro_rules | `(tactic| walk_at "no key 4") => `(tactic| skip)
local macro_rules | `(tactic| walk_at "no key 5") => `(tactic| skip)
local macro_rules | `(tactic| walk_at "no key 6") => `(tactic| skip)
local macro_rules | `(tactic| walk_at "no key 7") => `(tactic| skip)
local macro_rules | `(tactic| walk_at "no key 8") => `(tactic| skip)
local macro_rules | `(tactic| walk_at "no key 9") => `(tactic| skip)
local macro_rules | `(tactic| walk_at "no key 10") => `(tactic| skip)
local macro_rules | `(tactic| walk_at "no key 11") => `(tactic| skip)
local macro_rules | `(tactic| walk_at "no key 12") => `(tactic| skip)
local macro_rules | `(tactic| walk_at "no key 13") => `(tactic| skip)
local macro_rules | `(tactic| walk_at "no key 14") => `(tactic| skip)
local macro_rules | `(tactic| walk_at "no key 15") => `(tactic| skip)
local macro_rules | `(tactic| walk_at "no key 16") => `(tactic| skip)
local macro_rules | `(tactic| walk_at "no key 17") => `(tactic| skip)
local macro_rules | `(tactic| walk_at "no key 18") => `(tactic| skip)
local macro_rules | `(tactic| walk_at "no key 19") => `(tactic| skip)
local macro_rules | `(tactic| walk_at "no key 20") => `(tactic| skip)
local macro_rules | `(tactic| walk_at "no key 21") => `(tactic| skip)
local macro_rules | `(tactic| walk_at "no key 22") => `(tactic| skip)
local macro_rules | `(tactic| walk_at "no key 23") => `(tactic| skip)
example : PySem.Challenge.rw_pg0182_01 = PySem.Challenge.rw_pg0182_01 ∧ hd.heap_39 = hd.heap_39 := by
  k_fill
  exact ⟨rfl, rfl⟩
local macro_rules | `(tactic| walk_at "call builtin:len") => `(tactic| (k_here; (with_reducible show wpAny _ _ (call (Value.builtin "len") [Value.ref _]) _ _ _); k_dflt (refine' len_tup_ints ?k1 ?k2 ?k3 ?_; (case k1 => exact News.isTup (by k_asm) (by k_mem)); (case k2 => assumption); (case k3 => omega); k_whole)))
def longOf (c : Cnt) : Int := if c.b > (c.cs.length : Int) - 1 then c.b else (c.cs.length : Int) - 1
theorem longest (w : World) (mean : ExcName → Option Value) (mg mb : Str → Option Value) (news : List (Addr × Obj))
    (x : Addr) (c : Cnt) (hW : WsIs w news x c) (hlen : c.cs.length < 1000) :
    Does w mean mg mb (.ref 100) [.ref x] 1 news fun tl r => tl = [] ∧ ∃ t, r = .int (longOf c) t := by
  obtain ⟨d, tn, tc, vs, raw, k0, k1, k2, k3, k4, t1, t2, t3, t4, de, hx, hdd, htn, htc, hi⟩ := hW
  obtain ⟨n, b, nt, cs⟩ := c
  dsimp only at hdd htn hi hlen
  unfold Does
  intro dp un gd cn csc a ccd cl outer A₀ base h₀ L m s Q E B F X N T hk hdp hun hret
  refine wpAny_call ?_
  k_dflt cell_enter
  k_with_none
  k_steps
  all_goals exact hret _ [] _ _ (by k_asm) (by (show News _ _ _ news); k_asm) (fun _ _ _ h9 => nomatch h9) ⟨rfl, _, rfl⟩
end Mine
end PartLo

section PartRw
open PySem PySem.W PySem.Spec PySem.Calls PyProof.Rows
set_option maxRecDepth 100000
namespace Mine

abbrev Tri := Int × Int × Int
/-- a list of triples, each a tuple of the ledger's -/
inductive RowsIn (led : List (Addr × Obj)) : List Value → List Tri → Prop
  | nil : RowsIn led [] []
  | cons {a : Addr} {x y z : Int} {t1 t2 t3 : Tok} {vs : List Value} {rows : List Tri} : (a, tupOf [.int x t1, .int y t2, .int z t3]) ∈ led → RowsIn led vs rows → RowsIn led (.ref a :: vs) ((x, y, z) :: rows)
theorem RowsIn.mono {led led' : List (Addr × Obj)} (hs : ∀ p ∈ led, p ∈ led') {vs : List Value} {rows : List Tri} (h : RowsIn led vs rows) : RowsIn led' vs rows := by
  induction h with
  | nil => exact .nil
  | cons hm _ ih => exact .cons (hs _ hm) ih
theorem RowsIn.snoc {led : List (Addr × Obj)} {vs : List Value} {rows : List Tri} {a : Addr} {x y z : Int} {t1 t2 t3 : Tok} (h : RowsIn led vs rows) (hm : (a, tupOf [.int x t1, .int y t2, .int z t3]) ∈ led) : RowsIn led (vs ++ [.ref a]) (rows ++ [(x, y, z)]) := by
  induction h with
  | nil => exact .cons hm .nil
  | cons h1 _ ih => exact .cons h1 ih
theorem RowsIn.length {led : List (Addr × Obj)} {vs : List Value} {rows : List Tri} (h : RowsIn led vs rows) : vs.length = rows.length := by
  induction h with
  | nil => rfl
  | cons _ _ ih => simp [ih]
theorem RowsIn.at {led : List (Addr × Obj)} {vs : List Value} {rows : List Tri} (h : RowsIn led vs rows) : ∀ (i : Nat) (v : Value), vs[i]? = some v → ∃ a x y z t1 t2 t3, v = .ref a ∧ rows[i]? = some (x, y, z) ∧ (a, tupOf [.int x t1, .int y t2, .int z t3]) ∈ led := by
  induction h with
  | nil => intro i v hv; simp at hv
  | @cons a x y z t1 t2 t3 vs rows hm _ ih =>
    intro i v hv
    cases i with
    | zero =>
      simp at hv
      exact ⟨a, x, y, z, t1, t2, t3, hv.symm, rfl, hm⟩
    | succ i => exact ih i v (by simpa using hv)

/-- the witness up to some sizes -/
def witUp (c e : Cnt) (i : Nat) : List Tri := ((List.range i).map fun (j : Nat) => 1 + (j : Int)).filterMap fun ts => if lev c ts ≠ lev e ts then some (ts, lev c ts, lev e ts) else none
theorem witUp_succ (c e : Cnt) (i : Nat) : witUp c e (i + 1) = witUp c e i ++ (if lev c (1 + (i : Int)) ≠ lev e (1 + (i : Int)) then [(1 + (i : Int), lev c (1 + (i : Int)), lev e (1 + (i : Int)))] else []) := by
  unfold witUp
  rw [List.range_succ, List.map_append, List.filterMap_append]
  congr 1
  simp only [List.map_cons, List.map_nil, List.filterMap_cons, List.filterMap_nil]
  split <;> simp_all
/-- the sizes looked at -/
def sizesOf (c e : Cnt) : Int := (if longOf e > longOf c then longOf e else longOf c) + 1

structure WSt where
  D : Addr
  vs : List Value
  k : Nat
  rows : List Tri
  objs : List (Addr × Obj)

structure WOk (c e : Cnt) (news : List (Addr × Obj)) (i : Nat) (st : WSt) : Prop where
  rows : RowsIn st.objs st.vs st.rows
  what : st.rows = witUp c e i
  off : OwnOff st.objs [st.D]
  above : ∀ p ∈ news, p.1 < st.D
  high : ∀ q ∈ news, ∀ p ∈ st.objs, q.1 < p.1
theorem WOk.stay {c e : Cnt} {news : List (Addr × Obj)} {i : Nat} {st : WSt} (h : WOk c e news i st) (hn : lev c (1 + (i : Int)) = lev e (1 + (i : Int))) : WOk c e news (i + 1) st :=
  ⟨h.rows, by rw [h.what, witUp_succ, if_neg (by simpa using hn), List.append_nil], h.off, h.above, h.high⟩
theorem WOk.more {c e : Cnt} {news : List (Addr × Obj)} {i : Nat} {st : WSt} (h : WOk c e news i st) (hn : lev c (1 + (i : Int)) ≠ lev e (1 + (i : Int))) {a : Addr} {t1 t2 t3 : Tok} {k : Nat} {vs' : List Value} (hv : vs' = st.vs ++ [.ref a]) (ha : a ≠ st.D) (hhi : ∀ q ∈ news, q.1 < a) :
    WOk c e news (i + 1) ⟨st.D, vs', k, st.rows ++ [(1 + (i : Int), lev c (1 + (i : Int)), lev e (1 + (i : Int)))], (a, tupOf [.int (1 + (i : Int)) t1, .int (lev c (1 + (i : Int))) t2, .int (lev e (1 + (i : Int))) t3]) :: st.objs⟩ := by
  subst hv
  refine ⟨RowsIn.snoc (h.rows.mono fun p hp => .tail _ hp) (.head _), by rw [h.what, witUp_succ, if_pos hn], ?_, h.above, ?_⟩
  · intro p hp b hb
    rcases List.mem_cons.mp hp with rfl | hp
    · rw [List.mem_singleton.mp hb]; exact ha
    · exact h.off p hp b hb
  · intro q hq p hp
    rcases List.mem_cons.mp hp with rfl | hp
    · exact hhi q hq
    · exact h.high q hq p hp
end Mine
end PartRw

section PartWi
open PySem PySem.W PySem.Spec PySem.Calls PyProof.Rows
set_option maxRecDepth 100000
set_option maxHeartbeats 8000000
namespace Mine
example : PySem.Challenge.rw_pg0182_01 = PySem.Challenge.rw_pg0182_01 ∧ hd.heap_39 = hd.heap_39 := by
  k_fill
  exact ⟨rfl, rfl⟩
local macro_rules | `(tactic| walk_at "call ref") => `(tactic| (k_here; (with_reducible show wpAny _ _ (call (Value.ref 100) _) _ _ _); k_dflt (refine' Does.ask0 (longest _ _ _ _ _ _ _ ?hW ?hl) ?k1 ?k2 ?k3 ?k4 ?k5 ?kK ?kd ?ku ?_; (case k4 => k_asm); (case hW => exact WsIs.mono (by assumption) (by intro p hp; kst_mem)); (case hl => assumption); (case k1 => k_asm); (case k2 => k_asm); (case k3 => k_asm); (case k5 => k_asm); (case kK => first | exact rfl | assumption); (case kd => ktr_room); (case ku => ktr_units); k_whole); intro t' h' tk' F' N'; (try k_sweep)))
local macro_rules | `(tactic| walk_at "call ref") => `(tactic| (k_here; (with_reducible show wpAny _ _ (call (Value.ref 107) _) _ _ _); k_dflt (refine' Does.ask0 (indent _ _ _ _ _ _ _ ?hW _ _ ?h1 ?h2 ?hl) ?k1 ?k2 ?k3 ?k4 ?k5 ?kK ?kd ?ku ?_; (case k4 => k_asm); (case hW => exact WsIs.mono (by assumption) (by intro p hp; kst_mem)); (case h1 => omega); (case h2 => omega); (case hl => assumption); (case k1 => k_asm); (case k2 => k_asm); (case k3 => k_asm); (case k5 => k_asm); (case kK => first | exact rfl | assumption); (case kd => ktr_room); (case ku => ktr_units); k_whole); intro t' h' tk' F' N'; (try k_sweep)))
local macro_rules | `(tactic| k_mem) => `(tactic| first | exact List.mem_cons_self | (refine List.mem_cons_of_mem _ ?_; k_mem))
local macro_rules | `(tactic| kst_mem) => `(tactic| first | assumption | (refine List.mem_cons_of_mem _ ?_; kst_mem) | (refine List.mem_append.mpr (.inl ?_); kst_mem) | (refine List.mem_append.mpr (.inr ?_); kst_mem))
local macro_rules | `(tactic| walk_at "TurnPost") => `(tactic| (dsimp only [TurnPost]))
theorem witUp_length (c e : Cnt) (i : Nat) : (witUp c e i).length ≤ i := by
  unfold witUp
  refine Nat.le_trans (List.length_filterMap_le _ _) ?_
  simp
theorem few {a b i : Nat} {n : Int} (h1 : a = b) (h2 : b ≤ i) (h3 : i < n.toNat) (h4 : n < 1000) : a < 1000 := by omega
theorem of_allLt {d : Addr} {l : List (Addr × Obj)} (h : AllLt d l) : ∀ p ∈ l, p.1 < d := by
  induction l with
  | nil => intro p hp; exact absurd hp (List.not_mem_nil)
  | cons a r ih =>
    intro p hp
    rcases List.mem_cons.mp hp with hp | hp
    · rw [hp]; exact h.1
    · exact ih h.2 p hp
theorem wMore {c e : Cnt} {news objs : List (Addr × Obj)} {i kk : Nat} {D D' I : Addr} {us : List Value} {rows : List Tri} {oI : Obj} {h₀ : Heap} {L : Addr} {h' : Heap} {m m₀ : Str → Option Value} {t1 t2 t3 : Tok} {tk : Nat} {s₁ : Shared}
    (hOk : WOk c e news i ⟨D, us, kk, rows, objs⟩) (hne : lev c (1 + (i : Int)) ≠ lev e (1 + (i : Int))) (F : Fr h₀ L h' m)
    (N : News h₀ L h' ((D', tupOf [.int (1 + (i : Int)) t1, .int (lev c (1 + (i : Int))) t2, .int (lev e (1 + (i : Int))) t3]) :: (D, listOf (us.toArray.push (.ref D')) (kk + 1)) :: (objs ++ news ++ [(I, oI)])))
    (l : D < D' ∧ AllLt D' (objs ++ news ++ [(I, oI)])) (hDI : D ≠ I) (hI : ∀ p ∈ (D, listOf us.toArray kk) :: (objs ++ news), p.1 ≠ I) (h6 : ∀ p ∈ [((Str.ofString "a", .ref D) : Str × Value)], m p.1 = some p.2) (h7 : ∀ z, z ≠ Str.ofString "ts" → (∀ p ∈ [((Str.ofString "a", .ref D) : Str × Value)], z ≠ p.1) → m z = m₀ z) :
    TurnEnd h₀ L (StG (fun st : WSt => (st.D, listOf st.vs.toArray st.k) :: (st.objs ++ news)) (fun st => [(Str.ofString "a", .ref st.D)]) (Str.ofString "ts") m₀ (WOk c e news (i + 1))) [(I, oI)] s₁ { s₁ with heap := h', toks := tk } := by
  obtain ⟨g1, g2⟩ := l
  have g3 := of_allLt g2
  rw [List.push_toArray] at N
  refine turnEnd ⟨D, us ++ [.ref D'], kk + 1, _, (D', tupOf [.int (1 + (i : Int)) t1, .int (lev c (1 + (i : Int))) t2, .int (lev e (1 + (i : Int))) t3]) :: objs⟩ F N ?e1 ?e3 ?e5 h6 h7 (hOk.more hne rfl (Ne.symm (Nat.ne_of_lt g1)) fun q hq => g3 q (List.mem_append.mpr (.inl (List.mem_append.mpr (.inr hq)))))
  case e1 =>
    intro p hp
    rcases List.mem_cons.mp hp with hp | hp
    · rw [hp]; exact .tail _ (.head _)
    rcases List.mem_cons.mp hp with hp | hp
    · rw [hp]; exact .head _
    · exact .tail _ (.tail _ (List.mem_append.mpr (.inl hp)))
  case e3 => exact fun p hp => .tail _ (.tail _ (List.mem_append.mpr (.inr hp)))
  case e5 =>
    intro p hp
    refine List.forall_mem_cons.mpr ⟨?_, List.forall_mem_nil _⟩
    rcases List.mem_cons.mp hp with hp | hp
    · rw [hp]; exact hDI
    rcases List.mem_cons.mp hp with hp | hp
    · rw [hp]; exact Ne.symm (Nat.ne_of_lt (g3 (I, oI) (List.mem_append.mpr (.inr (.head _)))))
    · exact hI p (.tail _ hp)
theorem witness (w : World) (mean : ExcName → Option Value) (mg mb : Str → Option Value) (news : List (Addr × Obj))
    (x y : Addr) (c e : Cnt) (hW : WsIs w news x c) (hV : WsIs w news y e) (hl : c.cs.length < 1000) (hm : e.cs.length < 1000) (hs0 : 0 ≤ sizesOf c e) (hs : sizesOf c e < 1000) :
    Does w mean mg mb (.ref 121) [.ref x, .ref y] 3 news fun tl r => ∃ D vs k objs, r = .ref D ∧ tl = (D, listOf vs.toArray k) :: objs ∧ RowsIn tl vs (witUp c e (sizesOf c e).toNat) ∧ ∀ p ∈ objs, p.1 ≠ D := by
  have hW' := hW
  have hV' := hV
  obtain ⟨d, tn, tc, vs, raw, k0, k1, k2, k3, k4, t1, t2, t3, t4, de, hx, hdd, htn, htc, hi⟩ := hW'
  obtain ⟨d2, tn2, tc2, vs2, raw2, k02, k12, k22, k32, k42, t12, t22, t32, t42, de2, hx2, hdd2, htn2, htc2, hi2⟩ := hV'
  unfold Does
  intro dp un gd cn csc a ccd cl outer A₀ base h₀ L m s Q E B F X N T hk hdp hun hret
  refine wpAny_call ?_
  k_dflt cell_enter
  k_with_none
  k_steps
  (rename Fr _ _ _ _ => lF9)
  (rename News _ _ _ _ => lN9)
  (rename IsRange _ _ _ _ _ _ _ _ => rg9)
  k_dflt (refine' rangeLoop (σ := WSt) (n := (sizesOf c e).toNat) (fun st => (st.D, listOf st.vs.toArray st.k) :: (st.objs ++ news)) (fun st => [(Str.ofString "a", .ref st.D)]) (WOk c e news) ⟨_, [], 0, [], []⟩ ?kh rg9 ?ks ?kn lF9 ?kN ?kk ?kp ?turn ?done)
  case kh => rfl
  case kN => with_unfolding_all exact lN9
  case kk => kst_all
  case ks => unfold sizesOf at hs hs0; exact small_one (by omega) (by omega) (by omega) (by omega)
  case kn => rw [rangeSize_nat]; unfold sizesOf at hs hs0 ⊢; omega
  case kp => exact ⟨.nil, rfl, (fun _ h => nomatch h), (by assumption), (fun _ _ _ h => nomatch h)⟩
  case turn =>
    clear lF9 lN9 rg9
    rintro ⟨D, us, kk, rows, objs⟩ i ts t h tk I oI hts hin hI hOk F N
    dsimp only [kstB, List.cons_append, List.nil_append] at hI F N
    dsimp only
    k_fold
    have hDI := neN (hI _ (.head _))
    have hoff := hOk.off
    have habv := hOk.above
    dsimp only at hDI hoff habv
    have hus : us.length < 1000 := by
      have e1 := hOk.rows.length
      have e2 := hOk.what
      have e3 := witUp_length c e i
      dsimp only at e1 e2
      rw [← e2] at e3
      exact few e1 e3 hin hs
    have kMk : KstMark := kstMark
    k_steps
    · (rename Fr _ _ _ _ => F9)
      (rename News _ _ _ _ => N9)
      (rename _ ∧ AllLt _ _ => l9)
      (rename lev c ts ≠ lev e ts => hne)
      subst hts
      refine wMore hOk hne F9 N9 l9 hDI hI ?_ ?_
      · kst_all
      · intro z h1 h2; (simp only [List.forall_mem_cons, List.not_mem_nil, false_implies, implies_true, and_true, ne_eq] at h2); (simp [h1, h2])
    · (rename Fr _ _ _ _ => F9)
      (rename News _ _ _ _ => N9)
      (rename lev c ts = lev e ts => heq)
      subst hts
      refine' turnEnd ⟨D, us, kk, rows, objs⟩ F9 N9 ?e1 ?e3 ?e5 ?e6 ?e7 ?e9
      case e6 => kst_all
      case e9 => exact hOk.stay heq
      case e1 =>
        intro p hp
        rcases List.mem_cons.mp hp with hp | hp
        · rw [hp]; exact .head _
        · exact .tail _ (List.mem_append.mpr (.inl hp))
      case e3 => exact fun p hp => .tail _ (List.mem_append.mpr (.inr hp))
      case e5 => exact fun p hp => List.forall_mem_cons.mpr ⟨hI p hp, List.forall_mem_nil _⟩
      case e7 => intro z h1 h2; (simp only [List.forall_mem_cons, List.not_mem_nil, false_implies, implies_true, and_true, ne_eq] at h2); (simp [h1, h2])
  case done =>
    clear lF9 lN9 rg9
    rintro ⟨D, us, kk, rows, objs⟩ u h tk hOk F N
    dsimp only [kstB, List.cons_append, List.nil_append] at F N
    dsimp only
    k_steps
    (rename Fr _ _ _ _ => F9)
    (rename News _ _ _ _ => N9)
    refine hret (.ref D) ((D, listOf us.toArray kk) :: objs) _ _ F9 N9 ?_ ?_
    · intro q hq p hp
      rcases List.mem_cons.mp hp with rfl | hp
      · exact hOk.above q hq
      · exact hOk.high q hq p hp
    · refine ⟨D, us, kk, objs, rfl, rfl, ?_, fun p hp => hOk.off p hp _ (.head _)⟩
      have e1 := hOk.what
      have e2 := hOk.rows
      dsimp only at e1 e2
      rw [← e1]
      exact e2.mono fun p hp => .tail _ hp
end Mine
end PartWi

section PartLe
open PySem PySem.W PySem.Spec PySem.Calls PyProof.Rows
set_option maxRecDepth 100000
set_option maxHeartbeats 8000000
namespace Mine
local macro_rules | `(tactic| walk_at "no key 0") => `(tactic| skip)
local macro_rules | `(tactic| walk_at "no key 1") => `(tactic| skip)
local macro_rules | `(tactic| walk_at "no key 2") => `(tactic| skip)
local macro_rules | `(tactic| walk_at "no key 3") => `(tactic| skip)
local macro_rules | `(tactic| walk_at "no key 4") => `(tactic| skip)
local macro_rules | `(tactic| walk_at "no key 5") => `(tactic| skip)
local macro_rules | `(tactic| walk_at "no key 6") => `(tactic| skip)
local macro_rules | `(tactic| walk_at "no key 7") => `(tactic| skip)
local macro_rules | `(tactic| walk_at "no key 8") => `(tactic| skip)
local macro_rules | `(tactic| walk_at "no key 9") => `(tactic| skip)
local macro_rules | `(tactic| walk_at "no key 10") => `(tactic| skip)
local macro_rules | `(tactic| walk_at "no key 11") => `(tactic| skip)
local macro_rules | `(tactic| walk_at "no key 12") => `(tactic| skip)
local macro_rules | `(tactic| walk_at "no key 13") => `(tactic| skip)
local macro_rules | `(tactic| walk_at "no key 14") => `(tactic| skip)
local macro_rules | `(tactic| walk_at "no key 15") => `(tactic| skip)
local macro_rules | `(tactic| walk_at "no key 16") => `(tactic| skip)
local macro_rules | `(tactic| walk_at "no key 17") => `(tactic| skip)
local macro_rules | `(tactic| walk_at "no key 18") => `(tactic| skip)
local macro_rules | `(tactic| walk_at "no key 19") => `(tactic| skip)
local macro_rules | `(tactic| walk_at "no key 20") => `(tactic| skip)
local macro_rules | `(tactic| walk_at "no key 21") => `(tactic| skip)
local macro_rules | `(tactic| walk_at "no key 22") => `(tactic| skip)
local macro_rules | `(tactic| walk_at "no key 23") => `(tactic| skip)
example : PySem.Challenge.rw_pg0182_01 = PySem.Challenge.rw_pg0182_01 ∧ hd.heap_39 = hd.heap_39 := by
  k_fill
  exact ⟨rfl, rfl⟩
local macro_rules | `(tactic| walk_at "call ref") => `(tactic| (k_here; (with_reducible show wpAny _ _ (call (Value.ref 100) _) _ _ _); k_dflt (refine' Does.ask0 (longest _ _ _ _ _ _ _ ?hW ?hl) ?k1 ?k2 ?k3 ?k4 ?k5 ?kK ?kd ?ku ?_; (case k4 => k_asm); (case hW => exact WsIs.mono (by assumption) (by intro p hp; kst_mem)); (case hl => assumption); (case k1 => k_asm); (case k2 => k_asm); (case k3 => k_asm); (case k5 => k_asm); (case kK => first | exact rfl | assumption); (case kd => ktr_room); (case ku => ktr_units); k_whole); intro t' h' tk' F' N'; (try k_sweep)))
local macro_rules | `(tactic| walk_at "call ref") => `(tactic| (k_here; (with_reducible show wpAny _ _ (call (Value.ref 107) _) _ _ _); k_dflt (refine' Does.ask0 (indent _ _ _ _ _ _ _ ?hW _ _ ?h1 ?h2 ?hl) ?k1 ?k2 ?k3 ?k4 ?k5 ?kK ?kd ?ku ?_; (case k4 => k_asm); (case hW => exact WsIs.mono (by assumption) (by intro p hp; kst_mem)); (case h1 => omega); (case h2 => omega); (case hl => assumption); (case k1 => k_asm); (case k2 => k_asm); (case k3 => k_asm); (case k5 => k_asm); (case kK => first | exact rfl | assumption); (case kd => ktr_room); (case ku => ktr_units); k_whole); intro t' h' tk' F' N'; (try k_sweep)))
local macro_rules | `(tactic| k_mem) => `(tactic| first | exact List.mem_cons_self | (refine List.mem_cons_of_mem _ ?_; k_mem))
local macro_rules | `(tactic| kst_mem) => `(tactic| first | assumption | (refine List.mem_cons_of_mem _ ?_; kst_mem) | (refine List.mem_append.mpr (.inl ?_); kst_mem) | (refine List.mem_append.mpr (.inr ?_); kst_mem))
local macro_rules | `(tactic| walk_at "TurnPost") => `(tactic| (dsimp only [TurnPost]))
set_option hygiene false in
local macro_rules | `(tactic| walk_at "pyIter ref") => `(tactic| ((rename Fr _ _ _ _ => lF9); (rename News _ _ _ _ => lN9); (rename IsRange _ _ _ _ _ _ _ _ => rg9); k_dflt (refine' rangeLoop (σ := Unit) (n := (sizesOf c e - 1).toNat) (fun _ => news) (fun _ => []) (fun i _ => ∀ j : Nat, j < i → lev c (2 + (j : Int)) < lev e (2 + (j : Int))) () ?kh rg9 ?ks ?kn lF9 ?kN ?kk ?kp ?turn ?done; (case kh => rfl); (case kN => (with_unfolding_all exact lN9)); (case kk => kst_all); (case ks => (unfold sizesOf at hs hs0; exact small_one (by omega) (by omega) (by omega) (by omega))); (case kn => (rw [rangeSize_nat]; unfold sizesOf at hs hs0 ⊢; omega)); (case kp => exact fun _ h => absurd h (Nat.not_lt_zero _)))))
theorem less (w : World) (mean : ExcName → Option Value) (mg mb : Str → Option Value) (news : List (Addr × Obj))
    (x y : Addr) (c e : Cnt) (hW : WsIs w news x c) (hV : WsIs w news y e) (hl : c.cs.length < 1000) (hm : e.cs.length < 1000) (hs0 : 0 ≤ sizesOf c e) (hs : sizesOf c e < 1000) (hsim : 1 < c.cs.length)
    (ts₀ : Int) (hts0 : 2 ≤ ts₀) (hts1 : ts₀ ≤ sizesOf c e) (heq : lev e ts₀ ≤ lev c ts₀) :
    Does w mean mg mb (.ref 128) [.ref x, .ref y] 3 news fun tl r => tl = [] ∧ r = .bool false := by
  have hW' := hW
  have hV' := hV
  obtain ⟨d, tn, tc, vs, raw, k0, k1, k2, k3, k4, t1, t2, t3, t4, de, hx, hdd, htn, htc, hi⟩ := hW'
  obtain ⟨d2, tn2, tc2, vs2, raw2, k02, k12, k22, k32, k42, t12, t22, t32, t42, de2, hx2, hdd2, htn2, htc2, hi2⟩ := hV'
  have hsm : decide ((c.cs.length : Int) ≤ 1) = false := decide_eq_false (by omega)
  rw [hsm] at hdd
  unfold Does
  intro dp un gd cn csc a ccd cl outer A₀ base h₀ L m s Q E B F X N T hk hdp hun hret
  refine wpAny_call ?_
  k_dflt cell_enter
  k_with_none
  k_steps
  · exact hret _ [] _ _ (by k_asm) (by (show News _ _ _ news); k_asm) (fun _ _ _ h9 => nomatch h9) ⟨rfl, rfl⟩
  · (rename Fr h₀ _ _ _ => F9)
    (rename News h₀ _ _ _ => N9)
    exact hret _ [] _ _ F9 (fun p hp => N9 p (List.mem_append.mpr (.inl hp))) (fun _ _ _ h9 => nomatch h9) ⟨rfl, rfl⟩
  · (rename Fr _ _ _ _ => F9)
    (rename News _ _ _ _ => N9)
    (rename ¬ (lev e _ ≤ lev c _) => g1)
    (rename _ = 2 + ((_ : Nat) : Int) => g2)
    (rename ∀ j : Nat, j < _ → lev c _ < lev e _ => g3)
    (rename ∀ p ∈ news, p.1 ≠ _ => g4)
    refine' turnEnd () F9 N9 ?e1 ?e3 ?e5 ?e6 ?e7 ?e9
    case e6 => kst_all
    case e1 => exact fun p hp => List.mem_append.mpr (.inl hp)
    case e3 => exact fun p hp => List.mem_append.mpr (.inr hp)
    case e5 => exact fun p hp => List.forall_mem_cons.mpr ⟨g4 p hp, List.forall_mem_nil _⟩
    case e7 => intro z h1 h2; simp [h1, kstB]
    case e9 =>
      intro j hj
      rcases Nat.lt_succ_iff_lt_or_eq.mp hj with hj | rfl
      · exact g3 j hj
      · rw [← g2]; exact Int.not_le.mp g1
  · (rename ∀ j : Nat, j < _ → lev c _ < lev e _ => g3)
    exfalso
    have g4 := g3 (ts₀ - 2).toNat (by omega)
    have g5 : 2 + (((ts₀ - 2).toNat : Nat) : Int) = ts₀ := by omega
    rw [g5] at g4
    exact absurd heq (Int.not_le.mpr g4)
end Mine
end PartLe

section PartSp
open PySem PySem.W PySem.Spec PySem.Calls PyProof.Rows
set_option maxRecDepth 100000
set_option maxHeartbeats 8000000
namespace Mine
section
variable {prog : Program} {w : World} {A : Around} {E : Value → Shared → Prop} {s : Shared} {env : Env} {h₀ : Heap} {x : Str} {body : List Stmt} {Q : Flow → Shared → Prop}
/-- an iterator that owns one address and reads another -/
theorem loopL {I l : Addr} {ol : Obj} {n : Nat} {P : Nat → Value → Prop} {St : Nat → Heap → Prop} {m₀ : Str → Option Value} {news : List (Addr × Obj)} (J : Nat → (Str → Option Value) → List (Addr × Obj) → Prop)
    (W : Walks prog w A I [I, l] [I] n P St) (hI : h₀.get? I = none) (hLI : env.locals ≠ I) (hLl : env.locals ≠ l) (hJl : ∀ i m nx, J i m nx → (l, ol) ∈ nx) (hnew : ∀ p ∈ news, p.1 ≠ I) (hth : ∀ i h, St i h → ∃ o, h.get? I = some o)
    (hst : St 0 s.heap) (F : Fr h₀ env.locals s.heap m₀) (N : News h₀ env.locals s.heap news) (hj : J 0 m₀ news)
    (turn : ∀ i v m₁ nx h tk oI, i < n → P i v → J i m₁ nx → (∀ p ∈ nx, p.1 ≠ I) → Fr h₀ env.locals h (fun y => if y = x then some v else m₁ y) → News h₀ env.locals h (nx ++ [(I, oI)]) →
      wpAny (model prog w) A (execs body env) (TurnPost h₀ env.locals (J (i + 1)) [(I, oI)] { s with heap := h, toks := tk } Q) E { s with heap := h, toks := tk })
    (done : ∀ m₁ nx h tk, J n m₁ nx → Fr h₀ env.locals h m₁ → News h₀ env.locals h nx → Q .next { s with heap := h, toks := tk }) :
    LoopAtV prog w A h₀ env x body Q E (.ref I) s := by
  refine ⟨I, [I, l], [I], n, P, St, m₀, news, J, rfl, W, ?_, ?_, ?_, hst, F, N, hj, ?_, ?_⟩
  · intro hm
    rcases List.mem_cons.mp hm with e | hm
    · exact hLI e
    · exact hLl (List.mem_singleton.mp hm)
  · intro b hb; rw [List.mem_singleton.mp hb]; exact hI
  · intro p hp hq; exact hnew p hp (List.mem_singleton.mp hq)
  · rintro i v m₁ news₁ s₁ own ⟨hh', tk', rfl⟩ hin hP hJ hoff hown hget hall hst' F₁ N₁
    obtain ⟨oI, hoI⟩ := hth _ _ hst'
    have hm : (I, oI) ∈ own := hall I (.head _) hI oI hoI
    have N₂ : News h₀ env.locals hh' (news₁ ++ [(I, oI)]) := fun p hp => N₁ p ((List.mem_append.mp hp).elim (fun h => List.mem_append.mpr (.inr h)) fun h => List.mem_append.mpr (.inl (by rw [List.mem_singleton.mp h]; exact hm)))
    have hne : ∀ p ∈ news₁, p.1 ≠ I := fun p hp e => hoff p hp (List.mem_singleton.mpr e)
    have hlo : hh'.get? l = some ol := (N₁ _ (List.mem_append.mpr (.inr (hJl _ _ _ hJ)))).1
    have hsame : ∀ p ∈ own, p = (I, oI) ∨ p = (l, ol) := by
      intro p hp
      have h2 := hget p hp
      rcases List.mem_cons.mp (hown p hp) with h1 | h1
      · rw [h1] at h2
        have h3 : some p.2 = some oI := by rw [← h2]; exact hoI
        exact .inl (Prod.ext h1 (Option.some.inj h3))
      · have h1 := List.mem_singleton.mp h1
        rw [h1] at h2
        have h3 : some p.2 = some ol := by rw [← h2]; exact hlo
        exact .inr (Prod.ext h1 (Option.some.inj h3))
    refine wpAny_mono (turn i v m₁ news₁ hh' tk' oI hin hP hJ hne F₁ N₂) (fun f s₂ p => ?_) fun _ _ e => e
    have fin : TurnEnd h₀ env.locals (J (i + 1)) [(I, oI)] { s with heap := hh', toks := tk' } s₂ → LoopStepU h₀ env.locals [I] own (J (i + 1)) { s with heap := hh', toks := tk' } .next s₂ := by
      rintro ⟨h', tk, m', news', nx, e, F', N', hn, ho, ha, hm'⟩
      refine ⟨rfl, h', tk, m', nx, e, F', fun p hp => ?_, fun p hp hq => ?_, hm'⟩
      · rcases List.mem_append.mp hp with h | h
        · rcases hsame p h with h | h
          · rw [h]; exact N' _ (ho _ (.head _))
          · rw [h]; exact N' _ (hn _ (hJl _ _ _ hm'))
        · exact N' p (hn p h)
      · exact ha p hp _ (.head _) (List.mem_singleton.mp hq)
    cases f with
    | ret v => exact .ret p
    | brk => exact .brk p
    | next => exact .next (fin p)
    | cont => exact .cont (fin p)
  · rintro h' tk m' news' F' N' _ hJ
    exact done m' news' h' tk hJ F' N'

theorem listLoop {σ : Type} {l : Addr} {vs : List Value} {nn : Nat} {m₀ : Str → Option Value} (Led : σ → List (Addr × Obj)) (ps : σ → List (Str × Value)) (P : Nat → σ → Prop) (c₀ : σ)
    (hh : A.handled = none) (hl : ∀ c, (l, listOf vs.toArray nn) ∈ Led c) (F : Fr h₀ env.locals s.heap m₀) (N : News h₀ env.locals s.heap (Led c₀)) (hk : ∀ p ∈ ps c₀, m₀ p.1 = some p.2) (hp : P 0 c₀)
    (turn : ∀ (c : σ) (i : Nat) (v : Value) h tk I oI, vs[i]? = some v → (∀ p ∈ Led c, p.1 ≠ I) → P i c →
      Fr h₀ env.locals h (fun y => if y = x then some v else kstB m₀ (ps c) y) → News h₀ env.locals h (Led c ++ [(I, oI)]) →
      wpAny (model prog w) A (execs body env) (TurnPost h₀ env.locals (StG Led ps x m₀ (P (i + 1))) [(I, oI)] { s with heap := h, toks := tk } Q) E { s with heap := h, toks := tk })
    (done : ∀ (c : σ) (u : Str → Option Value) h tk, P vs.length c → Fr h₀ env.locals h (fun y => if y = x then u y else kstB m₀ (ps c) y) → News h₀ env.locals h (Led c) → Q .next { s with heap := h, toks := tk }) :
    wpAny (model prog w) A (pyIter (.ref l)) (fun it s₂ => LoopAtV prog w A h₀ env x body Q E it s₂) E s := by
  have hol : s.heap.get? l = some (listOf vs.toArray nn) := (N _ (hl c₀)).1
  have hls : s.heap.IsList l vs.toArray := ⟨_, hol, rfl, nn, rfl⟩
  have hne : l ≠ s.heap.objs.size := Nat.ne_of_lt (Heap.lt_size hol)
  refine wpAny_pyIter_list hls ?_
  have W := Walks.list (prog := prog) (w := w) hh s.heap.objs.size l hne vs.toArray
  rw [List.size_toArray] at W
  refine loopL (ol := listOf vs.toArray nn) (fun i => StG Led ps x m₀ (P i)) W (next_is_new F) (Nat.ne_of_lt F.ns.lt) (fun e => (N _ (hl c₀)).2.1 e.symm) ?_ (fun p hp => Nat.ne_of_lt (Heap.lt_size (N p hp).1)) ?_ ⟨⟨_, Heap.get?_push_size _ rfl, rfl, rfl⟩, hls.at fun o e => Heap.get?_push_of_some _ e⟩ (F.push _)
    (fun p hp => ⟨Heap.get?_push_of_some _ (N p hp).1, (N p hp).2⟩) ⟨c₀, rfl, hk, fun _ _ _ => rfl, hp⟩ ?_ ?_
  · rintro i m nx ⟨c, rfl, _⟩
    exact hl c
  · rintro i h ⟨⟨o, ho, _⟩, _⟩
    exact ⟨o, ho⟩
  · rintro i v m₁ nx h tk oI hi hv ⟨c, rfl, h1, h2, hP⟩ hne F₁ N₁
    exact turn c i v h tk _ oI (by simpa using hv) hne hP (stG_in h1 h2 F₁) N₁
  · rintro m₁ nx h tk ⟨c, rfl, h1, h2, hP⟩ F₁ N₁
    exact done c m₁ h tk hP (stG_out h1 h2 F₁) N₁
end
end Mine
end PartSp

section PartSl
open PySem PySem.W PySem.Spec PySem.Calls PyProof.Rows
set_option maxRecDepth 100000
set_option maxHeartbeats 8000000
namespace Mine
example : PySem.Challenge.rw_pg0182_01 = PySem.Challenge.rw_pg0182_01 ∧ hd.heap_39 = hd.heap_39 := by
  k_fill
  exact ⟨rfl, rfl⟩
local macro_rules | `(tactic| k_mem) => `(tactic| first | exact List.mem_cons_self | (refine List.mem_cons_of_mem _ ?_; k_mem))
local macro_rules | `(tactic| kst_mem) => `(tactic| first | assumption | (refine List.mem_cons_of_mem _ ?_; kst_mem) | (refine List.mem_append.mpr (.inl ?_); kst_mem) | (refine List.mem_append.mpr (.inr ?_); kst_mem))
local macro_rules | `(tactic| walk_at "TurnPost") => `(tactic| (dsimp only [TurnPost]))
structure SSt where
  ys : List Value
  ky : Nat
  ns : List Value
  kn : Nat
def FnIn (news : List (Addr × Obj)) (f : Addr) : Prop := ∃ oc od fd sl, (f, (⟨oc, od, .func fd, sl⟩ : Obj)) ∈ news
theorem FnIn.at {news news' : List (Addr × Obj)} {f : Addr} (hf : FnIn news f) {h₀ h : Heap} {L : Addr} (N : News h₀ L h news') (hs : ∀ p ∈ news, p ∈ news') : FnAt f h :=
  let ⟨oc, od, fd, sl, hm⟩ := hf
  FnAt.of N (hs _ hm)
def PredOn (w : World) (mean : ExcName → Option Value) (mg mb : Str → Option Value) (news : List (Addr × Obj)) (f : Value) (us : List (Value × Bool)) : Prop :=
  ∀ v b, (v, b) ∈ us → ∀ news', (∀ q ∈ news, q ∈ news') → Does w mean mg mb f [v] 1 news' fun tl r => tl = [] ∧ ∃ t : Tok, r = (fun _ => .bool b) t
section
variable {prog : Program} {w : World} {A : Around} {E : Value → Shared → Prop} {s : Shared} {env : Env} {h₀ : Heap} {x : Str} {body : List Stmt} {Q : Flow → Shared → Prop}
abbrev SLed (yA nA : Addr) (news : List (Addr × Obj)) (c : SSt) : List (Addr × Obj) := (nA, listOf c.ns.toArray c.kn) :: (yA, listOf c.ys.toArray c.ky) :: news
def yesOf (us : List (Value × Bool)) : List Value := (us.filter (·.2)).map (·.1)
def noOf (us : List (Value × Bool)) : List Value := (us.filter fun p => !p.2).map (·.1)
def SOk (us : List (Value × Bool)) (i : Nat) (c : SSt) : Prop := c.ys = yesOf (us.take i) ∧ c.ns = noOf (us.take i)
theorem SOk.yes {us : List (Value × Bool)} {i : Nat} {c : SSt} (h : SOk us i c) {v : Value} {b : Bool} (hv : us[i]? = some (v, b)) (hg : b = true) (k : Nat) : SOk us (i + 1) ⟨c.ys ++ [v], k, c.ns, c.kn⟩ := by
  have e : us.take (i + 1) = us.take i ++ [(v, b)] := by rw [List.take_add_one, hv]; rfl
  subst hg
  constructor
  · dsimp only; rw [e, yesOf, List.filter_append, List.map_append, h.1]; rfl
  · dsimp only; rw [e, noOf, List.filter_append, List.map_append, h.2]; simp [noOf]
theorem SOk.no {us : List (Value × Bool)} {i : Nat} {c : SSt} (h : SOk us i c) {v : Value} {b : Bool} (hv : us[i]? = some (v, b)) (hg : b = false) (k : Nat) : SOk us (i + 1) ⟨c.ys, c.ky, c.ns ++ [v], k⟩ := by
  have e : us.take (i + 1) = us.take i ++ [(v, b)] := by rw [List.take_add_one, hv]; rfl
  subst hg
  constructor
  · dsimp only; rw [e, yesOf, List.filter_append, List.map_append, h.1]; simp [yesOf]
  · dsimp only; rw [e, noOf, List.filter_append, List.map_append, h.2]; rfl
theorem splitLoop {yA nA l : Addr} (us : List (Value × Bool)) {nn : Nat} {m₀ : Str → Option Value} {news : List (Addr × Obj)}
    (hh : A.handled = none) (hl : (l, listOf (us.map (·.1)).toArray nn) ∈ news) (hv : us.length < 1000) (F : Fr h₀ env.locals s.heap m₀) (N : News h₀ env.locals s.heap ((nA, listOf #[] 0) :: (yA, listOf #[] 0) :: news))
    (turn : ∀ (i : Nat) (v : Value) (b : Bool) (ys ns : List Value) (ky kn : Nat) h tk I oI, us[i]? = some (v, b) → ys.length < 1000 → ns.length < 1000 → nA ≠ I → yA ≠ I → (∀ p ∈ news, p.1 ≠ I) → SOk us i ⟨ys, ky, ns, kn⟩ →
      Fr h₀ env.locals h (fun y => if y = x then some v else m₀ y) → News h₀ env.locals h ((nA, listOf ns.toArray kn) :: (yA, listOf ys.toArray ky) :: (news ++ [(I, oI)])) →
      wpAny (model prog w) A (execs body env) (TurnPost h₀ env.locals (StG (SLed yA nA news) (fun _ => []) x m₀ (SOk us (i + 1))) [(I, oI)] { s with heap := h, toks := tk } Q) E { s with heap := h, toks := tk })
    (done : ∀ (ky kn : Nat) (u : Str → Option Value) h tk, Fr h₀ env.locals h (fun y => if y = x then u y else m₀ y) → News h₀ env.locals h ((nA, listOf (noOf us).toArray kn) :: (yA, listOf (yesOf us).toArray ky) :: news) → Q .next { s with heap := h, toks := tk }) :
    wpAny (model prog w) A (pyIter (.ref l)) (fun it s₂ => LoopAtV prog w A h₀ env x body Q E it s₂) E s := by
  refine listLoop (σ := SSt) (vs := us.map (·.1)) (nn := nn) (SLed yA nA news) (fun _ => []) (SOk us) ⟨[], 0, [], 0⟩ hh (fun _ => .tail _ (.tail _ hl)) F N (fun _ h => nomatch h) ⟨by simp [yesOf], by simp [noOf]⟩ ?_ ?_
  · rintro ⟨ys, ky, ns, kn⟩ i v h tk I oI hvi hI hP F' N'
    rw [List.getElem?_map] at hvi
    obtain ⟨⟨v', b⟩, hb, rfl⟩ := Option.map_eq_some_iff.mp hvi
    have hle : ∀ g' : Value × Bool → Bool, (((us.take i).filter g').map (·.1)).length < 1000 := by
      intro g'
      rw [List.length_map]
      have h1 := List.length_filter_le g' (us.take i)
      have h3 := List.length_take_le' i us
      omega
    have a1 : ys.length < 1000 := by have := hP.1; dsimp only at this; rw [this]; exact hle _
    have a2 : ns.length < 1000 := by have := hP.2; dsimp only at this; rw [this]; exact hle _
    exact turn i v' b ys ns ky kn h tk I oI hb a1 a2 (hI _ (.head _)) (hI _ (.tail _ (.head _))) (fun p hp => hI p (.tail _ (.tail _ hp))) hP F' N'
  · rintro ⟨ys, ky, ns, kn⟩ u h tk ⟨h1, h2⟩ F' N'
    dsimp only at h1 h2 N'
    rw [List.length_map, List.take_length] at h1 h2
    subst h1
    subst h2
    exact done ky kn u h tk F' N'
theorem turnEndS {yA nA I L : Addr} {m₀ m' : Str → Option Value} {news : List (Addr × Obj)} {us : List (Value × Bool)} {i : Nat} {oI : Obj} {s₁ : Shared} {h' : Heap} {tk : Nat} (ys ns : List Value) (ky kn : Nat)
    (F : Fr h₀ L h' m') (N : News h₀ L h' ((nA, listOf ns.toArray kn) :: (yA, listOf ys.toArray ky) :: (news ++ [(I, oI)]))) (h1 : nA ≠ I) (h2 : yA ≠ I) (h3 : ∀ p ∈ news, p.1 ≠ I) (hm : ∀ z, z ≠ x → m' z = m₀ z) (hP : SOk us i ⟨ys, ky, ns, kn⟩) :
    TurnEnd h₀ L (StG (SLed yA nA news) (fun _ => []) x m₀ (SOk us i)) [(I, oI)] s₁ { s₁ with heap := h', toks := tk } := by
  refine turnEnd ⟨ys, ky, ns, kn⟩ F N ?_ ?_ ?_ (fun _ h => nomatch h) (fun z hz _ => hm z hz) hP
  · intro p hp
    rcases List.mem_cons.mp hp with hp | hp
    · rw [hp]; exact .head _
    rcases List.mem_cons.mp hp with hp | hp
    · rw [hp]; exact .tail _ (.head _)
    · exact .tail _ (.tail _ (List.mem_append.mpr (.inl hp)))
  · exact fun p hp => .tail _ (.tail _ (List.mem_append.mpr (.inr hp)))
  · intro p hp
    refine List.forall_mem_cons.mpr ⟨?_, List.forall_mem_nil _⟩
    rcases List.mem_cons.mp hp with hp | hp
    · rw [hp]; exact h1
    rcases List.mem_cons.mp hp with hp | hp
    · rw [hp]; exact h2
    · exact h3 p hp
end
theorem appendYes {prog : Program} {w : World} {A : Around} {E : Value → Shared → Prop} {s : Shared} {h₀ : Heap} {L yA nA I : Addr} {m : Str → Option Value} {news : List (Addr × Obj)} {oI : Obj} {ys ns : List Value} {ky kn : Nat} {v : Value} {Q : Value → Shared → Prop}
    (hy : ∀ p ∈ news, p.1 < yA) (hn : yA < nA ∧ AllLt nA news) (hyI : yA ≠ I) (hlen : ys.length < 1000) (F : Fr h₀ L s.heap m) (N : News h₀ L s.heap ((nA, listOf ns.toArray kn) :: (yA, listOf ys.toArray ky) :: (news ++ [(I, oI)])))
    (h : ∀ h', Fr h₀ L h' m → News h₀ L h' ((nA, listOf ns.toArray kn) :: (yA, listOf (ys ++ [v]).toArray (ky + 1)) :: (news ++ [(I, oI)])) → Q .none { s with heap := h' }) : wpAny (model prog w) A (call (.builtin "list.append") [.ref yA, v]) Q E s := by
  refine append_K F N (.tail (Ne.symm (Nat.ne_of_lt hn.1)) (.head ?_)) ?_ ?_
  · intro p hp
    rcases List.mem_append.mp hp with hp | hp
    · exact Nat.ne_of_lt (hy p hp)
    · rw [List.mem_singleton.mp hp]; exact Ne.symm hyI
  · intro h' F' N'
    rw [List.push_toArray] at N'
    exact h h' F' N'
  · rw [List.size_toArray]
    exact Nat.le_trans (Nat.le_of_lt hlen) (by decide)
theorem appendNo {prog : Program} {w : World} {A : Around} {E : Value → Shared → Prop} {s : Shared} {h₀ : Heap} {L yA nA I : Addr} {m : Str → Option Value} {news : List (Addr × Obj)} {oI : Obj} {ys ns : List Value} {ky kn : Nat} {v : Value} {Q : Value → Shared → Prop}
    (hn : yA < nA ∧ AllLt nA news) (hnI : nA ≠ I) (hlen : ns.length < 1000) (F : Fr h₀ L s.heap m) (N : News h₀ L s.heap ((nA, listOf ns.toArray kn) :: (yA, listOf ys.toArray ky) :: (news ++ [(I, oI)])))
    (h : ∀ h', Fr h₀ L h' m → News h₀ L h' ((nA, listOf (ns ++ [v]).toArray (kn + 1)) :: (yA, listOf ys.toArray ky) :: (news ++ [(I, oI)])) → Q .none { s with heap := h' }) : wpAny (model prog w) A (call (.builtin "list.append") [.ref nA, v]) Q E s := by
  refine append_K F N (.head ?_) ?_ ?_
  · intro p hp
    rcases List.mem_cons.mp hp with hp | hp
    · rw [hp]; exact Nat.ne_of_lt hn.1
    rcases List.mem_append.mp hp with hp | hp
    · exact Nat.ne_of_lt (of_allLt hn.2 p hp)
    · rw [List.mem_singleton.mp hp]; exact Ne.symm hnI
  · intro h' F' N'
    rw [List.push_toArray] at N'
    exact h h' F' N'
  · rw [List.size_toArray]
    exact Nat.le_trans (Nat.le_of_lt hlen) (by decide)
set_option hygiene false in
local macro_rules | `(tactic| walk_at "pyIter ref") => `(tactic| ((rename Fr _ _ _ _ => lF9); (rename News _ _ _ _ => lN9); k_dflt (refine' splitLoop us ?kh hl hv lF9 ?kN ?turn ?done; (case kh => rfl); (case kN => (with_unfolding_all exact lN9)))))
set_option hygiene false in
local macro_rules | `(tactic| walk_at "call ref") => `(tactic| (k_dflt (refine' Does.ask0 (hp _ _ ?hv _ ?hs) ?k1 ?k2 ?k3 ?k4 ?k5 ?kK ?kd ?ku ?_; (case k4 => k_asm); (case hv => exact List.mem_of_getElem? (by assumption)); (case hs => (intro p hp; kst_mem)); (case k1 => k_asm); (case k2 => k_asm); (case k3 => k_asm); (case k5 => k_asm); (case kK => first | exact rfl | assumption); (case kd => ktr_room); (case ku => ktr_units); k_whole); intro t' h' tk' F' N'; (try k_sweep)))
local macro_rules | `(tactic| walk_at "exec For Name Name cons nil") => `(tactic| (k_here; (rename Fr _ _ _ _ => lF'); (with_unfolding_all refine' For_invVF lF' ?k1 ?k2 ?_; (case k1 => exact rfl); (case k2 => exact rfl); k_whole)))
local macro_rules | `(tactic| walk_at "callWith ref") => `(tactic| (k_here; k_dflt (refine' callWith_F ?k1 ?_; (case k1 => exact FnIn.at (by assumption) (by k_asm) (by intro p hp; kst_mem)); k_whole)))
local macro_rules | `(tactic| walk_at "FnAt") => `(tactic| (k_dflt (exact FnIn.at (by assumption) (by k_asm) (by intro p hp; kst_mem))))
theorem split (w : World) (mean : ExcName → Option Value) (mg mb : Str → Option Value) (news : List (Addr × Obj))
    (l : Addr) (us : List (Value × Bool)) (nn : Nat) (f : Addr) (hl : (l, listOf (us.map (·.1)).toArray nn) ∈ news) (hv : us.length < 1000) (hf : FnIn news f) (hp : PredOn w mean mg mb news (.ref f) us) :
    Does w mean mg mb (.ref 52) [.ref l, .ref f] 2 news fun tl r => ∃ T yA nA ky kn, r = .ref T ∧ tl = [(T, tupOf [.ref yA, .ref nA]), (nA, listOf (noOf us).toArray kn), (yA, listOf (yesOf us).toArray ky)] := by
  unfold Does
  intro dp un gd cn csc a ccd cl outer A₀ base h₀ L m s Q E B F X N T hk hdp hun hret
  refine wpAny_call ?_
  k_dflt cell_enter
  k_with_none
  k_steps
  · (rename Fr _ _ _ _ => F9)
    (rename News _ _ _ _ => N9)
    refine appendYes (by assumption) (by assumption) (by assumption) (by assumption) F9 N9 ?_
    clear F9 N9
    intro h9 F9 N9
    k_steps
    (rename Fr _ _ _ _ => F8)
    (rename News _ _ _ _ => N8)
    (rename SOk _ _ _ => g1)
    (rename us[_]? = some _ => g2)
    (rename (_ : Bool) = true => g3)
    exact turnEndS _ _ _ _ F8 N8 (by assumption) (by assumption) (by assumption) (fun z hz => by simp [hz]) (g1.yes g2 g3 _)
  · (rename Fr _ _ _ _ => F9)
    (rename News _ _ _ _ => N9)
    refine appendNo (by assumption) (by assumption) (by assumption) F9 N9 ?_
    clear F9 N9
    intro h9 F9 N9
    k_steps
    (rename Fr _ _ _ _ => F8)
    (rename News _ _ _ _ => N8)
    (rename SOk _ _ _ => g1)
    (rename us[_]? = some _ => g2)
    (rename (_ : Bool) = false => g3)
    exact turnEndS _ _ _ _ F8 N8 (by assumption) (by assumption) (by assumption) (fun z hz => by simp [hz]) (g1.no g2 g3 _)
  · (rename Fr h₀ _ _ _ => F9)
    (rename News h₀ _ _ _ => N9)
    (rename _ < _ ∧ _ < _ ∧ AllLt _ news => g1)
    (rename _ < _ ∧ AllLt _ news => g2)
    (rename ∀ p ∈ news, p.1 < _ => g3)
    refine hret _ [_, _, _] _ _ F9 N9 ?_ ⟨_, _, _, _, _, rfl, rfl⟩
    intro q hq p hp
    simp only [List.mem_cons, List.not_mem_nil, or_false] at hp
    rcases hp with hp | hp | hp
    · rw [hp]; exact of_allLt g1.2.2 q hq
    · rw [hp]; exact of_allLt g2.2 q hq
    · rw [hp]; exact g3 q hq
end Mine
end PartSl

section PartLa
open PySem PySem.W PySem.Spec PySem.Calls PyProof.Rows
set_option maxRecDepth 100000
set_option maxHeartbeats 8000000
namespace Mine
local macro_rules | `(tactic| walk_at "no key 0") => `(tactic| skip)
local macro_rules | `(tactic| walk_at "no key 1") => `(tactic| skip)
local macro_rules | `(tactic| walk_at "no key 2") => `(tactic| skip)
local macro_rules | `(tactic| walk_at "no key 3") => `(tactic| skip)
local macro_rules | `(tactic| walk_at "no key 4") => `(tactic| skip)
local macro_rules | `(tactic| walk_at "no key 5") => `(tactic| skip)
local macro_rules | `(tactic| walk_at "no key 6") => `(tactic| skip)
local macro_rules | `(tactic| walk_at "no key 7") => `(tactic| skip)
local macro_rules | `(tactic| walk_at "no key 8") => `(tactic| skip)
local macro_rules | `(tactic| walk_at "no key 9") => `(tactic| skip)
local macro_rules | `(tactic| walk_at "no key 10") => `(tactic| skip)
local macro_rules | `(tactic| walk_at "no key 11") => `(tactic| skip)
local macro_rules | `(tactic| walk_at "no key 12") => `(tactic| skip)
local macro_rules | `(tactic| walk_at "no key 13") => `(tactic| skip)
local macro_rules | `(tactic| walk_at "no key 14") => `(tactic| skip)
local macro_rules | `(tactic| walk_at "no key 15") => `(tactic| skip)
local macro_rules | `(tactic| walk_at "no key 16") => `(tactic| skip)
local macro_rules | `(tactic| walk_at "no key 17") => `(tactic| skip)
local macro_rules | `(tactic| walk_at "no key 18") => `(tactic| skip)
local macro_rules | `(tactic| walk_at "no key 19") => `(tactic| skip)
local macro_rules | `(tactic| walk_at "no key 20") => `(tactic| skip)
local macro_rules | `(tactic| walk_at "no key 21") => `(tactic| skip)
local macro_rules | `(tactic| walk_at "no key 22") => `(tactic| skip)
local macro_rules | `(tactic| walk_at "no key 23") => `(tactic| skip)
example : PySem.Challenge.rw_pg0182_01 = PySem.Challenge.rw_pg0182_01 ∧ hd.heap_39 = hd.heap_39 := by
  k_fill
  exact ⟨rfl, rfl⟩
local macro_rules | `(tactic| k_room) => `(tactic| ktr_room)
local macro_rules | `(tactic| k_mem) => `(tactic| first | exact List.mem_cons_self | (refine List.mem_cons_of_mem _ ?_; k_mem))
local macro_rules | `(tactic| walk_at "eval Name") => `(tactic| (k_here; k_dflt (refine' nameX_F ?N ?c ?m ?d ?_ ?a ?b; (case a => rfl); (case b => rfl); (case N => k_asm); (case c => assumption); (case m => assumption); (case d => assumption); k_whole)))
abbrev lamParams (p : Pos) : Arguments := { posonlyargs := [], args := [{ arg := "row", annotation := none, pos := p }], vararg := none, kwonlyargs := [], kw_defaults := [], kwarg := none, defaults := [] }
abbrev lamBody (md : PySem.Expr) (rs : PySem.Expr) (p1 p2 p3 p4 p5 : Pos) : PySem.Expr := .Compare (.BinOp (.Subscript (.Name "row" p1) (.Constant (.int 0) 0 p2) p3) .Mod md p4) [.Eq] [rs] p5
theorem lam_rest (w : World) (mean : ExcName → Option Value) (mg mb : Str → Option Value) (news : List (Addr × Obj)) (f c' cR cM : Addr) (oc oM oR : Obj) (vs' : Array Value) (tq : Tok) (qual : Str) (pm ct : Value) (p0 p1 p2 p3 p4 p5 p6 p7 : Pos) (am b : Int) (ta tb : Tok) (cells : List (Str × Addr))
    (hf : (f, kla_obj "<lambda>" qual (lamParams p0) (lamBody (.Name "modulus" p6) (.Name "rest" p7) p1 p2 p3 p4 p5) { kind := .function, names := [("row", .local), ("modulus", .free), ("rest", .free)], isGenerator := false, isCoroutine := false } cells pm c' ct) ∈ news)
    (hc : (c', oc) ∈ news) (d1 : oc.data = .fields vs') (d2 : vs'[1]? = some (.str qual tq)) (hM : (cM, oM) ∈ news) (dM : oM.data = .cell (some (.int am ta))) (hR : (cR, oR) ∈ news) (dR : oR.data = .cell (some (.int b tb))) (kM : cells.lookup ("modulus" : Str) = some cM) (kR : cells.lookup ("rest" : Str) = some cR) (ha : 0 < am)
    (x : Addr) (i j k : Int) (t1 t2 t3 : Tok) (hx : (x, tupOf [.int i t1, .int j t2, .int k t3]) ∈ news) :
    Does w mean mg mb (.ref f) [.ref x] 1 news fun tl r => tl = [] ∧ r = .bool (i.fmod am == b) := by
  unfold Does
  intro dp un gd cn csc a ccd cl outer A₀ base h₀ L m s Q E B F X N T hk hdp hun hret
  refine wpAny_call ?_
  refine' kla_code ?k1 ?k2 ?k3 ?k4 ?k5 ?kA ?kF ?kK ?k6 ?k7 ?k8 ?k9 ?kB ?_ ?c2 ?c3 ?c4 ?c5
  case kA => exact rfl
  case kF => exact rfl
  case kK => first | exact rfl | assumption
  case k1 => k_asm
  case k2 => k_asm
  case k3 => k_asm
  case k4 => k_asm
  case k5 => k_asm
  case k6 => assumption
  case k7 => exact codeRec_news N hc d1 d2
  case k8 => ktr_room
  case k9 => exact rfl
  case c5 => decide
  case kB => exact locs rfl
  case c2 => exact rfl
  case c3 => exact rfl
  case c4 => exact rfl
  intro g' L' h' FG' F' N' B' X' T'
  (try dsimp only)
  (try k_lift B')
  (try k_fold)
  dsimp only [lamBody]
  k_with_none
  k_steps
  exact hret _ [] _ _ (by k_asm) (by (show News _ _ _ news); k_asm) (fun _ _ _ h9 => nomatch h9) ⟨rfl, rfl⟩
theorem lam_other (w : World) (mean : ExcName → Option Value) (mg mb : Str → Option Value) (news : List (Addr × Obj)) (f c' cR cM : Addr) (oc oM oR : Obj) (vs' : Array Value) (tq : Tok) (qual : Str) (pm ct : Value) (p0 p1 p2 p3 p4 p5 p6 p7 : Pos) (am b : Int) (ta tb : Tok) (cells : List (Str × Addr))
    (hf : (f, kla_obj "<lambda>" qual (lamParams p0) (lamBody (.Name "modulus" p6) (.Name "other" p7) p1 p2 p3 p4 p5) { kind := .function, names := [("row", .local), ("modulus", .free), ("other", .free)], isGenerator := false, isCoroutine := false } cells pm c' ct) ∈ news)
    (hc : (c', oc) ∈ news) (d1 : oc.data = .fields vs') (d2 : vs'[1]? = some (.str qual tq)) (hM : (cM, oM) ∈ news) (dM : oM.data = .cell (some (.int am ta))) (hR : (cR, oR) ∈ news) (dR : oR.data = .cell (some (.int b tb))) (kM : cells.lookup ("modulus" : Str) = some cM) (kR : cells.lookup ("other" : Str) = some cR) (ha : 0 < am)
    (x : Addr) (i j k : Int) (t1 t2 t3 : Tok) (hx : (x, tupOf [.int i t1, .int j t2, .int k t3]) ∈ news) :
    Does w mean mg mb (.ref f) [.ref x] 1 news fun tl r => tl = [] ∧ r = .bool (i.fmod am == b) := by
  unfold Does
  intro dp un gd cn csc a ccd cl outer A₀ base h₀ L m s Q E B F X N T hk hdp hun hret
  refine wpAny_call ?_
  refine' kla_code ?k1 ?k2 ?k3 ?k4 ?k5 ?kA ?kF ?kK ?k6 ?k7 ?k8 ?k9 ?kB ?_ ?c2 ?c3 ?c4 ?c5
  case kA => exact rfl
  case kF => exact rfl
  case kK => first | exact rfl | assumption
  case k1 => k_asm
  case k2 => k_asm
  case k3 => k_asm
  case k4 => k_asm
  case k5 => k_asm
  case k6 => assumption
  case k7 => exact codeRec_news N hc d1 d2
  case k8 => ktr_room
  case k9 => exact rfl
  case c5 => decide
  case kB => exact locs rfl
  case c2 => exact rfl
  case c3 => exact rfl
  case c4 => exact rfl
  intro g' L' h' FG' F' N' B' X' T'
  (try dsimp only)
  (try k_lift B')
  (try k_fold)
  dsimp only [lamBody]
  k_with_none
  k_steps
  exact hret _ [] _ _ (by k_asm) (by (show News _ _ _ news); k_asm) (fun _ _ _ h9 => nomatch h9) ⟨rfl, rfl⟩
theorem lam_four (w : World) (mean : ExcName → Option Value) (mg mb : Str → Option Value) (news : List (Addr × Obj)) (f c' : Addr) (oc : Obj) (vs' : Array Value) (tq : Tok) (qual : Str) (pm ct : Value) (p0 p1 p2 p3 p4 p5 p6 p7 : Pos)
    (hf : (f, kla_obj "<lambda>" qual (lamParams p0) (lamBody (.Constant (.int 4) 0 p6) (.Constant (.int 0) 0 p7) p1 p2 p3 p4 p5) { kind := .function, names := [("row", .local)], isGenerator := false, isCoroutine := false } [] pm c' ct) ∈ news)
    (hc : (c', oc) ∈ news) (d1 : oc.data = .fields vs') (d2 : vs'[1]? = some (.str qual tq))
    (x : Addr) (i j k : Int) (t1 t2 t3 : Tok) (hx : (x, tupOf [.int i t1, .int j t2, .int k t3]) ∈ news) :
    Does w mean mg mb (.ref f) [.ref x] 1 news fun tl r => tl = [] ∧ r = .bool (i.fmod 4 == 0) := by
  unfold Does
  intro dp un gd cn csc a ccd cl outer A₀ base h₀ L m s Q E B F X N T hk hdp hun hret
  refine wpAny_call ?_
  refine' kla_code ?k1 ?k2 ?k3 ?k4 ?k5 ?kA ?kF ?kK ?k6 ?k7 ?k8 ?k9 ?kB ?_ ?c2 ?c3 ?c4 ?c5
  case kA => exact rfl
  case kF => exact rfl
  case kK => first | exact rfl | assumption
  case k1 => k_asm
  case k2 => k_asm
  case k3 => k_asm
  case k4 => k_asm
  case k5 => k_asm
  case k6 => assumption
  case k7 => exact codeRec_news N hc d1 d2
  case k8 => ktr_room
  case k9 => exact rfl
  case c5 => decide
  case kB => exact locs rfl
  case c2 => exact rfl
  case c3 => exact rfl
  case c4 => exact rfl
  intro g' L' h' FG' F' N' B' X' T'
  (try dsimp only)
  (try k_lift B')
  (try k_fold)
  dsimp only [lamBody]
  k_with_none
  k_steps
  exact hret _ [] _ _ (by k_asm) (by (show News _ _ _ news); k_asm) (fun _ _ _ h9 => nomatch h9) ⟨rfl, rfl⟩
end Mine
end PartLa

section PartRz
open PySem PySem.W PySem.Spec PySem.Calls PyProof.Rows
set_option maxRecDepth 100000
namespace Mine
theorem Does.weak {w : World} {mean : ExcName → Option Value} {mg mb : Str → Option Value} {f : Value} {vs : List Value} {need : Nat} {news : List (Addr × Obj)} {Out Out' : List (Addr × Obj) → Value → Prop} (D : Does w mean mg mb f vs need news Out) (h : ∀ tl r, Out tl r → Out' tl r) : Does w mean mg mb f vs need news Out' := by
  unfold Does at D ⊢
  intro dp un gd cn csc a ccd cl outer A₀ base h₀ L m s Q E B F X N T hk hdp hun hret
  exact D dp un gd cn csc a ccd cl outer A₀ base h₀ L m s Q E B F X N T hk hdp hun fun r tl h' tk' F' N' ho hO => hret r tl h' tk' F' N' ho (h tl r hO)
theorem Does.pred {w : World} {mean : ExcName → Option Value} {mg mb : Str → Option Value} {f : Value} {vs : List Value} {need : Nat} {news : List (Addr × Obj)} {q : Bool} (D : Does w mean mg mb f vs need news fun tl r => tl = [] ∧ r = .bool q) : Does w mean mg mb f vs need news fun tl r => tl = [] ∧ ∃ t : Tok, r = (fun _ => .bool q) t :=
  D.weak fun _ _ h => ⟨h.1, 0, h.2⟩
/-- the rows with what a test says of each -/
def mark (t : Tri → Bool) (vs : List Value) (rows : List Tri) : List (Value × Bool) := vs.zip (rows.map t)
theorem RowsIn.marked {led : List (Addr × Obj)} {vs : List Value} {rows : List Tri} (h : RowsIn led vs rows) (t : Tri → Bool) : (mark t vs rows).map (·.1) = vs := by
  induction h with
  | nil => rfl
  | cons _ _ ih => simp only [mark, List.map_cons, List.zip_cons_cons] at *; rw [ih]
theorem RowsIn.mark_length {led : List (Addr × Obj)} {vs : List Value} {rows : List Tri} (h : RowsIn led vs rows) (t : Tri → Bool) : (mark t vs rows).length = vs.length := by
  rw [← List.length_map (f := (·.1)) (as := mark t vs rows), h.marked t]
theorem RowsIn.mem_mark {led : List (Addr × Obj)} {vs : List Value} {rows : List Tri} (h : RowsIn led vs rows) (t : Tri → Bool) : ∀ v b, (v, b) ∈ mark t vs rows → ∃ a x y z t1 t2 t3, v = .ref a ∧ b = t (x, y, z) ∧ (a, tupOf [.int x t1, .int y t2, .int z t3]) ∈ led := by
  induction h with
  | nil => intro v b hv; simp [mark] at hv
  | @cons a x y z t1 t2 t3 vs rows hm _ ih =>
    intro v b hv
    simp only [mark, List.map_cons, List.zip_cons_cons, List.mem_cons] at hv
    rcases hv with hv | hv
    · cases hv
      exact ⟨a, x, y, z, t1, t2, t3, rfl, rfl, hm⟩
    · exact ih v b hv
theorem RowsIn.yes {led : List (Addr × Obj)} {vs : List Value} {rows : List Tri} (h : RowsIn led vs rows) (t : Tri → Bool) : RowsIn led (yesOf (mark t vs rows)) (rows.filter t) := by
  induction h with
  | nil => exact .nil
  | @cons a x y z t1 t2 t3 vs rows hm _ ih =>
    simp only [mark, yesOf, List.map_cons, List.zip_cons_cons, List.filter_cons] at *
    by_cases hb : t (x, y, z) = true
    · simp only [hb, if_true, List.map_cons]; exact .cons hm ih
    · simp only [hb, if_false]; exact ih
theorem RowsIn.no {led : List (Addr × Obj)} {vs : List Value} {rows : List Tri} (h : RowsIn led vs rows) (t : Tri → Bool) : RowsIn led (noOf (mark t vs rows)) (rows.filter fun r => !t r) := by
  induction h with
  | nil => exact .nil
  | @cons a x y z t1 t2 t3 vs rows hm _ ih =>
    simp only [mark, noOf, List.map_cons, List.zip_cons_cons, List.filter_cons] at *
    by_cases hb : t (x, y, z) = true
    · simp only [hb, Bool.not_true, if_false]; exact ih
    · have hb' : t (x, y, z) = false := by simpa using hb
      simp only [hb', Bool.not_false, if_true, List.map_cons]; exact .cons hm ih
theorem yesOf_length (us : List (Value × Bool)) : (yesOf us).length ≤ us.length := by
  unfold yesOf
  rw [List.length_map]
  exact List.length_filter_le _ _
theorem noOf_length (us : List (Value × Bool)) : (noOf us).length ≤ us.length := by
  unfold noOf
  rw [List.length_map]
  exact List.length_filter_le _ _
end Mine
end PartRz

section PartCt
open PySem PySem.W PySem.Spec PySem.Calls PyProof.Rows PyProof.Rows.LCg
set_option maxRecDepth 100000
set_option maxHeartbeats 2000000
namespace Mine
section
variable {prog : Program} {w : World} {A : Around} {E : Value → Shared → Prop} {s : Shared} {h₀ : Heap} {L : Addr} {m : Str → Option Value} {env : Env}

/-- what one turn of a block over rows of three asks -/
def Turn3 (prog : Program) (w : World) (A : Around) (h₀ : Heap) (L : Addr) (m : Str → Option Value) (env : Env) (elt : PySem.Expr) (x1 x2 x3 : Str) (scope : Scope) (cl : List (Str × Addr)) (news : List (Addr × Obj)) (s₁ : Shared) (its : Array Value) (ok : Nat → Value → Prop) : Prop :=
  ∀ i v, its[i]? = some v → ∃ t v1 v2 v3, v = .ref t ∧ (t, tupOf [v1, v2, v3]) ∈ news ∧
    ∀ I oI C oC D ys m₂ h tk (E' : Value → Shared → Prop), NsObj oC m₂ → m₂ x1 = some v1 → m₂ x2 = some v2 → m₂ x3 = some v3 → Fr h₀ L h m → News h₀ L h ((I, oI) :: (C, oC) :: (D, lst ys) :: news) →
      wpAny (model prog w) A (eval elt (compEnvC scope cl C env)) (fun y s' => ok i y ∧ ∃ h' tk', s' = { s₁ with heap := h', toks := tk' } ∧ Fr h₀ L h' m ∧ News h₀ L h' ((I, oI) :: (C, oC) :: (D, lst ys) :: news)) E' { s₁ with heap := h, toks := tk }

theorem comp3_loop {elt iter : PySem.Expr} {x1 x2 x3 : Str} {p1 p2 p3 tp : Pos} {k : Nat} {scope : Scope} {cl : List (Str × Addr)} {pos : Pos} {news : List (Addr × Obj)} {its : Array Value} {kk : Nat} {ax I C D : Addr} {ok : Nat → Value → Prop} {R : Result → Shared → Prop} {s₁ : Shared} {h₁ : Heap} {tk₁ : Nat} {m₁ : Str → Option Value}
    (hh : A.handled = none) (hkind : scope.kind = .function) (hx1 : scope.names.lookup x1 = some .local) (hx2 : scope.names.lookup x2 = some .local) (hx3 : scope.names.lookup x3 = some .local) (h12 : x1 ≠ x2) (h13 : x1 ≠ x3) (h23 : x2 ≠ x3)
    (hm : (ax, listOf its kk) ∈ news) (hsz : its.size ≤ sizeLine) (T : Turn3 prog w A h₀ L m env elt x1 x2 x3 scope cl news s₁ its ok)
    (F : Fr h₀ L h₁ m) (N : News h₀ L h₁ ((D, lst []) :: news)) (hI : h₁.IsListIter I ax 0) (hC : h₁.Ns C m₁) (hI₀ : h₀.get? I = none) (hC₀ : h₀.get? C = none) (hIL : I ≠ L) (hCL : C ≠ L) (hIC : I ≠ C) (hID : I ≠ D) (hCD : C ≠ D) (off : ∀ p ∈ news, p.1 ≠ I ∧ p.1 ≠ C ∧ p.1 ≠ D)
    (fin : ∀ ys h tk m', ys.length = its.size → (∀ i y, ys[i]? = some y → ok i y) → Fr h₀ L h m → News h₀ L h ((D, lst ys) :: news) → h.Ns C m' → R (.ok .next) { s₁ with heap := h, toks := tk }) :
    codeAny (model prog w) A (.compLoop (.ListComp elt [⟨.Tuple [.Name x1 p1, .Name x2 p2, .Name x3 p3] k tp, iter, [], 0⟩] scope pos) 0 (.ref I) (.ref D) (compEnvC scope cl C env)) R { s₁ with heap := h₁, toks := tk₁ } := by
  have hax : ax ≠ I := (off _ hm).1
  have haxC : ax ≠ C := (off _ hm).2.1
  have haxD : ax ≠ D := (off _ hm).2.2
  have W := Walks.list (prog := prog) (w := w) hh I ax hax its
  refine LCp.codeAny_compLoop_pair (fun q s' => ∃ h' tk i ys m', s' = { s₁ with heap := h', toks := tk } ∧ i ≤ its.size ∧ q = its.size + 1 - i ∧ ys.length = i ∧ h'.IsListIter I ax i ∧ Fr h₀ L h' m ∧ h'.Ns C m' ∧ News h₀ L h' ((D, lst ys) :: news) ∧ ∀ j y, ys[j]? = some y → ok j y) ?_ (its.size + 1)
    ⟨h₁, tk₁, 0, [], m₁, rfl, Nat.zero_le _, rfl, rfl, hI, F, hC, N, fun j y h => by simp at h⟩
  rintro q s' ⟨h', tk, i, ys, m', rfl, hi, rfl, hyl, hit, F', hn', N', hok⟩
  have hlist : h'.IsList ax its := ⟨_, (N' _ (List.mem_cons_of_mem _ hm)).1, rfl, kk, rfl⟩
  have offI : ∀ p ∈ (D, lst ys) :: news, p.1 ≠ I := fun p hp => (List.mem_cons.mp hp).elim (fun e => by rw [e]; exact Ne.symm hID) fun hp => (off p hp).1
  by_cases hlt : i < its.size
  · refine W.item i _ _ _ hlt ⟨hit, hlist⟩ fun v h₂ tk₂ hPv hst₂ hk₂ => ?_
    obtain ⟨t, v1, v2, v3, rfl, hmt, T'⟩ := T i v hPv
    have N₂ : News h₀ L h₂ ((D, lst ys) :: news) := news_but N' hk₂ offI
    have ht : IsTup h₂ t #[v1, v2, v3] := ⟨_, (N₂ _ (List.mem_cons_of_mem _ hmt)).1, rfl, _, rfl⟩
    refine wpAny_letOwnedTupleGo_listiter hst₂.1 ?_
    refine assign_Tuple_tuple hh ht rfl rfl fun h₅ he => ?_
    have he' : ∀ b o, h₂.get? b = some o → h₅.get? b = some o := fun b o e => he b o (Nat.ne_of_lt (Heap.lt_size e)) e
    have hn₅ : h₅.Ns C m' := (hn'.at' fun o e => hk₂ _ o (by simpa using Ne.symm hIC) e).at' fun o e => he' _ o e
    refine assignInOrder_cons (wpAny_assign_Name (wpAny_storeName_local (lookup_relabel_local hx1) hn₅ (fun h₆ hn₆ hs₆ => ?_) (by simp [compEnvC, relabel, hkind])))
    refine assignInOrder_cons (wpAny_assign_Name (wpAny_storeName_local (lookup_relabel_local hx2) hn₆ (fun h₇ hn₇ hs₇ => ?_) (by simp [compEnvC, relabel, hkind])))
    refine assignInOrder_cons (wpAny_assign_Name (wpAny_storeName_local (lookup_relabel_local hx3) hn₇ (fun h₃ hn₃ hs₃ => ?_) (by simp [compEnvC, relabel, hkind])))
    refine assignInOrder_nil ?_
    have old3 : ∀ b o, b ≠ C → h₂.get? b = some o → h₃.get? b = some o := fun b o hb e => hs₃.extBut b o hb (hs₇.extBut b o hb (hs₆.extBut b o hb (he' b o e)))
    obtain ⟨oC, heC, hoC⟩ := ns_obj hn₃
    obtain ⟨oI, heI⟩ : ∃ oI, h₃.get? I = some oI := by obtain ⟨o, e, _⟩ := hst₂.1; exact ⟨o, old3 _ _ hIC e⟩
    have F₃ : Fr h₀ L h₃ m := ((((fr_but F' hk₂ (Ne.symm hIL) hI₀).keeps he').change hs₆ hCL hC₀).change hs₇ hCL hC₀).change hs₃ hCL hC₀
    have N₃ : News h₀ L h₃ ((I, oI) :: (C, oC) :: (D, lst ys) :: news) := fun p hp => by
      rcases List.mem_cons.mp hp with rfl | hp
      · exact ⟨heI, hIL, hI₀⟩
      · rcases List.mem_cons.mp hp with rfl | hp
        · exact ⟨heC, hCL, hC₀⟩
        · refine ⟨old3 _ _ ?_ (N₂ p hp).1, (N₂ p hp).2⟩
          rcases List.mem_cons.mp hp with rfl | hp
          · exact Ne.symm hCD
          · exact (off p hp).2.1
    refine wpAny_mono (T' I oI C oC D ys _ h₃ _ _ hoC (by simp [h12, h13]) (by simp [h23]) (by simp) F₃ N₃) (fun y s₄ h₄ => ?_) fun _ _ e => e
    obtain ⟨hy, h₄, tk₄, rfl, F₄, N₄⟩ := h₄
    have zI := (N₄ (I, oI) List.mem_cons_self).1
    have zC := (N₄ (C, oC) (List.mem_cons_of_mem _ List.mem_cons_self)).1
    have N₄' : News h₀ L h₄ ((D, lst ys) :: news) := fun p hp => N₄ p (List.mem_cons_of_mem _ (List.mem_cons_of_mem _ hp))
    have zD := (N₄' (D, lst ys) List.mem_cons_self)
    refine append_at (hsz := by show ys.toArray.size ≤ sizeLine; rw [List.size_toArray, hyl]; exact Nat.le_trans hi hsz) zD.1 fun h₅' hs₅ hD₅ => ?_
    refine ⟨its.size + 1 - (i + 1), by omega, h₅', tk₄, i + 1, ys ++ [y], _, rfl, hlt, rfl, by rw [List.length_append, List.length_singleton, hyl], ?_, F₄.change hs₅ zD.2.1 zD.2.2, (hoC.ns zC).sameBut hs₅ hCD, fun p hp => ?_, ?_⟩
    · have e1 : h₃.get? I = some oI := heI
      obtain ⟨o, e, r⟩ := hst₂.1
      have e2 := old3 _ _ hIC e
      rw [e1] at e2
      cases e2
      exact ⟨oI, hs₅.extBut _ _ hID zI, r⟩
    · rcases List.mem_cons.mp hp with rfl | hp
      · exact ⟨hD₅.trans (congrArg some (lst_snoc ys y)), zD.2⟩
      · exact ⟨hs₅.extBut _ _ (off p hp).2.2 (N₄' p (List.mem_cons_of_mem _ hp)).1, (N₄' p (List.mem_cons_of_mem _ hp)).2⟩
    · intro j y' hj
      rcases Nat.lt_trichotomy j ys.length with h | h | h
      · rw [List.getElem?_append_left h] at hj; exact hok j y' hj
      · rw [h, List.getElem?_concat_length] at hj
        cases hj
        rw [h, hyl]; exact hy
      · rw [List.getElem?_eq_none (by rw [List.length_append, List.length_singleton]; omega)] at hj; cases hj
  · obtain rfl : i = its.size := Nat.le_antisymm hi (Nat.not_lt.mp hlt)
    refine W.done _ _ _ ⟨hit, hlist⟩ fun h₂ tk₂ hk₂ => ?_
    exact fin ys h₂ tk₂ m' hyl hok (fr_but F' hk₂ (Ne.symm hIL) hI₀) (news_but N' hk₂ offI) (hn'.at' fun o e => hk₂ _ o (by simpa using Ne.symm hIC) e)
/-- a block over rows of three, a list of the ledger -/
def Src3 (prog : Program) (w : World) (A : Around) (h₀ : Heap) (L : Addr) (m : Str → Option Value) (env : Env) (elt : PySem.Expr) (x1 x2 x3 : Str) (scope : Scope) (cl : List (Str × Addr)) (Q : Value → Shared → Prop) (xv : Value) (s₁ : Shared) : Prop :=
  ∃ ax its kk news ok, xv = .ref ax ∧ A.handled = none ∧ Fr h₀ L s₁.heap m ∧ News h₀ L s₁.heap news ∧ (ax, listOf its kk) ∈ news ∧ its.size ≤ sizeLine ∧ Turn3 prog w A h₀ L m env elt x1 x2 x3 scope cl news s₁ its ok ∧
    ∀ D ys h tk, ys.length = its.size → (∀ i y, ys[i]? = some y → ok i y) → Fr h₀ L h m → News h₀ L h ((D, lst ys) :: news) → (∀ p ∈ news, p.1 < D) → Q (.ref D) { s₁ with heap := h, toks := tk }
theorem comp3 {elt iter : PySem.Expr} {x1 x2 x3 : Str} {p1 p2 p3 tp : Pos} {k : Nat} {scope : Scope} {cl : List (Str × Addr)} {pos : Pos} {Q : Value → Shared → Prop} (_F₀ : Fr h₀ L s.heap m)
    (hclos : closureFor scope env = pure cl) (hcell : ∀ y ∈ scope.names, y.2 ≠ .cell) (hkind : scope.kind = .function)
    (hnames : ∀ y ∈ scope.names, y.2 = .local → scope.names.lookup y.1 = some .local) (hx1 : scope.names.lookup x1 = some .local) (hx2 : scope.names.lookup x2 = some .local) (hx3 : scope.names.lookup x3 = some .local) (h12 : x1 ≠ x2) (h13 : x1 ≠ x3) (h23 : x2 ≠ x3)
    (h : wpAny (model prog w) A (eval iter env) (Src3 prog w A h₀ L m env elt x1 x2 x3 scope cl Q) E s)
    (hs : ∀ x, foldedSetIterable iter env x = pure x := by intro _; rfl) :
    wpAny (model prog w) A (eval (.ListComp elt [⟨.Tuple [.Name x1 p1, .Name x2 p2, .Name x3 p3] k tp, iter, [], 0⟩] scope pos) env) Q E s := by
  rw [eval_ListComp]
  refine wpAny_comprehension_free (use := none) rfl hs hclos hkind hnames (wpAny_mono h (fun xv s₁ h₁ => ?_) fun _ _ e => e)
  obtain ⟨ax, its, kk, news, ok, rfl, hh, F, N, hm, hsz, T, fin⟩ := h₁
  have hl : s₁.heap.IsList ax its := ⟨_, (N _ hm).1, rfl, kk, rfl⟩
  refine wpAny_pyIter_list hl ?_
  refine wpAny_newObj_type (wpAny_newFunctionEnv hcell (by intro y hy; simp at hy) (fun h₁ hns₁ hsb₁ => ?_) hkind)
  dsimp only at hns₁ hsb₁ ⊢
  generalize hH1 : s₁.heap.push { cls := .type "list_iterator", data := .fields #[.ref ax, .int 0 0] } = H1 at hns₁ hsb₁ ⊢
  have z1 : H1.objs.size = s₁.heap.objs.size + 1 := by rw [← hH1, Heap.size_push]
  have g1 : ∀ b o, s₁.heap.get? b = some o → H1.get? b = some o := fun b o e => hH1 ▸ Heap.get?_push_of_some _ e
  have hit : H1.IsListIter s₁.heap.objs.size ax 0 := hH1 ▸ ⟨_, Heap.get?_push_size _ rfl, rfl, rfl⟩
  generalize hH2 : H1.push { cls := .type "list", dict := none, data := .seq ([] : List Value).toArray } = H2 at hns₁ hsb₁ ⊢
  have z2 : H2.objs.size = s₁.heap.objs.size + 2 := by rw [← hH2, Heap.size_push, z1]
  have g2 : ∀ b o, H1.get? b = some o → H2.get? b = some o := fun b o e => hH2 ▸ Heap.get?_push_of_some _ e
  have hD : H2.get? H1.objs.size = some (lst []) := hH2 ▸ Heap.get?_push_size _ rfl
  have old : ∀ b o, @LT.lt Nat instLTNat b H2.objs.size → H2.get? b = some o → h₁.get? b = some o := fun b o hb e => hsb₁.extBut b o (Nat.ne_of_lt hb) (Heap.get?_push_of_some _ e)
  have up : ∀ b o, s₁.heap.get? b = some o → h₁.get? b = some o := fun b o e => old b o (by have := Heap.lt_size e; have q : @LT.lt Nat instLTNat b s₁.heap.objs.size := this; omega) (g2 _ _ (g1 _ _ e))
  have hLlt : @LT.lt Nat instLTNat L s₁.heap.objs.size := F.ns.lt
  have fresh₀ : ∀ a, @LE.le Nat instLENat s₁.heap.objs.size a → h₀.get? a = none := fun a ha => Heap.get?_none_of_le (Nat.le_trans F.above (Nat.le_trans (Nat.le_of_lt hLlt) ha))
  have lt : ∀ p ∈ news, @LT.lt Nat instLTNat p.1 s₁.heap.objs.size := fun p hp => Heap.lt_size (N p hp).1
  have it1 : h₁.IsListIter s₁.heap.objs.size ax 0 := by
    obtain ⟨o, e, r⟩ := hit
    exact ⟨o, old _ _ (by omega) (g2 _ _ e), r⟩
  refine codeAny_compStart_list ?_ ((Walks.list (prog := prog) (w := w) hh s₁.heap.objs.size ax (Nat.ne_of_lt (lt _ hm)) its).self 0 _ _ _ ⟨it1, hl.at (up ax)⟩ ?_)
  all_goals
    refine comp3_loop (h₀ := h₀) (L := L) (m := m) (news := news) (its := its) (kk := kk) (ax := ax) (I := s₁.heap.objs.size) (C := H2.objs.size) (D := H1.objs.size) (ok := ok) (s₁ := s₁) (h₁ := h₁) hh hkind hx1 hx2 hx3 h12 h13 h23 hm hsz T (F.keeps up) (fun p hp => ?_) it1 hns₁ (fresh₀ _ (Nat.le_refl _)) (fresh₀ _ (by omega)) (fun e => ?_) (fun e => ?_) (fun e => ?_) (fun e => ?_) (fun e => ?_) (fun p hp => ?_) ?_
    · rcases List.mem_cons.mp hp with rfl | hp
      · exact ⟨old _ _ (by omega) hD, fun e => by have q : @Eq Nat H1.objs.size L := e; omega, fresh₀ _ (by omega)⟩
      · exact ⟨up _ _ (N p hp).1, (N p hp).2⟩
    · exact absurd e (Nat.ne_of_gt hLlt)
    · have q : @Eq Nat H2.objs.size L := e; omega
    · have : s₁.heap.objs.size = H2.objs.size := e; omega
    · have : s₁.heap.objs.size = H1.objs.size := e; omega
    · have : H2.objs.size = H1.objs.size := e; omega
    · have := lt p hp
      exact ⟨Nat.ne_of_lt this, Nat.ne_of_lt (show @LT.lt Nat instLTNat _ _ by omega), Nat.ne_of_lt (show @LT.lt Nat instLTNat _ _ by omega)⟩
    · intro ys h tk m' hlen hok F' N' hn'
      refine ⟨m', hn', fun h'' hs'' => fin H1.objs.size ys h'' tk hlen hok (F'.change hs'' (fun e => ?_) (fresh₀ H2.objs.size (by omega))) (fun p hp => ?_) (fun p hp => Nat.lt_of_lt_of_le (lt p hp) (by omega))⟩
      · have q : @Eq Nat H2.objs.size L := e; omega
      · refine ⟨hs''.extBut _ _ ?_ (N' p hp).1, (N' p hp).2⟩
        rcases List.mem_cons.mp hp with rfl | hp
        · intro e; have : H1.objs.size = H2.objs.size := e; omega
        · have := lt p hp
          exact Nat.ne_of_lt (show @LT.lt Nat instLTNat p.1 H2.objs.size by omega)
end
theorem intsAre_of {vs : List Value} {ks : List Int} (hl : vs.length = ks.length) (h : ∀ (i : Nat) (y : Value), vs[i]? = some y → ∃ (k : Int) (t : Tok), ks[i]? = some k ∧ y = Value.int k t) : IntsAre vs ks := by
  induction vs generalizing ks with
  | nil =>
    cases ks with
    | nil => exact .nil
    | cons k ks => cases hl
  | cons v vs ih =>
    cases ks with
    | nil => cases hl
    | cons k ks =>
      obtain ⟨k', t, hk, rfl⟩ := h 0 v rfl
      cases hk
      exact .cons _ t (ih (Nat.succ.inj hl) fun i y hy => h (i + 1) y hy)
end Mine
end PartCt

section PartMv1
open PySem PySem.W PySem.Spec PySem.Calls PyProof.Rows
set_option maxRecDepth 100000
set_option maxHeartbeats 8000000
namespace Mine
example : PySem.Challenge.rw_pg0182_01 = PySem.Challenge.rw_pg0182_01 ∧ hd.heap_39 = hd.heap_39 := by
  k_fill
  exact ⟨rfl, rfl⟩
local macro_rules | `(tactic| k_mem) => `(tactic| first | exact List.mem_cons_self | (refine List.mem_cons_of_mem _ ?_; k_mem))
local macro_rules | `(tactic| kst_mem) => `(tactic| first | assumption | (refine List.mem_cons_of_mem _ ?_; kst_mem) | (refine List.mem_append.mpr (.inl ?_); kst_mem) | (refine List.mem_append.mpr (.inr ?_); kst_mem))
local macro_rules | `(tactic| walk_at "TurnPost") => `(tactic| (dsimp only [TurnPost]))
local macro_rules | `(tactic| k_updF) => `(tactic| first | (refine UpdF.head ?_; assumption) | (refine' UpdF.tail ?a ?b; (case a => (refine neN ?_; (try dsimp only); omega)); (case b => k_updF)))
def Stop (p : Prop) : Prop := p
theorem Stop.mk {p : Prop} (h : Stop p) : p := h
theorem Stop.on {p : Prop} (h : p) : Stop p := h
theorem sumL {prog : Program} {w : World} {A : Around} {E : Value → Shared → Prop} {s : Shared} {h₀ : Heap} {L l : Addr} {m : Str → Option Value} {news : List (Addr × Obj)} {vs : List Value} {k : Nat} {ns : List Int} {Q : Value → Shared → Prop} (hh : A.handled = none) (F : Fr h₀ L s.heap m) (N : News h₀ L s.heap news) (hl : (l, listOf vs.toArray k) ∈ news) (hi : IntsAre vs ns)
    (h : ∀ h' tk t', Fr h₀ L h' m → News h₀ L h' news → Q (.int ns.sum t') { s with heap := h', toks := tk }) : wpAny (model prog w) A (call (.builtin "sum") [.ref l]) Q E s :=
  sumK hh F N ⟨_, (N _ hl).1, rfl, k, rfl⟩ hi h
local macro_rules | `(tactic| walk_at "eval ListComp") => `(tactic| (refine Stop.mk ?_))
local macro_rules | `(tactic| walk_at "call builtin:sum") => `(tactic| (refine Stop.mk ?_))
local macro_rules | `(tactic| walk_at "call ref") => `(tactic| ((with_reducible show wpAny _ _ (call (Value.ref 52) _) _ _ _); (refine Stop.mk ?_)))
def DoesT (w : World) (mean : ExcName → Option Value) (mg mb : Str → Option Value) (f : Value) (vs : List Value) (need : Nat) (c P : Addr) (ps : Array Value) (news : List (Addr × Obj)) (Out : List (Addr × Obj) → Array Value → Value → Prop) : Prop :=
  ∀ (dp un : Nat) (gd : Option (List Code)) (cn : Str) (cs : Scope) (a : Addr) (ccd : Value) (cl : List (Str × Addr)) (outer : List Env) (A₀ : Around) (base h₀ : Heap) (L : Addr) (m : Str → Option Value) (s : Shared) (Q E : Value → Shared → Prop),
    Below A₀ base outer h₀ → Fr h₀ L s.heap m → (Mine.hd.heap_39 w.params).In h₀ → News h₀ L s.heap ((P, tabObj ps) :: news) → Top VP LOO mean mg mb h₀ → CodeHd base c P → (∀ p ∈ news, p.1 ≠ P) → cs.kind = .function → dp + need < recursionLimit → un + 8 * need < cLine →
    (∀ r tl ps' h' tk', Fr h₀ L h' m → News h₀ L h' (tl ++ (P, tabObj ps') :: news) → (∀ q ∈ (P, tabObj ps') :: news, ∀ p ∈ tl, q.1 < p.1) → Out tl ps' r → Q r { s with heap := h', toks := tk' }) →
    wpAny (model PR w) (ktrTop dp un gd cn cs L a ccd cl outer) (call f vs) Q E s
def movedQual : Str := ("_law_rows_moved" : Str) ++ (".<locals>." : Str) ++ ("<lambda>" : Str)
def TabM (ps : Array Value) (led : List (Addr × Obj)) : Prop :=
  ∃ (c1 c2 : Addr) (o1 o2 : Obj) (v1 v2 : Array Value) (t1 t2 : Tok), ps = #[] ++ #[rawInt ((92 : Nat) : Int), rawInt ((38 : Nat) : Int), .ref c1] ++ #[rawInt ((93 : Nat) : Int), rawInt ((38 : Nat) : Int), .ref c2] ∧
    (c1, o1) ∈ led ∧ o1.data = .fields v1 ∧ v1[1]? = some (.str movedQual t1) ∧ (c2, o2) ∈ led ∧ o2.data = .fields v2 ∧ v2[1]? = some (.str movedQual t2)
def movedSum (am b c : Int) (rows : List Tri) : Int :=
  ((rows.filter fun r => r.1.fmod am == b).map fun r => (r.2.1 - r.2.2).fdiv r.1).sum - (((rows.filter fun r => !(r.1.fmod am == b)).filter fun r => r.1.fmod am == c).map fun r => (r.2.1 - r.2.2).fdiv r.1).sum
theorem fin1 {h₀ h : Heap} {L : Addr} {news : List (Addr × Obj)} {ps : Array Value} {a1 a2 a3 a4 a5 a6 c2 a7 a8 a9 a10 c1 a11 a12 a13 : Addr} {o1 o2 o3 o4 o5 o6 oc2 o7 o8 o9 o10 oc1 o11 o12 o13 : Obj}
    (N : News h₀ L h ((a1, o1) :: (a2, o2) :: (a3, o3) :: (a4, o4) :: (a5, o5) :: (a6, o6) :: (c2, oc2) :: (a7, o7) :: (a8, o8) :: (a9, o9) :: (a10, o10) :: (c1, oc1) :: (a11, o11) :: (a12, o12) :: (a13, o13) :: (144, tabObj ps) :: news)) :
    News h₀ L h ([(c2, oc2), (c1, oc1)] ++ (144, tabObj ps) :: news) := by
  intro p hp
  apply N p
  simp only [List.cons_append, List.nil_append, List.mem_cons] at hp ⊢
  rcases hp with hp | hp | hp | hp
  · simp only [hp, true_or, or_true]
  · simp only [hp, true_or, or_true]
  · simp only [hp, true_or, or_true]
  · simp only [hp, or_true]
theorem ord1 {news : List (Addr × Obj)} {ps : Array Value} {c1 c2 a b c : Addr} {oc1 oc2 : Obj} (h1 : a < c1 ∧ b < c1 ∧ c < c1 ∧ 144 < c1 ∧ AllLt c1 news) (h2 : 144 < c2 ∧ AllLt c2 news) :
    ∀ q ∈ (144, tabObj ps) :: news, ∀ p ∈ [(c2, oc2), (c1, oc1)], q.1 < p.1 := by
  intro q hq p hp
  have k1 : q.1 < c1 := (List.mem_cons.mp hq).elim (fun e => by rw [e]; exact h1.2.2.2.1) fun h => of_allLt h1.2.2.2.2 q h
  have k2 : q.1 < c2 := (List.mem_cons.mp hq).elim (fun e => by rw [e]; exact h2.1) fun h => of_allLt h2.2 q h
  rcases List.mem_cons.mp hp with hp | hp
  · rw [hp]; exact k2
  · rw [List.mem_singleton.mp hp]; exact k1
theorem moved1 (w : World) (mean : ExcName → Option Value) (mg mb : Str → Option Value) (news : List (Addr × Obj))
    (l : Addr) (vs : List Value) (nn : Nat) (rows : List Tri) (hl : (l, listOf vs.toArray nn) ∈ news) (hv : vs.length < 1000) (hr : RowsIn news vs rows) (hpos : ∀ r ∈ rows, 0 < r.1 ∧ r.1 < 1000) (am b c : Int) (ta tb tc : Tok) (ha : 0 < am) :
    DoesT w mean mg mb (.ref 147) [.ref l, .int am ta, .int b tb, .int c tc] 4 146 144 #[] news fun tl ps r => TabM ps tl ∧ ∃ t, r = .int (movedSum am b c rows) t := by
  unfold DoesT
  intro dp un gd cn csc a ccd cl outer A₀ base h₀ L m s Q E B F X N T C hP hk hdp hun hret
  refine wpAny_call ?_
  k_dflt (refine' code_defC ?k1 ?k2 ?k3 ?k4 ?k5 ?kA ?kF ?kK ?k6 ?k7 ?k8 ?k9 ?kB ?kD ?_ ?c2 ?c3 ?c4; (case kA => exact rfl); (case kF => exact rfl); (case kK => assumption); (case k1 => k_asm); (case k2 => k_asm); (case k3 => k_asm); (case k4 => k_asm); (case k5 => k_asm); (case k6 => k_is); (case k7 => k_is); (case k8 => ktr_room); (case k9 => exact BindsTo.of_eq rfl); (case kB => exact rfl); (case kD => decide +kernel); (case c2 => exact rfl); (case c3 => exact rfl); (case c4 => exact rfl); k_whole; intro g' L' h' tk' cells' FG' F' N' Y' B' X' T' l1; (try k_lt l1); k_cells Y'; (try simp only [List.cons_append, List.nil_append] at N'); (try dsimp only); (try k_lift B'); (try k_fold))
  k_with_none
  k_steps
  refine Stop.on ?_
  (rename News _ _ _ _ => N9)
  (rename (_ : Obj).data = Data.fields _ => d1)
  (rename _ = some (Value.str _ _) => d2)
  have dA1 := d1
  have dA2 := d2
  refine' Does.ask (split _ _ _ _ _ _ (mark (fun r => r.1.fmod am == b) vs rows) nn _ ?hl ?hv ?hf ?hp) ?k1 ?k2 ?k3 N9 ?k5 ?kK ?kd ?ku ?_
  case hl => (rw [hr.marked]; k_mem)
  case hv => (rw [hr.mark_length]; exact hv)
  case hf => exact ⟨_, _, _, _, by k_mem⟩
  case hp =>
    intro v b' hv news' hs
    obtain ⟨x, i, j, k, t1, t2, t3, rfl, rfl, hx⟩ := hr.mem_mark _ v b' hv
    refine Does.pred ?_
    refine' lam_rest w mean mg mb news' _ _ _ _ _ _ _ _ _ _ _ _ _ _ _ _ _ _ _ _ am b ta tb _ ?hf ?hc d1 d2 ?hM ?dM ?hR ?dR ?kM ?kR ha x i j k t1 t2 t3 ?hx
    case hx => exact hs _ (by kst_mem)
    case hf => exact hs _ (by exact List.mem_cons_self)
    case hc => exact hs _ (by k_mem)
    case kM => exact rfl
    case kR => exact rfl
    case hM => exact hs _ (by k_mem)
    case hR => exact hs _ (by k_mem)
    case dM => (with_unfolding_all assumption)
    case dR => (with_unfolding_all assumption)
  case k1 => k_asm
  case k2 => k_asm
  case k3 => k_asm
  case k5 => k_asm
  case kK => first | exact rfl | assumption
  case kd => ktr_room
  case ku => ktr_units
  intro r tl h' tk' F' N' ho hO
  obtain ⟨T1, yA, nA, ky, kn, rfl, rfl⟩ := hO
  simp only [List.cons_append, List.nil_append] at N'
  have l3 := fun q hq => ho q hq _ (.head _)
  have l4 := fun q hq => ho q hq _ (.tail _ (.head _))
  have l5 := fun q hq => ho q hq _ (.tail _ (.tail _ (.head _)))
  dsimp only at l3 l4 l5
  k_lt l3
  k_lt l4
  k_lt l5
  clear ho N9
  k_steps
  refine Stop.on ?_
  (rename News _ _ _ _ => N9)
  (rename (_ : Obj).data = Data.fields _ => d1)
  (rename _ = some (Value.str _ _) => d2)
  have hr2 := RowsIn.no hr (fun r => r.1.fmod am == b)
  refine' Does.ask (split _ _ _ _ _ _ (mark (fun r => r.1.fmod am == c) (noOf (mark (fun r => r.1.fmod am == b) vs rows)) (rows.filter fun r => !(r.1.fmod am == b))) kn _ ?hl ?hv ?hf ?hp) ?k1 ?k2 ?k3 N9 ?k5 ?kK ?kd ?ku ?_
  case hl => (rw [hr2.marked]; k_mem)
  case hv => (rw [hr2.mark_length]; exact Nat.lt_of_le_of_lt (noOf_length _) (by rw [hr.mark_length]; exact hv))
  case hf => exact ⟨_, _, _, _, by k_mem⟩
  case hp =>
    intro v b' hv news' hs
    obtain ⟨x, i, j, k, t1, t2, t3, rfl, rfl, hx⟩ := hr2.mem_mark _ v b' hv
    refine Does.pred ?_
    refine' lam_other w mean mg mb news' _ _ _ _ _ _ _ _ _ _ _ _ _ _ _ _ _ _ _ _ am c ta tc _ ?hf ?hc d1 d2 ?hM ?dM ?hR ?dR ?kM ?kR ha x i j k t1 t2 t3 ?hx
    case hx => exact hs _ (by kst_mem)
    case hf => exact hs _ (by exact List.mem_cons_self)
    case hc => exact hs _ (by k_mem)
    case kM => exact rfl
    case kR => exact rfl
    case hM => exact hs _ (by k_mem)
    case hR => exact hs _ (by k_mem)
    case dM => (with_unfolding_all assumption)
    case dR => (with_unfolding_all assumption)
  case k1 => k_asm
  case k2 => k_asm
  case k3 => k_asm
  case k5 => k_asm
  case kK => first | exact rfl | assumption
  case kd => ktr_room
  case ku => ktr_units
  intro r tl h' tk' F' N' ho hO
  obtain ⟨T2, yB, nB, kyB, knB, rfl, rfl⟩ := hO
  simp only [List.cons_append, List.nil_append] at N'
  have l6 := fun q hq => ho q hq _ (.head _)
  have l7 := fun q hq => ho q hq _ (.tail _ (.head _))
  have l8 := fun q hq => ho q hq _ (.tail _ (.tail _ (.head _)))
  dsimp only at l6 l7 l8
  k_lt l6
  k_lt l7
  k_lt l8
  clear ho N9
  k_steps
  refine Stop.on ?_
  (rename Fr _ _ _ _ => F9)
  refine' comp3 F9 ?c1 ?c2 ?c3 ?c4 ?c5 ?c6 ?c7 ?c8 ?c9 ?c10 ?_
  case c1 => with_unfolding_all rfl
  case c2 => decide
  case c3 => rfl
  case c4 => decide
  case c5 => rfl
  case c6 => rfl
  case c7 => rfl
  case c8 => decide
  case c9 => decide
  case c10 => decide
  walk1
  (rename News _ _ _ _ => N9)
  have hrY := RowsIn.yes hr (fun r => r.1.fmod am == b)
  have hlY : (yesOf (mark (fun r => r.1.fmod am == b) vs rows)).length ≤ 1000 := Nat.le_of_lt (Nat.lt_of_le_of_lt (yesOf_length _) (by rw [hr.mark_length]; exact hv))
  refine' ⟨yA, _, _, _, (fun i y => ∃ (r : Tri) (t : Tok), (rows.filter fun r => r.1.fmod am == b)[i]? = some r ∧ y = Value.int ((r.2.1 - r.2.2).fdiv r.1) t), rfl, rfl, F9, N9, ?mem, ?size, ?turn, ?fin⟩
  case mem => k_mem
  case size => (rw [List.size_toArray]; exact Nat.le_trans hlY (by decide))
  case turn =>
    intro i v hv
    obtain ⟨ra, rx, ry, rz, t1, t2, t3, rfl, hr', hm⟩ := hrY.at i v (by simpa using hv)
    obtain ⟨hx, hx'⟩ : 0 < rx ∧ rx < 1000 := hpos _ (List.mem_filter.mp (List.mem_of_getElem? hr')).1
    refine ⟨ra, _, _, _, rfl, by kst_mem, ?_⟩
    intro I oI C oC D ys m₂ h tk E' hoC e1 e2 e3 F N
    clear F9 N9
    k_steps
    all_goals (with_unfolding_all assumption)
  case fin =>
    intro D ys h tk hlen hok F N l9
    k_lt l9
    clear F9 N9
    have hI : IntsAre ys ((rows.filter fun r => r.1.fmod am == b).map fun r => (r.2.1 - r.2.2).fdiv r.1) := by
      refine intsAre_of ?_ ?_
      · rw [hlen, List.size_toArray, hrY.length, List.length_map]
      · intro i y hy
        obtain ⟨r, t, h1, h2⟩ := hok i y hy
        exact ⟨_, t, by rw [List.getElem?_map, h1]; rfl, h2⟩
    k_steps
    refine Stop.on ?_
    (rename Fr _ _ _ _ => F9)
    (rename News _ _ _ _ => N9)
    refine sumL rfl F9 N9 (by k_mem) hI ?_
    clear F9 N9
    intro h' tk' t' F' N'
    k_steps
    refine Stop.on ?_
    (rename Fr _ _ _ _ => F9)
    refine' comp3 F9 ?c1 ?c2 ?c3 ?c4 ?c5 ?c6 ?c7 ?c8 ?c9 ?c10 ?_
    case c1 => with_unfolding_all rfl
    case c2 => decide
    case c3 => rfl
    case c4 => decide
    case c5 => rfl
    case c6 => rfl
    case c7 => rfl
    case c8 => decide
    case c9 => decide
    case c10 => decide
    walk1
    (rename News _ _ _ _ => N9)
    have hrY2 := RowsIn.yes hr2 (fun r => r.1.fmod am == c)
    have hlY2 : (yesOf (mark (fun r => r.1.fmod am == c) (noOf (mark (fun r => r.1.fmod am == b) vs rows)) (rows.filter fun r => !(r.1.fmod am == b)))).length ≤ 1000 := Nat.le_of_lt (Nat.lt_of_le_of_lt (yesOf_length _) (by rw [hr2.mark_length]; exact Nat.lt_of_le_of_lt (noOf_length _) (by rw [hr.mark_length]; exact hv)))
    refine' ⟨yB, _, _, _, (fun i y => ∃ (r : Tri) (t : Tok), ((rows.filter fun r => !(r.1.fmod am == b)).filter fun r => r.1.fmod am == c)[i]? = some r ∧ y = Value.int ((r.2.1 - r.2.2).fdiv r.1) t), rfl, rfl, F9, N9, ?mem, ?size, ?turn, ?fin⟩
    case mem => k_mem
    case size => (rw [List.size_toArray]; exact Nat.le_trans hlY2 (by decide))
    case turn =>
      intro i v hv
      obtain ⟨ra, rx, ry, rz, t1, t2, t3, rfl, hr', hm⟩ := hrY2.at i v (by simpa using hv)
      obtain ⟨hx, hx'⟩ : 0 < rx ∧ rx < 1000 := hpos _ (List.mem_filter.mp (List.mem_filter.mp (List.mem_of_getElem? hr')).1).1
      refine ⟨ra, _, _, _, rfl, by kst_mem, ?_⟩
      intro I oI C oC D ys m₂ h tk E' hoC e1 e2 e3 F N
      clear F9 N9
      k_steps
      all_goals (with_unfolding_all assumption)
    case fin =>
      intro D2 ys2 h tk hlen hok F N l9
      k_lt l9
      clear F9 N9
      have hI2 : IntsAre ys2 (((rows.filter fun r => !(r.1.fmod am == b)).filter fun r => r.1.fmod am == c).map fun r => (r.2.1 - r.2.2).fdiv r.1) := by
        refine intsAre_of ?_ ?_
        · rw [hlen, List.size_toArray, hrY2.length, List.length_map]
        · intro i y hy
          obtain ⟨r, t, h1, h2⟩ := hok i y hy
          exact ⟨_, t, by rw [List.getElem?_map, h1]; rfl, h2⟩
      k_steps
      refine Stop.on ?_
      (rename Fr _ _ _ _ => F9)
      (rename News _ _ _ _ => N9)
      refine sumL rfl F9 N9 (by k_mem) hI2 ?_
      clear F9 N9
      intro h' tk' t' F' N'
      k_steps
      (rename News h₀ _ _ _ => N9)
      (rename Fr h₀ _ _ _ => F9)
      (rename _ ∧ _ ∧ _ ∧ 144 < _ ∧ AllLt _ news => k1)
      (rename _ ∧ _ ∧ _ ∧ _ ∧ _ ∧ _ ∧ _ ∧ _ ∧ 144 < _ ∧ AllLt _ news => k2)
      refine hret _ _ _ _ _ F9 (fin1 N9) ?_ ⟨⟨_, _, _, _, _, _, _, _, rfl, .tail _ (.head _), dA1, dA2, .head _, d1, d2⟩, tk', rfl⟩
      exact ord1 k1 k2.2.2.2.2.2.2.2.2
end Mine
end PartMv1

section PartMv2
open PySem PySem.W PySem.Spec PySem.Calls PyProof.Rows
set_option maxRecDepth 100000
set_option maxHeartbeats 8000000
namespace Mine
local macro_rules | `(tactic| walk_at "no key 0") => `(tactic| skip)
local macro_rules | `(tactic| walk_at "no key 1") => `(tactic| skip)
local macro_rules | `(tactic| walk_at "no key 2") => `(tactic| skip)
local macro_rules | `(tactic| walk_at "no key 3") => `(tactic| skip)
local macro_rules | `(tactic| walk_at "no key 4") => `(tactic| skip)
local macro_rules | `(tactic| walk_at "no key 5") => `(tactic| skip)
local macro_rules | `(tactic| walk_at "no key 6") => `(tactic| skip)
local macro_rules | `(tactic| walk_at "no key 7") => `(tactic| skip)
local macro_rules | `(tactic| walk_at "no key 8") => `(tactic| skip)
local macro_rules | `(tactic| walk_at "no key 9") => `(tactic| skip)
local macro_rules | `(tactic| walk_at "no key 10") => `(tactic| skip)
local macro_rules | `(tactic| walk_at "no key 11") => `(tactic| skip)
local macro_rules | `(tactic| walk_at "no key 12") => `(tactic| skip)
local macro_rules | `(tactic| walk_at "no key 13") => `(tactic| skip)
local macro_rules | `(tactic| walk_at "no key 14") => `(tactic| skip)
local macro_rules | `(tactic| walk_at "no key 15") => `(tactic| skip)
local macro_rules | `(tactic| walk_at "no key 16") => `(tactic| skip)
local macro_rules | `(tactic| walk_at "no key 17") => `(tactic| skip)
local macro_rules | `(tactic| walk_at "no key 18") => `(tactic| skip)
local macro_rules | `(tactic| walk_at "no key 19") => `(tactic| skip)
local macro_rules | `(tactic| walk_at "no key 20") => `(tactic| skip)
local macro_rules | `(tactic| walk_at "no key 21") => `(tactic| skip)
local macro_rules | `(tactic| walk_at "no key 22") => `(tactic| skip)
local macro_rules | `(tactic| walk_at "no key 23") => `(tactic| skip)
example : PySem.Challenge.rw_pg0182_01 = PySem.Challenge.rw_pg0182_01 ∧ hd.heap_39 = hd.heap_39 := by
  k_fill
  exact ⟨rfl, rfl⟩
local macro_rules | `(tactic| k_mem) => `(tactic| first | exact List.mem_cons_self | (refine List.mem_cons_of_mem _ ?_; k_mem))
local macro_rules | `(tactic| kst_mem) => `(tactic| first | assumption | (refine List.mem_cons_of_mem _ ?_; kst_mem) | (refine List.mem_append.mpr (.inl ?_); kst_mem) | (refine List.mem_append.mpr (.inr ?_); kst_mem))
local macro_rules | `(tactic| walk_at "TurnPost") => `(tactic| (dsimp only [TurnPost]))
local macro_rules | `(tactic| k_updF) => `(tactic| first | (refine UpdF.head ?_; assumption) | (refine' UpdF.tail ?a ?b; (case a => (refine neN ?_; (try dsimp only); omega)); (case b => k_updF)))
local macro_rules | `(tactic| walk_at "eval ListComp") => `(tactic| (refine Stop.mk ?_))
local macro_rules | `(tactic| walk_at "call builtin:sum") => `(tactic| (refine Stop.mk ?_))
local macro_rules | `(tactic| walk_at "call ref") => `(tactic| ((with_reducible show wpAny _ _ (call (Value.ref 52) _) _ _ _); (refine Stop.mk ?_)))
theorem moved2 (w : World) (mean : ExcName → Option Value) (mg mb : Str → Option Value) (news : List (Addr × Obj))
    (l : Addr) (vs : List Value) (nn : Nat) (rows : List Tri) (hl : (l, listOf vs.toArray nn) ∈ news) (hv : vs.length < 1000) (hr : RowsIn news vs rows) (hpos : ∀ r ∈ rows, 0 < r.1 ∧ r.1 < 1000) (am b c : Int) (ta tb tc : Tok) (ha : 0 < am) (ps₀ : Array Value) (hT : TabM ps₀ news) :
    DoesT w mean mg mb (.ref 147) [.ref l, .int am ta, .int b tb, .int c tc] 4 146 144 ps₀ news fun tl ps r => (tl = [] ∧ ps = ps₀) ∧ ∃ t, r = .int (movedSum am b c rows) t := by
  obtain ⟨c1, c2, o1, o2, v1, v2, q1, q2, hps, hc1, da1, da2, hc2, db1, db2⟩ := id hT
  subst hps
  unfold DoesT
  intro dp un gd cn csc a ccd cl outer A₀ base h₀ L m s Q E B F X N T C hP hk hdp hun hret
  refine wpAny_call ?_
  k_dflt (refine' code_defC ?k1 ?k2 ?k3 ?k4 ?k5 ?kA ?kF ?kK ?k6 ?k7 ?k8 ?k9 ?kB ?kD ?_ ?c2 ?c3 ?c4; (case kA => exact rfl); (case kF => exact rfl); (case kK => assumption); (case k1 => k_asm); (case k2 => k_asm); (case k3 => k_asm); (case k4 => k_asm); (case k5 => k_asm); (case k6 => k_is); (case k7 => k_is); (case k8 => ktr_room); (case k9 => exact BindsTo.of_eq rfl); (case kB => exact rfl); (case kD => decide +kernel); (case c2 => exact rfl); (case c3 => exact rfl); (case c4 => exact rfl); k_whole; intro g' L' h' tk' cells' FG' F' N' Y' B' X' T' l1; (try k_lt l1); k_cells Y'; (try simp only [List.cons_append, List.nil_append] at N'); (try dsimp only); (try k_lift B'); (try k_fold))
  k_with_none
  k_steps
  refine Stop.on ?_
  (rename News _ _ _ _ => N9)
  refine' Does.ask (split _ _ _ _ _ _ (mark (fun r => r.1.fmod am == b) vs rows) nn _ ?hl ?hv ?hf ?hp) ?k1 ?k2 ?k3 N9 ?k5 ?kK ?kd ?ku ?_
  case hl => (rw [hr.marked]; k_mem)
  case hv => (rw [hr.mark_length]; exact hv)
  case hf => exact ⟨_, _, _, _, by k_mem⟩
  case hp =>
    intro v b' hv news' hs
    obtain ⟨x, i, j, k, t1, t2, t3, rfl, rfl, hx⟩ := hr.mem_mark _ v b' hv
    refine Does.pred ?_
    refine' lam_rest w mean mg mb news' _ _ _ _ _ _ _ _ _ _ _ _ _ _ _ _ _ _ _ _ am b ta tb _ ?hf ?hc da1 da2 ?hM ?dM ?hR ?dR ?kM ?kR ha x i j k t1 t2 t3 ?hx
    case hx => exact hs _ (by kst_mem)
    case hf => exact hs _ (by exact List.mem_cons_self)
    case hc => exact hs _ (by kst_mem)
    case kM => exact rfl
    case kR => exact rfl
    case hM => exact hs _ (by k_mem)
    case hR => exact hs _ (by k_mem)
    case dM => (with_unfolding_all assumption)
    case dR => (with_unfolding_all assumption)
  case k1 => k_asm
  case k2 => k_asm
  case k3 => k_asm
  case k5 => k_asm
  case kK => first | exact rfl | assumption
  case kd => ktr_room
  case ku => ktr_units
  intro r tl h' tk' F' N' ho hO
  obtain ⟨T1, yA, nA, ky, kn, rfl, rfl⟩ := hO
  simp only [List.cons_append, List.nil_append] at N'
  have l3 := fun q hq => ho q hq _ (.head _)
  have l4 := fun q hq => ho q hq _ (.tail _ (.head _))
  have l5 := fun q hq => ho q hq _ (.tail _ (.tail _ (.head _)))
  dsimp only at l3 l4 l5
  k_lt l3
  k_lt l4
  k_lt l5
  clear ho N9
  k_steps
  refine Stop.on ?_
  (rename News _ _ _ _ => N9)
  have hr2 := RowsIn.no hr (fun r => r.1.fmod am == b)
  refine' Does.ask (split _ _ _ _ _ _ (mark (fun r => r.1.fmod am == c) (noOf (mark (fun r => r.1.fmod am == b) vs rows)) (rows.filter fun r => !(r.1.fmod am == b))) kn _ ?hl ?hv ?hf ?hp) ?k1 ?k2 ?k3 N9 ?k5 ?kK ?kd ?ku ?_
  case hl => (rw [hr2.marked]; k_mem)
  case hv => (rw [hr2.mark_length]; exact Nat.lt_of_le_of_lt (noOf_length _) (by rw [hr.mark_length]; exact hv))
  case hf => exact ⟨_, _, _, _, by k_mem⟩
  case hp =>
    intro v b' hv news' hs
    obtain ⟨x, i, j, k, t1, t2, t3, rfl, rfl, hx⟩ := hr2.mem_mark _ v b' hv
    refine Does.pred ?_
    refine' lam_other w mean mg mb news' _ _ _ _ _ _ _ _ _ _ _ _ _ _ _ _ _ _ _ _ am c ta tc _ ?hf ?hc db1 db2 ?hM ?dM ?hR ?dR ?kM ?kR ha x i j k t1 t2 t3 ?hx
    case hx => exact hs _ (by kst_mem)
    case hf => exact hs _ (by exact List.mem_cons_self)
    case hc => exact hs _ (by kst_mem)
    case kM => exact rfl
    case kR => exact rfl
    case hM => exact hs _ (by k_mem)
    case hR => exact hs _ (by k_mem)
    case dM => (with_unfolding_all assumption)
    case dR => (with_unfolding_all assumption)
  case k1 => k_asm
  case k2 => k_asm
  case k3 => k_asm
  case k5 => k_asm
  case kK => first | exact rfl | assumption
  case kd => ktr_room
  case ku => ktr_units
  intro r tl h' tk' F' N' ho hO
  obtain ⟨T2, yB, nB, kyB, knB, rfl, rfl⟩ := hO
  simp only [List.cons_append, List.nil_append] at N'
  have l6 := fun q hq => ho q hq _ (.head _)
  have l7 := fun q hq => ho q hq _ (.tail _ (.head _))
  have l8 := fun q hq => ho q hq _ (.tail _ (.tail _ (.head _)))
  dsimp only at l6 l7 l8
  k_lt l6
  k_lt l7
  k_lt l8
  clear ho N9
  k_steps
  refine Stop.on ?_
  (rename Fr _ _ _ _ => F9)
  refine' comp3 F9 ?c1 ?c2 ?c3 ?c4 ?c5 ?c6 ?c7 ?c8 ?c9 ?c10 ?_
  case c1 => with_unfolding_all rfl
  case c2 => decide
  case c3 => rfl
  case c4 => decide
  case c5 => rfl
  case c6 => rfl
  case c7 => rfl
  case c8 => decide
  case c9 => decide
  case c10 => decide
  walk1
  (rename News _ _ _ _ => N9)
  have hrY := RowsIn.yes hr (fun r => r.1.fmod am == b)
  have hlY : (yesOf (mark (fun r => r.1.fmod am == b) vs rows)).length ≤ 1000 := Nat.le_of_lt (Nat.lt_of_le_of_lt (yesOf_length _) (by rw [hr.mark_length]; exact hv))
  refine' ⟨yA, _, _, _, (fun i y => ∃ (r : Tri) (t : Tok), (rows.filter fun r => r.1.fmod am == b)[i]? = some r ∧ y = Value.int ((r.2.1 - r.2.2).fdiv r.1) t), rfl, rfl, F9, N9, ?mem, ?size, ?turn, ?fin⟩
  case mem => k_mem
  case size => (rw [List.size_toArray]; exact Nat.le_trans hlY (by decide))
  case turn =>
    intro i v hv
    obtain ⟨ra, rx, ry, rz, t1, t2, t3, rfl, hr', hm⟩ := hrY.at i v (by simpa using hv)
    obtain ⟨hx, hx'⟩ : 0 < rx ∧ rx < 1000 := hpos _ (List.mem_filter.mp (List.mem_of_getElem? hr')).1
    refine ⟨ra, _, _, _, rfl, by kst_mem, ?_⟩
    intro I oI C oC D ys m₂ h tk E' hoC e1 e2 e3 F N
    clear F9 N9
    k_steps
    all_goals (with_unfolding_all assumption)
  case fin =>
    intro D ys h tk hlen hok F N l9
    k_lt l9
    clear F9 N9
    have hI : IntsAre ys ((rows.filter fun r => r.1.fmod am == b).map fun r => (r.2.1 - r.2.2).fdiv r.1) := by
      refine intsAre_of ?_ ?_
      · rw [hlen, List.size_toArray, hrY.length, List.length_map]
      · intro i y hy
        obtain ⟨r, t, h1, h2⟩ := hok i y hy
        exact ⟨_, t, by rw [List.getElem?_map, h1]; rfl, h2⟩
    k_steps
    refine Stop.on ?_
    (rename Fr _ _ _ _ => F9)
    (rename News _ _ _ _ => N9)
    refine sumL rfl F9 N9 (by k_mem) hI ?_
    clear F9 N9
    intro h' tk' t' F' N'
    k_steps
    refine Stop.on ?_
    (rename Fr _ _ _ _ => F9)
    refine' comp3 F9 ?c1 ?c2 ?c3 ?c4 ?c5 ?c6 ?c7 ?c8 ?c9 ?c10 ?_
    case c1 => with_unfolding_all rfl
    case c2 => decide
    case c3 => rfl
    case c4 => decide
    case c5 => rfl
    case c6 => rfl
    case c7 => rfl
    case c8 => decide
    case c9 => decide
    case c10 => decide
    walk1
    (rename News _ _ _ _ => N9)
    have hrY2 := RowsIn.yes hr2 (fun r => r.1.fmod am == c)
    have hlY2 : (yesOf (mark (fun r => r.1.fmod am == c) (noOf (mark (fun r => r.1.fmod am == b) vs rows)) (rows.filter fun r => !(r.1.fmod am == b)))).length ≤ 1000 := Nat.le_of_lt (Nat.lt_of_le_of_lt (yesOf_length _) (by rw [hr2.mark_length]; exact Nat.lt_of_le_of_lt (noOf_length _) (by rw [hr.mark_length]; exact hv)))
    refine' ⟨yB, _, _, _, (fun i y => ∃ (r : Tri) (t : Tok), ((rows.filter fun r => !(r.1.fmod am == b)).filter fun r => r.1.fmod am == c)[i]? = some r ∧ y = Value.int ((r.2.1 - r.2.2).fdiv r.1) t), rfl, rfl, F9, N9, ?mem, ?size, ?turn, ?fin⟩
    case mem => k_mem
    case size => (rw [List.size_toArray]; exact Nat.le_trans hlY2 (by decide))
    case turn =>
      intro i v hv
      obtain ⟨ra, rx, ry, rz, t1, t2, t3, rfl, hr', hm⟩ := hrY2.at i v (by simpa using hv)
      obtain ⟨hx, hx'⟩ : 0 < rx ∧ rx < 1000 := hpos _ (List.mem_filter.mp (List.mem_filter.mp (List.mem_of_getElem? hr')).1).1
      refine ⟨ra, _, _, _, rfl, by kst_mem, ?_⟩
      intro I oI C oC D ys m₂ h tk E' hoC e1 e2 e3 F N
      clear F9 N9
      k_steps
      all_goals (with_unfolding_all assumption)
    case fin =>
      intro D2 ys2 h tk hlen hok F N l9
      k_lt l9
      clear F9 N9
      have hI2 : IntsAre ys2 (((rows.filter fun r => !(r.1.fmod am == b)).filter fun r => r.1.fmod am == c).map fun r => (r.2.1 - r.2.2).fdiv r.1) := by
        refine intsAre_of ?_ ?_
        · rw [hlen, List.size_toArray, hrY2.length, List.length_map]
        · intro i y hy
          obtain ⟨r, t, h1, h2⟩ := hok i y hy
          exact ⟨_, t, by rw [List.getElem?_map, h1]; rfl, h2⟩
      k_steps
      refine Stop.on ?_
      (rename Fr _ _ _ _ => F9)
      (rename News _ _ _ _ => N9)
      refine sumL rfl F9 N9 (by k_mem) hI2 ?_
      clear F9 N9
      intro h' tk' t' F' N'
      k_steps
      (rename News h₀ _ _ _ => N9)
      (rename Fr h₀ _ _ _ => F9)
      refine hret _ [] _ _ _ F9 (fun p hp => N9 p (by kst_mem)) (fun _ _ _ h9 => nomatch h9) ⟨⟨rfl, rfl⟩, tk', rfl⟩
theorem DoesT.weak {w : World} {mean : ExcName → Option Value} {mg mb : Str → Option Value} {f : Value} {vs : List Value} {need : Nat} {c P : Addr} {ps : Array Value} {news : List (Addr × Obj)} {Out Out' : List (Addr × Obj) → Array Value → Value → Prop} (D : DoesT w mean mg mb f vs need c P ps news Out) (h : ∀ tl ps' r, Out tl ps' r → Out' tl ps' r) : DoesT w mean mg mb f vs need c P ps news Out' := by
  unfold DoesT at D ⊢
  intro dp un gd cn csc a ccd cl outer A₀ base h₀ L m s Q E B F X N T C hP hk hdp hun hret
  exact D dp un gd cn csc a ccd cl outer A₀ base h₀ L m s Q E B F X N T C hP hk hdp hun fun r tl ps' h' tk' F' N' ho hO => hret r tl ps' h' tk' F' N' ho (h tl ps' r hO)
theorem moved (w : World) (mean : ExcName → Option Value) (mg mb : Str → Option Value) (news : List (Addr × Obj))
    (l : Addr) (vs : List Value) (nn : Nat) (rows : List Tri) (hl : (l, listOf vs.toArray nn) ∈ news) (hv : vs.length < 1000) (hr : RowsIn news vs rows) (hpos : ∀ r ∈ rows, 0 < r.1 ∧ r.1 < 1000) (am b c : Int) (ta tb tc : Tok) (ha : 0 < am) (ps₀ : Array Value) (hT : ps₀ = #[] ∨ TabM ps₀ news) :
    DoesT w mean mg mb (.ref 147) [.ref l, .int am ta, .int b tb, .int c tc] 4 146 144 ps₀ news fun tl ps r => (TabM ps tl ∨ tl = [] ∧ ps = ps₀) ∧ ∃ t, r = .int (movedSum am b c rows) t := by
  rcases hT with rfl | hT
  · exact (moved1 w mean mg mb news l vs nn rows hl hv hr hpos am b c ta tb tc ha).weak fun _ _ _ h => ⟨.inl h.1, h.2⟩
  · exact (moved2 w mean mg mb news l vs nn rows hl hv hr hpos am b c ta tb tc ha ps₀ hT).weak fun _ _ _ h => ⟨.inr h.1, h.2⟩
end Mine
end PartMv2

section PartGp
open PySem PySem.W PySem.Spec PySem.Calls PyProof.Rows
set_option maxRecDepth 100000
namespace Mine
/-- what a row of b dots does to the counts -/
def Cnt.row (c : Cnt) (b : Nat) : Cnt := ⟨c.n + b + 1, 0, c.nt + 1, bump c.cs (b : Int)⟩
theorem fold_blanks (b : Nat) : ∀ c : Cnt, (List.replicate b 32).foldl Cnt.step c = ⟨c.n + b, c.b + b, c.nt, c.cs⟩ := by
  induction b with
  | zero => intro c; simp
  | succ b ih =>
    intro c
    rw [List.replicate_succ, List.foldl_cons, ih]
    show Cnt.mk (c.n + 1 + b) (c.b + 1 + b) c.nt c.cs = _
    congr 1 <;> omega
theorem fold_row (c : Cnt) (b : Nat) (h : c.b = 0) : (List.replicate b 32 ++ [9]).foldl Cnt.step c = c.row b := by
  rw [List.foldl_append, fold_blanks]
  show Cnt.mk (c.n + b + 1) 0 (c.nt + 1) (bump c.cs (c.b + b)) = _
  rw [h, Int.zero_add]
  rfl
theorem fold_rows (bs : List Nat) : ∀ c : Cnt, c.b = 0 → (lead bs).foldl Cnt.step c = bs.foldl Cnt.row c := by
  induction bs with
  | nil => intro c _; rfl
  | cons b bs ih =>
    intro c h
    have e : lead (b :: bs) = (List.replicate b 32 ++ [9]) ++ lead bs := by simp [lead, rowsOf]
    rw [e, List.foldl_append, fold_row c b h, ih _ rfl]
    rfl
theorem after_rows (bs : List Nat) : Cnt.after (lead bs) = bs.foldl Cnt.row .zero := fold_rows bs _ rfl

theorem getD_grown (cs : List Int) (b : Int) (i : Nat) : (grown cs b).getD i 0 = cs.getD i 0 := by
  unfold grown
  split
  · rfl
  · simp only [List.getD_eq_getElem?_getD, List.getElem?_append, List.getElem?_replicate]
    split
    · rfl
    · next h =>
      rw [List.getElem?_eq_none (Nat.not_lt.mp h)]
      split <;> rfl
theorem grown_len (cs : List Int) (b : Nat) : (grown cs (b : Int)).length = max cs.length (b + 1) := by
  unfold grown
  split
  · omega
  · rw [List.length_append, List.length_replicate]; omega
theorem bump_len (cs : List Int) (b : Nat) : (bump cs (b : Int)).length = max cs.length (b + 1) := by
  unfold bump
  rw [List.length_set, grown_len]
theorem getD_bump (cs : List Int) (b i : Nat) : (bump cs (b : Int)).getD i 0 = cs.getD i 0 + if i = b then 1 else 0 := by
  unfold bump
  have e : (b : Int).toNat = b := by omega
  rw [e, getD_grown]
  rw [List.getD_eq_getElem?_getD, List.getElem?_set]
  by_cases h : b = i
  · subst h
    have hl : b < (grown cs (b : Int)).length := by rw [grown_len]; omega
    simp [hl]
  · rw [if_neg h, if_neg (Ne.symm h), Int.add_zero, ← List.getD_eq_getElem?_getD, getD_grown]

def Gs (ts : Int) (cs : List Int) (k : Nat) : Int := ((List.range k).map fun (i : Nat) => ((i : Int).fdiv ts) * cs.getD i 0).sum
theorem Gs_succ (ts : Int) (cs : List Int) (k : Nat) : Gs ts cs (k + 1) = Gs ts cs k + ((k : Int).fdiv ts) * cs.getD k 0 := by
  unfold Gs
  rw [List.range_succ, List.map_append, List.sum_append]
  simp
theorem Gs_more (ts : Int) (cs : List Int) (r : Nat) : Gs ts cs (cs.length + r) = Gs ts cs cs.length := by
  induction r with
  | zero => rfl
  | succ r ih =>
    rw [← Nat.add_assoc, Gs_succ, ih]
    have : cs.getD (cs.length + r) 0 = 0 := by
      rw [List.getD_eq_getElem?_getD, List.getElem?_eq_none (by omega)]; rfl
    rw [this, Int.mul_zero, Int.add_zero]
theorem Gs_bump (ts : Int) (cs : List Int) (b k : Nat) : Gs ts (bump cs (b : Int)) k = Gs ts cs k + if b < k then (b : Int).fdiv ts else 0 := by
  induction k with
  | zero => rfl
  | succ k ih =>
    rw [Gs_succ, Gs_succ, ih, getD_bump]
    by_cases h : k = b
    · subst h
      rw [if_neg (Nat.lt_irrefl _), if_pos (Nat.lt_succ_self _), if_pos rfl, Int.mul_add, Int.mul_one]
      omega
    · rw [if_neg h, Int.add_zero]
      by_cases h1 : b < k
      · rw [if_pos h1, if_pos (by omega)]; omega
      · rw [if_neg h1, if_neg (by omega)]; omega
def divs (ts : Int) (bs : List Nat) : Int := (bs.map fun (b : Nat) => (b : Int).fdiv ts).sum
theorem rows_snoc (bs : List Nat) (b : Nat) (c : Cnt) : (bs ++ [b]).foldl Cnt.row c = (bs.foldl Cnt.row c).row b := by rw [List.foldl_append]; rfl
/-- the greatest and one more; naught for no row -/
def top (bs : List Nat) : Nat := bs.foldl (fun m b => max m (b + 1)) 0
theorem top_snoc (bs : List Nat) (b : Nat) : top (bs ++ [b]) = max (top bs) (b + 1) := by unfold top; rw [List.foldl_append]; rfl
theorem rows_facts (ts : Int) (bs : List Nat) : (bs.foldl Cnt.row .zero).b = 0 ∧ (bs.foldl Cnt.row .zero).nt = bs.length ∧ (bs.foldl Cnt.row .zero).cs.length = top bs ∧ ∀ k, top bs ≤ k → Gs ts (bs.foldl Cnt.row .zero).cs k = divs ts bs := by
  refine snoc_rec (P := fun bs => (bs.foldl Cnt.row .zero).b = 0 ∧ (bs.foldl Cnt.row .zero).nt = bs.length ∧ (bs.foldl Cnt.row .zero).cs.length = top bs ∧ ∀ k, top bs ≤ k → Gs ts (bs.foldl Cnt.row .zero).cs k = divs ts bs) ?_ ?_ bs
  · refine ⟨rfl, rfl, rfl, fun k _ => ?_⟩
    show Gs ts [] k = 0
    have := Gs_more ts [] k
    rw [List.length_nil, Nat.zero_add] at this
    rw [this]; rfl
  · intro bs b ⟨h1, h2, h3, h4⟩
    rw [rows_snoc]
    refine ⟨rfl, ?_, ?_, ?_⟩
    · show (bs.foldl Cnt.row .zero).nt + 1 = _
      rw [h2, List.length_append, List.length_singleton]; omega
    · show (bump (bs.foldl Cnt.row .zero).cs (b : Int)).length = _
      rw [bump_len, h3, top_snoc]
    · intro k hk
      rw [top_snoc] at hk
      show Gs ts (bump (bs.foldl Cnt.row .zero).cs (b : Int)) k = _
      rw [Gs_bump, h4 k (by omega), if_pos (by omega)]
      simp [divs]
theorem ilSum_Gs (t : Nat) (cs : List Int) : ilSum (t : Int) cs (rangeKs (t : Int) ((cs.length : Int) - (t : Int)).toNat) = Gs (t : Int) cs cs.length := by
  have low : ∀ r, r ≤ t → Gs (t : Int) cs r = 0 := by
    intro r
    induction r with
    | zero => intro _; rfl
    | succ r ih =>
      intro h
      have e : ((r : Int)).fdiv (t : Int) = 0 := by
        rw [Int.fdiv_eq_ediv_of_nonneg _ (by omega)]
        exact Int.ediv_eq_zero_of_lt (by omega) (by omega)
      rw [Gs_succ, ih (by omega), e]; omega
  have key : ∀ r, ilSum (t : Int) cs (rangeKs (t : Int) r) = Gs (t : Int) cs (t + r) := by
    intro r
    induction r with
    | zero => rw [Nat.add_zero, low t (Nat.le_refl _)]; rfl
    | succ r ih =>
      have e : rangeKs (t : Int) (r + 1) = rangeKs (t : Int) r ++ [(t : Int) + (r : Int)] := by simp [rangeKs, List.range_succ]
      rw [e, ilSum_snoc, ih, ← Nat.add_assoc, Gs_succ]
      have e2 : ((t : Int) + (r : Int)).toNat = t + r := by omega
      rw [e2]
      push_cast
      rfl
  by_cases h : cs.length ≤ t
  · have e : ((cs.length : Int) - (t : Int)).toNat = 0 := by omega
    rw [e, low _ h]; rfl
  · rw [key]
    congr 1
    omega
theorem lev_rows (bs : List Nat) (t : Nat) : lev (Cnt.after (lead bs)) (t : Int) = (t : Int) * (divs (t : Int) bs + bs.length) := by
  rw [after_rows]
  obtain ⟨h1, h2, h3, h4⟩ := rows_facts (t : Int) bs
  unfold lev
  rw [h1, h2, ilSum_Gs, h3, h4 _ (Nat.le_refl _), Int.zero_add]
theorem long_rows (bs : List Nat) (h : 0 < top bs) : longOf (Cnt.after (lead bs)) = (top bs : Int) - 1 := by
  rw [after_rows]
  obtain ⟨h1, h2, h3, h4⟩ := rows_facts 1 bs
  unfold longOf
  rw [h1, h3]
  split <;> omega
end Mine
end PartGp

section PartGj
open PySem PySem.W PySem.Spec PySem.Calls PyProof.Rows
set_option maxRecDepth 100000
namespace Mine
/-- quotedata puts one more dot where there is one -/
def bmp (bs : List Nat) : List Nat := bs.map fun b => if b = 0 then 0 else b + 1
def dotsOf (bs : List Nat) : List Nat := bs.filter fun b => b ≠ 0
def hit (n t : Nat) : Int := if n % t = 0 then 1 else 0
def cnt (ns : List Nat) (t : Nat) : Int := (ns.map fun n => hit n t).sum
theorem bmp_length (bs : List Nat) : (bmp bs).length = bs.length := by simp [bmp]
theorem dots_bmp (bs : List Nat) : dotsOf (bmp bs) = (dotsOf bs).map (· + 1) := by
  induction bs with
  | nil => rfl
  | cons b bs ih =>
    by_cases h : b = 0
    · subst h
      simpa [bmp, dotsOf] using ih
    · have h1 : dotsOf (b :: bs) = b :: dotsOf bs := by simp [dotsOf, h]
      have h2 : bmp (b :: bs) = (b + 1) :: bmp bs := by simp [bmp, h]
      have h3 : dotsOf ((b + 1) :: bmp bs) = (b + 1) :: dotsOf (bmp bs) := by simp [dotsOf]
      rw [h1, h2, h3, ih]; rfl
theorem fdiv_succ (b t : Nat) (ht : 0 < t) : ((b + 1 : Nat) : Int).fdiv (t : Int) = (b : Int).fdiv (t : Int) + hit (b + 1) t := by
  rw [Int.fdiv_eq_ediv_of_nonneg _ (by omega), Int.fdiv_eq_ediv_of_nonneg _ (by omega), ← Int.natCast_ediv, ← Int.natCast_ediv, Nat.succ_div]
  unfold hit
  by_cases h : t ∣ b + 1
  · rw [if_pos h, if_pos (Nat.mod_eq_zero_of_dvd h)]; push_cast; rfl
  · rw [if_neg h, if_neg (fun e => h (Nat.dvd_of_mod_eq_zero e))]; push_cast; omega
theorem divs_bmp (bs : List Nat) (t : Nat) (ht : 0 < t) : divs (t : Int) (bmp bs) = divs (t : Int) bs + cnt (dotsOf (bmp bs)) t := by
  induction bs with
  | nil => rfl
  | cons b bs ih =>
    by_cases h : b = 0
    · subst h
      have h2 : bmp (0 :: bs) = 0 :: bmp bs := rfl
      have h3 : dotsOf (0 :: bmp bs) = dotsOf (bmp bs) := rfl
      rw [h2, h3]
      simp only [divs, List.map_cons, List.sum_cons] at ih ⊢
      omega
    · have h2 : bmp (b :: bs) = (b + 1) :: bmp bs := by simp [bmp, h]
      have h3 : dotsOf ((b + 1) :: bmp bs) = (b + 1) :: dotsOf (bmp bs) := by simp [dotsOf]
      rw [h2, h3]
      have h4 := fdiv_succ b t ht
      simp only [divs, cnt, List.map_cons, List.sum_cons] at ih ⊢
      omega
abbrev cntOf (bs : List Nat) : Cnt := Cnt.after (lead bs)
theorem lev_bmp (bs : List Nat) (t : Nat) (ht : 0 < t) : lev (cntOf (bmp bs)) (t : Int) = lev (cntOf bs) (t : Int) + (t : Int) * cnt (dotsOf (bmp bs)) t := by
  rw [lev_rows, lev_rows, divs_bmp bs t ht, bmp_length, ← Int.mul_add]
  congr 1
  omega
theorem le_top (bs : List Nat) : ∀ b ∈ bs, b + 1 ≤ top bs := by
  refine snoc_rec (P := fun bs => ∀ b ∈ bs, b + 1 ≤ top bs) ?_ ?_ bs
  · intro b hb; cases hb
  · intro bs c ih b hb
    rw [top_snoc]
    rcases List.mem_append.mp hb with h | h
    · have := ih b h; omega
    · rw [List.mem_singleton.mp h]; omega
theorem top_le (bs : List Nat) (m : Nat) (h : ∀ b ∈ bs, b + 1 ≤ m) : top bs ≤ m := by
  revert h
  refine snoc_rec (P := fun bs => (∀ b ∈ bs, b + 1 ≤ m) → top bs ≤ m) ?_ ?_ bs
  · intro _; exact Nat.zero_le _
  · intro bs c ih h
    rw [top_snoc]
    have h1 := ih fun b hb => h b (List.mem_append.mpr (.inl hb))
    have h2 := h c (List.mem_append.mpr (.inr (.head _)))
    omega
theorem top_bmp (bs : List Nat) : top bs ≤ top (bmp bs) := by
  refine top_le _ _ fun b hb => ?_
  have h : (if b = 0 then 0 else b + 1) ∈ bmp bs := List.mem_map.mpr ⟨b, hb, rfl⟩
  have := le_top _ _ h
  split at this <;> omega
theorem sizes_ab (bs : List Nat) (h : 0 < top bs) : sizesOf (cntOf (bmp bs)) (cntOf bs) = (top (bmp bs) : Int) := by
  have := top_bmp bs
  unfold sizesOf
  rw [long_rows _ h, long_rows _ (by omega)]
  split <;> omega
theorem sizes_ba (bs : List Nat) (h : 0 < top bs) : sizesOf (cntOf bs) (cntOf (bmp bs)) = (top (bmp bs) : Int) := by
  have := top_bmp bs
  unfold sizesOf
  rw [long_rows _ h, long_rows _ (by omega)]
  split <;> omega

section
variable (bs : List Nat)
/-- the rows moved -/
def rowsOfTurn (K : Nat) : List Tri := witUp (cntOf (bmp bs)) (cntOf bs) K
theorem lev_at (j : Nat) : lev (cntOf (bmp bs)) (1 + (j : Int)) = lev (cntOf bs) (1 + (j : Int)) + (1 + (j : Int)) * cnt (dotsOf (bmp bs)) (1 + j) := by
  have := lev_bmp bs (1 + j) (by omega)
  push_cast at this
  exact this
theorem sum_rows (p : Int → Bool) (F : Tri → Int) (g : Nat → Int) (hF : ∀ j : Nat, F (1 + (j : Int), lev (cntOf (bmp bs)) (1 + (j : Int)), lev (cntOf bs) (1 + (j : Int))) = g (1 + j) * cnt (dotsOf (bmp bs)) (1 + j)) (K : Nat) :
    (((rowsOfTurn bs K).filter fun r => p r.1).map F).sum = ((List.range K).map fun (j : Nat) => if p (1 + (j : Int)) then g (1 + j) * cnt (dotsOf (bmp bs)) (1 + j) else 0).sum := by
  induction K with
  | zero => rfl
  | succ K ih =>
    unfold rowsOfTurn at ih ⊢
    rw [witUp_succ, List.filter_append, List.map_append, List.sum_append, ih, List.range_succ, List.map_append, List.sum_append]
    congr 1
    rw [List.map_singleton, List.sum_singleton]
    by_cases h : lev (cntOf (bmp bs)) (1 + (K : Int)) = lev (cntOf bs) (1 + (K : Int))
    · rw [if_neg (by simpa using h)]
      have h1 := lev_at bs K
      rw [h] at h1
      have h2 : cnt (dotsOf (bmp bs)) (1 + K) = 0 := by
        have h3 : (1 + (K : Int)) * cnt (dotsOf (bmp bs)) (1 + K) = 0 := by omega
        rcases Int.mul_eq_zero.mp h3 with h4 | h4
        · omega
        · exact h4
      rw [h2]
      simp
    · rw [if_pos h]
      by_cases hp : p (1 + (K : Int)) = true
      · rw [List.filter_cons_of_pos (by simpa using hp), List.filter_nil, List.map_singleton, List.sum_singleton, hF, if_pos hp]
      · rw [List.filter_cons_of_neg (by simpa using hp), List.filter_nil, if_neg hp]; rfl
end
theorem sum_zero {α : Type} (l : List α) : (l.map fun _ => (0 : Int)).sum = 0 := by
  induction l with
  | nil => rfl
  | cons a l ih => rw [List.map_cons, List.sum_cons, ih]; rfl
theorem sum_add {α : Type} (f g : α → Int) (l : List α) : (l.map fun a => f a + g a).sum = (l.map f).sum + (l.map g).sum := by
  induction l with
  | nil => rfl
  | cons a l ih => simp only [List.map_cons, List.sum_cons, ih]; omega
/-- what a row of n dots gives -/
def give (p : Int → Bool) (g : Nat → Int) (K n : Nat) : Int := ((List.range K).map fun (j : Nat) => if p (1 + (j : Int)) then g (1 + j) * hit n (1 + j) else 0).sum
theorem swap (p : Int → Bool) (g : Nat → Int) (K : Nat) (ns : List Nat) :
    ((List.range K).map fun (j : Nat) => if p (1 + (j : Int)) then g (1 + j) * cnt ns (1 + j) else 0).sum = (ns.map (give p g K)).sum := by
  induction ns with
  | nil =>
    have e : (fun (j : Nat) => if p (1 + (j : Int)) then g (1 + j) * cnt [] (1 + j) else 0) = fun _ => (0 : Int) := by
      funext j
      have : cnt [] (1 + j) = 0 := rfl
      rw [this, Int.mul_zero, ite_self]
    rw [e, sum_zero]; rfl
  | cons n ns ih =>
    rw [List.map_cons, List.sum_cons, ← ih]
    unfold give
    rw [← sum_add]
    congr 2
    funext j
    have e : cnt (n :: ns) (1 + j) = hit n (1 + j) + cnt ns (1 + j) := by simp [cnt]
    rw [e, Int.mul_add]
    split <;> omega
theorem map_congr {ns : List Nat} {f g : Nat → Int} (h : ∀ n ∈ ns, f n = g n) : (ns.map f).sum = (ns.map g).sum := by
  rw [List.map_congr_left h]
end Mine
end PartGj

section PartGk
open PySem PySem.W PySem.Spec PySem.Calls PyProof.Rows
set_option maxRecDepth 100000
set_option maxHeartbeats 2000000
namespace Mine
def circ : List Int := [1, 4, 4, 0, 4, 8, 0, 0, 4, 4]
def hexa : List Int := [1, 6, 0, 6, 6, 0, 0, 12, 0, 6]
theorem sum_two (k : Int) (f g h : Nat → Int) (ns : List Nat) (e : ∀ n ∈ ns, k * (f n - g n) = h n) : k * ((ns.map f).sum - (ns.map g).sum) = (ns.map h).sum := by
  induction ns with
  | nil => simp
  | cons n ns ih =>
    simp only [List.map_cons, List.sum_cons]
    rw [← e n (.head _), ← ih fun m hm => e m (.tail _ hm), ← Int.mul_add]
    congr 1
    omega
theorem sum_one (k : Int) (f h : Nat → Int) (ns : List Nat) (e : ∀ n ∈ ns, k * f n = h n) : k * (ns.map f).sum = (ns.map h).sum := by
  induction ns with
  | nil => simp
  | cons n ns ih =>
    simp only [List.map_cons, List.sum_cons]
    rw [← e n (.head _), ← ih fun m hm => e m (.tail _ hm), ← Int.mul_add]
section
variable (bs : List Nat) (K : Nat)
theorem quot_at (j : Nat) : (fun r : Tri => (r.2.1 - r.2.2).fdiv r.1) (1 + (j : Int), lev (cntOf (bmp bs)) (1 + (j : Int)), lev (cntOf bs) (1 + (j : Int))) = (fun _ => 1) (1 + j) * cnt (dotsOf (bmp bs)) (1 + j) := by
  dsimp only
  rw [lev_at, Int.one_mul]
  have e : lev (cntOf bs) (1 + (j : Int)) + (1 + (j : Int)) * cnt (dotsOf (bmp bs)) (1 + j) - lev (cntOf bs) (1 + (j : Int)) = (1 + (j : Int)) * cnt (dotsOf (bmp bs)) (1 + j) := by omega
  rw [e]
  exact Int.mul_fdiv_cancel_left _ (by omega)
theorem total (p : Int → Bool) (F : Tri → Int) (g : Nat → Int) (hF : ∀ j : Nat, F (1 + (j : Int), lev (cntOf (bmp bs)) (1 + (j : Int)), lev (cntOf bs) (1 + (j : Int))) = g (1 + j) * cnt (dotsOf (bmp bs)) (1 + j)) :
    (((rowsOfTurn bs K).filter fun r => p r.1).map F).sum = ((dotsOf (bmp bs)).map (give p g K)).sum := (sum_rows bs p F g hF K).trans (swap p g K _)
theorem moved_sum (am b c : Int) : movedSum am b c (rowsOfTurn bs K) = ((dotsOf (bmp bs)).map (give (fun t => t.fmod am == b) (fun _ => 1) K)).sum - ((dotsOf (bmp bs)).map (give (fun t => (t.fmod am == c) && !(t.fmod am == b)) (fun _ => 1) K)).sum := by
  unfold movedSum
  rw [List.filter_filter]
  rw [total bs K (fun t => t.fmod am == b) _ (fun _ => 1) (quot_at bs), total bs K (fun t => (t.fmod am == c) && !(t.fmod am == b)) _ (fun _ => 1) (quot_at bs)]
end
def Small (ns : List Nat) (K : Nat) : Prop := ∀ n ∈ ns, 2 ≤ n ∧ n < K
theorem gauss_one : ∀ K < 11, ∀ n < 10, 2 ≤ n → n < K → 4 * (give (fun t => t.fmod 4 == 1) (fun _ => 1) K n - give (fun t => (t.fmod 4 == 3) && !(t.fmod 4 == 1)) (fun _ => 1) K n) = circ.getD n 0 := by decide
theorem hexa_one : ∀ K < 11, ∀ n < 10, 2 ≤ n → n < K → 6 * (give (fun t => t.fmod 3 == 1) (fun _ => 1) K n - give (fun t => (t.fmod 3 == 2) && !(t.fmod 3 == 1)) (fun _ => 1) K n) = hexa.getD n 0 := by decide
theorem jacobi_one : ∀ K < 11, ∀ n < 10, 2 ≤ n → n < K → 8 * give (fun t => !(t.fmod 4 == 0)) (fun t => (t : Int)) K n = ((List.range (n + 1)).map fun k => circ.getD k 0 * circ.getD (n - k) 0).sum := by decide
theorem gauss (bs : List Nat) (K : Nat) (hK : K < 11) (hs : Small (dotsOf (bmp bs)) K) : 4 * movedSum 4 1 3 (rowsOfTurn bs K) = ((dotsOf (bmp bs)).map fun n => circ.getD n 0).sum := by
  rw [moved_sum]
  exact sum_two _ _ _ _ _ fun n hn => gauss_one K hK n (by have := hs n hn; omega) (hs n hn).1 (hs n hn).2
theorem hexagonal (bs : List Nat) (K : Nat) (hK : K < 11) (hs : Small (dotsOf (bmp bs)) K) : 6 * movedSum 3 1 2 (rowsOfTurn bs K) = ((dotsOf (bmp bs)).map fun n => hexa.getD n 0).sum := by
  rw [moved_sum]
  exact sum_two _ _ _ _ _ fun n hn => hexa_one K hK n (by have := hs n hn; omega) (hs n hn).1 (hs n hn).2
theorem jacobi (bs : List Nat) (K : Nat) (hK : K < 11) (hs : Small (dotsOf (bmp bs)) K) :
    8 * (((rowsOfTurn bs K).filter fun r => !(r.1.fmod 4 == 0)).map fun r => r.2.1 - r.2.2).sum = ((dotsOf (bmp bs)).map fun n => ((List.range (n + 1)).map fun k => circ.getD k 0 * circ.getD (n - k) 0).sum).sum := by
  rw [total bs K (fun t => !(t.fmod 4 == 0)) _ (fun t => (t : Int)) ?_]
  · exact sum_one _ _ _ _ fun n hn => jacobi_one K hK n (by have := hs n hn; omega) (hs n hn).1 (hs n hn).2
  · intro j
    dsimp only
    rw [lev_at]
    push_cast
    omega
theorem hit_nonneg (n t : Nat) : 0 ≤ hit n t := by unfold hit; split <;> decide
theorem cnt_nonneg (ns : List Nat) (t : Nat) : 0 ≤ cnt ns t := by
  induction ns with
  | nil => exact Int.le_refl _
  | cons n ns ih =>
    have e : cnt (n :: ns) t = hit n t + cnt ns t := by simp [cnt]
    rw [e]
    exact Int.add_nonneg (hit_nonneg n t) ih
theorem cnt_pos {ns : List Nat} {t : Nat} : cnt ns t ≠ 0 ↔ ∃ n ∈ ns, n % t = 0 := by
  induction ns with
  | nil => simp [cnt]
  | cons n ns ih =>
    have e : cnt (n :: ns) t = hit n t + cnt ns t := by simp [cnt]
    have h1 : 0 ≤ cnt ns t := cnt_nonneg ns t
    rw [e]
    constructor
    · intro h
      by_cases hn : n % t = 0
      · exact ⟨n, .head _, hn⟩
      · have h2 : hit n t = 0 := if_neg hn
        obtain ⟨m, hm, e2⟩ := ih.mp (by omega)
        exact ⟨m, .tail _ hm, e2⟩
    · rintro ⟨m, hm, e2⟩
      rcases List.mem_cons.mp hm with rfl | hm
      · have h2 : hit m t = 1 := if_pos e2
        omega
      · have h2 := ih.mpr ⟨m, hm, e2⟩
        have h3 : 0 ≤ hit n t := hit_nonneg n t
        omega
theorem cnt_top {ns : List Nat} {K t : Nat} (hs : Small ns K) (h : K ≤ t) : cnt ns t = 0 := by
  refine Decidable.byContradiction fun hn => ?_
  obtain ⟨n, hn, e⟩ := cnt_pos.mp hn
  have := hs n hn
  rw [Nat.mod_eq_of_lt (by omega)] at e
  omega
/-- the sizes at which the lead moved -/
theorem sizes_moved (bs : List Nat) (K : Nat) (hK : K < 11) (hs : Small (dotsOf (bmp bs)) K) :
    (rowsOfTurn bs K).map (·.1) = ((List.range 10).map fun (j : Nat) => 1 + (j : Int)).filter fun t => (dotsOf (bmp bs)).any fun n => n % t.toNat == 0 := by
  have key : ∀ r, r ≤ 10 → ((List.range r).map fun (j : Nat) => 1 + (j : Int)).filter (fun t => (dotsOf (bmp bs)).any fun n => n % t.toNat == 0) = (rowsOfTurn bs (min r K)).map (·.1) := by
    intro r
    induction r with
    | zero => intro _; rw [Nat.zero_min]; rfl
    | succ r ih =>
      intro hr
      rw [List.range_succ, List.map_append, List.filter_append, ih (by omega), List.map_singleton]
      have e1 : (1 + (r : Int)).toNat = 1 + r := by omega
      by_cases h : r < K
      · rw [Nat.min_eq_left (by omega : r ≤ K), Nat.min_eq_left (by omega : r + 1 ≤ K)]
        unfold rowsOfTurn
        rw [witUp_succ, List.map_append]
        congr 1
        have hl := lev_at bs r
        by_cases hc : cnt (dotsOf (bmp bs)) (1 + r) = 0
        · rw [hc, Int.mul_zero, Int.add_zero] at hl
          rw [if_neg (by simpa using hl), List.filter_cons_of_neg]
          · rfl
          · intro ht
            obtain ⟨n, hn, e2⟩ := List.any_eq_true.mp ht
            rw [e1] at e2
            exact cnt_pos.mpr ⟨n, hn, by simpa using e2⟩ hc
        · obtain ⟨n, hn, e2⟩ := cnt_pos.mp hc
          rw [if_pos ?_, List.filter_cons_of_pos]
          · rfl
          · rw [e1]; exact List.any_eq_true.mpr ⟨n, hn, by simpa using e2⟩
          · intro he
            rw [he] at hl
            have h3 : (1 + (r : Int)) * cnt (dotsOf (bmp bs)) (1 + r) = 0 := by omega
            rcases Int.mul_eq_zero.mp h3 with h4 | h4
            · omega
            · exact hc h4
      · rw [Nat.min_eq_right (by omega : K ≤ r), Nat.min_eq_right (by omega : K ≤ r + 1), List.filter_cons_of_neg]
        · simp
        · intro ht
          obtain ⟨n, hn, e2⟩ := List.any_eq_true.mp ht
          rw [e1] at e2
          exact cnt_pos.mpr ⟨n, hn, by simpa using e2⟩ (cnt_top hs (by omega))
  have := key 10 (Nat.le_refl _)
  rw [Nat.min_eq_right (by omega : K ≤ 10)] at this
  exact this.symm
/-- at the top size nothing moved: the old lead is not less -/
theorem not_less (bs : List Nat) (K : Nat) (hs : Small (dotsOf (bmp bs)) K) (h0 : 0 < K) : lev (cntOf (bmp bs)) (K : Int) ≤ lev (cntOf bs) (K : Int) := by
  rw [lev_bmp bs K h0, cnt_top hs (Nat.le_refl _)]
  omega
end Mine
end PartGk

section PartMl
open PySem PySem.W PySem.Spec PySem.Calls PyProof.Rows
set_option maxRecDepth 100000
namespace Mine
/-- the mail's rows and the list of their dots -/
structure ROk (rows : List Row) (dvs : List Value) (i : Nat) : Prop where
  ok : ∀ r ∈ rows, RowOk r
  len : rows.length = 3 + i
  three : 3 ∈ rows.map (·.1)
  dots : IntsAre dvs ((dotsOf (rows.map (·.1))).map fun (n : Nat) => (n : Int))
theorem mailText_snoc (rows : List Row) (r : Row) : mailText (rows ++ [r]) = mailText rows ++ rowText r := by simp [mailText]
theorem dotsOf_snoc (bs : List Nat) (b : Nat) : dotsOf (bs ++ [b]) = dotsOf bs ++ (if b = 0 then [] else [b]) := by
  unfold dotsOf
  rw [List.filter_append]
  congr 1
  by_cases h : b = 0 <;> simp [h]
theorem intsAre_snoc {vs : List Value} {ks : List Int} (h : IntsAre vs ks) (k : Int) (t : Tok) : IntsAre (vs ++ [.int k t]) (ks ++ [k]) := by
  induction h with
  | nil => exact .cons _ _ .nil
  | cons n t _ ih => exact .cons n t ih
theorem ROk.start (t1 t2 : Tok) : ROk [(1, [10]), (0, [13, 10]), (3, [13])] [.int 1 t1, .int 3 t2] 0 := by
  refine ⟨?_, rfl, by decide, ?_⟩
  · intro r hr
    simp only [List.mem_cons, List.not_mem_nil, or_false] at hr
    rcases hr with rfl | rfl | rfl
    · exact ⟨.inl rfl, (fun h => absurd h (by decide)), by decide⟩
    · exact ⟨.inr (.inr rfl), (fun _ => rfl), by decide⟩
    · exact ⟨.inr (.inl rfl), (fun h => absurd h (by decide)), by decide⟩
  · exact .cons _ _ (.cons _ _ .nil)
theorem ROk.empty {rows : List Row} {dvs : List Value} {i : Nat} (h : ROk rows dvs i) : ROk (rows ++ [(0, [13, 10])]) dvs (i + 1) := by
  refine ⟨?_, ?_, ?_, ?_⟩
  · intro r hr
    rcases List.mem_append.mp hr with hr | hr
    · exact h.ok r hr
    · rw [List.mem_singleton.mp hr]; exact ⟨.inr (.inr rfl), (fun _ => rfl), Nat.zero_le _⟩
  · rw [List.length_append, h.len]; simp; omega
  · rw [List.map_append]; exact List.mem_append.mpr (.inl h.three)
  · rw [List.map_append, List.map_singleton, dotsOf_snoc, if_pos rfl, List.append_nil]; exact h.dots
theorem ROk.more {rows : List Row} {dvs : List Value} {i : Nat} (h : ROk rows dvs i) (b : Nat) (e : List Nat) (t : Tok) (h1 : 1 ≤ b) (h2 : b ≤ 7) (he : e = [10] ∨ e = [13] ∨ e = [13, 10]) : ROk (rows ++ [(b, e)]) (dvs ++ [.int (b : Int) t]) (i + 1) := by
  refine ⟨?_, ?_, ?_, ?_⟩
  · intro r hr
    rcases List.mem_append.mp hr with hr | hr
    · exact h.ok r hr
    · rw [List.mem_singleton.mp hr]; exact ⟨he, (fun h0 => absurd h0 (by show b ≠ 0; omega)), h2⟩
  · rw [List.length_append, h.len]; simp; omega
  · rw [List.map_append]; exact List.mem_append.mpr (.inl h.three)
  · rw [List.map_append, List.map_singleton, dotsOf_snoc, if_neg (by show b ≠ 0; omega), List.map_append]
    exact intsAre_snoc h.dots _ t
structure MSt where
  rows : List Row
  tm : Tok
  dvs : List Value
  dk : Nat
section
variable {prog : Program} {w : World} {A : Around} {E : Value → Shared → Prop} {s : Shared} {env : Env} {h₀ : Heap} {body : List Stmt} {Q : Flow → Shared → Prop}
abbrev MLed (D dl : Addr) (ws : List Value) (rest : List (Addr × Obj)) (c : MSt) : List (Addr × Obj) := (D, listOf ws.toArray 0) :: (dl, listOf c.dvs.toArray c.dk) :: rest
abbrev MPs (c : MSt) : List (Str × Value) := [(Str.ofString "mail", .str (S (mailText c.rows)) c.tm)]
theorem mailLoop {D dl : Addr} {ws : List Value} {xs : List Int} {t1 t3 tm : Tok} {m₀ : Str → Option Value} {rest : List (Addr × Obj)}
    (hh : A.handled = none) (hi : IntsAre ws xs) (F : Fr h₀ env.locals s.heap m₀) (N : News h₀ env.locals s.heap ((D, listOf ws.toArray 0) :: (dl, listOf #[.int 1 t1, .int 3 t3] 0) :: rest))
    (hm : m₀ (Str.ofString "mail") = some (.str (Str.ofString ".\n\r\n...\r") tm))
    (turn : ∀ (rows : List Row) (dvs : List Value) (dk i : Nat) (tm : Tok) (x : Int) (t : Tok) h tk I oI, ROk rows dvs i → xs[i]? = some x → D ≠ I → dl ≠ I → (∀ p ∈ rest, p.1 ≠ I) →
      Fr h₀ env.locals h (fun y => if y = Str.ofString "x" then some (.int x t) else if y = Str.ofString "mail" then some (.str (S (mailText rows)) tm) else m₀ y) →
      News h₀ env.locals h ((D, listOf ws.toArray 0) :: (dl, listOf dvs.toArray dk) :: (rest ++ [(I, oI)])) →
      wpAny (model prog w) A (execs body env) (TurnPost h₀ env.locals (StG (MLed D dl ws rest) MPs (Str.ofString "x") m₀ (fun c => ROk c.rows c.dvs (i + 1))) [(I, oI)] { s with heap := h, toks := tk } Q) E { s with heap := h, toks := tk })
    (done : ∀ (rows : List Row) (dvs : List Value) (dk : Nat) (tm : Tok) (u : Str → Option Value) h tk, ROk rows dvs xs.length →
      Fr h₀ env.locals h (fun y => if y = Str.ofString "x" then u y else if y = Str.ofString "mail" then some (.str (S (mailText rows)) tm) else m₀ y) →
      News h₀ env.locals h ((dl, listOf dvs.toArray dk) :: rest) → Q .next { s with heap := h, toks := tk }) :
    wpAny (model prog w) A (pyIter (.ref D)) (fun it s₂ => LoopAtV prog w A h₀ env (Str.ofString "x") body Q E it s₂) E s := by
  refine listLoop (σ := MSt) (vs := ws) (nn := 0) (MLed D dl ws rest) MPs (fun i c => ROk c.rows c.dvs i) ⟨[(1, [10]), (0, [13, 10]), (3, [13])], tm, [.int 1 t1, .int 3 t3], 0⟩ hh (fun _ => .head _) F N ?_ (ROk.start t1 t3) ?_ ?_
  · intro p hp
    rw [List.mem_singleton.mp hp]
    exact hm
  · rintro ⟨rows, tm, dvs, dk⟩ i v h tk I oI hv hI hP F' N'
    have hlt : i < xs.length := by
      rw [← hi.length]
      exact (List.getElem?_eq_some_iff.mp hv).1
    obtain ⟨t, hx⟩ := hi.get i xs[i] (by simp [hlt])
    rw [hx] at hv
    cases hv
    exact turn rows dvs dk i tm xs[i] t h tk I oI hP (by simp [hlt]) (hI _ (.head _)) (hI _ (.tail _ (.head _))) (fun p hp => hI p (.tail _ (.tail _ hp))) F' N'
  · rintro ⟨rows, tm, dvs, dk⟩ u h tk hP F' N'
    rw [hi.length] at hP
    exact done rows dvs dk tm u h tk hP F' fun p hp => N' p (.tail _ hp)
theorem mailEnd {D dl I L : Addr} {ws : List Value} {m₀ m' : Str → Option Value} {rest : List (Addr × Obj)} {oI : Obj} {s₁ : Shared} {h' : Heap} {tk i : Nat} (rows : List Row) (dvs : List Value) (dk : Nat) (tm : Tok)
    (F : Fr h₀ L h' m') (N : News h₀ L h' ((D, listOf ws.toArray 0) :: (dl, listOf dvs.toArray dk) :: (rest ++ [(I, oI)]))) (h1 : D ≠ I) (h2 : dl ≠ I) (h3 : ∀ p ∈ rest, p.1 ≠ I)
    (hm : m' (Str.ofString "mail") = some (.str (S (mailText rows)) tm)) (ho : ∀ z, z ≠ Str.ofString "x" → z ≠ Str.ofString "mail" → m' z = m₀ z) (hP : ROk rows dvs i) :
    TurnEnd h₀ L (StG (MLed D dl ws rest) MPs (Str.ofString "x") m₀ (fun c => ROk c.rows c.dvs i)) [(I, oI)] s₁ { s₁ with heap := h', toks := tk } := by
  refine turnEnd ⟨rows, tm, dvs, dk⟩ F N ?_ ?_ ?_ ?_ ?_ hP
  · intro p hp
    rcases List.mem_cons.mp hp with hp | hp
    · rw [hp]; exact .head _
    rcases List.mem_cons.mp hp with hp | hp
    · rw [hp]; exact .tail _ (.head _)
    · exact .tail _ (.tail _ (List.mem_append.mpr (.inl hp)))
  · exact fun p hp => .tail _ (.tail _ (List.mem_append.mpr (.inr hp)))
  · intro p hp
    refine List.forall_mem_cons.mpr ⟨?_, List.forall_mem_nil _⟩
    rcases List.mem_cons.mp hp with hp | hp
    · rw [hp]; exact h1
    rcases List.mem_cons.mp hp with hp | hp
    · rw [hp]; exact h2
    · exact h3 p hp
  · intro p hp
    rw [List.mem_singleton.mp hp]
    exact hm
  · intro z hz hq
    exact ho z hz (hq _ (.head _))
end
end Mine
end PartMl

section PartMa
open PySem PySem.W PySem.Spec PySem.Calls PyProof.Rows
set_option maxRecDepth 100000
namespace Mine
theorem S_length (a : List Nat) : (S a).length = a.length := by simp [PySem.Str.length, S]
theorem S_append (a b : List Nat) : S a ++ S b = S (a ++ b) := by
  apply PySem.Str.ext'
  rw [PySem.Str.cps_append]
  simp [S]
theorem addT {prog : Program} {w : World} {A : Around} {E : Value → Shared → Prop} {s : Shared} {x y : PySem.Str} {a b : List Nat} {t u : Tok} {Q : Value → Shared → Prop} (hx : x = S a) (hy : y = S b) (la : a.length ≤ 1000) (lb : b.length ≤ 1000)
    (h : ∀ t' k, Q (.str (S (a ++ b)) t') { s with toks := k }) : wpAny (model prog w) A (binaryOp .Add (.str x t) (.str y u)) Q E s := by
  subst hx
  subst hy
  refine KXadd.add (K := 1000) (L := 1000) (by rw [S_length]; exact la) (by rw [S_length]; exact lb) (by decide) fun t' k _ => ?_
  rw [S_append]
  exact h t' k
theorem mulDots (k : Int) (h1 : 1 ≤ k) (h2 : k ≤ 7) : Txt.mul (Str.ofString ".") k = S (List.replicate k.toNat 46) := by
  have h : k = 1 ∨ k = 2 ∨ k = 3 ∨ k = 4 ∨ k = 5 ∨ k = 6 ∨ k = 7 := by omega
  rcases h with rfl | rfl | rfl | rfl | rfl | rfl | rfl <;> decide
theorem mailText_len (rows : List Row) (h : ∀ r ∈ rows, RowOk r) : (mailText rows).length ≤ 9 * rows.length := by
  induction rows with
  | nil => exact Nat.le_refl _
  | cons r rows ih =>
    have h1 := ih fun y hy => h y (.tail _ hy)
    obtain ⟨h2, _, h3⟩ := h r (.head _)
    have h4 : r.2.length ≤ 2 := by rcases h2 with e | e | e <;> rw [e] <;> decide
    rw [mailText_cons, List.length_append, List.length_append, List.length_replicate, List.length_cons]
    omega
end Mine
end PartMa

section PartCc
open PySem PySem.W PySem.Spec PySem.Calls PyProof.Rows PyProof.Rows.LCg
set_option maxRecDepth 100000
set_option maxHeartbeats 2000000
namespace Mine
section
variable {prog : Program} {w : World} {A : Around} {E : Value → Shared → Prop} {s : Shared} {h₀ : Heap} {L : Addr} {m : Str → Option Value} {env : Env}
theorem compTurn_two0 (elt it0 it1 : PySem.Expr) (x y : Str) (px py : Pos) (scope : Scope) (pos : Pos) (it acc : Value) (env : Env) :
    compTurn (.ListComp elt [⟨.Name x px, it0, [], 0⟩, ⟨.Name y py, it1, [], 0⟩] scope pos) 0 it acc env = (do
      standAt it0.pos
      match ← pyNext it with
      | none => pure (.done .next)
      | some v =>
        letOwnedTupleGo (.Name x px) it v
        assign (.Name x px) env v
        let mut ok := true
        for c in ([] : List PySem.Expr) do
          if ok then ok ← isTrue c env (eval c env)
        if ok then
          let x' ← eval it1 env
          standAt it1.pos
          let x' ← foldedSetIterable it1 env x'
          let _ ← runOwn (.compStart (.ListComp elt [⟨.Name x px, it0, [], 0⟩, ⟨.Name y py, it1, [], 0⟩] scope pos) 1 (← holding [x'] (pyIter x')) acc env) env
        again (.compLoop (.ListComp elt [⟨.Name x px, it0, [], 0⟩, ⟨.Name y py, it1, [], 0⟩] scope pos) 0 it acc env)) := by rfl
theorem compTurn_two1 (elt it0 it1 : PySem.Expr) (x y : Str) (px py : Pos) (scope : Scope) (pos : Pos) (it acc : Value) (env : Env) :
    compTurn (.ListComp elt [⟨.Name x px, it0, [], 0⟩, ⟨.Name y py, it1, [], 0⟩] scope pos) 1 it acc env = (do
      standAt it1.pos
      match ← pyNext it with
      | none => pure (.done .next)
      | some v =>
        letOwnedTupleGo (.Name y py) it v
        assign (.Name y py) env v
        let mut ok := true
        for c in ([] : List PySem.Expr) do
          if ok then ok ← isTrue c env (eval c env)
        if ok then
          (do let _ ← call (.builtin "list.append") [acc, ← eval elt env])
        again (.compLoop (.ListComp elt [⟨.Name x px, it0, [], 0⟩, ⟨.Name y py, it1, [], 0⟩] scope pos) 1 it acc env)) := by rfl
theorem compLoop_two1 {elt it0 it1 : PySem.Expr} {x y : Str} {px py : Pos} {scope : Scope} {pos : Pos} {it acc : Value} {env : Env} {R : Result → Shared → Prop} (I : Nat → Shared → Prop)
    (turn : ∀ n s, I n s → wpAny (model prog w) A (pyNext it) (fun r s₁ => match r with
      | none => R (.ok .next) s₁
      | some v => wpAny (model prog w) A (assign (.Name y py) env v) (fun _ s₂ => wpAny (model prog w) A (eval elt env) (fun z s₃ =>
          wpAny (model prog w) A (call (.builtin "list.append") [acc, z]) (fun _ s₄ => ∃ m, m < n ∧ I m s₄) (notedBy (model prog w) A env fun e s' => R (.error e) s') s₃)
          (notedBy (model prog w) A env fun e s' => R (.error e) s') s₂) (notedBy (model prog w) A env fun e s' => R (.error e) s') s₁) (notedBy (model prog w) A env fun e s' => R (.error e) s') s)
    (n : Nat) (h : I n s) : codeAny (model prog w) A (.compLoop (.ListComp elt [⟨.Name x px, it0, [], 0⟩, ⟨.Name y py, it1, [], 0⟩] scope pos) 1 it acc env) R s := by
  refine codeAny_loop rfl I (fun n s hI => ?_) n h
  show wpAny _ A ((compTurn (.ListComp elt [⟨.Name x px, it0, [], 0⟩, ⟨.Name y py, it1, [], 0⟩] scope pos) 1 it acc env).onRaise (fun x => do noteFrame x env; theTreesLotGoes x)) _ _ s
  refine wpAny_noted ?_
  rw [compTurn_two1]
  refine wpAny_bind (wpAny_standAt (wpAny_bind (wpAny_mono (turn n s hI) (fun r s₁ h₁ => ?_) fun _ _ h' => h')))
  cases r with
  | none => exact wpAny_pure h₁
  | some v =>
    refine wpAny_bind (wpAny_of_eq (t := letOwnedTupleGo (.Name y py) it v) (a := ()) rfl ?_)
    refine wpAny_bind (wpAny_mono h₁ (fun _ s₂ h₂ => wpAny_bind (wpAny_mono (wpAny_tests_nil (Q := fun ok s₃ => ok = true ∧ s₃ = s₂) ⟨rfl, rfl⟩) (fun ok s₃ h₃ => ?_) fun _ _ h' => h')) fun _ _ h' => h')
    obtain ⟨rfl, rfl⟩ := h₃
    exact wpAny_bind (wpAny_bind (wpAny_mono h₂ (fun z s₄ h₄ => wpAny_bind (wpAny_mono h₄ (fun _ s₅ h₅ => wpAny_pure (wpAny_pure ⟨rfl, h₅⟩)) fun _ _ h' => h')) fun _ _ h' => h'))
theorem compStart_two1 {elt it0 it1 : PySem.Expr} {x y : Str} {px py : Pos} {scope : Scope} {pos : Pos} {it acc : Value} {env : Env} {R : Result → Shared → Prop}
    (h0 : codeAny (model prog w) A (.compLoop (.ListComp elt [⟨.Name x px, it0, [], 0⟩, ⟨.Name y py, it1, [], 0⟩] scope pos) 1 it acc env) R s)
    (h : wpAny (model prog w) A (pyIter it) (fun it' s' => codeAny (model prog w) A (.compLoop (.ListComp elt [⟨.Name x px, it0, [], 0⟩, ⟨.Name y py, it1, [], 0⟩] scope pos) 1 it' acc env) R s')
      (notedBy (model prog w) A env fun x s' => R (.error x) s') s) :
    codeAny (model prog w) A (.compStart (.ListComp elt [⟨.Name x px, it0, [], 0⟩, ⟨.Name y py, it1, [], 0⟩] scope pos) 1 it acc env) R s := by
  refine codeAny_of_tree ?_
  show wpAny _ _ ((compStart (.ListComp elt [⟨.Name x px, it0, [], 0⟩, ⟨.Name y py, it1, [], 0⟩] scope pos) 1 it acc env).onRaise (fun x => do noteFrame x env; standAt theWindowsPlace)) _ _ s
  refine wpAny_notedAt ?_
  unfold compStart
  show wpAny _ _ (ask >>= _) _ _ s
  refine wpAny_bind (wpAny_askSetting (wpAny_ite ?_))
  split
  · first
      | exact wpAny_bind (wpAny_pure (wpAny_pure (And.intro rfl h0)))
      | exact wpAny_pure (And.intro rfl h0)
  · first
      | exact wpAny_bind (wpAny_rule (wpAny_bind (wpAny_standAt (wpAny_bind (wpAny_mono h (fun it' s' h' => wpAny_pure (And.intro rfl h')) fun _ _ x => x)))))
      | (refine wpAny_bind (wpAny_rule ?_); show wpAny _ _ (standAt it1.pos >>= _) _ _ s; exact wpAny_bind (wpAny_standAt (wpAny_bind (wpAny_mono h (fun it' s' h' => wpAny_pure (And.intro rfl h')) fun _ _ x => x))))
theorem compLoop_two0 {elt it0 it1 : PySem.Expr} {x y : Str} {px py : Pos} {scope : Scope} {pos : Pos} {it acc : Value} {env : Env} {R : Result → Shared → Prop} (I : Nat → Shared → Prop)
    (turn : ∀ n s, I n s → wpAny (model prog w) A (pyNext it) (fun r s₁ => match r with
      | none => R (.ok .next) s₁
      | some v => wpAny (model prog w) A (assign (.Name x px) env v) (fun _ s₂ => wpAny (model prog w) A (eval it1 env) (fun xv s₃ =>
          wpAny (model prog w) A (pyIter xv) (fun iv s₄ => codeAny (model prog w) A (.compStart (.ListComp elt [⟨.Name x px, it0, [], 0⟩, ⟨.Name y py, it1, [], 0⟩] scope pos) 1 iv acc env)
            (fun r s₅ => match r with | .ok _ => ∃ m, m < n ∧ I m s₅ | .error _ => False) s₄) (notedBy (model prog w) A env fun e s' => R (.error e) s') s₃)
          (notedBy (model prog w) A env fun e s' => R (.error e) s') s₂) (notedBy (model prog w) A env fun e s' => R (.error e) s') s₁) (notedBy (model prog w) A env fun e s' => R (.error e) s') s)
    (n : Nat) (h : I n s) (hs : ∀ x, foldedSetIterable it1 env x = pure x) :
    codeAny (model prog w) A (.compLoop (.ListComp elt [⟨.Name x px, it0, [], 0⟩, ⟨.Name y py, it1, [], 0⟩] scope pos) 0 it acc env) R s := by
  refine codeAny_loop rfl I (fun n s hI => ?_) n h
  show wpAny _ A ((compTurn (.ListComp elt [⟨.Name x px, it0, [], 0⟩, ⟨.Name y py, it1, [], 0⟩] scope pos) 0 it acc env).onRaise (fun x => do noteFrame x env; theTreesLotGoes x)) _ _ s
  refine wpAny_noted ?_
  rw [compTurn_two0]
  refine wpAny_bind (wpAny_standAt (wpAny_bind (wpAny_mono (turn n s hI) (fun r s₁ h₁ => ?_) fun _ _ h' => h')))
  cases r with
  | none => exact wpAny_pure h₁
  | some v =>
    refine wpAny_bind (wpAny_of_eq (t := letOwnedTupleGo (.Name x px) it v) (a := ()) rfl ?_)
    refine wpAny_bind (wpAny_mono h₁ (fun _ s₂ h₂ => wpAny_bind (wpAny_mono (wpAny_tests_nil (Q := fun ok s₃ => ok = true ∧ s₃ = s₂) ⟨rfl, rfl⟩) (fun ok s₃ h₃ => ?_) fun _ _ h' => h')) fun _ _ h' => h')
    obtain ⟨rfl, rfl⟩ := h₃
    simp only [if_true]
    refine wpAny_bind (wpAny_mono h₂ (fun xv s₄ h₄ => wpAny_bind (wpAny_standAt (wpAny_bind (wpAny_of_eq (hs xv) (wpAny_bind (wpAny_holding (wpAny_mono h₄ (fun iv s₅ h₅ => ?_) fun _ _ h' => h'))))))) fun _ _ h' => h')
    refine wpAny_bind (wpAny_runOwn (codeAny_mono h₅ fun r s₆ h₆ => ?_))
    cases r with
    | ok f => exact wpAny_pure ⟨rfl, h₆⟩
    | error e => exact h₆.elim
end
end Mine
end PartCc

section PartCd
open PySem PySem.W PySem.Spec PySem.Calls PyProof.Rows PyProof.Rows.LCg
set_option maxRecDepth 100000
set_option maxHeartbeats 2000000
namespace Mine
theorem rangeKs_succ (a : Int) (n : Nat) : rangeKs a (n + 1) = rangeKs a n ++ [a + (n : Int)] := by
  unfold rangeKs
  rw [List.range_succ, List.map_append]; rfl
theorem ne_nat {a b : Addr} (h : @Ne Nat a b) : a ≠ b := h
section
variable {prog : Program} {w : World} {A : Around} {E : Value → Shared → Prop} {s : Shared} {h₀ : Heap} {L : Addr} {m : Str → Option Value} {env : Env}
/-- the inner clause: a range; every turn gives an int -/
theorem inner2 {elt it0 it1 : PySem.Expr} {x y : Str} {px py : Pos} {scope : Scope} {cl : List (Str × Addr)} {pos : Pos} {R : Result → Shared → Prop} {s₁ : Shared} {h₁ : Heap} {tk₁ : Nat}
    {C D I J : Addr} {oI : Obj} {mC : Str → Option Value} {news : List (Addr × Obj)} {ys₀ : List Value} (a : Int) (n : Nat) (g : Int → Int)
    (hh : A.handled = none) (hkind : scope.kind = .function) (hy : scope.names.lookup y = some .local)
    (T : ∀ (j : Int) (t : Tok) (ys : List Value) (oJ oC : Obj) (m₂ : Str → Option Value) (h : Heap) (tk : Nat) (E' : Value → Shared → Prop), a ≤ j → j < a + (n : Int) → NsObj oC m₂ → m₂ y = some (.int j t) → (∀ z, z ≠ y → m₂ z = mC z) → Fr h₀ L h m →
      News h₀ L h ((J, oJ) :: (I, oI) :: (C, oC) :: (D, lst ys) :: news) →
      wpAny (model prog w) A (eval elt (compEnvC scope cl C env)) (fun z s' => (∃ t', z = .int (g j) t') ∧ ∃ h' tk', s' = { s₁ with heap := h', toks := tk' } ∧ Fr h₀ L h' m ∧ News h₀ L h' ((J, oJ) :: (I, oI) :: (C, oC) :: (D, lst ys) :: news)) E' { s₁ with heap := h, toks := tk })
    (F : Fr h₀ L h₁ m) (N : News h₀ L h₁ ((I, oI) :: (D, lst ys₀) :: news)) (hJ : IsRangeIter h₁ J a (n : Int) 1) (hC : h₁.Ns C mC)
    (hJL : J ≠ L) (hJ₀ : h₀.get? J = none) (hCL : C ≠ L) (hC₀ : h₀.get? C = none) (hJC : J ≠ C) (hJD : J ≠ D) (hJI : J ≠ I) (hCD : C ≠ D) (hCI : C ≠ I) (hID : I ≠ D) (off : ∀ p ∈ news, p.1 ≠ J ∧ p.1 ≠ C ∧ p.1 ≠ D)
    (hz : ys₀.length + n ≤ sizeLine)
    (fin : ∀ zs h tk m', IntsAre zs ((rangeKs a n).map g) → Fr h₀ L h m → News h₀ L h ((I, oI) :: (D, lst (ys₀ ++ zs)) :: news) → h.Ns C m' → (∀ z, z ≠ y → m' z = mC z) → R (.ok .next) { s₁ with heap := h, toks := tk }) :
    codeAny (model prog w) A (.compLoop (.ListComp elt [⟨.Name x px, it0, [], 0⟩, ⟨.Name y py, it1, [], 0⟩] scope pos) 1 (.ref J) (.ref D) (compEnvC scope cl C env)) R { s₁ with heap := h₁, toks := tk₁ } := by
  have W := range_walks (prog := prog) (w := w) (I := J) hh a n
  refine compLoop_two1 (fun q s' => ∃ h' tk i zs m', s' = { s₁ with heap := h', toks := tk } ∧ i ≤ n ∧ q = n + 1 - i ∧ IsRangeIter h' J (a + (i : Nat) * 1) ((n : Int) - (i : Nat)) 1 ∧ Fr h₀ L h' m ∧ h'.Ns C m' ∧ (∀ z, z ≠ y → m' z = mC z) ∧
    News h₀ L h' ((I, oI) :: (D, lst (ys₀ ++ zs)) :: news) ∧ IntsAre zs ((rangeKs a i).map g)) ?_ (n + 1)
    ⟨h₁, tk₁, 0, [], mC, rfl, Nat.zero_le _, rfl, (by simpa using hJ), F, hC, fun _ _ => rfl, (by rw [List.append_nil]; exact N), .nil⟩
  rintro q s' ⟨h', tk, i, zs, m', rfl, hi, rfl, hit, F', hn', hm', N', hok⟩
  have offJ : ∀ zs, ∀ p ∈ (I, oI) :: (D, lst (ys₀ ++ zs)) :: news, p.1 ≠ J := by
    intro zs p hp
    rcases List.mem_cons.mp hp with hp | hp
    · rw [hp]; exact Ne.symm hJI
    rcases List.mem_cons.mp hp with hp | hp
    · rw [hp]; exact Ne.symm hJD
    · exact (off p hp).1
  by_cases hlt : i < n
  · refine W.item i _ _ _ hlt hit fun v h₂ tk₂ hPv hst₂ hk₂ => ?_
    obtain ⟨t, rfl⟩ := hPv
    have N₂ : News h₀ L h₂ ((I, oI) :: (D, lst (ys₀ ++ zs)) :: news) := news_but N' hk₂ (offJ zs)
    have hn₂ : h₂.Ns C m' := hn'.at' fun o e => hk₂ _ o (by simpa using Ne.symm hJC) e
    have F₂ : Fr h₀ L h₂ m := fr_but F' hk₂ (Ne.symm hJL) hJ₀
    refine wpAny_assign_Name (wpAny_storeName_local (lookup_relabel_local hy) hn₂ (fun h₃ hn₃ hs₃ => ?_) (by simp [compEnvC, relabel, hkind]))
    obtain ⟨oC, heC, hoC⟩ := ns_obj hn₃
    have heJ : h₃.get? J = some _ := hs₃.extBut _ _ hJC hst₂
    have F₃ : Fr h₀ L h₃ m := F₂.change hs₃ hCL hC₀
    have hlen : zs.length = i := by rw [hok.length, List.length_map, rangeKs_length]
    refine wpAny_mono (T (a + (i : Int)) t (ys₀ ++ zs) { cls := .type "range_iterator", dict := none, data := .fields #[rawInt (a + ((i + 1 : Nat) : Int) * 1), rawInt ((n : Int) - ((i + 1 : Nat) : Int)), rawInt 1], slots := #[] } oC _ h₃ _ _ (by omega) (by omega) hoC (by simp) (fun z hz => by simp [hz, hm' z hz]) F₃ (fun p hp => ?_)) (fun z s₄ h₄ => ?_) fun _ _ e => e
    · rcases List.mem_cons.mp hp with hp | hp
      · rw [hp]; exact ⟨heJ, hJL, hJ₀⟩
      rcases List.mem_cons.mp hp with hp | hp
      · rw [hp]
        have z := N₂ (I, oI) (.head _)
        exact ⟨hs₃.extBut _ _ (Ne.symm hCI) z.1, z.2⟩
      rcases List.mem_cons.mp hp with hp | hp
      · rw [hp]; exact ⟨heC, hCL, hC₀⟩
      · have z := N₂ p (.tail _ hp)
        refine ⟨hs₃.extBut _ _ ?_ z.1, z.2⟩
        rcases List.mem_cons.mp hp with hp | hp
        · rw [hp]; exact Ne.symm hCD
        · exact (off p hp).2.1
    · obtain ⟨⟨t', rfl⟩, h₄', tk₄, rfl, F₄, N₄⟩ := h₄
      have zJ := (N₄ _ (.head _)).1
      have zC := (N₄ (C, oC) (.tail _ (.tail _ (.head _)))).1
      have zD := N₄ (D, lst (ys₀ ++ zs)) (.tail _ (.tail _ (.tail _ (.head _))))
      refine append_at (hsz := by show (ys₀ ++ zs).toArray.size ≤ sizeLine; rw [List.size_toArray, List.length_append, hlen]; omega) zD.1 fun h₅ hs₅ hD₅ => ?_
      refine ⟨n + 1 - (i + 1), by omega, h₅, tk₄, i + 1, zs ++ [.int (g (a + (i : Int))) t'], _, rfl, hlt, rfl, hs₅.extBut _ _ hJD zJ, F₄.change hs₅ zD.2.1 zD.2.2, (hoC.ns zC).sameBut hs₅ hCD, fun z hz => by simp [hz, hm' z hz], fun p hp => ?_, ?_⟩
      · rcases List.mem_cons.mp hp with hp | hp
        · rw [hp]
          have z := N₄ (I, oI) (.tail _ (.head _))
          exact ⟨hs₅.extBut _ _ hID z.1, z.2⟩
        rcases List.mem_cons.mp hp with hp | hp
        · rw [hp]
          refine ⟨?_, zD.2⟩
          rw [← List.append_assoc]
          exact hD₅.trans (congrArg some (lst_snoc (ys₀ ++ zs) _))
        · have z := N₄ p (.tail _ (.tail _ (.tail _ (.tail _ hp))))
          exact ⟨hs₅.extBut _ _ (off p hp).2.2 z.1, z.2⟩
      · rw [rangeKs_succ, List.map_append]
        exact hok.append (.cons _ t' .nil)
  · obtain rfl : i = n := Nat.le_antisymm hi (Nat.not_lt.mp hlt)
    refine W.done _ _ _ hit fun h₂ tk₂ hk₂ => ?_
    exact fin zs h₂ tk₂ m' hok (fr_but F' hk₂ (Ne.symm hJL) hJ₀) (news_but N' hk₂ (offJ zs)) (hn'.at' fun o e => hk₂ _ o (by simpa using Ne.symm hJC) e) hm'
/-- what the outer clause's turn asks: the inner range -/
def In2 (prog : Program) (w : World) (A : Around) (h₀ : Heap) (L : Addr) (m : Str → Option Value) (env : Env) (elt it1 : PySem.Expr) (x y : Str) (scope : Scope) (cl : List (Str × Addr)) (news : List (Addr × Obj)) (s₁ : Shared) (ks : List Int) (a : Int → Int) (n : Int → Nat) (g : Int → Int → Int) : Prop :=
  (∀ (k : Int) (t : Tok) (ys : List Value) (I C D : Addr) (oI oC : Obj) (m₂ : Str → Option Value) (h : Heap) (tk : Nat) (E' : Value → Shared → Prop), k ∈ ks → NsObj oC m₂ → m₂ x = some (.int k t) → Fr h₀ L h m → News h₀ L h ((I, oI) :: (C, oC) :: (D, lst ys) :: news) →
    wpAny (model prog w) A (eval it1 (compEnvC scope cl C env)) (fun xv s' => ∃ r b t u v, xv = .ref r ∧ Builtin.Range.small (a k) b 1 = true ∧ Builtin.Range.rangeSize (a k) b 1 = ((n k : Nat) : Int) ∧ IsRange s'.heap r (a k) b 1 t u v ∧ ∃ h' tk', s' = { s₁ with heap := h', toks := tk' } ∧ Fr h₀ L h' m ∧ News h₀ L h' ((I, oI) :: (C, oC) :: (D, lst ys) :: news)) E' { s₁ with heap := h, toks := tk }) ∧
  (∀ (k j : Int) (t t' : Tok) (ys : List Value) (I J C D : Addr) (oI oJ oC : Obj) (m₂ : Str → Option Value) (h : Heap) (tk : Nat) (E' : Value → Shared → Prop), k ∈ ks → a k ≤ j → j < a k + (n k : Int) → NsObj oC m₂ → m₂ x = some (.int k t) → m₂ y = some (.int j t') → Fr h₀ L h m → News h₀ L h ((J, oJ) :: (I, oI) :: (C, oC) :: (D, lst ys) :: news) →
    wpAny (model prog w) A (eval elt (compEnvC scope cl C env)) (fun z s' => (∃ t', z = .int (g k j) t') ∧ ∃ h' tk', s' = { s₁ with heap := h', toks := tk' } ∧ Fr h₀ L h' m ∧ News h₀ L h' ((J, oJ) :: (I, oI) :: (C, oC) :: (D, lst ys) :: news)) E' { s₁ with heap := h, toks := tk })
def res2 (ks : List Int) (a : Int → Int) (n : Int → Nat) (g : Int → Int → Int) : List Int := ks.flatMap fun k => (rangeKs (a k) (n k)).map (g k)
theorem res2_length {ks : List Int} {a : Int → Int} {n : Int → Nat} {g : Int → Int → Int} (hn : ∀ k ∈ ks, n k ≤ 1000) : (res2 ks a n g).length ≤ 1000 * ks.length := by
  induction ks with
  | nil => exact Nat.le_refl _
  | cons k ks ih =>
    have h1 := ih fun j hj => hn j (.tail _ hj)
    have h2 := hn k (.head _)
    unfold res2 at h1 ⊢
    rw [List.flatMap_cons, List.length_append, List.length_map, rangeKs_length, List.length_cons]
    omega
theorem block2 {elt it0 it1 : PySem.Expr} {x y : Str} {px py : Pos} {scope : Scope} {cl : List (Str × Addr)} {pos : Pos} {s₂ : Shared} {I : Addr} {fp : List Addr} {P : Nat → Value → Prop} {St : Nat → Heap → Prop} {news : List (Addr × Obj)}
    {ks : List Int} {a : Int → Int} {n : Int → Nat} {g : Int → Int → Int} {Q : Value → Shared → Prop}
    (W : Walks prog w A I fp [I] ks.length P St) (hP : ∀ i v, P i v → i < ks.length → ∃ k t, ks[i]? = some k ∧ v = .int k t) (hsz : ks.length ≤ 1000) (hn : ∀ k ∈ ks, n k ≤ 1000) (hIo : ∀ i h, St i h → ∃ o, h.get? I = some o)
    (hSt : ∀ i h h' o, St i h → h.get? I = some o → h'.get? I = some o → (∀ b o, h₀.get? b = some o → h'.get? b = some o) → News h₀ L h' news → St i h')
    (hcell : ∀ y ∈ scope.names, y.2 ≠ .cell) (hkind : scope.kind = .function) (hx : scope.names.lookup x = some .local) (hy : scope.names.lookup y = some .local) (hxy : x ≠ y) (hh : A.handled = none) (hst : St 0 s₂.heap) (hfp : ∀ b ∈ fp, b < s₂.heap.objs.size)
    (F : Fr h₀ L s₂.heap m) (N : News h₀ L s₂.heap news) (hIL : I ≠ L) (hI₀ : h₀.get? I = none) (off : ∀ p ∈ news, p.1 < I) (T : In2 prog w A h₀ L m env elt it1 x y scope cl news s₂ ks a n g) (hs1 : ∀ C v, foldedSetIterable it1 (compEnvC scope cl C env) v = pure v)
    (fin : ∀ D ys h tk, IntsAre ys (res2 ks a n g) → Fr h₀ L h m → News h₀ L h ((D, lst ys) :: news) → (∀ p ∈ news, p.1 < D) → Q (.ref D) { s₂ with heap := h, toks := tk }) :
    wpAny (model prog w) A (newList []) (fun acc s₃ => wpAny (model prog w) A (newFunctionEnv scope env.globals cl [] env.qual none .none (some env)) (fun cenv s₄ =>
      codeAny (model prog w) A (.compStart (.ListComp elt [⟨.Name x px, it0, [], 0⟩, ⟨.Name y py, it1, [], 0⟩] scope pos) 0 (.ref I) acc { cenv with scope := relabel scope env }) (compPost (model prog w) A E none Q acc cenv.locals) s₄) E s₃) E s₂ := by
  refine wpAny_newObj_type (wpAny_newFunctionEnv hcell (by intro y hy; simp at hy) (fun h₁ hns₁ hsb₁ => ?_) hkind)
  dsimp only at hns₁ hsb₁ ⊢
  generalize hH2 : s₂.heap.push { cls := .type "list", dict := none, data := .seq ([] : List Value).toArray } = H2 at hns₁ hsb₁ ⊢
  have z2 : H2.objs.size = s₂.heap.objs.size + 1 := by rw [← hH2, Heap.size_push]
  have g2 : ∀ b o, s₂.heap.get? b = some o → H2.get? b = some o := fun b o e => hH2 ▸ Heap.get?_push_of_some _ e
  have hD : H2.get? s₂.heap.objs.size = some (lst []) := hH2 ▸ Heap.get?_push_size _ rfl
  have old : ∀ b o, @LT.lt Nat instLTNat b H2.objs.size → H2.get? b = some o → h₁.get? b = some o := fun b o hb e => hsb₁.extBut b o (Nat.ne_of_lt hb) (Heap.get?_push_of_some _ e)
  have up : ∀ b o, s₂.heap.get? b = some o → h₁.get? b = some o := fun b o e => old b o (by have := Heap.lt_size e; have q : @LT.lt Nat instLTNat b s₂.heap.objs.size := this; omega) (g2 _ _ e)
  have hLlt : @LT.lt Nat instLTNat L s₂.heap.objs.size := F.ns.lt
  have fresh₀ : ∀ a, @LE.le Nat instLENat s₂.heap.objs.size a → h₀.get? a = none := fun a ha => Heap.get?_none_of_le (Nat.le_trans F.above (Nat.le_trans (Nat.le_of_lt hLlt) ha))
  have lt : ∀ p ∈ news, @LT.lt Nat instLTNat p.1 s₂.heap.objs.size := fun p hp => Heap.lt_size (N p hp).1
  have hIf : I ∈ fp := W.sub I (List.mem_singleton.mpr rfl)
  have hIlt : @LT.lt Nat instLTNat I s₂.heap.objs.size := hfp I hIf
  have hst₁ : St 0 h₁ := W.frame _ _ _ hst fun b _ o e => up b o e
  generalize hD' : s₂.heap.objs.size = D at *
  generalize hC' : H2.objs.size = C at *
  have hDC : @LT.lt Nat instLTNat D C := by omega
  have hC₀ : h₀.get? C = none := fresh₀ _ (Nat.le_of_lt hDC)
  have hD₀ : h₀.get? D = none := fresh₀ _ (Nat.le_refl _)
  have hCL : C ≠ L := fun e => by have q : @Eq Nat C L := e; omega
  have hDL : D ≠ L := fun e => by have q : @Eq Nat D L := e; omega
  have hCI : C ≠ I := fun e => by have q : @Eq Nat C I := e; omega
  have hDI : D ≠ I := fun e => by have q : @Eq Nat D I := e; omega
  have hCD : C ≠ D := fun e => by have q : @Eq Nat C D := e; omega
  have loop : ∀ s₃ : Shared, s₃ = { s₂ with heap := h₁, toks := s₂.toks + ([] : List (Str × Value)).length } →
      codeAny (model prog w) A (.compLoop (.ListComp elt [⟨.Name x px, it0, [], 0⟩, ⟨.Name y py, it1, [], 0⟩] scope pos) 0 (.ref I) (.ref D) (compEnvC scope cl C env)) (compPost (model prog w) A E none Q (.ref D) C) s₃ := by
    rintro s₃ rfl
    refine compLoop_two0 (fun q s' => ∃ h' tk i ys m', s' = { s₂ with heap := h', toks := tk } ∧ i ≤ ks.length ∧ q = ks.length + 1 - i ∧ St i h' ∧ Fr h₀ L h' m ∧ h'.Ns C m' ∧ @LT.lt Nat instLTNat C h'.objs.size ∧
      News h₀ L h' ((D, lst ys) :: news) ∧ IntsAre ys (res2 (ks.take i) a n g)) ?_ (ks.length + 1)
      ⟨h₁, _, 0, [], _, rfl, Nat.zero_le _, rfl, hst₁, F.keeps up, hns₁, hns₁.lt, fun p hp => ?_, .nil⟩ (hs1 C)
    · rintro q s' ⟨h', tk, i, ys, m', rfl, hi, rfl, hst', F', hn', hlt', N', hok⟩
      have offI : ∀ p ∈ (D, lst ys) :: news, p.1 ≠ I := fun p hp => (List.mem_cons.mp hp).elim (fun e => by rw [e]; exact hDI) fun hp => Nat.ne_of_lt (off p hp)
      by_cases hlt : i < ks.length
      · refine W.item i _ _ _ hlt hst' fun v h₂ tk₂ hPv hst₂ hk₂ => ?_
        obtain ⟨k, t, hk, rfl⟩ := hP i v hPv hlt
        have hmem : k ∈ ks := List.mem_of_getElem? hk
        have N₂ : News h₀ L h₂ ((D, lst ys) :: news) := news_but N' hk₂ offI
        have hn₂ : h₂.Ns C m' := hn'.at' fun o e => hk₂ _ o (by simpa using hCI) e
        have F₂ : Fr h₀ L h₂ m := fr_but F' hk₂ (Ne.symm hIL) hI₀
        refine wpAny_assign_Name (wpAny_storeName_local (lookup_relabel_local hx) hn₂ (fun h₃ hn₃ hs₃ => ?_) (by simp [compEnvC, relabel, hkind]))
        obtain ⟨oC, heC, hoC⟩ := ns_obj hn₃
        obtain ⟨oI, heI₂⟩ := hIo _ _ hst₂
        have heI : h₃.get? I = some oI := hs₃.extBut _ _ (Ne.symm hCI) heI₂
        have F₃ : Fr h₀ L h₃ m := F₂.change hs₃ hCL hC₀
        have N₃ : News h₀ L h₃ ((I, oI) :: (C, oC) :: (D, lst ys) :: news) := fun p hp => by
          rcases List.mem_cons.mp hp with hp | hp
          · rw [hp]; exact ⟨heI, hIL, hI₀⟩
          rcases List.mem_cons.mp hp with hp | hp
          · rw [hp]; exact ⟨heC, hCL, hC₀⟩
          · have z := N₂ p hp
            refine ⟨hs₃.extBut _ _ ?_ z.1, z.2⟩
            rcases List.mem_cons.mp hp with hp | hp
            · rw [hp]; exact Ne.symm hCD
            · have := lt p hp
              exact Nat.ne_of_lt (Nat.lt_trans this hDC)
        have hst₃ : St (i + 1) h₃ := hSt _ _ _ _ hst₂ heI₂ heI F₃.keep fun p hp => N₃ p (.tail _ (.tail _ (.tail _ hp)))
        refine wpAny_mono (T.1 k t ys I C D oI oC _ h₃ _ _ hmem hoC (by simp) F₃ N₃) (fun xv s₄ h₄ => ?_) fun _ _ e => e
        obtain ⟨r, b, u1, u2, u3, rfl, hsm, hrs, hr, h₄', tk₄, rfl, F₄, N₄⟩ := h₄
        refine wpAny_pyIter_range hr hsm ?_
        have zC := N₄ (C, oC) (.tail _ (.head _))
        have hCn : h₄'.Ns C _ := hoC.ns zC.1
        have zCs : @LT.lt Nat instLTNat C h₄'.objs.size := Heap.lt_size zC.1
        dsimp only
        generalize hJ' : h₄'.objs.size = J at *
        have hpush : ∀ c o, h₄'.get? c = some o → (h₄'.push { cls := .type "range_iterator", data := .fields #[rawInt (a k), rawInt (Builtin.Range.rangeSize (a k) b 1), rawInt 1] }).get? c = some o := fun c o e => Heap.get?_push_of_some _ e
        have hJit : IsRangeIter (h₄'.push { cls := .type "range_iterator", data := .fields #[rawInt (a k), rawInt (Builtin.Range.rangeSize (a k) b 1), rawInt 1] }) J (a k) ((n k : Nat) : Int) 1 := by
          show Heap.get? _ J = _
          rw [← hrs, ← hJ']
          exact Heap.get?_push_size _ rfl
        have lt4 : ∀ p ∈ (I, oI) :: (C, oC) :: (D, lst ys) :: news, @LT.lt Nat instLTNat p.1 J := fun p hp => by rw [← hJ']; exact Heap.lt_size (N₄ p hp).1
        have hlen : ys.length ≤ 1000 * 1000 := by
          rw [hok.length]
          refine Nat.le_trans (res2_length fun j hj => hn j (List.mem_of_mem_take hj)) ?_
          rw [List.length_take]
          exact Nat.mul_le_mul_left 1000 (by omega)
        have inner : ∀ s₅ : Shared, s₅ = { s₂ with heap := h₄'.push { cls := .type "range_iterator", data := .fields #[rawInt (a k), rawInt (Builtin.Range.rangeSize (a k) b 1), rawInt 1] }, toks := tk₄ } → codeAny (model prog w) A (.compLoop (.ListComp elt [⟨.Name x px, it0, [], 0⟩, ⟨.Name y py, it1, [], 0⟩] scope pos) 1 (.ref J) (.ref D) (compEnvC scope cl C env))
            (fun r s₅ => match r with | .ok _ => (∃ m_1, m_1 < ks.length + 1 - i ∧ ∃ h' tk i ys m', s₅ = { s₂ with heap := h', toks := tk } ∧ i ≤ ks.length ∧ m_1 = ks.length + 1 - i ∧ St i h' ∧ Fr h₀ L h' m ∧ h'.Ns C m' ∧ @LT.lt Nat instLTNat C h'.objs.size ∧
              News h₀ L h' ((D, lst ys) :: news) ∧ IntsAre ys (res2 (ks.take i) a n g)) | .error _ => False) s₅ := by
          rintro s₅ rfl
          refine inner2 (s₁ := s₂) (h₀ := h₀) (L := L) (m := m) (I := I) (oI := oI) (mC := fun z => if z = x then some (.int k t) else m' z) (news := news) (ys₀ := ys) (a k) (n k) (g k) hh hkind hy (fun j t' ys' oJ oC' m₂ h tk E' hj1 hj2 hC2 hmy hmz F'' N'' => ?_) (F₄.keeps hpush) (fun p hp => ?_) hJit (hCn.at' fun o e => hpush _ o e)
            ?_ ?_ hCL hC₀ ?_ ?_ ?_ hCD hCI (Ne.symm hDI) ?_ ?_ ?_
          · exact T.2 k j t t' ys' I J C D oI oJ oC' m₂ h tk E' hmem hj1 hj2 hC2 (by rw [hmz x hxy]; simp) hmy F'' N''
          · have hp' : p ∈ (I, oI) :: (C, oC) :: (D, lst ys) :: news := (List.mem_cons.mp hp).elim (fun e => by rw [e]; exact .head _) fun h => .tail _ (.tail _ h)
            exact ⟨hpush _ _ (N₄ p hp').1, (N₄ p hp').2⟩
          · intro e; have q : @Eq Nat J L := e; have := F₄.ns.lt; have q2 : @LT.lt Nat instLTNat L h₄'.objs.size := this; omega
          · have q2 : @LT.lt Nat instLTNat L h₄'.objs.size := F₄.ns.lt
            exact Heap.get?_none_of_le (Nat.le_trans F₄.above (Nat.le_of_lt (by show @LT.lt Nat instLTNat L J; omega)))
          · exact Ne.symm (Nat.ne_of_lt (lt4 (C, oC) (.tail _ (.head _))))
          · exact Ne.symm (Nat.ne_of_lt (lt4 (D, lst ys) (.tail _ (.tail _ (.head _)))))
          · exact Ne.symm (Nat.ne_of_lt (lt4 (I, oI) (.head _)))
          · intro p hp
            have := lt p hp
            refine ⟨Nat.ne_of_lt (lt4 p (.tail _ (.tail _ (.tail _ hp)))), Nat.ne_of_lt (Nat.lt_trans this hDC), Nat.ne_of_lt this⟩
          · rw [sizeLine_eq]
            have := hn k hmem
            omega
          · intro zs h₆ tk₆ m₆ hz F₆ N₆ hn₆ _
            have heI₆ := (N₆ (I, oI) (.head _)).1
            refine ⟨ks.length + 1 - (i + 1), by omega, h₆, tk₆, i + 1, ys ++ zs, m₆, rfl, hlt, rfl, hSt _ _ _ _ hst₃ heI heI₆ F₆.keep (fun p hp => N₆ p (.tail _ (.tail _ hp))), F₆, hn₆, hn₆.lt, fun p hp => N₆ p (.tail _ hp), ?_⟩
            have e : res2 (ks.take (i + 1)) a n g = res2 (ks.take i) a n g ++ (rangeKs (a k) (n k)).map (g k) := by
              unfold res2
              rw [List.take_add_one, hk, List.flatMap_append]
              simp
            rw [e]
            exact hok.append hz
        exact compStart_two1 (inner _ rfl) ((range_walks (prog := prog) (w := w) (I := J) hh (a k) (n k)).self 0 _ _ _ (by simpa using hJit) (inner _ rfl))
      · obtain rfl : i = ks.length := Nat.le_antisymm hi (Nat.not_lt.mp hlt)
        refine W.done _ _ _ hst' fun h₂ tk₂ hk₂ => ?_
        rw [List.take_length] at hok
        have N₂ : News h₀ L h₂ ((D, lst ys) :: news) := news_but N' hk₂ offI
        have hn₂ : h₂.Ns C m' := hn'.at' fun o e => hk₂ _ o (by simpa using hCI) e
        have F₂ : Fr h₀ L h₂ m := fr_but F' hk₂ (Ne.symm hIL) hI₀
        refine ⟨m', hn₂, fun h'' hs'' => fin D ys h'' tk₂ hok (F₂.change hs'' hCL hC₀) (fun p hp => ⟨hs''.extBut _ _ ?_ (N₂ p hp).1, (N₂ p hp).2⟩) fun p hp => lt p hp⟩
        rcases List.mem_cons.mp hp with hp | hp
        · rw [hp]; exact Ne.symm hCD
        · exact Nat.ne_of_lt (Nat.lt_trans (lt p hp) hDC)
    · rcases List.mem_cons.mp hp with hp | hp
      · rw [hp]; exact ⟨old _ _ hDC hD, hDL, hD₀⟩
      · exact ⟨up _ _ (N p hp).1, (N p hp).2⟩
  exact codeAny_compStart_list (loop _ rfl) (W.self 0 _ _ _ hst₁ (loop _ rfl))
def Fin2 (h₀ : Heap) (L : Addr) (m : Str → Option Value) (Q : Value → Shared → Prop) (s₁ : Shared) (news : List (Addr × Obj)) (res : List Int) : Prop :=
  ∀ D ys h tk, IntsAre ys res → Fr h₀ L h m → News h₀ L h ((D, lst ys) :: news) → (∀ p ∈ news, p.1 < D) → Q (.ref D) { s₁ with heap := h, toks := tk }
def Src2L (prog : Program) (w : World) (A : Around) (h₀ : Heap) (L : Addr) (m : Str → Option Value) (env : Env) (elt it1 : PySem.Expr) (x y : Str) (scope : Scope) (cl : List (Str × Addr)) (Q : Value → Shared → Prop) (xv : Value) (s₁ : Shared) : Prop :=
  ∃ ax vs kk news ks a n g, xv = .ref ax ∧ A.handled = none ∧ Fr h₀ L s₁.heap m ∧ News h₀ L s₁.heap news ∧ (ax, listOf vs.toArray kk) ∈ news ∧ IntsAre vs ks ∧ ks.length ≤ 1000 ∧ (∀ k ∈ ks, n k ≤ 1000) ∧
    In2 prog w A h₀ L m env elt it1 x y scope cl news s₁ ks a n g ∧ Fin2 h₀ L m Q s₁ news (res2 ks a n g)
def Src2R (prog : Program) (w : World) (A : Around) (h₀ : Heap) (L : Addr) (m : Str → Option Value) (env : Env) (elt it1 : PySem.Expr) (x y : Str) (scope : Scope) (cl : List (Str × Addr)) (Q : Value → Shared → Prop) (xv : Value) (s₁ : Shared) : Prop :=
  ∃ r a0 b0 t u v n0 news a n g, xv = .ref r ∧ A.handled = none ∧ Fr h₀ L s₁.heap m ∧ News h₀ L s₁.heap news ∧ IsRange s₁.heap r a0 b0 1 t u v ∧ Builtin.Range.small a0 b0 1 = true ∧ Builtin.Range.rangeSize a0 b0 1 = ((n0 : Nat) : Int) ∧ n0 ≤ 1000 ∧ (∀ k ∈ rangeKs a0 n0, n k ≤ 1000) ∧
    In2 prog w A h₀ L m env elt it1 x y scope cl news s₁ (rangeKs a0 n0) a n g ∧ Fin2 h₀ L m Q s₁ news (res2 (rangeKs a0 n0) a n g)
theorem comp2L {elt it0 it1 : PySem.Expr} {x y : Str} {px py : Pos} {scope : Scope} {cl : List (Str × Addr)} {pos : Pos} {Q : Value → Shared → Prop} (_F₀ : Fr h₀ L s.heap m)
    (hclos : closureFor scope env = pure cl) (hcell : ∀ y ∈ scope.names, y.2 ≠ .cell) (hkind : scope.kind = .function)
    (hnames : ∀ y ∈ scope.names, y.2 = .local → scope.names.lookup y.1 = some .local) (hx : scope.names.lookup x = some .local) (hy : scope.names.lookup y = some .local) (hxy : x ≠ y)
    (h : wpAny (model prog w) A (eval it0 env) (Src2L prog w A h₀ L m env elt it1 x y scope cl Q) E s)
    (hs : ∀ x, foldedSetIterable it0 env x = pure x := by intro _; rfl) (hs1 : ∀ C x, foldedSetIterable it1 (compEnvC scope cl C env) x = pure x := by intro _ _; rfl) :
    wpAny (model prog w) A (eval (.ListComp elt [⟨.Name x px, it0, [], 0⟩, ⟨.Name y py, it1, [], 0⟩] scope pos) env) Q E s := by
  rw [eval_ListComp]
  refine wpAny_comprehension_free (use := none) rfl hs hclos hkind hnames (wpAny_mono h (fun xv s₁ h₁ => ?_) fun _ _ e => e)
  obtain ⟨ax, vs, kk, news, ks, a, n, g, rfl, hh, F, N, hm, hi, hz, hn, T, fin⟩ := h₁
  have hl : s₁.heap.IsList ax vs.toArray := ⟨_, (N _ hm).1, rfl, kk, rfl⟩
  have hlt : ax < s₁.heap.objs.size := by obtain ⟨_, e, _⟩ := hl; exact Heap.lt_size e
  refine wpAny_pyIter_list hl ?_
  have up : ∀ b o, s₁.heap.get? b = some o → (s₁.heap.push { cls := .type "list_iterator", data := .fields #[.ref ax, .int 0 0] }).get? b = some o := fun b o e => Heap.get?_push_of_some _ e
  have W := Walks.list (prog := prog) (w := w) hh s₁.heap.objs.size ax (Nat.ne_of_lt hlt) vs.toArray
  have hvl : vs.toArray.size = ks.length := by simp [hi.length]
  rw [hvl] at W
  refine block2 (h₀ := h₀) (L := L) (m := m) (s₂ := { s₁ with heap := s₁.heap.push { cls := .type "list_iterator", data := .fields #[.ref ax, .int 0 0] } }) W (fun i v hv _ => ?_) hz hn (fun i h st => by obtain ⟨o, e, _⟩ := st.1; exact ⟨o, e⟩) (fun i h h' o st e e' k N' => ?_) hcell hkind hx hy hxy hh ⟨⟨_, Heap.get?_push_size _ rfl, rfl, rfl⟩, hl.push _⟩ (fun b hb => ?_)
      (F.keeps up) (fun p hp => ⟨up _ _ (N p hp).1, (N p hp).2⟩) (Ne.symm (Nat.ne_of_lt F.ns.lt)) (next_is_new F) (fun p hp => Heap.lt_size (N p hp).1) T (hs1 ·) fin
  · obtain ⟨k, t, e1, e2⟩ := IntsAre.at hi i v (by simpa using hv)
    exact ⟨k, t, e2, e1⟩
  · exact ⟨by obtain ⟨o', q, r⟩ := st.1; rw [e] at q; cases q; exact ⟨o, e', r⟩, ⟨_, (N' _ hm).1, rfl, kk, rfl⟩⟩
  · show b < (s₁.heap.push _).objs.size
    rw [Heap.size_push]
    rcases List.mem_cons.mp hb with rfl | hb
    · exact Nat.lt_succ_self _
    · rw [List.mem_singleton.mp hb]; exact Nat.lt_succ_of_lt hlt
theorem comp2R {elt it0 it1 : PySem.Expr} {x y : Str} {px py : Pos} {scope : Scope} {cl : List (Str × Addr)} {pos : Pos} {Q : Value → Shared → Prop} (_F₀ : Fr h₀ L s.heap m)
    (hclos : closureFor scope env = pure cl) (hcell : ∀ y ∈ scope.names, y.2 ≠ .cell) (hkind : scope.kind = .function)
    (hnames : ∀ y ∈ scope.names, y.2 = .local → scope.names.lookup y.1 = some .local) (hx : scope.names.lookup x = some .local) (hy : scope.names.lookup y = some .local) (hxy : x ≠ y)
    (h : wpAny (model prog w) A (eval it0 env) (Src2R prog w A h₀ L m env elt it1 x y scope cl Q) E s)
    (hs : ∀ x, foldedSetIterable it0 env x = pure x := by intro _; rfl) (hs1 : ∀ C x, foldedSetIterable it1 (compEnvC scope cl C env) x = pure x := by intro _ _; rfl) :
    wpAny (model prog w) A (eval (.ListComp elt [⟨.Name x px, it0, [], 0⟩, ⟨.Name y py, it1, [], 0⟩] scope pos) env) Q E s := by
  rw [eval_ListComp]
  refine wpAny_comprehension_free (use := none) rfl hs hclos hkind hnames (wpAny_mono h (fun xv s₁ h₁ => ?_) fun _ _ e => e)
  obtain ⟨r, a0, b0, t, u, v, n0, news, a, n, g, rfl, hh, F, N, hr, hsm, hn0, hz, hn, T, fin⟩ := h₁
  refine wpAny_pyIter_range hr hsm ?_
  have W := range_walks (prog := prog) (w := w) (I := s₁.heap.objs.size) hh a0 n0
  rw [← rangeKs_length a0 n0] at W
  refine block2 (h₀ := h₀) (L := L) (m := m) (s₂ := { s₁ with heap := s₁.heap.push { cls := .type "range_iterator", data := .fields #[rawInt a0, rawInt (Builtin.Range.rangeSize a0 b0 1), rawInt 1] } }) W (fun i v hv hi => ?_) (by rw [rangeKs_length]; exact hz) hn (fun i h st => ⟨_, st⟩) (fun i h h' o st e e' k N' => ?_) hcell hkind hx hy hxy hh (by show IsRangeIter _ _ _ _ _; rw [hn0, rangeKs_length]; simpa using Heap.get?_push_size _ rfl) (fun b hb => ?_)
      (F.keeps fun _ _ e => Heap.get?_push_of_some _ e) (fun p hp => ⟨Heap.get?_push_of_some _ (N p hp).1, (N p hp).2⟩) (Ne.symm (Nat.ne_of_lt F.ns.lt)) (next_is_new F) (fun p hp => Heap.lt_size (N p hp).1) T (hs1 ·) fin
  · obtain ⟨t, rfl⟩ := hv
    rw [rangeKs_length] at hi
    exact ⟨_, t, by simp [rangeKs, hi], rfl⟩
  · have st' : h.get? s₁.heap.objs.size = some _ := st
    show h'.get? s₁.heap.objs.size = some _
    rw [e', ← e]; exact st'
  · rw [List.mem_singleton.mp hb]
    show s₁.heap.objs.size < (s₁.heap.push _).objs.size
    rw [Heap.size_push]; exact Nat.lt_succ_self _
end
end Mine
namespace Mine
section
variable {prog : Program} {w : World} {A : Around} {E : Value → Shared → Prop} {s : Shared} {h₀ : Heap} {L : Addr} {m : Str → Option Value}
abbrev rangeObj (a b : Int) (t u v : Tok) : Obj := { cls := .type "range", dict := none, data := .fields #[.int a t, .int b u, .int 1 v], slots := #[] }
theorem rangeLed {Q : Value → Shared → Prop} {a b : Int} {t u : Tok} {news : List (Addr × Obj)} (F : Fr h₀ L s.heap m) (N : News h₀ L s.heap news)
    (h : ∀ r h' tk t₁ u₁ v₁, Fr h₀ L h' m → News h₀ L h' ((r, rangeObj a b t₁ u₁ v₁) :: news) → (∀ p ∈ news, p.1 < r) → Q (.ref r) { s with heap := h', toks := tk }) :
    wpAny (model prog w) A (call (.type "range") [.int a t, .int b u]) Q E s :=
  range2_rows F N fun h' tk t₁ u₁ v₁ hr F' N' _ => h _ h' tk t₁ u₁ v₁ F' (fun p hp => by
    rcases List.mem_cons.mp hp with hp | hp
    · rw [hp]
      exact ⟨hr, Ne.symm (Nat.ne_of_lt F.ns.lt), next_is_new F⟩
    · exact N' p hp) fun p hp => Heap.lt_size (N p hp).1
end
end Mine
end PartCd

section PartCe
open PySem PySem.W PySem.Spec PySem.Calls PyProof.Rows PyProof.Rows.LCg
set_option maxRecDepth 100000
set_option maxHeartbeats 2000000
namespace Mine
section
variable {prog : Program} {w : World} {A : Around} {E : Value → Shared → Prop} {s : Shared} {h₀ : Heap} {L : Addr} {m : Str → Option Value} {env : Env}
/-- what a turn of a block asks: the tests say p, the element is the int g; the ledger stays -/
def In1 (prog : Program) (w : World) (A : Around) (h₀ : Heap) (L : Addr) (m : Str → Option Value) (env : Env) (elt : PySem.Expr) (ifs : List PySem.Expr) (x : Str) (scope : Scope) (cl : List (Str × Addr)) (news : List (Addr × Obj)) (s₁ : Shared) {α : Type} (xs : List α) (V : α → Value → Prop) (p : α → Bool) (g : α → Int) : Prop :=
  (∀ (a : α) (v : Value) (ys : List Value) (I C D : Addr) (oI oC : Obj) (m₂ : Str → Option Value) (h : Heap) (tk : Nat) (E' : Value → Shared → Prop), a ∈ xs → V a v → NsObj oC m₂ → m₂ x = some v → Fr h₀ L h m → News h₀ L h ((I, oI) :: (C, oC) :: (D, lst ys) :: news) →
    wpAny (model prog w) A (forIn ifs true fun c r => if r = true then do let ok ← isTrue c (compEnvC scope cl C env) (eval c (compEnvC scope cl C env)); pure (ForInStep.yield ok) else pure (ForInStep.yield r))
      (fun b s' => b = p a ∧ ∃ h' tk', s' = { s₁ with heap := h', toks := tk' } ∧ Fr h₀ L h' m ∧ News h₀ L h' ((I, oI) :: (C, oC) :: (D, lst ys) :: news)) E' { s₁ with heap := h, toks := tk }) ∧
  (∀ (a : α) (v : Value) (ys : List Value) (I C D : Addr) (oI oC : Obj) (m₂ : Str → Option Value) (h : Heap) (tk : Nat) (E' : Value → Shared → Prop), a ∈ xs → V a v → p a = true → NsObj oC m₂ → m₂ x = some v → Fr h₀ L h m → News h₀ L h ((I, oI) :: (C, oC) :: (D, lst ys) :: news) →
    wpAny (model prog w) A (eval elt (compEnvC scope cl C env))
      (fun z s' => (∃ t', z = .int (g a) t') ∧ ∃ h' tk', s' = { s₁ with heap := h', toks := tk' } ∧ Fr h₀ L h' m ∧ News h₀ L h' ((I, oI) :: (C, oC) :: (D, lst ys) :: news)) E' { s₁ with heap := h, toks := tk })
theorem In1.plain {elt : PySem.Expr} {x : Str} {scope : Scope} {cl : List (Str × Addr)} {news : List (Addr × Obj)} {s₁ : Shared} {α : Type} {xs : List α} {V : α → Value → Prop} {g : α → Int}
    (h : ∀ (a : α) (v : Value) (ys : List Value) (I C D : Addr) (oI oC : Obj) (m₂ : Str → Option Value) (h : Heap) (tk : Nat) (E' : Value → Shared → Prop), a ∈ xs → V a v → NsObj oC m₂ → m₂ x = some v → Fr h₀ L h m → News h₀ L h ((I, oI) :: (C, oC) :: (D, lst ys) :: news) →
      wpAny (model prog w) A (eval elt (compEnvC scope cl C env))
        (fun z s' => (∃ t', z = .int (g a) t') ∧ ∃ h' tk', s' = { s₁ with heap := h', toks := tk' } ∧ Fr h₀ L h' m ∧ News h₀ L h' ((I, oI) :: (C, oC) :: (D, lst ys) :: news)) E' { s₁ with heap := h, toks := tk }) :
    In1 prog w A h₀ L m env elt [] x scope cl news s₁ xs V (fun _ => true) g :=
  ⟨fun _ _ _ _ _ _ _ _ _ _ _ _ _ _ _ _ F N => wpAny_tests_nil ⟨rfl, _, _, rfl, F, N⟩, fun a v ys I C D oI oC m₂ h' tk E' ha hv _ => h a v ys I C D oI oC m₂ h' tk E' ha hv⟩
theorem block1 {elt it0 : PySem.Expr} {ifs : List PySem.Expr} {x : Str} {px : Pos} {scope : Scope} {cl : List (Str × Addr)} {pos : Pos} {s₂ : Shared} {I : Addr} {fp : List Addr} {P : Nat → Value → Prop} {St : Nat → Heap → Prop} {news : List (Addr × Obj)}
    {α : Type} {xs : List α} {V : α → Value → Prop} {p : α → Bool} {g : α → Int} {RR : Value → Addr → Result → Shared → Prop}
    (W : Walks prog w A I fp [I] xs.length P St) (hP : ∀ i v, P i v → i < xs.length → ∃ a, xs[i]? = some a ∧ V a v) (hsz : xs.length ≤ 1000) (hIo : ∀ i h, St i h → ∃ o, h.get? I = some o)
    (hSt : ∀ i h h' o, St i h → h.get? I = some o → h'.get? I = some o → (∀ b o, h₀.get? b = some o → h'.get? b = some o) → News h₀ L h' news → St i h')
    (hcell : ∀ y ∈ scope.names, y.2 ≠ .cell) (hkind : scope.kind = .function) (hx : scope.names.lookup x = some .local) (hst : St 0 s₂.heap) (hfp : ∀ b ∈ fp, b < s₂.heap.objs.size)
    (F : Fr h₀ L s₂.heap m) (N : News h₀ L s₂.heap news) (hIL : I ≠ L) (hI₀ : h₀.get? I = none) (off : ∀ q ∈ news, q.1 < I) (T : In1 prog w A h₀ L m env elt ifs x scope cl news s₂ xs V p g)
    (fin : ∀ D C ys h tk m', IntsAre ys ((xs.filter p).map g) → Fr h₀ L h m → News h₀ L h ((D, lst ys) :: news) → (∀ q ∈ news, q.1 < D) → h.Ns C m' → h₀.get? C = none → C ≠ L → C ≠ D → (∀ q ∈ news, q.1 ≠ C) → RR (.ref D) C (.ok .next) { s₂ with heap := h, toks := tk }) :
    wpAny (model prog w) A (newList []) (fun acc s₃ => wpAny (model prog w) A (newFunctionEnv scope env.globals cl [] env.qual none .none (some env)) (fun cenv s₄ =>
      codeAny (model prog w) A (.compStart (.ListComp elt [⟨.Name x px, it0, ifs, 0⟩] scope pos) 0 (.ref I) acc { cenv with scope := relabel scope env }) (RR acc cenv.locals) s₄) E s₃) E s₂ := by
  refine wpAny_newObj_type (wpAny_newFunctionEnv hcell (by intro y hy; simp at hy) (fun h₁ hns₁ hsb₁ => ?_) hkind)
  dsimp only at hns₁ hsb₁ ⊢
  generalize hH2 : s₂.heap.push { cls := .type "list", dict := none, data := .seq ([] : List Value).toArray } = H2 at hns₁ hsb₁ ⊢
  have z2 : H2.objs.size = s₂.heap.objs.size + 1 := by rw [← hH2, Heap.size_push]
  have g2 : ∀ b o, s₂.heap.get? b = some o → H2.get? b = some o := fun b o e => hH2 ▸ Heap.get?_push_of_some _ e
  have hD : H2.get? s₂.heap.objs.size = some (lst []) := hH2 ▸ Heap.get?_push_size _ rfl
  have old : ∀ b o, @LT.lt Nat instLTNat b H2.objs.size → H2.get? b = some o → h₁.get? b = some o := fun b o hb e => hsb₁.extBut b o (Nat.ne_of_lt hb) (Heap.get?_push_of_some _ e)
  have up : ∀ b o, s₂.heap.get? b = some o → h₁.get? b = some o := fun b o e => old b o (by have := Heap.lt_size e; have q : @LT.lt Nat instLTNat b s₂.heap.objs.size := this; omega) (g2 _ _ e)
  have hLlt : @LT.lt Nat instLTNat L s₂.heap.objs.size := F.ns.lt
  have fresh₀ : ∀ a, @LE.le Nat instLENat s₂.heap.objs.size a → h₀.get? a = none := fun a ha => Heap.get?_none_of_le (Nat.le_trans F.above (Nat.le_trans (Nat.le_of_lt hLlt) ha))
  have lt : ∀ q ∈ news, @LT.lt Nat instLTNat q.1 s₂.heap.objs.size := fun q hq => Heap.lt_size (N q hq).1
  have hIf : I ∈ fp := W.sub I (List.mem_singleton.mpr rfl)
  have hIlt : @LT.lt Nat instLTNat I s₂.heap.objs.size := hfp I hIf
  have hst₁ : St 0 h₁ := W.frame _ _ _ hst fun b _ o e => up b o e
  generalize hD' : s₂.heap.objs.size = D at *
  generalize hC' : H2.objs.size = C at *
  have hDC : @LT.lt Nat instLTNat D C := by omega
  have hC₀ : h₀.get? C = none := fresh₀ _ (Nat.le_of_lt hDC)
  have hD₀ : h₀.get? D = none := fresh₀ _ (Nat.le_refl _)
  have hCL : C ≠ L := fun e => by have q : @Eq Nat C L := e; omega
  have hDL : D ≠ L := fun e => by have q : @Eq Nat D L := e; omega
  have hCI : C ≠ I := fun e => by have q : @Eq Nat C I := e; omega
  have hDI : D ≠ I := fun e => by have q : @Eq Nat D I := e; omega
  have hCD : C ≠ D := fun e => by have q : @Eq Nat C D := e; omega
  have ltC : ∀ q ∈ news, q.1 ≠ C := fun q hq => Nat.ne_of_lt (Nat.lt_trans (lt q hq) hDC)
  have loop : ∀ s₃ : Shared, s₃ = { s₂ with heap := h₁, toks := s₂.toks + ([] : List (Str × Value)).length } →
      codeAny (model prog w) A (.compLoop (.ListComp elt [⟨.Name x px, it0, ifs, 0⟩] scope pos) 0 (.ref I) (.ref D) (compEnvC scope cl C env)) (RR (.ref D) C) s₃ := by
    rintro s₃ rfl
    refine codeAny_compLoop_tests (fun q s' => ∃ h' tk i ys m', s' = { s₂ with heap := h', toks := tk } ∧ i ≤ xs.length ∧ q = xs.length + 1 - i ∧ St i h' ∧ Fr h₀ L h' m ∧ h'.Ns C m' ∧
      News h₀ L h' ((D, lst ys) :: news) ∧ IntsAre ys (((xs.take i).filter p).map g)) ?_ (xs.length + 1)
      ⟨h₁, _, 0, [], _, rfl, Nat.zero_le _, rfl, hst₁, F.keeps up, hns₁, fun q hq => ?_, .nil⟩
    · rintro q s' ⟨h', tk, i, ys, m', rfl, hi, rfl, hst', F', hn', N', hok⟩
      have offI : ∀ q ∈ (D, lst ys) :: news, q.1 ≠ I := fun q hq => (List.mem_cons.mp hq).elim (fun e => by rw [e]; exact hDI) fun hq => Nat.ne_of_lt (off q hq)
      by_cases hlt : i < xs.length
      · refine W.item i _ _ _ hlt hst' fun v h₂ tk₂ hPv hst₂ hk₂ => ?_
        obtain ⟨a, ha, hv⟩ := hP i v hPv hlt
        have hmem : a ∈ xs := List.mem_of_getElem? ha
        have N₂ : News h₀ L h₂ ((D, lst ys) :: news) := news_but N' hk₂ offI
        have hn₂ : h₂.Ns C m' := hn'.at' fun o e => hk₂ _ o (by simpa using hCI) e
        have F₂ : Fr h₀ L h₂ m := fr_but F' hk₂ (Ne.symm hIL) hI₀
        refine wpAny_assign_Name (wpAny_storeName_local (lookup_relabel_local hx) hn₂ (fun h₃ hn₃ hs₃ => ?_) (by simp [compEnvC, relabel, hkind]))
        obtain ⟨oC, heC, hoC⟩ := ns_obj hn₃
        obtain ⟨oI, heI₂⟩ := hIo _ _ hst₂
        have heI : h₃.get? I = some oI := hs₃.extBut _ _ (Ne.symm hCI) heI₂
        have F₃ : Fr h₀ L h₃ m := F₂.change hs₃ hCL hC₀
        have N₃ : News h₀ L h₃ ((I, oI) :: (C, oC) :: (D, lst ys) :: news) := fun q hq => by
          rcases List.mem_cons.mp hq with hq | hq
          · rw [hq]; exact ⟨heI, hIL, hI₀⟩
          rcases List.mem_cons.mp hq with hq | hq
          · rw [hq]; exact ⟨heC, hCL, hC₀⟩
          · have z := N₂ q hq
            refine ⟨hs₃.extBut _ _ ?_ z.1, z.2⟩
            rcases List.mem_cons.mp hq with hq | hq
            · rw [hq]; exact Ne.symm hCD
            · exact ltC q hq
        have hst₃ : St (i + 1) h₃ := hSt _ _ _ _ hst₂ heI₂ heI F₃.keep fun q hq => N₃ q (.tail _ (.tail _ (.tail _ hq)))
        have hs : xs.take (i + 1) = xs.take i ++ [a] := by rw [List.take_add_one, ha]; rfl
        have hlen : ys.length ≤ i := by
          rw [hok.length, List.length_map]
          refine Nat.le_trans (List.length_filter_le _ _) ?_
          rw [List.length_take]; omega
        refine wpAny_mono (T.1 a v ys I C D oI oC _ h₃ _ _ hmem hv hoC (by simp) F₃ N₃) (fun b s₄ h₄ => ?_) fun _ _ e => e
        obtain ⟨hb, h₄', tk₄, rfl, F₄, N₄⟩ := h₄
        have hst₄ : St (i + 1) h₄' := hSt _ _ _ _ hst₃ heI (N₄ (I, oI) (.head _)).1 F₄.keep fun q hq => N₄ q (.tail _ (.tail _ (.tail _ hq)))
        by_cases hbt : b = true
        · rw [if_pos hbt]
          have hpa : p a = true := by rw [← hb]; exact hbt
          refine wpAny_mono (T.2 a v ys I C D oI oC _ h₄' _ _ hmem hv hpa hoC (by simp) F₄ N₄) (fun z s₅ h₅ => ?_) fun _ _ e => e
          obtain ⟨⟨t', rfl⟩, h₅', tk₅, rfl, F₅, N₅⟩ := h₅
          have hst₅ : St (i + 1) h₅' := hSt _ _ _ _ hst₄ (N₄ (I, oI) (.head _)).1 (N₅ (I, oI) (.head _)).1 F₅.keep fun q hq => N₅ q (.tail _ (.tail _ (.tail _ hq)))
          have zI := N₅ (I, oI) (.head _)
          have zC := N₅ (C, oC) (.tail _ (.head _))
          have zD := N₅ (D, lst ys) (.tail _ (.tail _ (.head _)))
          refine append_at (hsz := by show ys.toArray.size ≤ sizeLine; rw [List.size_toArray, sizeLine_eq]; omega) zD.1 fun h₆ hs₆ hD₆ => ?_
          have N₆ : News h₀ L h₆ news := fun q hq => by
            have z := N₅ q (.tail _ (.tail _ (.tail _ hq)))
            exact ⟨hs₆.extBut _ _ (Nat.ne_of_lt (lt q hq)) z.1, z.2⟩
          have F₆ := F₅.change hs₆ hDL hD₀
          refine ⟨xs.length + 1 - (i + 1), by omega, h₆, tk₅, i + 1, ys ++ [.int (g a) t'], _, rfl, hlt, rfl, hSt _ _ _ _ hst₅ zI.1 (hs₆.extBut _ _ (Ne.symm hDI) zI.1) F₆.keep N₆, F₆, (hoC.ns zC.1).sameBut hs₆ hCD, fun q hq => ?_, ?_⟩
          · rcases List.mem_cons.mp hq with hq | hq
            · rw [hq]; exact ⟨hD₆.trans (congrArg some (lst_snoc ys _)), zD.2⟩
            · exact N₆ q hq
          · rw [hs, List.filter_append, List.map_append, List.filter_cons_of_pos hpa, List.filter_nil]
            exact hok.append (.cons _ t' .nil)
        · rw [if_neg hbt]
          have hpa : ¬ p a = true := by rw [← hb]; exact hbt
          have zC := N₄ (C, oC) (.tail _ (.head _))
          refine ⟨xs.length + 1 - (i + 1), by omega, h₄', tk₄, i + 1, ys, _, rfl, hlt, rfl, hst₄, F₄, hoC.ns zC.1, fun q hq => N₄ q (.tail _ (.tail _ hq)), ?_⟩
          rw [hs, List.filter_append, List.filter_cons_of_neg hpa, List.filter_nil, List.append_nil]
          exact hok
      · obtain rfl : i = xs.length := Nat.le_antisymm hi (Nat.not_lt.mp hlt)
        refine W.done _ _ _ hst' fun h₂ tk₂ hk₂ => ?_
        rw [List.take_length] at hok
        exact fin D C ys h₂ tk₂ m' hok (fr_but F' hk₂ (Ne.symm hIL) hI₀) (news_but N' hk₂ offI) (fun q hq => lt q hq) (hn'.at' fun o e => hk₂ _ o (by simpa using hCI) e) hC₀ hCL hCD ltC
    · rcases List.mem_cons.mp hq with hq | hq
      · rw [hq]; exact ⟨old _ _ hDC hD, hDL, hD₀⟩
      · exact ⟨up _ _ (N q hq).1, (N q hq).2⟩
  exact codeAny_compStart_list (loop _ rfl) (W.self 0 _ _ _ hst₁ (loop _ rfl))
theorem comp_ok {C : Addr} {D : Addr} {Q : Value → Shared → Prop} {news : List (Addr × Obj)} {ys : List Value} {h : Heap} {tk : Nat} {s₂ : Shared} {m' : Str → Option Value} {A : Around}
    (F : Fr h₀ L h m) (N : News h₀ L h ((D, lst ys) :: news)) (hn : h.Ns C m') (hC₀ : h₀.get? C = none) (hCL : C ≠ L) (hCD : C ≠ D) (offC : ∀ q ∈ news, q.1 ≠ C)
    (fin : ∀ h tk, Fr h₀ L h m → News h₀ L h ((D, lst ys) :: news) → Q (.ref D) { s₂ with heap := h, toks := tk }) : compPost (model prog w) A E none Q (.ref D) C (.ok .next) { s₂ with heap := h, toks := tk } :=
  ⟨m', hn, fun h'' hs'' => fin h'' tk (F.change hs'' hCL hC₀) fun q hq => ⟨hs''.extBut _ _ ((List.mem_cons.mp hq).elim (fun e => by rw [e]; exact Ne.symm hCD) fun hq => offC q hq) (N q hq).1, (N q hq).2⟩⟩
def Fin1 (h₀ : Heap) (L : Addr) (m : Str → Option Value) (Q : Value → Shared → Prop) (s₁ : Shared) (news : List (Addr × Obj)) (res : List Int) : Prop :=
  ∀ D ys h tk, IntsAre ys res → Fr h₀ L h m → News h₀ L h ((D, lst ys) :: news) → (∀ q ∈ news, q.1 < D) → Q (.ref D) { s₁ with heap := h, toks := tk }
def Src1L (prog : Program) (w : World) (A : Around) (h₀ : Heap) (L : Addr) (m : Str → Option Value) (env : Env) (elt : PySem.Expr) (ifs : List PySem.Expr) (x : Str) (scope : Scope) (cl : List (Str × Addr)) (Q : Value → Shared → Prop) {α : Type} (xv : Value) (s₁ : Shared) : Prop :=
  ∃ (ax : Addr) (vs : List Value) (kk : Nat) (news : List (Addr × Obj)) (xs : List α) (V : α → Value → Prop) (p : α → Bool) (g : α → Int), xv = .ref ax ∧ A.handled = none ∧ Fr h₀ L s₁.heap m ∧ News h₀ L s₁.heap news ∧ (ax, listOf vs.toArray kk) ∈ news ∧ vs.length = xs.length ∧ (∀ (i : Nat) (v : Value), vs[i]? = some v → ∃ a, xs[i]? = some a ∧ V a v) ∧ xs.length ≤ 1000 ∧
    In1 prog w A h₀ L m env elt ifs x scope cl news s₁ xs V p g ∧ Fin1 h₀ L m Q s₁ news ((xs.filter p).map g)
def Src1R (prog : Program) (w : World) (A : Around) (h₀ : Heap) (L : Addr) (m : Str → Option Value) (env : Env) (elt : PySem.Expr) (ifs : List PySem.Expr) (x : Str) (scope : Scope) (cl : List (Str × Addr)) (Q : Value → Shared → Prop) (xv : Value) (s₁ : Shared) : Prop :=
  ∃ r a0 b0 t u v n0 news p g, xv = .ref r ∧ A.handled = none ∧ Fr h₀ L s₁.heap m ∧ News h₀ L s₁.heap news ∧ IsRange s₁.heap r a0 b0 1 t u v ∧ Builtin.Range.small a0 b0 1 = true ∧ Builtin.Range.rangeSize a0 b0 1 = ((n0 : Nat) : Int) ∧ n0 ≤ 1000 ∧
    In1 prog w A h₀ L m env elt ifs x scope cl news s₁ (rangeKs a0 n0) (fun k v => ∃ t, v = .int k t) p g ∧ Fin1 h₀ L m Q s₁ news (((rangeKs a0 n0).filter p).map g)
theorem comp1L (α : Type) {elt it0 : PySem.Expr} {ifs : List PySem.Expr} {x : Str} {px : Pos} {scope : Scope} {cl : List (Str × Addr)} {pos : Pos} {Q : Value → Shared → Prop} (_F₀ : Fr h₀ L s.heap m)
    (hclos : closureFor scope env = pure cl) (hcell : ∀ y ∈ scope.names, y.2 ≠ .cell) (hkind : scope.kind = .function)
    (hnames : ∀ y ∈ scope.names, y.2 = .local → scope.names.lookup y.1 = some .local) (hx : scope.names.lookup x = some .local)
    (h : wpAny (model prog w) A (eval it0 env) (Src1L prog w A h₀ L m env elt ifs x scope cl Q (α := α)) E s)
    (hs : ∀ x, foldedSetIterable it0 env x = pure x := by intro _; rfl) :
    wpAny (model prog w) A (eval (.ListComp elt [⟨.Name x px, it0, ifs, 0⟩] scope pos) env) Q E s := by
  rw [eval_ListComp]
  refine wpAny_comprehension_free (use := none) rfl hs hclos hkind hnames (wpAny_mono h (fun xv s₁ h₁ => ?_) fun _ _ e => e)
  obtain ⟨ax, vs, kk, news, xs, V, p, g, rfl, hh, F, N, hm, hvl, hV, hz, T, fin⟩ := h₁
  have hl : s₁.heap.IsList ax vs.toArray := ⟨_, (N _ hm).1, rfl, kk, rfl⟩
  have hlt : ax < s₁.heap.objs.size := by obtain ⟨_, e, _⟩ := hl; exact Heap.lt_size e
  refine wpAny_pyIter_list hl ?_
  have up : ∀ b o, s₁.heap.get? b = some o → (s₁.heap.push { cls := .type "list_iterator", data := .fields #[.ref ax, .int 0 0] }).get? b = some o := fun b o e => Heap.get?_push_of_some _ e
  have W := Walks.list (prog := prog) (w := w) hh s₁.heap.objs.size ax (Nat.ne_of_lt hlt) vs.toArray
  have hvl' : vs.toArray.size = xs.length := by simp [hvl]
  rw [hvl'] at W
  refine block1 (h₀ := h₀) (L := L) (m := m) (s₂ := { s₁ with heap := s₁.heap.push { cls := .type "list_iterator", data := .fields #[.ref ax, .int 0 0] } }) (RR := fun acc C => compPost (model prog w) A E none Q acc C) W (fun i v hv _ => hV i v (by simpa using hv)) hz (fun i h st => by obtain ⟨o, e, _⟩ := st.1; exact ⟨o, e⟩) (fun i h h' o st e e' k N' => ?_) hcell hkind hx ⟨⟨_, Heap.get?_push_size _ rfl, rfl, rfl⟩, hl.push _⟩ (fun b hb => ?_)
      (F.keeps up) (fun q hq => ⟨up _ _ (N q hq).1, (N q hq).2⟩) (Ne.symm (Nat.ne_of_lt F.ns.lt)) (next_is_new F) (fun q hq => Heap.lt_size (N q hq).1) T
      (fun D C ys h tk m' hi F' N' l hn hC₀ hCL hCD offC => comp_ok F' N' hn hC₀ hCL hCD offC fun h tk F N => fin D ys h tk hi F N l)
  · exact ⟨by obtain ⟨o', q, r⟩ := st.1; rw [e] at q; cases q; exact ⟨o, e', r⟩, ⟨_, (N' _ hm).1, rfl, kk, rfl⟩⟩
  · show b < (s₁.heap.push _).objs.size
    rw [Heap.size_push]
    rcases List.mem_cons.mp hb with rfl | hb
    · exact Nat.lt_succ_self _
    · rw [List.mem_singleton.mp hb]; exact Nat.lt_succ_of_lt hlt
theorem comp1R {elt it0 : PySem.Expr} {ifs : List PySem.Expr} {x : Str} {px : Pos} {scope : Scope} {cl : List (Str × Addr)} {pos : Pos} {Q : Value → Shared → Prop} (_F₀ : Fr h₀ L s.heap m)
    (hclos : closureFor scope env = pure cl) (hcell : ∀ y ∈ scope.names, y.2 ≠ .cell) (hkind : scope.kind = .function)
    (hnames : ∀ y ∈ scope.names, y.2 = .local → scope.names.lookup y.1 = some .local) (hx : scope.names.lookup x = some .local)
    (h : wpAny (model prog w) A (eval it0 env) (Src1R prog w A h₀ L m env elt ifs x scope cl Q) E s)
    (hs : ∀ x, foldedSetIterable it0 env x = pure x := by intro _; rfl) :
    wpAny (model prog w) A (eval (.ListComp elt [⟨.Name x px, it0, ifs, 0⟩] scope pos) env) Q E s := by
  rw [eval_ListComp]
  refine wpAny_comprehension_free (use := none) rfl hs hclos hkind hnames (wpAny_mono h (fun xv s₁ h₁ => ?_) fun _ _ e => e)
  obtain ⟨r, a0, b0, t, u, v, n0, news, p, g, rfl, hh, F, N, hr, hsm, hn0, hz, T, fin⟩ := h₁
  refine wpAny_pyIter_range hr hsm ?_
  have W := range_walks (prog := prog) (w := w) (I := s₁.heap.objs.size) hh a0 n0
  rw [← rangeKs_length a0 n0] at W
  refine block1 (h₀ := h₀) (L := L) (m := m) (s₂ := { s₁ with heap := s₁.heap.push { cls := .type "range_iterator", data := .fields #[rawInt a0, rawInt (Builtin.Range.rangeSize a0 b0 1), rawInt 1] } }) (RR := fun acc C => compPost (model prog w) A E none Q acc C) W (fun i v hv hi => ?_) (by rw [rangeKs_length]; exact hz) (fun i h st => ⟨_, st⟩) (fun i h h' o st e e' k N' => ?_) hcell hkind hx (by show IsRangeIter _ _ _ _ _; rw [hn0, rangeKs_length]; simpa using Heap.get?_push_size _ rfl) (fun b hb => ?_)
      (F.keeps fun _ _ e => Heap.get?_push_of_some _ e) (fun q hq => ⟨Heap.get?_push_of_some _ (N q hq).1, (N q hq).2⟩) (Ne.symm (Nat.ne_of_lt F.ns.lt)) (next_is_new F) (fun q hq => Heap.lt_size (N q hq).1) T
      (fun D C ys h tk m' hi F' N' l hn hC₀ hCL hCD offC => comp_ok F' N' hn hC₀ hCL hCD offC fun h tk F N => fin D ys h tk hi F N l)
  · obtain ⟨t, rfl⟩ := hv
    rw [rangeKs_length] at hi
    exact ⟨_, by simp [rangeKs, hi], t, rfl⟩
  · have st' : h.get? s₁.heap.objs.size = some _ := st
    show h'.get? s₁.heap.objs.size = some _
    rw [e', ← e]; exact st'
  · rw [List.mem_singleton.mp hb]
    show s₁.heap.objs.size < (s₁.heap.push _).objs.size
    rw [Heap.size_push]; exact Nat.lt_succ_self _
end
end Mine
namespace Mine
section
variable {prog : Program} {w : World} {A : Around} {E : Value → Shared → Prop} {s : Shared} {h₀ : Heap} {L : Addr}
theorem countMeth {q : Addr} {ys : List Value} {news : List (Addr × Obj)} {pl : Sem Bool} {Q : Value × List Value → Shared → Prop} (N : News h₀ L s.heap news) (hm : (q, lst ys) ∈ news) (h : Q (.builtin "list.count", [.ref q]) s) :
    wpAny (model prog w) A (getMethod (.ref q) (Str.ofString "count") pl) Q E s :=
  getMethod_list_of (items := ys.toArray) PySem.F.slot_list_count PySem.F.type_list_count ⟨_, (N _ hm).1, rfl, _, rfl⟩ ⟨_, (N _ hm).1, rfl⟩ h
theorem countCall {q : Addr} {ys : List Value} {ns : List Int} {k : Int} {t : Tok} {news : List (Addr × Obj)} {Q : Value → Shared → Prop} (N : News h₀ L s.heap news) (hm : (q, lst ys) ∈ news) (hi : IntsAre ys ns) (h : ∀ t' tk', Q (.int ((ns.count k : Nat) : Int) t') { s with toks := tk' }) :
    wpAny (model prog w) A (call (.builtin "list.count") [.ref q, .int k t]) Q E s :=
  count_list_ints ⟨_, (N _ hm).1, rfl, _, rfl⟩ hi (h _ _)
end
end Mine
namespace Mine
theorem filter_all {α : Type} (l : List α) : l.filter (fun _ => true) = l := by
  induction l with
  | nil => rfl
  | cons a l ih => rw [List.filter_cons_of_pos rfl, ih]
end Mine
end PartCe

section PartCf
open PySem PySem.W PySem.Spec PySem.Calls PyProof.Rows PyProof.Rows.LCg
set_option maxRecDepth 100000
set_option maxHeartbeats 2000000
namespace Mine
section
variable {prog : Program} {w : World} {A : Around} {E : Value → Shared → Prop} {s : Shared} {h₀ : Heap} {L : Addr} {m : Str → Option Value} {env : Env}
abbrev cellObj (v : Option Value) : Obj := { cls := .type "cell", data := .cell v }
theorem newEnv_cell {scope : Scope} {cl : List (Str × Addr)} {x : Str} {g : Addr} {qual : Str} {Q : Env → Shared → Prop} (hcf : ∀ n, cellsFrom n scope.names cl = (x, n) :: cl) (hpc : ∀ h, pushCells h scope.names = h.push (cellObj none))
    (hQ : Q (newEnv scope s.heap.objs.size g ((x, s.heap.objs.size + 1) :: cl) qual none .none (some env) builtinsNs) { s with heap := (s.heap.push { cls := .type "dict", data := .dict #[] }).push (cellObj none) }) :
    wpAny (model prog w) A (newFunctionEnv scope g cl [] qual none .none (some env)) Q E s := by
  simp only [newFunctionEnv, Option.isSome_some, if_true]
  refine wpAny_bind (wpAny_alloc ?_)
  refine wpAny_bind (wpAny_layCells _ (fun name kind cells => by cases hkc : kind == NameKind.cell <;> simp) _ _ _ _ ?_)
  rw [hcf, hpc]
  rw [show ({ s with heap := s.heap.push { cls := .type "dict", data := .dict #[] } } : Shared).heap.objs.size = s.heap.objs.size + 1 from Heap.size_push ..]
  simp only [List.forIn_nil]
  exact wpAny_bind (wpAny_pure (wpAny_pure hQ))
/-- a turn of a block whose name is a cell of its own -/
def InC (prog : Program) (w : World) (A : Around) (h₀ : Heap) (L : Addr) (m : Str → Option Value) (env : Env) (elt ct : PySem.Expr) (x : Str) (scope : Scope) (cl : List (Str × Addr)) (news : List (Addr × Obj)) (s₁ : Shared) (ks : List Int) (p : Int → Bool) : Prop :=
  (∀ (k : Int) (t : Tok) (ys : List Value) (I C K D : Addr) (oI oC oK : Obj) (h : Heap) (tk : Nat) (E' : Value → Shared → Prop), k ∈ ks → oK.data = .cell (some (.int k t)) → Fr h₀ L h m → News h₀ L h ((I, oI) :: (C, oC) :: (K, oK) :: (D, lst ys) :: news) →
    wpAny (model prog w) A (isTrue ct (compEnvC scope ((x, K) :: cl) C env) (eval ct (compEnvC scope ((x, K) :: cl) C env)))
      (fun b s' => b = p k ∧ ∃ h' tk', s' = { s₁ with heap := h', toks := tk' } ∧ Fr h₀ L h' m ∧ News h₀ L h' ((I, oI) :: (C, oC) :: (K, oK) :: (D, lst ys) :: news)) E' { s₁ with heap := h, toks := tk }) ∧
  (∀ (k : Int) (t : Tok) (ys : List Value) (I C K D : Addr) (oI oC oK : Obj) (h : Heap) (tk : Nat) (E' : Value → Shared → Prop), k ∈ ks → p k = true → oK.data = .cell (some (.int k t)) → Fr h₀ L h m → News h₀ L h ((I, oI) :: (C, oC) :: (K, oK) :: (D, lst ys) :: news) →
    wpAny (model prog w) A (eval elt (compEnvC scope ((x, K) :: cl) C env))
      (fun z s' => (∃ t', z = .int k t') ∧ ∃ h' tk', s' = { s₁ with heap := h', toks := tk' } ∧ Fr h₀ L h' m ∧ News h₀ L h' ((I, oI) :: (C, oC) :: (K, oK) :: (D, lst ys) :: news)) E' { s₁ with heap := h, toks := tk })
theorem blockC {elt it0 ct : PySem.Expr} {x : Str} {px : Pos} {scope : Scope} {cl : List (Str × Addr)} {pos : Pos} {s₂ : Shared} {I : Addr} {a0 : Int} {n0 : Nat} {news : List (Addr × Obj)} {p : Int → Bool} {RR : Value → Addr → Result → Shared → Prop}
    (hh : A.handled = none) (hsz : n0 ≤ 1000) (hcf : ∀ n, cellsFrom n scope.names cl = (x, n) :: cl) (hpc : ∀ h, pushCells h scope.names = h.push (cellObj none)) (hkind : scope.kind = .function) (hxk : ∀ C K, (compEnvC scope ((x, K) :: cl) C env).kindOf x = some .cell) (henv : env.builtins = builtinsNs)
    (hst : IsRangeIter s₂.heap I a0 (n0 : Int) 1) (F : Fr h₀ L s₂.heap m) (N : News h₀ L s₂.heap news) (hIL : I ≠ L) (hI₀ : h₀.get? I = none) (off : ∀ q ∈ news, q.1 < I) (T : InC prog w A h₀ L m env elt ct x scope cl news s₂ (rangeKs a0 n0) p)
    (fin : ∀ D C ys h tk m', IntsAre ys ((rangeKs a0 n0).filter p) → Fr h₀ L h m → News h₀ L h ((D, lst ys) :: news) → (∀ q ∈ news, q.1 < D) → h.Ns C m' → h₀.get? C = none → C ≠ L → C ≠ D → (∀ q ∈ news, q.1 ≠ C) → RR (.ref D) C (.ok .next) { s₂ with heap := h, toks := tk }) :
    wpAny (model prog w) A (newList []) (fun acc s₃ => wpAny (model prog w) A (newFunctionEnv scope env.globals cl [] env.qual none .none (some env)) (fun cenv s₄ =>
      codeAny (model prog w) A (.compStart (.ListComp elt [⟨.Name x px, it0, [ct], 0⟩] scope pos) 0 (.ref I) acc { cenv with scope := relabel scope env }) (RR acc cenv.locals) s₄) E s₃) E s₂ := by
  refine wpAny_newObj_type (newEnv_cell hcf hpc ?_)
  dsimp only
  have hIlt : @LT.lt Nat instLTNat I s₂.heap.objs.size := Heap.lt_size hst
  generalize hH2 : s₂.heap.push { cls := .type "list", dict := none, data := .seq ([] : List Value).toArray } = H2
  have z2 : H2.objs.size = s₂.heap.objs.size + 1 := by rw [← hH2, Heap.size_push]
  generalize hH3 : H2.push { cls := .type "dict", data := .dict #[] } = H3
  have z3 : H3.objs.size = s₂.heap.objs.size + 2 := by rw [← hH3, Heap.size_push, z2]
  generalize hH4 : H3.push (cellObj none) = H4
  have z4 : H4.objs.size = s₂.heap.objs.size + 3 := by rw [← hH4, Heap.size_push, z3]
  have g34 : ∀ b o, H3.get? b = some o → H4.get? b = some o := fun b o e => hH4 ▸ Heap.get?_push_of_some _ e
  have g24 : ∀ b o, H2.get? b = some o → H4.get? b = some o := fun b o e => g34 _ _ (hH3 ▸ Heap.get?_push_of_some _ e)
  have up : ∀ b o, s₂.heap.get? b = some o → H4.get? b = some o := fun b o e => g24 _ _ (hH2 ▸ Heap.get?_push_of_some _ e)
  have hD : H4.get? s₂.heap.objs.size = some (lst []) := g24 _ _ (hH2 ▸ Heap.get?_push_size _ rfl)
  have hns : H4.Ns H2.objs.size (fun _ => none) := (Heap.Ns.new H2 (.type "dict")).keeps fun b o e => g34 _ _ (by rw [← hH3]; exact e)
  have hK : H4.get? (H2.objs.size + 1) = some (cellObj none) := by
    have e : H2.objs.size + 1 = H3.objs.size := by omega
    rw [e, ← hH4]; exact Heap.get?_push_size _ rfl
  have hLlt : @LT.lt Nat instLTNat L s₂.heap.objs.size := F.ns.lt
  have fresh₀ : ∀ a, @LE.le Nat instLENat s₂.heap.objs.size a → h₀.get? a = none := fun a ha => Heap.get?_none_of_le (Nat.le_trans F.above (Nat.le_trans (Nat.le_of_lt hLlt) ha))
  have lt : ∀ q ∈ news, @LT.lt Nat instLTNat q.1 s₂.heap.objs.size := fun q hq => Heap.lt_size (N q hq).1
  have hst₁ : IsRangeIter H4 I a0 (n0 : Int) 1 := up _ _ hst
  generalize hK' : H2.objs.size + 1 = K at *
  generalize hC' : H2.objs.size = C at *
  generalize hD' : s₂.heap.objs.size = D at *
  have hDC : @LT.lt Nat instLTNat D C := by omega
  have hCK : @LT.lt Nat instLTNat C K := by omega
  have hC₀ : h₀.get? C = none := fresh₀ _ (Nat.le_of_lt hDC)
  have hK₀ : h₀.get? K = none := fresh₀ _ (Nat.le_of_lt (Nat.lt_trans hDC hCK))
  have hD₀ : h₀.get? D = none := fresh₀ _ (Nat.le_refl _)
  have hCL : C ≠ L := fun e => by have q : @Eq Nat C L := e; omega
  have hKL : K ≠ L := fun e => by have q : @Eq Nat K L := e; omega
  have hDL : D ≠ L := fun e => by have q : @Eq Nat D L := e; omega
  have hCI : C ≠ I := fun e => by have q : @Eq Nat C I := e; omega
  have hKI : K ≠ I := fun e => by have q : @Eq Nat K I := e; omega
  have hDI : D ≠ I := fun e => by have q : @Eq Nat D I := e; omega
  have hCD : C ≠ D := fun e => by have q : @Eq Nat C D := e; omega
  have hKD : K ≠ D := fun e => by have q : @Eq Nat K D := e; omega
  have hKC : K ≠ C := fun e => by have q : @Eq Nat K C := e; omega
  have ltC : ∀ q ∈ news, q.1 ≠ C := fun q hq => Nat.ne_of_lt (Nat.lt_trans (lt q hq) hDC)
  have ltK : ∀ q ∈ news, q.1 ≠ K := fun q hq => Nat.ne_of_lt (Nat.lt_trans (lt q hq) (Nat.lt_trans hDC hCK))
  have W := range_walks (prog := prog) (w := w) (I := I) hh a0 n0
  have loop : ∀ s₃ : Shared, (∃ tk, s₃ = { s₂ with heap := H4, toks := tk }) →
      codeAny (model prog w) A (.compLoop (.ListComp elt [⟨.Name x px, it0, [ct], 0⟩] scope pos) 0 (.ref I) (.ref D) (compEnvC scope ((x, K) :: cl) C env)) (RR (.ref D) C) s₃ := by
    rintro s₃ ⟨tk₃, rfl⟩
    refine codeAny_compLoop_tests (fun q s' => ∃ h' tk i ys oC v₀, s' = { s₂ with heap := h', toks := tk } ∧ i ≤ n0 ∧ q = n0 + 1 - i ∧ IsRangeIter h' I (a0 + (i : Nat) * 1) ((n0 : Int) - (i : Nat)) 1 ∧ Fr h₀ L h' m ∧ NsObj oC (fun _ => none) ∧ h'.IsCell K v₀ ∧
      News h₀ L h' ((C, oC) :: (D, lst ys) :: news) ∧ IntsAre ys ((rangeKs a0 i).filter p)) ?_ (n0 + 1) ?_
    · rintro q s' ⟨h', tk, i, ys, oC, v₀, rfl, hi, rfl, hst', F', hoC, hK1, N', hok⟩
      have offI : ∀ q ∈ (C, oC) :: (D, lst ys) :: news, q.1 ≠ I := fun q hq => (List.mem_cons.mp hq).elim (fun e => by rw [e]; exact hCI) fun hq => (List.mem_cons.mp hq).elim (fun e => by rw [e]; exact hDI) fun hq => Nat.ne_of_lt (off q hq)
      have offK : ∀ q ∈ (C, oC) :: (D, lst ys) :: news, q.1 ≠ K := fun q hq => (List.mem_cons.mp hq).elim (fun e => by rw [e]; exact Ne.symm hKC) fun hq => (List.mem_cons.mp hq).elim (fun e => by rw [e]; exact Ne.symm hKD) fun hq => ltK q hq
      by_cases hlt : i < n0
      · refine W.item i _ _ _ hlt hst' fun v h₂ tk₂ hPv hst₂ hk₂ => ?_
        obtain ⟨t, rfl⟩ := hPv
        have hmem : a0 + (i : Int) ∈ rangeKs a0 n0 := by unfold rangeKs; exact List.mem_map.mpr ⟨i, List.mem_range.mpr hlt, rfl⟩
        have N₂ : News h₀ L h₂ ((C, oC) :: (D, lst ys) :: news) := news_but N' hk₂ offI
        have F₂ : Fr h₀ L h₂ m := fr_but F' hk₂ (Ne.symm hIL) hI₀
        have hK₂ : h₂.IsCell K v₀ := by obtain ⟨o, e1, e2⟩ := hK1; exact ⟨o, hk₂ _ _ (by simpa using hKI) e1, e2⟩
        refine wpAny_assign_Name (wpAny_storeName_cell (c := K) (by show (relabel scope env).kind = _; simpa [relabel] using hkind) (hxk C K) (by show List.lookup x ((x, K) :: cl) = _; simp) hK₂ fun h₃ hK₃ hs₃ => ?_)
        obtain ⟨oK, heK, hdK⟩ := hK₃
        have heI : h₃.get? I = some _ := hs₃.extBut _ _ (Ne.symm hKI) hst₂
        have F₃ : Fr h₀ L h₃ m := F₂.change hs₃ hKL hK₀
        have N₃' : News h₀ L h₃ ((C, oC) :: (D, lst ys) :: news) := fun q hq => ⟨hs₃.extBut _ _ (offK q hq) (N₂ q hq).1, (N₂ q hq).2⟩
        have N₃ : News h₀ L h₃ ((I, { cls := .type "range_iterator", dict := none, data := .fields #[rawInt (a0 + ((i + 1 : Nat) : Int) * 1), rawInt ((n0 : Int) - ((i + 1 : Nat) : Int)), rawInt 1], slots := #[] }) :: (C, oC) :: (K, oK) :: (D, lst ys) :: news) := fun q hq => by
          rcases List.mem_cons.mp hq with hq | hq
          · rw [hq]; exact ⟨heI, hIL, hI₀⟩
          rcases List.mem_cons.mp hq with hq | hq
          · rw [hq]; exact N₃' _ (.head _)
          rcases List.mem_cons.mp hq with hq | hq
          · rw [hq]; exact ⟨heK, hKL, hK₀⟩
          · exact N₃' q (.tail _ hq)
        have hs : rangeKs a0 (i + 1) = rangeKs a0 i ++ [a0 + (i : Int)] := rangeKs_succ a0 i
        have hlen : ys.length ≤ i := by
          rw [hok.length]
          refine Nat.le_trans (List.length_filter_le _ _) ?_
          rw [rangeKs_length]; exact Nat.le_refl _
        refine wpAny_tests_one (wpAny_mono (T.1 (a0 + (i : Int)) t ys I C K D _ oC oK h₃ _ _ hmem hdK F₃ N₃) (fun b s₄ h₄ => ?_) fun _ _ e => e)
        obtain ⟨hb, h₄', tk₄, rfl, F₄, N₄⟩ := h₄
        by_cases hbt : b = true
        · rw [if_pos hbt]
          have hpa : p (a0 + (i : Int)) = true := by rw [← hb]; exact hbt
          refine wpAny_mono (T.2 (a0 + (i : Int)) t ys I C K D _ oC oK h₄' _ _ hmem hpa hdK F₄ N₄) (fun z s₅ h₅ => ?_) fun _ _ e => e
          obtain ⟨⟨t', rfl⟩, h₅', tk₅, rfl, F₅, N₅⟩ := h₅
          have zI := (N₅ _ (.head _)).1
          have zK := N₅ (K, oK) (.tail _ (.tail _ (.head _)))
          have zD := N₅ (D, lst ys) (.tail _ (.tail _ (.tail _ (.head _))))
          refine append_at (hsz := by show ys.toArray.size ≤ sizeLine; rw [List.size_toArray, sizeLine_eq]; omega) zD.1 fun h₆ hs₆ hD₆ => ?_
          refine ⟨n0 + 1 - (i + 1), by omega, h₆, tk₅, i + 1, ys ++ [.int (a0 + (i : Int)) t'], oC, _, rfl, hlt, rfl, hs₆.extBut _ _ (Ne.symm hDI) zI, F₅.change hs₆ hDL hD₀, hoC, ⟨oK, hs₆.extBut _ _ hKD zK.1, hdK⟩, fun q hq => ?_, ?_⟩
          · rcases List.mem_cons.mp hq with hq | hq
            · rw [hq]
              have z := N₅ (C, oC) (.tail _ (.head _))
              exact ⟨hs₆.extBut _ _ hCD z.1, z.2⟩
            rcases List.mem_cons.mp hq with hq | hq
            · rw [hq]; exact ⟨hD₆.trans (congrArg some (lst_snoc ys _)), zD.2⟩
            · have z := N₅ q (.tail _ (.tail _ (.tail _ (.tail _ hq))))
              exact ⟨hs₆.extBut _ _ (Nat.ne_of_lt (lt q hq)) z.1, z.2⟩
          · rw [hs, List.filter_append, List.filter_cons_of_pos hpa, List.filter_nil]
            exact hok.append (.cons _ t' .nil)
        · rw [if_neg hbt]
          have hpa : ¬ p (a0 + (i : Int)) = true := by rw [← hb]; exact hbt
          have zK := N₄ (K, oK) (.tail _ (.tail _ (.head _)))
          refine ⟨n0 + 1 - (i + 1), by omega, h₄', tk₄, i + 1, ys, oC, _, rfl, hlt, rfl, (N₄ _ (.head _)).1, F₄, hoC, ⟨oK, zK.1, hdK⟩, fun q hq => ?_, ?_⟩
          · rcases List.mem_cons.mp hq with hq | hq
            · rw [hq]; exact N₄ (C, oC) (.tail _ (.head _))
            · exact N₄ q (.tail _ (.tail _ (.tail _ hq)))
          · rw [hs, List.filter_append, List.filter_cons_of_neg hpa, List.filter_nil, List.append_nil]
            exact hok
      · obtain rfl : i = n0 := Nat.le_antisymm hi (Nat.not_lt.mp hlt)
        refine W.done _ _ _ hst' fun h₂ tk₂ hk₂ => ?_
        have N₂ := news_but N' hk₂ offI
        exact fin D C ys h₂ tk₂ _ hok (fr_but F' hk₂ (Ne.symm hIL) hI₀) (fun q hq => N₂ q (.tail _ hq)) (fun q hq => lt q hq) (hoC.ns (N₂ _ (.head _)).1) hC₀ hCL hCD ltC
    · obtain ⟨oC, heC, hoC⟩ := ns_obj hns
      refine ⟨H4, tk₃, 0, [], oC, none, rfl, Nat.zero_le _, rfl, by simpa using hst₁, F.keeps up, hoC, ⟨_, hK, rfl⟩, fun q hq => ?_, .nil⟩
      rcases List.mem_cons.mp hq with hq | hq
      · rw [hq]; exact ⟨heC, hCL, hC₀⟩
      rcases List.mem_cons.mp hq with hq | hq
      · rw [hq]; exact ⟨hD, hDL, hD₀⟩
      · exact ⟨up _ _ (N q hq).1, (N q hq).2⟩
  exact codeAny_compStart_list (loop _ ⟨s₂.toks, rfl⟩) (W.self 0 _ _ _ (by simpa using hst₁) (loop _ ⟨s₂.toks, rfl⟩))
def SrcC (prog : Program) (w : World) (A : Around) (h₀ : Heap) (L : Addr) (m : Str → Option Value) (env : Env) (elt ct : PySem.Expr) (x y : Str) (scope : Scope) (cl : List (Str × Addr)) (Q : Flow → Shared → Prop) (xv : Value) (s₁ : Shared) : Prop :=
  ∃ (r : Addr) (a0 b0 : Int) (t u v : Tok) (n0 : Nat) (news : List (Addr × Obj)) (p : Int → Bool), xv = .ref r ∧ A.handled = none ∧ Fr h₀ L s₁.heap m ∧ News h₀ L s₁.heap news ∧ IsRange s₁.heap r a0 b0 1 t u v ∧ Builtin.Range.small a0 b0 1 = true ∧ Builtin.Range.rangeSize a0 b0 1 = ((n0 : Nat) : Int) ∧ n0 ≤ 1000 ∧
    InC prog w A h₀ L m env elt ct x scope cl news s₁ (rangeKs a0 n0) p ∧
    ∀ D ys h tk, IntsAre ys ((rangeKs a0 n0).filter p) → Fr h₀ L h (fun z => if z = y then some (.ref D) else m z) → News h₀ L h ((D, lst ys) :: news) → (∀ q ∈ news, q.1 < D) → Q .next { s₁ with heap := h, toks := tk }
theorem compCA {elt it0 ct : PySem.Expr} {x y : Str} {px py : Pos} {scope : Scope} {cl : List (Str × Addr)} {pos spos : Pos} {Q : Flow → Shared → Prop} (_F₀ : Fr h₀ L s.heap m) (hLe : env.locals = L)
    (hsw : swapsWith (.ListComp elt [⟨.Name x px, it0, [ct], 0⟩] scope pos) (some (.Name y py)) spos.line env = pure true)
    (hclos : closureFor scope env = pure cl) (hcf : ∀ n, cellsFrom n scope.names cl = (x, n) :: cl) (hpc : ∀ h, pushCells h scope.names = h.push (cellObj none)) (hkind : scope.kind = .function)
    (hxk : ∀ C K, (compEnvC scope ((x, K) :: cl) C env).kindOf x = some .cell) (henv : env.builtins = builtinsNs)
    (hnames : ∀ z ∈ scope.names, z.2 = .local → scope.names.lookup z.1 = some .local) (hy : env.kindOf y = some .local) (hp : (env.scope.kind == .class || (env.scope.kind == .module && env.locals != env.globals)) = false)
    (h : wpAny (model prog w) A (eval it0 env) (SrcC prog w A h₀ L m env elt ct x y scope cl Q) E s)
    (hs : ∀ x, foldedSetIterable it0 env x = pure x := by intro _; rfl) :
    wpAny (model prog w) A (exec (.Assign [.Name y py] (.ListComp elt [⟨.Name x px, it0, [ct], 0⟩] scope pos) spos) env) Q E s := by
  subst hLe
  rw [exec_Assign_Name_used _ _ _ _ hsw]
  refine wpAny_bind (wpAny_standAt (wpAny_bind ?_))
  show wpAny _ A (do let _ ← comprehension (.ListComp elt [⟨.Name x px, it0, [ct], 0⟩] scope pos) scope env _ (newList []) false (eval it0 env) (some (assign (.Name y py) env))) _ _ s
  refine wpAny_bind (wpAny_mono (wpAny_comprehension_free (use := some (assign (.Name y py) env)) (Q := fun _ s' => Q .next s') rfl hs hclos hkind hnames
    (wpAny_mono h (fun xv s₁ h₁ => ?_) fun _ _ e => e)) (fun _ s' hq => wpAny_pure (wpAny_pure hq)) fun _ _ e => e)
  obtain ⟨r, a0, b0, t, u, v, n0, news, p, rfl, hh, F, N, hr, hsm, hn0, hz, T, fin⟩ := h₁
  refine wpAny_pyIter_range hr hsm ?_
  refine blockC (h₀ := h₀) (L := env.locals) (m := m) (s₂ := { s₁ with heap := s₁.heap.push { cls := .type "range_iterator", data := .fields #[rawInt a0, rawInt (Builtin.Range.rangeSize a0 b0 1), rawInt 1] } }) (n0 := n0) (RR := fun acc C => compPost (model prog w) A E (some (assign (.Name y py) env)) (fun _ s' => Q .next s') acc C) hh hz hcf hpc hkind hxk henv (by show Heap.get? _ s₁.heap.objs.size = _; rw [hn0]; exact Heap.get?_push_size _ rfl)
      (F.keeps fun _ _ e => Heap.get?_push_of_some _ e) (fun q hq => ⟨Heap.get?_push_of_some _ (N q hq).1, (N q hq).2⟩) (Ne.symm (Nat.ne_of_lt F.ns.lt)) (next_is_new F) (fun q hq => Heap.lt_size (N q hq).1) T
      (fun D C ys h tk m' hi F' N' l hn hC₀ hCL hCD offC => ?_)
  show wpAny _ A (assign (.Name y py) env (.ref D)) _ _ _
  refine wpAny_assign_Name (wpAny_storeName_local hy F'.ns (fun h₂ hn₂ hs₂ => ?_) hp)
  have hL₀ : h₀.get? env.locals = none := Heap.get?_none_of_le F'.above
  have F₂ : Fr h₀ env.locals h₂ (fun z => if z = y then some (.ref D) else m z) := ⟨hn₂, fun b o e => hs₂.extBut b o (fun q => by rw [q, hL₀] at e; cases e) (F'.keep b o e), F'.above⟩
  refine ⟨m', hn.sameBut hs₂ hCL, fun h'' hs'' => fin D ys h'' _ hi (F₂.change hs'' hCL hC₀) (fun q hq => ?_) l⟩
  have z : h₂.get? q.1 = some q.2 := hs₂.extBut _ _ (N' q hq).2.1 (N' q hq).1
  refine ⟨hs''.extBut _ _ ?_ z, (N' q hq).2⟩
  rcases List.mem_cons.mp hq with hq | hq
  · rw [hq]; exact Ne.symm hCD
  · exact offC q hq
end
end Mine
end PartCf

section PartLw
open PySem PySem.W PySem.Spec PySem.Calls PyProof.Rows
set_option maxRecDepth 100000
namespace Mine
def lawDef : Stmt := (PySem.Challenge.pw_pg0182_01.main.body.getLast?).getD (.Pass ⟨0, 0, 0, 0⟩)
def lawBody : List Stmt := match lawDef with
  | .FunctionDef _ _ b _ _ _ _ _ _ _ => b
  | _ => []
def lawScope : Scope := match lawDef with
  | .FunctionDef _ _ _ _ _ _ s _ _ _ => s
  | _ => { kind := .module, names := [], isGenerator := false, isCoroutine := false, more := [] }
def forBody : Stmt → List Stmt
  | .For _ _ b _ _ => b
  | _ => []
def restBody : List Stmt := lawBody.drop 4
def turnBody : List Stmt := match restBody.drop 6 with
  | st :: _ => forBody st
  | [] => []
abbrev lawCells (c6 c5 c4 c3 c2 c1 : Addr) : List (Str × Addr) := [(Str.ofString "hexagon", c6), (Str.ofString "circle", c5), (Str.ofString "slanted", c4), (Str.ofString "squared", c3), (Str.ofString "span", c2), (Str.ofString "dots", c1)]
abbrev lawEnv (L a : Addr) (ccd : Value) (c6 c5 c4 c3 c2 c1 : Addr) : Env := envX (Str.ofString "law") lawScope L a ccd (lawCells c6 c5 c4 c3 c2 c1)
abbrev lawA (dp un : Nat) (gd : Option (List Code)) (L a : Addr) (ccd : Value) (c6 c5 c4 c3 c2 c1 : Addr) (outer : List Env) : Around := ktrTop dp un gd (Str.ofString "law") lawScope L a ccd (lawCells c6 c5 c4 c3 c2 c1) outer
example : lawBody.length = 12 := by decide +kernel
example : turnBody.length = 12 := by decide +kernel
example : restBody.length = 8 := by decide +kernel
example (L : Addr) : cellsFrom (L + 1) lawScope.names [] = lawCells (L + 6) (L + 5) (L + 4) (L + 3) (L + 2) (L + 1) := by rfl
end Mine
end PartLw

section PartTn
open PySem PySem.W PySem.Spec PySem.Calls PyProof.Rows
set_option maxRecDepth 100000
namespace Mine
structure TSt where
  bs : List Nat
  r : List Nat
  tm : Tok
  x : Addr
  oc : Obj
  dl : Addr
  dvs : List Value
  dk : Nat
  ps : Array Value
  qs : Array Value
  objs : List (Addr × Obj)
abbrev TLed (c1 : Addr) (rest : List (Addr × Obj)) (c : TSt) : List (Addr × Obj) := (c1, c.oc) :: (144, tabObj c.ps) :: (156, tabObj c.qs) :: (c.objs ++ rest)
def lawQual : Str := ("law" : Str) ++ (".<locals>." : Str) ++ ("<lambda>" : Str)
def TabL (qs : Array Value) (led : List (Addr × Obj)) : Prop :=
  ∃ (c1 : Addr) (o1 : Obj) (v1 : Array Value) (t1 : Tok), qs = #[] ++ #[rawInt ((126 : Nat) : Int), rawInt ((46 : Nat) : Int), .ref c1] ∧ (c1, o1) ∈ led ∧ o1.data = .fields v1 ∧ v1[1]? = some (.str lawQual t1)
structure TOk (w : World) (c1 : Addr) (rest : List (Addr × Obj)) (i : Nat) (c : TSt) : Prop where
  cell : c.oc.data = .cell (some (.ref c.dl))
  dots : (c.dl, listOf c.dvs.toArray c.dk) ∈ c.objs
  nums : IntsAre c.dvs ((dotsOf c.bs).map fun (n : Nat) => (n : Int))
  ws : WsIs w c.objs c.x (cntOf c.bs)
  subs : Subs code2 [13, 10] [] c.r (fixed c.bs)
  rlen : c.r.length ≤ 1000
  len : c.bs.length ≤ 9
  le : ∀ b ∈ c.bs, b ≤ 7 + i
  has : 3 + i ∈ c.bs
  tabM : c.ps = #[] ∨ TabM c.ps c.objs
  tabL : c.qs = #[] ∨ TabL c.qs c.objs
  off : ∀ p ∈ c.objs ++ rest, @LT.lt Nat _ c1 p.1
def TJ (w : World) (c1 : Addr) (rest : List (Addr × Obj)) (i : Nat) (m : Str → Option Value) (nx : List (Addr × Obj)) : Prop :=
  ∃ c : TSt, nx = TLed c1 rest c ∧ m (Str.ofString "mail") = some (.str (S c.r) c.tm) ∧ m (Str.ofString "before") = some (.ref c.x) ∧ TOk w c1 rest i c
section
variable {prog : Program} {w : World} {A : Around} {E : Value → Shared → Prop} {s : Shared} {env : Env} {h₀ : Heap} {x : Str} {body : List Stmt} {Q : Flow → Shared → Prop}
theorem rangeLoopJ {r : Addr} {a₀ b₀ : Int} {t₀ u₀ v₀ : Tok} {n : Nat} {m₀ : Str → Option Value} {news : List (Addr × Obj)} (J : Nat → (Str → Option Value) → List (Addr × Obj) → Prop)
    (hh : A.handled = none) (hr : IsRange s.heap r a₀ b₀ 1 t₀ u₀ v₀) (hsmall : Builtin.Range.small a₀ b₀ 1 = true) (hn : Builtin.Range.rangeSize a₀ b₀ 1 = (n : Int)) (F : Fr h₀ env.locals s.heap m₀) (N : News h₀ env.locals s.heap news) (hj : J 0 m₀ news)
    (turn : ∀ (i : Nat) (k : Int) (t : Tok) (m₁ : Str → Option Value) (nx : List (Addr × Obj)) (h : Heap) (tk : Nat) (I : Addr) (oI : Obj), k = a₀ + (i : Int) → i < n → J i m₁ nx → (∀ p ∈ nx, p.1 ≠ I) → Fr h₀ env.locals h (fun y => if y = x then some (.int k t) else m₁ y) → News h₀ env.locals h (nx ++ [(I, oI)]) →
      wpAny (model prog w) A (execs body env) (TurnPost h₀ env.locals (J (i + 1)) [(I, oI)] { s with heap := h, toks := tk } Q) E { s with heap := h, toks := tk })
    (done : ∀ (m₁ : Str → Option Value) (nx : List (Addr × Obj)) (h : Heap) (tk : Nat), J n m₁ nx → Fr h₀ env.locals h m₁ → News h₀ env.locals h nx → Q .next { s with heap := h, toks := tk }) :
    wpAny (model prog w) A (pyIter (.ref r)) (fun it s₂ => LoopAtV prog w A h₀ env x body Q E it s₂) E s := by
  refine wpAny_pyIter_range hr hsmall ?_
  have W : Walks prog w A s.heap.objs.size [s.heap.objs.size] [s.heap.objs.size] n (fun i v => i < n ∧ ∃ t, v = .int (a₀ + i * 1) t)
      (fun i h => IsRangeIter h s.heap.objs.size (a₀ + (i : Nat) * 1) ((n : Int) - (i : Nat)) 1) := (Walks.range hh _ a₀ 1 n).bound
  refine loopG J W (next_is_new F) (Nat.ne_of_lt F.ns.lt) (fun p hp => Nat.ne_of_lt (Heap.lt_size (N p hp).1)) ?_ (by show IsRangeIter _ _ _ _ _; rw [hn]; simpa using Heap.get?_push_size _ rfl) (F.push _)
    (fun p hp => ⟨Heap.get?_push_of_some _ (N p hp).1, (N p hp).2⟩) hj ?_ ?_
  · intro i h hst
    exact ⟨_, hst⟩
  · rintro i v m₁ nx h tk oI hi ⟨_, t, rfl⟩ hJ hne F₁ N₁
    have e1 : a₀ + (i : Int) * 1 = a₀ + (i : Int) := by omega
    rw [e1] at F₁
    exact turn i _ t m₁ nx h tk _ oI rfl hi hJ hne F₁ N₁
  · intro m₁ nx h tk hJ F₁ N₁
    exact done m₁ nx h tk hJ F₁ N₁
theorem turnEndJ {L : Addr} {own news' nx : List (Addr × Obj)} {m' : Str → Option Value} {J : (Str → Option Value) → List (Addr × Obj) → Prop} {s₁ : Shared} {h' : Heap} {tk : Nat}
    (F : Fr h₀ L h' m') (N : News h₀ L h' news') (h1 : ∀ p ∈ nx, p ∈ news') (h3 : ∀ p ∈ own, p ∈ news') (h5 : ∀ p ∈ nx, ∀ q ∈ own, p.1 ≠ q.1) (h9 : J m' nx) :
    TurnEnd h₀ L J own s₁ { s₁ with heap := h', toks := tk } :=
  ⟨h', tk, m', news', nx, rfl, F, N, h1, h3, h5, h9⟩
end
/-- a frame's map with two names written out -/
theorem fr_two {h₀ h : Heap} {L : Addr} {m : Str → Option Value} {t a b : Str} {v va vb : Value} (ha : m a = some va) (hb : m b = some vb) (F : Fr h₀ L h (fun y => if y = t then some v else m y)) :
    Fr h₀ L h (fun y => if y = t then some v else if y = a then some va else if y = b then some vb else m y) := by
  have e : (fun y => if y = t then some v else if y = a then some va else if y = b then some vb else m y) = fun y => if y = t then some v else m y := by
    funext y
    by_cases h1 : y = t
    · simp [h1]
    · by_cases h2 : y = a
      · simp [h2, ha]
      · by_cases h3 : y = b
        · subst h3; simp [h1, h2, hb]
        · simp [h1, h2, h3]
  rw [e]; exact F
section
variable (bs : List Nat) (i : Nat)
theorem sum_le (k : Nat) (h : ∀ b ∈ bs, b ≤ k) : bs.sum ≤ k * bs.length := by
  induction bs with
  | nil => exact Nat.zero_le _
  | cons b bs ih =>
    have h1 := ih fun c hc => h c (.tail _ hc)
    have h2 := h b (.head _)
    rw [List.sum_cons, List.length_cons]
    have e : k * (bs.length + 1) = k * bs.length + k := Nat.mul_succ _ _
    omega
theorem sizes_ok (hl : bs.length ≤ 9) (k : Nat) (hk : k ≤ 9) (h : ∀ b ∈ bs, b ≤ k) : (rowsOf 46 [9] bs).length ≤ 1000 ∧ (fixed bs).length ≤ 1000 := by
  have h1 := sum_le bs k h
  have h2 : k * bs.length ≤ 9 * 9 := Nat.mul_le_mul hk hl
  rw [rowsOf_length, fixed_length]
  simp only [List.length_cons, List.length_nil]
  omega
theorem bmp_le (k : Nat) (h : ∀ b ∈ bs, b ≤ k) : ∀ b ∈ bmp bs, b ≤ k + 1 := by
  intro b hb
  obtain ⟨c, hc, rfl⟩ := List.mem_map.mp hb
  have := h c hc
  split <;> omega
theorem bmp_has (k : Nat) (h : k ∈ bs) (h0 : k ≠ 0) : k + 1 ∈ bmp bs := List.mem_map.mpr ⟨k, h, by rw [if_neg h0]⟩
theorem bmp_quote : bmp bs = bs.map quoteB := rfl
end
theorem news_sub {h₀ h : Heap} {L : Addr} {news news' : List (Addr × Obj)} (N : News h₀ L h news) (hs : ∀ p ∈ news', p ∈ news) : News h₀ L h news' := fun p hp => N p (hs p hp)
def OB (c1 : Addr) (nb ob : List (Addr × Obj)) : Prop := ∀ p ∈ ob, (∀ q ∈ nb, q.1 < p.1) ∧ @LT.lt Nat _ c1 p.1
def Offs (c1 : Addr) (nb : List (Addr × Obj)) : Prop := (∀ p ∈ nb, p.1 ≠ c1) ∧ (∀ p ∈ nb, p.1 ≠ 144) ∧ ∀ p ∈ nb, p.1 ≠ 156
theorem absorb {h₀ h : Heap} {L c1 : Addr} {oc : Obj} {ps qs : Array Value} {all tl ob nb nb1 : List (Addr × Obj)} (N : News h₀ L h all) (hs : ∀ p ∈ (c1, oc) :: (144, tabObj ps) :: (156, tabObj qs) :: (tl ++ nb1), p ∈ all)
    (ho : ∀ p ∈ tl, (∀ q ∈ nb1, q.1 < p.1) ∧ @LT.lt Nat _ c1 p.1) (h1 : @LT.lt Nat _ 144 c1) (h2 : @LT.lt Nat _ 156 c1) (hb : Offs c1 nb) (e1 : nb1 = ob ++ nb) (hob : OB c1 nb ob) :
    ∃ ob' nb', nb' = ob' ++ nb ∧ OB c1 nb ob' ∧ (∀ p ∈ ob, p ∈ ob') ∧ (∀ p ∈ tl, p ∈ ob') ∧ (∀ p ∈ nb1, p ∈ nb') ∧ (∀ p ∈ ob', p ∈ nb') ∧ Offs c1 nb' ∧ News h₀ L h ((c1, oc) :: (144, tabObj ps) :: (156, tabObj qs) :: nb') := by
  have hob' : OB c1 nb (tl ++ ob) := by
    intro p hp
    rcases List.mem_append.mp hp with hp | hp
    · exact ⟨fun q hq => (ho p hp).1 q (by rw [e1]; exact List.mem_append.mpr (.inr hq)), (ho p hp).2⟩
    · exact hob p hp
  have key : ∀ (c : Nat), c ≤ c1 → (∀ p ∈ nb, p.1 ≠ c) → ∀ p ∈ (tl ++ ob) ++ nb, p.1 ≠ c := by
    intro c hc hn p hp
    rcases List.mem_append.mp hp with hp | hp
    · exact Ne.symm (Nat.ne_of_lt (Nat.lt_of_le_of_lt hc (hob' p hp).2))
    · exact hn p hp
  refine ⟨tl ++ ob, (tl ++ ob) ++ nb, rfl, hob', fun p hp => List.mem_append.mpr (.inr hp), fun p hp => List.mem_append.mpr (.inl hp), fun p hp => ?_, fun p hp => List.mem_append.mpr (.inl hp), ⟨key c1 (Nat.le_refl _) hb.1, key 144 (Nat.le_of_lt h1) hb.2.1, key 156 (Nat.le_of_lt h2) hb.2.2⟩, fun p hp => N p (hs p ?_)⟩
  · rw [List.append_assoc, ← e1]; exact List.mem_append.mpr (.inr hp)
  · rw [List.append_assoc, ← e1] at hp; exact hp
theorem absorbB {h₀ h : Heap} {L c1 : Addr} {oc : Obj} {ps qs : Array Value} {tl ob nb nb1 : List (Addr × Obj)} (N : News h₀ L h (tl ++ (c1, oc) :: (144, tabObj ps) :: (156, tabObj qs) :: nb1))
    (ho : ∀ q ∈ (c1, oc) :: (144, tabObj ps) :: (156, tabObj qs) :: nb1, ∀ p ∈ tl, q.1 < p.1) (h1 : @LT.lt Nat _ 144 c1) (h2 : @LT.lt Nat _ 156 c1) (hb : Offs c1 nb) (e1 : nb1 = ob ++ nb) (hob : OB c1 nb ob) :
    ∃ ob' nb', nb' = ob' ++ nb ∧ OB c1 nb ob' ∧ (∀ p ∈ ob, p ∈ ob') ∧ (∀ p ∈ tl, p ∈ ob') ∧ (∀ p ∈ nb1, p ∈ nb') ∧ (∀ p ∈ ob', p ∈ nb') ∧ Offs c1 nb' ∧ News h₀ L h ((c1, oc) :: (144, tabObj ps) :: (156, tabObj qs) :: nb') := by
  refine absorb N ?_ (fun p hp => ⟨fun q hq => ho q (.tail _ (.tail _ (.tail _ hq))) p hp, ho _ (.head _) p hp⟩) h1 h2 hb e1 hob
  intro p hp
  rcases List.mem_cons.mp hp with hp | hp
  · rw [hp]; exact List.mem_append.mpr (.inr (.head _))
  rcases List.mem_cons.mp hp with hp | hp
  · rw [hp]; exact List.mem_append.mpr (.inr (.tail _ (.head _)))
  rcases List.mem_cons.mp hp with hp | hp
  · rw [hp]; exact List.mem_append.mpr (.inr (.tail _ (.tail _ (.head _))))
  rcases List.mem_append.mp hp with hp | hp
  · exact List.mem_append.mpr (.inl hp)
  · exact List.mem_append.mpr (.inr (.tail _ (.tail _ (.tail _ hp))))
theorem absorb1 {h₀ h : Heap} {L c1 d : Addr} {oc od : Obj} {ps qs : Array Value} {ob nb nb1 : List (Addr × Obj)} (N : News h₀ L h ((d, od) :: (c1, oc) :: (144, tabObj ps) :: (156, tabObj qs) :: nb1))
    (ho : ∀ q ∈ (c1, oc) :: (144, tabObj ps) :: (156, tabObj qs) :: nb1, q.1 < d) (h1 : @LT.lt Nat _ 144 c1) (h2 : @LT.lt Nat _ 156 c1) (hb : Offs c1 nb) (e1 : nb1 = ob ++ nb) (hob : OB c1 nb ob) :
    ∃ ob' nb', nb' = ob' ++ nb ∧ OB c1 nb ob' ∧ (∀ p ∈ ob, p ∈ ob') ∧ (d, od) ∈ ob' ∧ (∀ p ∈ nb1, p ∈ nb') ∧ (∀ p ∈ ob', p ∈ nb') ∧ Offs c1 nb' ∧ News h₀ L h ((c1, oc) :: (144, tabObj ps) :: (156, tabObj qs) :: nb') := by
  obtain ⟨ob', nb', a1, a2, a3, a4, a5⟩ := absorbB (tl := [(d, od)]) N (fun q hq p hp => by rw [List.mem_singleton.mp hp]; exact ho q hq) h1 h2 hb e1 hob
  exact ⟨ob', nb', a1, a2, a3, a4 _ (.head _), a5⟩
structure TurnFacts (bs : List Nat) (K : Nat) : Prop where
  top1 : 1 < Mine.top bs
  Keq : K = Mine.top (bmp bs)
  K1 : K < 11
  K2 : 2 ≤ K
  small : Small (dotsOf (bmp bs)) K
  la : (cntOf bs).cs.length < 1000
  lb : (cntOf (bmp bs)).cs.length < 1000
  lc : 1 < (cntOf bs).cs.length
theorem turnFacts (bs : List Nat) (i : Nat) (hi : i < 2) (hle : ∀ b ∈ bs, b ≤ 7 + i) (has : 3 + i ∈ bs) : TurnFacts bs (Mine.top (bmp bs)) := by
  have h1 := le_top bs _ has
  have h2 := top_bmp bs
  have h3 : Mine.top (bmp bs) ≤ 10 := top_le _ _ fun b hb => by have := bmp_le bs _ hle b hb; omega
  have h4 : (cntOf bs).cs.length = Mine.top bs := by show (Cnt.after (lead bs)).cs.length = _; rw [after_rows]; exact (rows_facts 1 bs).2.2.1
  have h5 : (cntOf (bmp bs)).cs.length = Mine.top (bmp bs) := by show (Cnt.after (lead (bmp bs))).cs.length = _; rw [after_rows]; exact (rows_facts 1 (bmp bs)).2.2.1
  refine ⟨by omega, rfl, by omega, by omega, ?_, by omega, by omega, by omega⟩
  intro n hn
  have h6 : n ∈ bmp bs := (List.mem_filter.mp hn).1
  have h7 := le_top _ _ h6
  rw [dots_bmp] at hn
  obtain ⟨b, hb, rfl⟩ := List.mem_map.mp hn
  have h8 := (List.mem_filter.mp hb).2
  simp only [ne_eq, decide_not, Bool.not_eq_true', decide_eq_false_iff_not] at h8
  constructor <;> omega
theorem any_mod (ns : List Nat) (k : Int) (hk : 1 ≤ k) : (!decide (List.map (fun (n : Int) => n) (List.filter (fun n => n.fmod k == 0) (ns.map fun (n : Nat) => (n : Int))) = [])) = ns.any fun n => n % k.toNat == 0 := by
  have e : ∀ n : Nat, ((n : Int).fmod k == 0) = (n % k.toNat == 0) := by
    intro n
    obtain ⟨d, rfl⟩ := Int.eq_ofNat_of_zero_le (by omega : 0 ≤ k)
    rw [Int.fmod_eq_emod_of_nonneg _ (by omega), Int.toNat_natCast]
    have h : ((n : Int) % (d : Int) = 0) ↔ (n % d = 0) := by rw [← Int.natCast_emod]; omega
    rw [Bool.eq_iff_iff, beq_iff_eq, beq_iff_eq]
    exact h
  induction ns with
  | nil => rfl
  | cons n ns ih =>
    rw [List.map_cons, List.filter_cons, List.any_cons, ← ih, e n]
    by_cases hn : (n % k.toNat == 0) = true
    · rw [if_pos hn, hn]; simp
    · rw [if_neg hn]
      have h2 : (n % k.toNat == 0) = false := by simpa using hn
      rw [h2]; simp
theorem divisors_are (bs : List Nat) (K : Nat) (h : TurnFacts bs K) : (rangeKs 1 10).filter (fun d => (dotsOf (bmp bs)).any fun n => n % d.toNat == 0) = (rowsOfTurn bs K).map (·.1) := (sizes_moved bs K h.K1 h.small).symm
def TriIs (nb : List (Addr × Obj)) (r : Tri) (v : Value) : Prop := ∃ (a : Addr) (t1 t2 t3 : Tok), v = .ref a ∧ (a, tupOf [.int r.1 t1, .int r.2.1 t2, .int r.2.2 t3]) ∈ nb
theorem RowsIn.tri {nb : List (Addr × Obj)} {vs : List Value} {rows : List Tri} (h : RowsIn nb vs rows) : ∀ (i : Nat) (v : Value), vs[i]? = some v → ∃ a, rows[i]? = some a ∧ TriIs nb a v := by
  intro i v hv
  obtain ⟨a, x, y, z, t1, t2, t3, e1, e2, e3⟩ := h.at i v hv
  exact ⟨_, e2, a, t1, t2, t3, e1, e3⟩
theorem rowsOfTurn_length (bs : List Nat) (K : Nat) : (rowsOfTurn bs K).length ≤ K := witUp_length _ _ _
section
variable {prog : Program} {w : World} {A : Around} {E : Value → Shared → Prop} {s : Shared} {h₀ : Heap} {L : Addr} {news : List (Addr × Obj)}
theorem neInts {a b : Addr} {vs us : List Value} {ns ms : List Int} {k k' : Nat} {Q : Value → Shared → Prop} (N : News h₀ L s.heap news) (ha : (a, listOf vs.toArray k) ∈ news) (hi : IntsAre vs ns) (hb : (b, listOf us.toArray k') ∈ news) (hi' : IntsAre us ms) (hu : A.units + 64 < cLine)
    (h : Q (.bool (!decide (ns = ms))) s) : wpAny (model prog w) A (compareOp .NotEq (.ref a) (.ref b)) Q E s := ne_intsK (N.isList ha) hi (N.isList hb) hi' hu h
theorem neSame {a b : Addr} {vs us : List Value} {ns : List Int} {k k' : Nat} {Q : Value → Shared → Prop} (N : News h₀ L s.heap news) (ha : (a, listOf vs.toArray k) ∈ news) (hi : IntsAre vs ns) (hb : (b, listOf us.toArray k') ∈ news) (hi' : IntsAre us ns) (hu : A.units + 64 < cLine)
    (h : Q (.bool false) s) : wpAny (model prog w) A (compareOp .NotEq (.ref a) (.ref b)) Q E s := neInts N ha hi hb hi' hu (by simpa using h)
end
end Mine
end PartTn

section PartTm
open PySem PySem.W PySem.Spec PySem.Calls PyProof.Rows
set_option maxRecDepth 100000
set_option maxHeartbeats 2000000
namespace Mine
section
variable {prog : Program} {w : World} {A : Around} {E : Value → Shared → Prop} {s : Shared} {h₀ : Heap} {L : Addr} {news : List (Addr × Obj)}
theorem itemLed {value slice : PySem.Expr} {l : Addr} {vs : List Value} {ns : List Int} {k : Nat} {i : Int} {u : Tok} {Q : Value → Shared → Prop} (N : News h₀ L s.heap news) (hm : (l, listOf vs.toArray k) ∈ news) (hi : IntsAre vs ns) (h0 : 0 ≤ i) (h1 : i < ns.length) (hfit : i < 2 ^ 63)
    (h : ∀ t, Q (.int (ns.getD i.toNat 0) t) s) (hs : subscripted slice false (.ref l) (.int i u) = operate [.ref l, .int i u] (getItem (.ref l) (.int i u)) := by with_unfolding_all rfl) :
    wpAny (model prog w) A (subscriptTail value slice (.ref l) (.int i u)) Q E s := by
  obtain ⟨t, hx⟩ := hi.get i.toNat _ (ints_getD h0 h1)
  exact tail_any (N.isList hm).typeIs slot_list_getitem.lookup (wpAny_getItem_list (N.isList hm) h0 hfit (by simpa using hx) (h t)) hs
theorem neIntEq {a b : Int} {t u : Tok} {Q : Value → Shared → Prop} (e : a = b) (h : Q (.bool false) s) : wpAny (model prog w) A (compareOp .NotEq (.int a t) (.int b u)) Q E s := by
  refine PyProof.Rows.ne_int ?_
  rw [e]
  simpa using h
end
theorem TabM.mono {ps : Array Value} {led led' : List (Addr × Obj)} (h : TabM ps led) (hs : ∀ p ∈ led, p ∈ led') : TabM ps led' :=
  let ⟨x1, x2, o1, o2, v1, v2, t1, t2, g1, g2, g3, g4, g5, g6, g7⟩ := h
  ⟨x1, x2, o1, o2, v1, v2, t1, t2, g1, hs _ g2, g3, g4, hs _ g5, g6, g7⟩
theorem TabL.mono {qs : Array Value} {led led' : List (Addr × Obj)} (h : TabL qs led) (hs : ∀ p ∈ led, p ∈ led') : TabL qs led' :=
  let ⟨x1, o1, v1, t1, g1, g2, g3, g4⟩ := h
  ⟨x1, o1, v1, t1, g1, hs _ g2, g3, g4⟩
theorem fr_pair {h₀ h : Heap} {L : Addr} {m : Str → Option Value} {a b : Str} {va vb : Value} (ha : m a = some va) (hb : m b = some vb) (F : Fr h₀ L h m) : Fr h₀ L h (fun y => if y = a then some va else if y = b then some vb else m y) := by
  have e : (fun y => if y = a then some va else if y = b then some vb else m y) = m := by
    funext y
    by_cases h2 : y = a
    · simp [h2, ha]
    · by_cases h3 : y = b
      · subst h3; simp [h2, hb]
      · simp [h2, h3]
  rw [e]; exact F
theorem circ_small (i : Nat) : -(2 ^ 64) < circ.getD i 0 ∧ circ.getD i 0 < 2 ^ 64 := by
  by_cases h : i < 10
  · have key : ∀ i < 10, -(2 ^ 64) < circ.getD i 0 ∧ circ.getD i 0 < 2 ^ 64 := by decide
    exact key i h
  · have e : circ.getD i 0 = 0 := by rw [List.getD_eq_getElem?_getD, List.getElem?_eq_none (by show 10 ≤ i; omega)]; rfl
    rw [e]; decide
abbrev sqOf (n k : Int) : Int := circ.getD k.toNat 0 * circ.getD (n - k).toNat 0
theorem squares_sum (ns : List Nat) : (res2 (ns.map fun (n : Nat) => (n : Int)) (fun _ => 0) (fun n => (n + 1).toNat) sqOf).sum = (ns.map fun n => ((List.range (n + 1)).map fun k => circ.getD k 0 * circ.getD (n - k) 0).sum).sum := by
  induction ns with
  | nil => rfl
  | cons n ns ih =>
    unfold res2 at ih ⊢
    rw [List.map_cons, List.flatMap_cons, List.sum_append, ih, List.map_cons, List.sum_cons]
    congr 1
    have e : ((n : Int) + 1).toNat = n + 1 := by omega
    dsimp only
    rw [e]
    unfold rangeKs
    rw [List.map_map]
    congr 1
    refine List.map_congr_left fun k hk => ?_
    have hk2 := List.mem_range.mp hk
    show circ.getD (0 + (k : Int)).toNat 0 * circ.getD ((n : Int) - (0 + (k : Int))).toNat 0 = _
    have e1 : (0 + (k : Int)).toNat = k := by omega
    have e2 : ((n : Int) - (0 + (k : Int))).toNat = n - k := by omega
    rw [e1, e2]
theorem rowsOfTurn_pos (bs : List Nat) (K : Nat) (hK : K < 1000) : ∀ r ∈ rowsOfTurn bs K, 0 < r.1 ∧ r.1 < 1000 := by
  intro r hr
  unfold rowsOfTurn witUp at hr
  obtain ⟨ts, hts, e⟩ := List.mem_filterMap.mp hr
  obtain ⟨j, hj, rfl⟩ := List.mem_map.mp hts
  have hj2 := List.mem_range.mp hj
  split at e
  · cases e
    dsimp only
    omega
  · cases e
section
variable {w : World} {mean : ExcName → Option Value} {mg mb : Str → Option Value} {dp un : Nat} {gd : Option (List Code)} {cn : Str} {cs : Scope} {a : Addr} {ccd : Value} {cl : List (Str × Addr)} {outer : List Env} {A₀ : Around} {base h₀ : Heap} {L : Addr} {m : Str → Option Value} {s : Shared} {Q E : Value → Shared → Prop}
theorem moved_ask {c1 l : Addr} {oc : Obj} {ps qs : Array Value} {ob nb nb1 : List (Addr × Obj)} {vs : List Value} {nn : Nat} {rows : List Tri} {am b c : Int} {ta tb tc : Tok} (hl : (l, listOf vs.toArray nn) ∈ nb1) (hv : vs.length < 1000) (hr : RowsIn nb1 vs rows) (hpos : ∀ r ∈ rows, 0 < r.1 ∧ r.1 < 1000) (ha : 0 < am) (hT : ps = #[] ∨ TabM ps nb1)
    (h1 : @LT.lt Nat _ 144 c1) (h2 : @LT.lt Nat _ 156 c1) (hb : Offs c1 nb) (hb1 : Offs c1 nb1) (e1 : nb1 = ob ++ nb) (hob : OB c1 nb ob)
    (B : Below A₀ base outer h₀) (F : Fr h₀ L s.heap m) (X : (Mine.hd.heap_39 w.params).In h₀) (N : News h₀ L s.heap ((c1, oc) :: (144, tabObj ps) :: (156, tabObj qs) :: nb1)) (T : Top VP LOO mean mg mb h₀) (C : CodeHd base 146 144) (hk : cs.kind = .function) (hd : dp + 4 < recursionLimit) (hu : un + 8 * 4 < cLine)
    (h : ∀ t h' tk' ps' ob' nb', nb' = ob' ++ nb → OB c1 nb ob' → (∀ p ∈ ob, p ∈ ob') → (∀ p ∈ nb1, p ∈ nb') → (∀ p ∈ ob', p ∈ nb') → Offs c1 nb' → Fr h₀ L h' m → News h₀ L h' ((c1, oc) :: (144, tabObj ps') :: (156, tabObj qs) :: nb') → (ps' = ps ∨ TabM ps' ob') → Q (.int (movedSum am b c rows) t) { s with heap := h', toks := tk' }) :
    wpAny (model PR w) (ktrTop dp un gd cn cs L a ccd cl outer) (call (.ref 147) [.ref l, .int am ta, .int b tb, .int c tc]) Q E s := by
  refine (moved w mean mg mb ((c1, oc) :: (156, tabObj qs) :: nb1) l vs nn rows (.tail _ (.tail _ hl)) hv (hr.mono fun p hp => .tail _ (.tail _ hp)) hpos am b c ta tb tc ha ps (hT.imp id fun ⟨x1, x2, o1, o2, v1, v2, t1, t2, g1, g2, g3, g4, g5, g6, g7⟩ => ⟨x1, x2, o1, o2, v1, v2, t1, t2, g1, .tail _ (.tail _ g2), g3, g4, .tail _ (.tail _ g5), g6, g7⟩)) dp un gd cn cs a ccd cl outer A₀ base h₀ L m s Q E B F X (news_sub N ?_) T C ?_ hk hd hu ?_
  · intro p hp
    rcases List.mem_cons.mp hp with hp | hp
    · rw [hp]; exact .tail _ (.head _)
    rcases List.mem_cons.mp hp with hp | hp
    · rw [hp]; exact .head _
    · exact .tail _ (.tail _ hp)
  · intro p hp
    rcases List.mem_cons.mp hp with hp | hp
    · rw [hp]; exact Ne.symm (Nat.ne_of_lt h1)
    rcases List.mem_cons.mp hp with hp | hp
    · rw [hp]; show @Ne Nat 156 144; decide
    · exact hb1.2.1 p hp
  · rintro r tl ps' h' tk' F' N' ho ⟨hO, t, rfl⟩
    have' AB := absorb (c1 := c1) (oc := oc) (ps := ps') (qs := qs) (tl := tl) (nb1 := nb1) N' (fun p hp => ?_) (fun p hp => ⟨fun q hq => ho q (.tail _ (.tail _ (.tail _ hq))) p hp, ho _ (.tail _ (.head _)) p hp⟩) h1 h2 hb e1 hob
    · obtain ⟨ob', nb', a1, a2, a3, a4, a5, a6, a7, a8⟩ := AB
      refine h t h' tk' ps' ob' nb' a1 a2 a3 a5 a6 a7 F' a8 ?_
      rcases hO with ⟨x1, x2, o1, o2, v1, v2, t1, t2, g1, g2, g3, g4, g5, g6, g7⟩ | hO
      · exact .inr ⟨x1, x2, o1, o2, v1, v2, t1, t2, g1, a4 _ g2, g3, g4, a4 _ g5, g6, g7⟩
      · exact .inl hO.2
    · rcases List.mem_cons.mp hp with hp | hp
      · rw [hp]; exact List.mem_append.mpr (.inr (.tail _ (.head _)))
      rcases List.mem_cons.mp hp with hp | hp
      · rw [hp]; exact List.mem_append.mpr (.inr (.head _))
      rcases List.mem_cons.mp hp with hp | hp
      · rw [hp]; exact List.mem_append.mpr (.inr (.tail _ (.tail _ (.head _))))
      rcases List.mem_append.mp hp with hp | hp
      · exact List.mem_append.mpr (.inl hp)
      · exact List.mem_append.mpr (.inr (.tail _ (.tail _ (.tail _ hp))))
theorem lamEval {M : Model} {A : Around} {c1 c2 c3 c4 c5 c6 : Addr} {oc : Obj} {ps qs : Array Value} {ob nb nb1 : List (Addr × Obj)} {params : Arguments} {body : PySem.Expr} {scope : Scope} {pos : Pos} {clos : List (Str × Addr)} (hl : pos.line = 126) (hc : pos.col = 46)
    (hdef : defaultsOf params (lawEnv L a (.ref 158) c6 c5 c4 c3 c2 c1) = ([], [])) (hcl : closureFor scope (lawEnv L a (.ref 158) c6 c5 c4 c3 c2 c1) = pure clos)
    (h1 : @LT.lt Nat _ 144 c1) (h2 : @LT.lt Nat _ 156 c1) (hb : Offs c1 nb) (hb1 : Offs c1 nb1) (e1 : nb1 = ob ++ nb) (hob : OB c1 nb ob) (hT : qs = #[] ∨ TabL qs nb1)
    (F : Fr h₀ L s.heap m) (N : News h₀ L s.heap ((c1, oc) :: (144, tabObj ps) :: (156, tabObj qs) :: nb1)) (T : Top VP LOO mean mg mb h₀) (C : CodeHd h₀ 158 156)
    (h : ∀ f c' o1 v1 t ct h' tk' qs' ob' nb', nb' = ob' ++ nb → OB c1 nb ob' → (∀ p ∈ ob, p ∈ ob') → (∀ p ∈ nb1, p ∈ nb') → (∀ p ∈ ob', p ∈ nb') → Offs c1 nb' → Fr h₀ L h' m → News h₀ L h' ((c1, oc) :: (144, tabObj ps) :: (156, tabObj qs') :: nb') →
      (f, kla_obj "<lambda>" lawQual params body scope clos ((mg "__name__").getD .none) c' ct) ∈ nb' → (c', o1) ∈ nb' → o1.data = .fields v1 → v1[1]? = some (.str lawQual t) → (qs' = qs ∨ TabL qs' ob') → Q (.ref f) { s with heap := h', toks := tk' }) :
    wpAny M A (eval (.Lambda params body scope pos) (lawEnv L a (.ref 158) c6 c5 c4 c3 c2 c1)) Q E s := by
  obtain ⟨ln, cl2, eln, ecl⟩ := pos
  dsimp only at hl hc
  subst hl
  subst hc
  refine kla_eval hdef ?_
  rcases hT with rfl | hT
  · refine kla_nest F N T C rfl (.tail (Nat.ne_of_gt h2) (.tail (by show @Ne Nat 144 156; decide) (.head hb1.2.2))) True.intro rfl hcl ?_
    intro f c' o1 v1 t ct h' tk' F' N' g1 g2 l1 l2
    have' AB := absorbB (tl := [(f, _), (c', o1)]) N' (fun q hq p hp => ?_) h1 h2 hb e1 hob
    · obtain ⟨ob', nb', a1, a2, a3, a4, a5, a6, a7, a8⟩ := AB
      exact h f c' o1 v1 t ct h' tk' _ ob' nb' a1 a2 a3 a5 a6 a7 F' a8 (a6 _ (a4 _ (.head _))) (a6 _ (a4 _ (.tail _ (.head _)))) g1 g2 (.inr ⟨c', o1, v1, t, rfl, a4 _ (.tail _ (.head _)), g1, g2⟩)
    · have k1 : q.1 < c' := by
        rcases List.mem_cons.mp hq with hq | hq
        · rw [hq]; exact l1 _ (.head _)
        rcases List.mem_cons.mp hq with hq | hq
        · rw [hq]; exact l1 _ (.tail _ (.head _))
        rcases List.mem_cons.mp hq with hq | hq
        · rw [hq]; exact l1 (156, tabObj #[]) (.tail _ (.tail _ (.head _)))
        · exact l1 _ (.tail _ (.tail _ (.tail _ hq)))
      rcases List.mem_cons.mp hp with hp | hp
      · rw [hp]; exact Nat.lt_trans k1 l2
      · rw [List.mem_singleton.mp hp]; exact k1
  · obtain ⟨c', o1, v1, t, rfl, g0, g1, g2⟩ := id hT
    refine kla_hit F N T C rfl (.tail _ (.tail _ (.head _))) (by simp [TriplesOk, rawInt]) (c' := c') (by simp [codeAmong, rawInt]) hcl ?_
    intro f ct h' tk' F' N' l1
    obtain ⟨ob', nb', a1, a2, a3, a4, a5, a6, a7, a8⟩ := absorbB (tl := [(f, _)]) N' (fun q hq p hp => by rw [List.mem_singleton.mp hp]; exact l1 q hq) h1 h2 hb e1 hob
    exact h f c' o1 v1 t ct h' tk' _ ob' nb' a1 a2 a3 a5 a6 a7 F' a8 (a6 _ (a4 _ (.head _))) (a5 _ g0) g1 g2 (.inl rfl)
end
end Mine
end PartTm

section PartTv
open PySem PySem.W PySem.Spec PySem.Calls PyProof.Rows
set_option maxRecDepth 100000
set_option maxHeartbeats 8000000
namespace Mine
example : PySem.Challenge.rw_pg0182_01 = PySem.Challenge.rw_pg0182_01 ∧ hd.heap_39 = hd.heap_39 := by
  k_fill
  exact ⟨rfl, rfl⟩
local macro_rules | `(tactic| k_mem) => `(tactic| first | assumption | exact List.mem_cons_self | (refine List.mem_cons_of_mem _ ?_; k_mem))
local macro_rules | `(tactic| kst_mem) => `(tactic| first | assumption | (refine List.mem_cons_of_mem _ ?_; kst_mem) | (refine List.mem_append.mpr (.inl ?_); kst_mem) | (refine List.mem_append.mpr (.inr ?_); kst_mem))
local macro_rules | `(tactic| k_updF) => `(tactic| first | (refine UpdF.head ?_; (repeat' (refine List.forall_mem_cons.mpr ⟨?_, ?_⟩)); (all_goals first | assumption | (refine neN ?_; (try dsimp only); omega))) | (refine' UpdF.tail ?a ?b; (case a => (refine neN ?_; (try dsimp only); omega)); (case b => k_updF)))
local macro_rules | `(tactic| walk_at "eval ListComp") => `(tactic| (refine Stop.mk ?_))
local macro_rules | `(tactic| walk_at "compareOp NotEq ref ref") => `(tactic| (refine Stop.mk ?_))
local macro_rules | `(tactic| walk_at "compareOp NotEq int int") => `(tactic| (refine Stop.mk ?_))
local macro_rules | `(tactic| walk_at "subscriptTail") => `(tactic| (refine Stop.mk ?_))
local macro_rules | `(tactic| walk_at "eval Lambda") => `(tactic| (refine Stop.mk ?_))
local macro_rules | `(tactic| walk_at "call type:range") => `(tactic| (refine Stop.mk ?_))
local macro_rules | `(tactic| walk_at "call builtin:sum") => `(tactic| (refine Stop.mk ?_))
local macro_rules | `(tactic| walk_at "callWith ref") => `(tactic| (k_here; k_dflt (refine' callWith_K ?k1 ?k2 ?_; (case k1 => k_asm); (case k2 => k_is); k_whole)))
local macro_rules | `(tactic| walk_at "call ref") => `(tactic| (refine Stop.mk ?_))
local macro_rules | `(tactic| walk_at "binaryOp Mult int int") => `(tactic| (k_here; first | (k_dflt (refine' mul_left ?k1 ?k2 ?_; (case k1 => decide); (case k2 => decide); k_whole)) | (refine Stop.mk ?_)))
theorem lawTurnB (w : World) (mean : ExcName → Option Value) (mg mb : Str → Option Value) (dp un : Nat) (gd : Option (List Code)) (L a : Addr) (outer : List Env) (A₀ : Around) (base h₀ : Heap) (m₁ : Str → Option Value) (s : Shared) (Q : Flow → Shared → Prop) (E : Value → Shared → Prop)
    (c6 c5 c4 c3 c2 c1 ci he x dl lm : Addr) (oc o6 o5 : Obj) (civ hev dvs mvs : List Value) (cik hek dk mk : Nat) (bs : List Nat) (ps qs : Array Value) (nb : List (Addr × Obj))
    (B : Below A₀ base outer h₀) (X : (Mine.hd.heap_39 w.params).In h₀) (T : Top VP LOO mean mg mb h₀) (C1 : CodeHd base 146 144) (C2 : CodeHd h₀ 158 156) (hdp : dp + 6 < recursionLimit) (hun : un + 64 < cLine)
    (d6 : o6.data = .cell (some (.ref he))) (d5 : o5.data = .cell (some (.ref ci))) (d1 : oc.data = .cell (some (.ref dl))) (hci : IntsAre civ circ) (hhe : IntsAre hev hexa) (hdv : IntsAre dvs ((dotsOf (bmp bs)).map fun (n : Nat) => (n : Int)))
    (m6 : (c6, o6) ∈ nb) (m5 : (c5, o5) ∈ nb) (mci : (ci, listOf civ.toArray cik) ∈ nb) (mhe : (he, listOf hev.toArray hek) ∈ nb) (mdl : (dl, listOf dvs.toArray dk) ∈ nb) (mlm : (lm, listOf mvs.toArray mk) ∈ nb)
    (hRw : RowsIn nb mvs (rowsOfTurn bs (top (bmp bs)))) (hTF : TurnFacts bs (top (bmp bs))) (hlen : bs.length ≤ 9)
    (hc1 : @LT.lt Nat _ 144 c1) (hc2 : @LT.lt Nat _ 156 c1) (hOff : Offs c1 nb)
    (tabM : ps = #[] ∨ TabM ps nb) (tabL : qs = #[] ∨ TabL qs nb)
    (F : Fr h₀ L s.heap (fun y => if y = Str.ofString "moved" then some (.ref lm) else if y = Str.ofString "after" then some (.ref x) else m₁ y))
    (N : News h₀ L s.heap ((c1, oc) :: (144, tabObj ps) :: (156, tabObj qs) :: nb))
    (hret : ∀ m' h' tk' ps' qs' ob, Fr h₀ L h' m' → News h₀ L h' ((c1, oc) :: (144, tabObj ps') :: (156, tabObj qs') :: (ob ++ nb)) → m' (Str.ofString "mail") = m₁ (Str.ofString "mail") → m' (Str.ofString "before") = some (.ref x) →
      (ps' = ps ∨ TabM ps' ob) → (qs' = qs ∨ TabL qs' ob) → OB c1 nb ob → Q .next { s with heap := h', toks := tk' }) :
    wpAny (model PR w) (lawA dp un gd L a (.ref 158) c6 c5 c4 c3 c2 c1 outer) (execs (turnBody.drop 6) (lawEnv L a (.ref 158) c6 c5 c4 c3 c2 c1)) Q E s := by
  have hb1 := hOff.1
  have hrl := rowsOfTurn_length bs (top (bmp bs))
  have hk11 := hTF.K1
  have hmv : mvs.length < 1000 := by rw [hRw.length]; omega
  change wpAny _ _ (execs (_ :: _ :: _ :: _ :: _ :: _ :: []) _) _ _ _
  k_with_none
  k_steps
  refine Stop.on ?_
  have hpos := rowsOfTurn_pos bs (top (bmp bs)) (by omega)
  have hdl : (dotsOf bs).length ≤ 9 := Nat.le_trans (List.length_filter_le _ _) hlen
  have hat : ∀ (j : Nat) (v : Value), dvs[j]? = some v → ∃ a, ((dotsOf (bmp bs)).map fun (n : Nat) => (n : Int))[j]? = some a ∧ ∃ t, v = .int a t := by
    intro j v hv
    obtain ⟨k, t, e1, e2⟩ := IntsAre.at hdv j v hv
    exact ⟨k, e2, t, e1⟩
  have hbound : ∀ k ∈ (dotsOf (bmp bs)).map fun (n : Nat) => (n : Int), 2 ≤ k ∧ k < 10 := by
    intro k hk
    obtain ⟨n, hn, rfl⟩ := List.mem_map.mp hk
    have := hTF.small n hn
    omega
  (rename Fr _ _ _ _ => F9)
  (rename News _ _ _ _ => N9)
  refine moved_ask (ob := []) mlm hmv hRw hpos (by decide) tabM hc1 hc2 hOff hOff rfl (fun _ h => nomatch h) B F9 X N9 T C1 rfl (by omega) (by omega) ?_
  clear F9 N9
  intro tm h' tk' ps1 ob1 nb1 e1 hob1 u1 s1 s3 hOff1 F' N' hps1
  replace m6 := s1 _ m6
  replace m5 := s1 _ m5
  replace mci := s1 _ mci
  replace mhe := s1 _ mhe
  replace mdl := s1 _ mdl
  replace mlm := s1 _ mlm
  replace hRw := hRw.mono s1
  have tabM1 : ps1 = #[] ∨ TabM ps1 nb1 := hps1.elim (fun e => by rw [e]; exact tabM.imp id fun h => h.mono s1) fun h => .inr (h.mono s3)
  replace tabL := tabL.imp id fun (h : TabL qs nb) => h.mono s1
  have hb1 := hOff1.1
  clear s1 s3 u1
  k_steps
  refine Stop.on ?_
  (rename Fr _ _ _ _ => F9)
  refine' comp1L Int F9 ?c1 ?c2 ?c3 ?c4 ?c5 ?_
  case c1 => with_unfolding_all rfl
  case c2 => decide
  case c3 => rfl
  case c4 => decide
  case c5 => rfl
  walk1
  (rename News _ _ _ _ => N9)
  refine' ⟨dl, dvs, dk, _, (dotsOf (bmp bs)).map fun (n : Nat) => (n : Int), fun k v => ∃ t, v = .int k t, fun _ => true, fun k => circ.getD k.toNat 0, rfl, rfl, F9, N9, (by k_mem), hdv.length, hat, (by rw [List.length_map, dots_bmp, List.length_map]; omega), In1.plain ?els, ?fins⟩
  case els =>
    intro k v ys I C D oI oC m₂ h tk E' hk hv hC hx F N
    obtain ⟨t, rfl⟩ := hv
    have hk2 := hbound k hk
    clear F9 N9
    k_steps
    refine Stop.on ?_
    refine itemLed N (by k_mem) hci (by omega) (by show k < (10 : Int); omega) (by omega) ?_
    intro t'
    exact ⟨⟨t', rfl⟩, _, _, rfl, F, N⟩
  clear F9 N9
  rw [filter_all]
  intro dr drv h' tk' hdrv F' N' l1
  k_lt l1
  k_steps
  refine Stop.on ?_
  (rename Fr _ _ _ _ => F9)
  (rename News _ _ _ _ => N9)
  refine sumL (k := drv.length) rfl F9 N9 (.head _) hdrv ?_
  clear F9 N9
  intro h' tk' t' F' N'
  replace N' := news_sub N' (fun _ hp => .tail _ hp)
  clear l1 hdrv
  k_steps
  refine Stop.on ?_
  refine neIntEq ?_ ?_
  · rw [gauss bs _ hTF.K1 hTF.small, List.map_map]; rfl
  k_steps
  refine Stop.on ?_
  (rename Fr _ _ _ _ => F9)
  (rename News _ _ _ _ => N9)
  refine moved_ask mlm hmv hRw hpos (by decide) tabM1 hc1 hc2 hOff hOff1 e1 hob1 B F9 X N9 T C1 rfl (by omega) (by omega) ?_
  clear F9 N9
  intro tm h' tk' ps2 ob2 nb2 e2 hob2 u1 s1 s3 hOff2 F' N' hps2
  replace m6 := s1 _ m6
  replace m5 := s1 _ m5
  replace mci := s1 _ mci
  replace mhe := s1 _ mhe
  replace mdl := s1 _ mdl
  replace mlm := s1 _ mlm
  replace hRw := hRw.mono s1
  have tabM2 : ps2 = ps ∨ TabM ps2 ob2 := hps2.elim (fun e => by rw [e]; exact hps1.imp id fun h => h.mono u1) .inr
  replace tabL := tabL.imp id fun (h : TabL qs nb1) => h.mono s1
  have hb1 := hOff2.1
  clear s1 s3 u1 hps1 hps2 tabM1 e1 hob1 hOff1
  k_steps
  refine Stop.on ?_
  (rename Fr _ _ _ _ => F9)
  refine' comp1L Int F9 ?c1 ?c2 ?c3 ?c4 ?c5 ?_
  case c1 => with_unfolding_all rfl
  case c2 => decide
  case c3 => rfl
  case c4 => decide
  case c5 => rfl
  walk1
  (rename News _ _ _ _ => N9)
  refine' ⟨dl, dvs, dk, _, (dotsOf (bmp bs)).map fun (n : Nat) => (n : Int), fun k v => ∃ t, v = .int k t, fun _ => true, fun k => hexa.getD k.toNat 0, rfl, rfl, F9, N9, (by k_mem), hdv.length, hat, (by rw [List.length_map, dots_bmp, List.length_map]; omega), In1.plain ?elh, ?finh⟩
  case elh =>
    intro k v ys I C D oI oC m₂ h tk E' hk hv hC hx F N
    obtain ⟨t, rfl⟩ := hv
    have hk2 := hbound k hk
    clear F9 N9
    k_steps
    refine Stop.on ?_
    refine itemLed N (by k_mem) hhe (by omega) (by show k < (10 : Int); omega) (by omega) ?_
    intro t'
    exact ⟨⟨t', rfl⟩, _, _, rfl, F, N⟩
  clear F9 N9
  rw [filter_all]
  intro dr drv h' tk' hdrv F' N' l1
  k_lt l1
  k_steps
  refine Stop.on ?_
  (rename Fr _ _ _ _ => F9)
  (rename News _ _ _ _ => N9)
  refine sumL (k := drv.length) rfl F9 N9 (.head _) hdrv ?_
  clear F9 N9
  intro h' tk' t' F' N'
  replace N' := news_sub N' (fun _ hp => .tail _ hp)
  clear l1 hdrv
  k_steps
  refine Stop.on ?_
  refine neIntEq ?_ ?_
  · rw [hexagonal bs _ hTF.K1 hTF.small, List.map_map]; rfl
  k_steps
  refine Stop.on ?_
  (rename Fr _ _ _ _ => F9)
  (rename News _ _ _ _ => N9)
  refine lamEval rfl rfl (by rfl) (by with_unfolding_all rfl) hc1 hc2 hOff hOff2 e2 hob2 tabL F9 N9 T C2 ?_
  clear F9 N9
  intro f c' ol vl tq ct h' tk' qs3 ob3 nb3 e3 hob3 u1 s1 s3 hOff3 F' N' hf hcc dl1 dl2 hqs3
  replace m6 := s1 _ m6
  replace m5 := s1 _ m5
  replace mci := s1 _ mci
  replace mhe := s1 _ mhe
  replace mdl := s1 _ mdl
  replace mlm := s1 _ mlm
  replace hRw := hRw.mono s1
  have tabM3 : ps2 = ps ∨ TabM ps2 ob3 := tabM2.imp id fun h => h.mono u1
  have hb1 := hOff3.1
  clear s1 s3 u1 tabM2 e2 hob2 hOff2
  k_steps
  refine Stop.on ?_
  (rename Fr _ _ _ _ => F9)
  (rename News _ _ _ _ => N9)
  refine Does.ask (split w mean mg mb _ lm (mark (fun r => r.1.fmod 4 == 0) mvs (rowsOfTurn bs (top (bmp bs)))) mk f ?hl ?hv ⟨_, _, _, _, .tail _ (.tail _ (.tail _ hf))⟩ ?hp) B F9 X N9 T rfl (by omega) (by omega) ?_
  case hl => rw [hRw.marked]; exact .tail _ (.tail _ (.tail _ mlm))
  case hv => rw [hRw.mark_length]; exact hmv
  case hp =>
    intro v b' hv news' hs
    obtain ⟨x, i, j, k, t1, t2, t3, rfl, rfl, hx⟩ := hRw.mem_mark _ v b' hv
    refine Does.pred ?_
    exact lam_four w mean mg mb news' f c' ol vl tq lawQual _ _ _ _ _ _ _ _ _ _ (hs _ (.tail _ (.tail _ (.tail _ hf)))) (hs _ (.tail _ (.tail _ (.tail _ hcc)))) dl1 dl2 x i j k t1 t2 t3 (hs _ (.tail _ (.tail _ (.tail _ hx))))
  clear F9 N9
  rintro v tl h' tk' F' N' ho ⟨tT, yA, nA, ky, kn, rfl, rfl⟩
  obtain ⟨ob4, nb4, e4, hob4, u1, s2, s1, s3, hOff4, N2⟩ := absorbB N' ho hc1 hc2 hOff e3 hob3
  have mT := s3 _ (s2 _ (.head _))
  have mnA := s3 _ (s2 _ (.tail _ (.head _)))
  replace m6 := s1 _ m6
  replace m5 := s1 _ m5
  replace mci := s1 _ mci
  replace mhe := s1 _ mhe
  replace mdl := s1 _ mdl
  replace mlm := s1 _ mlm
  replace hRw := hRw.mono s1
  have tabM4 : ps2 = ps ∨ TabM ps2 ob4 := tabM3.imp id fun h => h.mono u1
  have tabL4 : qs3 = qs ∨ TabL qs3 ob4 := hqs3.imp id fun h => h.mono u1
  have hb1 := hOff4.1
  clear N' ho s1 s2 s3 u1 tabM3 hqs3 e3 hob3 hOff3 hf hcc dl1 dl2
  have hRn := RowsIn.no hRw (fun r => r.1.fmod 4 == 0)
  k_steps
  refine Stop.on ?_
  (rename Fr _ _ _ _ => F9)
  refine' comp2L F9 ?c1 ?c2 ?c3 ?c4 ?c5 ?c6 ?c7 ?_
  case c1 => with_unfolding_all rfl
  case c2 => decide
  case c3 => rfl
  case c4 => decide
  case c5 => rfl
  case c6 => rfl
  case c7 => decide
  walk1
  (rename News _ _ _ _ => N9)
  refine' ⟨dl, dvs, dk, _, (dotsOf (bmp bs)).map fun (n : Nat) => (n : Int), fun _ => 0, fun n => (n + 1).toNat, sqOf, rfl, rfl, F9, N9, (by k_mem), hdv, (by rw [List.length_map, dots_bmp, List.length_map]; omega), (fun k hk => by have := hbound k hk; show (k + 1).toNat ≤ 1000; omega), ⟨?q1, ?q2⟩, ?finS⟩
  case q1 =>
    intro k t ys I C D oI oC m₂ h tk E' hk hC hx F N
    have hk2 := hbound k hk
    clear F9 N9
    k_steps
    refine Stop.on ?_
    refine range1_rows F N ?_
    intro h' tk' ta tb tc hr F' N' _
    exact ⟨_, k + 1, ta, tb, tc, rfl, (by show Builtin.Range.small 0 (k + 1) 1 = true; exact small_one (by omega) (by omega) (by omega) (by omega)), (by show Builtin.Range.rangeSize 0 (k + 1) 1 = (((k + 1).toNat : Nat) : Int); rw [rangeSize_nat]; omega), hr, _, _, rfl, F', N'⟩
  case q2 =>
    intro k j t t' ys I J C D oI oJ oC m₂ h tk E' hk hj1 hj2 hC hx hy F N
    have hk2 := hbound k hk
    dsimp only at hj1 hj2
    clear F9 N9
    k_steps
    refine Stop.on ?_
    refine itemLed N (by k_mem) hci (by omega) (by show j < (10 : Int); omega) (by omega) ?_
    intro t1
    k_steps
    refine Stop.on ?_
    refine itemLed N (by k_mem) hci (by omega) (by show k - j < (10 : Int); omega) (by omega) ?_
    intro t2
    k_steps
    refine Stop.on ?_
    refine mul_left (circ_small _).1 (circ_small _).2 ?_
    exact ⟨⟨_, rfl⟩, _, _, rfl, F, N⟩
  clear F9 N9
  intro dq dqv h' tk' hdqv F' N' l1
  k_lt l1
  k_steps
  refine Stop.on ?_
  (rename Fr _ _ _ _ => F9)
  (rename News _ _ _ _ => N9)
  refine sumL (k := dqv.length) rfl F9 N9 (.head _) hdqv ?_
  clear F9 N9
  intro h' tk' t' F' N'
  replace N' := news_sub N' (fun _ hp => .tail _ hp)
  clear l1 hdqv
  k_steps
  refine Stop.on ?_
  (rename Fr _ _ _ _ => F9)
  refine' comp3 F9 ?c1 ?c2 ?c3 ?c4 ?c5 ?c6 ?c7 ?c8 ?c9 ?c10 ?_
  case c1 => with_unfolding_all rfl
  case c2 => decide
  case c3 => rfl
  case c4 => decide
  case c5 => rfl
  case c6 => rfl
  case c7 => rfl
  case c8 => decide
  case c9 => decide
  case c10 => decide
  walk1
  (rename News _ _ _ _ => N9)
  have hnl : (noOf (mark (fun r => r.1.fmod 4 == 0) mvs (rowsOfTurn bs (top (bmp bs))))).length ≤ 1000 := Nat.le_of_lt (Nat.lt_of_le_of_lt (noOf_length _) (by rw [hRw.mark_length]; exact hmv))
  refine' ⟨nA, (noOf (mark (fun r => r.1.fmod 4 == 0) mvs (rowsOfTurn bs (top (bmp bs))))).toArray, kn, _, (fun i y => ∃ (r : Tri) (t : Tok), ((rowsOfTurn bs (top (bmp bs))).filter fun r => !(r.1.fmod 4 == 0))[i]? = some r ∧ y = Value.int (r.2.1 - r.2.2) t), rfl, rfl, F9, N9, ?mem, ?size, ?turn, ?finO⟩
  case mem => exact .tail _ (.tail _ (.tail _ mnA))
  case size => (rw [List.size_toArray]; exact Nat.le_trans hnl (by decide))
  case turn =>
    intro i v hv
    obtain ⟨ra, rx, ry, rz, t1, t2, t3, rfl, hr', hm⟩ := hRn.at i v (by simpa using hv)
    refine ⟨ra, _, _, _, rfl, .tail _ (.tail _ (.tail _ (by kst_mem))), ?_⟩
    intro I oI C oC D ys m₂ h tk E' hoC e1 e2 e3 F N
    clear F9 N9
    k_steps
    all_goals (with_unfolding_all assumption)
  clear F9 N9
  intro D ys h tk hlen2 hok F N l9
  k_lt l9
  have hI : IntsAre ys (((rowsOfTurn bs (top (bmp bs))).filter fun r => !(r.1.fmod 4 == 0)).map fun r => r.2.1 - r.2.2) := by
    refine intsAre_of ?_ ?_
    · rw [hlen2, List.size_toArray, hRn.length, List.length_map]
    · intro i y hy
      obtain ⟨r, t, h1, h2⟩ := hok i y hy
      exact ⟨_, t, by rw [List.getElem?_map, h1]; rfl, h2⟩
  k_steps
  refine Stop.on ?_
  (rename Fr _ _ _ _ => F9)
  (rename News _ _ _ _ => N9)
  refine sumL rfl F9 N9 (.head _) hI ?_
  clear F9 N9
  intro h' tk' t' F' N'
  replace N' := news_sub N' (fun _ hp => .tail _ hp)
  clear l9 hI hok hlen2
  k_steps
  refine Stop.on ?_
  refine neIntEq ?_ ?_
  · rw [jacobi bs _ hTF.K1 hTF.small, squares_sum]
  k_steps
  (rename Fr _ _ _ _ => F9)
  (rename News _ _ _ _ => N9)
  rw [e4] at N9
  exact hret _ _ _ ps2 qs3 ob4 F9 N9 (by rfl) (by rfl) tabM4 tabL4 hob4
end Mine
end PartTv

section PartTu
open PySem PySem.W PySem.Spec PySem.Calls PyProof.Rows
set_option maxRecDepth 100000
set_option maxHeartbeats 8000000
namespace Mine
local macro_rules | `(tactic| walk_at "no key 0") => `(tactic| skip)
local macro_rules | `(tactic| walk_at "no key 1") => `(tactic| skip)
local macro_rules | `(tactic| walk_at "no key 2") => `(tactic| skip)
local macro_rules | `(tactic| walk_at "no key 3") => `(tactic| skip)
local macro_rules | `(tactic| walk_at "no key 4") => `(tactic| skip)
local macro_rules | `(tactic| walk_at "no key 5") => `(tactic| skip)
local macro_rules | `(tactic| walk_at "no key 6") => `(tactic| skip)
local macro_rules | `(tactic| walk_at "no key 7") => `(tactic| skip)
local macro_rules | `(tactic| walk_at "no key 8") => `(tactic| skip)
local macro_rules | `(tactic| walk_at "no key 9") => `(tactic| skip)
local macro_rules | `(tactic| walk_at "no key 10") => `(tactic| skip)
local macro_rules | `(tactic| walk_at "no key 11") => `(tactic| skip)
local macro_rules | `(tactic| walk_at "no key 12") => `(tactic| skip)
local macro_rules | `(tactic| walk_at "no key 13") => `(tactic| skip)
local macro_rules | `(tactic| walk_at "no key 14") => `(tactic| skip)
local macro_rules | `(tactic| walk_at "no key 15") => `(tactic| skip)
local macro_rules | `(tactic| walk_at "no key 16") => `(tactic| skip)
local macro_rules | `(tactic| walk_at "no key 17") => `(tactic| skip)
local macro_rules | `(tactic| walk_at "no key 18") => `(tactic| skip)
local macro_rules | `(tactic| walk_at "no key 19") => `(tactic| skip)
local macro_rules | `(tactic| walk_at "no key 20") => `(tactic| skip)
local macro_rules | `(tactic| walk_at "no key 21") => `(tactic| skip)
local macro_rules | `(tactic| walk_at "no key 22") => `(tactic| skip)
local macro_rules | `(tactic| walk_at "no key 23") => `(tactic| skip)
example : PySem.Challenge.rw_pg0182_01 = PySem.Challenge.rw_pg0182_01 ∧ hd.heap_39 = hd.heap_39 := by
  k_fill
  exact ⟨rfl, rfl⟩
local macro_rules | `(tactic| k_mem) => `(tactic| first | assumption | exact List.mem_cons_self | (refine List.mem_cons_of_mem _ ?_; k_mem))
local macro_rules | `(tactic| kst_mem) => `(tactic| first | assumption | (refine List.mem_cons_of_mem _ ?_; kst_mem) | (refine List.mem_append.mpr (.inl ?_); kst_mem) | (refine List.mem_append.mpr (.inr ?_); kst_mem))
local macro_rules | `(tactic| k_updF) => `(tactic| first | (refine UpdF.head ?_; (repeat' (refine List.forall_mem_cons.mpr ⟨?_, ?_⟩)); (all_goals first | assumption | (refine neN ?_; (try dsimp only); omega))) | (refine' UpdF.tail ?a ?b; (case a => (refine neN ?_; (try dsimp only); omega)); (case b => k_updF)))
local macro_rules | `(tactic| walk_at "eval ListComp") => `(tactic| (refine Stop.mk ?_))
local macro_rules | `(tactic| walk_at "exec Assign cons ListComp") => `(tactic| ((with_reducible show wpAny _ _ (exec (Stmt.Assign [PySem.Expr.Name (Str.ofString "divisors") _] _ _) _) _ _ _); (refine Stop.mk ?_)))
local macro_rules | `(tactic| walk_at "compareOp NotEq ref ref") => `(tactic| (refine Stop.mk ?_))
local macro_rules | `(tactic| walk_at "eval Lambda") => `(tactic| (refine Stop.mk ?_))
local macro_rules | `(tactic| walk_at "call type:range") => `(tactic| (refine Stop.mk ?_))
local macro_rules | `(tactic| walk_at "call builtin:sum") => `(tactic| (refine Stop.mk ?_))
local macro_rules | `(tactic| walk_at "callWith ref") => `(tactic| (k_here; k_dflt (refine' callWith_K ?k1 ?k2 ?_; (case k1 => k_asm); (case k2 => k_is); k_whole)))
local macro_rules | `(tactic| walk_at "call ref") => `(tactic| (refine Stop.mk ?_))
local macro_rules | `(tactic| walk_at "execs cons") => `(tactic| ((with_reducible show wpAny _ _ (execs [_, _, _, _, _, _] _) _ _ _); (refine Stop.mk ?_)))
theorem lawTurn (w : World) (mean : ExcName → Option Value) (mg mb : Str → Option Value) (dp un : Nat) (gd : Option (List Code)) (L a : Addr) (outer : List Env) (A₀ : Around) (base h₀ : Heap) (m₁ : Str → Option Value) (s : Shared) (Q : Flow → Shared → Prop) (E : Value → Shared → Prop)
    (c6 c5 c4 c3 c2 c1 ci he x dl : Addr) (oc o6 o5 : Obj) (civ hev dvs : List Value) (cik hek dk i : Nat) (k : Int) (tt tm : Tok) (bs r : List Nat) (ps qs : Array Value) (nb : List (Addr × Obj))
    (B : Below A₀ base outer h₀) (X : (Mine.hd.heap_39 w.params).In h₀) (T : Top VP LOO mean mg mb h₀) (C1 : CodeHd base 146 144) (C2 : CodeHd h₀ 158 156) (hdp : dp + 6 < recursionLimit) (hun : un + 64 < cLine)
    (d6 : o6.data = .cell (some (.ref he))) (d5 : o5.data = .cell (some (.ref ci))) (d1 : oc.data = .cell (some (.ref dl))) (hci : IntsAre civ circ) (hhe : IntsAre hev hexa) (hdv : IntsAre dvs ((dotsOf bs).map fun (n : Nat) => (n : Int)))
    (m6 : (c6, o6) ∈ nb) (m5 : (c5, o5) ∈ nb) (mci : (ci, listOf civ.toArray cik) ∈ nb) (mhe : (he, listOf hev.toArray hek) ∈ nb) (mdl : (dl, listOf dvs.toArray dk) ∈ nb)
    (hc1 : @LT.lt Nat _ 144 c1) (hc2 : @LT.lt Nat _ 156 c1) (hnb : ∀ p ∈ nb, @Ne Nat p.1 c1 ∧ @Ne Nat p.1 144 ∧ @Ne Nat p.1 156)
    (hi : i < 2) (hW : WsIs w nb x (cntOf bs)) (hS : Subs code2 [13, 10] [] r (fixed bs)) (hr : r.length ≤ 1000) (hlen : bs.length ≤ 9) (hle : ∀ b ∈ bs, b ≤ 7 + i) (has : 3 + i ∈ bs)
    (tabM : ps = #[] ∨ TabM ps nb) (tabL : qs = #[] ∨ TabL qs nb)
    (F : Fr h₀ L s.heap (fun y => if y = Str.ofString "turn" then some (.int k tt) else if y = Str.ofString "mail" then some (.str (S r) tm) else if y = Str.ofString "before" then some (.ref x) else m₁ y))
    (N : News h₀ L s.heap ((c1, oc) :: (144, tabObj ps) :: (156, tabObj qs) :: nb))
    (hret : ∀ m' h' tk' oc' dl' dvs' dk' ps' qs' x' tm' objs, Fr h₀ L h' m' → News h₀ L h' ((c1, oc') :: (144, tabObj ps') :: (156, tabObj qs') :: (objs ++ nb)) → m' (Str.ofString "mail") = some (.str (S (fixed (bmp bs))) tm') → m' (Str.ofString "before") = some (.ref x') →
      oc'.data = .cell (some (.ref dl')) → (dl', listOf (dvs' : List Value).toArray dk') ∈ objs → IntsAre dvs' ((dotsOf (bmp bs)).map fun (n : Nat) => (n : Int)) → WsIs w objs x' (cntOf (bmp bs)) → (ps' = ps ∨ TabM ps' objs) → (qs' = qs ∨ TabL qs' objs) →
      (∀ p ∈ objs, (∀ q ∈ nb, q.1 < p.1) ∧ @LT.lt Nat _ c1 p.1) → Q .next { s with heap := h', toks := tk' }) :
    wpAny (model PR w) (lawA dp un gd L a (.ref 158) c6 c5 c4 c3 c2 c1 outer) (execs turnBody (lawEnv L a (.ref 158) c6 c5 c4 c3 c2 c1)) Q E s := by
  have hz := sizes_ok bs hlen (7 + i) (by omega) hle
  have hzb := sizes_ok (bmp bs) (by rw [bmp_length]; exact hlen) (8 + i) (by omega) (fun b hb => by have := bmp_le bs _ hle b hb; omega)
  have hOff : Offs c1 nb := ⟨fun p hp => (hnb p hp).1, fun p hp => (hnb p hp).2.1, fun p hp => (hnb p hp).2.2⟩
  have hb1 := hOff.1
  clear hnb
  have hTF := turnFacts bs i hi hle has
  change wpAny _ _ (execs (_ :: _ :: _ :: _ :: _ :: _ :: _ :: _ :: _ :: _ :: _ :: _ :: []) _) _ _ _
  k_with_none
  k_steps
  refine Stop.on ?_
  (rename Fr _ _ _ _ => F9)
  (rename News _ _ _ _ => N9)
  refine Does.ask0 (quoted w mean mg mb _ r (fixed bs) (fixed (bmp bs)) _ hS (subs_quote bs (by have := hz.2; omega)) ⟨by omega, by have := hz.2; omega⟩ ⟨by have := hz.2; omega, by have := hzb.2; omega⟩) B F9 X N9 T rfl (by omega) (by omega) ?_
  clear F9 N9
  intro t' h' tk' F' N'
  k_steps
  refine Stop.on ?_
  (rename Fr _ _ _ _ => F9)
  have hdl : (dotsOf bs).length ≤ 9 := Nat.le_trans (List.length_filter_le _ _) hlen
  refine' comp1L Int F9 ?c1 ?c2 ?c3 ?c4 ?c5 ?_
  case c1 => with_unfolding_all rfl
  case c2 => decide
  case c3 => rfl
  case c4 => decide
  case c5 => rfl
  walk1
  (rename News _ _ _ _ => N9)
  refine' ⟨dl, dvs, dk, _, _, fun k v => ∃ t, v = .int k t, fun _ => true, fun k => k + 1, rfl, rfl, F9, N9, (by k_mem), hdv.length, ?at1, (by rw [List.length_map]; omega), In1.plain ?el1, ?finD⟩
  case at1 =>
    intro j v hv
    obtain ⟨k, t, e1, e2⟩ := IntsAre.at hdv j v hv
    exact ⟨k, e2, t, e1⟩
  case el1 =>
    intro k v ys I C D oI oC m₂ h tk E' hk hv hC hx F N
    obtain ⟨t, rfl⟩ := hv
    clear F9 N9
    k_steps
    all_goals (with_unfolding_all assumption)
  clear F9 N9
  rw [filter_all]
  have hd2 : List.map (fun k => k + 1) ((dotsOf bs).map fun (n : Nat) => (n : Int)) = (dotsOf (bmp bs)).map fun (n : Nat) => (n : Int) := by
    rw [dots_bmp, List.map_map, List.map_map]
    congr 1
  rw [hd2]
  intro dl' dvs' h' tk' hdv' F' N' l1
  obtain ⟨ob0, nb0, e0, hob0, _, v2, v1, v3, hOff0, N2⟩ := absorb1 (ob := []) N' l1 hc1 hc2 hOff rfl (fun _ h => nomatch h)
  have hb1 := hOff0.1
  have mdl0 := v3 _ v2
  clear N' l1
  replace m6 := v1 _ m6
  replace m5 := v1 _ m5
  replace mci := v1 _ mci
  replace mhe := v1 _ mhe
  replace hW := hW.mono v1
  k_steps
  refine Stop.on ?_
  (rename Fr _ _ _ _ => F9)
  (rename News _ _ _ _ => N9)
  (rename _ = Data.cell (some (Value.ref dl')) => dcell)
  clear d1
  refine Does.ask (leads w mean mg mb _ (bmp bs) _ hzb) B F9 X N9 T rfl (by omega) (by omega) ?_
  clear F9 N9
  rintro v tl h' tk' F' N' ho ⟨x', rfl, hW1⟩
  obtain ⟨ob1, nb1, e1, hob1, u0, s2, s1, s3, hOff1, N2⟩ := absorbB N' ho hc1 hc2 hOff e0 hob0
  have hb1 := hOff1.1
  have mdl1 := u0 _ v2
  clear N' ho mdl0 v1 v2 v3 u0 e0 hob0 hOff0
  replace m6 := s1 _ m6
  replace m5 := s1 _ m5
  replace mci := s1 _ mci
  replace mhe := s1 _ mhe
  have hWb := hW.mono s1
  have hWa := hW1.mono fun p hp => s3 p (s2 p hp)
  have mdl := s3 _ mdl1
  have hWo := hW1.mono s2
  clear s1 s2 s3 hW1
  have hWa' := hWa
  obtain ⟨d, tn, tc, vs, raw, k0, k1, k2, k3, k4, t1, t2, t3, t4, de, hx, hdd, htn, htc, hiA⟩ := hWa'
  k_steps
  refine Stop.on ?_
  (rename Fr _ _ _ _ => F9)
  (rename News _ _ _ _ => N9)
  have hsz : sizesOf (cntOf (bmp bs)) (cntOf bs) = (top (bmp bs) : Int) := sizes_ab bs (by have := hTF.top1; omega)
  refine Does.ask (witness w mean mg mb _ x' x _ _ (hWa.mono fun p hp => .tail _ (.tail _ (.tail _ hp))) (hWb.mono fun p hp => .tail _ (.tail _ (.tail _ hp))) hTF.lb hTF.la (by rw [hsz]; omega) (by rw [hsz]; have := hTF.K1; omega)) B F9 X N9 T rfl (by omega) (by omega) ?_
  clear F9 N9
  rintro v tl2 h' tk' F' N' ho ⟨lm, mvs, mk, mobs, rfl, rfl, hRw, hmo⟩
  rw [hsz, Int.toNat_natCast] at hRw
  obtain ⟨ob2, nb2, e2, hob2, u1, s2, s1, s3, hOff2, N2⟩ := absorbB N' ho hc1 hc2 hOff e1 hob1
  have hb1 := hOff2.1
  have mdl2 := u1 _ mdl1
  have hWo2 := hWo.mono u1
  have mlm := s3 _ (s2 _ (.head _))
  have hRw2 := hRw.mono fun p hp => s3 p (s2 p hp)
  clear N' ho hRw hmo hx hdd htn htc hiA mdl1 hWo
  replace m6 := s1 _ m6
  replace m5 := s1 _ m5
  replace mci := s1 _ mci
  replace mhe := s1 _ mhe
  replace mdl := s1 _ mdl
  replace hWa := hWa.mono s1
  replace hWb := hWb.mono s1
  clear s1 s2 s3 u1 e1 hob1 hOff1
  k_steps
  refine Stop.on ?_
  (rename Fr _ _ _ _ => F9)
  refine' compCA F9 ?c1 ?c2 ?c3 ?c4 ?c5 ?c6 ?c7 ?c8 ?c9 ?c10 ?c11 ?_
  case c1 => rfl
  case c2 => with_unfolding_all rfl
  case c3 => with_unfolding_all rfl
  case c4 => intro _; rfl
  case c5 => intro _; rfl
  case c6 => rfl
  case c7 => intro _ _; rfl
  case c8 => rfl
  case c9 => decide
  case c10 => rfl
  case c11 => rfl
  k_steps
  refine Stop.on ?_
  (rename Fr _ _ _ _ => F9)
  (rename News _ _ _ _ => N9)
  refine range2_rows F9 N9 ?_
  clear F9 N9
  intro h' tk ta tb tc hr F9 N9 _
  refine' ⟨_, 1, 11, ta, tb, tc, 10, _, fun d => (dotsOf (bmp bs)).any fun n => n % d.toNat == 0, rfl, rfl, F9, N9, hr, (by decide), (by decide), (by decide), ⟨?ct1, ?ct2⟩, ?finV⟩
  case ct2 =>
    intro k t ys I C K D oI oC oK h tk E' hk hp hdK F N
    clear F9 N9 hr
    k_steps
    all_goals (with_unfolding_all assumption)
  case ct1 =>
    intro k t ys I C K D oI oC oK h tk E' hk hdK F N
    have hk2 := mem_rangeKs hk
    clear F9 N9 hr
    k_steps
    refine Stop.on ?_
    refine' comp1L Int F ?d1 ?d2 ?d3 ?d4 ?d5 ?_
    case d1 => with_unfolding_all rfl
    case d2 => decide
    case d3 => rfl
    case d4 => decide
    case d5 => rfl
    walk1
    refine' ⟨dl', dvs', dvs'.length, _, (dotsOf (bmp bs)).map fun (n : Nat) => (n : Int), fun k v => ∃ t, v = .int k t, fun n => n.fmod k == 0, fun n => n, rfl, rfl, F, N, ?dm, hdv'.length, ?at2, (by rw [List.length_map, dots_bmp, List.length_map]; omega), ⟨?te, ?el⟩, ?finN⟩
    case dm =>
      show (dl', LCg.lst dvs') ∈ _
      k_mem
    case at2 =>
      intro j v hv
      obtain ⟨k, t, e1, e2⟩ := IntsAre.at hdv' j v hv
      exact ⟨k, e2, t, e1⟩
    case el =>
      intro n v ys2 I2 C2' D2 oI2 oC2 m₂ h2 tk2 E2 hn hv hp hC hx F N
      obtain ⟨t2, rfl⟩ := hv
      k_steps
      all_goals (with_unfolding_all assumption)
    case te =>
      intro n v ys2 I2 C2' D2 oI2 oC2 m₂ h2 tk2 E2 hn hv hC hx F N
      obtain ⟨t2, rfl⟩ := hv
      refine wpAny_tests_one ?_
      k_steps
      all_goals (with_unfolding_all assumption)
    clear F N
    intro D2 ys2 h2 tk2 hI2 F N l2
    k_lt l2
    k_steps
    refine Stop.on ?_
    (rename News _ _ _ _ => N8)
    refine neInts (k := ys2.length) N8 (.tail _ (.head _)) hI2 (.head _) .nil hun ?_
    k_steps
    · exact any_mod _ _ hk2.1
    · with_unfolding_all assumption
    · exact fun p hp => N8 p (.tail _ (.tail _ hp))
  clear F9 N9 hr
  rw [divisors_are bs _ hTF]
  intro dv dvv h' tk' hdvv F' N' l1
  obtain ⟨ob3, nb3, e3, hob3, u1, v2, s1, s3, hOff3, N2⟩ := absorb1 N' l1 hc1 hc2 hOff e2 hob2
  have hb1 := hOff3.1
  have mdv := s3 _ v2
  replace mdl2 := u1 _ mdl2
  replace hWo2 := hWo2.mono u1
  replace mlm := s1 _ mlm
  replace hRw2 := hRw2.mono s1
  clear N' l1
  replace m6 := s1 _ m6
  replace m5 := s1 _ m5
  replace mci := s1 _ mci
  replace mhe := s1 _ mhe
  replace mdl := s1 _ mdl
  replace hWa := hWa.mono s1
  replace hWb := hWb.mono s1
  clear s1 s3 u1 v2 e2 hob2 hOff2
  k_steps
  refine Stop.on ?_
  (rename Fr _ _ _ _ => F9)
  refine' comp1L Tri F9 ?c1 ?c2 ?c3 ?c4 ?c5 ?_
  case c1 => with_unfolding_all rfl
  case c2 => decide
  case c3 => rfl
  case c4 => decide
  case c5 => rfl
  walk1
  (rename News _ _ _ _ => N9)
  skip --M2
  have hrl := rowsOfTurn_length bs (top (bmp bs))
  have hk11 := hTF.K1
  refine' ⟨lm, mvs, mk, _, rowsOfTurn bs (top (bmp bs)), TriIs nb3, fun _ => true, fun r => r.1, rfl, rfl, F9, N9, (by k_mem), hRw2.length, hRw2.tri, (by omega), In1.plain ?el3, ?finR⟩
  case el3 =>
    intro k v ys I C D oI oC m₂ h tk E' hk hv hC hx F N
    obtain ⟨ra, t1, t2, t3, rfl, hra⟩ := hv
    clear F9 N9
    k_steps
    all_goals (with_unfolding_all assumption)
  clear F9 N9
  rw [filter_all]
  intro dr drv h' tk' hdrv F' N' l1
  k_lt l1
  k_steps
  refine Stop.on ?_
  (rename News _ _ _ _ => N9)
  refine neSame (k := drv.length) (k' := dvv.length) N9 (.head _) hdrv (.tail _ (.tail _ (.tail _ (.tail _ mdv)))) hdvv hun ?_
  have hWb' := hWb
  obtain ⟨d, tn, tc, vs, raw, k0, k1, k2, k3, k4, t1, t2, t3, t4, de, hx, hdd, htn, htc, hiA⟩ := hWb'
  k_steps
  refine Stop.on ?_
  clear hx hdd htn htc hiA
  (rename Fr _ _ _ _ => F9)
  have hsz2 : sizesOf (cntOf bs) (cntOf (bmp bs)) = (top (bmp bs) : Int) := sizes_ba bs (by have := hTF.top1; omega)
  refine Does.ask (less w mean mg mb _ x x' _ _ (hWb.mono fun p hp => .tail _ (.tail _ (.tail _ (.tail _ hp)))) (hWa.mono fun p hp => .tail _ (.tail _ (.tail _ (.tail _ hp)))) hTF.la hTF.lb (by rw [hsz2]; omega) (by rw [hsz2]; have := hTF.K1; omega) hTF.lc (top (bmp bs) : Int) (by have := hTF.K2; omega) (by rw [hsz2]; exact Int.le_refl _) (not_less bs _ hTF.small (by have := hTF.K2; omega))) B F9 X N9 T rfl (by omega) (by omega) ?_
  rintro v tl h' tk' F' N' ho ⟨rfl, rfl⟩
  clear F9 N9 ho
  replace N' := news_sub N' (fun _ hp => .tail _ hp)
  clear l1
  k_steps
  refine Stop.on ?_
  (rename Fr _ _ _ _ => F9)
  (rename News _ _ _ _ => N9)
  have g1 : ∀ p ∈ nb, p ∈ nb3 := fun p hp => by rw [e3]; exact List.mem_append.mpr (.inr hp)
  refine lawTurnB w mean mg mb dp un gd L a outer A₀ base h₀ _ _ Q E c6 c5 c4 c3 c2 c1 ci he x' dl' lm _ o6 o5 civ hev dvs' mvs cik hek dvs'.length mk bs ps qs nb3 B X T C1 C2 hdp hun d6 d5 dcell hci hhe hdv' m6 m5 mci mhe mdl mlm hRw2 hTF hlen hc1 hc2 hOff3
    (tabM.imp id fun h => h.mono g1) (tabL.imp id fun h => h.mono g1) (fr_pair (by rfl) (by rfl) F9) N9 ?_
  intro m' h' tk' ps' qs' ob F' N' hm1 hm2 hps hqs hob
  rw [e3, ← List.append_assoc] at N'
  refine hret m' h' tk' _ dl' dvs' dvs'.length ps' qs' x' t' (ob ++ ob3) F' N' hm1 hm2 dcell (List.mem_append.mpr (.inr mdl2)) hdv' (hWo2.mono fun p hp => List.mem_append.mpr (.inr hp))
    (hps.imp id fun h => h.mono fun p hp => List.mem_append.mpr (.inl hp)) (hqs.imp id fun h => h.mono fun p hp => List.mem_append.mpr (.inl hp)) ?_
  intro p hp
  rcases List.mem_append.mp hp with hp | hp
  · exact ⟨fun q hq => (hob p hp).1 q (g1 q hq), (hob p hp).2⟩
  · exact hob3 p hp
end Mine
end PartTu

section PartLn
open PySem PySem.W PySem.Spec PySem.Calls PyProof.Rows PySem.Sre
set_option maxRecDepth 100000
set_option maxHeartbeats 2000000
namespace Mine
theorem subs_crlf : ∀ (bs : List Nat) (a : List Nat), Subs code2 [13, 10] a (fixed bs) (fixed bs)
  | [], a => by
    obtain ⟨n, hn, e⟩ := search2_none a [] (fun _ h => nomatch h)
    exact .stop n (by omega) e
  | b :: bs, a => by
    rw [fixed_cons]
    have next := subs_crlf bs (a ++ List.replicate b 46 ++ [13, 10])
    obtain ⟨k, hf, hk⟩ := search2_some a (List.replicate b 46) 13 (10 :: fixed bs) (noEnd_dots b) rfl
    rw [if_pos (by rfl)] at hk
    subst hk
    exact .go [13, 10] 16 (by simp) (by omega) hf next
section
variable {w : World}
/-- a turn of the law's loop, in the loop's own words -/
theorem turnJ (mean : ExcName → Option Value) (mg mb : Str → Option Value) (dp un : Nat) (gd : Option (List Code)) (L a : Addr) (outer : List Env) (A₀ : Around) (base h₀ : Heap) (s : Shared) (Q : Flow → Shared → Prop) (E : Value → Shared → Prop)
    (c6 c5 c4 c3 c2 c1 ci he : Addr) (o6 o5 : Obj) (civ hev : List Value) (cik hek i : Nat) (k : Int) (tt : Tok) (m₁ : Str → Option Value) (nx rest : List (Addr × Obj)) (I : Addr) (oI : Obj)
    (B : Below A₀ base outer h₀) (X : (Mine.hd.heap_39 w.params).In h₀) (T : Top VP LOO mean mg mb h₀) (C1 : CodeHd base 146 144) (C2 : CodeHd h₀ 158 156) (hdp : dp + 6 < recursionLimit) (hun : un + 64 < cLine)
    (d6 : o6.data = .cell (some (.ref he))) (d5 : o5.data = .cell (some (.ref ci))) (hci : IntsAre civ circ) (hhe : IntsAre hev hexa)
    (m6 : (c6, o6) ∈ rest) (m5 : (c5, o5) ∈ rest) (mci : (ci, listOf civ.toArray cik) ∈ rest) (mhe : (he, listOf hev.toArray hek) ∈ rest) (hc1 : @LT.lt Nat _ 144 c1) (hc2 : @LT.lt Nat _ 156 c1) (hi : i < 2)
    (hJ : TJ w c1 rest i m₁ nx) (hI : ∀ p ∈ nx, p.1 ≠ I) (F : Fr h₀ L s.heap (fun y => if y = Str.ofString "turn" then some (.int k tt) else m₁ y)) (N : News h₀ L s.heap (nx ++ [(I, oI)])) :
    wpAny (model PR w) (lawA dp un gd L a (.ref 158) c6 c5 c4 c3 c2 c1 outer) (execs turnBody (lawEnv L a (.ref 158) c6 c5 c4 c3 c2 c1)) (TurnPost h₀ L (TJ w c1 rest (i + 1)) [(I, oI)] s Q) E s := by
  obtain ⟨⟨bs, r, tm, x, oc, dl, dvs, dk, ps, qs, objs⟩, rfl, hm1, hm2, hT⟩ := hJ
  obtain ⟨t1, t2, t3, t4, t5, t6, t7, t8, t9, t10, t11, t12⟩ := hT
  dsimp only at *
  have inb : ∀ p ∈ objs ++ rest, p ∈ (objs ++ rest) ++ [(I, oI)] := fun p hp => List.mem_append.mpr (.inl hp)
  have inr : ∀ p ∈ rest, p ∈ (objs ++ rest) ++ [(I, oI)] := fun p hp => inb p (List.mem_append.mpr (.inr hp))
  have ino : ∀ p ∈ objs, p ∈ (objs ++ rest) ++ [(I, oI)] := fun p hp => inb p (List.mem_append.mpr (.inl hp))
  have hnb : ∀ p ∈ (objs ++ rest) ++ [(I, oI)], @Ne Nat p.1 c1 ∧ @Ne Nat p.1 144 ∧ @Ne Nat p.1 156 := by
    intro p hp
    rcases List.mem_append.mp hp with hp | hp
    · have h1 := t12 p hp
      refine ⟨?_, ?_, ?_⟩ <;> omega
    · rw [List.mem_singleton.mp hp]
      exact ⟨Ne.symm (hI (c1, oc) (.head _)), Ne.symm (hI (144, tabObj ps) (.tail _ (.head _))), Ne.symm (hI (156, tabObj qs) (.tail _ (.tail _ (.head _))))⟩
  have hz := sizes_ok (bmp bs) (by rw [bmp_length]; exact t7) (8 + i) (by omega) (fun b hb => by have := bmp_le bs _ t8 b hb; omega)
  refine lawTurn w mean mg mb dp un gd L a outer A₀ base h₀ m₁ s _ E c6 c5 c4 c3 c2 c1 ci he x dl oc o6 o5 civ hev dvs cik hek dk i k tt tm bs r ps qs ((objs ++ rest) ++ [(I, oI)]) B X T C1 C2 hdp hun d6 d5 t1 hci hhe t3
    (inr _ m6) (inr _ m5) (inr _ mci) (inr _ mhe) (ino _ t2) hc1 hc2 hnb hi (t4.mono ino) t5 t6 t7 t8 t9 (t10.imp id fun h => h.mono ino) (t11.imp id fun h => h.mono ino) (fr_two hm1 hm2 F) N ?_
  intro m' h' tk' oc' dl' dvs' dk' ps' qs' x' tm' ob F' N' g1 g2 g3 g4 g5 g6 g7 g8 g9
  refine turnEndJ (nx := TLed c1 rest ⟨bmp bs, fixed (bmp bs), tm', x', oc', dl', dvs', dk', ps', qs', ob ++ objs⟩) F' N' ?_ ?_ ?_ ⟨_, rfl, g1, g2, ⟨g3, List.mem_append.mpr (.inl g4), g5, g6.mono fun p hp => List.mem_append.mpr (.inl hp), subs_crlf _ _, hz.2, by show (bmp bs).length ≤ 9; rw [bmp_length]; exact t7, fun b hb => by (have h7 : b ∈ bmp bs := hb); (have h8 := bmp_le bs _ t8 b h7); (show b ≤ 7 + (i + 1)); omega, bmp_has bs (3 + i) t9 (by omega), ?_, ?_, ?_⟩⟩
  · intro p hp
    rcases List.mem_cons.mp hp with hp | hp
    · rw [hp]; exact .head _
    rcases List.mem_cons.mp hp with hp | hp
    · rw [hp]; exact .tail _ (.head _)
    rcases List.mem_cons.mp hp with hp | hp
    · rw [hp]; exact .tail _ (.tail _ (.head _))
    · refine .tail _ (.tail _ (.tail _ ?_))
      rw [List.append_assoc] at hp
      rcases List.mem_append.mp hp with hp | hp
      · exact List.mem_append.mpr (.inl hp)
      · exact List.mem_append.mpr (.inr (inb p hp))
  · intro p hp
    exact .tail _ (.tail _ (.tail _ (List.mem_append.mpr (.inr (List.mem_append.mpr (.inr hp))))))
  · intro p hp q hq
    rw [List.mem_singleton.mp hq]
    rcases List.mem_cons.mp hp with hp | hp
    · rw [hp]; exact hI (c1, oc) (.head _)
    rcases List.mem_cons.mp hp with hp | hp
    · rw [hp]; exact hI (144, tabObj ps) (.tail _ (.head _))
    rcases List.mem_cons.mp hp with hp | hp
    · rw [hp]; exact hI (156, tabObj qs) (.tail _ (.tail _ (.head _)))
    · rw [List.append_assoc] at hp
      rcases List.mem_append.mp hp with hp | hp
      · exact Ne.symm (Nat.ne_of_lt ((g9 p hp).1 (I, oI) (List.mem_append.mpr (.inr (.head _)))))
      · exact hI p (.tail _ (.tail _ (.tail _ hp)))
  · rcases g7 with g7 | g7
    · rw [g7]; exact t10.imp id fun h => h.mono fun p hp => List.mem_append.mpr (.inr hp)
    · exact .inr (g7.mono fun p hp => List.mem_append.mpr (.inl hp))
  · rcases g8 with g8 | g8
    · rw [g8]; exact t11.imp id fun h => h.mono fun p hp => List.mem_append.mpr (.inr hp)
    · exact .inr (g8.mono fun p hp => List.mem_append.mpr (.inl hp))
  · intro p hp
    rw [List.append_assoc] at hp
    rcases List.mem_append.mp hp with hp | hp
    · exact (g9 p hp).2
    · exact t12 p hp
end
end Mine
end PartLn

section PartLr2
open PySem PySem.W PySem.Spec PySem.Calls PyProof.Rows
set_option maxRecDepth 100000
set_option maxHeartbeats 8000000
namespace Mine
example : PySem.Challenge.rw_pg0182_01 = PySem.Challenge.rw_pg0182_01 ∧ hd.heap_39 = hd.heap_39 := by
  k_fill
  exact ⟨rfl, rfl⟩
local macro_rules | `(tactic| k_mem) => `(tactic| first | assumption | exact List.mem_cons_self | (refine List.mem_cons_of_mem _ ?_; k_mem))
local macro_rules | `(tactic| walk_at "callWith ref") => `(tactic| (k_here; k_dflt (refine' callWith_K ?k1 ?k2 ?_; (case k1 => k_asm); (case k2 => k_is); k_whole)))
local macro_rules | `(tactic| walk_at "call ref") => `(tactic| (refine Stop.mk ?_))
local macro_rules | `(tactic| walk_at "call type:range") => `(tactic| (refine Stop.mk ?_))
local macro_rules | `(tactic| walk_at "pyIter ref") => `(tactic| (refine Stop.mk ?_))
local macro_rules | `(tactic| walk_at "exec For Name Call cons nil") => `(tactic| (refine Stop.mk ?_))
local macro_rules | `(tactic| walk_at "exec For") => `(tactic| (refine Stop.mk ?_))
theorem lawSeg2 (w : World) (mean : ExcName → Option Value) (mg mb : Str → Option Value) (dp un : Nat) (gd : Option (List Code)) (L a : Addr) (outer : List Env) (A₀ : Around) (base h₀ : Heap) (m₀ : Str → Option Value) (s : Shared) (Q : Flow → Shared → Prop) (E : Value → Shared → Prop)
    (c6 c5 c4 c3 c2 c1 dl ci he : Addr) (o6 o5 o1 : Obj) (rows : List Row) (dvs civ hev : List Value) (dk cik hek i : Nat) (tm : Tok) (rest : List (Addr × Obj))
    (B : Below A₀ base outer h₀) (X : (Mine.hd.heap_39 w.params).In h₀) (T : Top VP LOO mean mg mb h₀) (C1 : CodeHd base 146 144) (C2 : CodeHd h₀ 158 156) (hdp : dp + 6 < recursionLimit) (hun : un + 64 < cLine)
    (d6 : o6.data = .cell (some (.ref he))) (d5 : o5.data = .cell (some (.ref ci))) (d1 : o1.data = .cell (some (.ref dl))) (hci : IntsAre civ circ) (hhe : IntsAre hev hexa)
    (m6 : (c6, o6) ∈ rest) (m5 : (c5, o5) ∈ rest) (mci : (ci, listOf civ.toArray cik) ∈ rest) (mhe : (he, listOf hev.toArray hek) ∈ rest)
    (hc1 : @LT.lt Nat _ 144 c1) (hc2 : @LT.lt Nat _ 156 c1) (hc3 : @LT.lt Nat _ c1 dl) (hrest : ∀ p ∈ rest, @LT.lt Nat _ c1 p.1)
    (F : Fr h₀ L s.heap (fun y => if y = Str.ofString "mail" then some (.str (S (mailText rows)) tm) else m₀ y))
    (N : News h₀ L s.heap ((c1, o1) :: (144, tabObj #[]) :: (156, tabObj #[]) :: (dl, listOf dvs.toArray dk) :: rest))
    (hR : ROk rows dvs i) (hi : i ≤ 6)
    (hE : PassesOwn (model PR w) (lawA dp un gd L a (.ref 158) c6 c5 c4 c3 c2 c1 outer) (lawEnv L a (.ref 158) c6 c5 c4 c3 c2 c1) E)
    (hret : ∀ m' h' tk' ps qs news', Fr h₀ L h' m' → News h₀ L h' news' → (144, tabObj ps) ∈ news' → (156, tabObj qs) ∈ news' → Q (.ret (.bool true)) { s with heap := h', toks := tk' }) :
    wpAny (model PR w) (lawA dp un gd L a (.ref 158) c6 c5 c4 c3 c2 c1 outer) (execs (restBody.drop 5) (lawEnv L a (.ref 158) c6 c5 c4 c3 c2 c1)) Q E s := by
  have hlen : (rows.map (·.1)).length ≤ 9 := by rw [List.length_map, hR.len]; omega
  have hle : ∀ b ∈ rows.map (·.1), b ≤ 7 := by
    intro b hb
    obtain ⟨r, hr, rfl⟩ := List.mem_map.mp hb
    exact (hR.ok r hr).2.2
  have hz := sizes_ok (rows.map (·.1)) hlen 7 (by omega) hle
  have hmt : (mailText rows).length ≤ 1000 := by have e1 := mailText_len rows hR.ok; have e2 := hR.len; omega
  change wpAny _ _ (execs (_ :: _ :: _ :: []) _) _ _ _
  k_with_none
  k_steps
  refine Stop.on ?_
  (rename Fr _ _ _ _ => F9)
  (rename News _ _ _ _ => N9)
  refine Does.ask0 (fixEols w mean mg mb _ (mailText rows) (fixed (rows.map (·.1))) _ (subs_fix rows hR.ok) ⟨by omega, by have := hz.2; omega⟩) B F9 X N9 T rfl (by omega) (by omega) ?_
  clear F9 N9
  intro t' h' tk' F' N'
  k_steps
  refine Stop.on ?_
  (rename Fr _ _ _ _ => F9)
  (rename News _ _ _ _ => N9)
  refine Does.ask (leads w mean mg mb _ (rows.map (·.1)) _ hz) B F9 X N9 T rfl (by omega) (by omega) ?_
  clear F9 N9
  rintro v tl h' tk' F' N' ho ⟨x', rfl, hW1⟩
  k_steps
  refine Stop.on ?_
  (rename Fr _ _ _ _ => F9)
  (with_unfolding_all refine' For_invVF (hE := hE) F9 ?k1 ?k2 ?_)
  case k1 => rfl
  case k2 => rfl
  k_steps
  refine Stop.on ?_
  (rename Fr _ _ _ _ => F9)
  (rename News _ _ _ _ => N9)
  refine range1_rows F9 N9 ?_
  clear F9 N9
  intro h' tk ta tb tc hr F9 N9 _
  k_steps
  refine Stop.on ?_
  have hrest' : ∀ p ∈ (tl ++ [(dl, listOf dvs.toArray dk)]) ++ rest, @LT.lt Nat _ c1 p.1 := by
    intro p hp
    rcases List.mem_append.mp hp with hp | hp
    · rcases List.mem_append.mp hp with hp | hp
      · exact ho _ (.head _) p hp
      · rw [List.mem_singleton.mp hp]; exact hc3
    · exact hrest p hp
  have N2 := news_sub N9 (news' := TLed c1 rest ⟨rows.map (·.1), mailText rows, tm, x', o1, dl, dvs, dk, #[], #[], tl ++ [(dl, listOf dvs.toArray dk)]⟩) (by
    intro p hp
    rcases List.mem_cons.mp hp with hp | hp
    · rw [hp]; exact List.mem_append.mpr (.inr (.head _))
    rcases List.mem_cons.mp hp with hp | hp
    · rw [hp]; exact List.mem_append.mpr (.inr (.tail _ (.head _)))
    rcases List.mem_cons.mp hp with hp | hp
    · rw [hp]; exact List.mem_append.mpr (.inr (.tail _ (.tail _ (.head _))))
    rw [List.append_assoc] at hp
    rcases List.mem_append.mp hp with hp | hp
    · exact List.mem_append.mpr (.inl hp)
    · exact List.mem_append.mpr (.inr (.tail _ (.tail _ (.tail _ hp)))))
  k_dflt (refine' rangeLoopJ (n := 2) (TJ w c1 rest) ?kh hr ?ks ?kn F9 N2 ?kj ?turn ?done)
  case kh => rfl
  case ks => decide
  case kn => decide
  case kj =>
    refine ⟨_, rfl, (by rfl), (by rfl), ⟨d1, List.mem_append.mpr (.inr (.head _)), hR.dots, hW1.mono fun p hp => List.mem_append.mpr (.inl hp), subs_fix rows hR.ok, hmt, hlen, hle, hR.three, .inl rfl, .inl rfl, hrest'⟩⟩
  case turn =>
    intro i k t m₁ nx h tk I oI hk hi hJ hI F N
    exact turnJ mean mg mb dp un gd L a outer A₀ base h₀ _ _ _ c6 c5 c4 c3 c2 c1 ci he o6 o5 civ hev cik hek i k t m₁ nx rest I oI B X T C1 C2 hdp hun d6 d5 hci hhe m6 m5 mci mhe hc1 hc2 hi hJ hI F N
  case done =>
    clear N9 N2 F9
    rintro m' nx h tk ⟨c, rfl, _, _, _⟩ F N
    k_steps
    exact hret _ _ _ c.ps c.qs _ F N (.tail _ (.head _)) (.tail _ (.tail _ (.head _)))
end Mine
end PartLr2

section PartLr1
open PySem PySem.W PySem.Spec PySem.Calls PyProof.Rows
set_option maxRecDepth 100000
set_option maxHeartbeats 8000000
namespace Mine
local macro_rules | `(tactic| walk_at "no key 0") => `(tactic| skip)
local macro_rules | `(tactic| walk_at "no key 1") => `(tactic| skip)
local macro_rules | `(tactic| walk_at "no key 2") => `(tactic| skip)
local macro_rules | `(tactic| walk_at "no key 3") => `(tactic| skip)
local macro_rules | `(tactic| walk_at "no key 4") => `(tactic| skip)
local macro_rules | `(tactic| walk_at "no key 5") => `(tactic| skip)
local macro_rules | `(tactic| walk_at "no key 6") => `(tactic| skip)
local macro_rules | `(tactic| walk_at "no key 7") => `(tactic| skip)
local macro_rules | `(tactic| walk_at "no key 8") => `(tactic| skip)
local macro_rules | `(tactic| walk_at "no key 9") => `(tactic| skip)
local macro_rules | `(tactic| walk_at "no key 10") => `(tactic| skip)
local macro_rules | `(tactic| walk_at "no key 11") => `(tactic| skip)
local macro_rules | `(tactic| walk_at "no key 12") => `(tactic| skip)
local macro_rules | `(tactic| walk_at "no key 13") => `(tactic| skip)
local macro_rules | `(tactic| walk_at "no key 14") => `(tactic| skip)
local macro_rules | `(tactic| walk_at "no key 15") => `(tactic| skip)
local macro_rules | `(tactic| walk_at "no key 16") => `(tactic| skip)
local macro_rules | `(tactic| walk_at "no key 17") => `(tactic| skip)
local macro_rules | `(tactic| walk_at "no key 18") => `(tactic| skip)
local macro_rules | `(tactic| walk_at "no key 19") => `(tactic| skip)
local macro_rules | `(tactic| walk_at "no key 20") => `(tactic| skip)
local macro_rules | `(tactic| walk_at "no key 21") => `(tactic| skip)
local macro_rules | `(tactic| walk_at "no key 22") => `(tactic| skip)
local macro_rules | `(tactic| walk_at "no key 23") => `(tactic| skip)
example : PySem.Challenge.rw_pg0182_01 = PySem.Challenge.rw_pg0182_01 ∧ hd.heap_39 = hd.heap_39 := by
  k_fill
  exact ⟨rfl, rfl⟩
local macro_rules | `(tactic| k_mem) => `(tactic| first | exact List.mem_cons_self | (refine List.mem_cons_of_mem _ ?_; k_mem))
local macro_rules | `(tactic| k_updF) => `(tactic| first | (refine UpdF.head ?_; assumption) | (refine' UpdF.tail ?a ?b; (case a => (refine neN ?_; (try dsimp only); omega)); (case b => k_updF)))
local macro_rules | `(tactic| walk_at "eval ListComp") => `(tactic| (refine Stop.mk ?_))
local macro_rules | `(tactic| walk_at "call type:range") => `(tactic| (refine Stop.mk ?_))
local macro_rules | `(tactic| walk_at "call builtin:list.count") => `(tactic| (refine Stop.mk ?_))
local macro_rules | `(tactic| walk_at "execs cons") => `(tactic| ((with_reducible show wpAny _ _ (execs [_, _, _] _) _ _ _); (refine Stop.mk ?_)))
local macro_rules | `(tactic| walk_at "call ref") => `(tactic| (refine Stop.mk ?_))
local macro_rules | `(tactic| walk_at "getMethod ref") => `(tactic| (refine Stop.mk ?_))
theorem lawRest (w : World) (mean : ExcName → Option Value) (mg mb : Str → Option Value) (dp un : Nat) (gd : Option (List Code)) (L a : Addr) (outer : List Env) (A₀ : Around) (base h₀ : Heap) (m₀ : Str → Option Value) (s : Shared) (Q : Flow → Shared → Prop) (E : Value → Shared → Prop)
    (c6 c5 c4 c3 c2 c1 dl e : Addr) (o6 o5 o4 o3 o2 o1 oe : Obj) (rows : List Row) (dvs : List Value) (dk i : Nat) (tm : Tok)
    (B : Below A₀ base outer h₀) (X : (Mine.hd.heap_39 w.params).In h₀) (T : Top VP LOO mean mg mb h₀) (C1 : CodeHd base 146 144) (C2 : CodeHd h₀ 158 156) (hdp : dp + 6 < recursionLimit) (hun : un + 64 < cLine)
    (d6 : o6.data = .cell none) (d5 : o5.data = .cell none) (d4 : o4.data = .cell none) (d3 : o3.data = .cell none) (d2 : o2.data = .cell none) (d1 : o1.data = .cell (some (.ref dl)))
    (hc : @LT.lt Nat _ 144 L ∧ @LT.lt Nat _ 156 L ∧ @LT.lt Nat _ L c1 ∧ @LT.lt Nat _ c1 c2 ∧ @LT.lt Nat _ c2 c3 ∧ @LT.lt Nat _ c3 c4 ∧ @LT.lt Nat _ c4 c5 ∧ @LT.lt Nat _ c5 c6 ∧ @LT.lt Nat _ c6 e ∧ @LT.lt Nat _ e dl)
    (F : Fr h₀ L s.heap (fun y => if y = Str.ofString "mail" then some (.str (S (mailText rows)) tm) else m₀ y))
    (N : News h₀ L s.heap ((dl, listOf dvs.toArray dk) :: (e, oe) :: (c6, o6) :: (c5, o5) :: (c4, o4) :: (c3, o3) :: (c2, o2) :: (c1, o1) :: (144, tabObj #[]) :: (156, tabObj #[]) :: []))
    (hR : ROk rows dvs i) (hi : i ≤ 6)
    (hE : PassesOwn (model PR w) (lawA dp un gd L a (.ref 158) c6 c5 c4 c3 c2 c1 outer) (lawEnv L a (.ref 158) c6 c5 c4 c3 c2 c1) E)
    (hret : ∀ m' h' tk' ps qs news', Fr h₀ L h' m' → News h₀ L h' news' → (144, tabObj ps) ∈ news' → (156, tabObj qs) ∈ news' → Q (.ret (.bool true)) { s with heap := h', toks := tk' }) :
    wpAny (model PR w) (lawA dp un gd L a (.ref 158) c6 c5 c4 c3 c2 c1 outer) (execs restBody (lawEnv L a (.ref 158) c6 c5 c4 c3 c2 c1)) Q E s := by
  obtain ⟨hc1, hc2, hc3, hc4, hc5, hc6, hc7, hc8, hc9, hc10⟩ := hc
  change wpAny _ _ (execs (_ :: _ :: _ :: _ :: _ :: _ :: _ :: _ :: []) _) _ _ _
  k_with_none
  k_steps
  refine Stop.on ?_
  (rename Fr _ _ _ _ => F9)
  (rename News _ _ _ _ => N9)
  refine rangeLed F9 N9 ?_
  clear F9 N9
  intro r h' tk t1 u1 v1 F' N' l1
  k_lt l1
  k_steps
  refine Stop.on ?_
  (rename Fr _ _ _ _ => F9)
  refine' comp2R F9 ?c1 ?c2 ?c3 ?c4 ?c5 ?c6 ?c7 ?_
  case c1 => with_unfolding_all rfl
  case c2 => decide
  case c3 => rfl
  case c4 => decide
  case c5 => rfl
  case c6 => rfl
  case c7 => decide
  walk1
  (rename News _ _ _ _ => N9)
  refine' ⟨r, -3, 4, _, _, _, 7, _, fun _ => -3, fun _ => 7, fun x y => x * x + y * y, rfl, rfl, F9, N9, (N9 (r, rangeObj (-3) 4 t1 u1 v1) (by k_mem)).1, (by decide), (by decide), by decide, fun _ _ => (by decide : 7 ≤ 1000), ⟨?t1, ?t2⟩, ?finQ⟩
  case t1 =>
    intro k t ys I C D oI oC m₂ h tk E' hk hC hx F N
    clear F9 N9
    walk1
    exact ⟨r, 4, _, _, _, rfl, (by dsimp only; decide), (by dsimp only; decide), (N (r, rangeObj (-3) 4 t1 u1 v1) (by k_mem)).1, _, _, rfl, F, N⟩
  case t2 =>
    intro k j t t' ys I J C D oI oJ oC m₂ h tk E' hk hj1 hj2 hC hx hy F N
    clear F9 N9
    have hk2 := mem_rangeKs hk
    k_steps
    all_goals (with_unfolding_all assumption)
  clear F9 N9
  intro q ysq h tk hI0 F N l2
  k_lt l2
  obtain ⟨sq, hsq, hIq⟩ : ∃ sq : List Int, (rangeKs 0 10).map (fun k => ((sq.count k : Nat) : Int)) = circ ∧ IntsAre ysq sq := ⟨_, by decide +kernel, hI0⟩
  clear hI0
  k_steps
  refine Stop.on ?_
  (rename Fr _ _ _ _ => F9)
  refine' comp2R F9 ?c1 ?c2 ?c3 ?c4 ?c5 ?c6 ?c7 ?_
  case c1 => with_unfolding_all rfl
  case c2 => decide
  case c3 => rfl
  case c4 => decide
  case c5 => rfl
  case c6 => rfl
  case c7 => decide
  walk1
  (rename News _ _ _ _ => N9)
  refine' ⟨r, -3, 4, _, _, _, 7, _, fun _ => -3, fun _ => 7, fun x y => x * x + x * y + y * y, rfl, rfl, F9, N9, (N9 (r, rangeObj (-3) 4 t1 u1 v1) (by k_mem)).1, (by decide), (by decide), by decide, fun _ _ => (by decide : 7 ≤ 1000), ⟨?t1, ?t2⟩, ?finP⟩
  case t1 =>
    intro k t ys I C D oI oC m₂ h tk E' hk hC hx F N
    clear F9 N9
    walk1
    exact ⟨r, 4, _, _, _, rfl, (by dsimp only; decide), (by dsimp only; decide), (N (r, rangeObj (-3) 4 t1 u1 v1) (by k_mem)).1, _, _, rfl, F, N⟩
  case t2 =>
    intro k j t t' ys I J C D oI oJ oC m₂ h tk E' hk hj1 hj2 hC hx hy F N
    clear F9 N9
    have hk2 := mem_rangeKs hk
    k_steps
    all_goals (with_unfolding_all assumption)
  clear F9 N9
  intro p ysp h tk hI0 F N l2
  k_lt l2
  obtain ⟨sp, hsp, hIp⟩ : ∃ sq : List Int, (rangeKs 0 10).map (fun k => ((sq.count k : Nat) : Int)) = hexa ∧ IntsAre ysp sq := ⟨_, by decide +kernel, hI0⟩
  clear hI0
  k_steps
  refine Stop.on ?_
  (rename Fr _ _ _ _ => F9)
  refine' comp1R F9 ?c1 ?c2 ?c3 ?c4 ?c5 ?_
  case c1 => with_unfolding_all rfl
  case c2 => decide
  case c3 => rfl
  case c4 => decide
  case c5 => rfl
  k_steps
  refine Stop.on ?_
  (rename Fr _ _ _ _ => F9)
  (rename News _ _ _ _ => N9)
  refine range1_rows F9 N9 ?_
  clear F9 N9
  intro h' tk ta tb tc hr F9 N9 _
  refine' ⟨_, 0, 10, ta, tb, tc, 10, _, fun _ => true, fun k => ((sq.count k : Nat) : Int), rfl, rfl, F9, N9, hr, (by decide), (by decide), by decide, In1.plain ?el, ?finC⟩
  case el =>
    intro k v ys I C D oI oC m₂ h tk E' hk hv hC hx F N
    obtain ⟨t, rfl⟩ := hv
    have hk2 := mem_rangeKs hk
    clear F9 N9 hr
    k_steps
    refine Stop.on ?_
    refine countMeth N (q := q) (by k_mem) ?_
    k_steps
    refine Stop.on ?_
    refine countCall N (by k_mem) hIq ?_
    intro t' tk'
    exact ⟨⟨t', rfl⟩, _, _, rfl, F, N⟩
  clear F9 N9 hr
  rw [filter_all, hsq]
  intro ci ysci h tk hIci F N l2
  k_lt l2
  k_steps
  refine Stop.on ?_
  (rename Fr _ _ _ _ => F9)
  refine' comp1R F9 ?c1 ?c2 ?c3 ?c4 ?c5 ?_
  case c1 => with_unfolding_all rfl
  case c2 => decide
  case c3 => rfl
  case c4 => decide
  case c5 => rfl
  k_steps
  refine Stop.on ?_
  (rename Fr _ _ _ _ => F9)
  (rename News _ _ _ _ => N9)
  refine range1_rows F9 N9 ?_
  clear F9 N9
  intro h' tk ta tb tc hr F9 N9 _
  refine' ⟨_, 0, 10, ta, tb, tc, 10, _, fun _ => true, fun k => ((sp.count k : Nat) : Int), rfl, rfl, F9, N9, hr, (by decide), (by decide), by decide, In1.plain ?el, ?finH⟩
  case el =>
    intro k v ys I C D oI oC m₂ h tk E' hk hv hC hx F N
    obtain ⟨t, rfl⟩ := hv
    have hk2 := mem_rangeKs hk
    clear F9 N9 hr
    k_steps
    refine Stop.on ?_
    refine countMeth N (q := p) (by k_mem) ?_
    k_steps
    refine Stop.on ?_
    refine countCall N (by k_mem) hIp ?_
    intro t' tk'
    exact ⟨⟨t', rfl⟩, _, _, rfl, F, N⟩
  clear F9 N9 hr
  rw [filter_all, hsp]
  intro he yshe h tk hIhe F N l2
  k_lt l2
  k_steps
  refine Stop.on ?_
  (rename Fr _ _ _ _ => F9)
  (rename News _ _ _ _ => N9)
  (rename _ = Data.cell (some (Value.ref ci)) => dci)
  (rename _ = Data.cell (some (Value.ref he)) => dhe)
  refine lawSeg2 w mean mg mb dp un gd L a outer A₀ base h₀ m₀ _ Q E c6 c5 c4 c3 c2 c1 dl ci he _ _ o1 rows dvs ysci yshe dk ysci.length yshe.length i tm [(c5, _), (ci, LCg.lst ysci), (c6, _), (he, LCg.lst yshe)] B X T C1 C2 (by omega) (by omega) dhe dci d1 hIci hIhe
    (.tail _ (.tail _ (.head _))) (.head _) (.tail _ (.head _)) (.tail _ (.tail _ (.tail _ (.head _)))) (by omega) (by omega) (by omega) ?hr F9 ?hN hR hi hE hret
  case hr =>
    intro p hp
    simp only [List.mem_cons, List.not_mem_nil, or_false] at hp
    rcases hp with hp | hp | hp | hp <;> rw [hp] <;> dsimp only <;> omega
  case hN =>
    refine news_sub N9 ?_
    intro p hp
    simp only [List.mem_cons, List.not_mem_nil, or_false] at hp ⊢
    rcases hp with hp | hp | hp | hp | hp | hp | hp | hp <;> simp only [hp, true_or, or_true]
end Mine
end PartLr1

section PartLm
open PySem PySem.W PySem.Spec PySem.Calls PyProof.Rows
set_option maxRecDepth 100000
set_option maxHeartbeats 8000000
namespace Mine
example : PySem.Challenge.rw_pg0182_01 = PySem.Challenge.rw_pg0182_01 ∧ hd.heap_39 = hd.heap_39 := by
  k_fill
  exact ⟨rfl, rfl⟩
def mailBody : List Stmt := match lawBody.drop 3 with
  | st :: _ => forBody st
  | [] => []
theorem endsItem {prog : Program} {w : World} {A : Around} {E : Value → Shared → Prop} {s : Shared} {h₀ : Heap} {L : Addr} {news : List (Addr × Obj)} {value slice : PySem.Expr} {e : Addr} {t1 t2 t3 u : Tok} {j : Int} {Q : Value → Shared → Prop} (N : News h₀ L s.heap news)
    (hm : (e, listOf #[.str (Str.ofString "\n") t1, .str (Str.ofString "\r") t2, .str (Str.ofString "\r\n") t3] 0) ∈ news) (h0 : 0 ≤ j) (h3 : j < 3) (h : ∀ en t, (en = [10] ∨ en = [13] ∨ en = [13, 10]) → Q (.str (S en) t) s)
    (hs : ∀ j : Int, subscripted slice false (.ref e) (.int j u) = operate [.ref e, .int j u] (getItem (.ref e) (.int j u)) := by intro _; with_unfolding_all rfl) :
    wpAny (model prog w) A (subscriptTail value slice (.ref e) (.int j u)) Q E s := by
  have hl := N.isList hm
  have hj : j = 0 ∨ j = 1 ∨ j = 2 := by omega
  rcases hj with rfl | rfl | rfl
  · exact tail_any hl.typeIs slot_list_getitem.lookup (wpAny_getItem_list hl (by decide) (by decide) (x := .str (S [10]) t1) rfl (h [10] t1 (.inl rfl))) (hs 0)
  · exact tail_any hl.typeIs slot_list_getitem.lookup (wpAny_getItem_list hl (by decide) (by decide) (x := .str (S [13]) t2) rfl (h [13] t2 (.inr (.inl rfl)))) (hs 1)
  · exact tail_any hl.typeIs slot_list_getitem.lookup (wpAny_getItem_list hl (by decide) (by decide) (x := .str (S [13, 10]) t3) rfl (h [13, 10] t3 (.inr (.inr rfl)))) (hs 2)
theorem fm8 (x : Int) (h : ¬ x.fmod 8 = 0) : 1 ≤ x.fmod 8 ∧ x.fmod 8 ≤ 7 := by
  have h1 := Int.fmod_nonneg_of_pos x (b := 8) (by decide)
  have h2 := Int.fmod_lt_of_pos x (b := 8) (by decide)
  omega
theorem fr_three {h₀ h : Heap} {L : Addr} {m : Str → Option Value} {t1 t2 a : Str} {v1 v2 va : Value} (ha : m a = some va) (F : Fr h₀ L h (fun y => if y = t1 then some v1 else if y = t2 then some v2 else m y)) :
    Fr h₀ L h (fun y => if y = t1 then some v1 else if y = t2 then some v2 else if y = a then some va else m y) := by
  have e : (fun y => if y = t1 then some v1 else if y = t2 then some v2 else if y = a then some va else m y) = fun y => if y = t1 then some v1 else if y = t2 then some v2 else m y := by
    funext y
    by_cases h1 : y = a
    · subst h1; simp [ha]
    · simp [h1]
  rw [e]; exact F
local macro_rules | `(tactic| k_mem) => `(tactic| first | assumption | exact List.mem_cons_self | (refine List.mem_cons_of_mem _ ?_; k_mem) | (refine List.mem_append.mpr (.inl ?_); k_mem) | (refine List.mem_append.mpr (.inr ?_); k_mem))
local macro_rules | `(tactic| k_updF) => `(tactic| first | (refine UpdF.head ?_; assumption) | (refine' UpdF.tail ?a ?b; (case a => assumption); (case b => k_updF)))
local macro_rules | `(tactic| walk_at "TurnPost") => `(tactic| (dsimp only [TurnPost]))
local macro_rules | `(tactic| walk_at "subscriptTail") => `(tactic| (refine Stop.mk ?_))
local macro_rules | `(tactic| walk_at "binaryOp Add str str") => `(tactic| (refine Stop.mk ?_))
theorem mailTurn (w : World) (dp un : Nat) (gd : Option (List Code)) (L a : Addr) (outer : List Env) (A₀ : Around) (base h₀ : Heap) (m₀ : Str → Option Value) (s : Shared) (Q : Flow → Shared → Prop) (E : Value → Shared → Prop) (mean : ExcName → Option Value) (mg mb : Str → Option Value)
    (c6 c5 c4 c3 c2 c1 dl e D I : Addr) (o1 oI : Obj) (rows : List Row) (ws dvs : List Value) (dk i : Nat) (t tm t1 t2 t3 : Tok) (x : Int) (rest : List (Addr × Obj))
    (B : Below A₀ base outer h₀) (X : (Mine.hd.heap_39 w.params).In h₀) (T : Top VP LOO mean mg mb h₀) (hun : un + 64 < cLine)
    (d1 : o1.data = .cell (some (.ref dl))) (m1 : (c1, o1) ∈ rest) (me : (e, listOf #[.str (Str.ofString "\n") t1, .str (Str.ofString "\r") t2, .str (Str.ofString "\r\n") t3] 0) ∈ rest) (hme : m₀ (Str.ofString "ends") = some (.ref e))
    (hR : ROk rows dvs i) (hi : i < 6) (hDI : D ≠ I) (hlI : dl ≠ I) (hrI : ∀ p ∈ rest, p.1 ≠ I) (hdD : dl ≠ D) (hrd : ∀ p ∈ rest, p.1 ≠ dl)
    (F : Fr h₀ L s.heap (fun y => if y = Str.ofString "x" then some (.int x t) else if y = Str.ofString "mail" then some (.str (S (mailText rows)) tm) else m₀ y))
    (N : News h₀ L s.heap ((D, listOf ws.toArray 0) :: (dl, listOf dvs.toArray dk) :: (rest ++ [(I, oI)]))) :
    wpAny (model PR w) (lawA dp un gd L a (.ref 158) c6 c5 c4 c3 c2 c1 outer) (execs mailBody (lawEnv L a (.ref 158) c6 c5 c4 c3 c2 c1)) (TurnPost h₀ L (StG (MLed D dl ws rest) MPs (Str.ofString "x") m₀ (fun c => ROk c.rows c.dvs (i + 1))) [(I, oI)] s Q) E s := by
  have hT : (mailText rows).length ≤ 800 := by
    have e1 := mailText_len rows hR.ok
    have e2 := hR.len
    omega
  have hoff : ∀ p ∈ rest ++ [(I, oI)], p.1 ≠ dl := by
    intro p hp
    rcases List.mem_append.mp hp with hp | hp
    · exact hrd p hp
    · rw [List.mem_singleton.mp hp]; exact Ne.symm hlI
  have hdv : dvs.length < 1000 := by
    have e1 := hR.dots.length
    have e2 : (dotsOf (rows.map (·.1))).length ≤ rows.length := Nat.le_trans (List.length_filter_le _ _) (by rw [List.length_map]; exact Nat.le_refl _)
    rw [List.length_map] at e1
    have e3 := hR.len
    omega
  have F2 := fr_three hme F
  clear F
  change wpAny _ _ (execs (_ :: []) _) _ _ _
  k_with_none
  k_steps
  · refine Stop.on ?_
    refine addT rfl (b := [13, 10]) (by decide) (by omega) (by decide) ?_
    intro t' k'
    k_steps
    (rename Fr _ _ _ _ => F9)
    (rename News _ _ _ _ => N9)
    refine mailEnd (rows ++ [(0, [13, 10])]) dvs dk t' F9 N9 hDI hlI hrI ?_ ?_ hR.empty
    · rw [mailText_snoc]; exact rfl
    · intro z h1 h2
      by_cases h3 : z = Str.ofString "ends"
      · subst h3; exact hme.symm
      · simp [h1, h2, h3]
  · refine Stop.on ?_
    (rename ¬ (x.fmod 8 = 0) => hne)
    have hb := fm8 x hne
    clear hne
    have hme2 := mulDots _ hb.1 hb.2
    have hcast : ((x.fmod 8).toNat : Int) = x.fmod 8 := by omega
    refine addT rfl hme2 (by omega) (by rw [List.length_replicate]; omega) ?_
    intro t' k'
    k_steps
    refine Stop.on ?_
    have hj1 := Int.fmod_nonneg_of_pos (x.fdiv 8) (b := 3) (by decide)
    have hj2 := Int.fmod_lt_of_pos (x.fdiv 8) (b := 3) (by decide)
    (rename News _ _ _ _ => N9)
    refine endsItem N9 (by k_mem) hj1 hj2 ?_
    intro en te hen
    k_steps
    refine Stop.on ?_
    refine addT rfl rfl (by rw [List.length_append, List.length_replicate]; omega) (by rcases hen with h | h | h <;> rw [h] <;> decide) ?_
    intro t'' k''
    k_steps
    (rename Fr _ _ _ _ => F9)
    (rename News _ _ _ _ => N8)
    refine append_K F9 N8 (.tail (Ne.symm hdD) (.head hoff)) ?_ (by rw [List.size_toArray, sizeLine_eq]; omega)
    clear F9 N8
    intro h' F' N'
    rw [List.push_toArray] at N'
    k_steps
    (rename Fr _ _ _ _ => F9)
    (rename News _ _ _ _ => N9)
    rw [← hcast] at N9
    refine mailEnd (rows ++ [((x.fmod 8).toNat, en)]) _ _ t'' F9 N9 hDI hlI hrI ?_ ?_ (hR.more _ _ _ (by omega) (by omega) hen)
    · have e3 : mailText rows ++ rowText ((x.fmod 8).toNat, en) = (mailText rows ++ List.replicate (x.fmod 8).toNat 46) ++ en := (List.append_assoc _ _ _).symm
      rw [mailText_snoc, e3]; exact rfl
    · intro z h1 h2
      by_cases h3 : z = Str.ofString "ends"
      · subst h3; exact hme.symm
      · simp [h1, h2, h3]
end Mine
end PartLm

section PartLx
open PySem PySem.W PySem.Spec PySem.Calls PyProof.Rows
set_option maxRecDepth 100000
set_option maxHeartbeats 8000000
namespace Mine
local macro_rules | `(tactic| walk_at "no key 0") => `(tactic| skip)
local macro_rules | `(tactic| walk_at "no key 1") => `(tactic| skip)
local macro_rules | `(tactic| walk_at "no key 2") => `(tactic| skip)
local macro_rules | `(tactic| walk_at "no key 3") => `(tactic| skip)
local macro_rules | `(tactic| walk_at "no key 4") => `(tactic| skip)
local macro_rules | `(tactic| walk_at "no key 5") => `(tactic| skip)
local macro_rules | `(tactic| walk_at "no key 6") => `(tactic| skip)
local macro_rules | `(tactic| walk_at "no key 7") => `(tactic| skip)
local macro_rules | `(tactic| walk_at "no key 8") => `(tactic| skip)
local macro_rules | `(tactic| walk_at "no key 9") => `(tactic| skip)
local macro_rules | `(tactic| walk_at "no key 10") => `(tactic| skip)
local macro_rules | `(tactic| walk_at "no key 11") => `(tactic| skip)
local macro_rules | `(tactic| walk_at "no key 12") => `(tactic| skip)
local macro_rules | `(tactic| walk_at "no key 13") => `(tactic| skip)
local macro_rules | `(tactic| walk_at "no key 14") => `(tactic| skip)
local macro_rules | `(tactic| walk_at "no key 15") => `(tactic| skip)
local macro_rules | `(tactic| walk_at "no key 16") => `(tactic| skip)
local macro_rules | `(tactic| walk_at "no key 17") => `(tactic| skip)
local macro_rules | `(tactic| walk_at "no key 18") => `(tactic| skip)
local macro_rules | `(tactic| walk_at "no key 19") => `(tactic| skip)
local macro_rules | `(tactic| walk_at "no key 20") => `(tactic| skip)
local macro_rules | `(tactic| walk_at "no key 21") => `(tactic| skip)
local macro_rules | `(tactic| walk_at "no key 22") => `(tactic| skip)
local macro_rules | `(tactic| walk_at "no key 23") => `(tactic| skip)
local macro_rules | `(tactic| k_mem) => `(tactic| first | assumption | exact List.mem_cons_self | (refine List.mem_cons_of_mem _ ?_; k_mem))
local macro_rules | `(tactic| walk_at "exec For Name Subscript cons nil") => `(tactic| (k_here; (rename Fr _ _ _ _ => lF'); (with_unfolding_all refine' For_invVF lF' ?k1 ?k2 ?_; (case k1 => exact rfl); (case k2 => exact rfl); k_whole)))
local macro_rules | `(tactic| walk_at "exec For") => `(tactic| (k_here; (rename Fr _ _ _ _ => lF'); (with_unfolding_all refine' For_invVF lF' ?k1 ?k2 ?_; (case k1 => exact rfl); (case k2 => exact rfl); k_whole)))
local macro_rules | `(tactic| walk_at "pyIter ref") => `(tactic| (refine Stop.mk ?_))
theorem idx6 {xs : List Int} {i : Nat} {x : Int} (h : (List.take 6 xs)[i]? = some x) : i < 6 := by
  have h1 := (List.getElem?_eq_some_iff.mp h).1
  rw [List.length_take] at h1
  omega
theorem fr_swap {h₀ h : Heap} {L : Addr} {m : Str → Option Value} {u : Str → Option Value} {a b : Str} {vb : Value} (hab : b ≠ a) (F : Fr h₀ L h (fun y => if y = a then u y else if y = b then some vb else m y)) :
    Fr h₀ L h (fun y => if y = b then some vb else (fun y => if y = a then u y else m y) y) := by
  have e : (fun y => if y = b then some vb else (fun y => if y = a then u y else m y) y) = fun y => if y = a then u y else if y = b then some vb else m y := by
    funext y
    by_cases h1 : y = b
    · subst h1; simp [hab]
    · simp [h1]
  rw [e]; exact F
theorem lawHolds : PySem.Challenge.rw_pg0182_01.Holds := Mine.hd (by
  k_go0
  (all_goals try k_fold)
  k_steps
  refine Stop.on ?_
  (rename Fr _ _ _ _ => F9)
  (rename News _ _ _ _ => N9)
  k_dflt (refine' mailLoop ?kh (by assumption) F9 N9 ?km ?turn ?done)
  case kh => rfl
  case km => exact rfl
  case turn =>
    clear F9 N9
    intro rows dvs dk i tm x t h tk I oI hR hx hDI hlI hrest F N
    have hi6 : i < 6 := idx6 hx
    k_dflt (refine' mailTurn _ _ _ _ _ _ _ _ _ _ _ _ _ _ _ _ _ _ _ _ _ _ _ _ _ _ _ _ _ _ _ _ _ _ _ _ _ _ _ _ _ ?B ?X ?T ?hun ?d1 ?m1 ?me ?hme hR hi6 hDI hlI hrest ?hdD ?hrd F N)
    case m1 => k_mem
    case d1 => assumption
    case me => exact List.mem_cons_self
    case hme => exact rfl
    case B => k_asm
    case X => k_asm
    case T => k_asm
    case hun => ktr_units
    case hdD => refine neN ?_; omega
    case hrd =>
      (repeat' (refine List.forall_mem_cons.mpr ⟨by refine neN ?_; dsimp only; omega, ?_⟩))
      exact List.forall_mem_nil _
  case done =>
    clear F9 N9
    intro rows dvs dk tm u h tk hR F N
    dsimp only
    k_dflt (refine' lawRest _ _ _ _ _ _ _ _ _ _ _ _ _ _ _ _ _ _ _ _ _ _ _ _ _ _ _ _ _ _ _ _ _ _ _ _ _ ?B ?X ?T ?C1 ?C2 ?hdp ?hun ?d6 ?d5 ?d4 ?d3 ?d2 ?d1 ?hc (fr_swap ?hab F) N hR ?hi ?hE ?hret)
    case B => k_asm
    case X => k_asm
    case T => k_asm
    case C1 => assumption
    case C2 => assumption
    case hdp => ktr_room
    case hun => ktr_units
    case d6 => with_unfolding_all assumption
    case d5 => with_unfolding_all assumption
    case d4 => with_unfolding_all assumption
    case d3 => with_unfolding_all assumption
    case d2 => with_unfolding_all assumption
    case d1 => assumption
    case hc => omega
    case hab => decide
    case hi => exact List.length_take_le _ _
    case hE => passes_own
    case hret =>
      clear F N
      intro m' h' tk' ps qs news' F N hp1 hp2
      dsimp only
      k_steps)
end Mine
end PartLx

theorem PySem.Challenge.cw_pg0182_01_holds : PySem.Challenge.rw_pg0182_01.Holds := by
  exact Mine.lawHolds
