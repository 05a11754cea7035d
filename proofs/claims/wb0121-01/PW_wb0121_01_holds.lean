import PyProof.Rows.All
import Wide.All
import OpenK.AllK
import Wide.FinOn
import Lean
import PySem.Challenge.RW_wb0121_01

set_option Elab.async false
set_option compiler.extract_closed false
set_option maxRecDepth 100000
set_option maxHeartbeats 8000000
set_option linter.unusedVariables false
set_option linter.unusedSimpArgs false
set_option rowWalk.seconds 0

section
open PySem PySem.W PyProof.Rows
namespace Mine
open_top hd for PySem.Challenge.rw_wb0121_01
end Mine
end

section
open PySem PySem.W PyProof.Rows PySem.Calls
namespace Mine

abbrev Ledger := List (Addr × Obj)

/-- the new ledger holds the old one, and what is new in it lies above the old one -/
structure Led (news nw : Ledger) : Prop where
  sub : ∀ p ∈ news, p ∈ nw
  ord : ∀ p ∈ nw, p ∈ news ∨ ∀ q ∈ news, q.1 < p.1
theorem Led.refl (news : Ledger) : Led news news := ⟨fun _ h => h, fun _ h => .inl h⟩
theorem Led.trans {a b c : Ledger} (x : Led a b) (y : Led b c) : Led a c :=
  ⟨fun p h => y.sub p (x.sub p h), fun p h => (y.ord p h).elim (x.ord p) fun k => .inr fun q hq => k q (x.sub q hq)⟩
theorem Led.cons {a b : Ledger} (x : Led a b) {l : Addr} {o : Obj} (h : ∀ p ∈ b, p.1 < l) : Led a ((l, o) :: b) :=
  ⟨fun p hp => .tail _ (x.sub p hp), fun p hp => by
    rcases List.mem_cons.mp hp with rfl | hp
    · exact .inr fun q hq => h q (x.sub q hq)
    · exact x.ord p hp⟩

theorem Led.consA {a b : Ledger} (x : Led a b) {l : Addr} {o : Obj} (h : AllLt l b) : Led a ((l, o) :: b) := x.cons (ktn_ltOf h)

abbrev T0 (mean : ExcName → Option Value) (mg mb : Str → Option Value) (h : Heap) : Prop := Top Mine.hd.view_39 (looseW Mine.hd.view_39 [Str.ofString "EXACT_TOKEN_TYPES"]) mean mg mb h

structure Con (D : Type) where
  Rel : Ledger → List Value → D → Prop
  Ok : D → Prop
  size : D → Nat
  Out : Ledger → Value → D → Prop

def Tells {D : Type} (w : World) (mean : ExcName → Option Value) (mg mb : Str → Option Value) (f : Addr) (c : Con D) (d : D) : Prop :=
  ∀ (dp un : Nat) (gd : Option (List Code)) (cn : Str) (cs : Scope) (a : Addr) (ccd : Value) (cl : List (Str × Addr)) (outer : List Env) (A₀ : Around) (base h₀ : Heap) (L : Addr) (m : Str → Option Value) (news : Ledger) (s : Shared) (vs : List Value)
    (Q E : Value → Shared → Prop),
    Below A₀ base outer h₀ → Fr h₀ L s.heap m → (Mine.hd.heap_39 w.params).In h₀ → News h₀ L s.heap news → T0 mean mg mb h₀ → cs.kind = .function → c.Rel news vs d → c.Ok d → dp + c.size d < 1000 → un + 8 * c.size d < 9900 →
    (∀ r nw h' tk', Fr h₀ L h' m → News h₀ L h' nw → Led news nw → c.Out nw r d → Q r { s with heap := h', toks := tk' }) →
    wpAny (model PySem.Challenge.rw_wb0121_01.row.prog w) (ktrTop dp un gd cn cs L a ccd cl outer) (call (.ref f) vs) Q E s

section
variable {D : Type} {w : World} {mean : ExcName → Option Value} {mg mb : Str → Option Value} {f : Addr} {c : Con D}
theorem tells_of (step : ∀ d, (∀ d', c.size d' < c.size d → Tells w mean mg mb f c d') → Tells w mean mg mb f c d) : ∀ d, Tells w mean mg mb f c d := by
  have all : ∀ n, ∀ d, c.size d < n → Tells w mean mg mb f c d := by
    intro n
    induction n with
    | zero => intro d h; exact absurd h (Nat.not_lt_zero _)
    | succ n ih => exact fun d h => step d fun d' h' => ih d' (Nat.lt_of_lt_of_le h' (Nat.le_of_lt_succ h))
  exact fun d => all _ d (Nat.lt_succ_self _)
theorem tells_use {d : D} (C : Tells w mean mg mb f c d) {dp un : Nat} {gd : Option (List Code)} {cn : Str} {cs : Scope} {a : Addr} {ccd : Value} {cl : List (Str × Addr)} {outer : List Env} {A₀ : Around} {base h₀ : Heap} {L : Addr} {m : Str → Option Value} {news : Ledger} {s : Shared} {vs : List Value}
    {Q E : Value → Shared → Prop} (B : Below A₀ base outer h₀) (F : Fr h₀ L s.heap m) (X : (Mine.hd.heap_39 w.params).In h₀) (N : News h₀ L s.heap news) (T : T0 mean mg mb h₀) (hk : cs.kind = .function) (R : c.Rel news vs d) (ok : c.Ok d)
    (hd : dp + c.size d < 1000) (hu : un + 8 * c.size d < 9900)
    (ret : ∀ r nw h' tk', Fr h₀ L h' m → News h₀ L h' nw → Led news nw → c.Out nw r d → Q r { s with heap := h', toks := tk' }) :
    wpAny (model PySem.Challenge.rw_wb0121_01.row.prog w) (ktrTop dp un gd cn cs L a ccd cl outer) (call (.ref f) vs) Q E s := C _ _ _ _ _ _ _ _ _ _ _ _ _ _ _ _ _ _ _ B F X N T hk R ok hd hu ret
end

/-! terms -/
inductive Tm where
  | leaf (i : Int)
  | node (a b : Tm)
  deriving DecidableEq
def Tm.height : Tm → Nat
  | .leaf _ => 1
  | .node a b => max a.height b.height + 1
def Tm.size : Tm → Nat
  | .leaf _ => 1
  | .node a b => a.size + b.size + 1
def Tm.written (j : Option Int) : Tm → List (Option Int)
  | .leaf i => [some i]
  | .node a b => j :: (a.written j ++ b.written j)
theorem Tm.written_length (j : Option Int) : ∀ t : Tm, (t.written j).length = t.size
  | .leaf _ => rfl
  | .node a b => by simp only [Tm.written, Tm.size, List.length_cons, List.length_append, a.written_length j, b.written_length j]

inductive TmIn (news : Ledger) : Value → Tm → Prop where
  | leaf {i : Int} {tk : Tok} : TmIn news (.int i tk) (.leaf i)
  | node {a : Addr} {n : Nat} {va vb : Value} {l r : Tm} : (a, ({ cls := .type "tuple", data := .seq #[va, vb] n } : Obj)) ∈ news → TmIn news va l → TmIn news vb r → TmIn news (.ref a) (.node l r)
theorem TmIn.mono {news news' : Ledger} {v : Value} {t : Tm} (h : TmIn news v t) (hs : ∀ p ∈ news, p ∈ news') : TmIn news' v t := by
  induction h with
  | leaf => exact .leaf
  | node hm _ _ i1 i2 => exact .node (hs _ hm) i1 i2

inductive ItemIs : Value → Option Int → Prop where
  | int {i : Int} {tk : Tok} : ItemIs (.int i tk) (some i)
  | none : ItemIs .none none
inductive ItemsAre : List Value → List (Option Int) → Prop where
  | nil : ItemsAre [] []
  | cons {v i vs is} : ItemIs v i → ItemsAre vs is → ItemsAre (v :: vs) (i :: is)
theorem ItemsAre.append {vs vs' : List Value} {is is' : List (Option Int)} (h : ItemsAre vs is) (h' : ItemsAre vs' is') : ItemsAre (vs ++ vs') (is ++ is') := by
  induction h with
  | nil => exact h'
  | cons a _ ih => exact .cons a ih
theorem ItemsAre.length {vs : List Value} {is : List (Option Int)} (h : ItemsAre vs is) : vs.length = is.length := by
  induction h with
  | nil => rfl
  | cons _ _ ih => simp [ih]

section
variable {prog : Program} {w : World} {A : Around} {E : Value → Shared → Prop} {s : Shared} {h₀ : Heap} {L a b : Addr} {m : Str → Option Value} {news : Ledger} {n n' : Nat} {u : Tok} {value slice : PySem.Expr} {Q : Value → Shared → Prop}
theorem tup_item {l : List Value} {k : Int} {j : Nat} {x : Value} (N : News h₀ L s.heap news) (hm : (a, ({ cls := .type "tuple", data := .seq l.toArray n } : Obj)) ∈ news)
    (hlo : -(2 ^ 63) ≤ k) (hhi : k < 2 ^ 63) (hj : seqIndex? k l.length = some j) (hx : l[j]? = some x) (h : Q x s)
    (hs : subscripted slice false (.ref a) (.int k u) = operate [.ref a, .int k u] (getItem (.ref a) (.int k u))) :
    wpAny (model prog w) A (subscriptTail value slice (.ref a) (.int k u)) Q E s :=
  item_tupleT (N.isTup hm) hlo hhi hj hx h hs

theorem list_add {vs vs' : List Value} (F : Fr h₀ L s.heap m) (N : News h₀ L s.heap news) (ha : (a, W.listOf vs.toArray n) ∈ news) (hb : (b, W.listOf vs'.toArray n') ∈ news)
    (hz : vs.length + vs'.length ≤ sizeLine)
    (h : ∀ D h', Fr h₀ L h' m → News h₀ L h' ((D, W.listOf (vs ++ vs').toArray 0) :: news) → (∀ p ∈ news, p.1 < D) → Q (.ref D) { s with heap := h' }) :
    wpAny (model prog w) A (binaryOp .Add (.ref a) (.ref b)) Q E s :=
  kmk_add_lit F N (N.isList ha) (N.isList hb) rfl (fun D h' F' N' l1 => h D h' F' (by simpa using N') l1) (by simpa using hz)
end
theorem list_item {prog : Program} {w : World} {A : Around} {E : Value → Shared → Prop} {s : Shared} {h₀ : Heap} {L a : Addr} {news : Ledger} {n : Nat} {u : Tok} {value slice : PySem.Expr} {Q : Value → Shared → Prop} {vs : List Value} {k : Int} {x : Value}
    (N : News h₀ L s.heap news) (hm : (a, W.listOf vs.toArray n) ∈ news) (h0 : 0 ≤ k) (hfit : k < 2 ^ 63) (hx : vs[k.toNat]? = some x) (h : Q x s)
    (hs : subscripted slice false (.ref a) (.int k u) = operate [.ref a, .int k u] (getItem (.ref a) (.int k u))) :
    wpAny (model prog w) A (subscriptTail value slice (.ref a) (.int k u)) Q E s :=
  tail_any (N.isList hm).typeIs slot_list_getitem.lookup (wpAny_getItem_list (N.isList hm) h0 hfit (by simpa using hx) h) hs
theorem eq_tup_int {prog : Program} {w : World} {A : Around} {E : Value → Shared → Prop} {s : Shared} {h₀ : Heap} {L a : Addr} {news : Ledger} {n : Nat} {Q : Value → Shared → Prop} {its : Array Value} {l : Int} {tl : Tok}
    (N : News h₀ L s.heap news) (hm : (a, ({ cls := .type "tuple", data := .seq its n } : Obj)) ∈ news) (hu : A.units < cLine) (h : Q (.bool false) s) :
    wpAny (model prog w) A (compareOp .Eq (.ref a) (.int l tl)) Q E s :=
  SeqAt.RcAt.tuple_int l tl (let ⟨o, x⟩ := N.isTup hm; ⟨o, x⟩) hu prog w E Q h
theorem items_eq (l : Int) (t : Tok) : ∀ {vs : List Value} {is : List (Option Int)}, ItemsAre vs is → ∀ y ∈ vs, MeetsSeq.EqGives y (.int l t) (isInt l y)
  | _, _, .nil, _, hy => nomatch hy
  | _, _, .cons hi h, y, hy => by
    rcases List.mem_cons.mp hy with rfl | hy
    · cases hi with
      | int => exact MeetsSeq.EqGives.int _ l _ t
      | none => exact fun prog w A E s Q q => SeqAt.EqAt.none_int l t prog w E Q q
    · exact items_eq l t h y hy
theorem items_any (l : Int) : ∀ {vs : List Value} {is : List (Option Int)}, ItemsAre vs is → vs.any (isInt l) = decide (some l ∈ is)
  | _, _, .nil => by simp
  | _, _, .cons hi h => by
    cases hi with
    | int =>
      rw [List.any_cons, items_any l h]
      simp only [isInt, List.mem_cons, Option.some.injEq, Bool.decide_or]
      congr 1
      rw [Bool.eq_iff_iff, beq_iff_eq, decide_eq_true_iff]
      exact ⟨Eq.symm, Eq.symm⟩
    | none => rw [List.any_cons, items_any l h]; simp [isInt]
theorem notin_items {prog : Program} {w : World} {A : Around} {E : Value → Shared → Prop} {s : Shared} {h₀ : Heap} {L a : Addr} {news : Ledger} {n : Nat} {Q : Value → Shared → Prop} {vs : List Value} {is : List (Option Int)} {l : Int} {tl : Tok}
    (N : News h₀ L s.heap news) (hm : (a, W.listOf vs.toArray n) ∈ news) (hi : ItemsAre vs is) (h : Q (.bool (!decide (some l ∈ is))) s) :
    wpAny (model prog w) A (compareOp .NotIn (.int l tl) (.ref a)) Q E s :=
  SeqInW.notIn_listW (isInt l) (fun y hy => items_eq l tl hi y (by simpa using hy)) (N.isList hm) (by rw [← Array.any_toList, show vs.toArray.toList = vs from rfl, items_any l hi]; exact h)
theorem eq_int_t {prog : Program} {w : World} {A : Around} {E : Value → Shared → Prop} {s : Shared} {Q : Value → Shared → Prop} {i k : Int} {t u : Tok} (h : i = k) (q : Q (.bool true) s) :
    wpAny (model prog w) A (compareOp .Eq (.int i t) (.int k u)) Q E s := eq_int (by rw [h, beq_self_eq_true]; exact q)
theorem eq_int_f {prog : Program} {w : World} {A : Around} {E : Value → Shared → Prop} {s : Shared} {Q : Value → Shared → Prop} {i k : Int} {t u : Tok} (h : ¬ i = k) (q : Q (.bool false) s) :
    wpAny (model prog w) A (compareOp .Eq (.int i t) (.int k u)) Q E s := eq_int (by rw [beq_eq_false_iff_ne.mpr h]; exact q)
theorem gt_int_t {prog : Program} {w : World} {A : Around} {E : Value → Shared → Prop} {s : Shared} {Q : Value → Shared → Prop} {i k : Int} {t u : Tok} (h : k < i) (q : Q (.bool true) s) :
    wpAny (model prog w) A (compareOp .Gt (.int i t) (.int k u)) Q E s := PyProof.Rows.gt_int (by rw [decide_eq_true h]; exact q)
theorem gt_int_f {prog : Program} {w : World} {A : Around} {E : Value → Shared → Prop} {s : Shared} {Q : Value → Shared → Prop} {i k : Int} {t u : Tok} (h : ¬ k < i) (q : Q (.bool false) s) :
    wpAny (model prog w) A (compareOp .Gt (.int i t) (.int k u)) Q E s := PyProof.Rows.gt_int (by rw [decide_eq_false h]; exact q)
theorem seqIndex_at {k : Int} {n : Nat} (h0 : 0 ≤ k) (h1 : k < n) : seqIndex? k n = some k.toNat := by
  unfold seqIndex?
  simp only [if_neg (show ¬ k < 0 by omega)]
  rw [if_pos (by simp [h0, h1])]
theorem tup_item_str {prog : Program} {w : World} {A : Around} {E : Value → Shared → Prop} {s : Shared} {h₀ : Heap} {L a : Addr} {news : Ledger} {n : Nat} {u : Tok} {value slice : PySem.Expr} {Q : Value → Shared → Prop} {l : List Value} {k : Int} (f : Nat → Str)
    (N : News h₀ L s.heap news) (hm : (a, ({ cls := .type "tuple", data := .seq l.toArray n } : Obj)) ∈ news)
    (h0 : 0 ≤ k) (h1 : k < l.length) (hz : l.length ≤ 1000) (hf : ∀ j, j < l.length → ∃ tk, l[j]? = some (.str (f j) tk)) (h : ∀ tk, Q (.str (f k.toNat) tk) s)
    (hs : subscripted slice false (.ref a) (.int k u) = operate [.ref a, .int k u] (getItem (.ref a) (.int k u))) :
    wpAny (model prog w) A (subscriptTail value slice (.ref a) (.int k u)) Q E s := by
  obtain ⟨tk, hx⟩ := hf k.toNat (by omega)
  exact tup_item N hm (by omega) (by omega) (seqIndex_at h0 h1) hx (h tk) hs
theorem row_append {prog : Program} {w : World} {A : Around} {E : Value → Shared → Prop} {s : Shared} {h₀ : Heap} {L a I : Addr} {m : Str → Option Value} {oI : Obj} {base : Ledger} {n : Nat} {vs : List Value} {x : Value} {Q : Value → Shared → Prop}
    (F : Fr h₀ L s.heap m) (N : News h₀ L s.heap ((I, oI) :: (a, W.listOf vs.toArray n) :: base)) (hIa : I ≠ a) (hb : ∀ p ∈ base, p.1 ≠ a) (hz : vs.length ≤ 1000)
    (h : ∀ h', Fr h₀ L h' m → News h₀ L h' ((I, oI) :: (a, W.listOf (vs ++ [x]).toArray (n + 1)) :: base) → Q .none { s with heap := h' }) :
    wpAny (model prog w) A (call (.builtin "list.append") [.ref a, x]) Q E s := by
  refine append_K (its := vs.toArray) (hsz := by rw [List.size_toArray]; exact Nat.le_trans hz (by decide)) F N (.tail hIa (.head hb)) fun h' F' N' => h h' F' ?_
  simpa using N'
theorem tup_item_int {prog : Program} {w : World} {A : Around} {E : Value → Shared → Prop} {s : Shared} {h₀ : Heap} {L a : Addr} {news : Ledger} {n : Nat} {u : Tok} {value slice : PySem.Expr} {Q : Value → Shared → Prop} {l : List Value} {k : Int} (f : Nat → Int)
    (N : News h₀ L s.heap news) (hm : (a, ({ cls := .type "tuple", data := .seq l.toArray n } : Obj)) ∈ news)
    (h0 : 0 ≤ k) (h1 : k < l.length) (hz : l.length ≤ 1000) (hf : ∀ j, j < l.length → ∃ tk, l[j]? = some (.int (f j) tk)) (h : ∀ tk, Q (.int (f k.toNat) tk) s)
    (hs : subscripted slice false (.ref a) (.int k u) = operate [.ref a, .int k u] (getItem (.ref a) (.int k u))) :
    wpAny (model prog w) A (subscriptTail value slice (.ref a) (.int k u)) Q E s := by
  obtain ⟨tk, hx⟩ := hf k.toNat (by omega)
  exact tup_item N hm (by omega) (by omega) (seqIndex_at h0 h1) hx (h tk) hs
theorem isi_tup {prog : Program} {w : World} {A : Around} {E : Value → Shared → Prop} {s : Shared} {h₀ : Heap} {L a : Addr} {news : Ledger} {n : Nat} {Q : Value → Shared → Prop} {its : Array Value}
    (N : News h₀ L s.heap news) (hm : (a, ({ cls := .type "tuple", data := .seq its n } : Obj)) ∈ news) (h : Q (.bool true) s) :
    wpAny (model prog w) A (call (.builtin "isinstance") [.ref a, .type "tuple"]) Q E s :=
  call_isinstance_yes (N.isTup hm).typeIs PySem.F.isi_meta_tuple PySem.F.sub_tuple_tuple h
theorem list_len {prog : Program} {w : World} {A : Around} {E : Value → Shared → Prop} {s : Shared} {h₀ : Heap} {L a : Addr} {news : Ledger} {n : Nat} {Q : Value → Shared → Prop} {vs : List Value}
    (N : News h₀ L s.heap news) (hm : (a, W.listOf vs.toArray n) ∈ news) (hz : vs.length ≤ 16777216) (h : Q (.int (vs.length : Int) (s.toks + 1)) { s with toks := s.toks + 1 + 1 }) :
    wpAny (model prog w) A (call (.builtin "len") [.ref a]) Q E s :=
  PyProof.Rows.len_list (N.isList hm) (by rw [List.size_toArray]; omega) (by rw [List.size_toArray]; exact h)
theorem slice_from (vs : List Value) (k : Nat) : (slicePick vs.toArray (some (k : Int)) none none).toList = vs.drop k := by
  have e : sliceBounds (some (k : Int)) none none vs.toArray.size = (((min k vs.toArray.size : Nat) : Int), ((vs.toArray.size : Nat) : Int), 1) := by
    simp only [sliceBounds, Option.getD_none, show (1 : Int) > 0 by decide, if_true, if_neg (show ¬ ((k : Int) < 0) by omega)]
    congr 1
    omega
  rw [kmk_pick_nat _ e]
  show ((vs.drop (min k vs.toArray.size)).take (vs.toArray.size - min k vs.toArray.size)) = _
  rw [List.size_toArray, kmk_drop_min, List.take_of_length_le (by rw [List.length_drop]; omega)]
/-- a place where the walk stops -/
def Stop (P : Prop) : Prop := P
theorem Stop.mk {P : Prop} (h : Stop P) : P := h
inductive TmsIn (news : Ledger) : List Value → List Tm → Prop where
  | nil : TmsIn news [] []
  | cons {v t vs ts} : TmIn news v t → TmsIn news vs ts → TmsIn news (v :: vs) (t :: ts)
theorem TmsIn.length {news : Ledger} {vs : List Value} {ts : List Tm} (h : TmsIn news vs ts) : vs.length = ts.length := by
  induction h with
  | nil => rfl
  | cons _ _ ih => simp [ih]
theorem TmsIn.mono {news news' : Ledger} {vs : List Value} {ts : List Tm} (h : TmsIn news vs ts) (hs : ∀ p ∈ news, p ∈ news') : TmsIn news' vs ts := by
  induction h with
  | nil => exact .nil
  | cons a _ ih => exact .cons (a.mono hs) ih
theorem TmsIn.drop {news : Ledger} {vs : List Value} {ts : List Tm} (h : TmsIn news vs ts) : ∀ k, TmsIn news (vs.drop k) (ts.drop k) := by
  induction h with
  | nil => intro k; simpa using TmsIn.nil
  | cons a h ih =>
    intro k
    cases k with
    | zero => exact .cons a h
    | succ k => exact ih k
theorem TmsIn.get {news : Ledger} {vs : List Value} {ts : List Tm} (h : TmsIn news vs ts) : ∀ {i : Nat} {v : Value}, vs[i]? = some v → ∃ t, ts[i]? = some t ∧ TmIn news v t := by
  induction h with
  | nil => intro i v e; simp at e
  | @cons v' t' vs' ts' a h ih =>
    intro i v e
    cases i with
    | zero => simp at e; subst e; exact ⟨t', by simp, a⟩
    | succ i => simp at e; obtain ⟨t, x, y⟩ := ih e; exact ⟨t, by simpa using x, y⟩
theorem le_sizeLine {n : Nat} (h : n ≤ 16777216) : n ≤ sizeLine := h
end Mine
end

section
open PySem PySem.W PyProof.Rows PySem.Calls PySem.Spec
namespace Mine

def SeqSub (a b : Ledger) : Prop := ∀ p ∈ a, (p.2.cls = .type "list" ∨ p.2.cls = .type "tuple") → p ∈ b
theorem SeqSub.of_sub {a b : Ledger} (h : ∀ p ∈ a, p ∈ b) : SeqSub a b := fun p hp _ => h p hp
theorem TmIn.monoS {news news' : Ledger} {v : Value} {t : Tm} (h : TmIn news v t) (hs : SeqSub news news') : TmIn news' v t := by
  induction h with
  | leaf => exact .leaf
  | node hm _ _ i1 i2 => exact .node (hs _ hm (.inr rfl)) i1 i2

inductive TurnE (h₀ : Heap) (L : Addr) (J : (Str → Option Value) → Ledger → Prop) (led : Ledger) (s₁ : Shared) (s₂ : Shared) : Prop
  | mk (h' : Heap) (tk : Nat) (m' : Str → Option Value) (nwF : Ledger) (es : s₂ = { s₁ with heap := h', toks := tk }) (F : Fr h₀ L h' m') (N : News h₀ L h' nwF) (l : Led led nwF) (hj : J m' nwF) : TurnE h₀ L J led s₁ s₂
theorem TurnE.intro {h₀ : Heap} {L : Addr} {J : (Str → Option Value) → Ledger → Prop} {led nwF : Ledger} {s₁ : Shared} {h' : Heap} {tk : Nat} {m' : Str → Option Value}
    (F : Fr h₀ L h' m') (N : News h₀ L h' nwF) (l : Led led nwF) (hj : J m' nwF) : TurnE h₀ L J led s₁ { s₁ with heap := h', toks := tk } := ⟨h', tk, m', nwF, rfl, F, N, l, hj⟩
def TurnQ (h₀ : Heap) (L : Addr) (Q : Flow → Shared → Prop) (J Jb : (Str → Option Value) → Ledger → Prop) (led : Ledger) (s₁ : Shared) (f : Flow) (s₂ : Shared) : Prop :=
  match f with
  | .ret v => Q (.ret v) s₂
  | .brk => TurnE h₀ L Jb led s₁ s₂
  | _ => TurnE h₀ L J led s₁ s₂

section
variable {prog : Program} {w : World} {A : Around} {E : Value → Shared → Prop} {s : Shared} {env : Env} {h₀ : Heap} {x : Str} {body : List Stmt} {Q : Flow → Shared → Prop}

theorem for_walks {I : Addr} {fp : List Addr} {n : Nat} {P : Nat → Value → Prop} {St : Nat → Heap → Prop} {m₀ : Str → Option Value} {news : Ledger}
    (W : Walks prog w A I fp [I] n P St) (hI : ∀ p ∈ news, p.1 < I) (hfp : ∀ b ∈ fp, b = I ∨ ∃ o, (b, o) ∈ news) (hIo : ∀ i h, St i h → ∃ o, h.get? I = some o ∧ o.cls ≠ .type "list" ∧ o.cls ≠ .type "tuple")
    (hIf : I ∈ fp) (hIL : env.locals ≠ I) (hI0 : h₀.get? I = none)
    (hst : St 0 s.heap) (F : Fr h₀ env.locals s.heap m₀) (N : News h₀ env.locals s.heap news)
    (J : Nat → (Str → Option Value) → Ledger → Prop) (Jb : (Str → Option Value) → Ledger → Prop) (Jmono : ∀ i m a b, SeqSub a b → J i m a → J i m b) (hj : J 0 m₀ news)
    (turn : ∀ i v m₁ nw oI h tk, i < n → P i v → J i m₁ nw → Led news nw → Fr h₀ env.locals h (fun y => if y = x then some v else m₁ y) → News h₀ env.locals h ((I, oI) :: nw) →
      wpAny (model prog w) A (execs body env) (TurnQ h₀ env.locals Q (J (i + 1)) Jb ((I, oI) :: nw) { s with heap := h, toks := tk }) E { s with heap := h, toks := tk })
    (done : ∀ m₁ nw h tk, (J n m₁ nw ∨ Jb m₁ nw) → Led news nw → Fr h₀ env.locals h m₁ → News h₀ env.locals h nw → Q .next { s with heap := h, toks := tk }) :
    LoopAtV prog w A h₀ env x body Q E (.ref I) s := by
  refine ⟨I, fp, [I], n, P, St, m₀, news, fun i m nw => J i m nw ∧ Led news nw, rfl, W, ?_, ?_, ?_, hst, F, N, ⟨hj, Led.refl _⟩, ?_, ?_⟩
  · intro hm
    rcases hfp _ hm with e | ⟨o, ho⟩
    · exact hIL e
    · exact (N _ ho).2.1 rfl
  · intro b hb
    rw [List.mem_singleton.mp hb]
    exact hI0
  · intro p hp hq
    exact Nat.ne_of_lt (hI p hp) (List.mem_singleton.mp hq)
  · rintro i v m₁ nw s₁ own ⟨h, tk, rfl⟩ hi hP ⟨hJ, hled⟩ hoff hown hownat hall hst₁ F₁ N₁
    obtain ⟨oI, hoI, hc1, hc2⟩ := hIo _ _ hst₁
    have hmem : (I, oI) ∈ own := hall I hIf hI0 oI hoI
    have N₂ : News h₀ env.locals h ((I, oI) :: nw) := fun p hp => by
      rcases List.mem_cons.mp hp with rfl | hp
      · exact N₁ _ (List.mem_append_left _ hmem)
      · exact N₁ _ (List.mem_append_right _ hp)
    refine wpAny_mono (turn i v m₁ nw oI h tk hi hP hJ hled F₁ N₂) (fun f s₂ p => ?_) fun _ _ e => e
    have fin : TurnE h₀ env.locals (J (i + 1)) ((I, oI) :: nw) { s with heap := h, toks := tk } s₂ →
        LoopStepU h₀ env.locals [I] own (fun m nw => J (i + 1) m nw ∧ Led news nw) { s with heap := h, toks := tk } .next s₂ := by
      rintro ⟨h', tk', m', nwF, rfl, F', N', hl, hJ'⟩
      have hIF : (I, oI) ∈ nwF := hl.sub _ List.mem_cons_self
      have cut : SeqSub nwF (nwF.filter fun p => decide (p.1 ≠ I)) := by
        intro p hp hc
        refine List.mem_filter.mpr ⟨hp, decide_eq_true fun e => ?_⟩
        have h1 := (N' _ hp).1
        rw [e, (N' _ hIF).1] at h1
        have h2 : oI = p.2 := Option.some.inj h1
        rw [← h2] at hc
        exact hc.elim hc1 hc2
      refine ⟨rfl, h', tk', m', nwF.filter fun p => decide (p.1 ≠ I), rfl, F', ?_, ?_, Jmono _ _ _ _ cut hJ', ?_, ?_⟩
      · intro p hp
        rcases List.mem_append.mp hp with hp | hp
        · rcases hfp _ (hown p hp) with e | ⟨o, ho⟩
          · have h1 := hownat p hp
            rw [e, hoI] at h1
            have h2 : p = (I, oI) := Prod.ext e (Option.some.inj h1).symm
            exact N' p (h2 ▸ hIF)
          · have h1 := hownat p hp
            have h2 := (N₂ _ (List.mem_cons_of_mem _ (hled.sub _ ho))).1
            have h3 : p = (p.1, o) := Prod.ext rfl (Option.some.inj (h1.symm.trans h2))
            exact N' p (h3 ▸ hl.sub _ (List.mem_cons_of_mem _ (hled.sub _ ho)))
        · exact N' p (List.mem_filter.mp hp).1
      · intro p hp hq
        exact (of_decide_eq_true (List.mem_filter.mp hp).2) (List.mem_singleton.mp hq)
      · intro p hp
        exact List.mem_filter.mpr ⟨hl.sub _ (List.mem_cons_of_mem _ (hled.sub _ hp)), decide_eq_true (Nat.ne_of_lt (hI p hp))⟩
      · intro p hp
        obtain ⟨hp1, hp2⟩ := List.mem_filter.mp hp
        rcases hl.ord p hp1 with h1 | h1
        · rcases List.mem_cons.mp h1 with rfl | h1
          · exact absurd rfl (of_decide_eq_true hp2)
          · exact hled.ord p h1
        · exact .inr fun q hq => h1 q (List.mem_cons_of_mem _ (hled.sub _ hq))
    cases f with
    | ret v => exact .ret p
    | brk =>
      obtain ⟨h', tk', m', nwF, rfl, F', N', hl, hJ'⟩ := p
      refine .brk (done m' nwF h' tk' (.inr hJ') (.trans ⟨fun p hp => List.mem_cons_of_mem _ (hled.sub p hp), fun p hp => ?_⟩ hl) F' N')
      rcases List.mem_cons.mp hp with rfl | hp
      · exact .inr hI
      · exact hled.ord p hp
    | next => exact .next (fin p)
    | cont => exact .cont (fin p)
  · rintro h' tk m' nw F' N' _ ⟨hJ, hled⟩
    exact done m' nw h' tk (.inl hJ) hled F' N'

theorem for_range {r : Addr} {a b : Int} {t u v : Tok} {n : Nat} {m₀ : Str → Option Value} {news : Ledger} (hh : A.handled = none)
    (hr : IsRange s.heap r a b 1 t u v) (hsm : Builtin.Range.small a b 1 = true) (hn : Builtin.Range.rangeSize a b 1 = ((n : Nat) : Int))
    (F : Fr h₀ env.locals s.heap m₀) (N : News h₀ env.locals s.heap news)
    (J : Nat → (Str → Option Value) → Ledger → Prop) (Jb : (Str → Option Value) → Ledger → Prop) (Jmono : ∀ i m a b, SeqSub a b → J i m a → J i m b) (hj : J 0 m₀ news)
    (turn : ∀ i t m₁ nw I oI h tk, i < n → J i m₁ nw → Led news nw → Fr h₀ env.locals h (fun y => if y = x then some (.int (a + (i : Int)) t) else m₁ y) → News h₀ env.locals h ((I, oI) :: nw) →
      wpAny (model prog w) A (execs body env) (TurnQ h₀ env.locals Q (J (i + 1)) Jb ((I, oI) :: nw) { s with heap := h, toks := tk }) E { s with heap := h, toks := tk })
    (done : ∀ m₁ nw h tk, (J n m₁ nw ∨ Jb m₁ nw) → Led news nw → Fr h₀ env.locals h m₁ → News h₀ env.locals h nw → Q .next { s with heap := h, toks := tk }) :
    wpAny (model prog w) A (pyIter (.ref r)) (fun it s₂ => LoopAtV prog w A h₀ env x body Q E it s₂) E s := by
  refine wpAny_pyIter_range hr hsm ?_
  have up : ∀ b' o, s.heap.get? b' = some o → (s.heap.push { cls := .type "range_iterator", data := .fields #[rawInt a, rawInt (Builtin.Range.rangeSize a b 1), rawInt 1] }).get? b' = some o := fun b' o e => Heap.get?_push_of_some _ e
  refine for_walks (s := { s with heap := _ }) (LCg.range_walks hh a n) (fun p hp => Heap.lt_size (N p hp).1) (fun b hb => .inl (List.mem_singleton.mp hb)) (fun i h st => ⟨_, st, (show Value.type "range_iterator" ≠ Value.type "list" by decide), (show Value.type "range_iterator" ≠ Value.type "tuple" by decide)⟩)
    (List.mem_singleton.mpr rfl) (Nat.ne_of_lt F.ns.lt) (next_is_new F) (by show IsRangeIter _ _ _ _ _; rw [hn]; simpa using Heap.get?_push_size _ rfl) (F.push _) (fun p hp => ⟨up _ _ (N p hp).1, (N p hp).2⟩) J Jb Jmono hj ?_ ?_
  · rintro i v m₁ nw oI h tk hi ⟨t, rfl⟩ hJ hled F₁ N₁
    exact turn i t m₁ nw _ oI h tk hi hJ hled F₁ N₁
  · intro m₁ nw h tk hJ hled F₁ N₁
    exact done m₁ nw h tk hJ hled F₁ N₁

theorem for_list {l : Addr} {k : Nat} {vs : List Value} {m₀ : Str → Option Value} {news : Ledger} (hh : A.handled = none) (hm : (l, W.listOf vs.toArray k) ∈ news)
    (F : Fr h₀ env.locals s.heap m₀) (N : News h₀ env.locals s.heap news)
    (J : Nat → (Str → Option Value) → Ledger → Prop) (Jb : (Str → Option Value) → Ledger → Prop) (Jmono : ∀ i m a b, SeqSub a b → J i m a → J i m b) (hj : J 0 m₀ news)
    (turn : ∀ i v m₁ nw I oI h tk, vs[i]? = some v → J i m₁ nw → Led news nw → Fr h₀ env.locals h (fun y => if y = x then some v else m₁ y) → News h₀ env.locals h ((I, oI) :: nw) →
      wpAny (model prog w) A (execs body env) (TurnQ h₀ env.locals Q (J (i + 1)) Jb ((I, oI) :: nw) { s with heap := h, toks := tk }) E { s with heap := h, toks := tk })
    (done : ∀ m₁ nw h tk, (J vs.length m₁ nw ∨ Jb m₁ nw) → Led news nw → Fr h₀ env.locals h m₁ → News h₀ env.locals h nw → Q .next { s with heap := h, toks := tk }) :
    wpAny (model prog w) A (pyIter (.ref l)) (fun it s₂ => LoopAtV prog w A h₀ env x body Q E it s₂) E s := by
  have hls := N.isList hm
  have hlt : l < s.heap.objs.size := Heap.lt_size (N _ hm).1
  refine wpAny_pyIter_list hls ?_
  have up : ∀ b o, s.heap.get? b = some o → (s.heap.push { cls := .type "list_iterator", data := .fields #[.ref l, .int 0 0] }).get? b = some o := fun b o e => Heap.get?_push_of_some _ e
  refine for_walks (s := { s with heap := _ }) (Walks.list hh s.heap.objs.size l (Nat.ne_of_lt hlt) vs.toArray) (fun p hp => Heap.lt_size (N p hp).1) (fun b hb => ?_) (fun i h st => ?_)
    (by simp) (Nat.ne_of_lt F.ns.lt) (next_is_new F) ⟨⟨_, Heap.get?_push_size _ rfl, rfl, rfl⟩, hls.at fun o e => up _ _ e⟩ (F.push _) (fun p hp => ⟨up _ _ (N p hp).1, (N p hp).2⟩) J Jb Jmono hj ?_ ?_
  · rcases List.mem_cons.mp hb with rfl | hb
    · exact .inl rfl
    · rw [List.mem_singleton.mp hb]; exact .inr ⟨_, hm⟩
  · obtain ⟨o, e, c, _⟩ := st.1
    exact ⟨o, e, by rw [c]; decide, by rw [c]; decide⟩
  · intro i v m₁ nw oI h tk hi hP hJ hled F₁ N₁
    exact turn i v m₁ nw _ oI h tk (by simpa using hP) hJ hled F₁ N₁
  · intro m₁ nw h tk hJ hled F₁ N₁
    exact done m₁ nw h tk (by simpa using hJ) hled F₁ N₁
end
end Mine
namespace Mine
def TurnM (h₀ : Heap) (L : Addr) (Q : Flow → Shared → Prop) (J : (Str → Option Value) → List Value → Prop) (I : Addr) (oI : Obj) (a : Addr) (base : Ledger) (s₁ : Shared) (f : Flow) (s₂ : Shared) : Prop :=
  match f with
  | .ret v => Q (.ret v) s₂
  | .brk => False
  | _ => ∃ h' tk m' vs' n', s₂ = { s₁ with heap := h', toks := tk } ∧ Fr h₀ L h' m' ∧ News h₀ L h' ((I, oI) :: (a, W.listOf (List.toArray vs') n') :: base) ∧ J m' vs'
section
variable {prog : Program} {w : World} {A : Around} {E : Value → Shared → Prop} {s : Shared} {env : Env} {h₀ : Heap} {x : Str} {body : List Stmt} {Q : Flow → Shared → Prop}
theorem for_ascii {txt : Str} {tt : Tok} {a : Addr} {vs₀ : List Value} {n₀ : Nat} {base : Ledger} {m₀ : Str → Option Value} (hh : A.handled = none) (ha : txt.cps.all (· < 128) = true)
    (F : Fr h₀ env.locals s.heap m₀) (N : News h₀ env.locals s.heap ((a, W.listOf vs₀.toArray n₀) :: base))
    (J : Nat → (Str → Option Value) → List Value → Prop) (hj : J 0 m₀ vs₀)
    (turn : ∀ i c u m₁ vs n I oI h tk, txt.cps[i]? = some c → J i m₁ vs → I ≠ a → Fr h₀ env.locals h (fun y => if y = x then some (.str ⟨#[c]⟩ u) else m₁ y) → News h₀ env.locals h ((I, oI) :: (a, W.listOf (List.toArray vs) n) :: base) →
      wpAny (model prog w) A (execs body env) (TurnM h₀ env.locals Q (J (i + 1)) I oI a base { s with heap := h, toks := tk }) E { s with heap := h, toks := tk })
    (done : ∀ m₁ vs n h tk, J txt.cps.size m₁ vs → Fr h₀ env.locals h m₁ → News h₀ env.locals h ((a, W.listOf (List.toArray vs) n) :: base) → Q .next { s with heap := h, toks := tk }) :
    wpAny (model prog w) A (pyIter (.str txt tt)) (fun it s₂ => LoopAtV prog w A h₀ env x body Q E it s₂) E s := by
  refine wpAny_pyIter_ascii ha ?_
  have hap : ∀ p ∈ (a, W.listOf vs₀.toArray n₀) :: base, p.1 < s.heap.objs.size := fun p hp => Heap.lt_size (N p hp).1
  refine ⟨s.heap.objs.size, [s.heap.objs.size], [s.heap.objs.size], _, _, _, m₀, (a, W.listOf vs₀.toArray n₀) :: base, fun i m nw => ∃ vs n, nw = (a, W.listOf (List.toArray vs) n) :: base ∧ J i m vs, rfl, Walks.strAscii hh _ txt tt, ?_, ?_, ?_, ⟨_, Heap.get?_push_size _ rfl, rfl, rfl⟩, F.push _, (fun p hp => ⟨Heap.get?_push_of_some _ (N p hp).1, (N p hp).2⟩), ⟨vs₀, n₀, rfl, hj⟩, ?_, ?_⟩
  · intro hm
    exact absurd F.ns.lt ((List.mem_singleton.mp hm) ▸ Nat.lt_irrefl _)
  · intro b hb
    rw [List.mem_singleton.mp hb]
    exact next_is_new F
  · intro p hp hI
    exact absurd (hap p hp) ((List.mem_singleton.mp hI) ▸ Nat.lt_irrefl _)
  · rintro i v m₁ nw s₁ own ⟨h, tk, rfl⟩ hi ⟨c, u, hc, rfl⟩ ⟨vs, n, rfl, hJ⟩ hoff hown hownat hall hst₁ F₁ N₁
    obtain ⟨oI, hq, _⟩ := hst₁
    · skip
      have hmem : (s.heap.objs.size, oI) ∈ own := hall _ (List.mem_singleton.mpr rfl) (next_is_new F) oI hq
      have N₂ : News h₀ env.locals h ((s.heap.objs.size, oI) :: (a, W.listOf (List.toArray vs) n) :: base) := fun p hp => by
        rcases List.mem_cons.mp hp with rfl | hp
        · exact N₁ _ (List.mem_append_left _ hmem)
        · exact N₁ _ (List.mem_append_right _ hp)
      refine wpAny_mono (turn i c u m₁ vs n _ oI h tk hc hJ (Nat.ne_of_gt (hap _ List.mem_cons_self)) F₁ N₂) (fun f s₂ p => ?_) fun _ _ e => e
      have fin : (∃ h' tk' m' vs' n', s₂ = { s with heap := h', toks := tk' } ∧ Fr h₀ env.locals h' m' ∧ News h₀ env.locals h' ((s.heap.objs.size, oI) :: (a, W.listOf (List.toArray vs') n') :: base) ∧ J (i + 1) m' vs') →
          LoopStepU h₀ env.locals [s.heap.objs.size] own (fun m nw => ∃ vs n, nw = (a, W.listOf (List.toArray vs) n) :: base ∧ J (i + 1) m vs) { s with heap := h, toks := tk } .next s₂ := by
        rintro ⟨h', tk', m', vs', n', rfl, F', N', hJ'⟩
        refine ⟨rfl, h', tk', m', (a, W.listOf (List.toArray vs') n') :: base, rfl, F', ?_, ?_, vs', n', rfl, hJ'⟩
        · intro p hp
          rcases List.mem_append.mp hp with hp | hp
          · have h1 := List.mem_singleton.mp (hown p hp)
            have h2 := hownat p hp
            have h3 : p = (s.heap.objs.size, oI) := Prod.ext h1 (by rw [h1] at h2; exact (Option.some.inj (h2.symm.trans hq)))
            exact N' p (h3 ▸ List.mem_cons_self)
          · exact N' p (List.mem_cons_of_mem _ hp)
        · intro p hp hq'
          have h1 : p.1 = s.heap.objs.size := List.mem_singleton.mp hq'
          rcases List.mem_cons.mp hp with rfl | hp
          · exact absurd (hap (a, W.listOf vs₀.toArray n₀) List.mem_cons_self) (by rw [show a = s.heap.objs.size from h1]; exact Nat.lt_irrefl _)
          · exact absurd (hap p (List.mem_cons_of_mem _ hp)) (by rw [h1]; exact Nat.lt_irrefl _)
      cases f with
      | ret v => exact .ret p
      | brk => exact p.elim
      | next => exact .next (fin p)
      | cont => exact .cont (fin p)
  · rintro h' tk m' nw F' N' _ ⟨vs, n, rfl, hJ⟩
    exact done m' vs n h' tk hJ F' N'
end
end Mine
end

section
open PySem PySem.W PyProof.Rows PySem.Calls PySem.Spec
namespace Mine
section
variable {prog : Program} {w : World} {A : Around} {E : Value → Shared → Prop} {s : Shared}
open Builtin in
theorem nextOf_tup_item {it t : Addr} {i : Nat} {items} {x : Value} {Q : Value → Shared → Prop} (hit : s.heap.IsTupleIter it t i) (ht : s.heap.IsTuple t items) (hx : items[i]? = some x)
    (hQ : ∀ h', h'.IsTupleIter it t (i + 1) → Heap.SameBut it s.heap h' → Q x { s with heap := h' }) :
    wpAny (model prog w) A (Builtin.SmallTypes.nextOf (.ref it)) Q E s := by
  obtain ⟨o, ho, hc, hd⟩ := id hit
  obtain ⟨ot, hot, _, nt, hdt⟩ := ht
  unfold Builtin.SmallTypes.nextOf
  refine wpAny_bind (wpAny_callSpecial?_slot (name := Str.ofString "__next__") hit.typeIs PySem.F.slot_tuple_iterator_next
    (wpAny_call_entry PySem.F.slot_tuple_iterator_next hit.typeIs PySem.F.entry_tuple_iterator_next ?_ (PySem.F.args_tuple_iterator_next_1 _)))
  show wpAny _ _ (field (.ref it) 0 >>= _) _ _ s
  refine wpAny_bind (wpAny_field ho hd (x := .ref t) rfl ?_)
  show wpAny _ _ (if (Value.ref t == Value.none) = true then _ else _) _ _ s
  rw [if_neg (show ¬ ((Value.ref t == Value.none) = true) from Bool.false_ne_true)]
  show wpAny _ _ (field (.ref it) 1 >>= _) _ _ s
  refine wpAny_bind (wpAny_field ho hd (x := .int i 0) rfl ?_)
  show wpAny _ _ (seqItems? (.ref t) >>= _) _ _ s
  refine wpAny_bind (wpAny_seqItems hot hdt ?_)
  simp only [Int.toNat_natCast, hx]
  refine wpAny_bind (wpAny_setField ho hd (by simp) (wpAny_pure ⟨x, rfl, wpAny_pure (hQ _ ?_ (Heap.SameBut.update ..))⟩))
  exact ⟨_, Heap.get?_update_self _ ho (Obj.isFreed_of_fields (Obj.data_mapFields hd _)), (Obj.cls_mapFields ..).trans hc, by
    rw [Obj.data_mapFields hd]; simp [rawInt]⟩
theorem nextOf_tup_end {it t : Addr} {i : Nat} {items} {Q : Value → Shared → Prop} (hh : A.handled = none) (hit : s.heap.IsTupleIter it t i) (ht : s.heap.IsTuple t items) (hx : items[i]? = none)
    (hE : ∀ h' e, Heap.ExtBut it s.heap h' → (∃ o, h'.get? e = some o ∧ o.cls = .type "StopIteration") → E (.ref e) { s with heap := h' }) :
    wpAny (model prog w) A (Builtin.SmallTypes.nextOf (.ref it)) Q E s := by
  obtain ⟨o, ho, hc, hd⟩ := id hit
  obtain ⟨ot, hot, _, nt, hdt⟩ := ht
  unfold Builtin.SmallTypes.nextOf
  refine wpAny_bind (wpAny_callSpecial?_slot (name := Str.ofString "__next__") hit.typeIs PySem.F.slot_tuple_iterator_next
    (wpAny_call_entry PySem.F.slot_tuple_iterator_next hit.typeIs PySem.F.entry_tuple_iterator_next ?_ (PySem.F.args_tuple_iterator_next_1 _)))
  show wpAny _ _ (field (.ref it) 0 >>= _) _ _ s
  refine wpAny_bind (wpAny_field ho hd (x := .ref t) rfl ?_)
  show wpAny _ _ (if (Value.ref t == Value.none) = true then _ else _) _ _ s
  rw [if_neg (show ¬ ((Value.ref t == Value.none) = true) from Bool.false_ne_true)]
  show wpAny _ _ (field (.ref it) 1 >>= _) _ _ s
  refine wpAny_bind (wpAny_field ho hd (x := .int i 0) rfl ?_)
  show wpAny _ _ (seqItems? (.ref t) >>= _) _ _ s
  refine wpAny_bind (wpAny_seqItems hot hdt ?_)
  simp only [Int.toNat_natCast, hx]
  refine wpAny_bind (wpAny_rule (wpAny_bind (wpAny_setField ho hd (by simp) ?_)))
  show wpAny _ _ (newExc (.type "StopIteration") [] >>= _) _ _ _
  refine wpAny_bind ?_
  simp only [newExc, newTuple]
  refine wpAny_bind (wpAny_newObj_type ?_ (by size_fits))
  refine wpAny_bind (m := firstArgMember _ _) (wpAny_of_eq (a := Value.none) (by first | rfl | (simp only [firstArgMember]; rfl)) ?_)
  refine wpAny_newObj_type ?_ (by size_fits)
  simp only [raiseNew]
  refine wpAny_bind (wpAny_handled ?_)
  first | rw [show A.in1.handled = none from hh] | rw [hh]
  refine wpAny_bind (wpAny_pure (wpAny_throw ?_))
  exact hE _ _ (((Heap.SameBut.update ..).extBut.push _).push _) ⟨_, Heap.get?_push_size _ rfl, rfl⟩
end
theorem drawsTup {prog : Program} {w : World} {A : Around} (hh : A.handled = none) (it t : Addr) (hne : t ≠ it) (items : Array Value) :
    Draws prog w A it [it, t] items.size (fun i v => items[i]? = some v) (fun i h => h.IsTupleIter it t i ∧ h.IsTuple t items) where
  live := fun _ _ st => let ⟨o, ho, _⟩ := st.1; ⟨o, ho⟩
  frame := fun _ _ _ st hk => ⟨st.1.at fun o e => hk it (by simp) o e, st.2.at fun o e => hk t (by simp) o e⟩
  item := fun i s Q E hi st hQ => by
    refine nextOf_tup_item st.1 st.2 (x := items[i]) (by simp [hi]) fun h' hit' hs' => ?_
    exact hQ _ h' s.toks (by simp [hi]) ⟨hit', st.2.at fun o e => hs'.extBut _ o hne e⟩ hs'
  done := fun s Q E st hE => nextOf_tup_end hh st.1 st.2 (by simp) hE

open AutoSeq1 (wpAny_loadPart') in
theorem meets_enumerate_newT (l : Addr) (items : Array Value) (n : Nat) (dct : Option Addr) (sl : Array (Option Value)) :
    Meets (Builtin.«enumerate.__new__» ⟨[.type "enumerate", .ref l], []⟩) (fun _ R s => s.heap.get? l = some { cls := .type "tuple", dict := dct, data := .seq items n, slots := sl } ∧
      R (.ok (.ret (.ref (s.heap.push { cls := .type "tuple_iterator", data := .fields #[.ref l, .int 0 0] }).objs.size)))
        { s with heap := (s.heap.push { cls := .type "tuple_iterator", data := .fields #[.ref l, .int 0 0] }).push { cls := .type "enumerate", data := .fields #[.none, .bool false, .ref s.heap.objs.size, rawInt 0, .none, .none] } }) :=
  .of_wp fun prog w A R s h => by
    obtain ⟨hp, g, d, tk, os⟩ := s; obtain ⟨hl, h⟩ := h
    have hsub := sub_enumerate
    have hL : Heap.IsTuple (Shared.heap ⟨hp, g, d, tk, os⟩) l items := ⟨_, hl, rfl, n, rfl⟩
    wp_walk using wpAny_loadPart' hl
    refine wpAny_stack_any fun st => wpAny_pure ?_
    split
    · rename_i c _ _ _ _ _
      cases (c == Value.type "enumerate")
      · wp_walk using wpAny_loadPart' hl, wpAny_pyIter_tuple hL
        exact ⟨_, rfl, h⟩
      · wp_walk using wpAny_loadPart' hl, wpAny_pyIter_tuple hL
        exact ⟨_, rfl, h⟩
    · wp_walk using wpAny_loadPart' hl, wpAny_pyIter_tuple hL
      exact ⟨_, rfl, h⟩

section
variable {prog : Program} {w : World} {A : Around} {E : Value → Shared → Prop} {s : Shared}
theorem call_enumerate_tup {l : Addr} {items : Array Value} {Q : Value → Shared → Prop} (hL : s.heap.IsTuple l items)
    (h : ∀ h', IsEnum h' (s.heap.objs.size + 1) s.heap.objs.size 0 .none → h'.IsTupleIter s.heap.objs.size l 0 → h'.objs.size = s.heap.objs.size + 2 →
      (∀ b o, s.heap.get? b = some o → h'.get? b = some o) → Q (.ref (s.heap.objs.size + 1)) { s with heap := h' }) :
    wpAny (model prog w) A (call (.type "enumerate") [.ref l]) Q E s := by
  obtain ⟨⟨c, dct, dt, sl⟩, hl, hc, n, hd⟩ := hL
  simp only at hc hd
  subst hc hd
  refine callType_new PySem.F.called_enumerate (by decide) (PySem.F.typeCall_enumerate_1 _) (PySem.F.newCall_enumerate_1 _) (fun obj => PySem.F.args_object_init_2 obj _) PySem.F.entry_enumerate_new
    (meets_enumerate_newT l items n dct sl) ⟨hl, ?_⟩
  generalize hH : s.heap.push { cls := .type "tuple_iterator", data := .fields #[.ref l, .int 0 0] } = H1
  have hz : H1.objs.size = s.heap.objs.size + 1 := by rw [← hH]; exact Heap.size_push ..
  have hit : H1.get? s.heap.objs.size = some { cls := .type "tuple_iterator", data := .fields #[.ref l, .int 0 0] } := by rw [← hH]; exact Heap.get?_push_size _ rfl
  have up : ∀ b o, s.heap.get? b = some o → H1.get? b = some o := fun b o e => by rw [← hH]; exact Heap.get?_push_of_some _ e
  have he : (H1.push { cls := .type "enumerate", data := .fields #[.none, .bool false, .ref s.heap.objs.size, rawInt 0, .none, .none] }).get? (s.heap.objs.size + 1) = some { cls := .type "enumerate", data := .fields #[.none, .bool false, .ref s.heap.objs.size, rawInt 0, .none, .none] } := by
    rw [← hz]; exact Heap.get?_push_size _ rfl
  show _ ∧ _
  rw [hz]
  exact ⟨⟨_, he, rfl⟩, h _ he ⟨_, Heap.get?_push_of_some _ hit, rfl, rfl⟩ (by rw [Heap.size_push, hz]) fun b o x => Heap.get?_push_of_some _ (up b o x)⟩

theorem meets_zip_newLT (l1 l2 : Addr) (xs ys : Array Value) :
    Meets (Builtin.«zip.__new__» ⟨[.type "zip", .ref l1, .ref l2], []⟩) (fun _ R s => s.heap.IsList l1 xs ∧ s.heap.IsTuple l2 ys ∧
      ∀ H1 H2 H3 H4 : Heap, H1 = s.heap.push { cls := .type "list_iterator", data := .fields #[.ref l1, .int 0 0] } → H2 = H1.push { cls := .type "tuple_iterator", data := .fields #[.ref l2, .int 0 0] } →
        H3 = H2.push { cls := .type "tuple", data := .seq #[.ref s.heap.objs.size, .ref H1.objs.size] } → H4 = H3.push { cls := .type "tuple", data := .seq #[.none, .none] } →
        R (.ok (.ret (.ref H4.objs.size))) { s with heap := H4.push { cls := .type "zip", data := .fields #[.none, .bool false, .bool false, .ref H2.objs.size, .ref H3.objs.size] } }) :=
  .of_wp fun prog w A R s h => by
    obtain ⟨hp, g, d, tk, os⟩ := s; obtain ⟨hl1, hl2, h⟩ := h
    have hsub := PySem.sub_zip
    have hL1 : Heap.IsList (Shared.heap ⟨hp, g, d, tk, os⟩) l1 xs := hl1
    have hL2 : Heap.IsTuple (Shared.heap ⟨hp.push { cls := .type "list_iterator", data := .fields #[.ref l1, .int 0 0] }, g, d, tk, os⟩) l2 ys := hl2.at fun o e => Heap.get?_push_of_some _ e
    wp_walk using wpAny_pyIter_list hL1, wpAny_pyIter_tuple hL2
    exact ⟨_, rfl, h _ _ _ _ rfl rfl rfl rfl⟩

theorem call_zip_LT {l1 l2 : Addr} {xs ys : Array Value} {Q : Value → Shared → Prop} (hl1 : s.heap.IsList l1 xs) (hl2 : s.heap.IsTuple l2 ys)
    (h : ∀ h', IsZip h' (s.heap.objs.size + 4) (s.heap.objs.size + 2) (s.heap.objs.size + 3) .none → IsPair h' (s.heap.objs.size + 2) (.ref s.heap.objs.size) (.ref (s.heap.objs.size + 1)) →
      IsPair h' (s.heap.objs.size + 3) .none .none → h'.IsListIter s.heap.objs.size l1 0 → h'.IsTupleIter (s.heap.objs.size + 1) l2 0 → h'.objs.size = s.heap.objs.size + 5 →
      (∀ c o, s.heap.get? c = some o → h'.get? c = some o) → Q (.ref (s.heap.objs.size + 4)) { s with heap := h' }) :
    wpAny (model prog w) A (call (.type "zip") [.ref l1, .ref l2]) Q E s := by
  refine callType_new PySem.F.called_zip (by decide) (PySem.F.typeCall_zip_2 _ _) (PySem.F.newCall_zip_2 _ _) (fun obj => PySem.F.args_object_init_3 obj _ _) PySem.F.entry_zip_new
    (meets_zip_newLT l1 l2 xs ys) ⟨hl1, hl2, ?_⟩
  intro H1 H2 H3 H4 e1 e2 e3 e4
  have z1 : H1.objs.size = s.heap.objs.size + 1 := by rw [e1]; exact Heap.size_push ..
  have z2 : H2.objs.size = s.heap.objs.size + 2 := by rw [e2, Heap.size_push, z1]
  have z3 : H3.objs.size = s.heap.objs.size + 3 := by rw [e3, Heap.size_push, z2]
  have z4 : H4.objs.size = s.heap.objs.size + 4 := by rw [e4, Heap.size_push, z3]
  have g1 : H1.get? s.heap.objs.size = some { cls := .type "list_iterator", data := .fields #[.ref l1, .int 0 0] } := by rw [e1]; exact Heap.get?_push_size _ rfl
  have g2 : H2.get? (s.heap.objs.size + 1) = some { cls := .type "tuple_iterator", data := .fields #[.ref l2, .int 0 0] } := by rw [e2, ← z1]; exact Heap.get?_push_size _ rfl
  have g3 : H3.get? (s.heap.objs.size + 2) = some { cls := .type "tuple", data := .seq #[.ref s.heap.objs.size, .ref H1.objs.size] } := by rw [e3, ← z2]; exact Heap.get?_push_size _ rfl
  have g4 : H4.get? (s.heap.objs.size + 3) = some { cls := .type "tuple", data := .seq #[.none, .none] } := by rw [e4, ← z3]; exact Heap.get?_push_size _ rfl
  have u1 : ∀ c o, s.heap.get? c = some o → H1.get? c = some o := fun c o e => by rw [e1]; exact Heap.get?_push_of_some _ e
  have u2 : ∀ c o, H1.get? c = some o → H2.get? c = some o := fun c o e => by rw [e2]; exact Heap.get?_push_of_some _ e
  have u3 : ∀ c o, H2.get? c = some o → H3.get? c = some o := fun c o e => by rw [e3]; exact Heap.get?_push_of_some _ e
  have u4 : ∀ c o, H3.get? c = some o → H4.get? c = some o := fun c o e => by rw [e4]; exact Heap.get?_push_of_some _ e
  rw [z1] at g3
  have g5 : (H4.push { cls := .type "zip", data := .fields #[.none, .bool false, .bool false, .ref (s.heap.objs.size + 2), .ref (s.heap.objs.size + 3)] }).get? (s.heap.objs.size + 4) = some { cls := .type "zip", data := .fields #[.none, .bool false, .bool false, .ref (s.heap.objs.size + 2), .ref (s.heap.objs.size + 3)] } := by
    rw [← z4]; exact Heap.get?_push_size _ rfl
  show _ ∧ _
  rw [z2, z3, z4]
  exact ⟨⟨_, g5, rfl⟩, h _ g5 (Heap.get?_push_of_some _ (u4 _ _ g3)) (Heap.get?_push_of_some _ g4) ⟨_, Heap.get?_push_of_some _ (u4 _ _ (u3 _ _ (u2 _ _ g1))), rfl, rfl⟩
    ⟨_, Heap.get?_push_of_some _ (u4 _ _ (u3 _ _ g2)), rfl, rfl⟩ (by rw [Heap.size_push, z4]) fun c o e => Heap.get?_push_of_some _ (u4 _ _ (u3 _ _ (u2 _ _ (u1 _ _ e))))⟩
end

/-- a zip whose two iterators draw -/
structure ZipOff (z TI TO i1 i2 : Addr) (fp1 fp2 : List Addr) : Prop where
  i1m : i1 ∈ fp1
  i2m : i2 ∈ fp2
  z1 : z ∉ fp1
  z2 : z ∉ fp2
  TI1 : TI ∉ fp1
  TI2 : TI ∉ fp2
  TO1 : TO ∉ fp1
  TO2 : TO ∉ fp2
  o1 : i1 ∉ fp2
  o2 : i2 ∉ fp1
  zTI : TI ≠ z
  zTO : TO ≠ z
  TITO : TI ≠ TO
section
variable {prog : Program} {w : World} {A : Around} {E : Value → Shared → Prop} {s : Shared} {z TI TO i1 i2 : Addr} {fp1 fp2 : List Addr} {n1 n2 : Nat} {P1 P2 : Nat → Value → Prop} {St1 St2 : Nat → Heap → Prop}
theorem ZipOff.ne1 (D : ZipOff z TI TO i1 i2 fp1 fp2) {b : Addr} (h : b ∈ fp1) : b ≠ z ∧ b ≠ TI ∧ b ≠ TO ∧ b ≠ i2 :=
  ⟨fun e => D.z1 (e ▸ h), fun e => D.TI1 (e ▸ h), fun e => D.TO1 (e ▸ h), fun e => D.o2 (e ▸ h)⟩
theorem ZipOff.ne2 (D : ZipOff z TI TO i1 i2 fp1 fp2) {b : Addr} (h : b ∈ fp2) : b ≠ z ∧ b ≠ TI ∧ b ≠ TO ∧ b ≠ i1 :=
  ⟨fun e => D.z2 (e ▸ h), fun e => D.TI2 (e ▸ h), fun e => D.TO2 (e ▸ h), fun e => D.o1 (e ▸ h)⟩

theorem zip_next_draws {i : Nat} {a b : Value} {Q : Value → Shared → Prop} (D : ZipOff z TI TO i1 i2 fp1 fp2) (D1 : Draws prog w A i1 fp1 n1 P1 St1) (D2 : Draws prog w A i2 fp2 n2 P2 St2)
    (hz : IsZip s.heap z TI TO .none) (hTI : IsPair s.heap TI (.ref i1) (.ref i2)) (hTO : IsPair s.heap TO a b) (h1 : St1 i s.heap) (h2 : St2 i s.heap) (hi1 : i < n1) (hi2 : i < n2)
    (hQ : ∀ x y h' tk, P1 i x → P2 i y → IsZip h' z TI TO (rawInt s.heap.objs.size) → IsPair h' TI (.ref i1) (.ref i2) → IsPair h' TO x y → St1 (i + 1) h' → St2 (i + 1) h' → IsPair h' s.heap.objs.size x y →
      (∀ c o, c ≠ z → c ≠ TO → c ≠ i1 → c ≠ i2 → s.heap.get? c = some o → h'.get? c = some o) → Q (.ref s.heap.objs.size) { s with heap := h', toks := tk }) :
    wpAny (model prog w) A (Builtin.«zip.__next__» ⟨[.ref z], []⟩) (fun fin s' => ∃ v, fin = .done (.ret v) ∧ Q v s') E s := by
  show wpAny _ _ (field (.ref z) 2 >>= _) _ _ _
  refine wpAny_bind (wpAny_field hz rfl (x := .bool false) rfl ?_)
  show wpAny _ _ (field (.ref z) 3 >>= _) _ _ _
  refine wpAny_bind (wpAny_field hz rfl (x := .ref TI) rfl (wpAny_bind (wpAny_seqItems hTI rfl ?_)))
  show wpAny _ _ (Builtin.SmallTypes.ownedTupleIsFree (.ref z) >>= _) _ _ _
  refine wpAny_bind ?_
  unfold Builtin.SmallTypes.ownedTupleIsFree
  refine wpAny_bind (wpAny_field hz rfl (x := .none) rfl (wpAny_pure ?_))
  simp only [if_true]
  refine wpAny_bind (wpAny_rule (wpAny_bind (wpAny_field hz rfl (x := .ref TO) rfl (wpAny_bind (wpAny_setField_rec hz (by simp) fun ha za sa => ?_)))))
  replace za : IsZip ha z TI TO .ellipsis := za
  refine wpAny_bind ?_
  simp only [List.zipIdx_cons, List.zipIdx_nil, List.forIn_cons, List.forIn_nil]
  refine wpAny_bind (wpAny_bind (wpAny_onRaise ?_))
  show wpAny _ _ (Builtin.SmallTypes.nextOf (.ref i1) >>= _) _ _ _
  have h1a : St1 i ha := D1.frame _ _ _ h1 fun b hb o e => sa.extBut b o (D.ne1 hb).1 e
  have h2a : St2 i ha := D2.frame _ _ _ h2 fun b hb o e => sa.extBut b o (D.ne2 hb).1 e
  refine wpAny_bind (D1.item i _ _ _ hi1 h1a fun x hb tb px h1b sb => wpAny_pure ?_)
  have i1z := D.ne1 D.i1m
  have i2z := D.ne2 D.i2m
  have TOb : IsPair hb TO a b := sb.extBut _ _ i1z.2.2.1.symm (sa.extBut _ _ D.zTO hTO)
  refine wpAny_bind (wpAny_seqItems TOb rfl (wpAny_bind (wpAny_updateSeq_pair TOb fun hc TOc sc => ?_)))
  replace TOc : IsPair hc TO x b := TOc
  refine wpAny_bind (wpAny_letGo (wpAny_pure ?_))
  refine wpAny_bind (wpAny_bind (wpAny_onRaise ?_))
  show wpAny _ _ (Builtin.SmallTypes.nextOf (.ref i2) >>= _) _ _ _
  have h2c : St2 i hc := D2.frame _ _ _ h2a fun b hb' o e => sc.extBut b o (D.ne2 hb').2.2.1 (sb.extBut b o (D.ne2 hb').2.2.2 e)
  have h1c : St1 (i + 1) hc := D1.frame _ _ _ h1b fun b hb' o e => sc.extBut b o (D.ne1 hb').2.2.1 e
  refine wpAny_bind (D2.item i _ _ _ hi2 h2c fun y hd td py h2d sd => wpAny_pure ?_)
  have TOd : IsPair hd TO x b := sd.extBut _ _ i2z.2.2.1.symm TOc
  refine wpAny_bind (wpAny_seqItems TOd rfl (wpAny_bind (wpAny_updateSeq_pair TOd fun he TOe se => ?_)))
  replace TOe : IsPair he TO x y := TOe
  refine wpAny_bind (wpAny_letGo (wpAny_pure (wpAny_pure ?_)))
  refine wpAny_bind (wpAny_seqItems TOe rfl (wpAny_bind (wpAny_newTuple ?_)))
  have size : he.objs.size = s.heap.objs.size := by rw [se.1, sd.1, sc.1, sb.1, sa.1]
  have keep : ∀ c o, c ≠ z → c ≠ TO → c ≠ i1 → c ≠ i2 → s.heap.get? c = some o → he.get? c = some o := fun c o c1 c2 c3 c4 e =>
    se.extBut _ _ c2 (sd.extBut _ _ c4 (sc.extBut _ _ c2 (sb.extBut _ _ c3 (sa.extBut _ _ c1 e))))
  have zz : IsZip he z TI TO .ellipsis := se.extBut _ _ D.zTO.symm (sd.extBut _ _ i2z.1.symm (sc.extBut _ _ D.zTO.symm (sb.extBut _ _ i1z.1.symm za)))
  have h1e : St1 (i + 1) he := D1.frame _ _ _ h1c fun b hb' o e => se.extBut b o (D.ne1 hb').2.2.1 (sd.extBut b o (D.ne1 hb').2.2.2 e)
  have h2e : St2 (i + 1) he := D2.frame _ _ _ h2d fun b hb' o e => se.extBut b o (D.ne2 hb').2.2.1 e
  have TIe : IsPair he TI (.ref i1) (.ref i2) := keep _ _ D.zTI D.TITO i1z.2.1.symm i2z.2.1.symm hTI
  have zlt : z < he.objs.size := Heap.lt_size zz
  show wpAny _ _ (Builtin.SmallTypes.ownedTupleHandOut (.ref z) (.ref he.objs.size) >>= _) _ _ _
  refine wpAny_bind ?_
  unfold Builtin.SmallTypes.ownedTupleHandOut
  have zf : IsZip (he.push { cls := .type "tuple", data := .seq #[x, y] }) z TI TO .ellipsis := Heap.get?_push_of_some _ zz
  refine wpAny_bind (wpAny_setField_rec zf (by simp) fun hg zg sg => ?_)
  replace zg : IsZip hg z TI TO (rawInt he.objs.size) := zg
  refine wpAny_setField_rec zg (by simp) fun hk zk sk => ?_
  replace zk : IsZip hk z TI TO (rawInt he.objs.size) := zk
  have up : ∀ c o, c ≠ z → he.get? c = some o → hk.get? c = some o := fun c o c1 e => sk.extBut _ _ c1 (sg.extBut _ _ c1 (Heap.get?_push_of_some _ e))
  have T : IsPair hk he.objs.size x y := sk.extBut _ _ (Nat.ne_of_gt zlt) (sg.extBut _ _ (Nat.ne_of_gt zlt) (Heap.get?_push_size _ rfl))
  rw [size] at zk T
  refine wpAny_pure ⟨_, rfl, ?_⟩
  show Q (.ref he.objs.size) _
  rw [size]
  exact hQ x y hk _ px py zk (up _ _ D.zTI TIe) (up _ _ D.zTO TOe) (D1.frame _ _ _ h1e fun b hb' o e => up b o (D.ne1 hb').1 e) (D2.frame _ _ _ h2e fun b hb' o e => up b o (D.ne2 hb').1 e) T
    fun c o c1 c2 c3 c4 e => up c o c1 (keep c o c1 c2 c3 c4 e)

theorem zip_end_draws {a b : Value} {Q : Fin → Shared → Prop} (D : ZipOff z TI TO i1 i2 fp1 fp2) (D1 : Draws prog w A i1 fp1 n1 P1 St1) (D2 : Draws prog w A i2 fp2 n2 P2 St2)
    (hz : IsZip s.heap z TI TO .none) (hTI : IsPair s.heap TI (.ref i1) (.ref i2)) (hTO : IsPair s.heap TO a b) (h1 : St1 n2 s.heap) (h2 : St2 n2 s.heap) (hlt : n2 < n1)
    (hE : ∀ h' e tk, (∀ c o, c ≠ z → c ≠ TO → c ≠ i1 → c ≠ i2 → s.heap.get? c = some o → h'.get? c = some o) → (∃ o, h'.get? e = some o ∧ o.cls = .type "StopIteration") → E (.ref e) { s with heap := h', toks := tk }) :
    wpAny (model prog w) A (Builtin.«zip.__next__» ⟨[.ref z], []⟩) Q E s := by
  show wpAny _ _ (field (.ref z) 2 >>= _) _ _ _
  refine wpAny_bind (wpAny_field hz rfl (x := .bool false) rfl ?_)
  show wpAny _ _ (field (.ref z) 3 >>= _) _ _ _
  refine wpAny_bind (wpAny_field hz rfl (x := .ref TI) rfl (wpAny_bind (wpAny_seqItems hTI rfl ?_)))
  show wpAny _ _ (Builtin.SmallTypes.ownedTupleIsFree (.ref z) >>= _) _ _ _
  refine wpAny_bind ?_
  unfold Builtin.SmallTypes.ownedTupleIsFree
  refine wpAny_bind (wpAny_field hz rfl (x := .none) rfl (wpAny_pure ?_))
  simp only [if_true]
  refine wpAny_bind (wpAny_rule (wpAny_bind (wpAny_field hz rfl (x := .ref TO) rfl (wpAny_bind (wpAny_setField_rec hz (by simp) fun ha za sa => ?_)))))
  replace za : IsZip ha z TI TO .ellipsis := za
  refine wpAny_bind ?_
  simp only [List.zipIdx_cons, List.zipIdx_nil, List.forIn_cons, List.forIn_nil]
  refine wpAny_bind (wpAny_bind (wpAny_onRaise ?_))
  show wpAny _ _ (Builtin.SmallTypes.nextOf (.ref i1) >>= _) _ _ _
  have h1a : St1 n2 ha := D1.frame _ _ _ h1 fun b hb o e => sa.extBut b o (D.ne1 hb).1 e
  have h2a : St2 n2 ha := D2.frame _ _ _ h2 fun b hb o e => sa.extBut b o (D.ne2 hb).1 e
  refine wpAny_bind (D1.item n2 _ _ _ hlt h1a fun x hb tb px h1b sb => wpAny_pure ?_)
  have i1z := D.ne1 D.i1m
  have i2z := D.ne2 D.i2m
  have TOb : IsPair hb TO a b := sb.extBut _ _ i1z.2.2.1.symm (sa.extBut _ _ D.zTO hTO)
  refine wpAny_bind (wpAny_seqItems TOb rfl (wpAny_bind (wpAny_updateSeq_pair TOb fun hc TOc sc => ?_)))
  refine wpAny_bind (wpAny_letGo (wpAny_pure ?_))
  refine wpAny_bind (wpAny_bind (wpAny_onRaise ?_))
  show wpAny _ _ (Builtin.SmallTypes.nextOf (.ref i2) >>= _) _ _ _
  have h2c : St2 n2 hc := D2.frame _ _ _ h2a fun b hb' o e => sc.extBut b o (D.ne2 hb').2.2.1 (sb.extBut b o (D.ne2 hb').2.2.2 e)
  refine wpAny_bind (D2.done _ _ _ h2c fun hd e sd he => ?_)
  obtain ⟨oe, hoe, hce⟩ := he
  have zd : IsZip hd z TI TO .ellipsis := sd _ _ i2z.1.symm (sc.extBut _ _ D.zTO.symm (sb.extBut _ _ i1z.1.symm za))
  have hez : e ≠ z := fun x => by subst x; rw [zd] at hoe; cases hoe; simp at hce
  refine wpAny_setField_rec zd (by simp) fun hf _ sf => hE hf e _ (fun c o c1 c2 c3 c4 q => sf.extBut _ _ c1 (sd _ _ c4 (sc.extBut _ _ c2 (sb.extBut _ _ c3 (sa.extBut _ _ c1 q))))) ⟨oe, sf.extBut _ _ hez hoe, hce⟩
end
theorem zipWalks {prog : Program} {w : World} {A : Around} {z TI TO i1 i2 : Addr} {fp1 fp2 : List Addr} {n1 n2 : Nat} {P1 P2 : Nat → Value → Prop} {St1 St2 : Nat → Heap → Prop} (hh : A.handled = none)
    (D : ZipOff z TI TO i1 i2 fp1 fp2) (D1 : Draws prog w A.in1 i1 fp1 n1 P1 St1) (D2 : Draws prog w A.in1 i2 fp2 n2 P2 St2) (hlt : n2 < n1) :
    WalksU prog w A z (z :: TI :: TO :: (fp1 ++ fp2)) [z, TO, i1, i2] n2 (fun i vals => ∃ x y, P1 i x ∧ P2 i y ∧ vals = #[x, y])
      (fun i h => IsZip h z TI TO .none ∧ IsPair h TI (.ref i1) (.ref i2) ∧ (∃ a b, IsPair h TO a b) ∧ St1 i h ∧ St2 i h)
      (fun i T h => IsZip h z TI TO (rawInt T) ∧ IsPair h TI (.ref i1) (.ref i2) ∧ (∃ a b, IsPair h TO a b) ∧ St1 (i + 1) h ∧ St2 (i + 1) h ∧ T ≠ z ∧ T ≠ TO ∧ T ≠ i1 ∧ T ≠ i2) where
  sub := fun c hc => by
    have := D.i1m; have := D.i2m
    simp at hc ⊢
    rcases hc with rfl | rfl | rfl | rfl <;> simp [*]
  frame := fun i h h' hst hk => by
    obtain ⟨hz, hTI, ⟨a, b, hTO⟩, h1, h2⟩ := hst
    exact ⟨hk z (by simp) _ hz, hk TI (by simp) _ hTI, ⟨a, b, hk TO (by simp) _ hTO⟩, D1.frame _ _ _ h1 fun b hb o e => hk b (by simp [hb]) o e, D2.frame _ _ _ h2 fun b hb o e => hk b (by simp [hb]) o e⟩
  item := fun i s Q E hi hst hQ => by
    obtain ⟨hz, hTI, ⟨a, b, hTO⟩, h1, h2⟩ := hst
    have hT : s.TypeIs (.ref z) "zip" := ⟨_, hz, rfl⟩
    unfold pyNext
    refine wpAny_bind (wpAny_attempt (wpAny_callSpecial?_slot (name := Str.ofString "__next__") hT PySem.F.slot_zip_next
      (wpAny_call_entry PySem.F.slot_zip_next hT PySem.F.entry_zip_next
        (zip_next_draws D D1 D2 hz hTI hTO h1 h2 (Nat.lt_trans hi hlt) hi fun x y h' tk px py a1 a2 a3 a4 a5 a6 a7 => wpAny_pure ?_) (PySem.F.args_zip_next_1 _))))
    have lt : ∀ {c o}, s.heap.get? c = some o → s.heap.objs.size ≠ c := fun e => Nat.ne_of_gt (Heap.lt_size e)
    exact hQ s.heap.objs.size #[x, y] h' tk ⟨x, y, px, py, rfl⟩ ⟨_, a6, rfl, _, rfl⟩
      ⟨a1, a2, ⟨_, _, a3⟩, a4, a5, lt hz, lt hTO, (by obtain ⟨_, e⟩ := D1.live _ _ h1; exact lt e), (by obtain ⟨_, e⟩ := D2.live _ _ h2; exact lt e)⟩
      fun c o hc e => a7 c o (fun q => hc (by simp [q])) (fun q => hc (by simp [q])) (fun q => hc (by simp [q])) (fun q => hc (by simp [q])) e
  go := fun elts k pos i T s Q E hm hQ => by
    obtain ⟨hz, hTI, ⟨a, b, hTO⟩, h1, h2, _⟩ := hm
    refine wpAny_letOwnedTupleGo_zip hz fun h' hz' hs' => hQ h' ⟨hz', hs'.extBut _ _ D.zTI hTI, ⟨a, b, hs'.extBut _ _ D.zTO hTO⟩, D1.frame _ _ _ h1 fun b hb o e => hs'.extBut b o (D.ne1 hb).1 e, D2.frame _ _ _ h2 fun b hb o e => hs'.extBut b o (D.ne2 hb).1 e⟩ fun c o hc e => hs'.extBut c o (fun q => hc (by simp [q])) e
  apart := fun i T h hm hT => by
    obtain ⟨_, _, _, _, _, a1, a2, a3, a4⟩ := hm
    simp at hT
    rcases hT with e | e | e | e
    · exact a1 e
    · exact a2 e
    · exact a3 e
    · exact a4 e
  done := fun s Q E hst hQ => by
    obtain ⟨hz, hTI, ⟨a, b, hTO⟩, h1, h2⟩ := hst
    have hT : s.TypeIs (.ref z) "zip" := ⟨_, hz, rfl⟩
    unfold pyNext
    refine wpAny_bind (wpAny_attempt (wpAny_callSpecial?_slot (name := Str.ofString "__next__") hT PySem.F.slot_zip_next
      (wpAny_call_entry PySem.F.slot_zip_next hT PySem.F.entry_zip_next (zip_end_draws D D1 D2 hz hTI hTO h1 h2 hlt fun h' e tk hk he => ?_) (PySem.F.args_zip_next_1 _))))
    obtain ⟨o, ho, hc⟩ := he
    refine wpAny_bind (wpAny_isInstance (T := "StopIteration") (b := true) ⟨o, ho, hc⟩ isSubtype_stop ?_)
    exact wpAny_pure (hQ _ tk fun c o hc e => hk c o (fun q => hc (by simp [q])) (fun q => hc (by simp [q])) (fun q => hc (by simp [q])) (fun q => hc (by simp [q])) e)
  self := fun i s Q E hst hQ => wpAny_pyIter_zip hst.1 hQ
end Mine
end

section
open PySem PySem.W PyProof.Rows PySem.Calls PySem.Spec PyProof.Rows.LCg
namespace Mine
section
variable {prog : Program} {w : World} {A : Around} {E : Value → Shared → Prop} {s : Shared} {h₀ : Heap} {L : Addr} {m : Str → Option Value} {env : Env}

/-- what a comprehension does with a bound item -/
def Bd (prog : Program) (w : World) (A : Around) (ifs : List PySem.Expr) (elt : PySem.Expr) (env : Env) (Qy : Value → Shared → Prop) (Qn : Shared → Prop) (E : Value → Shared → Prop) (s : Shared) : Prop :=
  match ifs with
  | [] => wpAny (model prog w) A (eval elt env) Qy E s
  | c :: _ => wpAny (model prog w) A (isTrue c env (eval c env)) (fun ok s₃ => if ok = true then wpAny (model prog w) A (eval elt env) Qy E s₃ else Qn s₃) E s
theorem Bd.mono {ifs : List PySem.Expr} {elt : PySem.Expr} {Qy Qy' : Value → Shared → Prop} {Qn Qn' : Shared → Prop} (h : Bd prog w A ifs elt env Qy Qn E s) (hy : ∀ v s, Qy v s → Qy' v s) (hn : ∀ s, Qn s → Qn' s) : Bd prog w A ifs elt env Qy' Qn' E s := by
  cases ifs with
  | nil => exact wpAny_mono h hy fun _ _ e => e
  | cons c r =>
    refine wpAny_mono h (fun ok s₃ h₃ => ?_) fun _ _ e => e
    cases ok with
    | true => exact wpAny_mono (by simpa using h₃) hy fun _ _ e => e
    | false => exact hn _ (by simpa using h₃)
theorem comp_loop {elt target iter : PySem.Expr} {ifs : List PySem.Expr} {scope : Scope} {pos : Pos} {it acc : Value} {env : Env} {R : Result → Shared → Prop} (hifs : ifs.length ≤ 1) (I : Nat → Shared → Prop)
    (turn : ∀ n s, I n s → wpAny (model prog w) A (pyNext it) (fun r s₁ => match r with
      | none => R (.ok .next) s₁
      | some v => wpAny (model prog w) A (letOwnedTupleGo target it v) (fun _ s₀ => wpAny (model prog w) A (assign target env v) (fun _ s₂ =>
          Bd prog w A ifs elt env (fun x s₄ =>
            wpAny (model prog w) A (call (.builtin "list.append") [acc, x]) (fun _ s₅ => ∃ m, m < n ∧ I m s₅) (notedBy (model prog w) A env fun e s' => R (.error e) s') s₄) (fun s₃ => ∃ m, m < n ∧ I m s₃) (notedBy (model prog w) A env fun e s' => R (.error e) s') s₂)
          (notedBy (model prog w) A env fun e s' => R (.error e) s') s₀) (notedBy (model prog w) A env fun e s' => R (.error e) s') s₁) (notedBy (model prog w) A env fun e s' => R (.error e) s') s)
    (n : Nat) (h : I n s) : codeAny (model prog w) A (.compLoop (.ListComp elt [⟨target, iter, ifs, 0⟩] scope pos) 0 it acc env) R s := by
  match ifs, hifs with
  | [], _ => exact kcp_loop I turn n h
  | [c], _ => exact kct_loop I turn n h

/-- a source of a comprehension -/
structure Src (prog : Program) (w : World) (A : Around) (target : PySem.Expr) (scope : Scope) (cl : List (Str × Addr)) (env : Env) (h₀ : Heap) (L I : Addr) (n : Nat) (B : Nat → (Str → Option Value) → Prop) (keep news : Ledger) (h : Heap)
    (fp wr ws : List Addr) (P Md : Nat → Value → Heap → Prop) (St : Nat → Heap → Prop) (K : Obj → Prop) : Prop where
  W : KTurns prog w A target I fp wr n P Md St
  self : ∀ (s : Shared) (Q : Value → Shared → Prop) (E : Value → Shared → Prop), St 0 s.heap → Q (.ref I) s → wpAny (model prog w) A (pyIter (.ref I)) Q E s
  bind : ∀ i v C (s : Shared) m' (Q : Unit → Shared → Prop) (E : Value → Shared → Prop), P i v s.heap → s.heap.Ns C m' →
    (∀ h' tk m'', h'.Ns C m'' → B i m'' → (∀ c o, c ≠ C → s.heap.get? c = some o → h'.get? c = some o) → Q () { s with heap := h', toks := tk }) → wpAny (model prog w) A (assign target (compEnvC scope cl C env) v) Q E s
  st : St 0 h
  live : ∀ i h, St i h → ∀ b ∈ ws, ∃ o, h.get? b = some o
  kind : ∀ i h, St i h → ∀ b ∈ ws, ∀ o, h.get? b = some o → K o
  own : ∀ b ∈ ws, b ≠ L ∧ h₀.get? b = none
  wrs : ∀ b ∈ wr, b ∈ ws
  fps : ∀ b ∈ fp, b ∈ ws ∨ (∃ o, h₀.get? b = some o) ∨ ∃ o, (b, o) ∈ keep
  off : ∀ p ∈ news, p.1 ∉ ws

def OffC (C D : Addr) (own nw : Ledger) : Prop := ∀ p ∈ nw, p.1 ≠ C ∧ p.1 ≠ D ∧ ∀ q ∈ own, p.1 ≠ q.1
inductive CompY (h₀ : Heap) (L : Addr) (m : Str → Option Value) (s₁ : Shared) (C : Addr) (oC : Obj) (D : Addr) (own : Ledger) (ys : List Value) (J : Ledger → Prop) (s₂ : Shared) : Prop
  | mk (h' : Heap) (tk : Nat) (nw' : Ledger) (es : s₂ = { s₁ with heap := h', toks := tk }) (F : Fr h₀ L h' m) (N : News h₀ L h' ((C, oC) :: (D, lst ys) :: (nw' ++ own))) (off : OffC C D own nw') (hJ : J nw') : CompY h₀ L m s₁ C oC D own ys J s₂

theorem own_of : ∀ (ws : List Addr) (h : Heap), (∀ b ∈ ws, ∃ o, h.get? b = some o) → ∃ own : Ledger, (∀ p ∈ own, p.1 ∈ ws ∧ h.get? p.1 = some p.2) ∧ ∀ b ∈ ws, ∃ o, (b, o) ∈ own
  | [], _, _ => ⟨[], by simp, by simp⟩
  | b :: r, h, hl => by
    obtain ⟨own, h1, h2⟩ := own_of r h fun b hb => hl b (List.mem_cons_of_mem _ hb)
    obtain ⟨o, ho⟩ := hl b List.mem_cons_self
    refine ⟨(b, o) :: own, fun p hp => ?_, fun c hc => ?_⟩
    · rcases List.mem_cons.mp hp with rfl | hp
      · exact ⟨List.mem_cons_self, ho⟩
      · exact ⟨List.mem_cons_of_mem _ (h1 p hp).1, (h1 p hp).2⟩
    · rcases List.mem_cons.mp hc with rfl | hc
      · exact ⟨o, List.mem_cons_self⟩
      · obtain ⟨o', ho'⟩ := h2 c hc
        exact ⟨o', List.mem_cons_of_mem _ ho'⟩

inductive BlkInv (h₀ : Heap) (L : Addr) (m : Str → Option Value) (s₂ : Shared) (n : Nat) (St : Nat → Heap → Prop) (C : Addr) (ws : List Addr) (J : Nat → List Value → Ledger → Prop) (k : Nat) (s' : Shared) : Prop
  | mk (h' : Heap) (tk : Nat) (i : Nat) (ys : List Value) (m' : Str → Option Value) (nw : Ledger) (es : s' = { s₂ with heap := h', toks := tk }) (hi : i ≤ n) (hk : k = n + 1 - i) (hyl : ys.length ≤ i) (hst : St i h') (F : Fr h₀ L h' m) (hn : h'.Ns C m')
      (N : News h₀ L h' ((s₂.heap.objs.size, lst ys) :: nw)) (off : ∀ p ∈ nw, p.1 ≠ C ∧ p.1 ≠ s₂.heap.objs.size ∧ p.1 ∉ ws) (hJ : J i ys nw) : BlkInv h₀ L m s₂ n St C ws J k s'
theorem comp_block {elt target iter : PySem.Expr} {ifs : List PySem.Expr} {scope : Scope} {cl : List (Str × Addr)} {pos : Pos} {s₂ : Shared} {I : Addr} {n : Nat} {B : Nat → (Str → Option Value) → Prop} {keep news : Ledger} {fp wr ws : List Addr} {P Md : Nat → Value → Heap → Prop} {St : Nat → Heap → Prop} {K : Obj → Prop}
    {RR : Value → Addr → Result → Shared → Prop} (hifs : ifs.length ≤ 1)
    (S : Src prog w A target scope cl env h₀ L I n B keep news s₂.heap fp wr ws P Md St K) (hsz : n ≤ sizeLine) (hcell : ∀ y ∈ scope.names, y.2 ≠ .cell) (hkind : scope.kind = .function)
    (F : Fr h₀ L s₂.heap m) (N : News h₀ L s₂.heap news) (J : Nat → List Value → Ledger → Prop) (hkeep : ∀ i ys nw, J i ys nw → ∀ p ∈ keep, p ∈ nw) (hJ0 : J 0 [] news)
    (turn : ∀ i ys nw own C D oC m₂ h tk (E' : Value → Shared → Prop), i < n → B i m₂ → NsObj oC m₂ → J i ys nw → ys.length ≤ i → Fr h₀ L h m → News h₀ L h ((C, oC) :: (D, lst ys) :: (nw ++ own)) → OffC C D own nw → C ≠ D → (∀ q ∈ own, K q.2) →
      Bd prog w A ifs elt (compEnvC scope cl C env) (fun y s' => CompY h₀ L m { s₂ with heap := h, toks := tk } C oC D own ys (J (i + 1) (ys ++ [y])) s') (fun s' => CompY h₀ L m { s₂ with heap := h, toks := tk } C oC D own ys (J (i + 1) ys) s') E' { s₂ with heap := h, toks := tk })
    (hRR : ∀ D C h tk m' ys nw, D = s₂.heap.objs.size → Fr h₀ L h m → News h₀ L h ((D, lst ys) :: nw) → (∀ p ∈ nw, p.1 ≠ D) → h.Ns C m' → h₀.get? C = none → h₀.get? D = none → C ≠ L → D ≠ L → C ≠ D → (∀ p ∈ nw, p.1 ≠ C) → J n ys nw → ys.length ≤ n → RR (.ref D) C (.ok .next) { s₂ with heap := h, toks := tk }) :
    wpAny (model prog w) A (newList []) (fun acc s₃ => wpAny (model prog w) A (newFunctionEnv scope env.globals cl [] env.qual none .none (some env)) (fun cenv s₄ =>
      codeAny (model prog w) A (.compStart (.ListComp elt [⟨target, iter, ifs, 0⟩] scope pos) 0 (.ref I) acc { cenv with scope := relabel scope env }) (RR acc cenv.locals) s₄) E s₃) E s₂ := by
  refine wpAny_newObj_type (wpAny_newFunctionEnv hcell (by intro y hy; simp at hy) (fun h₁ hns₁ hsb₁ => ?_) hkind)
  dsimp only at hns₁ hsb₁ ⊢
  generalize hH2 : s₂.heap.push { cls := .type "list", dict := none, data := .seq ([] : List Value).toArray } = H2 at hns₁ hsb₁ ⊢
  have hC : H2.objs.size = s₂.heap.objs.size + 1 := by rw [← hH2, Heap.size_push]
  have hDC : s₂.heap.objs.size ≠ H2.objs.size := by rw [hC]; exact Nat.ne_of_lt (Nat.lt_succ_self _)
  have below : ∀ b, b < s₂.heap.objs.size → b ≠ H2.objs.size ∧ b ≠ s₂.heap.objs.size := fun b hb => ⟨by rw [hC]; exact Nat.ne_of_lt (Nat.lt_succ_of_lt hb), Nat.ne_of_lt hb⟩
  have hwslt : ∀ b ∈ ws, b < s₂.heap.objs.size := fun b hb => by obtain ⟨o, e⟩ := S.live _ _ S.st b hb; exact Heap.lt_size e
  have old : ∀ b o, s₂.heap.get? b = some o → h₁.get? b = some o := fun b o e => hsb₁.extBut b o (below b (Heap.lt_size e)).1 (Heap.get?_push_of_some _ (hH2 ▸ Heap.get?_push_of_some _ e))
  have hacc : h₁.get? s₂.heap.objs.size = some (lst []) := hsb₁.extBut _ _ hDC (Heap.get?_push_of_some _ (hH2 ▸ Heap.get?_push_size _ rfl))
  have fresh : ∀ a, s₂.heap.objs.size ≤ a → s₂.heap.get? a = none := fun a ha => by
    cases e : s₂.heap.get? a with
    | none => rfl
    | some o' => exact absurd (Heap.lt_size e) (Nat.not_lt.mpr ha)
  have fresh₀ : ∀ a, s₂.heap.objs.size ≤ a → h₀.get? a = none := fun a ha => by
    cases e : h₀.get? a with
    | none => rfl
    | some o' => have := F.keep a o' e; rw [fresh a ha] at this; cases this
  have hD₀ : h₀.get? s₂.heap.objs.size = none := fresh₀ _ (Nat.le_refl _)
  have hC₀ : h₀.get? H2.objs.size = none := fresh₀ _ (by rw [hC]; exact Nat.le_succ _)
  have hLlt : L < s₂.heap.objs.size := F.ns.lt
  have hDL : s₂.heap.objs.size ≠ L := Ne.symm (below L hLlt).2
  have hCL : H2.objs.size ≠ L := Ne.symm (below L hLlt).1
  have fpne : ∀ b ∈ fp, b ≠ s₂.heap.objs.size ∧ b ≠ H2.objs.size := fun b hb => by
    rcases S.fps b hb with hb | ⟨o, e⟩ | ⟨o, e⟩
    · exact ⟨(below b (hwslt b hb)).2, (below b (hwslt b hb)).1⟩
    · exact ⟨fun q => (by rw [q, hD₀] at e; cases e), fun q => (by rw [q, hC₀] at e; cases e)⟩
    · have := Heap.lt_size (N _ (hkeep _ _ _ hJ0 _ e)).1
      exact ⟨(below b this).2, (below b this).1⟩
  have off₀ : ∀ p ∈ news, p.1 ≠ H2.objs.size ∧ p.1 ≠ s₂.heap.objs.size ∧ p.1 ∉ ws := fun p hp => ⟨(below _ (Heap.lt_size (N p hp).1)).1, (below _ (Heap.lt_size (N p hp).1)).2, S.off p hp⟩
  have hst₁ : St 0 h₁ := S.W.frame _ _ _ S.st fun b _ o e => old b o e
  have hLws : L ∉ ws := fun hb => (S.own _ hb).1 rfl
  have loop : ∀ s₃ : Shared, s₃ = { s₂ with heap := h₁, toks := s₂.toks + ([] : List (Str × Value)).length } →
      codeAny (model prog w) A (.compLoop (.ListComp elt [⟨target, iter, ifs, 0⟩] scope pos) 0 (.ref I) (.ref s₂.heap.objs.size) (compEnvC scope cl H2.objs.size env))
        (RR (.ref s₂.heap.objs.size) H2.objs.size) s₃ := by
    rintro s₃ rfl
    refine comp_loop hifs
      (BlkInv h₀ L m s₂ n St H2.objs.size ws J) ?_ (n + 1)
      ⟨h₁, _, 0, [], _, news, rfl, Nat.zero_le _, rfl, Nat.le_refl _, hst₁, F.keeps old, hns₁, fun p hp => ?_, off₀, hJ0⟩
    · rintro k s' ⟨h', tk, i, ys, m', nw, rfl, hi, rfl, hyl, hst', F', hn', N', off', hJ'⟩
      -- a step of the iterator keeps frame and ledger
      have stay : ∀ h₁ : Heap, (∀ b o, b ∉ wr → h'.get? b = some o → h₁.get? b = some o) → Fr h₀ L h₁ m ∧ News h₀ L h₁ ((s₂.heap.objs.size, lst ys) :: nw) ∧ h₁.Ns H2.objs.size m' := fun h₁ hk => by
        refine ⟨⟨F'.ns.at' fun o e => hk _ o (fun hb => hLws (S.wrs _ hb)) e, fun b o e => hk b o (fun hb => ?_) (F'.keep b o e), F'.above⟩, fun p hp => ⟨hk _ _ (fun hb => ?_) (N' p hp).1, (N' p hp).2⟩, hn'.at' fun o e => hk _ o (fun hb => ?_) e⟩
        · have := (S.own _ (S.wrs _ hb)).2; rw [this] at e; cases e
        · rcases List.mem_cons.mp hp with rfl | hp
          · exact Nat.lt_irrefl _ (hwslt _ (S.wrs _ hb))
          · exact (off' p hp).2.2 (S.wrs _ hb)
        · have := hwslt _ (S.wrs _ hb); rw [hC] at this; exact Nat.lt_irrefl _ (Nat.lt_of_succ_lt this)
      by_cases hlt : i < n
      · refine S.W.item i _ _ _ hlt hst' fun v h₂ tk₂ hMd hk₂ => ?_
        refine S.W.go i v _ _ _ hMd fun h₃ hP hst₃ hk₃ => ?_
        obtain ⟨F₃, N₃, hn₃⟩ := stay h₃ fun b o hb e => hk₃ b o hb (hk₂ b o hb e)
        refine S.bind i v _ _ _ _ _ hP hn₃ fun h₄ tk₄ m'' hn₄ hB hs₄ => ?_
        have hst₄ : St (i + 1) h₄ := S.W.frame _ _ _ hst₃ fun b hb o e => hs₄ b o (fpne b hb).2 e
        obtain ⟨own, own1, own2⟩ := own_of ws h₄ (S.live _ _ hst₄)
        obtain ⟨oC, heC, hoC⟩ := ns_obj hn₄
        have F₄ : Fr h₀ L h₄ m := ⟨F₃.ns.at' fun o e => hs₄ _ o (Ne.symm hCL) e, fun c o e => hs₄ c o (fun q => by rw [q, hC₀] at e; cases e) (F₃.keep c o e), F₃.above⟩
        have N₄ : News h₀ L h₄ ((H2.objs.size, oC) :: (s₂.heap.objs.size, lst ys) :: (nw ++ own)) := fun q hq => by
          rcases List.mem_cons.mp hq with rfl | hq
          · exact ⟨heC, hCL, hC₀⟩
          · rcases List.mem_cons.mp hq with rfl | hq
            · have z := N₃ _ List.mem_cons_self
              exact ⟨hs₄ _ _ hDC z.1, z.2⟩
            · rcases List.mem_append.mp hq with hq | hq
              · have z := N₃ _ (List.mem_cons_of_mem _ hq)
                exact ⟨hs₄ _ _ (off' q hq).1 z.1, z.2⟩
              · exact ⟨(own1 q hq).2, S.own _ (own1 q hq).1⟩
        refine Bd.mono (turn i ys nw own H2.objs.size s₂.heap.objs.size oC m'' h₄ _ _ hlt hB hoC hJ' hyl F₄ N₄ (fun p hp => ⟨(off' p hp).1, (off' p hp).2.1, fun q hq e => (off' p hp).2.2 (e ▸ (own1 q hq).1)⟩) (Ne.symm hDC) fun q hq => S.kind _ _ hst₄ q.1 (own1 q hq).1 q.2 (own1 q hq).2) (fun y s₅ h₅ => ?_) (fun s₅ h₅ => ?_)
        all_goals
          obtain ⟨h₅, tk₅, nw₅, rfl, F₅, N₅, off₅, J₅⟩ := h₅
          have zC := (N₅ (H2.objs.size, oC) List.mem_cons_self).1
          have zD := (N₅ (s₂.heap.objs.size, lst ys) (List.mem_cons_of_mem _ List.mem_cons_self)).1
          have N₅' : News h₀ L h₅ nw₅ := fun q hq => N₅ q (List.mem_cons_of_mem _ (List.mem_cons_of_mem _ (List.mem_append_left _ hq)))
          have off5 : ∀ p ∈ nw₅, p.1 ≠ H2.objs.size ∧ p.1 ≠ s₂.heap.objs.size ∧ p.1 ∉ ws := fun p hp => ⟨(off₅ p hp).1, (off₅ p hp).2.1, fun hb => by
            obtain ⟨o, ho⟩ := own2 _ hb
            exact (off₅ p hp).2.2 _ ho rfl⟩
          have hst₅ : St (i + 1) h₅ := S.W.frame _ _ _ hst₄ fun b hb o e => by
            rcases S.fps b hb with hb | ⟨o', e'⟩ | ⟨o', e'⟩
            · obtain ⟨o', ho'⟩ := own2 b hb
              have h1 := (own1 _ ho').2
              rw [h1] at e; cases e
              exact (N₅ _ (List.mem_cons_of_mem _ (List.mem_cons_of_mem _ (List.mem_append_right _ ho')))).1
            · have h1 := F₄.keep b o' e'
              rw [h1] at e; cases e
              exact F₅.keep b _ e'
            · have h1 := (N₄ _ (List.mem_cons_of_mem _ (List.mem_cons_of_mem _ (List.mem_append_left own (hkeep _ _ _ hJ' _ e'))))).1
              rw [h1] at e; cases e
              exact (N₅' _ (hkeep _ _ _ J₅ _ e')).1
        · refine append_at (hsz := by show ys.toArray.size ≤ sizeLine; rw [List.size_toArray]; exact Nat.le_trans hyl (Nat.le_trans hi hsz)) zD fun h₆ hs₆ hD₆ => ?_
          refine ⟨n + 1 - (i + 1), by omega, h₆, tk₅, i + 1, ys ++ [y], _, nw₅, rfl, hlt, rfl, by rw [List.length_append, List.length_singleton]; omega, S.W.frame _ _ _ hst₅ fun b hb o e => hs₆.extBut b o (fpne b hb).1 e, F₅.change hs₆ hDL hD₀,
            (hoC.ns zC).sameBut hs₆ (Ne.symm hDC), fun q hq => ?_, off5, J₅⟩
          rcases List.mem_cons.mp hq with rfl | hq
          · exact ⟨hD₆.trans (congrArg some (lst_snoc ys y)), hDL, hD₀⟩
          · exact ⟨hs₆.extBut _ _ (off5 q hq).2.1 (N₅' q hq).1, (N₅' q hq).2⟩
        · exact ⟨n + 1 - (i + 1), by omega, h₅, tk₅, i + 1, ys, _, nw₅, rfl, hlt, rfl, Nat.le_succ_of_le hyl, hst₅, F₅, hoC.ns zC, fun q hq => by
            rcases List.mem_cons.mp hq with rfl | hq
            · exact ⟨zD, hDL, hD₀⟩
            · exact N₅' q hq, off5, J₅⟩
      · have hin : i = n := Nat.le_antisymm hi (Nat.not_lt.mp hlt)
        subst hin
        refine S.W.done _ _ _ hst' fun h₂ tk₂ hk₂ => ?_
        obtain ⟨F₃, N₃, hn₃⟩ := stay h₂ hk₂
        exact hRR _ _ h₂ tk₂ _ ys nw rfl F₃ N₃ (fun p hp => (off' p hp).2.1) hn₃ hC₀ hD₀ hCL hDL (Ne.symm hDC) (fun p hp => (off' p hp).1) hJ' hyl
    · rcases List.mem_cons.mp hp with rfl | hp
      · exact ⟨hacc, hDL, hD₀⟩
      · exact ⟨old _ _ (N p hp).1, (N p hp).2⟩
  exact codeAny_compStart_list (loop _ rfl) (S.self _ _ _ hst₁ (loop _ rfl))

def CEnd (h₀ : Heap) (L : Addr) (m : Str → Option Value) (Q : Value → Shared → Prop) (s₂ : Shared) (ys : List Value) (nw : Ledger) : Prop :=
  ∀ D h tk, D = s₂.heap.objs.size → Fr h₀ L h m → News h₀ L h ((D, lst ys) :: nw) → (∀ p ∈ nw, p.1 ≠ D) → Q (.ref D) { s₂ with heap := h, toks := tk }
def CEndA (h₀ : Heap) (L : Addr) (m : Str → Option Value) (y : Str) (Q : Flow → Shared → Prop) (s₂ : Shared) (ys : List Value) (nw : Ledger) : Prop :=
  ∀ D h tk, D = s₂.heap.objs.size → Fr h₀ L h (fun z => if z = y then some (.ref D) else m z) → News h₀ L h ((D, lst ys) :: nw) → (∀ p ∈ nw, p.1 ≠ D) → Q .next { s₂ with heap := h, toks := tk }
inductive BlockAt (prog : Program) (w : World) (A : Around) (h₀ : Heap) (L : Addr) (m : Str → Option Value) (env : Env) (elt target : PySem.Expr) (ifs : List PySem.Expr) (scope : Scope) (cl : List (Str × Addr)) (Fin : Shared → List Value → Ledger → Prop) (it : Value) (s₂ : Shared) : Prop
  | mk (I : Addr) (n : Nat) (B : Nat → (Str → Option Value) → Prop) (keep news : Ledger) (fp wr ws : List Addr) (P Md : Nat → Value → Heap → Prop) (St : Nat → Heap → Prop) (K : Obj → Prop) (J : Nat → List Value → Ledger → Prop)
      (hit : it = .ref I) (S : Src prog w A target scope cl env h₀ L I n B keep news s₂.heap fp wr ws P Md St K) (hsz : n ≤ sizeLine) (F : Fr h₀ L s₂.heap m) (N : News h₀ L s₂.heap news)
      (hkeep : ∀ i ys nw, J i ys nw → ∀ p ∈ keep, p ∈ nw) (hJ0 : J 0 [] news)
      (turn : ∀ i ys nw own C D oC m₂ h tk (E' : Value → Shared → Prop), i < n → B i m₂ → NsObj oC m₂ → J i ys nw → ys.length ≤ i → Fr h₀ L h m → News h₀ L h ((C, oC) :: (D, lst ys) :: (nw ++ own)) → OffC C D own nw → C ≠ D → (∀ q ∈ own, K q.2) →
      Bd prog w A ifs elt (compEnvC scope cl C env) (fun y s' => CompY h₀ L m { s₂ with heap := h, toks := tk } C oC D own ys (J (i + 1) (ys ++ [y])) s') (fun s' => CompY h₀ L m { s₂ with heap := h, toks := tk } C oC D own ys (J (i + 1) ys) s') E' { s₂ with heap := h, toks := tk })
      (fin : ∀ ys nw, J n ys nw → ys.length ≤ n → Fin s₂ ys nw) : BlockAt prog w A h₀ L m env elt target ifs scope cl Fin it s₂

theorem comp_eval {elt target iter : PySem.Expr} {ifs : List PySem.Expr} {scope : Scope} {cl : List (Str × Addr)} {pos : Pos} {Q : Value → Shared → Prop} (F₀ : Fr h₀ L s.heap m)
    (hclos : closureFor scope env = pure cl) (hcell : ∀ y ∈ scope.names, y.2 ≠ .cell) (hkind : scope.kind = .function)
    (hnames : ∀ y ∈ scope.names, y.2 = .local → scope.names.lookup y.1 = some .local) (hifs : ifs.length ≤ 1)
    (h : wpAny (model prog w) A (eval iter env) (fun xv s₁ => wpAny (model prog w) A (pyIter xv) (BlockAt prog w A h₀ L m env elt target ifs scope cl (CEnd h₀ L m Q)) E s₁) E s)
    (hs : ∀ x, foldedSetIterable iter env x = pure x := by intro _; rfl) :
    wpAny (model prog w) A (eval (.ListComp elt [⟨target, iter, ifs, 0⟩] scope pos) env) Q E s := by
  rw [eval_ListComp]
  refine wpAny_comprehension_free (use := none) rfl hs hclos hkind hnames (wpAny_mono h (fun xv s₁ h₁ => wpAny_mono h₁ (fun it s₂ h₂ => ?_) fun _ _ e => e) fun _ _ e => e)
  obtain ⟨I, n, B, keep, news, fp, wr, ws, P, Md, St, K, J, rfl, S, hsz, F, N, hkeep, hJ0, turn, fin⟩ := h₂
  refine comp_block hifs S hsz hcell hkind F N J hkeep hJ0 turn ?_
  intro D C h tk m' ys nw eD F' N' o1 hn hC₀ hD₀ hCL hDL hCD offC hJ hl
  refine ⟨m', hn, fun h'' hs'' => fin _ _ hJ hl D h'' tk eD (F'.change hs'' hCL hC₀) (fun p hp => ?_) o1⟩
  refine ⟨hs''.extBut _ _ ?_ (N' p hp).1, (N' p hp).2⟩
  rcases List.mem_cons.mp hp with rfl | hp
  · exact Ne.symm hCD
  · exact offC p hp

theorem comp_assign {elt target iter : PySem.Expr} {ifs : List PySem.Expr} {y : Str} {py : Pos} {scope : Scope} {cl : List (Str × Addr)} {pos spos : Pos} {Q : Flow → Shared → Prop} (F₀ : Fr h₀ L s.heap m) (hLe : env.locals = L)
    (hsw : swapsWith (.ListComp elt [⟨target, iter, ifs, 0⟩] scope pos) (some (.Name y py)) spos.line env = pure true)
    (hclos : closureFor scope env = pure cl) (hcell : ∀ z ∈ scope.names, z.2 ≠ .cell) (hkind : scope.kind = .function)
    (hnames : ∀ z ∈ scope.names, z.2 = .local → scope.names.lookup z.1 = some .local) (hifs : ifs.length ≤ 1)
    (hy : env.kindOf y = some .local) (hp : (env.scope.kind == .class || (env.scope.kind == .module && env.locals != env.globals)) = false)
    (h : wpAny (model prog w) A (eval iter env) (fun xv s₁ => wpAny (model prog w) A (pyIter xv) (BlockAt prog w A h₀ L m env elt target ifs scope cl (CEndA h₀ L m y Q)) E s₁) E s)
    (hs : ∀ x, foldedSetIterable iter env x = pure x := by intro _; rfl) :
    wpAny (model prog w) A (exec (.Assign [.Name y py] (.ListComp elt [⟨target, iter, ifs, 0⟩] scope pos) spos) env) Q E s := by
  subst hLe
  rw [exec_Assign_Name_used _ _ _ _ hsw]
  refine wpAny_bind (wpAny_standAt (wpAny_bind ?_))
  show wpAny _ A (do let _ ← comprehension (.ListComp elt [⟨target, iter, ifs, 0⟩] scope pos) scope env _ (newList []) false (eval iter env) (some (assign (.Name y py) env))) _ _ s
  refine wpAny_bind (wpAny_mono (wpAny_comprehension_free (use := some (assign (.Name y py) env)) (Q := fun _ s' => Q .next s') rfl hs hclos hkind hnames
    (wpAny_mono h (fun xv s₁ h₁ => wpAny_mono h₁ (fun it s₂ h₂ => ?_) fun _ _ e => e) fun _ _ e => e)) (fun _ s' hq => wpAny_pure (wpAny_pure hq)) fun _ _ e => e)
  obtain ⟨I, n, B, keep, news, fp, wr, ws, P, Md, St, K, J, rfl, S, hsz, F, N, hkeep, hJ0, turn, fin⟩ := h₂
  refine comp_block hifs S hsz hcell hkind F N J hkeep hJ0 turn ?_
  intro D C h' tk m' ys nw eD F' N' o1 hn hC₀ hD₀ hCL hDL hCD offC hJ hl
  show wpAny _ A (assign (.Name y py) env (.ref D)) _ _ _
  refine wpAny_assign_Name (wpAny_storeName_local hy F'.ns (fun h₂ hn₂ hs₂ => ?_) hp)
  have hL₀ : h₀.get? env.locals = none := Heap.get?_none_of_le F'.above
  have F₂ : Fr h₀ env.locals h₂ (fun z => if z = y then some (.ref D) else m z) := ⟨hn₂, fun b o e => hs₂.extBut b o (fun q => by rw [q, hL₀] at e; cases e) (F'.keep b o e), F'.above⟩
  refine ⟨m', hn.sameBut hs₂ hCL, fun h'' hs'' => fin _ _ hJ hl D h'' _ eD (F₂.change hs'' hCL hC₀) (fun p hp => ?_) o1⟩
  have z : h₂.get? p.1 = some p.2 := hs₂.extBut _ _ (N' p hp).2.1 (N' p hp).1
  refine ⟨hs''.extBut _ _ ?_ z, (N' p hp).2⟩
  rcases List.mem_cons.mp hp with rfl | hp
  · exact Ne.symm hCD
  · exact offC p hp

/-! targets -/
theorem bind_name {x : Str} {px : Pos} {scope : Scope} {cl : List (Str × Addr)} {P : Nat → Value → Heap → Prop} {B : Nat → (Str → Option Value) → Prop} (hkind : scope.kind = .function) (hx : scope.names.lookup x = some .local) (hB : ∀ i v h m, P i v h → m x = some v → B i m) :
    ∀ i v C (s : Shared) m' (Q : Unit → Shared → Prop) (E : Value → Shared → Prop), P i v s.heap → s.heap.Ns C m' →
    (∀ h' tk m'', h'.Ns C m'' → B i m'' → (∀ c o, c ≠ C → s.heap.get? c = some o → h'.get? c = some o) → Q () { s with heap := h', toks := tk }) → wpAny (model prog w) A (assign (.Name x px) (compEnvC scope cl C env) v) Q E s := by
  intro i v C s m' Q E hP hn h
  exact wpAny_assign_Name (wpAny_storeName_local (env := compEnvC scope cl C env) (lookup_relabel_local hx) hn (fun h₃ hn₃ hs₃ => h h₃ _ _ hn₃ (hB i v _ _ hP (by simp)) fun c o hc e => hs₃.extBut c o hc e) (by simp [compEnvC, relabel, hkind]))
theorem bind_pair {a b : Str} {pa pb tp : Pos} {kk : Nat} {scope : Scope} {cl : List (Str × Addr)} {P : Nat → Value → Heap → Prop} {B : Nat → (Str → Option Value) → Prop} (hh : A.handled = none) (hkind : scope.kind = .function) (hxa : scope.names.lookup a = some .local) (hxb : scope.names.lookup b = some .local) (hab : ¬ a = b)
    (hP : ∀ i v h, P i v h → ∃ T x y, v = .ref T ∧ h.IsTuple T #[x, y] ∧ ∀ m, m a = some x → m b = some y → B i m) :
    ∀ i v C (s : Shared) m' (Q : Unit → Shared → Prop) (E : Value → Shared → Prop), P i v s.heap → s.heap.Ns C m' →
    (∀ h' tk m'', h'.Ns C m'' → B i m'' → (∀ c o, c ≠ C → s.heap.get? c = some o → h'.get? c = some o) → Q () { s with heap := h', toks := tk }) → wpAny (model prog w) A (assign (.Tuple [.Name a pa, .Name b pb] kk tp) (compEnvC scope cl C env) v) Q E s := by
  intro i v C s m' Q E hPv hn h
  obtain ⟨T, x, y, rfl, hT, hB⟩ := hP _ _ _ hPv
  exact kcp_assign (env := compEnvC scope cl C env) hh hT (lookup_relabel_local hxa) (lookup_relabel_local hxb) (by simp [compEnvC, relabel, hkind]) hn fun h₄ tk₄ hn₄ hs₄ => h h₄ tk₄ _ hn₄ (hB _ (by simp [hab]) (by simp)) hs₄
end
end Mine
end

section
open PySem PySem.W PyProof.Rows PySem.Calls PySem.Spec PyProof.Rows.LCg
namespace Mine
abbrev TurnOf (prog : Program) (w : World) (A : Around) (h₀ : Heap) (L : Addr) (m : Str → Option Value) (env : Env) (elt : PySem.Expr) (ifs : List PySem.Expr) (scope : Scope) (cl : List (Str × Addr)) (n : Nat) (B : Nat → (Str → Option Value) → Prop) (J : Nat → List Value → Ledger → Prop) (s : Shared) (K : Obj → Prop := fun _ => True) : Prop :=
  ∀ i ys nw own C D oC m₂ h tk (E' : Value → Shared → Prop), i < n → B i m₂ → NsObj oC m₂ → J i ys nw → ys.length ≤ i → Fr h₀ L h m → News h₀ L h ((C, oC) :: (D, lst ys) :: (nw ++ own)) → OffC C D own nw → C ≠ D → (∀ q ∈ own, K q.2) →
      Bd prog w A ifs elt (compEnvC scope cl C env) (fun y s' => CompY h₀ L m { s with heap := h, toks := tk } C oC D own ys (J (i + 1) (ys ++ [y])) s') (fun s' => CompY h₀ L m { s with heap := h, toks := tk } C oC D own ys (J (i + 1) ys) s') E' { s with heap := h, toks := tk }
section
variable {prog : Program} {w : World} {A : Around} {E : Value → Shared → Prop} {s : Shared} {h₀ : Heap} {L : Addr} {m : Str → Option Value} {env : Env} {elt : PySem.Expr} {ifs : List PySem.Expr} {scope : Scope} {cl : List (Str × Addr)} {Fin : Shared → List Value → Ledger → Prop} {keep news : Ledger} {J : Nat → List Value → Ledger → Prop}
theorem TurnOf.heap {n : Nat} {B : Nat → (Str → Option Value) → Prop} (h : TurnOf prog w A h₀ L m env elt ifs scope cl n B J s) (g : Heap) (t : Nat) : TurnOf prog w A h₀ L m env elt ifs scope cl n B J { s with heap := g, toks := t } := h

theorem src_enum {a b : Str} {pa pb tp : Pos} {kk : Nat} {e it : Addr} {fp : List Addr} {n : Nat} {P : Nat → Value → Prop} {St : Nat → Heap → Prop} {old : Value}
    (D : Draws prog w A.in1 it fp n P St) (hh : A.handled = none) (hei : e ≠ it) (hef : e ∉ fp) (hif : it ∈ fp)
    (hkind : scope.kind = .function) (hxa : scope.names.lookup a = some .local) (hxb : scope.names.lookup b = some .local) (hab : ¬ a = b) (hsz : n ≤ sizeLine)
    (he : IsEnum s.heap e it 0 old) (hst : St 0 s.heap)
    (hfp : ∀ b ∈ fp, b = it ∨ (∃ o, h₀.get? b = some o) ∨ ∃ o, (b, o) ∈ keep)
    (hown : ∀ b, b = e ∨ b = it → b ≠ L ∧ h₀.get? b = none) (off : ∀ p ∈ news, p.1 ≠ e ∧ p.1 ≠ it)
    (F : Fr h₀ L s.heap m) (N : News h₀ L s.heap news) (hkeep : ∀ i ys nw, J i ys nw → ∀ p ∈ keep, p ∈ nw) (hJ0 : J 0 [] news)
    (turn : TurnOf prog w A h₀ L m env elt ifs scope cl n (fun i m₂ => ∃ t x, P i x ∧ m₂ a = some (.int i t) ∧ m₂ b = some x) J s)
    (fin : ∀ ys nw, J n ys nw → ys.length ≤ n → Fin s ys nw) :
    wpAny (model prog w) A (pyIter (.ref e)) (BlockAt prog w A h₀ L m env elt (.Tuple [.Name a pa, .Name b pb] kk tp) ifs scope cl Fin) E s := by
  have W := (WalksT.enumerateD D e hei hef hif).toU
  refine wpAny_pyIter_enum he ?_
  refine ⟨e, n, _, keep, news, e :: fp, [e, it], [e, it], _, _, _, (fun _ => True), J, rfl, ⟨KTurns.ofWalksU W, fun s Q E st q => W.self 0 s Q E st q, bind_pair (P := fun i v h => ∃ T vals, v = .ref T ∧ (∃ t x, P i x ∧ vals = #[.int i t, x]) ∧ h.IsTuple T vals) (B := fun i m₂ => ∃ t x, P i x ∧ m₂ a = some (.int i t) ∧ m₂ b = some x) hh hkind hxa hxb hab ?_, ⟨⟨old, he⟩, hst⟩, ?_, fun _ _ _ _ _ _ _ => trivial, ?_, fun b hb => hb, ?_, ?_⟩, hsz, F, N, hkeep, hJ0, turn, fin⟩
  · rintro i v h ⟨T, vals, rfl, ⟨t, x, hP, rfl⟩, hT⟩
    exact ⟨T, _, x, rfl, hT, fun m h1 h2 => ⟨t, x, hP, h1, h2⟩⟩
  · rintro i h ⟨⟨old, he⟩, st⟩ b hb
    rcases List.mem_cons.mp hb with rfl | hb
    · exact ⟨_, he⟩
    · rw [List.mem_singleton.mp hb]; exact D.live _ _ st
  · intro b hb
    exact hown b (by simpa using hb)
  · intro b hb
    rcases List.mem_cons.mp hb with rfl | hb
    · exact .inl (by simp)
    · rcases hfp b hb with rfl | h
      · exact .inl (by simp)
      · exact .inr h
  · intro p hp hb
    obtain ⟨h1, h2⟩ := off p hp
    rcases List.mem_cons.mp hb with e | hb
    · exact h1 e
    · exact h2 (List.mem_singleton.mp hb)

theorem src_zip {a b : Str} {pa pb tp : Pos} {kk : Nat} {z TI TO i1 i2 : Addr} {fp1 fp2 : List Addr} {n1 n2 : Nat} {P1 P2 : Nat → Value → Prop} {St1 St2 : Nat → Heap → Prop} {v1 v2 : Value}
    (D : ZipOff z TI TO i1 i2 fp1 fp2) (D1 : Draws prog w A.in1 i1 fp1 n1 P1 St1) (D2 : Draws prog w A.in1 i2 fp2 n2 P2 St2) (hlt : n2 < n1) (hh : A.handled = none)
    (hkind : scope.kind = .function) (hxa : scope.names.lookup a = some .local) (hxb : scope.names.lookup b = some .local) (hab : ¬ a = b) (hsz : n2 ≤ sizeLine)
    (hz : IsZip s.heap z TI TO .none) (hTI : IsPair s.heap TI (.ref i1) (.ref i2)) (hTO : IsPair s.heap TO v1 v2) (hst1 : St1 0 s.heap) (hst2 : St2 0 s.heap)
    (hfp1 : ∀ b ∈ fp1, b = i1 ∨ (∃ o, h₀.get? b = some o) ∨ ∃ o, (b, o) ∈ keep) (hfp2 : ∀ b ∈ fp2, b = i2 ∨ (∃ o, h₀.get? b = some o) ∨ ∃ o, (b, o) ∈ keep)
    (hown : ∀ b ∈ [z, TI, TO, i1, i2], b ≠ L ∧ h₀.get? b = none) (off : ∀ p ∈ news, p.1 ∉ [z, TI, TO, i1, i2])
    (F : Fr h₀ L s.heap m) (N : News h₀ L s.heap news) (hkeep : ∀ i ys nw, J i ys nw → ∀ p ∈ keep, p ∈ nw) (hJ0 : J 0 [] news)
    (turn : TurnOf prog w A h₀ L m env elt ifs scope cl n2 (fun i m₂ => ∃ x y, P1 i x ∧ P2 i y ∧ m₂ a = some x ∧ m₂ b = some y) J s)
    (fin : ∀ ys nw, J n2 ys nw → ys.length ≤ n2 → Fin s ys nw) :
    wpAny (model prog w) A (pyIter (.ref z)) (BlockAt prog w A h₀ L m env elt (.Tuple [.Name a pa, .Name b pb] kk tp) ifs scope cl Fin) E s := by
  have W := zipWalks hh D D1 D2 hlt
  refine wpAny_pyIter_zip hz ?_
  refine ⟨z, n2, _, keep, news, _, _, [z, TI, TO, i1, i2], _, _, _, (fun _ => True), J, rfl, ⟨KTurns.ofWalksU W, fun s Q E st q => W.self 0 s Q E st q, bind_pair (P := fun i v h => ∃ T vals, v = .ref T ∧ (∃ x y, P1 i x ∧ P2 i y ∧ vals = #[x, y]) ∧ h.IsTuple T vals) (B := fun i m₂ => ∃ x y, P1 i x ∧ P2 i y ∧ m₂ a = some x ∧ m₂ b = some y) hh hkind hxa hxb hab ?_, ⟨hz, hTI, ⟨_, _, hTO⟩, hst1, hst2⟩, ?_, fun _ _ _ _ _ _ _ => trivial, hown, ?_, ?_, off⟩, hsz, F, N, hkeep, hJ0, turn, fin⟩
  · rintro i v h ⟨T, vals, rfl, ⟨x, y, hP1, hP2, rfl⟩, hT⟩
    exact ⟨T, x, y, rfl, hT, fun m h1 h2 => ⟨x, y, hP1, hP2, h1, h2⟩⟩
  · rintro i h ⟨hz, hTI, ⟨_, _, hTO⟩, h1, h2⟩ b hb
    simp only [List.mem_cons, List.not_mem_nil, or_false] at hb
    rcases hb with rfl | rfl | rfl | rfl | rfl
    · exact ⟨_, hz⟩
    · exact ⟨_, hTI⟩
    · exact ⟨_, hTO⟩
    · exact D1.live _ _ h1
    · exact D2.live _ _ h2
  · intro b hb
    simp only [List.mem_cons, List.not_mem_nil, or_false] at hb ⊢
    rcases hb with rfl | rfl | rfl | rfl <;> simp
  · intro b hb
    simp only [List.mem_cons, List.mem_append, List.not_mem_nil, or_false] at hb ⊢
    rcases hb with rfl | rfl | rfl | hb | hb
    · simp
    · simp
    · simp
    · rcases hfp1 b hb with rfl | h
      · simp
      · exact .inr h
    · rcases hfp2 b hb with rfl | h
      · simp
      · exact .inr h

theorem src_range {x : Str} {px : Pos} {r : Addr} {a b : Int} {t u v : Tok} {n : Nat} (hh : A.handled = none)
    (hkind : scope.kind = .function) (hx : scope.names.lookup x = some .local) (hsz : n ≤ sizeLine)
    (hr : IsRange s.heap r a b 1 t u v) (hsm : Builtin.Range.small a b 1 = true) (hn : Builtin.Range.rangeSize a b 1 = ((n : Nat) : Int))
    (F : Fr h₀ L s.heap m) (N : News h₀ L s.heap news) (hJ0 : J 0 [] news)
    (turn : TurnOf prog w A h₀ L m env elt ifs scope cl n (fun i m₂ => ∃ t, m₂ x = some (.int (a + (i : Int)) t)) J s)
    (fin : ∀ g ys nw, (∀ p ∈ news, p.1 < g.objs.size) → J n ys nw → ys.length ≤ n → Fin { s with heap := g } ys nw) :
    wpAny (model prog w) A (pyIter (.ref r)) (BlockAt prog w A h₀ L m env elt (.Name x px) ifs scope cl Fin) E s := by
  refine wpAny_pyIter_range hr hsm ?_
  have up : ∀ b' o, s.heap.get? b' = some o → (s.heap.push { cls := .type "range_iterator", data := .fields #[rawInt a, rawInt (Builtin.Range.rangeSize a b 1), rawInt 1] }).get? b' = some o := fun b' o e => Heap.get?_push_of_some _ e
  have W := LCg.range_walks (prog := prog) (w := w) (I := s.heap.objs.size) hh a n
  refine ⟨s.heap.objs.size, n, _, [], news, _, _, [s.heap.objs.size], _, _, _, (fun _ => True), J, rfl, ⟨KTurns.ofWalks W fun i v s Q E st q => wpAny_pure q, fun s Q E st q => W.self 0 s Q E st q, bind_name (P := fun i v _ => ∃ t, v = .int (a + (i : Int)) t) (B := fun i m₂ => ∃ t, m₂ x = some (.int (a + (i : Int)) t)) hkind hx ?_, (by show IsRangeIter _ _ _ _ _; rw [hn]; simpa using Heap.get?_push_size _ rfl), ?_, fun _ _ _ _ _ _ _ => trivial, ?_, fun b hb => hb, fun b hb => .inl hb, ?_⟩, hsz, F.push _, (fun p hp => ⟨up _ _ (N p hp).1, (N p hp).2⟩), (fun _ _ _ _ p hp => nomatch hp), hJ0, turn, fun ys nw => fin _ ys nw fun p hp => Heap.lt_size (up _ _ (N p hp).1)⟩
  · rintro i v h m ⟨t, rfl⟩ hm
    exact ⟨t, hm⟩
  · intro i h st b hb
    rw [List.mem_singleton.mp hb]
    exact ⟨_, st⟩
  · intro b hb
    rw [List.mem_singleton.mp hb]
    exact ⟨Ne.symm (Nat.ne_of_lt F.ns.lt), next_is_new F⟩
  · intro p hp hb
    exact Nat.ne_of_lt (Heap.lt_size (N p hp).1) (List.mem_singleton.mp hb)

theorem src_list {x : Str} {px : Pos} {l : Addr} {k : Nat} {vs : List Value} (hh : A.handled = none)
    (hkind : scope.kind = .function) (hx : scope.names.lookup x = some .local) (hsz : vs.length ≤ sizeLine)
    (hm : (l, W.listOf vs.toArray k) ∈ news)
    (F : Fr h₀ L s.heap m) (N : News h₀ L s.heap news) (hkeep : ∀ i ys nw, J i ys nw → (l, W.listOf vs.toArray k) ∈ nw) (hJ0 : J 0 [] news)
    (turn : TurnOf prog w A h₀ L m env elt ifs scope cl vs.length (fun i m₂ => ∃ v, vs[i]? = some v ∧ m₂ x = some v) J s (fun o => o.cls = .type "list_iterator"))
    (fin : ∀ g ys nw, (∀ p ∈ news, p.1 < g.objs.size) → J vs.length ys nw → ys.length ≤ vs.length → Fin { s with heap := g } ys nw) :
    wpAny (model prog w) A (pyIter (.ref l)) (BlockAt prog w A h₀ L m env elt (.Name x px) ifs scope cl Fin) E s := by
  have hls := N.isList hm
  have hlt : l < s.heap.objs.size := Heap.lt_size (N _ hm).1
  refine wpAny_pyIter_list hls ?_
  have up : ∀ b o, s.heap.get? b = some o → (s.heap.push { cls := .type "list_iterator", data := .fields #[.ref l, .int 0 0] }).get? b = some o := fun b o e => Heap.get?_push_of_some _ e
  have WW := Walks.list (prog := prog) (w := w) hh s.heap.objs.size l (Nat.ne_of_lt hlt) vs.toArray
  refine ⟨s.heap.objs.size, vs.length, _, [(l, W.listOf vs.toArray k)], news, _, _, [s.heap.objs.size], _, _, _, (fun o => o.cls = .type "list_iterator"), J, rfl, ⟨KTurns.ofWalks WW fun i v s Q E st q => wpAny_pure q, fun s Q E st q => WW.self 0 s Q E st q, bind_name (P := fun i v _ => vs.toArray[i]? = some v) (B := fun i m₂ => ∃ v, vs[i]? = some v ∧ m₂ x = some v) hkind hx ?_, ⟨⟨_, Heap.get?_push_size _ rfl, rfl, rfl⟩, hls.at fun o e => up _ _ e⟩, ?_, ?kindd, ?_, fun b hb => hb, ?_, ?_⟩, hsz, F.push _, (fun p hp => ⟨up _ _ (N p hp).1, (N p hp).2⟩), (fun i ys nw hj p hp => by rw [List.mem_singleton.mp hp]; exact hkeep i ys nw hj), hJ0, turn, fun ys nw => fin _ ys nw fun p hp => Heap.lt_size (up _ _ (N p hp).1)⟩
  case kindd =>
    intro i h st b hb o ho
    rw [List.mem_singleton.mp hb] at ho
    obtain ⟨o', e', c, _⟩ := st.1
    rw [e'] at ho
    exact (Option.some.inj ho) ▸ c
  · rintro i v h m hP hm
    exact ⟨v, by simpa using hP, hm⟩
  · intro i h st b hb
    rw [List.mem_singleton.mp hb]
    obtain ⟨o, e, _⟩ := st.1
    exact ⟨o, e⟩
  · intro b hb
    rw [List.mem_singleton.mp hb]
    exact ⟨Ne.symm (Nat.ne_of_lt F.ns.lt), next_is_new F⟩
  · intro b hb
    rcases List.mem_cons.mp hb with rfl | hb
    · exact .inl (by simp)
    · rw [List.mem_singleton.mp hb]; exact .inr (.inr ⟨_, List.mem_cons_self⟩)
  · intro p hp hb
    exact Nat.ne_of_lt (Heap.lt_size (N p hp).1) (List.mem_singleton.mp hb)

/-- a list of pairs -/
theorem src_pairs {a b : Str} {pa pb tp : Pos} {kk : Nat} {l : Addr} {k : Nat} {vs : List Value} {ts : Ledger} (hh : A.handled = none)
    (hkind : scope.kind = .function) (hxa : scope.names.lookup a = some .local) (hxb : scope.names.lookup b = some .local) (hab : ¬ a = b) (hsz : vs.length ≤ sizeLine)
    (hm : (l, W.listOf vs.toArray k) ∈ news) (hts : ∀ p ∈ ts, p ∈ news) (hvs : ∀ v ∈ vs, ∃ T x y n, v = .ref T ∧ (T, ({ cls := .type "tuple", data := .seq #[x, y] n } : Obj)) ∈ ts)
    (F : Fr h₀ L s.heap m) (N : News h₀ L s.heap news) (hkeep : ∀ i ys nw, J i ys nw → (l, W.listOf vs.toArray k) ∈ nw ∧ ∀ p ∈ ts, p ∈ nw) (hJ0 : J 0 [] news)
    (turn : TurnOf prog w A h₀ L m env elt ifs scope cl vs.length (fun i m₂ => ∃ T x y n, vs[i]? = some (.ref T) ∧ (T, ({ cls := .type "tuple", data := .seq #[x, y] n } : Obj)) ∈ ts ∧ m₂ a = some x ∧ m₂ b = some y) J s)
    (fin : ∀ g ys nw, (∀ p ∈ news, p.1 < g.objs.size) → J vs.length ys nw → ys.length ≤ vs.length → Fin { s with heap := g } ys nw) :
    wpAny (model prog w) A (pyIter (.ref l)) (BlockAt prog w A h₀ L m env elt (.Tuple [.Name a pa, .Name b pb] kk tp) ifs scope cl Fin) E s := by
  have hls := N.isList hm
  have hlt : l < s.heap.objs.size := Heap.lt_size (N _ hm).1
  refine wpAny_pyIter_list hls ?_
  have up : ∀ b o, s.heap.get? b = some o → (s.heap.push { cls := .type "list_iterator", data := .fields #[.ref l, .int 0 0] }).get? b = some o := fun b o e => Heap.get?_push_of_some _ e
  have hnI : ∀ p ∈ ts, p.1 ∉ [s.heap.objs.size] := fun p hp hb => Nat.ne_of_lt (Heap.lt_size (N p (hts p hp)).1) (List.mem_singleton.mp hb)
  have WW := Walks.list (prog := prog) (w := w) hh s.heap.objs.size l (Nat.ne_of_lt hlt) vs.toArray
  have K : KTurns prog w A (.Tuple [.Name a pa, .Name b pb] kk tp) s.heap.objs.size (s.heap.objs.size :: l :: ts.map Prod.fst) [s.heap.objs.size] vs.length (fun i v h => vs.toArray[i]? = some v ∧ ∀ p ∈ ts, h.get? p.1 = some p.2)
      (fun i v h => vs.toArray[i]? = some v ∧ (h.IsListIter s.heap.objs.size l (i + 1) ∧ h.IsList l vs.toArray) ∧ ∀ p ∈ ts, h.get? p.1 = some p.2) (fun i h => (h.IsListIter s.heap.objs.size l i ∧ h.IsList l vs.toArray) ∧ ∀ p ∈ ts, h.get? p.1 = some p.2) :=
    { sub := fun b hb => by rw [List.mem_singleton.mp hb]; exact List.mem_cons_self
      frame := fun i h h' st hk => ⟨WW.frame _ _ _ st.1 fun b hb o e => hk b (by rcases List.mem_cons.mp hb with rfl | hb; exact List.mem_cons_self; rw [List.mem_singleton.mp hb]; exact List.mem_cons_of_mem _ List.mem_cons_self) o e, fun p hp => hk _ (List.mem_cons_of_mem _ (List.mem_cons_of_mem _ (List.mem_map_of_mem hp))) _ (st.2 p hp)⟩
      item := fun i s Q E hi st hQ => WW.item i s Q E hi st.1 fun v h' tk hP st' hk => hQ v h' tk ⟨hP, st', fun p hp => hk _ _ (hnI p hp) (st.2 p hp)⟩ hk
      go := fun i v s Q E hm hQ => by
        obtain ⟨T, x, y, n, rfl, _⟩ := hvs v (List.mem_of_getElem? (by simpa using hm.1))
        exact wpAny_letOwnedTupleGo_listiter hm.2.1.1 (hQ s.heap ⟨hm.1, hm.2.2⟩ ⟨hm.2.1, hm.2.2⟩ fun _ _ _ e => e)
      done := fun s Q E st hQ => WW.done s Q E st.1 hQ }
  refine ⟨s.heap.objs.size, vs.length, _, (l, W.listOf vs.toArray k) :: ts, news, _, _, [s.heap.objs.size], _, _, _, (fun _ => True), J, rfl, ⟨K, fun s Q E st q => WW.self 0 s Q E st.1 q, bind_pair (P := fun i v h => vs.toArray[i]? = some v ∧ ∀ p ∈ ts, h.get? p.1 = some p.2) (B := fun i m₂ => ∃ T x y n, vs[i]? = some (.ref T) ∧ (T, ({ cls := .type "tuple", data := .seq #[x, y] n } : Obj)) ∈ ts ∧ m₂ a = some x ∧ m₂ b = some y) hh hkind hxa hxb hab ?_, ⟨⟨⟨_, Heap.get?_push_size _ rfl, rfl, rfl⟩, hls.at fun o e => up _ _ e⟩, fun p hp => up _ _ (N p (hts p hp)).1⟩, ?_, fun _ _ _ _ _ _ _ => trivial, ?_, fun b hb => hb, ?_, ?_⟩, hsz, F.push _, (fun p hp => ⟨up _ _ (N p hp).1, (N p hp).2⟩), (fun i ys nw hj p hp => by
      rcases List.mem_cons.mp hp with rfl | hp
      · exact (hkeep i ys nw hj).1
      · exact (hkeep i ys nw hj).2 p hp), hJ0, turn, fun ys nw => fin _ ys nw fun p hp => Heap.lt_size (up _ _ (N p hp).1)⟩
  · rintro i v h ⟨hP, hk⟩
    have hP' : vs[i]? = some v := by simpa using hP
    obtain ⟨T, x, y, n, rfl, hT⟩ := hvs v (List.mem_of_getElem? hP')
    exact ⟨T, x, y, rfl, ⟨_, hk _ hT, rfl, _, rfl⟩, fun m h1 h2 => ⟨T, x, y, n, hP', hT, h1, h2⟩⟩
  · intro i h st b hb
    rw [List.mem_singleton.mp hb]
    obtain ⟨o, e, _⟩ := st.1.1
    exact ⟨o, e⟩
  · intro b hb
    rw [List.mem_singleton.mp hb]
    exact ⟨Ne.symm (Nat.ne_of_lt F.ns.lt), next_is_new F⟩
  · intro b hb
    rcases List.mem_cons.mp hb with rfl | hb
    · exact .inl (by simp)
    · rcases List.mem_cons.mp hb with rfl | hb
      · exact .inr (.inr ⟨_, List.mem_cons_self⟩)
      · obtain ⟨p, hp, rfl⟩ := List.mem_map.mp hb
        exact .inr (.inr ⟨p.2, List.mem_cons_of_mem _ hp⟩)
  · intro p hp hb
    exact Nat.ne_of_lt (Heap.lt_size (N p hp).1) (List.mem_singleton.mp hb)
theorem CompY.const {s₁ : Shared} {C D : Addr} {oC : Obj} {own nw all : Ledger} {ys : List Value} {P : Prop} {h' : Heap} {tk : Nat} (F' : Fr h₀ L h' m) (N' : News h₀ L h' all) (sub : ∀ p ∈ (C, oC) :: (D, lst ys) :: (nw ++ own), p ∈ all) (off : OffC C D own nw) (R : P) :
    CompY h₀ L m s₁ C oC D own ys (fun nw' => nw' = nw ∧ P) { s₁ with heap := h', toks := tk } := ⟨h', tk, nw, rfl, F', fun p hp => N' p (sub p hp), off, rfl, R⟩
theorem CompY.push {s₁ : Shared} {C D a : Addr} {oC o : Obj} {own nw nwF : Ledger} {ys : List Value} {J : Ledger → Prop} {h' : Heap} {tk : Nat} (F' : Fr h₀ L h' m) (N' : News h₀ L h' nwF) (sub : ∀ p ∈ (C, oC) :: (D, lst ys) :: (nw ++ own), p ∈ nwF)
    (hm : (a, o) ∈ nwF) (hf : ∀ p ∈ (C, oC) :: (D, lst ys) :: (nw ++ own), p.1 < a) (off : OffC C D own nw) (nw' : Ledger) (hnw : ∀ p ∈ nw', p = (a, o) ∨ p ∈ nw) (hJ : J nw') :
    CompY h₀ L m s₁ C oC D own ys J { s₁ with heap := h', toks := tk } := by
  refine ⟨h', tk, nw', rfl, F', fun p hp => N' p ?_, fun p hp => ?_, hJ⟩
  · rcases List.mem_cons.mp hp with rfl | hp
    · exact sub _ List.mem_cons_self
    · rcases List.mem_cons.mp hp with rfl | hp
      · exact sub _ (List.mem_cons_of_mem _ List.mem_cons_self)
      · rcases List.mem_append.mp hp with hp | hp
        · rcases hnw p hp with rfl | hp
          · exact hm
          · exact sub _ (List.mem_cons_of_mem _ (List.mem_cons_of_mem _ (List.mem_append_left _ hp)))
        · exact sub _ (List.mem_cons_of_mem _ (List.mem_cons_of_mem _ (List.mem_append_right _ hp)))
  · rcases hnw p hp with rfl | hp
    · exact ⟨Nat.ne_of_gt (hf (C, oC) List.mem_cons_self), Nat.ne_of_gt (hf (D, lst ys) (List.mem_cons_of_mem _ List.mem_cons_self)), fun q hq => Nat.ne_of_gt (hf q (List.mem_cons_of_mem _ (List.mem_cons_of_mem _ (List.mem_append_right _ hq))))⟩
    · exact off p hp
theorem new_at {h : Heap} {b : Addr} (F : Fr h₀ L h m) (hb : h.objs.size ≤ b) : h₀.get? b = none := ktu_new F hb
theorem news_lt {h : Heap} {nw : Ledger} (N : News h₀ L h nw) : ∀ p ∈ nw, p.1 < h.objs.size := fun p hp => Heap.lt_size (N p hp).1
theorem news_sub {h : Heap} {nw nw' : Ledger} (N : News h₀ L h nw) (hs : ∀ p ∈ nw', p ∈ nw) : News h₀ L h nw' := fun p hp => N p (hs p hp)
end
abbrev JC (news : Ledger) (R : Nat → List Value → Prop) : Nat → List Value → Ledger → Prop := fun i ys nw => nw = news ∧ R i ys
theorem intsGet {items : Array Value} {x : Value} {i : Nat} (h : items[i]? = some x) (ha : items.toList.all (fun v => match v with | .int _ _ => true | _ => false) = true) : ∃ a t, x = .int a t := by
  have := List.all_eq_true.mp ha x (Array.mem_toList_iff.mpr (Array.mem_of_getElem? h))
  cases x <;> first | exact ⟨_, _, rfl⟩ | simp at this
end Mine
end

section
open PySem PySem.W PyProof.Rows PySem.Calls PySem.Spec PyProof.Rows.LCg
namespace Mine
def keyText (e : DictEntry) : Str := match e.key with | .str x _ => x | _ => ""
theorem pairs_lit (prog : Program) (w : World) : ∀ {es : List DictEntry}, KeysLit w.params es → Pairs (PySem.strKind prog w) es (es.map fun e => (keyText e, e.val))
  | [], _ => .nil
  | e :: r, ⟨⟨x, t, h1, h2⟩, h⟩ => by
    refine .cons ?_ rfl (pairs_lit prog w h)
    show (PySem.strKind prog w).is (keyText e) e.key = true
    unfold keyText
    rw [h1]
    exact strKind_is prog w x t
theorem dict_lit {prog : Program} {w : World} {h : Heap} {a : Addr} {es : Array DictEntry} {ep : Nat} (hg : h.get? a = some ⟨.type "dict", none, .dict es ep, #[]⟩) (hk : KeysLit w.params es.toList) (hnd : (es.toList.map keyText).Nodup) :
    h.DictOf (PySem.strKind prog w) a (es.toList.map fun e => (keyText e, e.val)) :=
  ⟨_, es, ep, hg, ⟨rfl, rfl, rfl⟩, rfl, fun e he => by
    obtain ⟨x, t, e1, e2⟩ := hk.all e (Array.mem_toList_iff.mpr he)
    exact ⟨x, by rw [e1]; exact strKind_is prog w x t, e2⟩, pairs_lit prog w hk, by rw [List.map_map]; exact hnd⟩
section
variable {prog : Program} {w : World} {A : Around} {E : Value → Shared → Prop} {s : Shared} {h₀ : Heap} {L : Addr} {m : Str → Option Value} {news : Ledger}
theorem ints_vals : ∀ (q : List Int) (i : Nat) (t : Nat → Tok), IntsAre (lks_vals q i t) q
  | [], _, _ => .nil
  | a :: r, i, t => .cons a (t i) (ints_vals r (i + 1) t)
theorem values_method {a : Addr} {kvs : List (Str × Value)} {pl : Sem Bool} {Q : Value × List Value → Shared → Prop} (hD : s.heap.DictOf (PySem.strKind prog w) a kvs) (h : Q (.builtin "dict.values", [.ref a]) s) :
    wpAny (model prog w) A (getMethod (.ref a) "values" pl) Q E s :=
  getMethod_builtin hD.typeIs PySem.F.plainAttrs_dict PySem.F.slot_dict_values PySem.F.type_dict_values hD.mapOf.noDict h
theorem values_call {a : Addr} {kvs : List (Str × Value)} {R : Value → Shared → Prop} (F : Fr h₀ L s.heap m) (N : News h₀ L s.heap news) (hD : s.heap.DictOf (PySem.strKind prog w) a kvs) (lo : (a == sysModules) = false)
    (h : ∀ v h', (∃ nv, nv = v ∧ h'.IsValuesView v a) → Fr h₀ L h' m → News h₀ L h' news → h'.DictOf (PySem.strKind prog w) a kvs → R (.ref v) { s with heap := h' }) : wpAny (model prog w) A (call (.builtin "dict.values") [.ref a]) R E s :=
  call_meetsIn PySem.F.slot_dict_values hD.typeIs PySem.F.entry_dict_values (PySem.F.args_dict_values_1 _) (meets_dict_values _ a lo) ⟨⟨kvs, hD⟩, h _ _ ⟨_, rfl, ⟨_, Heap.get?_push_size _ rfl, rfl, rfl⟩⟩ (F.push _) (fun p hp => ⟨Heap.get?_push_of_some _ (N p hp).1, (N p hp).2⟩)
    (by obtain ⟨o, es, ep, ho, r⟩ := hD; exact ⟨o, es, ep, Heap.get?_push_of_some _ ho, r⟩)⟩
theorem values_sorted {v a : Addr} {kvs : List (Str × Value)} {q : List Int} {Q : Value → Shared → Prop} (hh : A.handled = none) (F : Fr h₀ L s.heap m) (N : News h₀ L s.heap news) (hv : s.heap.IsValuesView v a) (hD : s.heap.DictOf (PySem.strKind prog w) a kvs)
    (hi : kf_ints (kvs.map (·.2)) = true) (hq : lks_ok (kvs.map (·.2)) q = true) (hne : (kvs.map (·.2)).isEmpty = false) (h64 : (kvs.map (·.2)).length < 64)
    (h : ∀ D vs n h' tk, Fr h₀ L h' m → News h₀ L h' ((D, PySem.W.listOf (List.toArray vs) n) :: news) → (∀ p ∈ news, p.1 < D) → IntsAre vs q → Q (.ref D) { s with heap := h', toks := tk }) :
    wpAny (model prog w) A (call (.builtin "sorted") [.ref v]) Q E s := by
  obtain ⟨ep, hat⟩ := hD.dictAt
  refine kdu_sorted (kdl_values (knd := PySem.strKind prog w) (kvs := kvs) (ep := ep)) hh F N ⟨hv, hat⟩ (le_sizeLine (by rw [List.length_map] at h64; omega)) fun B h' tk vs F' N' l1 hl hP => ?_
  have hvs : vs = kvs.map (·.2) := by
    apply List.ext_getElem?
    intro j
    rw [List.getElem?_map]
    by_cases hj : j < kvs.length
    · obtain ⟨k, hk⟩ := hP j vs[j] (by simp [hl, hj])
      rw [hk]
      simp [hl, hj]
    · rw [List.getElem?_eq_none (by omega), List.getElem?_eq_none (by omega)]; rfl
  subst hvs
  refine lks_sort (q := q) (s := { s with heap := h', toks := tk }) (news' := fun t => (B, PySem.W.listOf (List.toArray (lks_vals q 0 t)) 2) :: news) F' N' (fun t => .head fun p hp => Nat.ne_of_lt (l1 p hp)) hi hq hne h64 fun t h'' F'' N'' => ?_
  exact h B _ _ h'' tk F'' N'' l1 (ints_vals q 0 t)
end
end Mine
end

open PySem PySem.W PyProof.Rows PySem.Calls
namespace Mine
local macro_rules | `(tactic| k_allIn) => `(tactic| ((try simp only [List.length_append, List.length_cons, List.length_nil, List.length_drop, List.size_toArray]); omega))
local macro_rules | `(tactic| tb_rel) => `(tactic| first | with_reducible assumption | ktr_member | exact List.mem_cons_self | (refine List.mem_cons_of_mem _ ?_; tb_rel) | (refine Led.sub (by assumption) _ ?_; tb_rel))
local macro_rules | `(tactic| walk_at "call builtin:isinstance") => `(tactic| (k_here; (with_reducible show wpAny _ _ (call (Value.builtin "isinstance") [Value.ref _, Value.type "tuple"]) _ _ _); (refine' isi_tup ?N ?m ?_; (case N => k_asm); (case m => tb_rel); k_whole)))
local macro_rules | `(tactic| walk_at "binaryOp Add ref ref") => `(tactic| (k_here; (with_reducible show wpAny _ _ (binaryOp _ (Value.ref _) (Value.ref _)) _ _ _); (refine' list_add ?F ?N ?a ?b ?z ?_; (case F => k_asm); (case N => k_asm); (case a => tb_rel); (case b => tb_rel); (case z => (refine le_sizeLine ?_; k_allIn)); k_whole); intro D' h' F' N' l1))
local macro_rules | `(tactic| walk_at "call builtin:len") => `(tactic| (k_here; (with_reducible show wpAny _ _ (call (Value.builtin "len") [Value.ref _]) _ _ _); (refine' list_len ?N ?m ?z ?_; (case N => k_asm); (case m => tb_rel); (case z => k_allIn); k_whole)))
local macro_rules | `(tactic| walk_at "subscriptTail") => `(tactic| (k_here; (with_reducible show wpAny _ _ (subscriptTail _ _ (Value.ref _) (Value.int _ _)) _ _ _); first | (refine' list_item ?N ?m ?lo ?hi ?x ?_ ?hs; (case N => k_asm); (case m => tb_rel); (case lo => decide); (case hi => decide); (case x => exact rfl); (case hs => with_unfolding_all rfl); k_whole) | (refine' tup_item ?N ?m ?lo ?hi ?j ?x ?_ ?hs; (case N => k_asm); (case m => tb_rel); (case lo => decide); (case hi => decide); (case j => exact rfl); (case x => exact rfl); (case hs => with_unfolding_all rfl); k_whole)))
local macro_rules | `(tactic| walk_at "subscriptTail Name Slice ref ref") => `(tactic| (k_here; (with_reducible show wpAny _ _ (subscriptTail _ (PySem.Expr.Slice _ _ none _) (Value.ref _) (Value.ref _)) _ _ _); k_dflt (refine' kmk_slice_lit ?F ?N ?l ?p ?q ?e ?_ ?s ?t ?z; (case F => k_asm); (case N => k_asm); (case l => exact News.isList (by k_asm) (by tb_rel)); (case p => kmk_part); (case q => kmk_part); (case e => exact slice_from _ _); (case s => with_unfolding_all rfl); (case t => kmk_pure); (case z => (refine le_sizeLine ?_; k_allIn))); intro D' h' F' N' l1))
local macro_rules | `(tactic| tb_start) => `(tactic| first | exact Led.refl _ | with_reducible assumption | (refine Led.consA ?_ (by assumption); tb_start) | (refine Led.cons ?_ (by assumption); tb_start) | (refine Led.trans ?_ (by assumption); tb_start))
local macro_rules | `(tactic| walk_at "compareOp Eq int int") => `(tactic| first | refine eq_int_t (by with_reducible assumption) ?_ | refine eq_int_f (by with_reducible assumption) ?_)
local macro_rules | `(tactic| walk_at "compareOp Gt int int") => `(tactic| first | refine gt_int_t (by k_allIn) ?_ | refine gt_int_f (by k_allIn) ?_)

section
open PySem PySem.W PyProof.Rows PySem.Calls
inductive IntRel (news : Ledger) : List Value → Int → Prop where
  | mk {i : Int} {tk : Tok} : IntRel news [.int i tk] i
abbrev predT (f : Int → Bool) : Con Int where
  Rel := IntRel
  Ok := fun _ => True
  size := fun _ => 1
  Out := fun _ r x => r = .bool (f x)

theorem term_tells (w : World) {mg mb : Str → Option Value} {mean : ExcName → Option Value} :
    PySem.Challenge.rw_wb0121_01 = PySem.Challenge.rw_wb0121_01 → Mine.hd.heap_39 = Mine.hd.heap_39 → ∀ d, Tells w mean mg mb 24 (predT fun x => decide (x < 256)) d := by
  w_top off
  k_fill
  intro _ _ d
  unfold Tells
  intro dp un gd cn cs a ccd cl outer A₀ base h₀ L m news s vs Q E B F X N T hk hR hok hd hu hret
  cases hR
  refine wpAny_call ?_
  k_dflt ktr_enter
  k_steps
  exact hret _ _ _ _ (by k_asm) (by k_asm) (Led.refl _) rfl
theorem nonterm_tells (w : World) {mg mb : Str → Option Value} {mean : ExcName → Option Value} :
    PySem.Challenge.rw_wb0121_01 = PySem.Challenge.rw_wb0121_01 → Mine.hd.heap_39 = Mine.hd.heap_39 → ∀ d, Tells w mean mg mb 31 (predT fun x => decide (256 ≤ x)) d := by
  w_top off
  k_fill
  intro _ _ d
  unfold Tells
  intro dp un gd cn cs a ccd cl outer A₀ base h₀ L m news s vs Q E B F X N T hk hR hok hd hu hret
  cases hR
  refine wpAny_call ?_
  k_dflt ktr_enter
  k_steps
  exact hret _ _ _ _ (by k_asm) (by k_asm) (Led.refl _) rfl
theorem eof_tells (w : World) {mg mb : Str → Option Value} {mean : ExcName → Option Value} :
    PySem.Challenge.rw_wb0121_01 = PySem.Challenge.rw_wb0121_01 → Mine.hd.heap_39 = Mine.hd.heap_39 → ∀ d, Tells w mean mg mb 38 (predT fun x => decide (x = 0)) d := by
  w_top off
  k_fill
  intro _ _ d
  unfold Tells
  intro dp un gd cn cs a ccd cl outer A₀ base h₀ L m news s vs Q E B F X N T hk hR hok hd hu hret
  cases hR
  refine wpAny_call ?_
  k_dflt ktr_enter
  k_steps
  exact hret _ _ _ _ (by k_asm) (by k_asm) (Led.refl _) rfl
end

section
open PySem PySem.W PyProof.Rows PySem.Calls
inductive WrRel (news : Ledger) : List Value → Tm × Option Int → Prop where
  | mk {v j : Value} {t : Tm} {J : Option Int} : TmIn news v t → ItemIs j J → WrRel news [v, j] (t, J)
abbrev wrT : Con (Tm × Option Int) where
  Rel := WrRel
  Ok := fun d => d.1.size ≤ 1000
  size := fun d => d.1.height
  Out := fun news r d => ∃ a vs n, r = .ref a ∧ (a, W.listOf (List.toArray vs) n) ∈ news ∧ ItemsAre vs (d.1.written d.2)

theorem wr_tells (w : World) {mg mb : Str → Option Value} {mean : ExcName → Option Value} :
    PySem.Challenge.rw_wb0121_01 = PySem.Challenge.rw_wb0121_01 → Mine.hd.heap_39 = Mine.hd.heap_39 → ∀ d, Tells w mean mg mb 59 wrT d := by
  w_top off
  k_fill
  intro _ _
  refine tells_of fun d IH => ?_
  unfold Tells
  intro dp un gd cn cs a ccd cl outer A₀ base h₀ L m news s vs Q E B F X N T hk hR hok hd hu hret
  obtain ⟨t, J⟩ := d
  cases hR with
  | @mk v j _ _ ht hj =>
  cases ht with
  | leaf =>
    refine wpAny_call ?_
    k_dflt ktr_enter
    k_steps
    exact hret _ _ _ _ (by k_asm) (by k_asm) ((Led.refl _).cons (by assumption)) ⟨_, [_], _, rfl, List.mem_cons_self, .cons .int .nil⟩
  | @node a' n' va vb l r hm hl hr =>
    refine wpAny_call ?_
    k_dflt ktr_enter
    k_steps
    refine' tells_use (IH (l, J) ?klt) ?k1 ?k2 ?k3 ?k4 ?k5 ?kK ?kR ?ko ?kd ?ku ?_
    case k1 => k_asm
    case k2 => k_asm
    case k3 => k_asm
    case k4 => k_asm
    case k5 => k_asm
    case kK => exact rfl
    case kR => exact .mk (hl.mono fun _ h => List.mem_cons_of_mem _ h) hj
    case ko => simp only [Tm.size] at hok ⊢; omega
    case klt => simp only [Tm.height]; omega
    case kd => simp only [Tm.height] at hd ⊢; omega
    case ku => simp only [Tm.height] at hu ⊢; omega
    rintro _ nw9 h9 tk9 F9 N9 l9 ⟨a9, vs9, n9, rfl, hm9, hi9⟩
    have e9 := hi9.length
    simp only [Tm.written_length] at e9
    simp only [Tm.size] at hok
    refine list_add (vs := [j]) (by k_asm) (by k_asm) (by tb_rel) hm9 (le_sizeLine (by simp only [List.length_cons, List.length_nil]; omega)) ?_
    intro D1 h1 F1 N1 l1
    k_steps
    refine' tells_use (IH (r, J) ?klt) ?k1 ?k2 ?k3 ?k4 ?k5 ?kK ?kR ?ko ?kd ?ku ?_
    case k1 => k_asm
    case k2 => k_asm
    case k3 => k_asm
    case k4 => k_asm
    case k5 => k_asm
    case kK => exact rfl
    case kR => exact .mk (hr.mono fun p h => by tb_rel) hj
    case ko => simp only; omega
    case klt => simp only [Tm.height]; omega
    case kd => simp only [Tm.height] at hd ⊢; omega
    case ku => simp only [Tm.height] at hu ⊢; omega
    rintro _ nw8 h8 tk8 F8 N8 l8 ⟨a8, vs8, n8, rfl, hm8, hi8⟩
    have e8 := hi8.length
    simp only [Tm.written_length] at e8
    refine list_add (vs := [j] ++ vs9) (by k_asm) (by k_asm) (by tb_rel) hm8 (le_sizeLine (by simp only [List.length_append, List.length_cons, List.length_nil]; omega)) ?_
    intro D2 h2 F2 N2 l2
    k_steps
    refine hret _ _ _ _ (by k_asm) (by k_asm) (.cons (.trans (.trans (.cons (.refl _) (by assumption)) l9) (.trans (.cons (.refl _) l1) l8)) l2) ⟨_, _, _, rfl, List.mem_cons_self, ?_⟩
    exact .append (.append (.cons hj .nil) hi9) hi8
end

section
open PySem PySem.W PyProof.Rows PySem.Calls
inductive ReadAt (tape : List Int) : Nat → Tm → Nat → Prop where
  | leaf {p : Nat} {i : Int} : tape[p]? = some i → i < 256 → ReadAt tape p (.leaf i) (p + 1)
  | node {p q r : Nat} {j : Int} {a b : Tm} : tape[p]? = some j → 256 ≤ j → ReadAt tape (p + 1) a q → ReadAt tape q b r → ReadAt tape p (.node a b) r
structure RdD where
  tape : List Int
  p : Nat
  t : Tm
  q : Nat
inductive RdRel (news : Ledger) : List Value → RdD → Prop where
  | mk {a : Addr} {n : Nat} {vs : List Value} {tk : Tok} {tape : List Int} {p : Nat} {t : Tm} {q : Nat} : (a, W.listOf vs.toArray n) ∈ news → IntsAre vs tape → RdRel news [.ref a, .int (p : Int) tk] ⟨tape, p, t, q⟩
abbrev rdT : Con RdD where
  Rel := RdRel
  Ok := fun d => d.tape.length ≤ 1000 ∧ ReadAt d.tape d.p d.t d.q
  size := fun d => d.t.height + 1
  Out := fun news r d => ∃ a n vt tk, r = .ref a ∧ (a, ({ cls := .type "tuple", data := .seq #[vt, .int (d.q : Int) tk] n } : Obj)) ∈ news ∧ TmIn news vt d.t

theorem rd_tells (w : World) {mg mb : Str → Option Value} {mean : ExcName → Option Value} :
    PySem.Challenge.rw_wb0121_01 = PySem.Challenge.rw_wb0121_01 → Mine.hd.heap_39 = Mine.hd.heap_39 → ∀ d, Tells w mean mg mb 52 rdT d := by
  w_top off
  k_fill
  intro _ _
  refine tells_of fun d IH => ?_
  unfold Tells
  intro dp un gd cn cs a ccd cl outer A₀ base h₀ L m news s vs Q E B F X N T hk hR hok hd hu hret
  obtain ⟨tape, p, t, q⟩ := d
  cases hR with
  | @mk at_ nt vt tkp _ _ _ _ hm hi =>
  have hlen : tape.length ≤ 1000 := hok.1
  have hread : ReadAt tape p t q := hok.2
  cases hread with
  | @leaf _ i hx hlt =>
    obtain ⟨t1, hv⟩ := IntsAre.get hi p i hx
    have hpl : p < 1000 := by
      have := (List.getElem?_eq_some_iff.mp hx).1
      omega
    refine wpAny_call ?_
    k_dflt ktr_enter
    k_steps
    refine list_item (by k_asm) (by tb_rel) (Int.natCast_nonneg p) (by omega) (by simpa using hv) ?_ (by with_unfolding_all rfl)
    k_steps
    refine' tells_use (nonterm_tells w rfl rfl i) ?k1 ?k2 ?k3 ?k4 ?k5 ?kK ?kR ?ko ?kd ?ku ?_
    case k1 => k_asm
    case k2 => k_asm
    case k3 => k_asm
    case k4 => k_asm
    case k5 => k_asm
    case kK => exact rfl
    case kR => exact .mk
    case ko => exact trivial
    case kd => simp only [Tm.height] at hd ⊢; omega
    case ku => simp only [Tm.height] at hu ⊢; omega
    rintro r9 nw9 h9 tk9 F9 N9 l9 ho9
    obtain rfl : r9 = .bool false := ho9.trans (by simp; omega)
    k_steps
    refine list_item (by k_asm) (by tb_rel) (Int.natCast_nonneg p) (by omega) (by simpa using hv) ?_ (by with_unfolding_all rfl)
    k_steps
    refine' tells_use (term_tells w rfl rfl i) ?k1 ?k2 ?k3 ?k4 ?k5 ?kK ?kR ?ko ?kd ?ku ?_
    case k1 => k_asm
    case k2 => k_asm
    case k3 => k_asm
    case k4 => k_asm
    case k5 => k_asm
    case kK => exact rfl
    case kR => exact .mk
    case ko => exact trivial
    case kd => simp only [Tm.height] at hd ⊢; omega
    case ku => simp only [Tm.height] at hu ⊢; omega
    rintro r8 nw8 h8 tk8 F8 N8 l8 ho8
    obtain rfl : r8 = .bool true := ho8.trans (by simp; omega)
    k_steps
    refine list_item (by k_asm) (by tb_rel) (Int.natCast_nonneg p) (by omega) (by simpa using hv) ?_ (by with_unfolding_all rfl)
    k_steps
    exact hret _ _ _ _ (by k_asm) (by k_asm) (.cons (.trans l9 l8) (by assumption)) ⟨_, _, _, _, rfl, List.mem_cons_self, .leaf⟩
  | @node _ q1 _ i ta tb hx hge hra hrb =>
    obtain ⟨t1, hv⟩ := IntsAre.get hi p i hx
    have hpl : p < 1000 := by
      have := (List.getElem?_eq_some_iff.mp hx).1
      omega
    refine wpAny_call ?_
    k_dflt ktr_enter
    k_steps
    refine list_item (by k_asm) (by tb_rel) (Int.natCast_nonneg p) (by omega) (by simpa using hv) ?_ (by with_unfolding_all rfl)
    k_steps
    refine' tells_use (nonterm_tells w rfl rfl i) ?k1 ?k2 ?k3 ?k4 ?k5 ?kK ?kR ?ko ?kd ?ku ?_
    case k1 => k_asm
    case k2 => k_asm
    case k3 => k_asm
    case k4 => k_asm
    case k5 => k_asm
    case kK => exact rfl
    case kR => exact .mk
    case ko => exact trivial
    case kd => simp only [Tm.height] at hd ⊢; omega
    case ku => simp only [Tm.height] at hu ⊢; omega
    rintro r9 nw9 h9 tk9 F9 N9 l9 ho9
    obtain rfl : r9 = .bool true := ho9.trans (by simp; omega)
    k_steps
    refine' tells_use (IH ⟨tape, p + 1, ta, q1⟩ (by simp only [Tm.height]; omega)) ?k1 ?k2 ?k3 ?k4 ?k5 ?kK ?kR ?ko ?kd ?ku ?_
    case k1 => k_asm
    case k2 => k_asm
    case k3 => k_asm
    case k4 => k_asm
    case k5 => k_asm
    case kK => exact rfl
    case kR => exact .mk (l9.sub _ hm) hi
    case ko => exact ⟨hlen, hra⟩
    case kd => simp only [Tm.height] at hd ⊢; omega
    case ku => simp only [Tm.height] at hu ⊢; omega
    rintro _ nw8 h8 tk8 F8 N8 l8 ⟨a8, n8, v8, tk8', rfl, hm8, ht8⟩
    k_steps
    refine' tells_use (IH ⟨tape, q1, tb, q⟩ (by simp only [Tm.height]; omega)) ?k1 ?k2 ?k3 ?k4 ?k5 ?kK ?kR ?ko ?kd ?ku ?_
    case k1 => k_asm
    case k2 => k_asm
    case k3 => k_asm
    case k4 => k_asm
    case k5 => k_asm
    case kK => exact rfl
    case kR => exact .mk (l8.sub _ (l9.sub _ hm)) hi
    case ko => exact ⟨hlen, hrb⟩
    case kd => simp only [Tm.height] at hd ⊢; omega
    case ku => simp only [Tm.height] at hu ⊢; omega
    rintro _ nw7 h7 tk7 F7 N7 l7 ⟨a7, n7, v7, tk7', rfl, hm7, ht7⟩
    k_steps
    refine hret _ _ _ _ (by k_asm) (by k_asm) (.consA (.cons (.trans (.trans l9 l8) l7) (by assumption)) (by assumption)) ⟨_, _, _, _, rfl, List.mem_cons_self, .node (List.mem_cons_of_mem _ List.mem_cons_self) ?_ ?_⟩
    · exact ht8.mono fun p h => List.mem_cons_of_mem _ (List.mem_cons_of_mem _ (l7.sub _ h))
    · exact ht7.mono fun p h => List.mem_cons_of_mem _ (List.mem_cons_of_mem _ h)
end

section
open PySem PySem.W PyProof.Rows PySem.Calls
def Tm.has (l : Int) : Tm → Bool
  | .leaf i => decide (i = l)
  | .node a b => a.has l || b.has l
theorem Tm.has_written (l : Int) : ∀ t : Tm, t.has l = true ↔ some l ∈ t.written none
  | .leaf i => by simp [Tm.has, Tm.written, eq_comm]
  | .node a b => by simp [Tm.has, Tm.written, a.has_written l, b.has_written l]
def Tm.without (l s k : Int) : Tm → Tm
  | .leaf i => if i = l then .node (.node (.leaf s) (.leaf k)) (.leaf k) else .node (.leaf k) (.leaf i)
  | .node a b => if (Tm.node a b).has l then .node (.node (.leaf s) (a.without l s k)) (b.without l s k) else .node (.leaf k) (.node a b)
structure WoD where
  t : Tm
  l : Int
  s : Int
  k : Int
inductive WoRel (news : Ledger) : List Value → WoD → Prop where
  | mk {v : Value} {t : Tm} {l s k : Int} {tl ts tk : Tok} : TmIn news v t → WoRel news [v, .int l tl, .int s ts, .int k tk] ⟨t, l, s, k⟩
abbrev woT : Con WoD where
  Rel := WoRel
  Ok := fun d => d.t.size ≤ 1000
  size := fun d => d.t.height + 1
  Out := fun news r d => TmIn news r (d.t.without d.l d.s d.k)

theorem wo_tells (w : World) {mg mb : Str → Option Value} {mean : ExcName → Option Value} :
    PySem.Challenge.rw_wb0121_01 = PySem.Challenge.rw_wb0121_01 → Mine.hd.heap_39 = Mine.hd.heap_39 → ∀ d, Tells w mean mg mb 66 woT d := by
  w_top off
  k_fill
  intro _ _
  refine tells_of fun d IH => ?_
  unfold Tells
  intro dp un gd cn cs a ccd cl outer A₀ base h₀ L m news s vs Q E B F X N T hk hR hok hd hu hret
  obtain ⟨t, l, S, K⟩ := d
  cases hR with
  | @mk v _ _ _ _ tl ts tk ht =>
  have hunits : un + 3 < cLine := by
    have : un + 8 * ((t.height + 1)) < 9900 := hu
    show un + 3 < 9900
    omega
  cases ht with
  | @leaf i ti =>
    refine wpAny_call ?_
    k_dflt ktr_enter
    by_cases hil : i = l
    · subst hil
      k_steps
      · refine hret _ _ _ _ (by k_asm) (by k_asm) (.consA (.cons (.refl _) (by assumption)) (by assumption)) ?_
        simp only [Tm.without, if_true]
        exact .node List.mem_cons_self (.node (List.mem_cons_of_mem _ List.mem_cons_self) .leaf .leaf) .leaf
      · contradiction
    · k_steps
      refine' tells_use (wr_tells w rfl rfl (.leaf i, none)) ?k1 ?k2 ?k3 ?k4 ?k5 ?kK ?kR ?ko ?kd ?ku ?_
      case k1 => k_asm
      case k2 => k_asm
      case k3 => k_asm
      case k4 => k_asm
      case k5 => k_asm
      case kK => exact rfl
      case kR => exact .mk .leaf .none
      case ko => exact (show (1 : Nat) ≤ 1000 by decide)
      case kd => simp only [Tm.height] at hd ⊢; omega
      case ku => simp only [Tm.height] at hu ⊢; omega
      rintro _ nw9 h9 tk9 F9 N9 l9 ⟨a9, vs9, n9, rfl, hm9, hi9⟩
      refine notin_items (by k_asm) hm9 hi9 ?_
      rw [show (!decide (some l ∈ Tm.written (Tm.leaf i, (none : Option Int)).snd (Tm.leaf i, (none : Option Int)).fst)) = true by simp [Tm.written]; exact fun e => hil e.symm]
      k_steps
      refine hret _ _ _ _ (by k_asm) (by k_asm) (.cons l9 (by assumption)) ?_
      simp only [Tm.without, if_neg hil]
      exact .node List.mem_cons_self .leaf .leaf
  | @node a' n' va vb ta tb hm hl hr =>
    have hsz : ta.size + tb.size + 1 ≤ 1000 := hok
    refine wpAny_call ?_
    k_dflt ktr_enter
    k_steps
    refine eq_tup_int (by k_asm) (by tb_rel) hunits ?_
    k_steps
    refine' tells_use (wr_tells w rfl rfl (.node ta tb, none)) ?k1 ?k2 ?k3 ?k4 ?k5 ?kK ?kR ?ko ?kd ?ku ?_
    case k1 => k_asm
    case k2 => k_asm
    case k3 => k_asm
    case k4 => k_asm
    case k5 => k_asm
    case kK => exact rfl
    case kR => exact .mk (.node hm hl hr) .none
    case ko => exact hsz
    case kd => simp only [Tm.height] at hd ⊢; omega
    case ku => simp only [Tm.height] at hu ⊢; omega
    rintro _ nw9 h9 tk9 F9 N9 l9 ⟨a9, vs9, n9, rfl, hm9, hi9⟩
    refine notin_items (by k_asm) hm9 hi9 ?_
    by_cases hhas : some l ∈ (Tm.node ta tb).written none
    · rw [show (!decide (some l ∈ Tm.written (Tm.node ta tb, (none : Option Int)).snd (Tm.node ta tb, (none : Option Int)).fst)) = false by simpa using hhas]
      k_steps
      refine' tells_use (IH ⟨ta, l, S, K⟩ (by simp only [Tm.height]; omega)) ?k1 ?k2 ?k3 ?k4 ?k5 ?kK ?kR ?ko ?kd ?ku ?_
      case k1 => k_asm
      case k2 => k_asm
      case k3 => k_asm
      case k4 => k_asm
      case k5 => k_asm
      case kK => exact rfl
      case kR => exact .mk (hl.mono l9.sub)
      case ko => exact by simp only; omega
      case kd => simp only [Tm.height] at hd ⊢; omega
      case ku => simp only [Tm.height] at hu ⊢; omega
      rintro r8 nw8 h8 tk8 F8 N8 l8 ho8
      k_steps
      refine' tells_use (IH ⟨tb, l, S, K⟩ (by simp only [Tm.height]; omega)) ?k1 ?k2 ?k3 ?k4 ?k5 ?kK ?kR ?ko ?kd ?ku ?_
      case k1 => k_asm
      case k2 => k_asm
      case k3 => k_asm
      case k4 => k_asm
      case k5 => k_asm
      case kK => exact rfl
      case kR => exact .mk (hr.mono fun p h => by tb_rel)
      case ko => exact by simp only; omega
      case kd => simp only [Tm.height] at hd ⊢; omega
      case ku => simp only [Tm.height] at hu ⊢; omega
      rintro r7 nw7 h7 tk7 F7 N7 l7 ho7
      k_steps
      refine hret _ _ _ _ (by k_asm) (by k_asm) (.cons (.trans (.trans l9 (.cons l8 (by assumption))) l7) (by assumption)) ?_
      have e : (Tm.node ta tb).has l = true := (Tm.has_written l _).mpr hhas
      simp only [Tm.without, if_pos e]
      exact .node List.mem_cons_self (.node (List.mem_cons_of_mem _ (l7.sub _ List.mem_cons_self)) .leaf (ho8.mono fun p h => by tb_rel)) (ho7.mono fun p h => by tb_rel)
    · rw [show (!decide (some l ∈ Tm.written (Tm.node ta tb, (none : Option Int)).snd (Tm.node ta tb, (none : Option Int)).fst)) = true by simpa using hhas]
      k_steps
      refine hret _ _ _ _ (by k_asm) (by k_asm) (.cons l9 (by assumption)) ?_
      have e : ¬ (Tm.node ta tb).has l = true := fun e => hhas ((Tm.has_written l _).mp e)
      simp only [Tm.without, if_neg e]
      exact .node List.mem_cons_self .leaf (.node (List.mem_cons_of_mem _ (l9.sub _ hm)) (hl.mono fun p h => by tb_rel) (hr.mono fun p h => by tb_rel))
end

section
open PySem PySem.W PyProof.Rows PySem.Calls
def Tm.turn (s k : Int) : Tm × List Tm → Option (Tm × List Tm)
  | (.node a b, r) => some (a, b :: r)
  | (.leaf i, r) =>
    if i = k ∧ 1 < r.length then some (r.getD 0 (.leaf 0), r.drop 2)
    else if i = s ∧ 2 < r.length then some (r.getD 0 (.leaf 0), r.getD 2 (.leaf 0) :: .node (r.getD 1 (.leaf 0)) (r.getD 2 (.leaf 0)) :: r.drop 3)
    else none
def Tm.turns (s k : Int) : Nat → Tm × List Tm → Tm × List Tm
  | 0, x => x
  | n + 1, x => match Tm.turn s k x with
    | none => x
    | some y => Tm.turns s k n y
def Tm.joined (f : Tm → Option Tm) : Tm → List Tm → Option Tm
  | h, [] => some h
  | h, p :: r => match f p with
    | none => none
    | some q => Tm.joined f (.node h q) r
def Tm.led (s k : Int) : Nat → Tm → Option Tm
  | 0, _ => none
  | d + 1, t => Tm.joined (Tm.led s k d) (Tm.turns s k 400 (t, [])).1 (Tm.turns s k 400 (t, [])).2

structure LeD where
  d : Nat
  t : Tm
  s : Int
  k : Int
  u : Tm
inductive LeRel (news : Ledger) : List Value → LeD → Prop where
  | mk {v : Value} {d : Nat} {t u : Tm} {s k : Int} {ts tk : Tok} : TmIn news v t → LeRel news [v, .int s ts, .int k tk] ⟨d, t, s, k, u⟩
abbrev leT : Con LeD where
  Rel := LeRel
  Ok := fun d => Tm.led d.s d.k d.d d.t = some d.u
  size := fun d => d.d
  Out := fun news r d => TmIn news r d.u

theorem TmsIn.monoS {news news' : Ledger} {vs : List Value} {ts : List Tm} (h : TmsIn news vs ts) (hs : SeqSub news news') : TmsIn news' vs ts := by
  induction h with
  | nil => exact .nil
  | cons a _ ih => exact .cons (a.monoS hs) ih

/-- the frame of _law_led in its first loop -/
def ledFr (m₀ : Str → Option Value) (u vh vr : Option Value) : Str → Option Value := fun y =>
  if y = Str.ofString "_" then u else if y = Str.ofString "head" then vh else if y = Str.ofString "rest" then vr else m₀ y
inductive LedJ (m₀ : Str → Option Value) (S K : Int) (t : Tm) (i : Nat) (m : Str → Option Value) (nw : Ledger) : Prop
  | mk (u : Option Value) (vh : Value) (rl : Addr) (n : Nat) (vs : List Value) (h : Tm) (r : List Tm) (em : m = ledFr m₀ u (some vh) (some (.ref rl))) (hm : (rl, W.listOf (List.toArray vs) n) ∈ nw) (hh : TmIn nw vh h) (hr : TmsIn nw vs r) (hl : vs.length ≤ i) (ht : Tm.turns S K (400 - i) (h, r) = Tm.turns S K 400 (t, [])) : LedJ m₀ S K t i m nw
inductive LedB (m₀ : Str → Option Value) (S K : Int) (t : Tm) (m : Str → Option Value) (nw : Ledger) : Prop
  | mk (u : Option Value) (vh : Value) (rl : Addr) (n : Nat) (vs : List Value) (h : Tm) (r : List Tm) (em : m = ledFr m₀ u (some vh) (some (.ref rl))) (hm : (rl, W.listOf (List.toArray vs) n) ∈ nw) (hh : TmIn nw vh h) (hr : TmsIn nw vs r) (hl : vs.length ≤ 400) (ht : (h, r) = Tm.turns S K 400 (t, [])) : LedB m₀ S K t m nw
theorem LedJ.mono {m₀ : Str → Option Value} {S K : Int} {t : Tm} : ∀ i m a b, SeqSub a b → LedJ m₀ S K t i m a → LedJ m₀ S K t i m b := by
  rintro i m a b hs ⟨u, vh, rl, n, vs, h, r, e, hm, hh, hr, hl, ht⟩
  exact ⟨u, vh, rl, n, vs, h, r, e, hs _ hm (.inl rfl), hh.monoS hs, hr.monoS hs, hl, ht⟩

theorem led_loop {prog : Program} {w : World} {A : Around} {E : Value → Shared → Prop} {s : Shared} {env : Env} {h₀ : Heap} {body : List Stmt} {Q : Flow → Shared → Prop} {r : Addr} {t' u' v' : Tok} {m₀ : Str → Option Value} {news : Ledger} (S K : Int) (t : Tm) (hh : A.handled = none)
    (hr : IsRange s.heap r 0 400 1 t' u' v') (F : Fr h₀ env.locals s.heap m₀) (N : News h₀ env.locals s.heap news) (hj : LedJ m₀ S K t 0 m₀ news)
    (turn : ∀ i o nw I oI h tk u vh rl n vs hd r, i < 400 → Led news nw → (rl, W.listOf (List.toArray vs) n) ∈ nw → TmIn nw vh hd → TmsIn nw vs r → vs.length ≤ i → Tm.turns S K (400 - i) (hd, r) = Tm.turns S K 400 (t, []) →
      Fr h₀ env.locals h (fun y => if y = Str.ofString "_" then some o else ledFr m₀ u (some vh) (some (.ref rl)) y) → News h₀ env.locals h ((I, oI) :: nw) →
      wpAny (model prog w) A (execs body env) (TurnQ h₀ env.locals Q (LedJ m₀ S K t (i + 1)) (LedB m₀ S K t) ((I, oI) :: nw) { s with heap := h, toks := tk }) E { s with heap := h, toks := tk })
    (done : ∀ nw h tk u vh rl n vs hd r, Led news nw → (rl, W.listOf (List.toArray vs) n) ∈ nw → TmIn nw vh hd → TmsIn nw vs r → vs.length ≤ 400 → (hd, r) = Tm.turns S K 400 (t, []) →
      Fr h₀ env.locals h (ledFr m₀ u (some vh) (some (.ref rl))) → News h₀ env.locals h nw → Q .next { s with heap := h, toks := tk }) :
    wpAny (model prog w) A (pyIter (.ref r)) (fun it s₂ => LoopAtV prog w A h₀ env (Str.ofString "_") body Q E it s₂) E s := by
  refine for_range (n := 400) hh hr (by decide) (by decide) F N (LedJ m₀ S K t) (LedB m₀ S K t) LedJ.mono hj ?_ ?_
  · rintro i tt m₁ nw I oI h tk hi ⟨u, vh, rl, n, vs, hd, r, rfl, hm, hh, hr, hl, ht⟩ hled F₁ N₁
    exact turn i _ nw I oI h tk u vh rl n vs hd r hi hled hm hh hr hl ht F₁ N₁
  · rintro m₁ nw h tk (⟨u, vh, rl, n, vs, hd, r, rfl, hm, hh, hr, hl, ht⟩ | ⟨u, vh, rl, n, vs, hd, r, rfl, hm, hh, hr, hl, ht⟩) hled F₁ N₁
    · exact done nw h tk u vh rl n vs hd r hled hm hh hr hl ht F₁ N₁
    · exact done nw h tk u vh rl n vs hd r hled hm hh hr hl ht F₁ N₁

theorem ledFr_us {m₀ : Str → Option Value} {u vh vr o : Option Value} : (fun y => if y = Str.ofString "_" then o else ledFr m₀ u vh vr y) = ledFr m₀ o vh vr := by
  funext y
  simp only [ledFr]
  by_cases h : y = Str.ofString "_"
  · simp only [if_pos h]
  · simp only [if_neg h]
theorem ledFr_set {m₀ : Str → Option Value} {u vh vr o vh' vr' : Option Value} : (fun y => if y = Str.ofString "head" then vh' else if y = Str.ofString "rest" then vr' else if y = Str.ofString "_" then o else ledFr m₀ u vh vr y) = ledFr m₀ o vh' vr' := by
  funext y
  simp only [ledFr]
  by_cases h1 : y = Str.ofString "_"
  · subst h1; rfl
  · by_cases h2 : y = Str.ofString "head"
    · subst h2; rfl
    · by_cases h3 : y = Str.ofString "rest"
      · subst h3; rfl
      · simp only [if_neg h1, if_neg h2, if_neg h3]
theorem turns_brk {S K : Int} {n : Nat} {x X : Tm × List Tm} (e : Tm.turns S K n x = X) (h : Tm.turn S K x = none) : x = X := by
  rw [← e]
  cases n with
  | zero => rfl
  | succ n => simp only [Tm.turns, h]
theorem turns_next {S K : Int} {i : Nat} {x y X : Tm × List Tm} (e : Tm.turns S K (400 - i) x = X) (hi : i < 400) (h : Tm.turn S K x = some y) : Tm.turns S K (400 - (i + 1)) y = X := by
  rw [← e, show 400 - i = (400 - (i + 1)) + 1 by omega]
  simp only [Tm.turns, h]

theorem turn_none {S K a : Int} {r : List Tm} {n : Nat} (hn : n = r.length) (h1 : a ≠ K ∨ ¬ (1 : Int) < (n : Int)) (h2 : a ≠ S ∨ ¬ (2 : Int) < (n : Int)) : Tm.turn S K (.leaf a, r) = none := by
  show (if a = K ∧ 1 < r.length then _ else if a = S ∧ 2 < r.length then _ else none) = none
  rw [if_neg, if_neg]
  · rintro ⟨a, b⟩
    rcases h2 with h | h
    · exact h a
    · exact h (by rw [hn]; exact Int.ofNat_lt.mpr b)
  · rintro ⟨a, b⟩
    rcases h1 with h | h
    · exact h a
    · exact h (by rw [hn]; exact Int.ofNat_lt.mpr b)
theorem not_two {n : Nat} (h : ¬ (1 : Int) < (n : Int)) : ¬ (2 : Int) < (n : Int) := fun k => h (Int.lt_trans (by decide) k)

def led2Fr (m₀ : Str → Option Value) (u vh : Option Value) : Str → Option Value := fun y =>
  if y = Str.ofString "part" then u else if y = Str.ofString "head" then vh else m₀ y
theorem led2Fr_set {m₀ : Str → Option Value} {u vh o vh' : Option Value} : (fun y => if y = Str.ofString "head" then vh' else if y = Str.ofString "part" then o else led2Fr m₀ u vh y) = led2Fr m₀ o vh' := by
  funext y
  simp only [led2Fr]
  by_cases h1 : y = Str.ofString "part"
  · subst h1; rfl
  · by_cases h2 : y = Str.ofString "head"
    · subst h2; rfl
    · simp only [if_neg h1, if_neg h2]
inductive Led2J (m₀ : Str → Option Value) (S K : Int) (d : Nat) (res : Tm) (r : List Tm) (rl : Addr) (n : Nat) (vs : List Value) (i : Nat) (m : Str → Option Value) (nw : Ledger) : Prop
  | mk (u : Option Value) (vh : Value) (h : Tm) (em : m = led2Fr m₀ u (some vh)) (hm : (rl, W.listOf (List.toArray vs) n) ∈ nw) (hh : TmIn nw vh h) (hr : TmsIn nw vs r) (hj : Tm.joined (Tm.led S K d) h (r.drop i) = some res) : Led2J m₀ S K d res r rl n vs i m nw
theorem Led2J.mono {m₀ : Str → Option Value} {S K : Int} {d : Nat} {res : Tm} {r : List Tm} {rl : Addr} {n : Nat} {vs : List Value} : ∀ i m a b, SeqSub a b → Led2J m₀ S K d res r rl n vs i m a → Led2J m₀ S K d res r rl n vs i m b := by
  rintro i m a b hs ⟨u, vh, h, e, hm, hh, hr, hj⟩
  exact ⟨u, vh, h, e, hs _ hm (.inl rfl), hh.monoS hs, hr.monoS hs, hj⟩
theorem led2_loop {prog : Program} {w : World} {A : Around} {E : Value → Shared → Prop} {s : Shared} {env : Env} {h₀ : Heap} {body : List Stmt} {Q : Flow → Shared → Prop} {rl : Addr} {n : Nat} {m₀ : Str → Option Value} {news : Ledger} (S K : Int) (d : Nat) (res : Tm) (vs : List Value) (r : List Tm) (hh : A.handled = none)
    (hm : (rl, W.listOf (List.toArray vs) n) ∈ news) (hr : TmsIn news vs r) (F : Fr h₀ env.locals s.heap m₀) (N : News h₀ env.locals s.heap news) {vh : Value} {hd : Tm} (hvh : m₀ (Str.ofString "head") = some vh ∧ TmIn news vh hd ∧ Tm.joined (Tm.led S K d) hd r = some res)
    (turn : ∀ v p q rest nw I oI h tk u vh hd i, TmIn nw v p → TmIn nw vh hd → Tm.led S K d p = some q → Tm.joined (Tm.led S K d) (.node hd q) rest = some res → rest = r.drop (i + 1) → Led news nw → (rl, W.listOf (List.toArray vs) n) ∈ nw → TmsIn nw vs r →
      Fr h₀ env.locals h (fun y => if y = Str.ofString "part" then some v else led2Fr m₀ u (some vh) y) → News h₀ env.locals h ((I, oI) :: nw) →
      wpAny (model prog w) A (execs body env) (TurnQ h₀ env.locals Q (Led2J m₀ S K d res r rl n vs (i + 1)) (fun _ _ => False) ((I, oI) :: nw) { s with heap := h, toks := tk }) E { s with heap := h, toks := tk })
    (done : ∀ nw h tk u vh, Led news nw → TmIn nw vh res → Fr h₀ env.locals h (led2Fr m₀ u (some vh)) → News h₀ env.locals h nw → Q .next { s with heap := h, toks := tk }) :
    wpAny (model prog w) A (pyIter (.ref rl)) (fun it s₂ => LoopAtV prog w A h₀ env (Str.ofString "part") body Q E it s₂) E s := by
  obtain ⟨hv1, hv2, hv3⟩ := hvh
  refine for_list hh hm F N (Led2J m₀ S K d res r rl n vs) (fun _ _ => False) Led2J.mono ⟨m₀ (Str.ofString "part"), vh, hd, ?_, hm, hv2, hr, hv3⟩ ?_ ?_
  · funext y
    simp only [led2Fr]
    by_cases h1 : y = Str.ofString "part"
    · rw [if_pos h1, h1]
    · rw [if_neg h1]
      by_cases h2 : y = Str.ofString "head"
      · rw [if_pos h2, h2, hv1]
      · rw [if_neg h2]
  · rintro i v m₁ nw I oI h tk hi ⟨u, vh, hd, rfl, hm, hh, hr, hj⟩ hled F₁ N₁
    obtain ⟨p, hp, hpv⟩ := hr.get hi
    have hlt : i < r.length := (List.getElem?_eq_some_iff.mp hp).1
    have hpe : r[i] = p := (List.getElem?_eq_some_iff.mp hp).2
    rw [List.drop_eq_getElem_cons hlt, hpe] at hj
    simp only [Tm.joined] at hj
    cases hq : Tm.led S K d p with
    | none => rw [hq] at hj; cases hj
    | some q =>
      rw [hq] at hj
      exact turn v p q _ nw I oI h tk u vh hd i hpv hh hq hj rfl hled hm hr F₁ N₁
  · rintro m₁ nw h tk (⟨u, vh, hd, rfl, hm, hh, hr, hj⟩ | hf) hled F₁ N₁
    · rw [hr.length, List.drop_of_length_le (Nat.le_refl _)] at hj
      simp only [Tm.joined, Option.some.injEq] at hj
      exact done nw h tk u vh hled (hj ▸ hh) F₁ N₁
    · exact hf.elim

local macro_rules | `(tactic| walk_at "pyIter ref") => `(tactic| (refine Stop.mk ?_))

theorem le_tells (w : World) {mg mb : Str → Option Value} {mean : ExcName → Option Value} :
    PySem.Challenge.rw_wb0121_01 = PySem.Challenge.rw_wb0121_01 → Mine.hd.heap_39 = Mine.hd.heap_39 → ∀ d, Tells w mean mg mb 73 leT d := by
  w_top off
  k_fill
  intro _ _
  refine tells_of fun d IH => ?_
  unfold Tells
  intro dp un gd cn cs a ccd cl outer A₀ base h₀ L m news s vs Q E B F X N T hk hR hok hd hu hret
  obtain ⟨d, t, S, K, u⟩ := d
  cases hR with
  | @mk v _ _ _ _ _ ts tk ht =>
  obtain _ | d := d
  · exact absurd hok (by simp [Tm.led])
  have hled : Tm.joined (Tm.led S K d) (Tm.turns S K 400 (t, [])).1 (Tm.turns S K 400 (t, [])).2 = some u := hok
  refine wpAny_call ?_
  k_dflt ktr_enter
  k_steps
  refine led_loop S K t rfl (by assumption) (by k_asm) (by k_asm) ?_ ?_ ?_
  · refine ⟨none, v, _, _, [], t, [], ?_, List.mem_cons_of_mem _ List.mem_cons_self, ht.mono fun p h => by tb_rel, .nil, Nat.le_refl _, rfl⟩
    funext y
    simp only [ledFr]
    by_cases h1 : y = Str.ofString "_"
    · subst h1; rfl
    · rw [if_neg h1]
      by_cases h2 : y = Str.ofString "head"
      · subst h2; rfl
      · rw [if_neg h2, if_neg h2]
        by_cases h3 : y = Str.ofString "rest"
        · subst h3; rfl
        · rw [if_neg h3, if_neg h3]
  · intro i o nw I oI h tk9 u9 vh rl n vs hd9 r hi hledg hm hhd hr hl hturn F9 N9
    cases hhd with
    | @leaf hi9 ht9 =>
      k_steps
      · rename_i cK cL
        cases hr with
        | nil => exact absurd cL (show ¬ (1 : Int) < ((0 : Nat) : Int) by decide)
        | @cons v1 t1 vs1 r1 hr1 hrs1 =>
          cases hrs1 with
          | nil => exact absurd cL (show ¬ (1 : Int) < ((1 : Nat) : Int) by decide)
          | @cons v2 t2 vs2 r2 hr2 hrs2 =>
            simp only [List.length_cons] at hl
            k_steps
            all_goals (try dsimp only [TurnQ])
            exact TurnE.intro (by k_asm) (by k_asm) (by tb_start) ⟨_, _, _, _, vs2, t1, r2, ledFr_set, List.mem_cons_of_mem _ List.mem_cons_self, hr1.mono fun p h => by tb_rel, hrs2.mono fun p h => by tb_rel, by omega, turns_next hturn hi (by simp [Tm.turn, cK])⟩
      · try dsimp only [TurnQ]
        exact TurnE.intro (by k_asm) (by k_asm) (.refl _) ⟨_, _, _, _, _, _, _, ledFr_us, by tb_rel, .leaf, hr.mono fun p h => by tb_rel, Nat.le_trans hl (Nat.le_of_lt hi), turns_brk hturn (turn_none hr.length (by first | exact .inl (by assumption) | exact .inr (by assumption)) (by first | exact .inl (by assumption) | exact .inr (by assumption) | exact .inr (not_two (by assumption))))⟩
      · try dsimp only [TurnQ]
        exact TurnE.intro (by k_asm) (by k_asm) (.refl _) ⟨_, _, _, _, _, _, _, ledFr_us, by tb_rel, .leaf, hr.mono fun p h => by tb_rel, Nat.le_trans hl (Nat.le_of_lt hi), turns_brk hturn (turn_none hr.length (by first | exact .inl (by assumption) | exact .inr (by assumption)) (by first | exact .inl (by assumption) | exact .inr (by assumption) | exact .inr (not_two (by assumption))))⟩
      · rename_i cK cS cL
        cases hr with
        | nil => exact absurd cL (show ¬ (2 : Int) < ((0 : Nat) : Int) by decide)
        | @cons v1 t1 vs1 r1 hr1 hrs1 =>
          cases hrs1 with
          | nil => exact absurd cL (show ¬ (2 : Int) < ((1 : Nat) : Int) by decide)
          | @cons v2 t2 vs2 r2 hr2 hrs2 =>
            cases hrs2 with
            | nil => exact absurd cL (show ¬ (2 : Int) < ((2 : Nat) : Int) by decide)
            | @cons v3 t3 vs3 r3 hr3 hrs3 =>
              simp only [List.length_cons] at hl
              k_steps
              all_goals (try dsimp only [TurnQ])
              exact TurnE.intro (by k_asm) (by k_asm) (by tb_start) ⟨_, _, _, _, _, t1, t3 :: .node t2 t3 :: r3, ledFr_set, List.mem_cons_of_mem _ List.mem_cons_self, hr1.mono fun p h => by tb_rel, .cons (hr3.mono fun p h => by tb_rel) (.cons (.node (by tb_rel) (hr2.mono fun p h => by tb_rel) (hr3.mono fun p h => by tb_rel)) (hrs3.mono fun p h => by tb_rel)), by simp only [List.length_append, List.length_cons, List.length_nil, List.length_drop]; omega, turns_next hturn hi (by simp [Tm.turn, cS, show ¬ S = K from cS ▸ cK])⟩
      · try dsimp only [TurnQ]
        exact TurnE.intro (by k_asm) (by k_asm) (.refl _) ⟨_, _, _, _, _, _, _, ledFr_us, by tb_rel, .leaf, hr.mono fun p h => by tb_rel, Nat.le_trans hl (Nat.le_of_lt hi), turns_brk hturn (turn_none hr.length (by first | exact .inl (by assumption) | exact .inr (by assumption)) (by first | exact .inl (by assumption) | exact .inr (by assumption) | exact .inr (not_two (by assumption))))⟩
      · try dsimp only [TurnQ]
        exact TurnE.intro (by k_asm) (by k_asm) (.refl _) ⟨_, _, _, _, _, _, _, ledFr_us, by tb_rel, .leaf, hr.mono fun p h => by tb_rel, Nat.le_trans hl (Nat.le_of_lt hi), turns_brk hturn (turn_none hr.length (by first | exact .inl (by assumption) | exact .inr (by assumption)) (by first | exact .inl (by assumption) | exact .inr (by assumption) | exact .inr (not_two (by assumption))))⟩
    | @node a9 n9 va9 vb9 l9 r9 hm9 hl9 hr9 =>
      k_steps
      all_goals (try dsimp only [TurnQ])
      exact TurnE.intro (by k_asm) (by k_asm) (by tb_start) ⟨_, _, _, _, _, l9, r9 :: r, ledFr_set, List.mem_cons_of_mem _ List.mem_cons_self, hl9.mono fun p h => by tb_rel, .cons (hr9.mono fun p h => by tb_rel) (hr.mono fun p h => by tb_rel), by simp only [List.length_append, List.length_cons, List.length_nil]; omega, turns_next hturn hi (by simp [Tm.turn])⟩
  · intro nw h tk9 u9 vh rl n vs hd9 r hledg hm hhd hr hl hturn F9 N9
    rw [← hturn] at hled
    dsimp only at hled
    k_steps
    refine For_invVF F9 (by rfl) (by rfl) ?_
    k_steps
    refine led2_loop S K d u vs r rfl hm hr (by k_asm) (by k_asm) (vh := vh) (hd := hd9) ⟨rfl, hhd, hled⟩ ?_ ?_
    · intro v8 p8 q8 rest8 nw8 I8 oI8 h8 tk8 u8 vh8 hd8 i8 hvp hvh8 hledp hjoin hrest hled8 hm8 hr8 F8 N8
      k_steps
      refine' tells_use (IH ⟨d, p8, S, K, q8⟩ (Nat.lt_succ_self _)) ?k1 ?k2 ?k3 ?k4 ?k5 ?kK ?kR ?ko ?kd ?ku ?_
      case k1 => k_asm
      case k2 => k_asm
      case k3 => k_asm
      case k4 => k_asm
      case k5 => k_asm
      case kK => exact rfl
      case kR => exact .mk (hvp.mono fun p h => List.mem_cons_of_mem _ h)
      case ko => exact hledp
      case kd => simp only at hd ⊢; omega
      case ku => simp only at hu ⊢; omega
      rintro r7 nw7 h7 tk7 F7 N7 l7 ho7
      k_steps
      try dsimp only [TurnQ]
      exact TurnE.intro (by k_asm) (by k_asm) (by tb_start) ⟨_, _, .node hd8 q8, led2Fr_set, by tb_rel, .node List.mem_cons_self (hvh8.mono fun p h => by tb_rel) (ho7.mono fun p h => by tb_rel), hr8.mono fun p h => by tb_rel, hrest ▸ hjoin⟩
    · intro nw8 h8 tk8 u8 vh8 hled8 hvh8 F8 N8
      k_steps
      exact hret _ _ _ _ (by k_asm) (by k_asm) (by tb_start) hvh8
end

section
open PySem PySem.W PyProof.Rows PySem.Calls
def pick (x y z f : Int) : Int := if f.fmod 3 = 0 then x else if f.fmod 3 = 1 then y else z
def termRow (x y z j : Int) : List Nat → Int → List Int
  | [], _ => []
  | c :: r, f => if c = 42 then j :: termRow x y z j r f else pick x y z f :: termRow x y z j r (f.fdiv 3)
def shapeTxt : List Str := [Str.ofString ".", Str.ofString "*..", Str.ofString "**...", Str.ofString "*.*..", Str.ofString "**..*..", Str.ofString "***....", Str.ofString "*.*.*..", Str.ofString "**.*...", Str.ofString "*.**..."]
def shapeOf (i : Int) : List Nat := (shapeTxt.getD i.toNat (Str.ofString "")).cps.toList
structure TeD where
  number : Int
  x : Int
  y : Int
  z : Int
  join : Int
  shapes : Int
  old : Ledger
inductive TeRel (news : Ledger) : List Value → TeD → Prop where
  | mk {l : Addr} {n : Nat} {nu x y z j sh : Int} {tn tx ty tz tj ts : Tok} : (l, ({ cls := .type "tuple", data := .seq #[.int x tx, .int y ty, .int z tz] n } : Obj)) ∈ news →
      TeRel news [.int nu tn, .ref l, .int j tj, .int sh ts] ⟨nu, x, y, z, j, sh, news⟩
abbrev teT : Con TeD where
  Rel := TeRel
  Ok := fun d => 0 < d.shapes ∧ d.shapes ≤ 9
  size := fun _ => 1
  Out := fun news r d => ∃ a vs n, r = .ref a ∧ (a, W.listOf (List.toArray vs) n) ∈ news ∧ IntsAre vs (termRow d.x d.y d.z d.join (shapeOf (d.number.fmod d.shapes)) (d.number.fdiv 9)) ∧ ∀ p ∈ d.old, p.1 < a

def termFr (m₀ : Str → Option Value) (u vf : Option Value) : Str → Option Value := fun y =>
  if y = Str.ofString "sign" then u else if y = Str.ofString "figures" then vf else m₀ y
theorem termFr_s {m₀ : Str → Option Value} {u vf o : Option Value} : (fun y => if y = Str.ofString "sign" then o else termFr m₀ u vf y) = termFr m₀ o vf := by
  funext y
  simp only [termFr]
  by_cases h1 : y = Str.ofString "sign"
  · simp only [if_pos h1]
  · simp only [if_neg h1]
theorem termFr_f {m₀ : Str → Option Value} {u vf o vf' : Option Value} : (fun y => if y = Str.ofString "figures" then vf' else if y = Str.ofString "sign" then o else termFr m₀ u vf y) = termFr m₀ o vf' := by
  funext y
  simp only [termFr]
  by_cases h1 : y = Str.ofString "sign"
  · subst h1; rfl
  · by_cases h2 : y = Str.ofString "figures"
    · subst h2; rfl
    · simp only [if_neg h1, if_neg h2]
def TermJ (m₀ : Str → Option Value) (x y z j : Int) (cs : List Nat) (R : List Int) (i : Nat) (m : Str → Option Value) (vs : List Value) : Prop :=
  ∃ u f tf ns, m = termFr m₀ u (some (.int f tf)) ∧ IntsAre vs ns ∧ vs.length ≤ i ∧ ns ++ termRow x y z j (cs.drop i) f = R
theorem term_loop {f₀ : Int} {prog : Program} {w : World} {A : Around} {E : Value → Shared → Prop} {s : Shared} {env : Env} {h₀ : Heap} {body : List Stmt} {Q : Flow → Shared → Prop} {txt : Str} {tt : Tok} {a : Addr} {base : Ledger} {m₀ : Str → Option Value}
    (x y z j f : Int) (tf : Tok) (n₀ : Nat) (hh : A.handled = none) (ha : txt.cps.all (· < 128) = true) (hs : txt.cps.size ≤ 100)
    (F : Fr h₀ env.locals s.heap m₀) {nws : Ledger} (N' : News h₀ env.locals s.heap nws) (hrow : m₀ (Str.ofString "row") = some (.ref a)) (hin : (a, W.listOf ([] : List Value).toArray n₀) ∈ nws) (hbase : ∀ p ∈ base, p ∈ nws) (hm : m₀ (Str.ofString "figures") = some (.int f tf))
    (turn : ∀ i c u m u9 f tf ns vs n I oI h tk, i < 100 → IntsAre vs ns → vs.length ≤ i → m = termFr m₀ u9 (some (.int f tf)) → txt.cps[i]? = some c → I ≠ a →
      ns ++ (if c = 42 then j :: termRow x y z j (txt.cps.toList.drop (i + 1)) f else pick x y z f :: termRow x y z j (txt.cps.toList.drop (i + 1)) (f.fdiv 3)) = termRow x y z j txt.cps.toList f₀ →
      Fr h₀ env.locals h (fun y => if y = Str.ofString "sign" then some (.str ⟨#[c]⟩ u) else termFr m₀ u9 (some (.int f tf)) y) → News h₀ env.locals h ((I, oI) :: (a, W.listOf (List.toArray vs) n) :: base) →
      wpAny (model prog w) A (execs body env) (TurnM h₀ env.locals Q (TermJ m₀ x y z j txt.cps.toList (termRow x y z j txt.cps.toList f₀) (i + 1)) I oI a base { s with heap := h, toks := tk }) E { s with heap := h, toks := tk })
    (hf₀ : f₀ = f)
    (done : ∀ u f tf vs n h tk, IntsAre vs (termRow x y z j txt.cps.toList f₀) → Fr h₀ env.locals h (termFr m₀ u (some (.int f tf))) → News h₀ env.locals h ((a, W.listOf (List.toArray vs) n) :: base) → Q .next { s with heap := h, toks := tk }) :
    wpAny (model prog w) A (pyIter (.str txt tt)) (fun it s₂ => LoopAtV prog w A h₀ env (Str.ofString "sign") body Q E it s₂) E s := by
  subst hf₀
  have N : News h₀ env.locals s.heap ((a, W.listOf ([] : List Value).toArray n₀) :: base) := fun p hp => by
    rcases List.mem_cons.mp hp with rfl | hp
    · exact N' _ hin
    · exact N' _ (hbase _ hp)
  refine for_ascii hh ha F N (TermJ m₀ x y z j txt.cps.toList (termRow x y z j txt.cps.toList f₀)) ⟨m₀ (Str.ofString "sign"), f₀, tf, [], ?_, .nil, Nat.le_refl _, rfl⟩ ?_ ?_
  · funext y
    simp only [termFr]
    by_cases h1 : y = Str.ofString "sign"
    · rw [if_pos h1, h1]
    · rw [if_neg h1]
      by_cases h2 : y = Str.ofString "figures"
      · rw [if_pos h2, h2, hm]
      · rw [if_neg h2]
  · rintro i c u m₁ vs n I oI h tk hc ⟨u9, f, tf, ns, rfl, hi, hl, hR⟩ hIa F₁ N₁
    have hlt : i < txt.cps.size := (Array.getElem?_eq_some_iff.mp hc).1
    have hce : txt.cps[i] = c := (Array.getElem?_eq_some_iff.mp hc).2
    have e : txt.cps.toList.drop i = c :: txt.cps.toList.drop (i + 1) := by
      rw [List.drop_eq_getElem_cons (by simpa using hlt)]
      congr 1
    rw [e] at hR
    simp only [termRow] at hR
    exact turn i c u _ u9 f tf ns vs n I oI h tk (by omega) hi hl rfl hc hIa hR F₁ N₁
  · rintro m₁ vs n h tk ⟨u9, f, tf, ns, rfl, hi, hl, hR⟩ F₁ N₁
    rw [List.drop_of_length_le (by simp)] at hR
    simp only [termRow, List.append_nil] at hR
    exact done u9 f tf vs n h tk (hR ▸ hi) F₁ N₁
theorem star_eq (c : Nat) : ((⟨#[c]⟩ : Str) == Str.ofString "*") = decide (c = 42) := by
  rw [Bool.eq_iff_iff, beq_iff_eq, decide_eq_true_iff, show Str.ofString "*" = ⟨#[42]⟩ from by decide +kernel]
  simp
theorem IntsAre_snoc {vs : List Value} {ns : List Int} (h : IntsAre vs ns) (x : Int) (t : Tok) : IntsAre (vs ++ [.int x t]) (ns ++ [x]) := by
  induction h with
  | nil => exact .cons x t .nil
  | cons n u _ ih => exact .cons n u ih
theorem pick_eq (x y z f : Int) : (if (f.fmod 3).toNat = 0 then x else if (f.fmod 3).toNat = 1 then y else z) = pick x y z f := by
  have h0 : 0 ≤ f.fmod 3 := Int.fmod_nonneg_of_pos f (by decide)
  have h1 : f.fmod 3 < 3 := Int.fmod_lt_of_pos f (by decide)
  unfold pick
  by_cases a : f.fmod 3 = 0
  · rw [if_pos a, if_pos (by omega)]
  · rw [if_neg a, if_neg (by omega)]
    by_cases b : f.fmod 3 = 1
    · rw [if_pos b, if_pos (by omega)]
    · rw [if_neg b, if_neg (by omega)]
theorem shape_ok (i : Nat) (h : i < 9) : ((shapeTxt.getD i (Str.ofString "")).cps.all (· < 128) = true) ∧ (shapeTxt.getD i (Str.ofString "")).cps.size ≤ 100 := by
  revert i
  decide +kernel

local macro_rules | `(tactic| walk_at "pyIter str") => `(tactic| (refine Stop.mk ?_))
local macro_rules | `(tactic| walk_at "exec For Name Subscript cons nil") => `(tactic| (refine Stop.mk ?_))
local macro_rules | `(tactic| walk_at "subscriptTail") => `(tactic| (refine Stop.mk ?_))

local macro_rules | `(tactic| walk_at "compareOp Eq str str") => `(tactic| (refine Stop.mk ?_))

theorem te_tells (w : World) {mg mb : Str → Option Value} {mean : ExcName → Option Value} :
    PySem.Challenge.rw_wb0121_01 = PySem.Challenge.rw_wb0121_01 → Mine.hd.heap_39 = Mine.hd.heap_39 → ∀ d, Tells w mean mg mb 45 teT d := by
  w_top off
  k_fill
  intro _ _ d
  unfold Tells
  intro dp un gd cn cs a ccd cl outer A₀ base h₀ L m news s vs Q E B F X N T hk hR hok hd hu hret
  obtain ⟨nu, x, y, z, j, sh, old⟩ := d
  cases hR with
  | @mk l n _ _ _ _ _ _ tn tx ty tz tj ts hm =>
  have h0 : 0 < sh := hok.1
  have h9 : sh ≤ 9 := hok.2
  have hne : sh ≠ 0 := by omega
  refine wpAny_call ?_
  k_dflt ktr_enter
  k_steps
  refine For_invVF (by k_asm) (by rfl) (by rfl) ?_
  k_steps
  have hr0 : 0 ≤ nu.fmod sh := Int.fmod_nonneg_of_pos nu h0
  have hr1 : nu.fmod sh < sh := Int.fmod_lt_of_pos nu h0
  have hidx : (nu.fmod sh).toNat < 9 := by omega
  refine tup_item_str (fun j => shapeTxt.getD j (Str.ofString "")) (by k_asm) (by tb_rel) hr0 (by simp only [List.length_cons, List.length_nil]; omega) (by simp only [List.length_cons, List.length_nil]; omega) ?_ ?_ (by with_unfolding_all rfl)
  · intro j hj
    iterate 9 (rcases j with _ | j; exact ⟨_, rfl⟩)
    simp only [List.length_cons, List.length_nil] at hj
    omega
  intro tkx
  k_steps
  refine' term_loop (f₀ := nu.fdiv 9) (base := news) x y z j (nu.fdiv 9) _ 0 rfl (shape_ok _ hidx).1 (shape_ok _ hidx).2 ?F ?N ?row ?hin ?hb ?hm ?turn rfl ?done
  case F => k_asm
  case N => k_asm
  case row => exact rfl
  case hin => tb_rel
  case hb => exact fun p h => by tb_rel
  case hm => exact rfl
  case turn =>
    intro i c u m u9 f tf ns vs n I oI h tk9 hi hints hl hmeq hc hIa hR F9 N9
    by_cases hstar : c = 42
    · k_steps
      refine PyProof.Rows.eq_str ?_
      rw [star_eq, decide_eq_true hstar]
      k_steps
      dsimp only [TurnM]
      rename News _ _ _ _ => NN
      refine ⟨_, _, _, vs ++ [.int j tj], n + 1, rfl, by k_asm, by (try simp only [List.push_toArray] at NN); exact NN, _, f, tf, ns ++ [j], termFr_s, IntsAre_snoc hints j tj, by simp only [List.length_append, List.length_cons, List.length_nil]; omega, ?_⟩
      rw [if_pos hstar] at hR
      simpa using hR
    · k_steps
      refine PyProof.Rows.eq_str ?_
      rw [star_eq, decide_eq_false hstar]
      k_steps
      refine' tup_item_int (fun j : Nat => if j = 0 then x else if j = 1 then y else z) ?N ?m ?h0 ?h1 ?hz ?f ?_ ?s
      case N => k_asm
      case m => tb_rel
      case h0 => exact Int.fmod_nonneg_of_pos f (by decide)
      case h1 => exact Int.fmod_lt_of_pos f (by decide)
      case hz => simp only [List.length_cons, List.length_nil]; omega
      case s => with_unfolding_all rfl
      case f =>
        intro j hj
        iterate 3 (rcases j with _ | j; exact ⟨_, rfl⟩)
        simp only [List.length_cons, List.length_nil] at hj
        omega
      intro tk8
      rw [pick_eq x y z f]
      k_steps
      dsimp only [TurnM]
      rename News _ _ _ _ => NN
      refine ⟨_, _, _, vs ++ [.int (pick x y z f) tk8], n + 1, rfl, by k_asm, by (try simp only [List.push_toArray] at NN); exact NN, _, f.fdiv 3, _, ns ++ [pick x y z f], termFr_f, IntsAre_snoc hints _ tk8, by simp only [List.length_append, List.length_cons, List.length_nil]; omega, ?_⟩
      rw [if_neg hstar] at hR
      simpa using hR
  case done =>
    intro u f tf vs n h tk9 hints F9 N9
    k_steps
    exact hret _ _ _ _ (by k_asm) (by k_asm) (.cons (.refl _) (by assumption)) ⟨_, _, _, rfl, List.mem_cons_self, hints, by assumption⟩
end

section
def zeros : List Int → Nat → List Nat
  | [], _ => []
  | v :: r, k => if v = 0 then k :: zeros r (k + 1) else zeros r (k + 1)
theorem zeros_range : ∀ (l : List Int) (k : Nat), ((List.range l.length).filter fun p => l.getD p 0 == 0).map (k + ·) = zeros l k
  | [], _ => rfl
  | v :: r, k => by
    have ih := zeros_range r (k + 1)
    rw [List.length_cons, List.range_succ_eq_map, List.filter_cons, List.filter_map]
    have e1 : ((fun p => (v :: r).getD p 0 == 0) ∘ Nat.succ) = fun p => r.getD p 0 == 0 := rfl
    rw [e1]
    have e2 : ((List.filter (fun p => r.getD p 0 == 0) (List.range r.length)).map Nat.succ).map (k + ·) = zeros r (k + 1) := by
      rw [← ih, List.map_map]
      apply List.map_congr_left
      intro a _
      simp only [Function.comp]
      omega
    unfold zeros
    by_cases h : v = 0
    · rw [if_pos h, if_pos (by rw [h]; rfl), List.map_cons, e2]; rfl
    · rw [if_neg h, if_neg (by intro q; exact h (beq_iff_eq.mp q)), e2]
theorem zeros_append : ∀ (a b : List Int) (k : Nat), zeros (a ++ b) k = zeros a k ++ zeros b (k + a.length)
  | [], b, k => by simp [zeros]
  | v :: r, b, k => by
    have ih := zeros_append r b (k + 1)
    have e : k + 1 + r.length = k + (r.length + 1) := by omega
    simp only [List.cons_append, zeros, List.length_cons]
    rw [ih, e]
    by_cases h : v = 0
    · rw [if_pos h, if_pos h]; rfl
    · rw [if_neg h, if_neg h]
theorem zeros_none : ∀ (a : List Int) (k : Nat), (∀ v ∈ a, v ≠ 0) → zeros a k = []
  | [], _, _ => rfl
  | v :: r, k, h => by
    unfold zeros
    rw [if_neg (h v List.mem_cons_self)]
    exact zeros_none r (k + 1) fun w hw => h w (List.mem_cons_of_mem _ hw)
end

section
def Tm.ints (j : Int) : Tm → List Int
  | .leaf i => [i]
  | .node a b => j :: (a.ints j ++ b.ints j)
theorem Tm.ints_length (j : Int) : ∀ t : Tm, (t.ints j).length = t.size
  | .leaf _ => rfl
  | .node a b => by simp only [Tm.ints, Tm.size, List.length_cons, List.length_append, a.ints_length j, b.ints_length j]
theorem Tm.ints_written (j : Int) : ∀ t : Tm, t.written (some j) = (t.ints j).map some
  | .leaf _ => rfl
  | .node a b => by simp only [Tm.ints, Tm.written, a.ints_written j, b.ints_written j, List.map_cons, List.map_append]
/-- all letters of a term answer to P -/
def Tm.All (P : Int → Prop) : Tm → Prop
  | .leaf i => P i
  | .node a b => a.All P ∧ b.All P
theorem Tm.All.mono {P Q : Int → Prop} (h : ∀ i, P i → Q i) : ∀ {t : Tm}, t.All P → t.All Q
  | .leaf _, x => h _ x
  | .node _ _, ⟨x, y⟩ => ⟨x.mono h, y.mono h⟩
theorem Tm.all_ints {P : Int → Prop} {j : Int} (hj : P j) : ∀ {t : Tm}, t.All P → ∀ v ∈ t.ints j, P v
  | .leaf i, x, v, hv => by rw [List.mem_singleton.mp hv]; exact x
  | .node a b, ⟨x, y⟩, v, hv => by
    rcases List.mem_cons.mp hv with rfl | hv
    · exact hj
    · rcases List.mem_append.mp hv with hv | hv
      · exact Tm.all_ints hj x v hv
      · exact Tm.all_ints hj y v hv
theorem read_ints {j : Int} (hj : 256 ≤ j) : ∀ (t : Tm), t.All (· < 256) → ∀ (pre post : List Int), ReadAt (pre ++ t.ints j ++ post) pre.length t (pre.length + t.size)
  | .leaf i, h, pre, post => .leaf (by simp [Tm.ints]) h
  | .node a b, ⟨ha, hb⟩, pre, post => by
    have e1 : pre ++ (Tm.node a b).ints j ++ post = (pre ++ [j]) ++ a.ints j ++ (b.ints j ++ post) := by simp [Tm.ints]
    have e2 : pre ++ (Tm.node a b).ints j ++ post = (pre ++ [j] ++ a.ints j) ++ b.ints j ++ post := by simp [Tm.ints]
    have ra := read_ints hj a ha (pre ++ [j]) (b.ints j ++ post)
    have rb := read_ints hj b hb (pre ++ [j] ++ a.ints j) post
    rw [← e1] at ra
    rw [← e2] at rb
    have l1 : (pre ++ [j]).length = pre.length + 1 := by simp
    have l2 : (pre ++ [j] ++ a.ints j).length = pre.length + 1 + a.size := by simp [Tm.ints_length]; omega
    rw [l1] at ra
    rw [l2] at rb
    have l3 : pre.length + (Tm.node a b).size = pre.length + 1 + a.size + b.size := by simp only [Tm.size]; omega
    rw [l3]
    exact .node (j := j) (by simp [Tm.ints]) hj ra rb
/-- the term of a shape -/
def treeOf (k : Nat) (a b c d : Int) : Tm :=
  match k with
  | 0 => .leaf a
  | 1 => .node (.leaf a) (.leaf b)
  | 2 => .node (.node (.leaf a) (.leaf b)) (.leaf c)
  | 3 => .node (.leaf a) (.node (.leaf b) (.leaf c))
  | 4 => .node (.node (.leaf a) (.leaf b)) (.node (.leaf c) (.leaf d))
  | 5 => .node (.node (.node (.leaf a) (.leaf b)) (.leaf c)) (.leaf d)
  | 6 => .node (.leaf a) (.node (.leaf b) (.node (.leaf c) (.leaf d)))
  | 7 => .node (.node (.leaf a) (.node (.leaf b) (.leaf c))) (.leaf d)
  | _ => .node (.leaf a) (.node (.node (.leaf b) (.leaf c)) (.leaf d))
theorem tree_all {P : Int → Prop} {a b c d : Int} (ha : P a) (hb : P b) (hc : P c) (hd : P d) : ∀ k, (treeOf k a b c d).All P := by
  intro k
  unfold treeOf
  split <;> simp only [Tm.All] <;> (repeat' (first | assumption | apply And.intro))
theorem row_tree (x y z j f : Int) : ∀ k : Nat, k < 9 → termRow x y z j (shapeOf (k : Int)) f = (treeOf k (pick x y z f) (pick x y z (f.fdiv 3)) (pick x y z ((f.fdiv 3).fdiv 3)) (pick x y z (((f.fdiv 3).fdiv 3).fdiv 3))).ints j := by
  intro k hk
  iterate 9 (rcases k with _ | k; exact rfl)
  omega
theorem pick_all {P : Int → Prop} {x y z : Int} (hx : P x) (hy : P y) (hz : P z) (f : Int) : P (pick x y z f) := by
  unfold pick
  by_cases h0 : f.fmod 3 = 0
  · rw [if_pos h0]; exact hx
  · rw [if_neg h0]
    by_cases h1 : f.fmod 3 = 1
    · rw [if_pos h1]; exact hy
    · rw [if_neg h1]; exact hz
end

section
theorem tape_ends (r1 r2 r3 : List Int) (h1 : ∀ v ∈ r1, v ≠ 0) (h2 : ∀ v ∈ r2, v ≠ 0) (h3 : ∀ v ∈ r3, v ≠ 0) :
    zeros ([] ++ r1 ++ [0] ++ r2 ++ [0] ++ r3 ++ [0]) 0 = [r1.length, r1.length + 1 + r2.length, r1.length + 1 + r2.length + 1 + r3.length] := by
  simp only [zeros_append, zeros_none _ _ h1, zeros_none _ _ h2, zeros_none _ _ h3, List.nil_append, List.append_nil, List.length_append, List.length_cons, List.length_nil, zeros, if_true, List.cons_append]
  congr 1
  · omega
  · congr 1
    · omega
    · congr 1; omega
theorem tape_reads {J : Int} (hJ : 256 ≤ J) (A B C : Tm) (ha : A.All (· < 256)) (hb : B.All (· < 256)) (hc : C.All (· < 256)) (tp : List Int) (htp : tp = [] ++ A.ints J ++ [0] ++ B.ints J ++ [0] ++ C.ints J ++ [0]) :
    ReadAt tp 0 A A.size ∧ ReadAt tp (A.size + 1) B (A.size + 1 + B.size) ∧ ReadAt tp (A.size + 1 + B.size + 1) C (A.size + 1 + B.size + 1 + C.size) := by
  have e1 : tp = [] ++ A.ints J ++ ([0] ++ B.ints J ++ [0] ++ C.ints J ++ [0]) := by rw [htp]; simp
  have e2 : tp = (A.ints J ++ [0]) ++ B.ints J ++ ([0] ++ C.ints J ++ [0]) := by rw [htp]; simp
  have e3 : tp = (A.ints J ++ [0] ++ B.ints J ++ [0]) ++ C.ints J ++ [0] := by rw [htp]; simp
  have r1 := read_ints hJ A ha [] ([0] ++ B.ints J ++ [0] ++ C.ints J ++ [0])
  have r2 := read_ints hJ B hb (A.ints J ++ [0]) ([0] ++ C.ints J ++ [0])
  have r3 := read_ints hJ C hc (A.ints J ++ [0] ++ B.ints J ++ [0]) [0]
  rw [← e1] at r1
  rw [← e2] at r2
  rw [← e3] at r3
  have l2 : (A.ints J ++ [0]).length = A.size + 1 := by simp [Tm.ints_length]
  have l3 : (A.ints J ++ [0] ++ B.ints J ++ [0]).length = A.size + 1 + B.size + 1 := by simp [Tm.ints_length]; omega
  rw [l2] at r2
  rw [l3] at r3
  simp only [List.length_nil, Nat.zero_add] at r1
  exact ⟨r1, r2, r3⟩
def termOf (n sh x y z : Int) : Tm := treeOf (n.fmod sh).toNat (pick x y z (n.fdiv 9)) (pick x y z ((n.fdiv 9).fdiv 3)) (pick x y z (((n.fdiv 9).fdiv 3).fdiv 3)) (pick x y z ((((n.fdiv 9).fdiv 3).fdiv 3).fdiv 3))
theorem row_term (n sh x y z j : Int) (h0 : 0 < sh) (h9 : sh ≤ 9) : termRow x y z j (shapeOf (n.fmod sh)) (n.fdiv 9) = (termOf n sh x y z).ints j := by
  have hr0 : 0 ≤ n.fmod sh := Int.fmod_nonneg_of_pos n h0
  have hr1 : n.fmod sh < sh := Int.fmod_lt_of_pos n h0
  have h := row_tree x y z j (n.fdiv 9) (n.fmod sh).toNat (by omega)
  rw [Int.toNat_of_nonneg hr0] at h
  exact h
theorem term_all {P : Int → Prop} {n sh x y z : Int} (hx : P x) (hy : P y) (hz : P z) : (termOf n sh x y z).All P :=
  tree_all (pick_all hx hy hz _) (pick_all hx hy hz _) (pick_all hx hy hz _) (pick_all hx hy hz _) _
theorem tree_size (a b c d : Int) : ∀ k, (treeOf k a b c d).size ≤ 7 := by
  intro k
  unfold treeOf
  split <;> simp only [Tm.size] <;> omega
theorem tree_height (a b c d : Int) : ∀ k, (treeOf k a b c d).height ≤ 4 := by
  intro k
  unfold treeOf
  split <;> simp only [Tm.height] <;> omega
end

section
def Tm.subst (f : Int → Tm) : Tm → Tm
  | .leaf i => f i
  | .node a b => .node (a.subst f) (b.subst f)
/-- turns until the head is stuck, none when the fuel ends first -/
def Tm.run (s k : Int) : Nat → Tm × List Tm → Option (Tm × List Tm)
  | 0, _ => none
  | n + 1, x => match Tm.turn s k x with
    | none => some x
    | some y => Tm.run s k n y
def Tm.ledN (n : Nat) (s k : Int) : Nat → Tm → Option Tm
  | 0, _ => none
  | d + 1, t => match Tm.run s k n (t, []) with
    | none => none
    | some x => Tm.joined (Tm.ledN n s k d) x.1 x.2
theorem turns_stuck {s k : Int} {x : Tm × List Tm} (h : Tm.turn s k x = none) : ∀ m, Tm.turns s k m x = x
  | 0 => rfl
  | m + 1 => by simp only [Tm.turns, h]
theorem unpack {s k : Int} (f : Tm → Option Tm) (d : Nat) (hf : ∀ u : Tm, u.All (fun i => i ≠ s ∧ i ≠ k) → u.height ≤ d → f u = some u) :
    ∀ t : Tm, t.All (fun i => i ≠ s ∧ i ≠ k) → t.height ≤ d + 1 → ∀ m, t.height ≤ m → ∀ r, Tm.joined f (Tm.turns s k m (t, r)).1 (Tm.turns s k m (t, r)).2 = Tm.joined f t r
  | .leaf i, ha, _, m, _, r => by
    have e : Tm.turn s k (.leaf i, r) = none := by
      obtain ⟨h1, h2⟩ := ha
      simp [Tm.turn, h1, h2]
    rw [turns_stuck e]
  | .node a b, ⟨ha, hb⟩, hd, m, hm, r => by
    simp only [Tm.height] at hd hm
    obtain ⟨m, rfl⟩ : ∃ m', m = m' + 1 := ⟨m - 1, by omega⟩
    have e : Tm.turns s k (m + 1) (.node a b, r) = Tm.turns s k m (a, b :: r) := rfl
    rw [e, unpack f d hf a ha (by omega) m (by omega) (b :: r)]
    simp only [Tm.joined, hf b hb (by omega)]
theorem normal_led {s k : Int} : ∀ (d : Nat) (t : Tm), t.All (fun i => i ≠ s ∧ i ≠ k) → t.height ≤ d → t.height ≤ 400 → Tm.led s k d t = some t
  | 0, t, _, h, _ => by cases t <;> simp [Tm.height] at h
  | d + 1, t, ha, h, h4 => by
    have e := unpack (s := s) (k := k) (Tm.led s k d) (min d 400) (fun u hu hd => normal_led d u hu (by omega) (by omega)) t ha (by omega) 400 h4 []
    exact e.trans rfl
theorem sim_turn {s k : Int} {f : Int → Tm} (hs : f 3 = .leaf s) (hk : f 4 = .leaf k) (hsk : s ≠ k) {h : Tm} {r : List Tm} {y : Tm × List Tm} (e : Tm.turn 3 4 (h, r) = some y) :
    Tm.turn s k (h.subst f, r.map (Tm.subst f)) = some (y.1.subst f, y.2.map (Tm.subst f)) := by
  cases h with
  | node a b => simp only [Tm.turn, Option.some.injEq] at e; subst e; rfl
  | leaf i =>
    simp only [Tm.turn] at e
    have g : ∀ j, j < r.length → (r.map (Tm.subst f)).getD j (.leaf 0) = (r.getD j (.leaf 0)).subst f := fun j hj => by simp [hj]
    by_cases h1 : i = 4 ∧ 1 < r.length
    · rw [if_pos h1, Option.some.injEq] at e
      subst e
      obtain ⟨rfl, h1⟩ := h1
      simp only [Tm.subst, hk, Tm.turn, List.length_map, h1, and_self, if_true, Option.some.injEq, Prod.mk.injEq]
      exact ⟨g 0 (by omega), by rw [List.map_drop]⟩
    · rw [if_neg h1] at e
      by_cases h2 : i = 3 ∧ 2 < r.length
      · rw [if_pos h2, Option.some.injEq] at e
        subst e
        obtain ⟨rfl, h2⟩ := h2
        simp only [Tm.subst, hs, Tm.turn, List.length_map, hsk, false_and, if_false, h2, and_self, if_true, Option.some.injEq, Prod.mk.injEq, List.map_cons]
        exact ⟨g 0 (by omega), by rw [g 2 (by omega), g 1 (by omega), List.map_drop]⟩
      · rw [if_neg h2] at e; cases e
theorem sim_run {s k : Int} {f : Int → Tm} (hs : f 3 = .leaf s) (hk : f 4 = .leaf k) (hsk : s ≠ k) : ∀ (n : Nat) (x y : Tm × List Tm), Tm.run 3 4 n x = some y → ∀ N, n ≤ N → ∃ m, N ≤ m + n ∧ Tm.turn 3 4 y = none ∧
    Tm.turns s k N (x.1.subst f, x.2.map (Tm.subst f)) = Tm.turns s k m (y.1.subst f, y.2.map (Tm.subst f))
  | 0, x, y, h, N, hN => by simp [Tm.run] at h
  | n + 1, x, y, h, N, hN => by
    simp only [Tm.run] at h
    cases hx : Tm.turn 3 4 x with
    | none =>
      rw [hx] at h
      cases h
      exact ⟨N, by omega, hx, rfl⟩
    | some y' =>
      rw [hx] at h
      obtain ⟨N, rfl⟩ : ∃ N', N = N' + 1 := ⟨N - 1, by omega⟩
      obtain ⟨m, h1, h2, h3⟩ := sim_run hs hk hsk n y' y h N (by omega)
      refine ⟨m, by omega, h2, ?_⟩
      rw [← h3]
      have e := sim_turn hs hk hsk (h := x.1) (r := x.2) hx
      simp only [Tm.turns, e]
theorem sim_joined {f : Int → Tm} {g g' : Tm → Option Tm} (h : ∀ t u, g t = some u → g' (t.subst f) = some (u.subst f)) : ∀ (r : List Tm) (t u : Tm), Tm.joined g t r = some u → Tm.joined g' (t.subst f) (r.map (Tm.subst f)) = some (u.subst f)
  | [], t, u, e => by simp only [Tm.joined, Option.some.injEq] at e; subst e; rfl
  | p :: r, t, u, e => by
    simp only [Tm.joined] at e
    cases hp : g p with
    | none => rw [hp] at e; cases e
    | some q =>
      rw [hp] at e
      simp only [List.map_cons, Tm.joined, h p q hp]
      exact sim_joined h r (.node t q) u e
theorem sim_led {n : Nat} {s k : Int} {f : Int → Tm} (hs : f 3 = .leaf s) (hk : f 4 = .leaf k) (hsk : s ≠ k) (hf : ∀ i, i ≠ 3 → i ≠ 4 → (f i).All (fun j => j ≠ s ∧ j ≠ k) ∧ (f i).height ≤ 4) (hn : n ≤ 390) :
    ∀ (d : Nat) (t u : Tm), Tm.ledN n 3 4 d t = some u → Tm.led s k (d + 4) (t.subst f) = some (u.subst f)
  | 0, t, u, e => by simp [Tm.ledN] at e
  | d + 1, t, u, e => by
    simp only [Tm.ledN] at e
    cases hx : Tm.run 3 4 n (t, []) with
    | none => rw [hx] at e; cases e
    | some x =>
      rw [hx] at e
      obtain ⟨h, r⟩ := x
      obtain ⟨m, h1, h2, h3⟩ := sim_run hs hk hsk n _ _ hx 400 (by omega)
      have IH := sim_led hs hk hsk hf hn d
      have j := sim_joined IH r h u e
      show Tm.joined (Tm.led s k (d + 4)) (Tm.turns s k 400 (t.subst f, [])).1 (Tm.turns s k 400 (t.subst f, [])).2 = _
      have h3' : Tm.turns s k 400 (t.subst f, []) = Tm.turns s k m (h.subst f, r.map (Tm.subst f)) := h3
      rw [h3', ← j]
      cases h with
      | node a b => simp [Tm.turn] at h2
      | leaf i =>
        by_cases h4 : i = 4
        · subst h4
          have : ¬ 1 < r.length := fun hr => by simp [Tm.turn, hr] at h2
          have e' : Tm.turn s k ((Tm.leaf 4).subst f, r.map (Tm.subst f)) = none := by
            simp only [Tm.subst, hk, Tm.turn, List.length_map, this, and_false, if_false, Ne.symm hsk, false_and]
          rw [turns_stuck e']
        · by_cases h5 : i = 3
          · subst h5
            have : ¬ 2 < r.length := fun hr => by simp [Tm.turn, hr] at h2
            have e' : Tm.turn s k ((Tm.leaf 3).subst f, r.map (Tm.subst f)) = none := by
              simp only [Tm.subst, hs, Tm.turn, List.length_map, this, and_false, if_false, hsk, false_and]
            rw [turns_stuck e']
          · obtain ⟨g1, g2⟩ := hf i h5 h4
            exact unpack (Tm.led s k (d + 4)) 4 (fun u hu hd => normal_led (d + 4) u hu (by omega) (by omega)) (f i) g1 (by omega) m (by omega) _

def Tm.low (t : Tm) : Prop := t.All (fun i => 0 ≤ i ∧ i < 5)
theorem has_subst {f : Int → Tm} {ρ : Int → Int} (hf : ∀ i, 0 ≤ i → i < 5 → f i = .leaf (ρ i)) (inj : ∀ i j, 0 ≤ i → i < 5 → 0 ≤ j → j < 5 → ρ i = ρ j → i = j) {l : Int} (h0 : 0 ≤ l) (h5 : l < 5) : ∀ t : Tm, t.low → (t.subst f).has (ρ l) = t.has l
  | .leaf i, ⟨a, b⟩ => by
    simp only [Tm.subst, hf i a b, Tm.has]
    by_cases h : i = l
    · subst h; simp
    · rw [decide_eq_false h, decide_eq_false fun e => h (inj i l a b h0 h5 e)]
  | .node a b, ⟨ha, hb⟩ => by
    show ((a.subst f).has (ρ l) || (b.subst f).has (ρ l)) = (a.has l || b.has l)
    rw [has_subst hf inj h0 h5 a ha, has_subst hf inj h0 h5 b hb]
theorem without_subst {f : Int → Tm} {ρ : Int → Int} (hf : ∀ i, 0 ≤ i → i < 5 → f i = .leaf (ρ i)) (inj : ∀ i j, 0 ≤ i → i < 5 → 0 ≤ j → j < 5 → ρ i = ρ j → i = j) {l : Int} (h0 : 0 ≤ l) (h5 : l < 5) : ∀ t : Tm, t.low → (t.without l 3 4).subst f = (t.subst f).without (ρ l) (ρ 3) (ρ 4)
  | .leaf i, ⟨a, b⟩ => by
    have e3 := hf 3 (by decide) (by decide)
    have e4 := hf 4 (by decide) (by decide)
    simp only [Tm.subst, hf i a b, Tm.without]
    by_cases h : i = l
    · subst h; simp [Tm.subst, e3, e4]
    · rw [if_neg h, if_neg fun e => h (inj i l a b h0 h5 e)]
      simp only [Tm.subst, hf i a b, e4]
  | .node a b, ⟨ha, hb⟩ => by
    have e3 := hf 3 (by decide) (by decide)
    have e4 := hf 4 (by decide) (by decide)
    have h := has_subst hf inj h0 h5 (.node a b) ⟨ha, hb⟩
    have h' : (Tm.node (a.subst f) (b.subst f)).has (ρ l) = (Tm.node a b).has l := h
    simp only [Tm.subst, Tm.without, h']
    by_cases hh : (Tm.node a b).has l = true
    · rw [if_pos hh, if_pos hh]
      simp only [Tm.subst, without_subst hf inj h0 h5 a ha, without_subst hf inj h0 h5 b hb, e3]
    · rw [if_neg hh, if_neg hh]
      simp only [Tm.subst, e4]
theorem without_low {l : Int} : ∀ t : Tm, t.low → (t.without l 3 4).low
  | .leaf i, ⟨a, b⟩ => by
    simp only [Tm.without]
    by_cases h : i = l
    · rw [if_pos h]; simp [Tm.low, Tm.All]
    · rw [if_neg h]; simp [Tm.low, Tm.All, a, b]
  | .node a b, ⟨ha, hb⟩ => by
    simp only [Tm.without]
    by_cases h : (Tm.node a b).has l = true
    · rw [if_pos h]
      exact ⟨⟨⟨by decide, by decide⟩, without_low a ha⟩, without_low b hb⟩
    · rw [if_neg h]
      exact ⟨⟨by decide, by decide⟩, ha, hb⟩
def heldG (i : Int) : Tm := if i = 0 then .leaf 100 else if i = 1 then .leaf 101 else .leaf i
def ledOk (t : Tm) : Bool := decide (Tm.ledN 60 3 4 8 (.node (.node ((t.without 1 3 4).without 0 3 4) (.leaf 100)) (.leaf 101)) = some (t.subst heldG))
theorem led_all : ∀ k < 9, ∀ a < 3, ∀ b < 3, ∀ c < 3, ∀ d < 3, ledOk (treeOf k (Int.ofNat a) (Int.ofNat b) (Int.ofNat c) (Int.ofNat d)) = true := by decide +kernel
end

section
def letF (x y z s k : Int) (i : Int) : Int := if i = 0 then x else if i = 1 then y else if i = 2 then z else if i = 3 then s else if i = 4 then k else z
def letT (x y z s k : Int) (B C : Tm) (i : Int) : Tm := if i = 100 then B else if i = 101 then C else .leaf (letF x y z s k i)
theorem pick_low (f : Int) : ∃ a : Nat, a < 3 ∧ pick 0 1 2 f = Int.ofNat a := by
  unfold pick
  by_cases h0 : f.fmod 3 = 0
  · rw [if_pos h0]; exact ⟨0, by decide, rfl⟩
  · rw [if_neg h0]
    by_cases h1 : f.fmod 3 = 1
    · rw [if_pos h1]; exact ⟨1, by decide, rfl⟩
    · rw [if_neg h1]; exact ⟨2, by decide, rfl⟩
theorem pick_letT (x y z s k : Int) (B C : Tm) (f : Int) : letT x y z s k B C (pick 0 1 2 f) = .leaf (pick x y z f) := by
  unfold pick
  by_cases h0 : f.fmod 3 = 0
  · rw [if_pos h0, if_pos h0]; rfl
  · rw [if_neg h0, if_neg h0]
    by_cases h1 : f.fmod 3 = 1
    · rw [if_pos h1, if_pos h1]; rfl
    · rw [if_neg h1, if_neg h1]; rfl
theorem tree_subst (f : Int → Tm) {a b c d a' b' c' d' : Int} (ha : f a = .leaf a') (hb : f b = .leaf b') (hc : f c = .leaf c') (hd : f d = .leaf d') (k : Nat) : (treeOf k a b c d).subst f = treeOf k a' b' c' d' := by
  unfold treeOf
  split <;> simp only [Tm.subst, ha, hb, hc, hd]
theorem term_subst (n sh x y z s k : Int) (B C : Tm) : (termOf n sh 0 1 2).subst (letT x y z s k B C) = termOf n sh x y z :=
  tree_subst _ (pick_letT ..) (pick_letT ..) (pick_letT ..) (pick_letT ..) _
theorem term_low (n sh : Int) : (termOf n sh 0 1 2).low := term_all (P := fun i => 0 ≤ i ∧ i < 5) (by decide) (by decide) (by decide)
theorem subst_subst (f g h : Int → Tm) : ∀ t : Tm, t.All (fun i => (g i).subst f = (f i).subst h) → (t.subst g).subst f = (t.subst f).subst h
  | .leaf i, e => e
  | .node a b, ⟨ha, hb⟩ => by simp only [Tm.subst, subst_subst f g h a ha, subst_subst f g h b hb]
def subst2 (x y : Int) (B C : Tm) (i : Int) : Tm := if i = x then B else if i = y then C else .leaf i
theorem led_law {x y z s k : Int} (xy : x ≠ y) (xz : x ≠ z) (xs : x ≠ s) (xk : x ≠ k) (yz : y ≠ z) (ys : y ≠ s) (yk : y ≠ k) (zs : z ≠ s) (zk : z ≠ k) (sk : s ≠ k)
    (n sh : Int) (h0 : 0 < sh) (h9 : sh ≤ 9) {A B C : Tm} (eA : A = termOf n sh x y z) (hB : B.All (fun i => i ≠ s ∧ i ≠ k)) (hC : C.All (fun i => i ≠ s ∧ i ≠ k)) (bh : B.height ≤ 4) (ch : C.height ≤ 4) :
    Tm.led s k 12 (.node (.node ((A.without y s k).without x s k) B) C) = some (A.subst (subst2 x y B C)) := by
  have inj : ∀ i j : Int, 0 ≤ i → i < 5 → 0 ≤ j → j < 5 → letF x y z s k i = letF x y z s k j → i = j := by
    intro i j i0 i5 j0 j5 e
    have hi : i = 0 ∨ i = 1 ∨ i = 2 ∨ i = 3 ∨ i = 4 := by omega
    have hj : j = 0 ∨ j = 1 ∨ j = 2 ∨ j = 3 ∨ j = 4 := by omega
    rcases hi with rfl | rfl | rfl | rfl | rfl <;> rcases hj with rfl | rfl | rfl | rfl | rfl <;> first | rfl | (exfalso; simp [letF] at e; first | exact absurd e (by assumption) | exact absurd e.symm (by assumption))
  have hf : ∀ i : Int, 0 ≤ i → i < 5 → letT x y z s k B C i = .leaf (letF x y z s k i) := by
    intro i a b
    unfold letT
    rw [if_neg (by omega), if_neg (by omega)]
  have hr0 : 0 ≤ n.fmod sh := Int.fmod_nonneg_of_pos n h0
  have hr1 : n.fmod sh < sh := Int.fmod_lt_of_pos n h0
  have ok : ledOk (termOf n sh 0 1 2) = true := by
    unfold termOf
    obtain ⟨a, ha, ea⟩ := pick_low (n.fdiv 9)
    obtain ⟨b, hb, eb⟩ := pick_low ((n.fdiv 9).fdiv 3)
    obtain ⟨c, hc, ec⟩ := pick_low (((n.fdiv 9).fdiv 3).fdiv 3)
    obtain ⟨d, hd, ed⟩ := pick_low ((((n.fdiv 9).fdiv 3).fdiv 3).fdiv 3)
    rw [ea, eb, ec, ed]
    exact led_all _ (by omega) a ha b hb c hc d hd
  have e := of_decide_eq_true ok
  have low := term_low n sh
  have sim := sim_led (s := s) (k := k) (f := letT x y z s k B C) (by simp [letT, letF]) (by simp [letT, letF]) sk (fun i h3 h4 => by
    unfold letT
    by_cases g1 : i = 100
    · rw [if_pos g1]; exact ⟨hB, bh⟩
    · rw [if_neg g1]
      by_cases g2 : i = 101
      · rw [if_pos g2]; exact ⟨hC, ch⟩
      · rw [if_neg g2]
        refine ⟨?_, show (1 : Nat) ≤ 4 by decide⟩
        show letF x y z s k i ≠ s ∧ letF x y z s k i ≠ k
        unfold letF
        rw [if_neg h3, if_neg h4]
        by_cases g3 : i = 0
        · rw [if_pos g3]; exact ⟨xs, xk⟩
        · rw [if_neg g3]
          by_cases g4 : i = 1
          · rw [if_pos g4]; exact ⟨ys, yk⟩
          · rw [if_neg g4, ite_self]; exact ⟨zs, zk⟩) (by decide) 8 _ _ e
  have w1 := without_subst hf inj (l := 1) (by decide) (by decide) _ low
  have w0 := without_subst hf inj (l := 0) (by decide) (by decide) _ (without_low (l := 1) _ low)
  rw [w1, term_subst, ← eA] at w0
  have e4 : ∀ u v : Tm, (Tm.node u v).subst (letT x y z s k B C) = .node (u.subst (letT x y z s k B C)) (v.subst (letT x y z s k B C)) := fun _ _ => rfl
  rw [e4, e4, w0] at sim
  refine sim.trans (congrArg some ?_)
  rw [subst_subst (letT x y z s k B C) heldG (subst2 x y B C), term_subst, ← eA]
  refine term_all (P := fun i => (heldG i).subst (letT x y z s k B C) = (letT x y z s k B C i).subst (subst2 x y B C)) ?_ ?_ ?_
  · simp [heldG, letT, letF, Tm.subst, subst2]
  · simp [heldG, letT, letF, Tm.subst, subst2, xy.symm]
  · simp [heldG, letT, letF, Tm.subst, subst2, xz.symm, yz.symm]

theorem subst2_ints (x y j : Int) (B C : Tm) (hx : j ≠ x) (hy : j ≠ y) : ∀ t : Tm, (t.subst (subst2 x y B C)).ints j = (t.ints j).flatMap fun v => if v = x then B.ints j else if v = y then C.ints j else [v]
  | .leaf i => by
    simp only [Tm.subst, Tm.ints, List.flatMap_cons, List.flatMap_nil, List.append_nil, subst2]
    by_cases h : i = x
    · rw [if_pos h, if_pos h]
    · rw [if_neg h, if_neg h]
      by_cases h' : i = y
      · rw [if_pos h', if_pos h']
      · rw [if_neg h', if_neg h']; rfl
  | .node a b => by
    simp only [Tm.subst, Tm.ints, List.flatMap_cons, List.flatMap_append, subst2_ints x y j B C hx hy a, subst2_ints x y j B C hx hy b, if_neg hx, if_neg hy, List.cons_append, List.nil_append]
theorem without_size (l s k : Int) : ∀ t : Tm, (t.without l s k).size + 3 ≤ 8 * t.size
  | .leaf i => by
    simp only [Tm.without]
    by_cases h : i = l
    · rw [if_pos h]; simp [Tm.size]
    · rw [if_neg h]; simp [Tm.size]
  | .node a b => by
    have ha := without_size l s k a
    have hb := without_size l s k b
    simp only [Tm.without]
    by_cases h : (Tm.node a b).has l = true
    · rw [if_pos h]; simp only [Tm.size]; omega
    · rw [if_neg h]; simp only [Tm.size]; omega
theorem without_height (l s k : Int) : ∀ t : Tm, (t.without l s k).height ≤ 2 * t.height + 1
  | .leaf i => by
    simp only [Tm.without]
    by_cases h : i = l
    · rw [if_pos h]; simp [Tm.height]
    · rw [if_neg h]; simp [Tm.height]
  | .node a b => by
    have ha := without_height l s k a
    have hb := without_height l s k b
    simp only [Tm.without]
    by_cases h : (Tm.node a b).has l = true
    · rw [if_pos h]; simp only [Tm.height]; omega
    · rw [if_neg h]; simp only [Tm.height]; omega
theorem without_all {P : Int → Prop} {l s k : Int} (hs : P s) (hk : P k) : ∀ t : Tm, t.All P → (t.without l s k).All P
  | .leaf i, h => by
    simp only [Tm.without]
    by_cases g : i = l
    · rw [if_pos g]; exact ⟨⟨hs, hk⟩, hk⟩
    · rw [if_neg g]; exact ⟨hk, h⟩
  | .node a b, ⟨ha, hb⟩ => by
    simp only [Tm.without]
    by_cases h : (Tm.node a b).has l = true
    · rw [if_pos h]; exact ⟨⟨hs, without_all hs hk a ha⟩, without_all hs hk b hb⟩
    · rw [if_neg h]; exact ⟨hk, ha, hb⟩
end

section
open PySem PySem.W PyProof.Rows PySem.Calls PySem.Spec PyProof.Rows.LCg
def IsT (p : Addr × Obj) : Prop := p.2.cls = .type "tuple" ∧ ∃ vs n, p.2.data = .seq vs n
theorem TmIn.monoT {news news' : Ledger} {v : Value} {t : Tm} (h : TmIn news v t) (hs : ∀ p ∈ news, IsT p → p ∈ news') : TmIn news' v t := by
  induction h with
  | leaf => exact .leaf
  | node hm _ _ i1 i2 => exact .node (hs _ hm ⟨rfl, _, _, rfl⟩) i1 i2
inductive PairsIn (R : Ledger) : List Value → List (Tm × Nat) → Prop where
  | nil : PairsIn R [] []
  | cons {a : Addr} {n : Nat} {vt : Value} {tk : Tok} {t : Tm} {q : Nat} {ys ts} : (a, ({ cls := .type "tuple", data := .seq #[vt, .int (q : Int) tk] n } : Obj)) ∈ R → TmIn R vt t → PairsIn R ys ts → PairsIn R (.ref a :: ys) ((t, q) :: ts)
theorem PairsIn.mono {R R' : Ledger} {ys ts} (h : PairsIn R ys ts) (hs : ∀ p ∈ R, p ∈ R') : PairsIn R' ys ts := by
  induction h with
  | nil => exact .nil
  | cons hm hi _ ih => exact .cons (hs _ hm) (hi.mono hs) ih
theorem PairsIn.append {R : Ledger} {ys ts ys' ts'} (h : PairsIn R ys ts) (h' : PairsIn R ys' ts') : PairsIn R (ys ++ ys') (ts ++ ts') := by
  induction h with
  | nil => exact h'
  | cons hm hi _ ih => exact .cons hm hi ih
open Classical in
/-- what a call leaves: the tuples of its ledger, beside the old rest -/
theorem call_tuples {old nwF R : Ledger} (led : Led old nwF) (hold : ∀ p ∈ old, IsT p → p ∈ R) (hR : ∀ p ∈ R, p ∈ old) :
    ∃ R' : Ledger, (∀ p ∈ R, p ∈ R') ∧ (∀ p ∈ nwF, IsT p → p ∈ R') ∧ (∀ p ∈ R', p ∈ nwF) ∧ ∀ p ∈ R', p ∈ R ∨ ∀ q ∈ old, q.1 < p.1 := by
  refine ⟨R ++ nwF.filter fun p => decide (IsT p), fun p hp => List.mem_append_left _ hp, fun p hp ht => List.mem_append_right _ (List.mem_filter.mpr ⟨hp, decide_eq_true ht⟩), fun p hp => ?_, fun p hp => ?_⟩
  · rcases List.mem_append.mp hp with hp | hp
    · exact led.sub _ (hR p hp)
    · exact (List.mem_filter.mp hp).1
  · rcases List.mem_append.mp hp with hp | hp
    · exact .inl hp
    · obtain ⟨h1, h2⟩ := List.mem_filter.mp hp
      rcases led.ord p h1 with h | h
      · exact .inl (hold p h (of_decide_eq_true h2))
      · exact .inr h
end

section
open PySem PySem.W PyProof.Rows PySem.Calls PySem.Spec
def tripL (v : Int) : List Value := [.bool (decide (v = 0)), .bool (decide (v < 256)), .bool (decide (255 < v))]
def tripD (v : Int) : PyData := .list [.bool (decide (v = 0)), .bool (decide (v < 256)), .bool (decide (255 < v))]
inductive Trips (R : Ledger) : List Value → List Int → Prop where
  | nil : Trips R [] []
  | cons {a : Addr} {n : Nat} {v : Int} {ys vs} : (a, W.listOf (List.toArray (tripL v)) n) ∈ R → Trips R ys vs → Trips R (.ref a :: ys) (v :: vs)
theorem Trips.mono {R R' : Ledger} {ys vs} (h : Trips R ys vs) (hs : ∀ p ∈ R, p ∈ R') : Trips R' ys vs := by
  induction h with
  | nil => exact .nil
  | cons hm _ ih => exact .cons (hs _ hm) ih
theorem Trips.append {R : Ledger} {ys vs ys' vs'} (h : Trips R ys vs) (h' : Trips R ys' vs') : Trips R (ys ++ ys') (vs ++ vs') := by
  induction h with
  | nil => exact h'
  | cons hm _ ih => exact .cons hm ih
theorem Trips.length {R : Ledger} {ys vs} (h : Trips R ys vs) : ys.length = vs.length := by
  induction h with
  | nil => rfl
  | cons _ _ ih => simp [ih]
theorem rv_list {h₀ : Heap} {news : Ledger} {a : Addr} {n : Nat} {vs : List Value} {ds : List PyData} (hm : (a, W.listOf (List.toArray vs) n) ∈ news) (r : ReadsViaAll h₀ news vs ds) : ReadsVia h₀ news (.ref a) (.list ds) := fun h hk hn => by
  obtain ⟨as, ra⟩ := r h hk hn
  exact ⟨a :: as, .list (hn _ hm) rfl rfl (by rw [List.toList_toArray]; exact ra)⟩
theorem Trips.reads {h₀ : Heap} {R : Ledger} {ys vs} (h : Trips R ys vs) : ReadsViaAll h₀ R ys (vs.map tripD) := by
  induction h with
  | nil => exact .nil
  | cons hm _ ih => exact .cons (rv_list hm (.cons (.bool _) (.cons (.bool _) (.cons (.bool _) .nil)))) ih
theorem trips_showable : ∀ vs : List Int, PyData.showableAll (vs.map tripD) = true
  | [] => rfl
  | v :: r => by simp only [List.map_cons, PyData.showableAll, trips_showable r, tripD, PyData.showable, Bool.and_self]
theorem trips_noDict : ∀ vs : List Int, PyData.hasDictAll (vs.map tripD) = false
  | [] => rfl
  | v :: r => by simp only [List.map_cons, PyData.hasDictAll, trips_noDict r, tripD, PyData.hasDict, Bool.or_self]
theorem trips_depth : ∀ vs : List Int, PyData.depthAll (vs.map tripD) ≤ 1
  | [] => Nat.zero_le _
  | v :: r => by
    have := trips_depth r
    simp only [List.map_cons, PyData.depthAll, tripD, PyData.depth]
    omega
theorem textFrom_le (c : Nat) : ∀ (ts : List Str) (k : Nat) (acc : Str), (∀ t ∈ ts, t.length ≤ c) → (textFrom k acc ts).length ≤ acc.length + ts.length * (c + 2)
  | [], k, acc, _ => by show acc.length ≤ acc.length + 0 * (c + 2); omega
  | t :: r, k, acc, h => by
    have ih := textFrom_le c r (k + 1) (acc ++ (if k > 0 then ", " else "" : String) ++ t) fun u hu => h u (List.mem_cons_of_mem _ hu)
    have e : (acc ++ (if k > 0 then ", " else "" : String) ++ t).length ≤ acc.length + (2 + c) := by
      have ht := h t List.mem_cons_self
      have e : (acc ++ (if k > 0 then ", " else "" : String) ++ t).length = acc.length + (if k > 0 then 2 else 0) + t.length := by
        rw [strLen_append, strLen_append]
        split <;> rfl
      rw [e]
      split <;> omega
    show (textFrom (k + 1) (acc ++ (if k > 0 then ", " else "" : String) ++ t) r).length ≤ acc.length + (r.length + 1) * (c + 2)
    rw [Nat.succ_mul]
    omega
theorem listText_le (c : Nat) (ts : List Str) (h : ∀ t ∈ ts, t.length ≤ c) : (listText ts).length ≤ 2 + ts.length * (c + 2) := by
  have := textFrom_le c ts 0 "[" h
  have e1 : ("[" : Str).length = 1 := by decide
  have e2 : ("]" : Str).length = 1 := by decide
  show (textFrom 0 "[" ts ++ ("]" : Str)).length ≤ _
  rw [strLen_append, e2]
  rw [e1] at this
  omega
theorem shownAll_map : ∀ vs : List Int, PyData.shownAll (vs.map tripD) = vs.map fun v => (tripD v).shown
  | [] => rfl
  | v :: r => by simp only [List.map_cons, PyData.shownAll, shownAll_map r]
theorem trip_len (v : Int) : (tripD v).shown.length ≤ 23 := by
  have hb : ∀ b : Bool, (PyData.bool b).shown.length ≤ 5 := by decide +kernel
  have h := listText_le 5 (PyData.shownAll [.bool (decide (v = 0)), .bool (decide (v < 256)), .bool (decide (255 < v))]) (by
    intro t ht
    simp only [PyData.shownAll, List.mem_cons, List.not_mem_nil, or_false] at ht
    rcases ht with rfl | rfl | rfl <;> exact hb _)
  show (PyData.shown (.list _)).length ≤ _
  simp only [PyData.shown]
  exact Nat.le_trans h (by simp only [PyData.shownAll, List.length_cons, List.length_nil]; omega)
theorem trips_len (vs : List Int) : (PyData.list (vs.map tripD)).shown.length ≤ 2 + vs.length * 25 := by
  simp only [PyData.shown]
  have h := listText_le 23 (PyData.shownAll (vs.map tripD)) (by
    intro t ht
    rw [shownAll_map] at ht
    obtain ⟨v, _, rfl⟩ := List.mem_map.mp ht
    exact trip_len v)
  rw [shownAll_map, List.length_map] at h
  rw [shownAll_map]
  exact h
theorem trips_str {prog : Program} {w : World} {A : Around} {E : Value → Shared → Prop} {s : Shared} {h₀ : Heap} {L D : Addr} {m : Str → Option Value} {news : Ledger} {n : Nat} {ys : List Value} {vs : List Int} {Q : Value → Shared → Prop}
    (F : Fr h₀ L s.heap m) (N : News h₀ L s.heap news) (hm : (D, W.listOf (List.toArray ys) n) ∈ news) (h : Trips news ys vs) (hz : vs.length ≤ 1000) (hg : A.guards = some []) (hu : A.units + 5 < cLine)
    (hQ : ∀ h' u tk, Fr h₀ L h' m → News h₀ L h' news → Q (.str (PyData.list (vs.map tripD)).shown u) { s with heap := h', toks := tk }) :
    wpAny (model prog w) A (call (.type "str") [.ref D]) Q E s := by
  refine str_via (rv_list hm h.reads) F N (trips_showable vs) (trips_noDict vs) rfl hg ?_ hQ ?_
  · have := trips_depth vs
    simp only [PyData.depth]
    omega
  · have := trips_len vs
    exact Nat.le_trans this (le_sizeLine (by omega))
theorem eq_str_same {prog : Program} {w : World} {A : Around} {E : Value → Shared → Prop} {s : Shared} {Q : Value → Shared → Prop} {x : Str} {t u : Tok} (h : Q (.bool true) s) : wpAny (model prog w) A (compareOp .Eq (.str x t) (.str x u)) Q E s :=
  eq_str (by rw [beq_self_eq_true]; exact h)
end

section
open PySem PySem.W PyProof.Rows PySem.Calls PySem.Spec
def cellsL (z : Nat) (o1 o2 o3 o4 o5 o6 o7 o8 o9 : Obj) (R : Ledger) : Ledger :=
  (z + 1 + 1 + 1 + 1 + 1 + 1 + 1 + 1 + 1, o1) :: (z + 1 + 1 + 1 + 1 + 1 + 1 + 1 + 1, o2) :: (z + 1 + 1 + 1 + 1 + 1 + 1 + 1, o3) :: (z + 1 + 1 + 1 + 1 + 1 + 1, o4) :: (z + 1 + 1 + 1 + 1 + 1, o5) :: (z + 1 + 1 + 1 + 1, o6) :: (z + 1 + 1 + 1, o7) :: (z + 1 + 1, o8) :: (z + 1, o9) :: R
theorem hide {P : Prop} (h : ∀ G : Prop, (P → G) → G) : P := h P id
section
variable {z : Nat} {o1 o2 o3 o4 o5 o6 o7 o8 o9 : Obj} {ow R R' : Ledger} {p x : Addr × Obj} {h₀ h : Heap} {L : Addr}
theorem cells_in (hp : p ∈ R) : p ∈ cellsL z o1 o2 o3 o4 o5 o6 o7 o8 o9 R := List.mem_append_right (cellsL z o1 o2 o3 o4 o5 o6 o7 o8 o9 []) hp
theorem cells_cell (hp : p ∈ cellsL z o1 o2 o3 o4 o5 o6 o7 o8 o9 []) : p ∈ cellsL z o1 o2 o3 o4 o5 o6 o7 o8 o9 R := List.mem_append_left (as := cellsL z o1 o2 o3 o4 o5 o6 o7 o8 o9 []) R hp
theorem cells_elim (hp : p ∈ cellsL z o1 o2 o3 o4 o5 o6 o7 o8 o9 R) : p ∈ cellsL z o1 o2 o3 o4 o5 o6 o7 o8 o9 [] ∨ p ∈ R := (List.mem_append (s := cellsL z o1 o2 o3 o4 o5 o6 o7 o8 o9 [])).mp hp
theorem cells_push (p) (hp : p ∈ cellsL z o1 o2 o3 o4 o5 o6 o7 o8 o9 (x :: R)) : p = x ∨ p ∈ cellsL z o1 o2 o3 o4 o5 o6 o7 o8 o9 R := by
  rcases cells_elim hp with hc | hp
  · exact .inr (cells_cell hc)
  · rcases List.mem_cons.mp hp with h | hp
    · exact .inl h
    · exact .inr (cells_in hp)
theorem cell1 : (z + 1 + 1 + 1 + 1 + 1 + 1 + 1 + 1 + 1, o1) ∈ cellsL z o1 o2 o3 o4 o5 o6 o7 o8 o9 R := .head _
theorem cell2 : (z + 1 + 1 + 1 + 1 + 1 + 1 + 1 + 1, o2) ∈ cellsL z o1 o2 o3 o4 o5 o6 o7 o8 o9 R := .tail _ (.head _)
theorem cell3 : (z + 1 + 1 + 1 + 1 + 1 + 1 + 1, o3) ∈ cellsL z o1 o2 o3 o4 o5 o6 o7 o8 o9 R := .tail _ (.tail _ (.head _))
theorem cell4 : (z + 1 + 1 + 1 + 1 + 1 + 1, o4) ∈ cellsL z o1 o2 o3 o4 o5 o6 o7 o8 o9 R := .tail _ (.tail _ (.tail _ (.head _)))
theorem cell5 : (z + 1 + 1 + 1 + 1 + 1, o5) ∈ cellsL z o1 o2 o3 o4 o5 o6 o7 o8 o9 R := .tail _ (.tail _ (.tail _ (.tail _ (.head _))))
theorem cell6 : (z + 1 + 1 + 1 + 1, o6) ∈ cellsL z o1 o2 o3 o4 o5 o6 o7 o8 o9 R := .tail _ (.tail _ (.tail _ (.tail _ (.tail _ (.head _)))))
theorem cell7 : (z + 1 + 1 + 1, o7) ∈ cellsL z o1 o2 o3 o4 o5 o6 o7 o8 o9 R := .tail _ (.tail _ (.tail _ (.tail _ (.tail _ (.tail _ (.head _))))))
theorem cell8 : (z + 1 + 1, o8) ∈ cellsL z o1 o2 o3 o4 o5 o6 o7 o8 o9 R := .tail _ (.tail _ (.tail _ (.tail _ (.tail _ (.tail _ (.tail _ (.head _)))))))
theorem cell9 : (z + 1, o9) ∈ cellsL z o1 o2 o3 o4 o5 o6 o7 o8 o9 R := .tail _ (.tail _ (.tail _ (.tail _ (.tail _ (.tail _ (.tail _ (.tail _ (.head _))))))))
def Pk (ow R R' : Ledger) : Prop := ∀ p ∈ R', p ∈ ow ∨ p ∈ R
theorem Pk.nil : Pk ow R [] := fun _ hp => nomatch hp
theorem Pk.all : Pk ow R R := fun _ hp => .inr hp
theorem Pk.own (h : x ∈ ow) (t : Pk ow R R') : Pk ow R (x :: R') := fun p hp => by
  rcases List.mem_cons.mp hp with rfl | hp
  · exact .inl h
  · exact t p hp
theorem Pk.old (h : x ∈ R) (t : Pk ow R R') : Pk ow R (x :: R') := fun p hp => by
  rcases List.mem_cons.mp hp with rfl | hp
  · exact .inr h
  · exact t p hp
theorem cells_pack (k : Pk ow R R') (p) (hp : p ∈ cellsL z o1 o2 o3 o4 o5 o6 o7 o8 o9 R') : p ∈ ow ++ cellsL z o1 o2 o3 o4 o5 o6 o7 o8 o9 R := by
  rcases cells_elim hp with hc | hp
  · exact List.mem_append_right _ (cells_cell hc)
  · rcases k p hp with h | h
    · exact List.mem_append_left _ h
    · exact List.mem_append_right _ (cells_in h)
theorem pack (ow R : Ledger) (N : News h₀ L h (ow ++ cellsL z o1 o2 o3 o4 o5 o6 o7 o8 o9 R)) (k : Pk ow R R') : News h₀ L h (cellsL z o1 o2 o3 o4 o5 o6 o7 o8 o9 R') := news_sub N (cells_pack k)
theorem fmP {P : Addr × Obj → Prop} (h : P x) (t : ∀ p ∈ R, P p) : ∀ p ∈ x :: R, P p := List.forall_mem_cons.mpr ⟨h, t⟩
theorem cells_data {v1 v2 v3 v4 v5 v6 v7 v8 v9 : Option Value} (e1 : o1.data = .cell v1) (e2 : o2.data = .cell v2) (e3 : o3.data = .cell v3) (e4 : o4.data = .cell v4) (e5 : o5.data = .cell v5) (e6 : o6.data = .cell v6) (e7 : o7.data = .cell v7) (e8 : o8.data = .cell v8) (e9 : o9.data = .cell v9)
    (hp : p ∈ cellsL z o1 o2 o3 o4 o5 o6 o7 o8 o9 []) : ∃ v, p.2.data = .cell v :=
  (show ∀ q ∈ cellsL z o1 o2 o3 o4 o5 o6 o7 o8 o9 [], ∃ v, q.2.data = .cell v from fmP ⟨_, e1⟩ (fmP ⟨_, e2⟩ (fmP ⟨_, e3⟩ (fmP ⟨_, e4⟩ (fmP ⟨_, e5⟩ (fmP ⟨_, e6⟩ (fmP ⟨_, e7⟩ (fmP ⟨_, e8⟩ (fmP ⟨_, e9⟩ (fun _ hp => nomatch hp)))))))))) p hp
theorem above_cons {z : Nat} (hx : z < x.1) (hR : ∀ p ∈ R, z < p.1) : ∀ p ∈ x :: R, z < p.1 := by
  intro p hp
  rcases List.mem_cons.mp hp with rfl | hp
  · exact hx
  · exact hR p hp
theorem cne {z : Nat} (i j : Nat) (h : (i == j) = false := by rfl) : z + i ≠ z + j := fun e => absurd (Nat.add_left_cancel e) (ne_of_beq_false h)
theorem abv {z a : Nat} (j : Nat) (h : z + 9 < a := by assumption) (hj : Nat.ble j 9 = true := by rfl) : a ≠ z + j := Nat.ne_of_gt (Nat.lt_of_le_of_lt (Nat.add_le_add_left (Nat.le_of_ble_eq_true hj) z) h)
theorem offR {z : Nat} (j : Nat) (hR : ∀ p ∈ R, z + 9 < p.1) (hj : Nat.ble j 9 = true := by rfl) : ∀ p ∈ R, p.1 ≠ z + j := fun p hp => abv j (hR p hp) hj
theorem fmc {c : Addr} (h : x.1 ≠ c) (t : ∀ p ∈ R, p.1 ≠ c) : ∀ p ∈ x :: R, p.1 ≠ c := List.forall_mem_cons.mpr ⟨h, t⟩
theorem updC1 (hR : ∀ p ∈ R, z + 9 < p.1 := by assumption) : UpdF (z + 1 + 1 + 1 + 1 + 1 + 1 + 1 + 1 + 1) o1 (cellsL z o1 o2 o3 o4 o5 o6 o7 o8 o9 R) (fun o => cellsL z o o2 o3 o4 o5 o6 o7 o8 o9 R) := .head (fmc (x := (z + 8, o2)) (cne 8 9) (fmc (x := (z + 7, o3)) (cne 7 9) (fmc (x := (z + 6, o4)) (cne 6 9) (fmc (x := (z + 5, o5)) (cne 5 9) (fmc (x := (z + 4, o6)) (cne 4 9) (fmc (x := (z + 3, o7)) (cne 3 9) (fmc (x := (z + 2, o8)) (cne 2 9) (fmc (x := (z + 1, o9)) (cne 1 9) (offR 9 hR)))))))))
theorem updC2 (hR : ∀ p ∈ R, z + 9 < p.1 := by assumption) : UpdF (z + 1 + 1 + 1 + 1 + 1 + 1 + 1 + 1) o2 (cellsL z o1 o2 o3 o4 o5 o6 o7 o8 o9 R) (fun o => cellsL z o1 o o3 o4 o5 o6 o7 o8 o9 R) := .tail (p := (z + 9, o1)) (cne 9 8) (.head (fmc (x := (z + 7, o3)) (cne 7 8) (fmc (x := (z + 6, o4)) (cne 6 8) (fmc (x := (z + 5, o5)) (cne 5 8) (fmc (x := (z + 4, o6)) (cne 4 8) (fmc (x := (z + 3, o7)) (cne 3 8) (fmc (x := (z + 2, o8)) (cne 2 8) (fmc (x := (z + 1, o9)) (cne 1 8) (offR 8 hR)))))))))
theorem updC3 (hR : ∀ p ∈ R, z + 9 < p.1 := by assumption) : UpdF (z + 1 + 1 + 1 + 1 + 1 + 1 + 1) o3 (cellsL z o1 o2 o3 o4 o5 o6 o7 o8 o9 R) (fun o => cellsL z o1 o2 o o4 o5 o6 o7 o8 o9 R) := .tail (p := (z + 9, o1)) (cne 9 7) (.tail (p := (z + 8, o2)) (cne 8 7) (.head (fmc (x := (z + 6, o4)) (cne 6 7) (fmc (x := (z + 5, o5)) (cne 5 7) (fmc (x := (z + 4, o6)) (cne 4 7) (fmc (x := (z + 3, o7)) (cne 3 7) (fmc (x := (z + 2, o8)) (cne 2 7) (fmc (x := (z + 1, o9)) (cne 1 7) (offR 7 hR)))))))))
theorem updC4 (hR : ∀ p ∈ R, z + 9 < p.1 := by assumption) : UpdF (z + 1 + 1 + 1 + 1 + 1 + 1) o4 (cellsL z o1 o2 o3 o4 o5 o6 o7 o8 o9 R) (fun o => cellsL z o1 o2 o3 o o5 o6 o7 o8 o9 R) := .tail (p := (z + 9, o1)) (cne 9 6) (.tail (p := (z + 8, o2)) (cne 8 6) (.tail (p := (z + 7, o3)) (cne 7 6) (.head (fmc (x := (z + 5, o5)) (cne 5 6) (fmc (x := (z + 4, o6)) (cne 4 6) (fmc (x := (z + 3, o7)) (cne 3 6) (fmc (x := (z + 2, o8)) (cne 2 6) (fmc (x := (z + 1, o9)) (cne 1 6) (offR 6 hR)))))))))
theorem updC5 (hR : ∀ p ∈ R, z + 9 < p.1 := by assumption) : UpdF (z + 1 + 1 + 1 + 1 + 1) o5 (cellsL z o1 o2 o3 o4 o5 o6 o7 o8 o9 R) (fun o => cellsL z o1 o2 o3 o4 o o6 o7 o8 o9 R) := .tail (p := (z + 9, o1)) (cne 9 5) (.tail (p := (z + 8, o2)) (cne 8 5) (.tail (p := (z + 7, o3)) (cne 7 5) (.tail (p := (z + 6, o4)) (cne 6 5) (.head (fmc (x := (z + 4, o6)) (cne 4 5) (fmc (x := (z + 3, o7)) (cne 3 5) (fmc (x := (z + 2, o8)) (cne 2 5) (fmc (x := (z + 1, o9)) (cne 1 5) (offR 5 hR)))))))))
theorem updC6 (hR : ∀ p ∈ R, z + 9 < p.1 := by assumption) : UpdF (z + 1 + 1 + 1 + 1) o6 (cellsL z o1 o2 o3 o4 o5 o6 o7 o8 o9 R) (fun o => cellsL z o1 o2 o3 o4 o5 o o7 o8 o9 R) := .tail (p := (z + 9, o1)) (cne 9 4) (.tail (p := (z + 8, o2)) (cne 8 4) (.tail (p := (z + 7, o3)) (cne 7 4) (.tail (p := (z + 6, o4)) (cne 6 4) (.tail (p := (z + 5, o5)) (cne 5 4) (.head (fmc (x := (z + 3, o7)) (cne 3 4) (fmc (x := (z + 2, o8)) (cne 2 4) (fmc (x := (z + 1, o9)) (cne 1 4) (offR 4 hR)))))))))
theorem updC7 (hR : ∀ p ∈ R, z + 9 < p.1 := by assumption) : UpdF (z + 1 + 1 + 1) o7 (cellsL z o1 o2 o3 o4 o5 o6 o7 o8 o9 R) (fun o => cellsL z o1 o2 o3 o4 o5 o6 o o8 o9 R) := .tail (p := (z + 9, o1)) (cne 9 3) (.tail (p := (z + 8, o2)) (cne 8 3) (.tail (p := (z + 7, o3)) (cne 7 3) (.tail (p := (z + 6, o4)) (cne 6 3) (.tail (p := (z + 5, o5)) (cne 5 3) (.tail (p := (z + 4, o6)) (cne 4 3) (.head (fmc (x := (z + 2, o8)) (cne 2 3) (fmc (x := (z + 1, o9)) (cne 1 3) (offR 3 hR)))))))))
theorem updC8 (hR : ∀ p ∈ R, z + 9 < p.1 := by assumption) : UpdF (z + 1 + 1) o8 (cellsL z o1 o2 o3 o4 o5 o6 o7 o8 o9 R) (fun o => cellsL z o1 o2 o3 o4 o5 o6 o7 o o9 R) := .tail (p := (z + 9, o1)) (cne 9 2) (.tail (p := (z + 8, o2)) (cne 8 2) (.tail (p := (z + 7, o3)) (cne 7 2) (.tail (p := (z + 6, o4)) (cne 6 2) (.tail (p := (z + 5, o5)) (cne 5 2) (.tail (p := (z + 4, o6)) (cne 4 2) (.tail (p := (z + 3, o7)) (cne 3 2) (.head (fmc (x := (z + 1, o9)) (cne 1 2) (offR 2 hR)))))))))
theorem ltC {d : Nat} (h : ∀ p ∈ cellsL z o1 o2 o3 o4 o5 o6 o7 o8 o9 R, p.1 < d) : z + 9 < d := h _ cell1
theorem ltP {d : Nat} (h : ∀ p ∈ x :: R, p.1 < d) : ∀ p ∈ R, p.1 < d := fun p hp => h p (.tail _ hp)
theorem ltM {c d : Nat} {o : Obj} {l : Ledger} (h : ∀ p ∈ l, p.1 < d) (m : (c, o) ∈ l) : c < d := h _ m
theorem cells_off {I : Addr} (hI : z + 9 < I) (hR : ∀ p ∈ R, p.1 ≠ I) : ∀ p ∈ cellsL z o1 o2 o3 o4 o5 o6 o7 o8 o9 R, p.1 ≠ I :=
  fmc (Ne.symm (abv 9 hI)) (fmc (Ne.symm (abv 8 hI)) (fmc (Ne.symm (abv 7 hI)) (fmc (Ne.symm (abv 6 hI)) (fmc (Ne.symm (abv 5 hI)) (fmc (Ne.symm (abv 4 hI)) (fmc (Ne.symm (abv 3 hI)) (fmc (Ne.symm (abv 2 hI)) (fmc (Ne.symm (abv 1 hI)) hR))))))))
theorem unr_cells {I D : Addr} {it : Obj} {x y : Addr × Obj} {vs : List Value} {n : Nat} {rest : (Str → Option Value) → Ledger → Prop} {s₁ : Shared} {tk : Nat} {m' : Str → Option Value}
    (F : Fr h₀ L h m') (N : News h₀ L h ((D, W.listOf (List.toArray vs) n) :: y :: x :: (I, it) :: cellsL z o1 o2 o3 o4 o5 o6 o7 o8 o9 R)) (hit : it.cls = .type "list_iterator") (hI : z + 9 < I) (hD : z + 9 < D) (hR : ∀ p ∈ R, z + 9 < p.1) (hRI : ∀ p ∈ R, p.1 ≠ I)
    (r : (∀ p ∈ (D, W.listOf (List.toArray vs) n) :: R, z + 9 < p.1) → (∀ p ∈ (D, W.listOf (List.toArray vs) n) :: R, p.1 ≠ I) → rest m' (cellsL z o1 o2 o3 o4 o5 o6 o7 o8 o9 ((D, W.listOf (List.toArray vs) n) :: R))) : UnrEnd h₀ L s₁ I it rest { s₁ with heap := h, toks := tk } := by
  have hne : D ≠ I := by
    intro e
    have h1 := (N _ (.head _)).1
    have h2 := (N (I, it) (.tail _ (.tail _ (.tail _ (.head _))))).1
    dsimp only at h1 h2
    rw [e, h2] at h1
    have h3 := congrArg Obj.cls (Option.some.inj h1)
    rw [hit] at h3
    exact absurd h3 (show Value.type "list_iterator" ≠ Value.type "list" by decide)
  have h4 : ∀ p ∈ (D, W.listOf (List.toArray vs) n) :: R, p.1 ≠ I := fmc hne hRI
  refine UnrEnd.intro F N (cellsL z o1 o2 o3 o4 o5 o6 o7 o8 o9 ((D, W.listOf (List.toArray vs) n) :: R)) (fun p hp => ?_) (cells_off hI h4) (r (above_cons hD hR) h4)
  rcases List.mem_cons.mp hp with rfl | hp
  · exact .tail _ (.tail _ (.tail _ (.head _)))
  · rcases cells_push p hp with rfl | hp
    · exact .head _
    · exact .tail _ (.tail _ (.tail _ (.tail _ hp)))
end
theorem ne_int_same {prog : Program} {w : World} {A : Around} {E : Value → Shared → Prop} {s : Shared} {Q : Value → Shared → Prop} {i k : Int} {t u : Tok} (h : i = k) (q : Q (.bool false) s) :
    wpAny (model prog w) A (compareOp .NotEq (.int i t) (.int k u)) Q E s := ne_int (by rw [h, bne_self_eq_false]; exact q)
theorem kd0 {a b n m : Nat} (h : n ≤ m) (hc : a + m < b) : a + n < b := Nat.lt_of_le_of_lt (Nat.add_le_add_left h a) hc
theorem ku0 {a b n m : Nat} (h : n ≤ m) (hc : a + 8 * m < b) : a + 8 * n < b := kd0 (Nat.mul_le_mul_left 8 h) hc
theorem ws {a n m : Nat} (h : a + 3 ≤ 8 * n) (hn : n ≤ m) : a ≤ 8 * m := Nat.le_trans (Nat.le_trans (Nat.le_add_right a 3) h) (Nat.mul_le_mul_left 8 hn)
theorem wh {a n m : Nat} (h : a ≤ 2 * n + 1) (hn : n ≤ m) : a ≤ 2 * m + 1 := Nat.le_trans h (Nat.succ_le_succ (Nat.mul_le_mul_left 2 hn))
end

section
open PySem PySem.W PyProof.Rows PySem.Calls

inductive Nine (cm : Str → Option Value) (n₁ n₂ n₃ n₄ n₅ n₆ n₇ n₈ n₉ : Str) (c₁ c₂ c₃ c₄ c₅ c₆ c₇ c₈ c₉ : Addr) (cells : List (Addr × Obj)) : Prop
  | mk (o₁ o₂ o₃ o₄ o₅ o₆ o₇ o₈ o₉ : Obj) (e : cells = [(c₁, o₁), (c₂, o₂), (c₃, o₃), (c₄, o₄), (c₅, o₅), (c₆, o₆), (c₇, o₇), (c₈, o₈), (c₉, o₉)]) (h₁ : o₁.data = .cell (cm n₁)) (h₂ : o₂.data = .cell (cm n₂)) (h₃ : o₃.data = .cell (cm n₃)) (h₄ : o₄.data = .cell (cm n₄)) (h₅ : o₅.data = .cell (cm n₅)) (h₆ : o₆.data = .cell (cm n₆)) (h₇ : o₇.data = .cell (cm n₇)) (h₈ : o₈.data = .cell (cm n₈)) (h₉ : o₉.data = .cell (cm n₉)) : Nine cm n₁ n₂ n₃ n₄ n₅ n₆ n₇ n₈ n₉ c₁ c₂ c₃ c₄ c₅ c₆ c₇ c₈ c₉ cells
theorem kc_nine {cm : Str → Option Value} {n₁ n₂ n₃ n₄ n₅ n₆ n₇ n₈ n₉ : Str} {c₁ c₂ c₃ c₄ c₅ c₆ c₇ c₈ c₉ : Addr} {cells : List (Addr × Obj)} (x : CellsAre cm [(n₁, c₁), (n₂, c₂), (n₃, c₃), (n₄, c₄), (n₅, c₅), (n₆, c₆), (n₇, c₇), (n₈, c₈), (n₉, c₉)] cells) :
    Nine cm n₁ n₂ n₃ n₄ n₅ n₆ n₇ n₈ n₉ c₁ c₂ c₃ c₄ c₅ c₆ c₇ c₈ c₉ cells := by
  cases x with | cons h r => obtain ⟨o₂, o₃, o₄, o₅, o₆, o₇, o₈, o₉, rfl, h₂, h₃, h₄, h₅, h₆, h₇, h₈, h₉⟩ := PyProof.Rows.kc_eight r; exact ⟨_, o₂, o₃, o₄, o₅, o₆, o₇, o₈, o₉, rfl, h, h₂, h₃, h₄, h₅, h₆, h₇, h₈, h₉⟩

structure Sealed (P : Prop) : Prop where
  mk ::
  op : P
noncomputable def l0 : (P : PySem.World → PySem.Shared → PySem.Shared → (PySem.Str → Option PySem.Value) → (PySem.Str → Option PySem.Value) → PySem.Addr → PySem.Value → PySem.Value → PySem.Addr → (List Int) → PySem.Addr → (List PySem.Value) → PySem.Heap → Nat → PySem.Obj → PySem.Obj → PySem.Obj → PySem.Obj → PySem.Obj → PySem.Obj → PySem.Obj → PySem.Obj → PySem.Obj → Prop) ×' (Sealed (∀ w s₀ s₁ mg mb fa pm doc z0x1 z0x3 z0x11 z0x12 h₁ tk₁ o1 o2 o3 o4 o5 o6 o7 o8 o9, P w s₀ s₁ mg mb fa pm doc z0x1 z0x3 z0x11 z0x12 h₁ tk₁ o1 o2 o3 o4 o5 o6 o7 o8 o9) → PySem.Challenge.rw_wb0121_01.Holds) := ⟨_, fun kz => by
  refine hd ?_
  w_top off
  k_fill
  intro w s₀ s₁ mg mb G Y fa o pm cd doc dV kV ho hd hcd hD hmg hg args vals as hpre hlay hrd hwl hlo
  have KX := kIn_of Y
  refine Ground.open G ?_
  intro T B D TE TW
  clear D
  obtain ⟨_, _, he, B0⟩ := based_of_top T rfl hmg ho hd
  have he' : cd = _ := he
  subst he'
  clear he hmg
  wrow_args hpre hlay hrd hwl hlo
  first | refine callC_kw (enter_call ?_) | refine enter_call ?_ | refine callC_kw (enter_callW ?_) | refine enter_callW ?_ | w_how
  w_top on
  have K0 := below_caller (Top.heap T)
  have he := Dflts.none hD rfl
  subst he
  have he := Dflts.noKw hD
  subst he
  refine call_cellsN (by decide) ho (fd_plain hd) (Top.nolimit T) hcd rfl (kinds_of (by kinds_ok)) (by decide) fun h₁ tk₁ cells F N0 X0 => ?_
  obtain ⟨o1, o2, o3, o4, o5, o6, o7, o8, o9, he, d1, d2, d3, d4, d5, d6, d7, d8, d9⟩ := kc_nine X0
  subst he
  clear hd X0 ho hD B0
  rename Heap.IsList _ _ _ => hL
  rename IntsAre _ _ => hI
  rename ¬ _ => hsmall
  replace d1 : o1.data = .cell none := d1
  replace d2 : o2.data = .cell none := d2
  replace d3 : o3.data = .cell none := d3
  replace d4 : o4.data = .cell none := d4
  replace d5 : o5.data = .cell none := d5
  replace d6 : o6.data = .cell none := d6
  replace d7 : o7.data = .cell none := d7
  replace d8 : o8.data = .cell none := d8
  replace d9 : o9.data = .cell (some (.ref _)) := d9
  change wpAny _ (ktrTop _ _ _ _ _ _ _ _ _ _) _ _ _ _
  dsimp only
  try k_fold
  rename_i z0x1 z0x2 z0x3 z0x4 z0x5 z0x6 z0x7 z0x8 z0x9 z0x10 z0x11 z0x12 z0x13 z0x14 z0x15 z0x16 z0x17 z0x18
  clear o z0x2 z0x4 z0x5 z0x7 z0x8 z0x9 z0x10 z0x13 z0x14 z0x15 z0x16 z0x17 z0x18
  revert G Y hg KX T B TE TW hcd z0x6 hL hI hsmall K0 F N0 d1 d2 d3 d4 d5 d6 d7 d8 d9 qk ek
  exact kz.op w s₀ s₁ mg mb fa pm doc z0x1 z0x3 z0x11 z0x12 h₁ tk₁ o1 o2 o3 o4 o5 o6 o7 o8 o9⟩
noncomputable def skel {α : Type} (ne : Nonempty α) (Q : α → Prop) : α := @Classical.epsilon α ne fun x => ¬ Q x
theorem skel_all {α : Type} {ne : Nonempty α} {Q : α → Prop} (h : Q (skel ne Q)) (x : α) : Q x := Classical.byContradiction fun n => Classical.epsilon_spec (p := fun x => ¬ Q x) ⟨x, n⟩ h
theorem neP {α β : Type} : Nonempty α → Nonempty β → Nonempty (α × β) := fun ⟨a⟩ ⟨b⟩ => ⟨(a, b)⟩
theorem neI {α : Type} [Inhabited α] : Nonempty α := ⟨default⟩
theorem neW : Nonempty PySem.World := ⟨aWorld 1⟩
theorem neS : Nonempty PySem.Shared := ⟨{}⟩
noncomputable def Q0 (d : PySem.World × PySem.Shared × PySem.Shared × (PySem.Str → Option PySem.Value) × (PySem.Str → Option PySem.Value) × PySem.Addr × PySem.Value × PySem.Value × PySem.Addr × (List Int) × PySem.Addr × (List PySem.Value) × PySem.Heap × Nat × PySem.Obj × PySem.Obj × PySem.Obj × PySem.Obj × PySem.Obj × PySem.Obj × PySem.Obj × PySem.Obj × PySem.Obj) : Prop := l0.1 d.1 d.2.1 d.2.2.1 d.2.2.2.1 d.2.2.2.2.1 d.2.2.2.2.2.1 d.2.2.2.2.2.2.1 d.2.2.2.2.2.2.2.1 d.2.2.2.2.2.2.2.2.1 d.2.2.2.2.2.2.2.2.2.1 d.2.2.2.2.2.2.2.2.2.2.1 d.2.2.2.2.2.2.2.2.2.2.2.1 d.2.2.2.2.2.2.2.2.2.2.2.2.1 d.2.2.2.2.2.2.2.2.2.2.2.2.2.1 d.2.2.2.2.2.2.2.2.2.2.2.2.2.2.1 d.2.2.2.2.2.2.2.2.2.2.2.2.2.2.2.1 d.2.2.2.2.2.2.2.2.2.2.2.2.2.2.2.2.1 d.2.2.2.2.2.2.2.2.2.2.2.2.2.2.2.2.2.1 d.2.2.2.2.2.2.2.2.2.2.2.2.2.2.2.2.2.2.1 d.2.2.2.2.2.2.2.2.2.2.2.2.2.2.2.2.2.2.2.1 d.2.2.2.2.2.2.2.2.2.2.2.2.2.2.2.2.2.2.2.2.1 d.2.2.2.2.2.2.2.2.2.2.2.2.2.2.2.2.2.2.2.2.2.1 d.2.2.2.2.2.2.2.2.2.2.2.2.2.2.2.2.2.2.2.2.2.2
noncomputable def c0 := skel (neP neW (neP neS (neP neS (neP neI (neP neI (neP neI (neP neI (neP neI (neP neI (neP neI (neP neI (neP neI (neP neI (neP neI (neP neI (neP neI (neP neI (neP neI (neP neI (neP neI (neP neI (neP neI (neI))))))))))))))))))))))) Q0
noncomputable def C0.w : PySem.World := c0.1
noncomputable def C0.s₀ : PySem.Shared := c0.2.1
noncomputable def C0.s₁ : PySem.Shared := c0.2.2.1
noncomputable def C0.mg : PySem.Str → Option PySem.Value := c0.2.2.2.1
noncomputable def C0.mb : PySem.Str → Option PySem.Value := c0.2.2.2.2.1
noncomputable def C0.fa : PySem.Addr := c0.2.2.2.2.2.1
noncomputable def C0.pm : PySem.Value := c0.2.2.2.2.2.2.1
noncomputable def C0.doc : PySem.Value := c0.2.2.2.2.2.2.2.1
noncomputable def C0.z0x1 : PySem.Addr := c0.2.2.2.2.2.2.2.2.1
noncomputable def C0.z0x3 : List Int := c0.2.2.2.2.2.2.2.2.2.1
noncomputable def C0.z0x11 : PySem.Addr := c0.2.2.2.2.2.2.2.2.2.2.1
noncomputable def C0.z0x12 : List PySem.Value := c0.2.2.2.2.2.2.2.2.2.2.2.1
noncomputable def C0.h₁ : PySem.Heap := c0.2.2.2.2.2.2.2.2.2.2.2.2.1
noncomputable def C0.tk₁ : Nat := c0.2.2.2.2.2.2.2.2.2.2.2.2.2.1
noncomputable def C0.o1 : PySem.Obj := c0.2.2.2.2.2.2.2.2.2.2.2.2.2.2.1
noncomputable def C0.o2 : PySem.Obj := c0.2.2.2.2.2.2.2.2.2.2.2.2.2.2.2.1
noncomputable def C0.o3 : PySem.Obj := c0.2.2.2.2.2.2.2.2.2.2.2.2.2.2.2.2.1
noncomputable def C0.o4 : PySem.Obj := c0.2.2.2.2.2.2.2.2.2.2.2.2.2.2.2.2.2.1
noncomputable def C0.o5 : PySem.Obj := c0.2.2.2.2.2.2.2.2.2.2.2.2.2.2.2.2.2.2.1
noncomputable def C0.o6 : PySem.Obj := c0.2.2.2.2.2.2.2.2.2.2.2.2.2.2.2.2.2.2.2.1
noncomputable def C0.o7 : PySem.Obj := c0.2.2.2.2.2.2.2.2.2.2.2.2.2.2.2.2.2.2.2.2.1
noncomputable def C0.o8 : PySem.Obj := c0.2.2.2.2.2.2.2.2.2.2.2.2.2.2.2.2.2.2.2.2.2.1
noncomputable def C0.o9 : PySem.Obj := c0.2.2.2.2.2.2.2.2.2.2.2.2.2.2.2.2.2.2.2.2.2.2
theorem k0 (hzz : Sealed (l0.1 C0.w C0.s₀ C0.s₁ C0.mg C0.mb C0.fa C0.pm C0.doc C0.z0x1 C0.z0x3 C0.z0x11 C0.z0x12 C0.h₁ C0.tk₁ C0.o1 C0.o2 C0.o3 C0.o4 C0.o5 C0.o6 C0.o7 C0.o8 C0.o9)) : PySem.Challenge.rw_wb0121_01.Holds := l0.2 ⟨fun w s₀ s₁ mg mb fa pm doc z0x1 z0x3 z0x11 z0x12 h₁ tk₁ o1 o2 o3 o4 o5 o6 o7 o8 o9 => skel_all (Q := Q0) hzz.op (w, s₀, s₁, mg, mb, fa, pm, doc, z0x1, z0x3, z0x11, z0x12, h₁, tk₁, o1, o2, o3, o4, o5, o6, o7, o8, o9)⟩
end

local macro_rules | `(tactic| tb_rel) => `(tactic| with_reducible first | assumption | exact List.Mem.head _ | (refine List.Mem.tail _ ?_; tb_rel) | (refine List.mem_append_left _ ?_; tb_rel) | (refine List.mem_append_right _ ?_; tb_rel) | exact cell1 | exact cell2 | exact cell3 | exact cell4 | exact cell5 | exact cell6 | exact cell7 | exact cell8 | exact cell9 | (refine cells_in ?_; tb_rel))
local macro_rules | `(tactic| k_mem) => `(tactic| tb_rel)
local macro_rules | `(tactic| news_mem) => `(tactic| tb_rel)
local macro_rules | `(tactic| k_updF) => `(tactic| first | (with_reducible first | exact updC1 | exact updC2 | exact updC3 | exact updC4 | exact updC5 | exact updC6 | exact updC7 | exact updC8) | ((with_reducible refine' UpdF.tail ?_ ?_); k_ne; k_updF))
local macro_rules | `(tactic| k_ne) => `(tactic| first | exact abv 1 | exact abv 2 | exact abv 3 | exact abv 4 | exact abv 5 | exact abv 6 | exact abv 7 | exact abv 8 | exact abv 9)
local macro_rules | `(tactic| k_lt $h:ident) => `(tactic| first | (with_reducible replace $h := ltC $h) | ((with_reducible replace $h := ltP $h); k_lt $h))
local macro_rules | `(tactic| walk_at "exec Assign cons ListComp") => `(tactic| (refine Stop.mk ?_))
local macro_rules | `(tactic| walk_at "eval ListComp") => `(tactic| (refine Stop.mk ?_))
local macro_rules | `(tactic| walk_at "pyIter ref") => `(tactic| (refine Stop.mk ?_))
local macro_rules | `(tactic| walk_at "call ref") => `(tactic| (refine Stop.mk ?_))
local macro_rules | `(tactic| walk_at "call type:zip") => `(tactic| (refine Stop.mk ?_))
local macro_rules | `(tactic| walk_at "call type:str") => `(tactic| (refine Stop.mk ?_))
local macro_rules | `(tactic| walk_at "call type:enumerate") => `(tactic| (refine Stop.mk ?_))
local macro_rules | `(tactic| walk_at "subscriptTail") => `(tactic| ((with_reducible show wpAny _ _ (subscriptTail (PySem.Expr.Tuple _ _ _) _ _ _) _ _ _); refine Stop.mk ?_))
local macro_rules | `(tactic| walk_at "getMethod ref") => `(tactic| (refine Stop.mk ?_))
local macro_rules | `(tactic| walk_at "exec For") => `(tactic| (refine Stop.mk ?_))
local macro_rules | `(tactic| walk_at "exec For Name Name") => `(tactic| (refine Stop.mk ?_))
local macro_rules | `(tactic| walk_at "call builtin:sorted") => `(tactic| (refine Stop.mk ?_))
local macro_rules | `(tactic| walk_at "call builtin:dict.values") => `(tactic| (refine Stop.mk ?_))
local macro_rules | `(tactic| walk_at "compareOp NotEq int int") => `(tactic| (refine ne_int_same (by omega) ?_))
local macro_rules | `(tactic| walk_at "compareOp Eq str str") => `(tactic| (refine eq_str_same ?_))

section
open PySem PySem.W PyProof.Rows PySem.Calls

inductive In5 (ys : List Value) : Prop
  | mk (a b c d e : Int) (ta tb tc td te : Tok) (h : ys = [.int a ta, .int b tb, .int c tc, .int d td, .int e te]) : In5 ys
theorem ints5 {ys : List Value} {is : List Int} (h : IntsAre ys is) (hl : ys.length = 5) : In5 ys := by
  cases h with
  | nil => simp at hl
  | cons a ta h =>
    cases h with
    | nil => simp at hl
    | cons b tb h =>
      cases h with
      | nil => simp at hl
      | cons c tc h =>
        cases h with
        | nil => simp at hl
        | cons d td h =>
          cases h with
          | nil => simp at hl
          | cons e te h =>
            cases h with
            | nil => exact ⟨a, b, c, d, e, ta, tb, tc, td, te, rfl⟩
            | cons f tf h => simp at hl
theorem aboveNe {R : Ledger} {b c : Addr} (h : ∀ p ∈ R, b < p.1) (hc : c ≤ b) : ∀ p ∈ R, p.1 ≠ c := fun p hp => Nat.ne_of_gt (Nat.lt_of_le_of_lt hc (h p hp))

open C0
noncomputable def l1 : (P : Nat → Int → Int → Int → Int → Int → PySem.Tok → PySem.Tok → PySem.Tok → PySem.Tok → PySem.Tok → PySem.Heap → PySem.Obj → Nat → Prop) ×' (Sealed (∀ D n1 n2 n3 n4 n5 t1 t2 t3 t4 t5 z1x5 z1x6 tk, P D n1 n2 n3 n4 n5 t1 t2 t3 t4 t5 z1x5 z1x6 tk) → PySem.Challenge.rw_wb0121_01.Holds) := ⟨_, fun kz => by
  refine k0 ⟨?_⟩
  show ∀ G : _, _
  w_top off
  k_fill
  set_option tactic.hygienic false in intros
  rename News _ _ _ _ => N0
  replace N0 : News _ _ _ (cellsL s₁.heap.objs.size o1 o2 o3 o4 o5 o6 o7 o8 o9 []) := N0
  have hR0 : ∀ p ∈ ([] : Ledger), s₁.heap.objs.size + 9 < p.1 := fun _ hp => nomatch hp
  k_steps
  unfold Stop
  refine wpAny_Assign_Name ?_ (by with_unfolding_all rfl)
  k_dflt (refine comp_eval (F₀ := by k_asm) (by with_unfolding_all rfl) (by decide) (by rfl) (by decide) (by decide) ?_)
  k_steps
  unfold Stop
  rename News _ _ _ _ => N1
  rename Fr _ _ _ _ => F1
  refine call_enumerate_tup (items := #[.int 598 _, .int 9 _, .int 0 _, .int 13 _, .int 0 _]) ⟨_, (N1 _ List.mem_cons_self).1, rfl, _, rfl⟩ fun h2 he hit hsz up => ?_
  k_steps
  unfold Stop
  have hlt := news_lt N1
  have hlt0 := hlt _ List.mem_cons_self
  refine src_enum (D := drawsTup rfl _ _ (Nat.ne_of_lt hlt0) _) (keep := [?kk1]) (news := ?nn1) (J := JC ?nn1 fun i ys => ys.length = i ∧ ∃ is, IntsAre ys is) rfl ?n1 ?n2 List.mem_cons_self (by rfl) (by rfl) (by rfl) (by decide) (le_sizeLine (by show 5 ≤ _; decide)) he ⟨hit, ⟨_, up _ _ (N1 _ List.mem_cons_self).1, rfl, _, rfl⟩⟩ ?n3 ?n4 ?n5 ?F ?N ?keep ?J0 ?turn ?fin1
  case F => exact F1.keeps up
  case N => exact N1.grown up
  case keep =>
    rintro i ys nw ⟨rfl, _⟩ p hp
    rw [List.mem_singleton.mp hp]; exact List.mem_cons_self
  case n1 => exact Nat.succ_ne_self _
  case n2 =>
    intro hb
    rcases List.mem_cons.mp hb with h | hb
    · exact Nat.succ_ne_self _ h
    · exact Nat.lt_irrefl _ (Nat.lt_succ_of_lt (List.mem_singleton.mp hb ▸ hlt0))
  case n3 =>
    intro b hb
    rcases List.mem_cons.mp hb with h | hb
    · exact .inl h
    · rw [List.mem_singleton.mp hb]; exact .inr (.inr ⟨_, List.mem_singleton.mpr rfl⟩)
  case n4 =>
    rintro b (rfl | rfl)
    · exact ⟨Nat.ne_of_gt (Nat.lt_succ_of_lt F1.ns.lt), new_at F1 (Nat.le_succ _)⟩
    · exact ⟨Nat.ne_of_gt F1.ns.lt, new_at F1 (Nat.le_refl _)⟩
  case n5 => exact fun p hp => ⟨Nat.ne_of_lt (Nat.lt_succ_of_lt (hlt p hp)), Nat.ne_of_lt (hlt p hp)⟩
  case J0 => exact ⟨rfl, rfl, [], .nil⟩
  case turn =>
    rintro i ys nw own C D oC m₂ h tk E' hi ⟨t, x, hP, hma, hmb⟩ hC ⟨rfl, hys, is, hyi⟩ hyl F2 N2 off hne hK
    obtain ⟨a, t', rfl⟩ := intsGet hP (by rfl)
    simp only [List.cons_append] at N2
    clear N1 F1 he hit up hlt hlt0
    show wpAny _ _ (eval _ _) _ _ _
    k_steps
    refine sumK (vs := (slicePick _ _ _ _).toList) rfl (by k_asm) (by k_asm) (by is_list) (IntsAre.pick hI _ _ _) ?_
    intro h' tk' t' F' N'
    k_steps
    exact CompY.const (by k_asm) N' (fun p hp => by repeat (first | exact hp | refine List.mem_cons_of_mem _ ?_)) off ⟨by rw [List.length_append, hys]; rfl, _, hyi.append (.cons _ _ .nil)⟩
  rintro ys nw ⟨rfl, hlen, is, hyi⟩ hle D h tk eD F3 N3 off3
  refine hide fun G0 kG0 => ?_
  obtain ⟨n1, n2, n3, n4, n5, t1, t2, t3, t4, t5, rfl⟩ := ints5 hyi hlen
  refine kG0 ?_
  clear kG0 G0 hyi hlen hle
  have hDz := ltN (hlt _ (List.mem_cons_of_mem _ cell1))
  dsimp only at hDz hsz eD
  have hDz' : s₁.heap.objs.size + 9 < D := by omega
  have N4 : News _ _ _ (cellsL s₁.heap.objs.size o1 o2 o3 o4 o5 o6 o7 o8 o9 [(D, LCg.lst [.int n1 t1, .int n2 t2, .int n3 t3, .int n4 t4, .int n5 t5])]) := pack [(D, LCg.lst [.int n1 t1, .int n2 t2, .int n3 t3, .int n4 t4, .int n5 t5]), _] [] N3 (.own (.head _) .nil)
  clear N3 N1 F1 he hit up hlt hlt0 off3 eD hsz hDz
  have hR1 := above_cons (x := (D, LCg.lst [.int n1 t1, .int n2 t2, .int n3 t3, .int n4 t4, .int n5 t5])) hDz' hR0
  clear hR0
  k_steps
  rename_i z1x1 z1x2 z1x3 z1x4 z1x5 z1x6 z1x7 z1x8 z1x9
  clear hL hI hsmall d8 z1x1 z1x2 z1x3 h2 is h z1x4
  revert G Y hg KX T B TE TW hcd z0x6 K0 d1 d2 d3 d4 d5 d6 d7 d9 qk ek hDz' hR1 z1x7 z1x8 z1x9
  exact kz.op D n1 n2 n3 n4 n5 t1 t2 t3 t4 t5 z1x5 z1x6 tk⟩
noncomputable def Q1 (d : Nat × Int × Int × Int × Int × Int × PySem.Tok × PySem.Tok × PySem.Tok × PySem.Tok × PySem.Tok × PySem.Heap × PySem.Obj × Nat) : Prop := l1.1 d.1 d.2.1 d.2.2.1 d.2.2.2.1 d.2.2.2.2.1 d.2.2.2.2.2.1 d.2.2.2.2.2.2.1 d.2.2.2.2.2.2.2.1 d.2.2.2.2.2.2.2.2.1 d.2.2.2.2.2.2.2.2.2.1 d.2.2.2.2.2.2.2.2.2.2.1 d.2.2.2.2.2.2.2.2.2.2.2.1 d.2.2.2.2.2.2.2.2.2.2.2.2.1 d.2.2.2.2.2.2.2.2.2.2.2.2.2
noncomputable def c1 := skel (neP neI (neP neI (neP neI (neP neI (neP neI (neP neI (neP neI (neP neI (neP neI (neP neI (neP neI (neP neI (neP neI (neI)))))))))))))) Q1
noncomputable def C1.D : Nat := c1.1
noncomputable def C1.n1 : Int := c1.2.1
noncomputable def C1.n2 : Int := c1.2.2.1
noncomputable def C1.n3 : Int := c1.2.2.2.1
noncomputable def C1.n4 : Int := c1.2.2.2.2.1
noncomputable def C1.n5 : Int := c1.2.2.2.2.2.1
noncomputable def C1.t1 : PySem.Tok := c1.2.2.2.2.2.2.1
noncomputable def C1.t2 : PySem.Tok := c1.2.2.2.2.2.2.2.1
noncomputable def C1.t3 : PySem.Tok := c1.2.2.2.2.2.2.2.2.1
noncomputable def C1.t4 : PySem.Tok := c1.2.2.2.2.2.2.2.2.2.1
noncomputable def C1.t5 : PySem.Tok := c1.2.2.2.2.2.2.2.2.2.2.1
noncomputable def C1.z1x5 : PySem.Heap := c1.2.2.2.2.2.2.2.2.2.2.2.1
noncomputable def C1.z1x6 : PySem.Obj := c1.2.2.2.2.2.2.2.2.2.2.2.2.1
noncomputable def C1.tk : Nat := c1.2.2.2.2.2.2.2.2.2.2.2.2.2
theorem k1 (hzz : Sealed (l1.1 C1.D C1.n1 C1.n2 C1.n3 C1.n4 C1.n5 C1.t1 C1.t2 C1.t3 C1.t4 C1.t5 C1.z1x5 C1.z1x6 C1.tk)) : PySem.Challenge.rw_wb0121_01.Holds := l1.2 ⟨fun D n1 n2 n3 n4 n5 t1 t2 t3 t4 t5 z1x5 z1x6 tk => skel_all (Q := Q1) hzz.op (D, n1, n2, n3, n4, n5, t1, t2, t3, t4, t5, z1x5, z1x6, tk)⟩
end

section
open PySem PySem.W PyProof.Rows PySem.Calls

theorem dict15 (prog : Program) (w : World) (h : Heap) (X : (Mine.hd.heap_39 w.params).In h) : ∃ kvs : List (Str × Value), h.DictOf (PySem.strKind prog w) 15 kvs ∧ kf_ints (kvs.map (·.2)) = true ∧ lks_ok (kvs.map (·.2)) ((List.range 48).map fun i : Nat => 7 + (i : Int)) = true ∧ (kvs.map (·.2)).length = 48 := by
  refine ⟨_, dict_lit (X _ _ (by rfl)) ?_ ?_, ?_, ?_, ?_⟩
  · repeat (first | exact True.intro | refine And.intro ⟨_, _, rfl, rfl⟩ ?_)
  · exact of_decide_eq_true (by kernel_rfl)
  · kernel_rfl
  · kernel_rfl
  · kernel_rfl
def strides : List Int := [1, 5, 7, 11, 13, 17, 19, 23]
def strideF (j : Nat) : Int := strides.getD j 1

open C0
open C1
noncomputable def l2 : (P : PySem.Addr → (List PySem.Value) → Nat → Nat → PySem.Addr → PySem.Tok → Int → PySem.Addr → PySem.Obj → PySem.Heap → PySem.Obj → Nat → PySem.Heap → Nat → PySem.Tok → PySem.Tok → PySem.Tok → Prop) ×' (Sealed (∀ D9 vs9 n9 tk8 z2x3 tk7 st z2x7 z2x12 z2x14 z2x15 tk z2x19 z2x20 z2x21 z2x22 z2x23, P D9 vs9 n9 tk8 z2x3 tk7 st z2x7 z2x12 z2x14 z2x15 tk z2x19 z2x20 z2x21 z2x22 z2x23) → PySem.Challenge.rw_wb0121_01.Holds) := ⟨_, fun kz => by
  refine k1 ⟨?_⟩
  show ∀ G : _, _
  w_top off
  k_fill
  set_option tactic.hygienic false in intros
  unfold Stop
  rename News _ _ _ _ => N2
  rename Fr _ _ _ _ => F2
  refine hide fun G0 kG0 => ?_
  obtain ⟨kvs, hD, hi15, hq15, hn15⟩ := dict15 PySem.Challenge.rw_wb0121_01.row.prog w _ (fun a o e => F2.keep _ _ (KX a o e))
  refine kG0 ?_
  clear kG0 G0
  refine values_method hD ?_
  k_steps
  unfold Stop
  refine values_call F2 N2 hD (by decide) fun v9 h9 hv9 F9 N9 hD9 => ?_
  obtain ⟨_, _, hv9⟩ := hv9
  clear hD F2 N2
  k_steps
  unfold Stop
  refine values_sorted rfl F9 N9 hv9 hD9 hi15 hq15 (by cases kvs with | nil => cases hn15 | cons _ _ => rfl) (by rw [hn15]; decide) fun D9 vs9 n9 h8 tk8 F8 N8 l8 hI9 => ?_
  clear hv9 hD9 F9 N9 hi15 hq15 hn15
  k_lt l8
  k_steps
  unfold Stop
  have hr0 : 0 ≤ (n4.fdiv 48).fmod 8 := Int.fmod_nonneg_of_pos _ (by decide)
  have hr1 : (n4.fdiv 48).fmod 8 < 8 := Int.fmod_lt_of_pos _ (by decide)
  refine tup_item_int strideF (by k_asm) (by tb_rel) hr0 (by simp only [List.length_cons, List.length_nil]; exact hr1) (by simp only [List.length_cons, List.length_nil]; omega) ?_ ?_ (by with_unfolding_all rfl)
  · intro j hj
    iterate 8 (rcases j with _ | j; exact ⟨_, rfl⟩)
    simp only [List.length_cons, List.length_nil] at hj
    omega
  intro tk7
  refine hide fun G0 kG0 => ?_
  obtain ⟨st, hst⟩ : ∃ st, strideF ((n4.fdiv 48).fmod 8).toNat = st := ⟨_, rfl⟩
  refine kG0 ?_
  clear kG0 G0
  first | rw [hst] | rw [show strideF (((([n1, n2, n3, n4, n5] : List Int).getD (Int.toNat 3) 0).fdiv 48).fmod 8).toNat = st from hst]
  clear hr0 hr1
  k_steps
  unfold Stop
  refine Assign_Tuple ?_
  k_dflt (refine comp_eval (F₀ := by k_asm) (by with_unfolding_all rfl) (by decide) (by rfl) (by decide) (by decide) ?_)
  k_steps
  rename_i z2x1 z2x2 z2x3 z2x4 z2x5 z2x6 z2x7 z2x8 z2x9 z2x10 z2x11 z2x12 z2x13 z2x14 z2x15 z2x16 z2x17 z2x18 z2x19 z2x20 z2x21 z2x22 z2x23 z2x24 z2x25 z2x26 z2x27
  clear d6 d7 kvs v9 h9 z2x1 z2x2 h8 z2x4 z2x6 z2x8 z2x10 z2x11 z2x16 z2x17 z2x27
  revert G Y hg KX T B TE TW hcd z0x6 K0 d1 d2 d3 d4 d5 d9 qk ek hDz' hR1 z1x9 hI9 l8 z2x5 hst z2x9 z2x13 z2x18 z2x24 z2x25 z2x26
  exact kz.op D9 vs9 n9 tk8 z2x3 tk7 st z2x7 z2x12 z2x14 z2x15 tk z2x19 z2x20 z2x21 z2x22 z2x23⟩
noncomputable def Q2 (d : PySem.Addr × (List PySem.Value) × Nat × Nat × PySem.Addr × PySem.Tok × Int × PySem.Addr × PySem.Obj × PySem.Heap × PySem.Obj × Nat × PySem.Heap × Nat × PySem.Tok × PySem.Tok × PySem.Tok) : Prop := l2.1 d.1 d.2.1 d.2.2.1 d.2.2.2.1 d.2.2.2.2.1 d.2.2.2.2.2.1 d.2.2.2.2.2.2.1 d.2.2.2.2.2.2.2.1 d.2.2.2.2.2.2.2.2.1 d.2.2.2.2.2.2.2.2.2.1 d.2.2.2.2.2.2.2.2.2.2.1 d.2.2.2.2.2.2.2.2.2.2.2.1 d.2.2.2.2.2.2.2.2.2.2.2.2.1 d.2.2.2.2.2.2.2.2.2.2.2.2.2.1 d.2.2.2.2.2.2.2.2.2.2.2.2.2.2.1 d.2.2.2.2.2.2.2.2.2.2.2.2.2.2.2.1 d.2.2.2.2.2.2.2.2.2.2.2.2.2.2.2.2
noncomputable def c2 := skel (neP neI (neP neI (neP neI (neP neI (neP neI (neP neI (neP neI (neP neI (neP neI (neP neI (neP neI (neP neI (neP neI (neP neI (neP neI (neP neI (neI))))))))))))))))) Q2
noncomputable def C2.D9 : PySem.Addr := c2.1
noncomputable def C2.vs9 : List PySem.Value := c2.2.1
noncomputable def C2.n9 : Nat := c2.2.2.1
noncomputable def C2.tk8 : Nat := c2.2.2.2.1
noncomputable def C2.z2x3 : PySem.Addr := c2.2.2.2.2.1
noncomputable def C2.tk7 : PySem.Tok := c2.2.2.2.2.2.1
noncomputable def C2.st : Int := c2.2.2.2.2.2.2.1
noncomputable def C2.z2x7 : PySem.Addr := c2.2.2.2.2.2.2.2.1
noncomputable def C2.z2x12 : PySem.Obj := c2.2.2.2.2.2.2.2.2.1
noncomputable def C2.z2x14 : PySem.Heap := c2.2.2.2.2.2.2.2.2.2.1
noncomputable def C2.z2x15 : PySem.Obj := c2.2.2.2.2.2.2.2.2.2.2.1
noncomputable def C2.tk : Nat := c2.2.2.2.2.2.2.2.2.2.2.2.1
noncomputable def C2.z2x19 : PySem.Heap := c2.2.2.2.2.2.2.2.2.2.2.2.2.1
noncomputable def C2.z2x20 : Nat := c2.2.2.2.2.2.2.2.2.2.2.2.2.2.1
noncomputable def C2.z2x21 : PySem.Tok := c2.2.2.2.2.2.2.2.2.2.2.2.2.2.2.1
noncomputable def C2.z2x22 : PySem.Tok := c2.2.2.2.2.2.2.2.2.2.2.2.2.2.2.2.1
noncomputable def C2.z2x23 : PySem.Tok := c2.2.2.2.2.2.2.2.2.2.2.2.2.2.2.2.2
theorem k2 (hzz : Sealed (l2.1 C2.D9 C2.vs9 C2.n9 C2.tk8 C2.z2x3 C2.tk7 C2.st C2.z2x7 C2.z2x12 C2.z2x14 C2.z2x15 C2.tk C2.z2x19 C2.z2x20 C2.z2x21 C2.z2x22 C2.z2x23)) : PySem.Challenge.rw_wb0121_01.Holds := l2.2 ⟨fun D9 vs9 n9 tk8 z2x3 tk7 st z2x7 z2x12 z2x14 z2x15 tk z2x19 z2x20 z2x21 z2x22 z2x23 => skel_all (Q := Q2) hzz.op (D9, vs9, n9, tk8, z2x3, tk7, st, z2x7, z2x12, z2x14, z2x15, tk, z2x19, z2x20, z2x21, z2x22, z2x23)⟩
end

section
open PySem PySem.W PyProof.Rows PySem.Calls

def joinOf (n5 : Int) : Int := 256 + if n5 < 0 then -n5 else n5
def letterOf (n4 st : Int) (p : Nat) : Int := 7 + (n4 + (p : Int) * st).fmod 48
theorem letter_at (n4 st : Int) (i : Nat) : ((List.range 48).map fun i : Nat => 7 + (i : Int)).getD ((n4 + (0 + (i : Int)) * st).fmod 48).toNat 0 = letterOf n4 st i := by
  have h0 : 0 ≤ (n4 + (i : Int) * st).fmod 48 := Int.fmod_nonneg_of_pos _ (by decide)
  have h1 : (n4 + (i : Int) * st).fmod 48 < 48 := Int.fmod_lt_of_pos _ (by decide)
  rw [Int.zero_add]
  unfold letterOf
  have h2 : ((n4 + (i : Int) * st).fmod 48).toNat < 48 := by omega
  simp only [List.getD_eq_getElem?_getD, List.getElem?_map, List.getElem?_range h2, Option.map_some, Option.getD_some]
  omega

open C0
open C1 hiding tk
open C2
noncomputable def l3 : (P : Int → Int → Int → Int → Int → PySem.Tok → PySem.Tok → PySem.Tok → PySem.Tok → PySem.Tok → PySem.Heap → Nat → PySem.Obj → PySem.Obj → PySem.Obj → PySem.Obj → PySem.Obj → PySem.Obj → PySem.Obj → PySem.Obj → PySem.Addr → PySem.Tok → Prop) ×' (Sealed (∀ x y z s k tx ty tz ts tk' z3x29 tk q1 q2 q3 q4 q5 q6 q7 q8 lt tkj, P x y z s k tx ty tz ts tk' z3x29 tk q1 q2 q3 q4 q5 q6 q7 q8 lt tkj) → PySem.Challenge.rw_wb0121_01.Holds) := ⟨_, fun kz => by
  refine k2 ⟨?_⟩
  show ∀ G : _, _
  w_top off
  k_fill
  set_option tactic.hygienic false in intros
  unfold Stop
  rename News _ _ _ _ => N2
  rename Fr _ _ _ _ => F2
  refine src_range (n := 5) (news := ?nn3) (J := JC ?nn3 fun i ys => IntsAre ys ((List.range i).map fun p : Nat => letterOf n4 st p)) rfl (by rfl) (by rfl) (le_sizeLine (by decide)) (by assumption) (by decide) (by decide) F2 ?N ⟨rfl, .nil⟩ ?turn ?fin3
  case N => exact N2
  case turn =>
    rintro i ys nw own C D oC m₂ h tk E' hi ⟨t, hma⟩ hC ⟨rfl, hyi⟩ hyl F2 N2 off hne hK
    simp only [List.cons_append] at N2
    show wpAny _ _ (eval _ _) _ _ _
    k_steps
    refine CompY.const (by k_asm) (by k_asm) (fun p hp => by repeat (first | exact hp | refine List.mem_cons_of_mem _ ?_)) off ?_
    have e : ((List.range (i + 1)).map fun p : Nat => letterOf n4 st p) = ((List.range i).map fun p : Nat => letterOf n4 st p) ++ [letterOf n4 st i] := by rw [List.range_succ, List.map_append]; rfl
    show IntsAre (ys ++ [.int (((List.range 48).map fun i : Nat => 7 + (i : Int)).getD ((n4 + (0 + (i : Int)) * st).fmod 48).toNat 0) _]) ((List.range (i + 1)).map fun p : Nat => letterOf n4 st p)
    rw [e, letter_at]
    exact hyi.append (.cons _ _ .nil)
  rintro g ys nw hlt ⟨rfl, hyi⟩ hle D5 h tk eD F3 N3 off3
  have hDz := ltN (hlt _ (by tb_rel : (s₁.heap.objs.size + 1 + 1 + 1 + 1 + 1 + 1 + 1 + 1 + 1, o1) ∈ _))
  dsimp only at hDz eD
  have hD5 : s₁.heap.objs.size + 9 < D5 := eD ▸ hDz
  clear eD hDz
  refine hide fun G0 kG0 => ?_
  obtain ⟨x, y, z, s, k, tx, ty, tz, ts, tk', rfl⟩ := ints5 hyi (by rw [hyi.length]; rfl)
  obtain ⟨ex, ey, ez, es, ek⟩ : x = letterOf n4 st 0 ∧ y = letterOf n4 st 1 ∧ z = letterOf n4 st 2 ∧ s = letterOf n4 st 3 ∧ k = letterOf n4 st 4 := by
    have hq : IntsAre _ [letterOf n4 st 0, letterOf n4 st 1, letterOf n4 st 2, letterOf n4 st 3, letterOf n4 st 4] := hyi
    cases hq with | cons _ _ hq => cases hq with | cons _ _ hq => cases hq with | cons _ _ hq => cases hq with | cons _ _ hq => cases hq with | cons _ _ hq => exact ⟨rfl, rfl, rfl, rfl, rfl⟩
  refine kG0 ?_
  clear kG0 G0
  clear hyi
  k_steps
  unfold Stop
  rename News _ _ _ _ => N7
  rename Fr _ _ _ _ => F7
  refine hide fun G0 kG0 => ?_
  obtain ⟨q1, q2, q3, q4, q5, q6, q7, q8, lt, tkj, N8, e1, e2, e3, e4, e5, e6, e7, e8, hlt', hD'⟩ : ∃ q1 q2 q3 q4 q5 q6 q7 q8 : Obj, ∃ (lt : Addr) (tkj : Tok), News _ _ _ ([_, (lt, W.listOf #[] 0), _, _, _, _] ++ cellsL s₁.heap.objs.size q1 q2 q3 q4 q5 q6 q7 q8 o9 [(D, LCg.lst [.int n1 t1, .int n2 t2, .int n3 t3, .int n4 t4, .int n5 t5])]) ∧
      q1.data = .cell (some (.ref lt)) ∧ q2.data = .cell (some (.int (joinOf n5) tkj)) ∧ q3.data = .cell (some (.int z tz)) ∧ q4.data = .cell (some (.int y ty)) ∧ q5.data = .cell (some (.int x tx)) ∧ q6.data = .cell (some (.int st tk7)) ∧ q7.data = .cell (some (.ref D9)) ∧ q8.data = .cell (some (.ref D)) ∧ s₁.heap.objs.size + 9 < lt ∧ s₁.heap.objs.size + 9 < D :=
    ⟨_, _, _, _, _, _, _, _, _, _, N7, by assumption, by assumption, by assumption, by assumption, by assumption, by assumption, by assumption, by assumption, by omega, by omega⟩
  refine kG0 ?_
  clear kG0 G0
  replace N8 : News _ _ _ (cellsL s₁.heap.objs.size q1 q2 q3 q4 q5 q6 q7 q8 o9 [(lt, W.listOf #[] 0), (D, LCg.lst [.int n1 t1, .int n2 t2, .int n3 t3, .int n4 t4, .int n5 t5])]) := pack [_, (lt, W.listOf #[] 0), _, _, _, _] _ N8 (.own (.tail _ (.head _)) .all)
  clear N7
  k_sweep
  rename_i z3x1 z3x2 z3x3 z3x4 z3x5 z3x6 z3x7 z3x8 z3x9 z3x10 z3x11 z3x12 z3x13 z3x14 z3x15 z3x16 z3x17 z3x18 z3x19 z3x20 z3x21 z3x22 z3x23 z3x24 z3x25 z3x26 z3x27 z3x28 z3x29 z3x30 z3x31
  clear z0x6 d1 d2 d3 d4 d5 hDz' hR1 z1x9 hI9 l8 z2x5 z2x9 z2x13 z2x18 z2x24 g hlt D5 h z3x2 off3 hD5 hle z3x3 z3x4 z3x5 z3x6 z3x7 z3x8 z3x9 z3x10 z3x11 z3x12 z3x13 z3x14 z3x15 z3x16 z3x17 z3x18 z3x19 z3x20 z3x21 z3x22 z3x23 z3x24 z3x25 z3x26 z3x27 z3x28 z3x30 z3x31
  revert G Y hg KX T B TE TW hcd K0 d9 qk z3x1 hst ex ey ez es ek F7 e1 e2 e3 e4 e5 e6 e7 e8 hlt' hD' N8
  exact kz.op x y z s k tx ty tz ts tk' z3x29 tk q1 q2 q3 q4 q5 q6 q7 q8 lt tkj⟩
noncomputable def Q3 (d : Int × Int × Int × Int × Int × PySem.Tok × PySem.Tok × PySem.Tok × PySem.Tok × PySem.Tok × PySem.Heap × Nat × PySem.Obj × PySem.Obj × PySem.Obj × PySem.Obj × PySem.Obj × PySem.Obj × PySem.Obj × PySem.Obj × PySem.Addr × PySem.Tok) : Prop := l3.1 d.1 d.2.1 d.2.2.1 d.2.2.2.1 d.2.2.2.2.1 d.2.2.2.2.2.1 d.2.2.2.2.2.2.1 d.2.2.2.2.2.2.2.1 d.2.2.2.2.2.2.2.2.1 d.2.2.2.2.2.2.2.2.2.1 d.2.2.2.2.2.2.2.2.2.2.1 d.2.2.2.2.2.2.2.2.2.2.2.1 d.2.2.2.2.2.2.2.2.2.2.2.2.1 d.2.2.2.2.2.2.2.2.2.2.2.2.2.1 d.2.2.2.2.2.2.2.2.2.2.2.2.2.2.1 d.2.2.2.2.2.2.2.2.2.2.2.2.2.2.2.1 d.2.2.2.2.2.2.2.2.2.2.2.2.2.2.2.2.1 d.2.2.2.2.2.2.2.2.2.2.2.2.2.2.2.2.2.1 d.2.2.2.2.2.2.2.2.2.2.2.2.2.2.2.2.2.2.1 d.2.2.2.2.2.2.2.2.2.2.2.2.2.2.2.2.2.2.2.1 d.2.2.2.2.2.2.2.2.2.2.2.2.2.2.2.2.2.2.2.2.1 d.2.2.2.2.2.2.2.2.2.2.2.2.2.2.2.2.2.2.2.2.2
noncomputable def c3 := skel (neP neI (neP neI (neP neI (neP neI (neP neI (neP neI (neP neI (neP neI (neP neI (neP neI (neP neI (neP neI (neP neI (neP neI (neP neI (neP neI (neP neI (neP neI (neP neI (neP neI (neP neI (neI)))))))))))))))))))))) Q3
noncomputable def C3.x : Int := c3.1
noncomputable def C3.y : Int := c3.2.1
noncomputable def C3.z : Int := c3.2.2.1
noncomputable def C3.s : Int := c3.2.2.2.1
noncomputable def C3.k : Int := c3.2.2.2.2.1
noncomputable def C3.tx : PySem.Tok := c3.2.2.2.2.2.1
noncomputable def C3.ty : PySem.Tok := c3.2.2.2.2.2.2.1
noncomputable def C3.tz : PySem.Tok := c3.2.2.2.2.2.2.2.1
noncomputable def C3.ts : PySem.Tok := c3.2.2.2.2.2.2.2.2.1
noncomputable def C3.tk' : PySem.Tok := c3.2.2.2.2.2.2.2.2.2.1
noncomputable def C3.z3x29 : PySem.Heap := c3.2.2.2.2.2.2.2.2.2.2.1
noncomputable def C3.tk : Nat := c3.2.2.2.2.2.2.2.2.2.2.2.1
noncomputable def C3.q1 : PySem.Obj := c3.2.2.2.2.2.2.2.2.2.2.2.2.1
noncomputable def C3.q2 : PySem.Obj := c3.2.2.2.2.2.2.2.2.2.2.2.2.2.1
noncomputable def C3.q3 : PySem.Obj := c3.2.2.2.2.2.2.2.2.2.2.2.2.2.2.1
noncomputable def C3.q4 : PySem.Obj := c3.2.2.2.2.2.2.2.2.2.2.2.2.2.2.2.1
noncomputable def C3.q5 : PySem.Obj := c3.2.2.2.2.2.2.2.2.2.2.2.2.2.2.2.2.1
noncomputable def C3.q6 : PySem.Obj := c3.2.2.2.2.2.2.2.2.2.2.2.2.2.2.2.2.2.1
noncomputable def C3.q7 : PySem.Obj := c3.2.2.2.2.2.2.2.2.2.2.2.2.2.2.2.2.2.2.1
noncomputable def C3.q8 : PySem.Obj := c3.2.2.2.2.2.2.2.2.2.2.2.2.2.2.2.2.2.2.2.1
noncomputable def C3.lt : PySem.Addr := c3.2.2.2.2.2.2.2.2.2.2.2.2.2.2.2.2.2.2.2.2.1
noncomputable def C3.tkj : PySem.Tok := c3.2.2.2.2.2.2.2.2.2.2.2.2.2.2.2.2.2.2.2.2.2
theorem k3 (hzz : Sealed (l3.1 C3.x C3.y C3.z C3.s C3.k C3.tx C3.ty C3.tz C3.ts C3.tk' C3.z3x29 C3.tk C3.q1 C3.q2 C3.q3 C3.q4 C3.q5 C3.q6 C3.q7 C3.q8 C3.lt C3.tkj)) : PySem.Challenge.rw_wb0121_01.Holds := l3.2 ⟨fun x y z s k tx ty tz ts tk' z3x29 tk q1 q2 q3 q4 q5 q6 q7 q8 lt tkj => skel_all (Q := Q3) hzz.op (x, y, z, s, k, tx, ty, tz, ts, tk', z3x29, tk, q1, q2, q3, q4, q5, q6, q7, q8, lt, tkj)⟩
end

section
open PySem PySem.W PyProof.Rows PySem.Calls

theorem zipOff (S D D' : Nat) (h : D < S) (h' : D' < S) (hne : D ≠ D') : ZipOff (S + 4) (S + 2) (S + 3) S (S + 1) [S, D] [S + 1, D'] := by
  have e : ∀ {a b c : Nat}, a ≠ b → a ≠ c → ¬ @Membership.mem Addr (List Addr) _ [b, c] a := fun {a b c} h1 h2 m => by
    rcases List.mem_cons.mp m with q | m
    · exact h1 q
    · exact h2 (List.mem_singleton.mp m)
  have gt : ∀ {a : Nat} (k : Nat), a < S → S + k ≠ a := fun k ha => Nat.ne_of_gt (Nat.lt_of_lt_of_le ha (Nat.le_add_right S k))
  exact ⟨List.mem_cons_self, List.mem_cons_self, e (cne 4 0) (gt 4 h), e (cne 4 1) (gt 4 h'), e (cne 2 0) (gt 2 h), e (cne 2 1) (gt 2 h'), e (cne 3 0) (gt 3 h), e (cne 3 1) (gt 3 h'), e (cne 0 1) (gt 0 h'), e (cne 1 0) (gt 1 h), cne 2 4, cne 3 4, cne 2 3⟩
inductive RowsIn (R : Ledger) : List Value → List (List Int) → Prop where
  | nil : RowsIn R [] []
  | cons {a : Addr} {vs : List Value} {n : Nat} {r : List Int} {ys rs} : (a, W.listOf (List.toArray vs) n) ∈ R → IntsAre vs r → RowsIn R ys rs → RowsIn R (.ref a :: ys) (r :: rs)
theorem RowsIn.mono {R R' : Ledger} {ys rs} (h : RowsIn R ys rs) (hs : ∀ p ∈ R, p ∈ R') : RowsIn R' ys rs := by
  induction h with
  | nil => exact .nil
  | cons hm hi _ ih => exact .cons (hs _ hm) hi ih
theorem RowsIn.append {R : Ledger} {ys rs ys' rs'} (h : RowsIn R ys rs) (h' : RowsIn R ys' rs') : RowsIn R (ys ++ ys') (rs ++ rs') := by
  induction h with
  | nil => exact h'
  | cons hm hi _ ih => exact .cons hm hi ih
theorem RowsIn.length {R : Ledger} {ys rs} (h : RowsIn R ys rs) : ys.length = rs.length := by
  induction h with
  | nil => rfl
  | cons _ _ _ ih => simp [ih]
def rowOf (ns : List Int) (x y z j : Int) (i : Nat) : List Int := termRow x y z j (shapeOf ((ns.getD i 0).fmod (([9, 4, 4] : List Int).getD i 0))) ((ns.getD i 0).fdiv 9)
inductive Rw3 (R : Ledger) (ys : List Value) (f : Nat → List Int) : Prop
  | mk (a1 : Addr) (v1 : List Value) (m1 : Nat) (a2 : Addr) (v2 : List Value) (m2 : Nat) (a3 : Addr) (v3 : List Value) (m3 : Nat) (e : ys = [.ref a1, .ref a2, .ref a3]) (h1 : (a1, W.listOf (List.toArray v1) m1) ∈ R) (i1 : IntsAre v1 (f 0)) (h2 : (a2, W.listOf (List.toArray v2) m2) ∈ R) (i2 : IntsAre v2 (f 1)) (h3 : (a3, W.listOf (List.toArray v3) m3) ∈ R) (i3 : IntsAre v3 (f 2)) : Rw3 R ys f
theorem rows3 {R : Ledger} {ys : List Value} {f : Nat → List Int} (h : RowsIn R ys ((List.range 3).map f)) : Rw3 R ys f := by
  have h' : RowsIn R ys [f 0, f 1, f 2] := h
  cases h' with
  | cons a b c => cases c with
    | cons a' b' c => cases c with
      | cons a'' b'' c => cases c with
        | nil => exact ⟨_, _, _, _, _, _, _, _, _, rfl, a, b, a', b', a'', b''⟩

open C0
open C1 hiding tk
open C2 hiding tk
open C3
noncomputable def l4 : (P : PySem.Heap → PySem.Heap → Nat → PySem.Heap → Nat → PySem.Addr → (List PySem.Value) → Nat → PySem.Addr → (List PySem.Value) → Nat → PySem.Addr → (List PySem.Value) → Nat → Mine.Ledger → Prop) ×' (Sealed (∀ h7 hz Dr h tk a1 v1 m1 a2 v2 m2 a3 v3 m3 R, P h7 hz Dr h tk a1 v1 m1 a2 v2 m2 a3 v3 m3 R) → PySem.Challenge.rw_wb0121_01.Holds) := ⟨_, fun kz => by
  refine k3 ⟨?_⟩
  show ∀ G : _, _
  w_top off
  k_fill
  set_option tactic.hygienic false in intros
  k_dflt (refine comp_assign (F₀ := by k_asm) (by rfl) (by with_unfolding_all rfl) (by with_unfolding_all rfl) (by decide) (by rfl) (by decide) (by decide) (by rfl) (by rfl) ?_)
  k_steps
  unfold Stop
  try clear N8
  try clear F7
  rename News _ _ _ _ => N9
  rename Fr _ _ _ _ => F9
  rename_i D7 h7 l7
  refine hide fun G0 kG0 => ?_
  obtain ⟨ta, tb, tc, hT7⟩ : ∃ ta tb tc : Tok, News _ _ h7 ((D7, ({ cls := .type "tuple", data := .seq #[.int 9 ta, .int 4 tb, .int 4 tc] } : Obj)) :: cellsL s₁.heap.objs.size q1 q2 q3 q4 q5 q6 q7 q8 o9 [(lt, W.listOf #[] 0), (D, LCg.lst [.int n1 t1, .int n2 t2, .int n3 t3, .int n4 t4, .int n5 t5])]) := ⟨_, _, _, N9⟩
  refine kG0 ?_
  clear kG0 G0
  clear N9
  have N9 := hT7
  clear hT7
  have hltS := news_lt N9
  have hS1 := hltS _ List.mem_cons_self
  have hS2 := hltS (D, _) (by tb_rel)
  refine call_zip_LT (xs := #[.int n1 t1, .int n2 t2, .int n3 t3, .int n4 t4, .int n5 t5]) (ys := #[.int 9 ta, .int 4 tb, .int 4 tc]) ⟨_, (N9 (D, _) (by tb_rel)).1, rfl, _, rfl⟩ ⟨_, (N9 _ List.mem_cons_self).1, rfl, _, rfl⟩ fun hz zz zTI zTO zi1 zi2 zsz up => ?_
  k_steps
  unfold Stop
  dsimp only at hS1 hS2
  have hne7 : D ≠ D7 := by
    intro e
    have e1 := (N9 (D, _) (by tb_rel)).1
    have e2 := (N9 _ List.mem_cons_self).1
    rw [e, e2] at e1
    have e3 := congrArg Obj.cls (Option.some.inj e1)
    exact absurd e3 (show Value.type "tuple" ≠ Value.type "list" by decide)
  refine src_zip (zipOff _ _ _ (ltN hS2) (ltN hS1) hne7) (Draws.list rfl _ D (Nat.ne_of_lt hS2) #[.int n1 t1, .int n2 t2, .int n3 t3, .int n4 t4, .int n5 t5]) (drawsTup rfl _ D7 (Nat.ne_of_lt (Nat.lt_succ_of_lt hS1)) #[.int 9 ta, .int 4 tb, .int 4 tc]) (keep := [(D, LCg.lst [.int n1 t1, .int n2 t2, .int n3 t3, .int n4 t4, .int n5 t5]), (D7, ({ cls := .type "tuple", data := .seq #[.int 9 ta, .int 4 tb, .int 4 tc] } : Obj))])
    (news := cellsL s₁.heap.objs.size q1 q2 q3 q4 q5 q6 q7 q8 o9 ((D7, ({ cls := .type "tuple", data := .seq #[.int 9 ta, .int 4 tb, .int 4 tc] } : Obj)) :: (lt, W.listOf #[] 0) :: [(D, LCg.lst [.int n1 t1, .int n2 t2, .int n3 t3, .int n4 t4, .int n5 t5])]))
    (J := fun i ys nw => ∃ R, nw = cellsL s₁.heap.objs.size q1 q2 q3 q4 q5 q6 q7 q8 o9 R ∧ (∀ p ∈ R, s₁.heap.objs.size + 9 < p.1) ∧ (D, LCg.lst [.int n1 t1, .int n2 t2, .int n3 t3, .int n4 t4, .int n5 t5]) ∈ R ∧ (D7, ({ cls := .type "tuple", data := .seq #[.int 9 ta, .int 4 tb, .int 4 tc] } : Obj)) ∈ R ∧ (lt, W.listOf #[] 0) ∈ R ∧ RowsIn R ys ((List.range i).map (rowOf [n1, n2, n3, n4, n5] x y z (joinOf n5))))
    ?hlt rfl (by rfl) (by rfl) (by rfl) (by decide) ?hsz zz zTI zTO ⟨zi1, ?q1⟩ ⟨zi2, ?q2⟩ ?f1 ?f2 ?own ?off (F9.keeps up) ?N ?keep ?J0 ?turn ?fin4
  case N =>
    exact pack [_] [(lt, W.listOf #[] 0), (D, LCg.lst [.int n1 t1, .int n2 t2, .int n3 t3, .int n4 t4, .int n5 t5])] (N9.grown up) (.own (.head _) .all)
  case hlt => show 3 < 5; decide
  case hsz => exact le_sizeLine (by show 3 ≤ _; decide)
  case q1 => exact ⟨_, up _ _ (N9 (D, _) (by tb_rel)).1, rfl, _, rfl⟩
  case q2 => exact ⟨_, up _ _ (N9 _ List.mem_cons_self).1, rfl, _, rfl⟩
  case f1 =>
    intro b hb
    rcases List.mem_cons.mp hb with h | hb
    · exact .inl h
    · rw [List.mem_singleton.mp hb]; exact .inr (.inr ⟨_, List.mem_cons_self⟩)
  case f2 =>
    intro b hb
    rcases List.mem_cons.mp hb with h | hb
    · exact .inl h
    · rw [List.mem_singleton.mp hb]; exact .inr (.inr ⟨_, List.mem_cons_of_mem _ List.mem_cons_self⟩)
  case keep =>
    rintro i ys nw ⟨R, rfl, hR, h1, h2, h3, h4⟩ p hp
    simp only [List.mem_cons, List.not_mem_nil, or_false] at hp
    have up9 : ∀ q ∈ R, q ∈ cellsL s₁.heap.objs.size q1 q2 q3 q4 q5 q6 q7 q8 o9 R := fun q hq => cells_in hq
    rcases hp with rfl | rfl
    · exact up9 _ h1
    · exact up9 _ h2
  case J0 =>
    refine ⟨_, rfl, ?_, ?_, ?_, ?_, .nil⟩
    · exact above_cons l7 (above_cons hlt' (above_cons hD' fun _ h => nomatch h))
    · exact .tail _ (.tail _ (.head _))
    · exact .head _
    · exact .tail _ (.head _)
  case own =>
    intro b hb
    simp only [List.mem_cons, List.not_mem_nil, or_false] at hb
    rcases hb with rfl | rfl | rfl | rfl | rfl
    all_goals exact ⟨Nat.ne_of_gt (Nat.lt_of_lt_of_le F9.ns.lt (by first | exact Nat.le_add_right _ _ | exact Nat.le_refl _)), new_at F9 (by first | exact Nat.le_add_right _ _ | exact Nat.le_refl _)⟩
  case off =>
    intro p hp hb
    have hp9 : p.1 < h7.objs.size := hltS p (cells_pack (ow := [_]) (R := [(lt, W.listOf #[] 0), (D, LCg.lst [.int n1 t1, .int n2 t2, .int n3 t3, .int n4 t4, .int n5 t5])]) (.own (.head _) .all) p hp)
    have hp9' := ltN hp9
    simp only [List.mem_cons, List.not_mem_nil, or_false] at hb
    rcases hb with h | h | h | h | h
    all_goals
      rw [h] at hp9
      exact absurd hp9 (Nat.not_lt.mpr (by first | exact Nat.le_add_right _ _ | exact Nat.le_refl _))
  case turn =>
    rintro i ys nw own C Dl oC m₂ h tk E' hi ⟨xv, yv, hP1, hP2, hma, hmb⟩ hC ⟨R, rfl, hR, hRD, hRT, hRl, hrows⟩ hyl F2 N2 off hne hK
    have hi3 : i < 3 := hi
    obtain ⟨tx', rfl⟩ := IntsAre.int_at (.cons n1 t1 (.cons n2 t2 (.cons n3 t3 (.cons n4 t4 (.cons n5 t5 .nil))))) i xv (by simpa using hP1)
    obtain ⟨ty', rfl⟩ := IntsAre.int_at (.cons 9 ta (.cons 4 tb (.cons 4 tc .nil))) i yv (by simpa using hP2)
    try simp only [List.cons_append] at N2
    clear N9 F9 zz zTI zTO zi1 zi2 up hltS
    show wpAny _ _ (eval _ _) _ _ _
    k_steps
    unfold Stop
    refine' tells_use (te_tells w rfl rfl ⟨[n1, n2, n3, n4, n5].getD i 0, x, y, z, joinOf n5, [9, 4, 4].getD i 0, _⟩) ?k1 ?k2 ?k3 ?k4 ?k5 ?kK ?kR ?ko ?kd ?ku ?_
    case k1 => exact K0
    case k2 => k_asm
    case k3 => exact KX
    case k4 => k_asm
    case k5 => exact T
    case kK => exact rfl
    case kR => exact .mk List.mem_cons_self
    case ko =>
      have hko : ∀ i < 3, 0 < ([9, 4, 4] : List Int).getD i 0 ∧ ([9, 4, 4] : List Int).getD i 0 ≤ 9 := by decide
      exact hko i hi3
    case kd => show callerA.depth + 1 + 1 < 1000; decide
    case ku => show callerA.units + 3 + 8 * 1 < 9900; decide
    rintro _ nwF h9 tk9 F9 N9 led ⟨a9, vs9', n9', rfl, hm9, hi9, hf9⟩
    k_steps
    refine CompY.push F9 N9 (fun p hp => led.sub p (List.mem_cons_of_mem _ hp)) hm9 (fun p hp => hf9 p (List.mem_cons_of_mem _ hp)) off (cellsL s₁.heap.objs.size q1 q2 q3 q4 q5 q6 q7 q8 o9 ((a9, W.listOf vs9'.toArray n9') :: R)) ?_ ⟨_, rfl, ?_, ?_, ?_, ?_, ?_⟩
    · exact cells_push
    · intro p hp
      rcases List.mem_cons.mp hp with rfl | hp
      · exact hf9 (s₁.heap.objs.size + 1 + 1 + 1 + 1 + 1 + 1 + 1 + 1 + 1, q1) (by tb_rel)
      · exact hR p hp
    · exact List.mem_cons_of_mem _ hRD
    · exact List.mem_cons_of_mem _ hRT
    · exact List.mem_cons_of_mem _ hRl
    · rw [List.range_succ, List.map_append]
      exact (hrows.mono fun p h => List.mem_cons_of_mem _ h).append (.cons List.mem_cons_self hi9 .nil)
  rintro ys nw ⟨R0, rfl, hR0, g1, g2, g3, hrows⟩ hle Dr h tk eD F3 N3 off3
  refine hide fun G0 kG0 => ?_
  obtain ⟨a1, v1, m1, a2, v2, m2, a3, v3, m3, rfl, g4, hi1, g5, hi2, g6, hi3⟩ := rows3 hrows
  refine kG0 ?_
  clear kG0 G0
  have hDr := ltN (hR0 _ g2)
  dsimp only at hDr eD zsz
  have hDr' : s₁.heap.objs.size + 9 < Dr := by
    have h8 := ltN hS1
    omega
  clear N9 F9 zz zTI zTO zi1 zi2 up hltS hS1 hS2 zsz hne7 off3 hle hrows eD hDr
  refine hide fun G0 kG0 => ?_
  obtain ⟨R, hR, hRD, hRl, hRr, hm1, hm2, hm3, N8⟩ : ∃ R : Ledger, (∀ p ∈ R, s₁.heap.objs.size + 9 < p.1) ∧ (D, LCg.lst [.int n1 t1, .int n2 t2, .int n3 t3, .int n4 t4, .int n5 t5]) ∈ R ∧ (lt, W.listOf #[] 0) ∈ R ∧ (Dr, LCg.lst [.ref a1, .ref a2, .ref a3]) ∈ R ∧
      (a1, W.listOf (List.toArray v1) m1) ∈ R ∧ (a2, W.listOf (List.toArray v2) m2) ∈ R ∧ (a3, W.listOf (List.toArray v3) m3) ∈ R ∧ News _ _ _ (cellsL s₁.heap.objs.size q1 q2 q3 q4 q5 q6 q7 q8 o9 R) :=
    ⟨(Dr, LCg.lst [.ref a1, .ref a2, .ref a3]) :: R0, above_cons hDr' hR0, List.mem_cons_of_mem _ g1, List.mem_cons_of_mem _ g3, List.mem_cons_self, List.mem_cons_of_mem _ g4, List.mem_cons_of_mem _ g5, List.mem_cons_of_mem _ g6, pack [_] _ N3 (.own (.head _) .all)⟩
  refine kG0 ?_
  clear kG0 G0
  clear N3 hR0 g1 g2 g3 g4 g5 g6 R0
  k_sweep
  clear hlt' hD' D7 l7 ta tb tc hDr'
  revert G Y hg KX T B TE TW hcd K0 d9 qk z3x1 hst ex ey ez es ek e1 e2 e3 e4 e5 e6 e7 e8 F3 hi1 hi2 hi3 hR hRD hRl hRr hm1 hm2 hm3 N8
  exact kz.op h7 hz Dr h tk a1 v1 m1 a2 v2 m2 a3 v3 m3 R⟩
noncomputable def Q4 (d : PySem.Heap × PySem.Heap × Nat × PySem.Heap × Nat × PySem.Addr × (List PySem.Value) × Nat × PySem.Addr × (List PySem.Value) × Nat × PySem.Addr × (List PySem.Value) × Nat × Mine.Ledger) : Prop := l4.1 d.1 d.2.1 d.2.2.1 d.2.2.2.1 d.2.2.2.2.1 d.2.2.2.2.2.1 d.2.2.2.2.2.2.1 d.2.2.2.2.2.2.2.1 d.2.2.2.2.2.2.2.2.1 d.2.2.2.2.2.2.2.2.2.1 d.2.2.2.2.2.2.2.2.2.2.1 d.2.2.2.2.2.2.2.2.2.2.2.1 d.2.2.2.2.2.2.2.2.2.2.2.2.1 d.2.2.2.2.2.2.2.2.2.2.2.2.2.1 d.2.2.2.2.2.2.2.2.2.2.2.2.2.2
noncomputable def c4 := skel (neP neI (neP neI (neP neI (neP neI (neP neI (neP neI (neP neI (neP neI (neP neI (neP neI (neP neI (neP neI (neP neI (neP neI (neI))))))))))))))) Q4
noncomputable def C4.h7 : PySem.Heap := c4.1
noncomputable def C4.hz : PySem.Heap := c4.2.1
noncomputable def C4.Dr : Nat := c4.2.2.1
noncomputable def C4.h : PySem.Heap := c4.2.2.2.1
noncomputable def C4.tk : Nat := c4.2.2.2.2.1
noncomputable def C4.a1 : PySem.Addr := c4.2.2.2.2.2.1
noncomputable def C4.v1 : List PySem.Value := c4.2.2.2.2.2.2.1
noncomputable def C4.m1 : Nat := c4.2.2.2.2.2.2.2.1
noncomputable def C4.a2 : PySem.Addr := c4.2.2.2.2.2.2.2.2.1
noncomputable def C4.v2 : List PySem.Value := c4.2.2.2.2.2.2.2.2.2.1
noncomputable def C4.m2 : Nat := c4.2.2.2.2.2.2.2.2.2.2.1
noncomputable def C4.a3 : PySem.Addr := c4.2.2.2.2.2.2.2.2.2.2.2.1
noncomputable def C4.v3 : List PySem.Value := c4.2.2.2.2.2.2.2.2.2.2.2.2.1
noncomputable def C4.m3 : Nat := c4.2.2.2.2.2.2.2.2.2.2.2.2.2.1
noncomputable def C4.R : Mine.Ledger := c4.2.2.2.2.2.2.2.2.2.2.2.2.2.2
theorem k4 (hzz : Sealed (l4.1 C4.h7 C4.hz C4.Dr C4.h C4.tk C4.a1 C4.v1 C4.m1 C4.a2 C4.v2 C4.m2 C4.a3 C4.v3 C4.m3 C4.R)) : PySem.Challenge.rw_wb0121_01.Holds := l4.2 ⟨fun h7 hz Dr h tk a1 v1 m1 a2 v2 m2 a3 v3 m3 R => skel_all (Q := Q4) hzz.op (h7, hz, Dr, h, tk, a1, v1, m1, a2, v2, m2, a3, v3, m3, R)⟩
end

section
open PySem PySem.W PyProof.Rows PySem.Calls

theorem termRow_len (x y z j : Int) : ∀ (cs : List Nat) (f : Int), (termRow x y z j cs f).length = cs.length
  | [], _ => rfl
  | c :: r, f => by
    unfold termRow
    by_cases h : c = 42
    · rw [if_pos h, List.length_cons, List.length_cons, termRow_len x y z j r f]
    · rw [if_neg h, List.length_cons, List.length_cons, termRow_len x y z j r _]
theorem shape_len (k : Int) : (shapeOf k).length ≤ 7 := by
  unfold shapeOf
  have h : ∀ n, n < 9 → (shapeTxt.getD n (Str.ofString "")).cps.toList.length ≤ 7 := by decide +kernel
  by_cases hk : k.toNat < 9
  · exact h _ hk
  · have e : shapeTxt.getD k.toNat (Str.ofString "") = Str.ofString "" := by
      rw [List.getD_eq_getElem?_getD, List.getElem?_eq_none (by show 9 ≤ _; omega)]; rfl
    rw [e]; decide
theorem rowOf_len (ns : List Int) (x y z j : Int) (i : Nat) : (rowOf ns x y z j i).length ≤ 7 := by
  unfold rowOf
  rw [termRow_len]
  exact shape_len _
def tapeOf (r1 r2 r3 : List Int) : List Int := [] ++ r1 ++ [0] ++ r2 ++ [0] ++ r3 ++ [0]
local macro_rules | `(tactic| walk_at "binaryOp Add ref ref") => `(tactic| (k_here; (with_reducible show wpAny _ _ (binaryOp _ (Value.ref _) (Value.ref _)) _ _ _); (refine' list_add ?F ?N ?a ?b ?z ?_; (case F => k_asm); (case N => k_asm); (case a => tb_rel); (case b => tb_rel); (case z => (refine le_sizeLine ?_; simp only [List.length_append, List.length_cons, List.length_nil, List.length_drop]; omega)); k_whole); intro D' h' F' N' l1; (try k_lt l1); (try k_sweep)))
open C0
open C1 hiding tk
open C2 hiding tk
open C3 hiding tk
open C4
noncomputable def l5 : (P : PySem.Heap → Nat → PySem.Obj → PySem.Addr → (List PySem.Value) → Prop) ×' (Sealed (∀ z5x53 z5x54 p1 Dt tv, P z5x53 z5x54 p1 Dt tv) → PySem.Challenge.rw_wb0121_01.Holds) := ⟨_, fun kz => by
  refine k4 ⟨?_⟩
  show ∀ G : _, _
  w_top off
  k_fill
  set_option tactic.hygienic false in intros
  have c1 : v1.length ≤ 7 := by rw [hi1.length]; exact rowOf_len _ _ _ _ _ _
  have c2 : v2.length ≤ 7 := by rw [hi2.length]; exact rowOf_len _ _ _ _ _ _
  have c3 : v3.length ≤ 7 := by rw [hi3.length]; exact rowOf_len _ _ _ _ _ _
  k_steps
  unfold Stop
  rename Fr _ _ _ _ => F7
  refine For_invVF F7 (by rfl) (by rfl) ?_
  k_steps
  unfold Stop
  refine iter_listUnr (lo := LCg.lst [.ref a1, .ref a2, .ref a3]) (vs := [.ref a1, .ref a2, .ref a3]) (by rfl) F7 N8 (cells_in hRr) (by rfl) (by rfl) ?_
  intro I hI
  have hI9 := ltC hI
  have i0 : ∀ p ∈ R, p.1 ≠ I := fun p hp => Nat.ne_of_lt (hI p (cells_in hp))
  clear hI N8 F7
  k_steps
  refine unr_cells (by k_asm) (by k_asm) (by assumption) hI9 (by assumption) hR i0 fun hR1 i1 => ⟨cells_in (.tail _ (hRr)), ?_⟩
  k_steps
  refine unr_cells (by k_asm) (by k_asm) (by assumption) hI9 (by assumption) hR1 i1 fun hR2 i2 => ⟨cells_in (.tail _ (.tail _ (hRr))), ?_⟩
  k_steps
  refine unr_cells (by k_asm) (by k_asm) (by assumption) hI9 (by assumption) hR2 i2 fun hR3 i3 => ⟨cells_in (.tail _ (.tail _ (.tail _ (hRr)))), ?_⟩
  k_steps
  unfold Stop
  rename News _ _ _ _ => N7
  rename Fr _ _ _ _ => F7
  refine hide fun G0 kG0 => ?_
  obtain ⟨p1, Dt, t7, t8, t9, N8, e1', hDt⟩ : ∃ (p1 : Obj) (Dt : Addr) (t7 t8 t9 : Tok), News _ _ _ (cellsL s₁.heap.objs.size p1 q2 q3 q4 q5 q6 q7 q8 o9 ((Dt, W.listOf ([] ++ v1 ++ [Value.int 0 t7] ++ v2 ++ [Value.int 0 t8] ++ v3 ++ [Value.int 0 t9]).toArray 0) :: _ :: _ :: R)) ∧
      p1.data = .cell (some (.ref Dt)) ∧ s₁.heap.objs.size + 9 < Dt := ⟨_, _, _, _, _, N7, by assumption, by assumption⟩
  obtain ⟨tv, etv⟩ : ∃ tv, tv = [] ++ v1 ++ [Value.int 0 t7] ++ v2 ++ [Value.int 0 t8] ++ v3 ++ [Value.int 0 t9] := ⟨_, rfl⟩
  refine kG0 ?_
  clear kG0 G0
  have htv : IntsAre tv (tapeOf (rowOf [n1, n2, n3, n4, n5] x y z (joinOf n5) 0) (rowOf [n1, n2, n3, n4, n5] x y z (joinOf n5) 1) (rowOf [n1, n2, n3, n4, n5] x y z (joinOf n5) 2)) := by
    rw [etv]
    exact .append (.append (.append (.append (.append (.append .nil hi1) (.cons _ _ .nil)) hi2) (.cons _ _ .nil)) hi3) (.cons _ _ .nil)
  have ctv : tv.length ≤ 24 := by rw [etv]; simp only [List.length_append, List.length_cons, List.length_nil]; omega
  rw [← etv] at N8
  clear etv
  replace N8 : News _ _ _ (cellsL s₁.heap.objs.size p1 q2 q3 q4 q5 q6 q7 q8 o9 ((Dt, W.listOf (List.toArray tv) 0) :: R)) := pack [] _ N8 (.old (.head _) fun p hp => .inr (.tail _ (.tail _ (.tail _ hp))))
  clear N7 hR1 hR2 hR3 i0 i1 i2 i3 hRl
  k_sweep
  rename_i z5x1 z5x2 z5x3 z5x4 z5x5 z5x6 z5x7 z5x8 z5x9 z5x10 z5x11 z5x12 z5x13 z5x14 z5x15 z5x16 z5x17 z5x18 z5x19 z5x20 z5x21 z5x22 z5x23 z5x24 z5x25 z5x26 z5x27 z5x28 z5x29 z5x30 z5x31 z5x32 z5x33 z5x34 z5x35 z5x36 z5x37 z5x38 z5x39 z5x40 z5x41 z5x42 z5x43 z5x44 z5x45 z5x46 z5x47 z5x48 z5x49 z5x50 z5x51 z5x52 z5x53 z5x54
  clear e1 I hI9 z5x1 z5x2 z5x3 z5x4 z5x5 z5x6 z5x7 z5x8 z5x9 z5x10 z5x11 z5x12 z5x13 z5x14 z5x15 z5x16 z5x17 z5x18 z5x19 z5x20 z5x21 z5x22 z5x23 z5x24 z5x25 z5x26 z5x27 z5x28 z5x29 z5x30 z5x31 z5x32 z5x33 z5x34 z5x35 z5x36 z5x37 z5x38 z5x39 z5x40 z5x41 z5x42 z5x43 z5x44 z5x45 z5x46 z5x47 z5x48 z5x49 z5x50 z5x51 z5x52 tk t7 t8 t9
  revert G Y hg KX T B TE TW hcd K0 d9 qk z3x1 hst ex ey ez es ek e2 e3 e4 e5 e6 e7 e8 hi1 hi2 hi3 hR hRD hRr hm1 hm2 hm3 c1 c2 c3 F7 e1' hDt htv ctv N8
  exact kz.op z5x53 z5x54 p1 Dt tv⟩
noncomputable def Q5 (d : PySem.Heap × Nat × PySem.Obj × PySem.Addr × (List PySem.Value)) : Prop := l5.1 d.1 d.2.1 d.2.2.1 d.2.2.2.1 d.2.2.2.2
noncomputable def c5 := skel (neP neI (neP neI (neP neI (neP neI (neI))))) Q5
noncomputable def C5.z5x53 : PySem.Heap := c5.1
noncomputable def C5.z5x54 : Nat := c5.2.1
noncomputable def C5.p1 : PySem.Obj := c5.2.2.1
noncomputable def C5.Dt : PySem.Addr := c5.2.2.2.1
noncomputable def C5.tv : List PySem.Value := c5.2.2.2.2
theorem k5 (hzz : Sealed (l5.1 C5.z5x53 C5.z5x54 C5.p1 C5.Dt C5.tv)) : PySem.Challenge.rw_wb0121_01.Holds := l5.2 ⟨fun z5x53 z5x54 p1 Dt tv => skel_all (Q := Q5) hzz.op (z5x53, z5x54, p1, Dt, tv)⟩
end

section
open PySem PySem.W PyProof.Rows PySem.Calls

def endsOf (tp : List Int) : List Nat := (List.range tp.length).filter fun i => tp.getD i 0 == 0
theorem ends_step (tp : List Int) (i : Nat) : ((List.range (i + 1)).filter fun p => tp.getD p 0 == 0).map (fun p : Nat => (p : Int)) = ((List.range i).filter fun p => tp.getD p 0 == 0).map (fun p : Nat => (p : Int)) ++ (if tp.getD i 0 = 0 then [(i : Int)] else []) := by
  rw [List.range_succ, List.filter_append, List.map_append]
  congr 1
  by_cases h0 : tp.getD i 0 = 0
  · rw [if_pos h0, List.filter_cons_of_pos (by rw [h0]; rfl)]; rfl
  · rw [if_neg h0, List.filter_cons_of_neg (by intro h; exact h0 (beq_iff_eq.mp h))]; rfl
theorem joinOf_ge (n : Int) : 256 ≤ joinOf n := by
  unfold joinOf
  by_cases h : n < 0
  · rw [if_pos h]; omega
  · rw [if_neg h]; omega
theorem letter_range (n st : Int) (p : Nat) : 7 ≤ letterOf n st p ∧ letterOf n st p ≤ 54 := by
  have h0 : 0 ≤ (n + (p : Int) * st).fmod 48 := Int.fmod_nonneg_of_pos _ (by decide)
  have h1 : (n + (p : Int) * st).fmod 48 < 48 := Int.fmod_lt_of_pos _ (by decide)
  unfold letterOf
  omega
theorem ends_are {tp : List Int} {A B C : Tm} {J : Int} (hJ : 256 ≤ J) (htp : tp = [] ++ A.ints J ++ [0] ++ B.ints J ++ [0] ++ C.ints J ++ [0]) (ha : A.All (fun v => 7 ≤ v ∧ v ≤ 54)) (hb : B.All (fun v => 7 ≤ v ∧ v ≤ 54)) (hc : C.All (fun v => 7 ≤ v ∧ v ≤ 54)) {n : Nat} (hn : n = tp.length) :
    ((List.range n).filter fun p => tp.getD p 0 == 0).map (fun p : Nat => (p : Int)) = [(A.size : Int), ((A.size + 1 + B.size : Nat) : Int), ((A.size + 1 + B.size + 1 + C.size : Nat) : Int)] := by
  have nz : ∀ {T : Tm}, T.All (fun v => 7 ≤ v ∧ v ≤ 54) → ∀ v ∈ T.ints J, v ≠ 0 := fun h v hv => Tm.all_ints (P := fun v => v ≠ 0) (by omega) (h.mono fun i hi => by omega) v hv
  have e := tape_ends _ _ _ (nz ha) (nz hb) (nz hc)
  rw [← htp] at e
  have z := zeros_range tp 0
  rw [e] at z
  simp only [Nat.zero_add, List.map_id', Tm.ints_length] at z
  rw [hn, z]
  rfl
theorem ints3 {ys : List Value} {a b c : Int} (h : IntsAre ys [a, b, c]) : ∃ ta tb tc, ys = [.int a ta, .int b tb, .int c tc] := by
  cases h with | cons _ ta h => cases h with | cons _ tb h => cases h with | cons _ tc h => cases h; exact ⟨ta, tb, tc, rfl⟩

open C0
open C1 hiding tk
open C2 hiding tk
open C3 hiding tk
open C4
open C5
noncomputable def l6 : (P : (List Int) → Nat → PySem.Heap → Nat → Mine.Tm → Mine.Tm → Mine.Tm → PySem.Tok → PySem.Tok → PySem.Tok → Prop) ×' (Sealed (∀ tp De h tk TA TB TC u1 u2 u3, P tp De h tk TA TB TC u1 u2 u3) → PySem.Challenge.rw_wb0121_01.Holds) := ⟨_, fun kz => by
  refine k5 ⟨?_⟩
  show ∀ G : _, _
  w_top off
  k_fill
  set_option tactic.hygienic false in intros
  obtain ⟨tp, etp⟩ : ∃ tp, tp = tapeOf (rowOf [n1, n2, n3, n4, n5] x y z (joinOf n5) 0) (rowOf [n1, n2, n3, n4, n5] x y z (joinOf n5) 1) (rowOf [n1, n2, n3, n4, n5] x y z (joinOf n5) 2) := ⟨_, rfl⟩
  rw [← etp] at htv
  k_dflt (refine comp_assign (F₀ := by k_asm) (by rfl) (by with_unfolding_all rfl) (by with_unfolding_all rfl) (by decide) (by rfl) (by decide) (by decide) (by rfl) (by rfl) ?_)
  k_steps
  unfold Stop
  rename Fr _ _ _ _ => F9
  refine call_enumerate_list (items := tv.toArray) ⟨_, (N8 (Dt, _) (by tb_rel)).1, rfl, _, rfl⟩ fun h2 he hit hsz up => ?_
  k_steps
  unfold Stop
  have hlt := news_lt N8
  have hlt0 := hlt (Dt, _) (by tb_rel)
  refine src_enum (D := Draws.list rfl _ Dt (Nat.ne_of_lt hlt0) tv.toArray) (keep := [(Dt, W.listOf tv.toArray 0)]) (news := ?nn6) (J := JC ?nn6 fun i ys => IntsAre ys (((List.range i).filter fun p => tp.getD p 0 == 0).map fun p : Nat => (p : Int))) rfl ?n1 ?n2 List.mem_cons_self (by rfl) (by rfl) (by rfl) (by decide) (le_sizeLine (by rw [List.size_toArray]; omega)) he ⟨hit, ⟨_, up _ _ (N8 (Dt, _) (by tb_rel)).1, rfl, _, rfl⟩⟩ ?n3 ?n4 ?n5 ?F ?N ?keep ?J0 ?turn ?fin6
  case F => exact F9.keeps up
  case N => exact N8.grown up
  case keep =>
    rintro i ys nw ⟨rfl, _⟩ p hp
    rw [List.mem_singleton.mp hp]; tb_rel
  case n1 => exact Nat.succ_ne_self _
  case n2 =>
    intro hb
    rcases List.mem_cons.mp hb with h | hb
    · exact Nat.succ_ne_self _ h
    · exact Nat.lt_irrefl _ (Nat.lt_succ_of_lt (List.mem_singleton.mp hb ▸ hlt0))
  case n3 =>
    intro b hb
    rcases List.mem_cons.mp hb with h | hb
    · exact .inl h
    · rw [List.mem_singleton.mp hb]; exact .inr (.inr ⟨_, List.mem_singleton.mpr rfl⟩)
  case n4 =>
    rintro b (rfl | rfl)
    · exact ⟨Nat.ne_of_gt (Nat.lt_succ_of_lt F9.ns.lt), new_at F9 (Nat.le_succ _)⟩
    · exact ⟨Nat.ne_of_gt F9.ns.lt, new_at F9 (Nat.le_refl _)⟩
  case n5 => exact fun p hp => ⟨Nat.ne_of_lt (Nat.lt_succ_of_lt (hlt p hp)), Nat.ne_of_lt (hlt p hp)⟩
  case J0 => exact ⟨rfl, .nil⟩
  case turn =>
    rintro i ys nw own C Dl oC m₂ h tk E' hi ⟨t, xv, hP, hma, hmb⟩ hC ⟨rfl, hyi⟩ hyl F2 N2 off hne hK
    obtain ⟨tx', rfl⟩ := IntsAre.int_at htv i xv (by simpa using hP)
    clear N8 F9 he hit up hlt hlt0
    show wpAny _ _ (isTrue _ _ _) _ _ _
    k_steps
    unfold Stop
    refine' tells_use (eof_tells w rfl rfl (tp.getD i 0)) ?k1 ?k2 ?k3 ?k4 ?k5 ?kK ?kR ?ko ?kd ?ku ?_
    case k1 => exact K0
    case k2 => k_asm
    case k3 => exact KX
    case k4 => k_asm
    case k5 => exact T
    case kK => exact rfl
    case kR => exact .mk
    case ko => exact trivial
    case kd => show callerA.depth + 1 + 1 < 1000; decide
    case ku => show callerA.units + 3 + 8 * 1 < 9900; decide
    rintro _ nwF h9 tk9 F9 N9 led hout
    have hout' := hout
    dsimp only at hout'
    subst hout'
    have hfil := ends_step tp i
    have N10 := news_sub N9 led.sub
    clear N9 led
    by_cases h0 : tp.getD i 0 = 0
    · rw [if_pos h0] at hfil
      k_steps
      refine CompY.const (by k_asm) N10 (fun p hp => hp) off ?_
      show IntsAre (ys ++ [.int (i : Int) t]) (((List.range (i + 1)).filter fun p => tp.getD p 0 == 0).map fun p : Nat => (p : Int))
      rw [hfil]
      exact hyi.append (.cons _ _ .nil)
    · rw [if_neg h0, List.append_nil] at hfil
      k_steps
      refine CompY.const (by k_asm) N10 (fun p hp => hp) off ?_
      show IntsAre ys (((List.range (i + 1)).filter fun p => tp.getD p 0 == 0).map fun p : Nat => (p : Int))
      rw [hfil]
      exact hyi
  rintro ys nw ⟨rfl, hye⟩ hle De h tk eD F3 N3 off3
  have hJ := joinOf_ge n5
  have hx : 7 ≤ x ∧ x ≤ 54 := by rw [ex]; exact letter_range _ _ _
  have hy : 7 ≤ y ∧ y ≤ 54 := by rw [ey]; exact letter_range _ _ _
  have hz : 7 ≤ z ∧ z ≤ 54 := by rw [ez]; exact letter_range _ _ _
  obtain ⟨TA, eA⟩ : ∃ TA, TA = termOf n1 9 x y z := ⟨_, rfl⟩
  obtain ⟨TB, eB⟩ : ∃ TB, TB = termOf n2 4 x y z := ⟨_, rfl⟩
  obtain ⟨TC, eC⟩ : ∃ TC, TC = termOf n3 4 x y z := ⟨_, rfl⟩
  have hA : TA.All (fun v => 7 ≤ v ∧ v ≤ 54) := by rw [eA]; exact term_all hx hy hz
  have hB : TB.All (fun v => 7 ≤ v ∧ v ≤ 54) := by rw [eB]; exact term_all hx hy hz
  have hC : TC.All (fun v => 7 ≤ v ∧ v ≤ 54) := by rw [eC]; exact term_all hx hy hz
  have r1 : rowOf [n1, n2, n3, n4, n5] x y z (joinOf n5) 0 = TA.ints (joinOf n5) := by rw [eA]; exact row_term n1 9 x y z _ (by decide) (by decide)
  have r2 : rowOf [n1, n2, n3, n4, n5] x y z (joinOf n5) 1 = TB.ints (joinOf n5) := by rw [eB]; exact row_term n2 4 x y z _ (by decide) (by decide)
  have r3 : rowOf [n1, n2, n3, n4, n5] x y z (joinOf n5) 2 = TC.ints (joinOf n5) := by rw [eC]; exact row_term n3 4 x y z _ (by decide) (by decide)
  rw [r1] at hi1
  rw [r2] at hi2
  rw [r3] at hi3
  rw [r1, r2, r3] at etp
  unfold tapeOf at etp
  obtain ⟨rd1, rd2, rd3⟩ := tape_reads hJ TA TB TC (hA.mono fun i h => by omega) (hB.mono fun i h => by omega) (hC.mono fun i h => by omega) tp etp
  rw [ends_are hJ etp hA hB hC (by rw [List.size_toArray]; exact htv.length)] at hye
  refine hide fun G0 kG0 => ?_
  obtain ⟨u1, u2, u3, rfl⟩ := ints3 hye
  refine kG0 ?_
  clear kG0 G0
  clear r1 r2 r3
  have hDe := ltN (hlt (Dt, _) (by tb_rel))
  dsimp only at hDe eD hsz
  rw [hsz] at eD
  have hDe' : s₁.heap.objs.size + 9 < De := by omega
  clear N8 F9 he hit up hlt hlt0 eD hsz off3
  k_steps
  unfold Stop
  rename News _ _ _ _ => N7
  rename Fr _ _ _ _ => F7
  have N8 : News _ _ _ (cellsL s₁.heap.objs.size p1 q2 q3 q4 q5 q6 q7 q8 o9 ((De, LCg.lst [.int (TA.size : Int) u1, .int ((TA.size + 1 + TB.size : Nat) : Int) u2, .int ((TA.size + 1 + TB.size + 1 + TC.size : Nat) : Int) u3]) :: (Dt, W.listOf (List.toArray tv) 0) :: R)) := pack [_] ((Dt, W.listOf (List.toArray tv) 0) :: R) N7 (.own (.head _) .all)
  clear N7
  k_sweep
  clear h2 hz etp hB hC hle hye hDe
  revert G Y hg KX T B TE TW hcd K0 d9 qk z3x1 hst ex ey ez es ek e2 e3 e4 e5 e6 e7 e8 hR hRD hRr hm1 hm2 hm3 c1 c2 c3 e1' hDt ctv htv F7 hJ hx hy hi1 eA hi2 eB hi3 eC hA rd1 rd2 rd3 hDe' N8
  exact kz.op tp De h tk TA TB TC u1 u2 u3⟩
noncomputable def Q6 (d : (List Int) × Nat × PySem.Heap × Nat × Mine.Tm × Mine.Tm × Mine.Tm × PySem.Tok × PySem.Tok × PySem.Tok) : Prop := l6.1 d.1 d.2.1 d.2.2.1 d.2.2.2.1 d.2.2.2.2.1 d.2.2.2.2.2.1 d.2.2.2.2.2.2.1 d.2.2.2.2.2.2.2.1 d.2.2.2.2.2.2.2.2.1 d.2.2.2.2.2.2.2.2.2
noncomputable def c6 := skel (neP neI (neP neI (neP neI (neP neI (neP ⟨Tm.leaf 0⟩ (neP ⟨Tm.leaf 0⟩ (neP ⟨Tm.leaf 0⟩ (neP neI (neP neI (neI)))))))))) Q6
noncomputable def C6.tp : List Int := c6.1
noncomputable def C6.De : Nat := c6.2.1
noncomputable def C6.h : PySem.Heap := c6.2.2.1
noncomputable def C6.tk : Nat := c6.2.2.2.1
noncomputable def C6.TA : Mine.Tm := c6.2.2.2.2.1
noncomputable def C6.TB : Mine.Tm := c6.2.2.2.2.2.1
noncomputable def C6.TC : Mine.Tm := c6.2.2.2.2.2.2.1
noncomputable def C6.u1 : PySem.Tok := c6.2.2.2.2.2.2.2.1
noncomputable def C6.u2 : PySem.Tok := c6.2.2.2.2.2.2.2.2.1
noncomputable def C6.u3 : PySem.Tok := c6.2.2.2.2.2.2.2.2.2
theorem k6 (hzz : Sealed (l6.1 C6.tp C6.De C6.h C6.tk C6.TA C6.TB C6.TC C6.u1 C6.u2 C6.u3)) : PySem.Challenge.rw_wb0121_01.Holds := l6.2 ⟨fun tp De h tk TA TB TC u1 u2 u3 => skel_all (Q := Q6) hzz.op (tp, De, h, tk, TA, TB, TC, u1, u2, u3)⟩
end

section
open PySem PySem.W PyProof.Rows PySem.Calls

theorem take_step (ns : List Int) (f : Int → Int) {i : Nat} (h : i < ns.length) : (ns.take (i + 1)).map f = (ns.take i).map f ++ [f (ns.getD i 0)] := by
  rw [List.take_add_one, List.map_append]
  congr 1
  simp [h]
theorem ints2 {ys : List Value} {a b : Int} (h : IntsAre ys [a, b]) : ∃ ta tb, ys = [.int a ta, .int b tb] := by
  cases h with | cons _ ta h => cases h with | cons _ tb h => cases h; exact ⟨ta, tb, rfl⟩

open C0
open C1 hiding tk
open C2 hiding tk
open C3 hiding tk
open C4 hiding h tk
open C5
open C6
noncomputable def l7 : (P : PySem.Heap → PySem.Heap → PySem.Heap → PySem.Heap → Nat → PySem.Tok → PySem.Tok → PySem.Addr → PySem.Heap → PySem.Tok → Prop) ×' (Sealed (∀ z7x2 z7x5 g h tk ub1 ub2 Dg hg9 u0, P z7x2 z7x5 g h tk ub1 ub2 Dg hg9 u0) → PySem.Challenge.rw_wb0121_01.Holds) := ⟨_, fun kz => by
  refine k6 ⟨?_⟩
  show ∀ G : _, _
  w_top off
  k_fill
  set_option tactic.hygienic false in intros
  k_dflt (refine comp_assign (F₀ := by k_asm) (by rfl) (by with_unfolding_all rfl) (by with_unfolding_all rfl) (by decide) (by rfl) (by decide) (by decide) (by rfl) (by rfl) ?_)
  k_steps
  unfold Stop
  k_dflt (refine comp_eval (F₀ := by k_asm) (by with_unfolding_all rfl) (by decide) (by rfl) (by decide) (by decide) ?_)
  k_steps
  unfold Stop
  rename News _ _ _ _ => N9
  rename Fr _ _ _ _ => F9
  refine src_list (k := 0) (vs := [.int (TA.size : Int) u1, .int ((TA.size + 1 + TB.size : Nat) : Int) u2]) (news := ?nn7) (J := JC ?nn7 fun i ys => IntsAre ys (([(TA.size : Int), ((TA.size + 1 + TB.size : Nat) : Int)].take i).map (· + 1))) rfl (by rfl) (by rfl) (le_sizeLine (by show 2 ≤ _; decide)) ?m F9 ?N ?keep ?J0 ?turn ?fin7
  case N => exact N9
  case m => exact List.mem_cons_self
  case keep =>
    rintro i ys nw ⟨rfl, _⟩
    exact List.mem_cons_self
  case J0 => exact ⟨rfl, .nil⟩
  case turn =>
    rintro i ys nw own C Dl oC m₂ h tk E' hi ⟨xv, hP, hma⟩ hC ⟨rfl, hyi⟩ hyl F2 N2 off hne hK
    obtain ⟨tx', rfl⟩ := IntsAre.int_at (.cons _ u1 (.cons _ u2 .nil)) i xv hP
    clear N9 F9
    show wpAny _ _ (eval _ _) _ _ _
    k_steps
    refine CompY.const (by k_asm) (by k_asm) (fun p hp => by repeat (first | exact hp | refine List.mem_cons_of_mem _ ?_)) off ?_
    show IntsAre (ys ++ [.int (([(TA.size : Int), ((TA.size + 1 + TB.size : Nat) : Int)].getD i 0) + 1) _]) (([(TA.size : Int), ((TA.size + 1 + TB.size : Nat) : Int)].take (i + 1)).map (· + 1))
    rw [take_step _ _ hi]
    exact hyi.append (.cons _ _ .nil)
  rintro g ys nw hlt ⟨rfl, hyi⟩ hle Db h tk eD F3 N3 off3
  have hDb := ltN (hlt (De, _) (by tb_rel))
  dsimp only at hDb eD
  have hDb' : s₁.heap.objs.size + 9 < Db := by omega
  obtain ⟨ub1, ub2, rfl⟩ := ints2 hyi
  k_steps
  unfold Stop
  rename News _ _ _ _ => N9
  rename Fr _ _ _ _ => F9
  rename_i Dg hg9 lg9
  obtain ⟨u0, N8⟩ : ∃ u0, News _ _ _ ([(Dg, W.listOf (List.toArray [.int 0 u0, .int ((TA.size : Int) + 1) ub1, .int (((TA.size + 1 + TB.size : Nat) : Int) + 1) ub2]) 0), _, _, _] ++ cellsL s₁.heap.objs.size p1 q2 q3 q4 q5 q6 q7 q8 o9 ((De, LCg.lst [.int (TA.size : Int) u1, .int ((TA.size + 1 + TB.size : Nat) : Int) u2, .int ((TA.size + 1 + TB.size + 1 + TC.size : Nat) : Int) u3]) :: (Dt, W.listOf (List.toArray tv) 0) :: R)) := ⟨_, N9⟩
  have hDg0 := ltN (lg9 (De, _) (by tb_rel))
  dsimp only at hDg0
  have hDg' : s₁.heap.objs.size + 9 < Dg := by omega
  replace N8 : News _ _ _ (cellsL s₁.heap.objs.size p1 q2 q3 q4 q5 q6 q7 q8 o9 ((Dg, W.listOf (List.toArray [.int 0 u0, .int ((TA.size : Int) + 1) ub1, .int (((TA.size + 1 + TB.size : Nat) : Int) + 1) ub2]) 0) :: (De, LCg.lst [.int (TA.size : Int) u1, .int ((TA.size + 1 + TB.size : Nat) : Int) u2, .int ((TA.size + 1 + TB.size + 1 + TC.size : Nat) : Int) u3]) :: (Dt, W.listOf (List.toArray tv) 0) :: R)) := pack [_, _, _, _] _ N8 (.own (.head _) .all)
  clear N9
  rename_i z7x1 z7x2 z7x3 z7x4 z7x5 F9_d7 z7x6
  clear z7x1 z7x3 z7x4 F9_d7 N9 z7x6 hlt Db eD F3 off3 hDb hDb' hyi hle N3 lg9 hDg0
  revert G Y hg KX T B TE TW hcd K0 d9 qk z3x1 hst ex ey ez es ek e2 e3 e4 e5 e6 e7 e8 hR hRD hRr hm1 hm2 hm3 c1 c2 c3 e1' hDt ctv htv hJ hx hy hi1 eA hi2 eB hi3 eC hA rd1 rd2 rd3 hDe' F9 hDg' N8
  exact kz.op z7x2 z7x5 g h tk ub1 ub2 Dg hg9 u0⟩
noncomputable def Q7 (d : PySem.Heap × PySem.Heap × PySem.Heap × PySem.Heap × Nat × PySem.Tok × PySem.Tok × PySem.Addr × PySem.Heap × PySem.Tok) : Prop := l7.1 d.1 d.2.1 d.2.2.1 d.2.2.2.1 d.2.2.2.2.1 d.2.2.2.2.2.1 d.2.2.2.2.2.2.1 d.2.2.2.2.2.2.2.1 d.2.2.2.2.2.2.2.2.1 d.2.2.2.2.2.2.2.2.2
noncomputable def c7 := skel (neP neI (neP neI (neP neI (neP neI (neP neI (neP neI (neP neI (neP neI (neP neI (neI)))))))))) Q7
noncomputable def C7.z7x2 : PySem.Heap := c7.1
noncomputable def C7.z7x5 : PySem.Heap := c7.2.1
noncomputable def C7.g : PySem.Heap := c7.2.2.1
noncomputable def C7.h : PySem.Heap := c7.2.2.2.1
noncomputable def C7.tk : Nat := c7.2.2.2.2.1
noncomputable def C7.ub1 : PySem.Tok := c7.2.2.2.2.2.1
noncomputable def C7.ub2 : PySem.Tok := c7.2.2.2.2.2.2.1
noncomputable def C7.Dg : PySem.Addr := c7.2.2.2.2.2.2.2.1
noncomputable def C7.hg9 : PySem.Heap := c7.2.2.2.2.2.2.2.2.1
noncomputable def C7.u0 : PySem.Tok := c7.2.2.2.2.2.2.2.2.2
theorem k7 (hzz : Sealed (l7.1 C7.z7x2 C7.z7x5 C7.g C7.h C7.tk C7.ub1 C7.ub2 C7.Dg C7.hg9 C7.u0)) : PySem.Challenge.rw_wb0121_01.Holds := l7.2 ⟨fun z7x2 z7x5 g h tk ub1 ub2 Dg hg9 u0 => skel_all (Q := Q7) hzz.op (z7x2, z7x5, g, h, tk, ub1, ub2, Dg, hg9, u0)⟩
end

section
open PySem PySem.W PyProof.Rows PySem.Calls

inductive Pr3 (R : Ledger) (ys : List Value) (A B C : Tm) (a b c : Nat) : Prop
  | mk (b1 : Addr) (n1 : Nat) (vA : Value) (kA : Tok) (b2 : Addr) (n2 : Nat) (vB : Value) (kB : Tok) (b3 : Addr) (n3 : Nat) (vC : Value) (kC : Tok) (e : ys = [.ref b1, .ref b2, .ref b3])
      (h1 : (b1, ({ cls := .type "tuple", data := .seq #[vA, .int (a : Int) kA] n1 } : Obj)) ∈ R) (hA : TmIn R vA A) (h2 : (b2, ({ cls := .type "tuple", data := .seq #[vB, .int (b : Int) kB] n2 } : Obj)) ∈ R) (hB : TmIn R vB B) (h3 : (b3, ({ cls := .type "tuple", data := .seq #[vC, .int (c : Int) kC] n3 } : Obj)) ∈ R) (hC : TmIn R vC C) : Pr3 R ys A B C a b c
theorem pairs3 {R : Ledger} {ys : List Value} {A B C : Tm} {a b c : Nat} (h : PairsIn R ys ([(A, a), (B, b), (C, c)].take 3)) : Pr3 R ys A B C a b c := by
  have h' : PairsIn R ys [(A, a), (B, b), (C, c)] := h
  cases h' with | cons x1 y1 h => cases h with | cons x2 y2 h => cases h with | cons x3 y3 h => cases h; exact ⟨_, _, _, _, _, _, _, _, _, _, _, _, rfl, x1, y1, x2, y2, x3, y3⟩

open C0
open C1 hiding tk
open C2 hiding tk
open C3 hiding tk
open C4 hiding h tk
open C5
open C6 hiding h tk
open C7
noncomputable def l8 : (P : Mine.Ledger → Nat → PySem.Heap → Nat → PySem.Addr → Nat → PySem.Value → PySem.Tok → PySem.Addr → Nat → PySem.Value → PySem.Tok → PySem.Addr → Nat → PySem.Value → PySem.Tok → Mine.Ledger → Prop) ×' (Sealed (∀ R0 Dm h tk pa w1' vA kA pb w2' vB kB pc w3' vC kC R2, P R0 Dm h tk pa w1' vA kA pb w2' vB kB pc w3' vC kC R2) → PySem.Challenge.rw_wb0121_01.Holds) := ⟨_, fun kz => by
  refine k7 ⟨?_⟩
  show ∀ G : _, _
  w_top off
  k_fill
  set_option tactic.hygienic false in intros
  have hDt0 : s₁.heap.objs.size + 9 < Dt := hDt
  refine hide fun G0 kG0 => ?_
  obtain ⟨R0, hR0, kR, N7⟩ : ∃ R0 : Ledger, (∀ p ∈ R0, s₁.heap.objs.size + 9 < p.1) ∧ ((Dg, W.listOf (List.toArray [.int 0 u0, .int ((TA.size : Int) + 1) ub1, .int (((TA.size + 1 + TB.size : Nat) : Int) + 1) ub2]) 0) ∈ R0 ∧ (De, LCg.lst [.int (TA.size : Int) u1, .int ((TA.size + 1 + TB.size : Nat) : Int) u2, .int ((TA.size + 1 + TB.size + 1 + TC.size : Nat) : Int) u3]) ∈ R0 ∧ (Dt, W.listOf (List.toArray tv) 0) ∈ R0 ∧ (Dr, LCg.lst [.ref a1, .ref a2, .ref a3]) ∈ R0 ∧ (a1, W.listOf (List.toArray v1) m1) ∈ R0 ∧ (a2, W.listOf (List.toArray v2) m2) ∈ R0 ∧ (a3, W.listOf (List.toArray v3) m3) ∈ R0 ∧ (D, LCg.lst [.int n1 t1, .int n2 t2, .int n3 t3, .int n4 t4, .int n5 t5]) ∈ R0) ∧ News _ _ _ (cellsL s₁.heap.objs.size p1 q2 q3 q4 q5 q6 q7 q8 o9 R0) :=
    ⟨_, above_cons hDg' (above_cons hDe' (above_cons hDt0 hR)), ⟨.head _, .tail _ (.head _), .tail _ (.tail _ (.head _)), .tail _ (.tail _ (.tail _ hRr)), .tail _ (.tail _ (.tail _ hm1)), .tail _ (.tail _ (.tail _ hm2)), .tail _ (.tail _ (.tail _ hm3)), .tail _ (.tail _ (.tail _ hRD))⟩, N8⟩
  refine kG0 ?_
  clear kG0 G0
  have ht4 : ∀ i < 3, (([TA, TB, TC] : List Tm).getD i TA).height ≤ 4 := by
    rintro (_ | _ | _ | i) h
    · rw [eA]; exact tree_height _ _ _ _ _
    · rw [eB]; exact tree_height _ _ _ _ _
    · rw [eC]; exact tree_height _ _ _ _ _
    · exact absurd h (Nat.not_lt.mpr (Nat.le_add_left 3 i))
  refine src_list (k := 0) (vs := [.int 0 u0, .int ((TA.size : Int) + 1) ub1, .int (((TA.size + 1 + TB.size : Nat) : Int) + 1) ub2]) (news := ?nn8)
    (J := fun i ys nw => ∃ R, nw = cellsL s₁.heap.objs.size p1 q2 q3 q4 q5 q6 q7 q8 o9 R ∧ (∀ p ∈ R, s₁.heap.objs.size + 9 < p.1) ∧ (∀ p ∈ R0, p ∈ R) ∧ PairsIn R ys (([(TA, TA.size), (TB, TA.size + 1 + TB.size), (TC, TA.size + 1 + TB.size + 1 + TC.size)] : List (Tm × Nat)).take i)) rfl (by rfl) (by rfl) (le_sizeLine (by show 3 ≤ _; decide)) ?m ?F ?N ?keep ?J0 ?turn ?fin8
  case N => exact N7
  case F => k_asm
  case m => exact cells_in kR.1
  case keep =>
    rintro i ys nw ⟨R, rfl, h1, h2, h3⟩
    exact cells_in (h2 _ kR.1)
  case J0 => exact ⟨_, rfl, hR0, fun p hp => hp, .nil⟩
  case turn =>
    rintro i ys nw own C Dl oC m₂ h tk E' hi ⟨xv, hP, hma⟩ hC ⟨R, rfl, hR, hRR, hpairs⟩ hyl F2 N2 off hne hK
    have hi3 : i < 3 := hi
    obtain ⟨tx', rfl⟩ := IntsAre.int_at (.cons _ u0 (.cons _ ub1 (.cons _ ub2 .nil))) i xv hP
    have hcast : ([(0 : Int), (TA.size : Int) + 1, ((TA.size + 1 + TB.size : Nat) : Int) + 1].getD i 0) = ((([0, TA.size + 1, TA.size + 1 + TB.size + 1] : List Nat).getD i 0 : Nat) : Int) := by
      rcases i with _ | _ | _ | i
      · rfl
      · simp
      · simp
      · omega
    rw [hcast] at hma
    show wpAny _ _ (eval _ _) _ _ _
    k_steps
    unfold Stop
    refine' tells_use (rd_tells w rfl rfl ⟨tp, ([0, TA.size + 1, TA.size + 1 + TB.size + 1] : List Nat).getD i 0, ([TA, TB, TC] : List Tm).getD i TA, ([TA.size, TA.size + 1 + TB.size, TA.size + 1 + TB.size + 1 + TC.size] : List Nat).getD i 0⟩) ?k1 ?k2 ?k3 ?k4 ?k5 ?kK ?kR ?ko ?kd ?ku ?_
    case k1 => exact K0
    case k2 => k_asm
    case k3 => exact KX
    case k4 => k_asm
    case k5 => exact T
    case kK => exact rfl
    case kR =>
      have hDt9 := List.mem_append_left own (hRR _ kR.2.2.1)
      exact .mk (by tb_rel) htv
    case ko =>
      refine ⟨by rw [← htv.length]; exact Nat.le_trans ctv (by decide), ?_⟩
      rcases i with _ | _ | _ | i
      · exact rd1
      · exact rd2
      · exact rd3
      · exact absurd hi3 (Nat.not_lt.mpr (Nat.le_add_left 3 i))
    case kd => exact kd0 (a := callerA.depth + 1) (m := 5) (Nat.succ_le_succ (ht4 i hi3)) (by decide)
    case ku => exact ku0 (a := callerA.units + 3) (m := 5) (Nat.succ_le_succ (ht4 i hi3)) (by decide)
    rintro _ nwF h9 tk9 F9 N9 led ⟨a9, n9', vt9, tk9', rfl, hm9, hi9⟩
    k_steps
    obtain ⟨R', g1, g2, g3, g4⟩ := call_tuples (R := R) led (by
      intro p hp ht
      obtain ⟨hc, vs9, n9, hd⟩ := ht
      rcases List.mem_cons.mp hp with rfl | hp
      · obtain ⟨es, ep, h1, _⟩ := hC; dsimp only at hd; rw [h1] at hd; cases hd
      rcases List.mem_cons.mp hp with rfl | hp
      · exact absurd hc (show Value.type "list" ≠ Value.type "tuple" by decide)
      rcases (List.mem_append (s := cellsL s₁.heap.objs.size p1 q2 q3 q4 q5 q6 q7 q8 o9 R) (t := own)).mp hp with hp | hp
      · rcases cells_elim hp with h | h
        · obtain ⟨v, hv⟩ := cells_data e1' e2 e3 e4 e5 e6 e7 e8 d9 h
          rw [hv] at hd; cases hd
        · exact h
      · rw [hK p hp] at hc; exact absurd hc (show Value.type "list_iterator" ≠ Value.type "tuple" by decide)) (fun p hp => .tail _ (.tail _ (List.mem_append_left own (cells_in hp))))
    refine ⟨h9, tk9, cellsL s₁.heap.objs.size p1 q2 q3 q4 q5 q6 q7 q8 o9 R', rfl, F9, fun p hp => ?_, fun p hp => ?_, R', rfl, fun p hp => ?_, fun p hp => g1 _ (hRR p hp), ?_⟩
    · rcases List.mem_cons.mp hp with rfl | hp
      · exact N9 _ (led.sub _ (.head _))
      rcases List.mem_cons.mp hp with rfl | hp
      · exact N9 _ (led.sub _ (.tail _ (.head _)))
      rcases (List.mem_append (s := cellsL s₁.heap.objs.size p1 q2 q3 q4 q5 q6 q7 q8 o9 R') (t := own)).mp hp with hp | hp
      · rcases cells_elim hp with h | h
        · exact N9 p (led.sub p (.tail _ (.tail _ (List.mem_append_left own (cells_cell h)))))
        · exact N9 p (g3 p h)
      · exact N9 p (led.sub p (.tail _ (.tail _ (List.mem_append_right (cellsL s₁.heap.objs.size p1 q2 q3 q4 q5 q6 q7 q8 o9 R) hp))))
    · rcases cells_elim hp with h | hp
      · exact off p (cells_cell h)
      · rcases g4 p hp with hp | hp
        · exact off p (cells_in hp)
        · exact ⟨Nat.ne_of_gt (hp (C, oC) (.head _)), Nat.ne_of_gt (hp (Dl, LCg.lst ys) (.tail _ (.head _))), fun q hq => Nat.ne_of_gt (hp q (.tail _ (.tail _ (List.mem_append_right (cellsL s₁.heap.objs.size p1 q2 q3 q4 q5 q6 q7 q8 o9 R) hq))))⟩
    · rcases g4 p hp with hp | hp
      · exact hR p hp
      · exact hp (s₁.heap.objs.size + 1 + 1 + 1 + 1 + 1 + 1 + 1 + 1 + 1, p1) (by tb_rel)
    · have hm9' := g2 _ hm9 ⟨rfl, _, _, rfl⟩
      have hi9' := hi9.monoT g2
      have hp9 := hpairs.mono g1
      rcases i with _ | _ | _ | i
      · exact hp9.append (.cons hm9' hi9' .nil)
      · exact hp9.append (.cons hm9' hi9' .nil)
      · exact hp9.append (.cons hm9' hi9' .nil)
      · exact absurd hi3 (Nat.not_lt.mpr (Nat.le_add_left 3 i))
  rintro g ys nw hlt ⟨R, rfl, hR, hRR, hpairs⟩ hle Dm h tk eD F3 N3 off3
  have hDm : Dg < g.objs.size := hlt (Dg, _) (cells_in kR.1)
  have hDm' : s₁.heap.objs.size + 9 < Dm := by rw [eD]; exact Nat.lt_trans hDg' hDm
  clear hDm
  refine hide fun G0 kG0 => ?_
  obtain ⟨pa, w1', vA, kA, pb, w2', vB, kB, pc, w3', vC, kC, rfl, hb1, hvA, hb2, hvB, hb3, hvC⟩ := pairs3 hpairs
  refine kG0 ?_
  clear kG0 G0
  clear N7 F9
  k_steps
  unfold Stop
  rename News _ _ _ _ => N7
  rename Fr _ _ _ _ => F7
  refine hide fun G0 kG0 => ?_
  obtain ⟨R2, hR2, hRR2, hM, gb1, gA, gb2, gB, gb3, gC, N8⟩ : ∃ R2 : Ledger, (∀ p ∈ R2, s₁.heap.objs.size + 9 < p.1) ∧ (∀ p ∈ R0, p ∈ R2) ∧ (Dm, LCg.lst [.ref pa, .ref pb, .ref pc]) ∈ R2 ∧
    (pa, ({ cls := .type "tuple", data := .seq #[vA, .int (TA.size : Int) kA] w1' } : Obj)) ∈ R2 ∧ TmIn R2 vA TA ∧ (pb, ({ cls := .type "tuple", data := .seq #[vB, .int ((TA.size + 1 + TB.size : Nat) : Int) kB] w2' } : Obj)) ∈ R2 ∧ TmIn R2 vB TB ∧ (pc, ({ cls := .type "tuple", data := .seq #[vC, .int ((TA.size + 1 + TB.size + 1 + TC.size : Nat) : Int) kC] w3' } : Obj)) ∈ R2 ∧ TmIn R2 vC TC ∧ News _ _ _ (cellsL s₁.heap.objs.size p1 q2 q3 q4 q5 q6 q7 q8 o9 R2) :=
    ⟨(Dm, LCg.lst [.ref pa, .ref pb, .ref pc]) :: R, by
      intro p hp
      rcases List.mem_cons.mp hp with rfl | hp
      · exact hDm'
      · exact hR p hp, fun p hp => List.mem_cons_of_mem _ (hRR p hp), List.mem_cons_self, List.mem_cons_of_mem _ hb1, hvA.mono fun p hp => List.mem_cons_of_mem _ hp, List.mem_cons_of_mem _ hb2, hvB.mono fun p hp => List.mem_cons_of_mem _ hp, List.mem_cons_of_mem _ hb3, hvC.mono fun p hp => List.mem_cons_of_mem _ hp, pack [_] _ N7 (.own (.head _) .all)⟩
  refine kG0 ?_
  clear kG0 G0
  clear N7 hR hRR hb1 hvA hb2 hvB hb3 hvC hpairs
  rename_i N8_d8
  clear hR hRD hRr hm1 hm2 hm3 hDt rd1 rd2 rd3 hDe' hDg' N8_d8 hDt0 hR0 ht4 g hlt R eD off3 hDm' hle
  revert G Y hg KX T B TE TW hcd K0 d9 qk z3x1 hst ex ey ez es ek e2 e3 e4 e5 e6 e7 e8 c1 c2 c3 e1' ctv htv hJ hx hy hi1 eA hi2 eB hi3 eC hA kR F7 hR2 hRR2 hM gb1 gA gb2 gB gb3 gC N8
  exact kz.op R0 Dm h tk pa w1' vA kA pb w2' vB kB pc w3' vC kC R2⟩
noncomputable def Q8 (d : Mine.Ledger × Nat × PySem.Heap × Nat × PySem.Addr × Nat × PySem.Value × PySem.Tok × PySem.Addr × Nat × PySem.Value × PySem.Tok × PySem.Addr × Nat × PySem.Value × PySem.Tok × Mine.Ledger) : Prop := l8.1 d.1 d.2.1 d.2.2.1 d.2.2.2.1 d.2.2.2.2.1 d.2.2.2.2.2.1 d.2.2.2.2.2.2.1 d.2.2.2.2.2.2.2.1 d.2.2.2.2.2.2.2.2.1 d.2.2.2.2.2.2.2.2.2.1 d.2.2.2.2.2.2.2.2.2.2.1 d.2.2.2.2.2.2.2.2.2.2.2.1 d.2.2.2.2.2.2.2.2.2.2.2.2.1 d.2.2.2.2.2.2.2.2.2.2.2.2.2.1 d.2.2.2.2.2.2.2.2.2.2.2.2.2.2.1 d.2.2.2.2.2.2.2.2.2.2.2.2.2.2.2.1 d.2.2.2.2.2.2.2.2.2.2.2.2.2.2.2.2
noncomputable def c8 := skel (neP neI (neP neI (neP neI (neP neI (neP neI (neP neI (neP neI (neP neI (neP neI (neP neI (neP neI (neP neI (neP neI (neP neI (neP neI (neP neI (neI))))))))))))))))) Q8
noncomputable def C8.R0 : Mine.Ledger := c8.1
noncomputable def C8.Dm : Nat := c8.2.1
noncomputable def C8.h : PySem.Heap := c8.2.2.1
noncomputable def C8.tk : Nat := c8.2.2.2.1
noncomputable def C8.pa : PySem.Addr := c8.2.2.2.2.1
noncomputable def C8.w1' : Nat := c8.2.2.2.2.2.1
noncomputable def C8.vA : PySem.Value := c8.2.2.2.2.2.2.1
noncomputable def C8.kA : PySem.Tok := c8.2.2.2.2.2.2.2.1
noncomputable def C8.pb : PySem.Addr := c8.2.2.2.2.2.2.2.2.1
noncomputable def C8.w2' : Nat := c8.2.2.2.2.2.2.2.2.2.1
noncomputable def C8.vB : PySem.Value := c8.2.2.2.2.2.2.2.2.2.2.1
noncomputable def C8.kB : PySem.Tok := c8.2.2.2.2.2.2.2.2.2.2.2.1
noncomputable def C8.pc : PySem.Addr := c8.2.2.2.2.2.2.2.2.2.2.2.2.1
noncomputable def C8.w3' : Nat := c8.2.2.2.2.2.2.2.2.2.2.2.2.2.1
noncomputable def C8.vC : PySem.Value := c8.2.2.2.2.2.2.2.2.2.2.2.2.2.2.1
noncomputable def C8.kC : PySem.Tok := c8.2.2.2.2.2.2.2.2.2.2.2.2.2.2.2.1
noncomputable def C8.R2 : Mine.Ledger := c8.2.2.2.2.2.2.2.2.2.2.2.2.2.2.2.2
theorem k8 (hzz : Sealed (l8.1 C8.R0 C8.Dm C8.h C8.tk C8.pa C8.w1' C8.vA C8.kA C8.pb C8.w2' C8.vB C8.kB C8.pc C8.w3' C8.vC C8.kC C8.R2)) : PySem.Challenge.rw_wb0121_01.Holds := l8.2 ⟨fun R0 Dm h tk pa w1' vA kA pb w2' vB kB pc w3' vC kC R2 => skel_all (Q := Q8) hzz.op (R0, Dm, h, tk, pa, w1', vA, kA, pb, w2', vB, kB, pc, w3', vC, kC, R2)⟩
end

section
open PySem PySem.W PyProof.Rows PySem.Calls

theorem ne_same {prog : Program} {w : World} {A : Around} {E : Value → Shared → Prop} {s : Shared} {a b : Addr} {xs ys : List Value} {ns ms : List Int} {Q : Value → Shared → Prop} (ha : s.heap.IsList a xs.toArray) (hb : s.heap.IsList b ys.toArray) (hi : IntsAre xs ns) (hj : IntsAre ys ms) (hu : A.units + 64 < cLine) (e : ns = ms) (h : Q (.bool false) s) :
    wpAny (model prog w) A (compareOp .NotEq (.ref a) (.ref b)) Q E s := ke_ne_ints ha hb hi hj hu (by rw [decide_eq_true e]; exact h)
theorem take_next (ns : List Int) {i : Nat} (h : i < ns.length) : ns.take (i + 1) = ns.take i ++ [ns.getD i 0] := by
  rw [List.take_add_one]
  congr 1
  simp [h]

open C0
open C1 hiding tk
open C2 hiding tk
open C3 hiding tk
open C4 hiding h tk
open C5
open C6 hiding h tk
open C7 hiding h tk
open C8
noncomputable def l9 : (P : Nat → PySem.Heap → Nat → PySem.Tok → PySem.Tok → PySem.Tok → Prop) ×' (Sealed (∀ Dq h tk ub1 ub2 ub3, P Dq h tk ub1 ub2 ub3) → PySem.Challenge.rw_wb0121_01.Holds) := ⟨_, fun kz => by
  refine k8 ⟨?_⟩
  show ∀ G : _, _
  w_top off
  k_fill
  set_option tactic.hygienic false in intros
  k_dflt (refine comp_eval (F₀ := by k_asm) (by with_unfolding_all rfl) (by decide) (by rfl) (by decide) (by decide) ?_)
  k_steps
  unfold Stop
  rename News _ _ _ _ => N11
  obtain ⟨oA, hoA⟩ : ∃ oA : Obj, oA = { cls := .type "tuple", data := .seq #[vA, .int (TA.size : Int) kA] w1' } := ⟨_, rfl⟩
  obtain ⟨oB, hoB⟩ : ∃ oB : Obj, oB = { cls := .type "tuple", data := .seq #[vB, .int ((TA.size + 1 + TB.size : Nat) : Int) kB] w2' } := ⟨_, rfl⟩
  obtain ⟨oC, hoC⟩ : ∃ oC : Obj, oC = { cls := .type "tuple", data := .seq #[vC, .int ((TA.size + 1 + TB.size + 1 + TC.size : Nat) : Int) kC] w3' } := ⟨_, rfl⟩
  rw [← hoA] at gb1
  rw [← hoB] at gb2
  rw [← hoC] at gb3
  refine src_pairs (k := 3) (vs := [.ref pa, .ref pb, .ref pc]) (ts := [(pa, oA), (pb, oB), (pc, oC)]) (news := ?nn9)
    (J := JC ?nn9 fun i ys => IntsAre ys (([(TA.size : Int), ((TA.size + 1 + TB.size : Nat) : Int), ((TA.size + 1 + TB.size + 1 + TC.size : Nat) : Int)] : List Int).take i)) rfl (by rfl) (by rfl) (by rfl) (by decide) (le_sizeLine (by show 3 ≤ _; decide)) ?m ?ts ?vs ?F ?N ?keep ?J0 ?turn ?fin9
  case N => exact N11
  case F => k_asm
  case m =>
    have hM' : (Dm, W.listOf (List.toArray [Value.ref pa, Value.ref pb, Value.ref pc]) 3) ∈ R2 := hM
    tb_rel
  case ts =>
    intro p hp
    simp only [List.mem_cons, List.not_mem_nil, or_false] at hp
    rcases hp with rfl | rfl | rfl <;> tb_rel
  case vs =>
    intro v hv
    simp only [List.mem_cons, List.not_mem_nil, or_false] at hv
    rcases hv with rfl | rfl | rfl
    · exact ⟨pa, _, _, _, rfl, by rw [← hoA]; exact List.mem_cons_self⟩
    · exact ⟨pb, _, _, _, rfl, by rw [← hoB]; exact List.mem_cons_of_mem _ List.mem_cons_self⟩
    · exact ⟨pc, _, _, _, rfl, by rw [← hoC]; exact List.mem_cons_of_mem _ (List.mem_cons_of_mem _ List.mem_cons_self)⟩
  case J0 => exact ⟨rfl, .nil⟩
  case keep =>
    rintro i ys nw ⟨rfl, _⟩
    have hM' : (Dm, W.listOf (List.toArray [Value.ref pa, Value.ref pb, Value.ref pc]) 3) ∈ R2 := hM
    refine ⟨by tb_rel, fun p hp => ?_⟩
    simp only [List.mem_cons, List.not_mem_nil, or_false] at hp
    rcases hp with rfl | rfl | rfl <;> tb_rel
  case turn =>
    rintro i ys nw own C Dl oC m₂ h tk E' hi ⟨T9, xv, yv, n9, hvs, hTs, hma, hmb⟩ hC' ⟨rfl, hyi⟩ hyl F2 N2 off hne hK
    have hi3 : i < 3 := hi
    have hyv : ∃ ty, yv = .int (([(TA.size : Int), ((TA.size + 1 + TB.size : Nat) : Int), ((TA.size + 1 + TB.size + 1 + TC.size : Nat) : Int)] : List Int).getD i 0) ty := by
      have get : ∀ (b : Addr) (o o' : Obj), (b, o) ∈ R2 → (b, o') ∈ R2 → o = o' := fun b o o' g1 g2 => by
        have e1 := (N11 (b, o) (by tb_rel)).1
        have e2 := (N11 (b, o') (by tb_rel)).1
        exact Option.some.inj (e1.symm.trans e2)
      have hT2 : (T9, ({ cls := .type "tuple", data := .seq #[xv, yv] n9 } : Obj)) ∈ R2 := by
        simp only [List.mem_cons, List.not_mem_nil, or_false] at hTs
        rcases hTs with h | h | h <;> rw [h] <;> assumption
      rcases i with _ | _ | _ | i
      · obtain rfl : pa = T9 := by simpa using hvs
        have e := get _ _ _ gb1 hT2
        rw [hoA] at e
        cases e
        exact ⟨_, rfl⟩
      · obtain rfl : pb = T9 := by simpa using hvs
        have e := get _ _ _ gb2 hT2
        rw [hoB] at e
        cases e
        exact ⟨_, rfl⟩
      · obtain rfl : pc = T9 := by simpa using hvs
        have e := get _ _ _ gb3 hT2
        rw [hoC] at e
        cases e
        exact ⟨_, rfl⟩
      · omega
    obtain ⟨ty9, rfl⟩ := hyv
    clear N11
    show wpAny _ _ (eval _ _) _ _ _
    k_steps
    refine CompY.const (by k_asm) (by k_asm) (fun p hp => by repeat (first | exact hp | refine List.mem_cons_of_mem _ ?_)) off ?_
    show IntsAre _ (([(TA.size : Int), ((TA.size + 1 + TB.size : Nat) : Int), ((TA.size + 1 + TB.size + 1 + TC.size : Nat) : Int)] : List Int).take (i + 1))
    rw [take_next _ (by exact hi)]
    exact hyi.append (.cons _ _ .nil)
  rintro g ys nw hlt ⟨rfl, hyi⟩ hle Dq h tk eD F3 N3 off3
  have hDq := ltN (hlt (Dm, _) (by tb_rel))
  dsimp only at hDq eD
  refine hide fun G0 kG0 => ?_
  obtain ⟨ub1, ub2, ub3, rfl⟩ := ints3 hyi
  refine kG0 ?_
  clear kG0 G0
  clear N11
  k_steps
  rename Fr _ _ _ _ => F11
  rename News _ _ _ _ => N11
  have hDe11 := hRR2 _ kR.2.1
  have dq : (De, LCg.lst [.int (TA.size : Int) u1, .int ((TA.size + 1 + TB.size : Nat) : Int) u2, .int ((TA.size + 1 + TB.size + 1 + TC.size : Nat) : Int) u3]) ∈ R2 := hDe11
  have N12 := N11
  clear N11
  refine' ne_same ?a ?b ?c ?d ?e rfl ?_
  case a => exact N12.isList List.mem_cons_self
  case b => exact N12.isList (by tb_rel)
  case c => exact .cons _ ub1 (.cons _ ub2 (.cons _ ub3 .nil))
  case d => exact .cons _ u1 (.cons _ u2 (.cons _ u3 .nil))
  case e => show callerA.units + 3 + 64 < 9900; decide
  have hM' : (Dm, W.listOf (List.toArray [Value.ref pa, Value.ref pb, Value.ref pc]) 3) ∈ R2 := hM
  rw [hoA] at gb1
  rw [hoB] at gb2
  rw [hoC] at gb3
  k_steps
  unfold Stop
  clear F7 hM oA hoA oB hoB oC hoC g hlt eD off3 hDq hyi hle hDe11 dq
  revert G Y hg KX T B TE TW hcd K0 d9 qk z3x1 hst ex ey ez es ek e2 e3 e4 e5 e6 e7 e8 c1 c2 c3 e1' ctv htv hJ hx hy hi1 eA hi2 eB hi3 eC hA kR hR2 hRR2 gA gB gC gb1 gb2 gb3 F11 N12 hM'
  exact kz.op Dq h tk ub1 ub2 ub3⟩
noncomputable def Q9 (d : Nat × PySem.Heap × Nat × PySem.Tok × PySem.Tok × PySem.Tok) : Prop := l9.1 d.1 d.2.1 d.2.2.1 d.2.2.2.1 d.2.2.2.2.1 d.2.2.2.2.2
noncomputable def c9 := skel (neP neI (neP neI (neP neI (neP neI (neP neI (neI)))))) Q9
noncomputable def C9.Dq : Nat := c9.1
noncomputable def C9.h : PySem.Heap := c9.2.1
noncomputable def C9.tk : Nat := c9.2.2.1
noncomputable def C9.ub1 : PySem.Tok := c9.2.2.2.1
noncomputable def C9.ub2 : PySem.Tok := c9.2.2.2.2.1
noncomputable def C9.ub3 : PySem.Tok := c9.2.2.2.2.2
theorem k9 (hzz : Sealed (l9.1 C9.Dq C9.h C9.tk C9.ub1 C9.ub2 C9.ub3)) : PySem.Challenge.rw_wb0121_01.Holds := l9.2 ⟨fun Dq h tk ub1 ub2 ub3 => skel_all (Q := Q9) hzz.op (Dq, h, tk, ub1, ub2, ub3)⟩
end

section
open PySem PySem.W PyProof.Rows PySem.Calls

def NC (p : Addr × Obj) : Prop := ∀ v, p.2.data ≠ .cell v
theorem IsT.nc {p : Addr × Obj} (h : IsT p) : NC p := by
  obtain ⟨_, vs, n, hd⟩ := h
  intro v e
  rw [hd] at e
  cases e
theorem nc_list {a : Addr} {vs : List Value} {n : Nat} : NC (a, W.listOf (List.toArray vs) n) := by
  intro v e
  cases e
theorem TmIn.monoN {news news' : Ledger} {v : Value} {t : Tm} (h : TmIn news v t) (hs : ∀ p ∈ news, NC p → p ∈ news') : TmIn news' v t := h.monoT fun p hp ht => hs p hp ht.nc
open Classical in
/-- what a call of the law leaves: the nine cells, and above them all that is no cell -/
theorem law_call {h₀ h : Heap} {L : Addr} {z : Nat} {p1 q2 q3 q4 q5 q6 q7 q8 o9 : Obj} {R nwF : Ledger} {v1 v2 v3 v4 v5 v6 v7 v8 v9 : Option Value}
    (e1 : p1.data = .cell v1) (e2 : q2.data = .cell v2) (e3 : q3.data = .cell v3) (e4 : q4.data = .cell v4) (e5 : q5.data = .cell v5) (e6 : q6.data = .cell v6) (e7 : q7.data = .cell v7) (e8 : q8.data = .cell v8) (e9 : o9.data = .cell v9)
    (hR : ∀ p ∈ R, z + 9 < p.1) (led : Led (cellsL z p1 q2 q3 q4 q5 q6 q7 q8 o9 R) nwF) (N : News h₀ L h nwF) :
    ∃ R', (∀ p ∈ R', z + 9 < p.1) ∧ (∀ p ∈ R, p ∈ R') ∧ (∀ p ∈ nwF, NC p → p ∈ R') ∧ News h₀ L h (cellsL z p1 q2 q3 q4 q5 q6 q7 q8 o9 R') := by
  have hold : ∀ p ∈ cellsL z p1 q2 q3 q4 q5 q6 q7 q8 o9 R, NC p → p ∈ R := by
    intro p hp ht
    rcases cells_elim hp with h | h
    · obtain ⟨v, hv⟩ := cells_data e1 e2 e3 e4 e5 e6 e7 e8 e9 h
      exact absurd hv (ht _)
    · exact h
  refine ⟨R ++ nwF.filter fun p => decide (NC p), fun p hp => ?_, fun p hp => List.mem_append_left _ hp, fun p hp ht => List.mem_append_right _ (List.mem_filter.mpr ⟨hp, decide_eq_true ht⟩), fun p hp => ?_⟩
  · rcases List.mem_append.mp hp with hp | hp
    · exact hR p hp
    · obtain ⟨h1, h2⟩ := List.mem_filter.mp hp
      rcases led.ord p h1 with h | h
      · exact hR p (hold p h (of_decide_eq_true h2))
      · exact h (z + 1 + 1 + 1 + 1 + 1 + 1 + 1 + 1 + 1, p1) List.mem_cons_self
  · rcases cells_elim hp with h | hp
    · exact N p (led.sub p (cells_cell h))
    · rcases List.mem_append.mp hp with hp | hp
      · exact N p (led.sub p (cells_in hp))
      · exact N p (List.mem_filter.mp hp).1
theorem items_ints : ∀ {vs : List Value} {l : List Int}, ItemsAre vs (l.map some) → IntsAre vs l
  | _, [], .nil => .nil
  | _, _ :: _, .cons (.int (tk := t)) h => .cons _ t (items_ints h)

open C0
open C1 hiding tk
open C2 hiding tk
open C3 hiding tk
open C4 hiding h tk
open C5
open C6 hiding h tk
open C7 hiding h tk ub1 ub2
open C8 hiding h tk
open C9
noncomputable def l10 : (P : Mine.Tm → Mine.Tm → PySem.Addr → (List PySem.Value) → Nat → Mine.Ledger → PySem.Value → PySem.Tok → Mine.Ledger → Nat → PySem.Addr → PySem.Addr → PySem.Heap → Prop) ×' (Sealed (∀ U1 U2 al lv ln R5 rv rtk R6 tk E1 E2 g2, P U1 U2 al lv ln R5 rv rtk R6 tk E1 E2 g2) → PySem.Challenge.rw_wb0121_01.Holds) := ⟨_, fun kz => by
  refine k9 ⟨?_⟩
  show ∀ G : _, _
  w_top off
  k_fill
  set_option tactic.hygienic false in intros
  rename News _ _ _ _ => N10
  replace N10 : News _ _ _ (cellsL s₁.heap.objs.size p1 q2 q3 q4 q5 q6 q7 q8 o9 R2) := pack [_] R2 N10 .all
  obtain ⟨U1, eU1⟩ : ∃ U1, U1 = TA.without y s k := ⟨_, rfl⟩
  have hszA : TA.size ≤ 7 := by rw [eA]; exact tree_size _ _ _ _ _
  have hhtA : TA.height ≤ 4 := by rw [eA]; exact tree_height _ _ _ _ _
  have hszU : U1.size ≤ 56 := by rw [eU1]; exact ws (without_size y s k TA) hszA
  have hhtU : U1.height ≤ 9 := by rw [eU1]; exact wh (without_height y s k TA) hhtA
  refine' tells_use (wo_tells w rfl rfl ⟨TA, y, s, k⟩) ?k1 ?k2 ?k3 ?k4 ?k5 ?kK ?kR ?ko ?kd ?ku ?_
  case k1 => exact K0
  case k2 => k_asm
  case k3 => exact KX
  case k4 => exact N10
  case k5 => exact T
  case kK => exact rfl
  case kR => exact .mk (gA.mono fun p hp => cells_in hp)
  case ko => exact Nat.le_trans hszA (by decide)
  case kd => exact kd0 (a := callerA.depth + 1) (m := 5) (Nat.succ_le_succ hhtA) (by decide)
  case ku => exact ku0 (a := callerA.units + 3) (m := 5) (Nat.succ_le_succ hhtA) (by decide)
  rintro r1 nwF h9 tk9 F9 N9' led out1
  refine hide fun G0 kG0 => ?_
  obtain ⟨R3, hR3, hRR3, hN3, N11⟩ := law_call e1' e2 e3 e4 e5 e6 e7 e8 d9 hR2 led N9'
  have out1' : TmIn R3 r1 U1 := by rw [eU1]; exact out1.monoN hN3
  clear led N9' N10 hN3 out1
  have N12 := N11
  clear N11
  refine kG0 ?_
  clear kG0 G0
  k_steps
  unfold Stop
  obtain ⟨U2, eU2⟩ : ∃ U2, U2 = U1.without x s k := ⟨_, rfl⟩
  have hszV : U2.size ≤ 448 := by rw [eU2]; exact ws (without_size x s k U1) hszU
  have hhtV : U2.height ≤ 19 := by rw [eU2]; exact wh (without_height x s k U1) hhtU
  refine' tells_use (wo_tells w rfl rfl ⟨U1, x, s, k⟩) ?k1 ?k2 ?k3 ?k4 ?k5 ?kK ?kR ?ko ?kd ?ku ?_
  case k1 => exact K0
  case k2 => k_asm
  case k3 => exact KX
  case k4 => exact N12
  case k5 => exact T
  case kK => exact rfl
  case kR => exact .mk (out1'.mono fun p hp => by tb_rel)
  case ko => exact Nat.le_trans hszU (by decide)
  case kd => exact kd0 (a := callerA.depth + 1) (m := 10) (Nat.succ_le_succ hhtU) (by decide)
  case ku => exact ku0 (a := callerA.units + 3) (m := 10) (Nat.succ_le_succ hhtU) (by decide)
  rintro r2 nwF h9b tk9b F9b N9' led out2
  refine hide fun G0 kG0 => ?_
  obtain ⟨R4, hR4, hRR4, hN4, N13⟩ := law_call e1' e2 e3 e4 e5 e6 e7 e8 d9 hR3 led N9'
  have out2' : TmIn R4 r2 U2 := by rw [eU2]; exact out2.monoN hN4
  clear led N9' N12 hN4 out2 F9
  refine kG0 ?_
  clear kG0 G0
  k_steps
  unfold Stop
  refine' tells_use (wr_tells w rfl rfl (U2, some (joinOf n5))) ?k1 ?k2 ?k3 ?k4 ?k5 ?kK ?kR ?ko ?kd ?ku ?_
  case k1 => exact K0
  case k2 => k_asm
  case k3 => exact KX
  case k4 => exact N13
  case k5 => exact T
  case kK => exact rfl
  case kR => exact .mk (out2'.mono fun p hp => by tb_rel) .int
  case ko => exact Nat.le_trans hszV (by decide)
  case kd => exact kd0 (a := callerA.depth + 1) (m := 19) hhtV (by decide)
  case ku => exact ku0 (a := callerA.units + 3) (m := 19) hhtV (by decide)
  rintro r9 nwF h9c tk9c F9c N9' led out9
  refine hide fun G0 kG0 => ?_
  obtain ⟨al, lv, ln, rfl, hml, hil⟩ := out9
  obtain ⟨R5, hR5, hRR5, hN5, N14⟩ := law_call e1' e2 e3 e4 e5 e6 e7 e8 d9 hR4 led N9'
  have hml' := hN5 _ hml nc_list
  rw [Tm.ints_written] at hil
  have hil' := items_ints hil
  have hlen : lv.length = U2.size := by rw [hil'.length, Tm.ints_length]
  clear led N9' N13 hN5 hml hil F9b
  refine kG0 ?_
  clear kG0 G0
  k_steps
  unfold Stop
  rename_i D7 h7 F7 N7 l7
  have hD7 := l7 (s₁.heap.objs.size + 1 + 1 + 1 + 1 + 1 + 1 + 1 + 1 + 1, p1) (by tb_rel)
  dsimp only at hD7
  have hls : 7 ≤ s ∧ s ≤ 54 := by rw [es]; exact letter_range _ _ _
  have hlk : 7 ≤ k ∧ k ≤ 54 := by rw [ek]; exact letter_range _ _ _
  have hU1 : U1.All (fun v => 7 ≤ v ∧ v ≤ 54) := by rw [eU1]; exact without_all hls hlk _ hA
  have hU2 : U2.All (fun v => 7 ≤ v ∧ v ≤ 54) := by rw [eU2]; exact without_all hls hlk _ hU1
  obtain ⟨tk0, N15⟩ : ∃ tk0, News _ _ _ ([(D7, W.listOf (List.toArray (lv ++ [Value.int 0 tk0])) 0), _] ++ cellsL s₁.heap.objs.size p1 q2 q3 q4 q5 q6 q7 q8 o9 R5) := ⟨_, N7⟩
  replace N15 : News _ _ _ (cellsL s₁.heap.objs.size p1 q2 q3 q4 q5 q6 q7 q8 o9 ((D7, W.listOf (List.toArray (lv ++ [Value.int 0 tk0])) 0) :: R5)) := pack [_, _] _ N15 (.own (.head _) .all)
  clear N7 l7
  have rdU : ReadAt (U2.ints (joinOf n5) ++ [0]) 0 U2 U2.size := by
    have h := read_ints hJ U2 (hU2.mono fun i h => Int.lt_of_le_of_lt h.2 (by decide)) [] [0]
    simpa using h
  have hR5' : ∀ p ∈ (D7, W.listOf (List.toArray (lv ++ [Value.int 0 tk0])) 0) :: R5, s₁.heap.objs.size + 9 < p.1 := above_cons (x := (D7, W.listOf (List.toArray (lv ++ [Value.int 0 tk0])) 0)) hD7 hR5
  refine' tells_use (rd_tells w rfl rfl ⟨U2.ints (joinOf n5) ++ [0], 0, U2, U2.size⟩) ?k1 ?k2 ?k3 ?k4 ?k5 ?kK ?kR ?ko ?kd ?ku ?_
  case k1 => exact K0
  case k2 => k_asm
  case k3 => exact KX
  case k4 => exact N15
  case k5 => exact T
  case kK => exact rfl
  case kR => exact .mk (a := D7) (n := 0) (vs := lv ++ [Value.int 0 tk0]) (cells_in (.head _)) (hil'.append (.cons _ _ .nil))
  case ko =>
    refine ⟨?_, rdU⟩
    show (U2.ints (joinOf n5) ++ [0]).length ≤ 1000
    rw [List.length_append, Tm.ints_length]
    exact Nat.le_trans (Nat.add_le_add_right hszV 1) (by decide)
  case kd => exact kd0 (a := callerA.depth + 1) (m := 20) (Nat.succ_le_succ hhtV) (by decide)
  case ku => exact ku0 (a := callerA.units + 3) (m := 20) (Nat.succ_le_succ hhtV) (by decide)
  rintro r9 nwF h9d tk9d F9d N9' led out9
  refine hide fun G0 kG0 => ?_
  obtain ⟨ar, rn, rv, rtk, rfl, hmr, htr⟩ := out9
  obtain ⟨R6, hR6, hRR6, hN6, N16⟩ := law_call e1' e2 e3 e4 e5 e6 e7 e8 d9 hR5' led N9'
  have hmr' := hN6 _ hmr (IsT.nc ⟨rfl, _, _, rfl⟩)
  have htr' := htr.monoN hN6
  clear led N9' N15 hN6 hmr htr F7
  have hRR6' : ∀ p ∈ R5, p ∈ R6 := fun p hp => hRR6 p (List.mem_cons_of_mem _ hp)
  clear hRR6
  have hRR26 : ∀ p ∈ R2, p ∈ R6 := fun p hp => hRR6' _ (hRR5 _ (hRR4 _ (hRR3 _ hp)))
  have hM6 := hRR26 _ hM'
  have gb1' := hRR26 _ gb1
  have gb2' := hRR26 _ gb2
  have gb3' := hRR26 _ gb3
  dsimp only at hmr' htr'
  have htu := N16.isTup (show (ar, ({ cls := .type "tuple", data := .seq #[rv, .int (U2.size : Int) rtk] rn } : Obj)) ∈ _ by tb_rel)
  refine kG0 ?_
  clear kG0 G0
  k_steps
  unfold Stop
  rename Fr _ _ _ _ => F7
  rename News _ _ _ _ => N7
  rename_i E1 g1 m1 E2 g2 m2
  have hE1 : s₁.heap.objs.size + 9 < E1 := m1
  have hE2 : s₁.heap.objs.size + 9 < E2 := m2
  replace N7 : News _ _ _ ([_, _] ++ cellsL s₁.heap.objs.size p1 q2 q3 q4 q5 q6 q7 q8 o9 R6) := N7
  have N88 : News _ _ _ (cellsL s₁.heap.objs.size p1 q2 q3 q4 q5 q6 q7 q8 o9 ((E2, ({ cls := .type "tuple", data := .seq #[.ref E1, vC] } : Obj)) :: (E1, ({ cls := .type "tuple", data := .seq #[rv, vB] } : Obj)) :: R6)) := pack [_, _] _ N7 (.own (.head _) (.own (.tail _ (.head _)) .all))
  have hR7 := above_cons (x := (E2, ({ cls := .type "tuple", data := .seq #[.ref E1, vC] } : Obj))) hE2 (above_cons (x := (E1, ({ cls := .type "tuple", data := .seq #[rv, vB] } : Obj))) hE1 hR6)
  clear N7 m1 m2
  rename_i z10x1 z10x2 z10x3 z10x4 z10x5 z10x6 z10x7 z10x8 z10x9 z10x10 z10x11
  clear hA hR2 gA gb1 gb2 gb3 F11 hM' hszU hhtU r1 z10x1 h9 tk9 R3 hR3 hRR3 out1' r2 z10x2 h9b tk9b R4 hR4 hRR4 out2' z10x3 h9c tk9c hR5 hRR5 z10x4 z10x5 z10x6 z10x7 z10x8 D7 h7 hD7 hls hlk hU1 hU2 tk0 rdU hR5' nwF h9d tk9d ar rn hR6 hmr' hM6 gb1' gb2' gb3' htu z10x9 z10x10 z10x11 g1 hE1 hE2
  revert G Y hg KX T B TE TW hcd K0 d9 qk z3x1 hst ex ey ez es ek e2 e3 e4 e5 e6 e7 e8 c1 c2 c3 e1' ctv htv hJ hx hy hi1 eA hi2 eB hi3 eC kR hRR2 gB gC eU1 hszA hhtA eU2 hszV hhtV hml' hil' hlen htr' hRR6' hRR26 F7 N88 hR7
  exact kz.op U1 U2 al lv ln R5 rv rtk R6 tk E1 E2 g2⟩
noncomputable def Q10 (d : Mine.Tm × Mine.Tm × PySem.Addr × (List PySem.Value) × Nat × Mine.Ledger × PySem.Value × PySem.Tok × Mine.Ledger × Nat × PySem.Addr × PySem.Addr × PySem.Heap) : Prop := l10.1 d.1 d.2.1 d.2.2.1 d.2.2.2.1 d.2.2.2.2.1 d.2.2.2.2.2.1 d.2.2.2.2.2.2.1 d.2.2.2.2.2.2.2.1 d.2.2.2.2.2.2.2.2.1 d.2.2.2.2.2.2.2.2.2.1 d.2.2.2.2.2.2.2.2.2.2.1 d.2.2.2.2.2.2.2.2.2.2.2.1 d.2.2.2.2.2.2.2.2.2.2.2.2
noncomputable def c10 := skel (neP ⟨Tm.leaf 0⟩ (neP ⟨Tm.leaf 0⟩ (neP neI (neP neI (neP neI (neP neI (neP neI (neP neI (neP neI (neP neI (neP neI (neP neI (neI))))))))))))) Q10
noncomputable def C10.U1 : Mine.Tm := c10.1
noncomputable def C10.U2 : Mine.Tm := c10.2.1
noncomputable def C10.al : PySem.Addr := c10.2.2.1
noncomputable def C10.lv : List PySem.Value := c10.2.2.2.1
noncomputable def C10.ln : Nat := c10.2.2.2.2.1
noncomputable def C10.R5 : Mine.Ledger := c10.2.2.2.2.2.1
noncomputable def C10.rv : PySem.Value := c10.2.2.2.2.2.2.1
noncomputable def C10.rtk : PySem.Tok := c10.2.2.2.2.2.2.2.1
noncomputable def C10.R6 : Mine.Ledger := c10.2.2.2.2.2.2.2.2.1
noncomputable def C10.tk : Nat := c10.2.2.2.2.2.2.2.2.2.1
noncomputable def C10.E1 : PySem.Addr := c10.2.2.2.2.2.2.2.2.2.2.1
noncomputable def C10.E2 : PySem.Addr := c10.2.2.2.2.2.2.2.2.2.2.2.1
noncomputable def C10.g2 : PySem.Heap := c10.2.2.2.2.2.2.2.2.2.2.2.2
theorem k10 (hzz : Sealed (l10.1 C10.U1 C10.U2 C10.al C10.lv C10.ln C10.R5 C10.rv C10.rtk C10.R6 C10.tk C10.E1 C10.E2 C10.g2)) : PySem.Challenge.rw_wb0121_01.Holds := l10.2 ⟨fun U1 U2 al lv ln R5 rv rtk R6 tk E1 E2 g2 => skel_all (Q := Q10) hzz.op (U1, U2, al, lv, ln, R5, rv, rtk, R6, tk, E1, E2, g2)⟩
end

section
open PySem PySem.W PyProof.Rows PySem.Calls

theorem stride_in (j : Nat) : strideF j ∈ strides := by
  unfold strideF
  rw [List.getD_eq_getElem?_getD]
  by_cases h : j < strides.length
  · rw [List.getElem?_eq_getElem h]; exact List.getElem_mem h
  · rw [List.getElem?_eq_none (Nat.le_of_not_lt h)]; exact .head _
theorem stride_ok : ∀ p : Nat, p < 5 → ∀ q : Nat, q < 5 → ∀ st ∈ strides, p ≠ q → ((p : Int) * st - (q : Int) * st) % 48 ≠ 0 := by decide +kernel
theorem letter_ne {st : Int} (h : st ∈ strides) (n : Int) (p q : Nat) (hp : p < 5) (hq : q < 5) (hne : p ≠ q) : letterOf n st p ≠ letterOf n st q := by
  unfold letterOf
  rw [Int.fmod_eq_emod_of_nonneg _ (by decide), Int.fmod_eq_emod_of_nonneg _ (by decide)]
  intro e
  have k := stride_ok p hp q hq st h hne
  generalize (p : Int) * st = a at e k
  generalize (q : Int) * st = b at e k
  omega

open C0
open C1 hiding tk
open C2 hiding tk
open C3 hiding tk
open C4 hiding h tk
open C5
open C6 hiding h tk
open C7 hiding h tk ub1 ub2
open C8 hiding h tk
open C9 hiding tk
open C10
noncomputable def l11 : (P : Mine.Tm → PySem.Value → Mine.Ledger → PySem.Addr → PySem.Heap → Nat → Prop) ×' (Sealed (∀ V r4 R7 D0 g4 tk, P V r4 R7 D0 g4 tk) → PySem.Challenge.rw_wb0121_01.Holds) := ⟨_, fun kz => by
  refine k10 ⟨?_⟩
  show ∀ G : _, _
  w_top off
  k_fill
  set_option tactic.hygienic false in intros
  have hstr := stride_in ((n4.fdiv 48).fmod 8).toNat
  rw [hst] at hstr
  have lne := letter_ne hstr n4
  have dxy : x ≠ y := by rw [ex, ey]; exact lne 0 1 (by decide) (by decide) (by decide)
  have dxz : x ≠ z := by rw [ex, ez]; exact lne 0 2 (by decide) (by decide) (by decide)
  have dxs : x ≠ s := by rw [ex, es]; exact lne 0 3 (by decide) (by decide) (by decide)
  have dxk : x ≠ k := by rw [ex, ek]; exact lne 0 4 (by decide) (by decide) (by decide)
  have dyz : y ≠ z := by rw [ey, ez]; exact lne 1 2 (by decide) (by decide) (by decide)
  have dys : y ≠ s := by rw [ey, es]; exact lne 1 3 (by decide) (by decide) (by decide)
  have dyk : y ≠ k := by rw [ey, ek]; exact lne 1 4 (by decide) (by decide) (by decide)
  have dzs : z ≠ s := by rw [ez, es]; exact lne 2 3 (by decide) (by decide) (by decide)
  have dzk : z ≠ k := by rw [ez, ek]; exact lne 2 4 (by decide) (by decide) (by decide)
  have dsk : s ≠ k := by rw [es, ek]; exact lne 3 4 (by decide) (by decide) (by decide)
  clear lne hstr
  have hledV : Tm.led s k 12 (.node (.node U2 TB) TC) = some (TA.subst (subst2 x y TB TC)) := by
    rw [eU2, eU1]
    refine led_law dxy dxz dxs dxk dyz dys dyk dzs dzk dsk n1 9 (by decide) (by decide) eA ?_ ?_ ?_ ?_
    · rw [eB]; exact term_all ⟨dxs, dxk⟩ ⟨dys, dyk⟩ ⟨dzs, dzk⟩
    · rw [eC]; exact term_all ⟨dxs, dxk⟩ ⟨dys, dyk⟩ ⟨dzs, dzk⟩
    · rw [eB]; exact tree_height _ _ _ _ _
    · rw [eC]; exact tree_height _ _ _ _ _
  obtain ⟨V, eV⟩ : ∃ V, V = TA.subst (subst2 x y TB TC) := ⟨_, rfl⟩
  rw [← eV] at hledV
  refine' tells_use (le_tells w rfl rfl ⟨12, .node (.node U2 TB) TC, s, k, V⟩) ?k1 ?k2 ?k3 ?k4 ?k5 ?kK ?kR ?ko ?kd ?ku ?_
  case k1 => exact K0
  case k2 => k_asm
  case k3 => exact KX
  case k4 => exact N88
  case k5 => exact T
  case kK => exact rfl
  case kR =>
    exact .mk (.node (cells_in (.head _)) (.node (cells_in (.tail _ (.head _))) (htr'.mono fun p hp => cells_in (.tail _ (.tail _ hp))) (gB.mono fun p hp => cells_in (.tail _ (.tail _ (hRR26 p hp))))) (gC.mono fun p hp => cells_in (.tail _ (.tail _ (hRR26 p hp)))))
  case ko => exact hledV
  case kd => show callerA.depth + 1 + 12 < 1000; decide
  case ku => show callerA.units + 3 + 8 * 12 < 9900; decide
  rintro r4 nwF h9e tk9e F9e N9' led out4
  refine hide fun G0 kG0 => ?_
  obtain ⟨R7, hR7', hRR7, hN7, N17⟩ := law_call e1' e2 e3 e4 e5 e6 e7 e8 d9 hR7 led N9'
  have out4' : TmIn R7 r4 V := out4.monoN hN7
  have hRR7' : ∀ p ∈ R6, p ∈ R7 := fun p hp => hRR7 p (List.mem_cons_of_mem _ (List.mem_cons_of_mem _ hp))
  clear led N9' N88 hN7 out4 F7 hRR7 hR7
  have hRR27 : ∀ p ∈ R2, p ∈ R7 := fun p hp => hRR7' _ (hRR26 _ hp)
  have hDr7 := hRR27 _ (hRR2 _ kR.2.2.2.1)
  have ha17 := hRR27 _ (hRR2 _ kR.2.2.2.2.1)
  have ha27 := hRR27 _ (hRR2 _ kR.2.2.2.2.2.1)
  have ha37 := hRR27 _ (hRR2 _ kR.2.2.2.2.2.2.1)
  have hml7 := hRR7' _ (hRR6' _ hml')
  refine kG0 ?_
  clear kG0 G0
  k_steps
  unfold Stop
  rename Fr _ _ _ _ => F7
  rename News _ _ _ _ => N7
  rename_i D0 h0a m3 E4 h0b m4 h0c h0d g4
  have hD0 : s₁.heap.objs.size + 9 < D0 := m3
  replace N7 : News _ _ _ ([_, (D0, W.listOf (List.toArray ([] : List Value)) 0)] ++ cellsL s₁.heap.objs.size p1 q2 q3 q4 q5 q6 q7 q8 o9 R7) := N7
  have N89 : News _ _ _ (cellsL s₁.heap.objs.size p1 q2 q3 q4 q5 q6 q7 q8 o9 ((D0, W.listOf (List.toArray ([] : List Value)) 0) :: R7)) := pack [_, (D0, W.listOf (List.toArray ([] : List Value)) 0)] _ N7 (.own (.tail _ (.head _)) .all)
  have hR8 := above_cons (x := (D0, W.listOf (List.toArray ([] : List Value)) 0)) hD0 hR7'
  clear N7 m3 m4
  k_dflt (refine For_invVF F7 (by rfl) (by rfl) ?_)
  k_steps
  unfold Stop
  clear hst ex ey ez es ek eA gB gC eU1 eU2 hml' hRR6' hRR26 dxy dxz dxs dxk dyz dys dyk dzs dzk dsk hledV nwF h9e tk9e hR7' h0a E4 h0b h0c h0d hD0
  revert G Y hg KX T B TE TW hcd K0 d9 qk z3x1 e2 e3 e4 e5 e6 e7 e8 c1 c2 c3 e1' ctv htv hJ hx hy hi1 hi2 eB hi3 eC kR hRR2 hszA hhtA hszV hhtV hil' hlen htr' eV out4' hRR7' hRR27 hDr7 ha17 ha27 ha37 hml7 F7 N89 hR8
  exact kz.op V r4 R7 D0 g4 tk⟩
noncomputable def Q11 (d : Mine.Tm × PySem.Value × Mine.Ledger × PySem.Addr × PySem.Heap × Nat) : Prop := l11.1 d.1 d.2.1 d.2.2.1 d.2.2.2.1 d.2.2.2.2.1 d.2.2.2.2.2
noncomputable def c11 := skel (neP ⟨Tm.leaf 0⟩ (neP neI (neP neI (neP neI (neP neI (neI)))))) Q11
noncomputable def C11.V : Mine.Tm := c11.1
noncomputable def C11.r4 : PySem.Value := c11.2.1
noncomputable def C11.R7 : Mine.Ledger := c11.2.2.1
noncomputable def C11.D0 : PySem.Addr := c11.2.2.2.1
noncomputable def C11.g4 : PySem.Heap := c11.2.2.2.2.1
noncomputable def C11.tk : Nat := c11.2.2.2.2.2
theorem k11 (hzz : Sealed (l11.1 C11.V C11.r4 C11.R7 C11.D0 C11.g4 C11.tk)) : PySem.Challenge.rw_wb0121_01.Holds := l11.2 ⟨fun V r4 R7 D0 g4 tk => skel_all (Q := Q11) hzz.op (V, r4, R7, D0, g4, tk)⟩
end

section
open PySem PySem.W PyProof.Rows PySem.Calls

def dueFr (m₀ : Str → Option Value) (u va : Option Value) : Str → Option Value := fun y =>
  if y = Str.ofString "symbol" then u else if y = Str.ofString "due" then va else m₀ y
theorem dueFr_set {m₀ : Str → Option Value} {u va o va' : Option Value} : (fun y => if y = Str.ofString "due" then va' else if y = Str.ofString "symbol" then o else dueFr m₀ u va y) = dueFr m₀ o va' := by
  funext y
  simp only [dueFr]
  by_cases h1 : y = Str.ofString "symbol"
  · subst h1; rfl
  · by_cases h2 : y = Str.ofString "due"
    · subst h2; rfl
    · simp only [if_neg h1, if_neg h2]
def dueOf (x y : Int) (b c : List Int) (v : Int) : List Int := if v = x then b else if v = y then c else [v]
inductive DueJ (m₀ : Str → Option Value) (x y : Int) (b c is : List Int) (i : Nat) (m : Str → Option Value) (nw : Ledger) : Prop
  | mk (u : Option Value) (a : Addr) (n : Nat) (dv : List Value) (em : m = dueFr m₀ u (some (.ref a))) (hm : (a, W.listOf (List.toArray dv) n) ∈ nw) (hi : IntsAre dv ((is.take i).flatMap (dueOf x y b c))) (hl : dv.length ≤ 7 * i) : DueJ m₀ x y b c is i m nw
theorem due_loop {prog : Program} {w : World} {A : Around} {E : Value → Shared → Prop} {s : Shared} {env : Env} {h₀ : Heap} {body : List Stmt} {Q : Flow → Shared → Prop} {rl : Addr} {n : Nat} {m₀ : Str → Option Value} {news : Ledger} (x y : Int) (b c is : List Int) (vs : List Value) (hh : A.handled = none)
    (hm : (rl, W.listOf (List.toArray vs) n) ∈ news) (hi : IntsAre vs is) (F : Fr h₀ env.locals s.heap m₀) (N : News h₀ env.locals s.heap news) {a0 : Addr} {n0 : Nat} (h0 : m₀ (Str.ofString "due") = some (.ref a0)) (ha0 : (a0, W.listOf (List.toArray []) n0) ∈ news)
    (turn : ∀ i tv nw I oI h tk u a n9 dv, Led news nw → (a, W.listOf (List.toArray dv) n9) ∈ nw → IntsAre dv ((is.take i).flatMap (dueOf x y b c)) → dv.length ≤ 7 * i → i < is.length →
      Fr h₀ env.locals h (fun z => if z = Str.ofString "symbol" then some (.int (is.getD i 0) tv) else dueFr m₀ u (some (.ref a)) z) → News h₀ env.locals h ((I, oI) :: nw) →
      wpAny (model prog w) A (execs body env) (TurnQ h₀ env.locals Q (DueJ m₀ x y b c is (i + 1)) (fun _ _ => False) ((I, oI) :: nw) { s with heap := h, toks := tk }) E { s with heap := h, toks := tk })
    (done : ∀ nw h tk u a n9 dv, Led news nw → (a, W.listOf (List.toArray dv) n9) ∈ nw → IntsAre dv (is.flatMap (dueOf x y b c)) → dv.length ≤ 7 * is.length → Fr h₀ env.locals h (dueFr m₀ u (some (.ref a))) → News h₀ env.locals h nw → Q .next { s with heap := h, toks := tk }) :
    wpAny (model prog w) A (pyIter (.ref rl)) (fun it s₂ => LoopAtV prog w A h₀ env (Str.ofString "symbol") body Q E it s₂) E s := by
  refine for_list hh hm F N (DueJ m₀ x y b c is) (fun _ _ => False) ?_ ⟨m₀ (Str.ofString "symbol"), a0, n0, [], ?_, ha0, .nil, Nat.le_refl _⟩ ?_ ?_
  · rintro i m a b hs ⟨u, a', n', dv, e, hm', hi', hl⟩
    exact ⟨u, a', n', dv, e, hs _ hm' (.inl rfl), hi', hl⟩
  · funext z
    simp only [dueFr]
    by_cases h1 : z = Str.ofString "symbol"
    · subst h1; rfl
    · rw [if_neg h1]
      by_cases h2 : z = Str.ofString "due"
      · subst h2; exact h0
      · rw [if_neg h2]
  · rintro i v m₁ nw I oI h tk hv ⟨u, a, n9, dv, rfl, hma, hdi, hdl⟩ hled F9 N9
    obtain ⟨tv, rfl⟩ := IntsAre.int_at hi i v (by simpa using hv)
    have hlt : i < is.length := by
      have := (List.getElem?_eq_some_iff.mp hv).1
      rw [hi.length] at this
      exact this
    exact turn i tv nw I oI h tk u a n9 dv hled hma hdi hdl hlt F9 N9
  · rintro m₁ nw h tk (⟨u, a, n9, dv, rfl, hma, hdi, hdl⟩ | hf) hled F9 N9
    · rw [hi.length, List.take_length] at hdi
      rw [hi.length] at hdl
      exact done nw h tk u a n9 dv hled hma hdi hdl F9 N9
    · exact hf.elim
theorem due_next (x y : Int) (b c is : List Int) {i : Nat} (h : i < is.length) : (is.take (i + 1)).flatMap (dueOf x y b c) = (is.take i).flatMap (dueOf x y b c) ++ dueOf x y b c (is.getD i 0) := by
  rw [take_next is h, List.flatMap_append]
  simp
local macro_rules | `(tactic| k_lt $h:ident) => `(tactic| skip)
open C0
open C1 hiding tk
open C2 hiding tk
open C3 hiding tk
open C4 hiding h tk
open C5
open C6 hiding h tk
open C7 hiding h tk ub1 ub2
open C8 hiding h tk
open C9 hiding tk
open C10 hiding tk
open C11
noncomputable def l12 : (P : PySem.Heap → Nat → (Option PySem.Value) → PySem.Addr → Nat → (List PySem.Value) → Mine.Ledger → Prop) ×' (Sealed (∀ h tk u a n9 dv R9, P h tk u a n9 dv R9) → PySem.Challenge.rw_wb0121_01.Holds) := ⟨_, fun kz => by
  refine k11 ⟨?_⟩
  show ∀ G : _, _
  w_top off
  k_fill
  set_option tactic.hygienic false in intros
  refine due_loop x y (TB.ints (joinOf n5)) (TC.ints (joinOf n5)) (TA.ints (joinOf n5)) v1 rfl (n := m1) (m₀ := ?mm12) (news := cellsL s₁.heap.objs.size p1 q2 q3 q4 q5 q6 q7 q8 o9 ((D0, W.listOf (List.toArray ([] : List Value)) 0) :: R7)) ?hm hi1 ?F ?N (a0 := D0) (n0 := 0) ?h0 ?ha0 ?turn ?done
  case hm => exact cells_in (.tail _ ha17)
  case F => exact F7
  case N => exact N89
  case h0 => exact rfl
  case ha0 => exact cells_in (.head _)
  case turn =>
    intro i tv nw I oI h tk u a n9 dv hled hma hdi hdl hlt F9 N9
    have hsub := hled.sub
    have hmem : ∀ p ∈ cellsL s₁.heap.objs.size p1 q2 q3 q4 q5 q6 q7 q8 o9 ((a, W.listOf (List.toArray dv) n9) :: (I, oI) :: (R7 ++ nw)), p ∈ (I, oI) :: nw := by
      intro p hp
      rcases cells_elim hp with hc | hp
      · exact .tail _ (hsub p (cells_cell hc))
      rcases List.mem_cons.mp hp with h | hp
      · rw [h]; exact .tail _ hma
      rcases List.mem_cons.mp hp with h | hp
      · rw [h]; exact .head _
      rcases List.mem_append.mp hp with h | h
      · exact .tail _ (hsub p (cells_in (.tail _ h)))
      · exact .tail _ h
    have N90 := news_sub N9 hmem
    have hE : Led ((I, oI) :: nw) (cellsL s₁.heap.objs.size p1 q2 q3 q4 q5 q6 q7 q8 o9 ((a, W.listOf (List.toArray dv) n9) :: (I, oI) :: (R7 ++ nw))) := ⟨fun p hp => by
      rcases List.mem_cons.mp hp with h | h
      · rw [h]; exact cells_in (.tail _ (.head _))
      · exact cells_in (.tail _ (.tail _ (List.mem_append_right R7 h))), fun p hp => .inl (hmem p hp)⟩
    clear N9 N89 F7 hsub hmem
    have hDr9 := List.mem_append_left nw hDr7
    have ha29 := List.mem_append_left nw ha27
    have ha39 := List.mem_append_left nw ha37
    have hlt' : i < 7 := Nat.lt_of_lt_of_le hlt (hi1.length ▸ c1)
    have hdl' : dv.length ≤ 49 := Nat.le_trans hdl (Nat.mul_le_mul_left 7 (Nat.le_of_lt hlt'))
    have hnext := due_next x y (TB.ints (joinOf n5)) (TC.ints (joinOf n5)) (TA.ints (joinOf n5)) hlt
    by_cases hx' : (TA.ints (joinOf n5)).getD i 0 = x
    · have hd9 : dueOf x y (TB.ints (joinOf n5)) (TC.ints (joinOf n5)) ((TA.ints (joinOf n5)).getD i 0) = TB.ints (joinOf n5) := if_pos hx'
      rw [hd9] at hnext
      k_steps
      try dsimp only [TurnQ]
      exact TurnE.intro (by k_asm) (by k_asm) (by tb_start) ⟨_, _, _, _, dueFr_set, List.mem_cons_self, by rw [hnext]; exact hdi.append hi2, by rw [List.length_append]; exact Nat.add_le_add hdl c2⟩
    · by_cases hy' : (TA.ints (joinOf n5)).getD i 0 = y
      · have hd9 : dueOf x y (TB.ints (joinOf n5)) (TC.ints (joinOf n5)) ((TA.ints (joinOf n5)).getD i 0) = TC.ints (joinOf n5) := (if_neg hx').trans (if_pos hy')
        rw [hd9] at hnext
        k_steps
        try dsimp only [TurnQ]
        exact TurnE.intro (by k_asm) (by k_asm) (by tb_start) ⟨_, _, _, _, dueFr_set, List.mem_cons_self, by rw [hnext]; exact hdi.append hi3, by rw [List.length_append]; exact Nat.add_le_add hdl c3⟩
      · have hd9 : dueOf x y (TB.ints (joinOf n5)) (TC.ints (joinOf n5)) ((TA.ints (joinOf n5)).getD i 0) = [(TA.ints (joinOf n5)).getD i 0] := (if_neg hx').trans (if_neg hy')
        rw [hd9] at hnext
        k_steps
        try dsimp only [TurnQ]
        exact TurnE.intro (by k_asm) (by k_asm) (by tb_start) ⟨_, _, _, _, dueFr_set, List.mem_cons_self, by rw [hnext]; exact hdi.append (.cons _ _ .nil), by rw [List.length_append, List.length_cons, List.length_nil]; omega⟩
  intro nw h tk u a n9 dv hled hma hdi hdl F9 N9
  refine hide fun G0 kG0 => ?_
  obtain ⟨R9, hR9, hRR9, hN9, N91⟩ := law_call e1' e2 e3 e4 e5 e6 e7 e8 d9 hR8 hled N9
  have hma9 := hN9 _ hma nc_list
  have hdue : IntsAre dv (V.ints (joinOf n5)) := by
    rw [eV, subst2_ints x y (joinOf n5) TB TC (Int.ne_of_gt (Int.lt_of_le_of_lt hx.2 (Int.lt_of_lt_of_le (by decide) hJ))) (Int.ne_of_gt (Int.lt_of_le_of_lt hy.2 (Int.lt_of_lt_of_le (by decide) hJ))) TA]
    exact hdi
  have hRR79 : ∀ p ∈ R7, p ∈ R9 := fun p hp => hRR9 p (List.mem_cons_of_mem _ hp)
  have hml9 := hRR79 _ hml7
  have hRR29 : ∀ p ∈ R2, p ∈ R9 := fun p hp => hRR79 _ (hRR27 _ hp)
  have htr9 := htr'.mono fun p hp => hRR79 _ (hRR7' _ hp)
  have out9 := out4'.mono hRR79
  have hll9 : lv.length ≤ 1000 := by omega
  clear hled hN9 hdi hRR9 N9 hR8 N89
  refine kG0 ?_
  clear kG0 G0
  k_steps
  unfold Stop
  clear c1 c2 c3 hJ hx hy hi1 hi2 hi3 hlen htr' out4' hRR7' hRR27 hDr7 ha17 ha27 ha37 hml7 F7 nw hma hdl hRR79 hll9
  revert G Y hg KX T B TE TW hcd K0 d9 qk z3x1 e2 e3 e4 e5 e6 e7 e8 e1' ctv htv eB eC kR hRR2 hszA hhtA hszV hhtV hil' eV F9 hR9 N91 hma9 hdue hml9 hRR29 htr9 out9
  exact kz.op h tk u a n9 dv R9⟩
noncomputable def Q12 (d : PySem.Heap × Nat × (Option PySem.Value) × PySem.Addr × Nat × (List PySem.Value) × Mine.Ledger) : Prop := l12.1 d.1 d.2.1 d.2.2.1 d.2.2.2.1 d.2.2.2.2.1 d.2.2.2.2.2.1 d.2.2.2.2.2.2
noncomputable def c12 := skel (neP neI (neP neI (neP neI (neP neI (neP neI (neP neI (neI))))))) Q12
noncomputable def C12.h : PySem.Heap := c12.1
noncomputable def C12.tk : Nat := c12.2.1
noncomputable def C12.u : Option PySem.Value := c12.2.2.1
noncomputable def C12.a : PySem.Addr := c12.2.2.2.1
noncomputable def C12.n9 : Nat := c12.2.2.2.2.1
noncomputable def C12.dv : List PySem.Value := c12.2.2.2.2.2.1
noncomputable def C12.R9 : Mine.Ledger := c12.2.2.2.2.2.2
theorem k12 (hzz : Sealed (l12.1 C12.h C12.tk C12.u C12.a C12.n9 C12.dv C12.R9)) : PySem.Challenge.rw_wb0121_01.Holds := l12.2 ⟨fun h tk u a n9 dv R9 => skel_all (Q := Q12) hzz.op (h, tk, u, a, n9, dv, R9)⟩
end

section
open PySem PySem.W PyProof.Rows PySem.Calls

theorem subst_size {f : Int → Tm} (h : ∀ i, (f i).size ≤ 7) : ∀ t : Tm, (t.subst f).size ≤ 7 * t.size
  | .leaf i => by simp only [Tm.subst, Tm.size]; exact h i
  | .node a b => by
    have ha := subst_size h a
    have hb := subst_size h b
    simp only [Tm.subst, Tm.size]
    omega
theorem subst_height {f : Int → Tm} (h : ∀ i, (f i).height ≤ 4) : ∀ t : Tm, (t.subst f).height ≤ t.height + 4
  | .leaf i => by simp only [Tm.subst, Tm.height]; have := h i; omega
  | .node a b => by
    have ha := subst_height h a
    have hb := subst_height h b
    simp only [Tm.subst, Tm.height]
    omega
theorem subst2_size {x y : Int} {B C : Tm} (hB : B.size ≤ 7) (hC : C.size ≤ 7) (i : Int) : (subst2 x y B C i).size ≤ 7 := by
  unfold subst2
  by_cases h : i = x
  · rw [if_pos h]; exact hB
  · rw [if_neg h]
    by_cases h' : i = y
    · rw [if_pos h']; exact hC
    · rw [if_neg h']; exact (by decide : (1 : Nat) ≤ 7)
theorem subst2_height {x y : Int} {B C : Tm} (hB : B.height ≤ 4) (hC : C.height ≤ 4) (i : Int) : (subst2 x y B C i).height ≤ 4 := by
  unfold subst2
  by_cases h : i = x
  · rw [if_pos h]; exact hB
  · rw [if_neg h]
    by_cases h' : i = y
    · rw [if_pos h']; exact hC
    · rw [if_neg h']; exact (by decide : (1 : Nat) ≤ 4)

open C0
open C1 hiding tk
open C2 hiding n9 tk
open C3 hiding tk
open C4 hiding h tk
open C5
open C6 hiding h tk
open C7 hiding h tk ub1 ub2
open C8 hiding h tk
open C9 hiding h tk
open C10 hiding tk
open C11 hiding tk
open C12
noncomputable def l13 : (P : Mine.Ledger → PySem.Addr → PySem.Heap → Nat → (List PySem.Value) → (List Int) → Prop) ×' (Sealed (∀ R11 S1 hs2 tk sy sn, P R11 S1 hs2 tk sy sn) → PySem.Challenge.rw_wb0121_01.Holds) := ⟨_, fun kz => by
  refine k12 ⟨?_⟩
  show ∀ G : _, _
  w_top off
  k_fill
  set_option tactic.hygienic false in intros
  replace N91 : News _ _ _ (cellsL s₁.heap.objs.size p1 q2 q3 q4 q5 q6 q7 q8 o9 R9) := N91
  have hVs : V.size ≤ 49 := by
    have h7 := subst_size (subst2_size (x := x) (y := y) (B := TB) (C := TC) (by rw [eB]; exact tree_size _ _ _ _ _) (by rw [eC]; exact tree_size _ _ _ _ _)) TA
    rw [eV]
    exact Nat.le_trans h7 (Nat.mul_le_mul_left 7 hszA)
  have hVh : V.height ≤ 8 := by
    have h7 := subst_height (subst2_height (x := x) (y := y) (B := TB) (C := TC) (by rw [eB]; exact tree_height _ _ _ _ _) (by rw [eC]; exact tree_height _ _ _ _ _)) TA
    rw [eV]
    exact Nat.le_trans h7 (Nat.add_le_add_right hhtA 4)
  refine' tells_use (wr_tells w rfl rfl (U2, some (joinOf n5))) ?k1 ?k2 ?k3 ?k4 ?k5 ?kK ?kR ?ko ?kd ?ku ?_
  case k1 => exact K0
  case k2 => k_asm
  case k3 => exact KX
  case k4 => exact N91
  case k5 => exact T
  case kK => exact rfl
  case kR => exact .mk (htr9.mono fun p hp => by tb_rel) .int
  case ko => exact Nat.le_trans hszV (by decide)
  case kd => exact kd0 (a := callerA.depth + 1) (m := 19) hhtV (by decide)
  case ku => exact ku0 (a := callerA.units + 3) (m := 19) hhtV (by decide)
  rintro r9 nwF h9f tk9f F9f N9' led out9
  refine hide fun G0 kG0 => ?_
  obtain ⟨a9, l9, i9, rfl, hm9, hi9⟩ := out9
  obtain ⟨R10, hR10, hRR10, hN10, N92⟩ := law_call e1' e2 e3 e4 e5 e6 e7 e8 d9 hR9 led N9'
  have hm9' := hN10 _ hm9 nc_list
  rw [Tm.ints_written] at hi9
  have hi9' := items_ints hi9
  have hml10 := hRR10 _ hml9
  clear led N9' N91 hN10 hm9 hi9
  refine kG0 ?_
  clear kG0 G0
  k_steps
  unfold Stop
  refine' tells_use (wr_tells w rfl rfl (V, some (joinOf n5))) ?k1 ?k2 ?k3 ?k4 ?k5 ?kK ?kR ?ko ?kd ?ku ?_
  case k1 => exact K0
  case k2 => k_asm
  case k3 => exact KX
  case k4 => exact N92
  case k5 => exact T
  case kK => exact rfl
  case kR =>
    refine .mk (out9.mono fun p hp => ?_) .int
    have := hRR10 p hp
    tb_rel
  case ko => exact Nat.le_trans hVs (by decide)
  case kd => exact kd0 (a := callerA.depth + 1) (m := 8) hVh (by decide)
  case ku => exact ku0 (a := callerA.units + 3) (m := 8) hVh (by decide)
  rintro r9 nwF h9g tk9g F9g N9' led out9
  refine hide fun G0 kG0 => ?_
  obtain ⟨a8, l8', i8, rfl, hm8, hi8⟩ := out9
  obtain ⟨R11, hR11, hRR11, hN11, N93⟩ := law_call e1' e2 e3 e4 e5 e6 e7 e8 d9 hR10 led N9'
  have hm8' := hN11 _ hm8 nc_list
  rw [Tm.ints_written] at hi8
  have hi8' := items_ints hi8
  have hma11 := hRR11 _ (hRR10 _ hma9)
  have hRR2b : ∀ p ∈ R2, p ∈ R11 := fun p hp => hRR11 _ (hRR10 _ (hRR29 _ hp))
  clear led N9' N92 hN11 hm8 hi8 F9f
  have hDt11 := hRR2b _ (hRR2 _ kR.2.2.1)
  have hDd11 : (D, W.listOf (List.toArray [.int n1 t1, .int n2 t2, .int n3 t3, .int n4 t4, .int n5 t5]) 5) ∈ R11 := hRR2b _ (hRR2 _ kR.2.2.2.2.2.2.2)
  have htl : tv.length ≤ 24 := ctv
  refine kG0 ?_
  clear kG0 G0
  k_steps
  unfold Stop
  rename Fr _ _ _ _ => F12
  rename News _ _ _ _ => N12
  rename_i S1 hs1 m5 hs2
  have hS1 : s₁.heap.objs.size + 9 < S1 := m5 (s₁.heap.objs.size + 1 + 1 + 1 + 1 + 1 + 1 + 1 + 1 + 1, p1) (by tb_rel)
  obtain ⟨ta4, ta5, ta6, N94⟩ : ∃ ta4 ta5 ta6, News _ _ _ ([(S1, W.listOf (List.toArray (tv ++ [Value.int n5 ta4, Value.int (n5.fmod 256) ta5, Value.int 255 ta6])) 0), _] ++ cellsL s₁.heap.objs.size p1 q2 q3 q4 q5 q6 q7 q8 o9 R11) := ⟨_, _, _, N12⟩
  obtain ⟨sy, esy⟩ : ∃ sy, sy = tv ++ [Value.int n5 ta4, Value.int (n5.fmod 256) ta5, Value.int 255 ta6] := ⟨_, rfl⟩
  obtain ⟨sn, esn⟩ : ∃ sn, sn = tp ++ [n5, n5.fmod 256, 255] := ⟨_, rfl⟩
  have hsy : IntsAre sy sn := by rw [esy, esn]; exact htv.append (.cons _ _ (.cons _ _ (.cons _ _ .nil)))
  have hsyl : sy.length ≤ 27 := by rw [esy, List.length_append]; exact Nat.add_le_add_right htl 3
  rw [← esy] at N94
  replace N94 : News _ _ _ (cellsL s₁.heap.objs.size p1 q2 q3 q4 q5 q6 q7 q8 o9 ((S1, W.listOf (List.toArray sy) 0) :: R11)) := pack [_, _] _ N94 (.own (.head _) .all)
  have hR12 := above_cons (x := (S1, W.listOf (List.toArray sy) 0)) hS1 hR11
  clear N12 m5
  rename_i z13x1 z13x2 z13x3 z13x4 z13x5 z13x6
  clear d9 e2 e3 e4 e5 e6 e7 e8 e1' ctv htv eB eC kR hRR2 hszA hhtA hszV hhtV hil' eV F9 hR9 hma9 hdue hml9 hRR29 htr9 out9 hVs hVh z13x1 h9f tk9f a9 l9 i9 R10 hR10 hRR10 hm9' hi9' hml10 nwF h9g tk9g a8 l8' i8 hRR11 hm8' hi8' hma11 hRR2b hDt11 hDd11 htl z13x2 z13x3 z13x4 z13x5 z13x6 hs1 hS1 ta4 ta5 ta6 esy esn hR12
  revert G Y hg KX T B TE TW hcd K0 qk z3x1 hR11 F12 hsy hsyl N94
  exact kz.op R11 S1 hs2 tk sy sn⟩
noncomputable def Q13 (d : Mine.Ledger × PySem.Addr × PySem.Heap × Nat × (List PySem.Value) × (List Int)) : Prop := l13.1 d.1 d.2.1 d.2.2.1 d.2.2.2.1 d.2.2.2.2.1 d.2.2.2.2.2
noncomputable def c13 := skel (neP neI (neP neI (neP neI (neP neI (neP neI (neI)))))) Q13
noncomputable def C13.R11 : Mine.Ledger := c13.1
noncomputable def C13.S1 : PySem.Addr := c13.2.1
noncomputable def C13.hs2 : PySem.Heap := c13.2.2.1
noncomputable def C13.tk : Nat := c13.2.2.2.1
noncomputable def C13.sy : List PySem.Value := c13.2.2.2.2.1
noncomputable def C13.sn : List Int := c13.2.2.2.2.2
theorem k13 (hzz : Sealed (l13.1 C13.R11 C13.S1 C13.hs2 C13.tk C13.sy C13.sn)) : PySem.Challenge.rw_wb0121_01.Holds := l13.2 ⟨fun R11 S1 hs2 tk sy sn => skel_all (Q := Q13) hzz.op (R11, S1, hs2, tk, sy, sn)⟩
end

section
open PySem PySem.W PyProof.Rows PySem.Calls



open C0
open C1 hiding tk
open C2 hiding n9 tk
open C3 hiding tk
open C4 hiding h tk
open C5
open C6 hiding h tk
open C7 hiding h tk ub1 ub2
open C8 hiding h tk
open C9 hiding h tk
open C10 hiding tk
open C11 hiding tk
open C12 hiding tk
open C13
noncomputable def l14 : (P : Nat → PySem.Addr → PySem.Heap → (List PySem.Value) → (List Int) → Prop) ×' (Sealed (∀ tk S2 hs4 sm si, P tk S2 hs4 sm si) → PySem.Challenge.rw_wb0121_01.Holds) := ⟨_, fun kz => by
  refine k13 ⟨?_⟩
  show ∀ G : _, _
  w_top off
  k_fill
  set_option tactic.hygienic false in intros
  k_dflt (refine comp_eval (F₀ := by k_asm) (by with_unfolding_all rfl) (by decide) (by rfl) (by decide) (by decide) ?_)
  k_steps
  unfold Stop
  rename Fr _ _ _ _ => F13
  refine src_list (k := 0) (vs := sy) (news := ?nn14) (J := JC ?nn14 fun i ys => IntsAre ys ((sn.take i).map fun v => -v)) rfl (by rfl) (by rfl) (le_sizeLine (by omega)) ?m F13 ?N ?keep ?J0 ?turn ?fin14
  case N => exact N94
  case m => tb_rel
  case keep =>
    rintro i ys nw ⟨rfl, _⟩
    tb_rel
  case J0 => exact ⟨rfl, .nil⟩
  case turn =>
    rintro i ys nw own C Dl oC m₂ h tk E' hi ⟨xv, hP, hma⟩ hC ⟨rfl, hyi⟩ hyl F2 N2 off hne hK
    obtain ⟨tx', rfl⟩ := IntsAre.int_at hsy i xv (by simpa using hP)
    clear N94 F13
    show wpAny _ _ (eval _ _) _ _ _
    k_steps
    refine CompY.const (by k_asm) (by k_asm) (fun p hp => by repeat (first | exact hp | refine List.mem_cons_of_mem _ ?_)) off ?_
    show IntsAre (ys ++ [.int (-(sn.getD i 0)) _]) ((sn.take (i + 1)).map fun v => -v)
    rw [take_step _ _ (by rw [← hsy.length]; exact hi)]
    exact hyi.append (.cons _ _ .nil)
  rintro g ys nw hlt ⟨rfl, hyi⟩ hle Dn h tk eD F3 N3 off3
  have hDn := ltN (hlt (S1, _) (by tb_rel))
  dsimp only at hDn eD
  rw [hsy.length, List.take_length] at hyi
  clear N94 F13
  k_steps
  unfold Stop
  rename Fr _ _ _ _ => F14
  rename News _ _ _ _ => N14
  rename_i S2 hs3 m6 hs4
  have hS2 := m6 (s₁.heap.objs.size + 1 + 1 + 1 + 1 + 1 + 1 + 1 + 1 + 1, p1) (by tb_rel)
  dsimp only at hS2
  obtain ⟨sm, esm⟩ : ∃ sm, sm = sy ++ ys := ⟨_, rfl⟩
  obtain ⟨si, esi⟩ : ∃ si, si = sn ++ sn.map fun v => -v := ⟨_, rfl⟩
  have hsm : IntsAre sm si := by rw [esm, esi]; exact hsy.append hyi
  have hsml : sm.length ≤ 54 := by
    rw [esm, List.length_append]
    have h1 := hyi.length
    rw [List.length_map, ← hsy.length] at h1
    omega
  replace N14 : News _ _ _ ([(S2, W.listOf (List.toArray (sy ++ ys)) 0), _] ++ cellsL s₁.heap.objs.size p1 q2 q3 q4 q5 q6 q7 q8 o9 ((S1, W.listOf (List.toArray sy) 0) :: R11)) := N14
  rw [← esm] at N14
  have N96 : News _ _ _ (cellsL s₁.heap.objs.size p1 q2 q3 q4 q5 q6 q7 q8 o9 ((S2, W.listOf (List.toArray sm) 0) :: R11)) := pack [_, _] ((S1, W.listOf (List.toArray sy) 0) :: R11) N14 (.own (.head _) fun p hp => .inr (.tail _ hp))
  have hR13 : ∀ p ∈ (S2, W.listOf (List.toArray sm) 0) :: R11, s₁.heap.objs.size + 9 < p.1 := by
    intro p hp
    rcases List.mem_cons.mp hp with rfl | hp
    · dsimp only; omega
    · exact hR11 p hp
  clear N14 m6
  clear hR11 hsy hsyl g ys hlt hyi hle Dn h eD off3 hDn hs3 hS2 esm esi
  revert G Y hg KX T B TE TW hcd K0 qk z3x1 F14 hsm hsml N96 hR13
  exact kz.op tk S2 hs4 sm si⟩
noncomputable def Q14 (d : Nat × PySem.Addr × PySem.Heap × (List PySem.Value) × (List Int)) : Prop := l14.1 d.1 d.2.1 d.2.2.1 d.2.2.2.1 d.2.2.2.2
noncomputable def c14 := skel (neP neI (neP neI (neP neI (neP neI (neI))))) Q14
noncomputable def C14.tk : Nat := c14.1
noncomputable def C14.S2 : PySem.Addr := c14.2.1
noncomputable def C14.hs4 : PySem.Heap := c14.2.2.1
noncomputable def C14.sm : List PySem.Value := c14.2.2.2.1
noncomputable def C14.si : List Int := c14.2.2.2.2
theorem k14 (hzz : Sealed (l14.1 C14.tk C14.S2 C14.hs4 C14.sm C14.si)) : PySem.Challenge.rw_wb0121_01.Holds := l14.2 ⟨fun tk S2 hs4 sm si => skel_all (Q := Q14) hzz.op (tk, S2, hs4, sm, si)⟩
end

section
open PySem PySem.W PyProof.Rows PySem.Calls


local macro_rules | `(tactic| k_lt $h:ident) => `(tactic| skip)
open C0
open C1 hiding tk
open C2 hiding n9 tk
open C3 hiding tk
open C4 hiding h tk
open C5
open C6 hiding h tk
open C7 hiding h tk ub1 ub2
open C8 hiding h tk
open C9 hiding h tk
open C10 hiding tk
open C11 hiding tk
open C12 hiding tk
open C13 hiding tk
open C14
noncomputable def l15 : (P : Mine.Ledger → Nat → PySem.Heap → Nat → PySem.Heap → PySem.Tok → Nat → Prop) ×' (Sealed (∀ R14 Dt1 h tk h5 u5 tk5, P R14 Dt1 h tk h5 u5 tk5) → PySem.Challenge.rw_wb0121_01.Holds) := ⟨_, fun kz => by
  refine k14 ⟨?_⟩
  show ∀ G : _, _
  w_top off
  k_fill
  set_option tactic.hygienic false in intros
  k_dflt (refine comp_assign (F₀ := by k_asm) (by rfl) (by with_unfolding_all rfl) (by with_unfolding_all rfl) (by decide) (by rfl) (by decide) (by decide) (by rfl) (by rfl) ?_)
  k_steps
  unfold Stop
  rename Fr _ _ _ _ => F15
  refine src_list (k := 0) (vs := sm) (news := ?nn15) (J := fun i ys nw => ∃ R, nw = cellsL s₁.heap.objs.size p1 q2 q3 q4 q5 q6 q7 q8 o9 R ∧ (∀ p ∈ R, s₁.heap.objs.size + 9 < p.1) ∧ (∀ p ∈ (S2, W.listOf (List.toArray sm) 0) :: R11, p ∈ R) ∧ Trips R ys (si.take i)) rfl (by rfl) (by rfl) (le_sizeLine (by omega)) ?m F15 ?N ?keep ?J0 ?turn ?fin15
  case N => exact N96
  case m => tb_rel
  case keep =>
    rintro i ys nw ⟨R, rfl, h1, h2, h3⟩
    exact cells_in (h2 _ List.mem_cons_self)
  case J0 => exact ⟨_, rfl, hR13, fun p hp => hp, .nil⟩
  case turn =>
    rintro i ys nw own C Dl oC m₂ h tk E' hi ⟨xv, hP, hma⟩ hC ⟨R, rfl, hR, hRR, htrp⟩ hyl F2 N2 off hne hK
    obtain ⟨tx', rfl⟩ := IntsAre.int_at hsm i xv (by simpa using hP)
    have hi' : i < si.length := by rw [← hsm.length]; exact hi
    have hnx := take_next si hi'
    obtain ⟨vi, evi⟩ : ∃ vi, vi = si.getD i 0 := ⟨_, rfl⟩
    rw [← evi] at hma hnx
    clear N96 F15
    show wpAny _ _ (eval _ _) _ _ _
    k_steps
    unfold Stop
    refine' tells_use (eof_tells w rfl rfl vi) ?k1 ?k2 ?k3 ?k4 ?k5 ?kK ?kR ?ko ?kd ?ku ?_
    case k1 => exact K0
    case k2 => k_asm
    case k3 => exact KX
    case k4 => exact N2
    case k5 => exact T
    case kK => exact rfl
    case kR => exact .mk
    case ko => exact trivial
    case kd => show callerA.depth + 1 + 1 < 1000; decide
    case ku => show callerA.units + 3 + 8 * 1 < 9900; decide
    rintro _ nwF h9 tk9 F9 N9 led hout
    have hout' := hout
    dsimp only at hout'
    subst hout'
    have Na := news_sub N9 led.sub
    clear N9 led N2 F2
    k_steps
    unfold Stop
    refine' tells_use (term_tells w rfl rfl vi) ?k1 ?k2 ?k3 ?k4 ?k5 ?kK ?kR ?ko ?kd ?ku ?_
    case k1 => exact K0
    case k2 => k_asm
    case k3 => exact KX
    case k4 => exact Na
    case k5 => exact T
    case kK => exact rfl
    case kR => exact .mk
    case ko => exact trivial
    case kd => show callerA.depth + 1 + 1 < 1000; decide
    case ku => show callerA.units + 3 + 8 * 1 < 9900; decide
    rintro _ nwF h9b tk9b F9b N9 led hout
    have hout' := hout
    dsimp only at hout'
    subst hout'
    have Nb := news_sub N9 led.sub
    clear N9 led Na F9
    k_steps
    unfold Stop
    refine' tells_use (nonterm_tells w rfl rfl vi) ?k1 ?k2 ?k3 ?k4 ?k5 ?kK ?kR ?ko ?kd ?ku ?_
    case k1 => exact K0
    case k2 => k_asm
    case k3 => exact KX
    case k4 => exact Nb
    case k5 => exact T
    case kK => exact rfl
    case kR => exact .mk
    case ko => exact trivial
    case kd => show callerA.depth + 1 + 1 < 1000; decide
    case ku => show callerA.units + 3 + 8 * 1 < 9900; decide
    rintro _ nwF h9c tk9c F9c N9 led hout
    have hout' := hout
    dsimp only at hout'
    subst hout'
    have Nc := news_sub N9 led.sub
    clear N9 led Nb F9b
    rw [show decide (256 ≤ vi) = decide (255 < vi) from decide_eq_decide.mpr (by omega)]
    k_steps
    try k_unmd
    try k_unfold
    try dsimp only
    rename Fr _ _ _ _ => Fd
    rename News _ _ _ _ => Nd
    rename_i Lt hgt lLt
    have hf9 : ∀ p ∈ (C, oC) :: (Dl, LCg.lst ys) :: (cellsL s₁.heap.objs.size p1 q2 q3 q4 q5 q6 q7 q8 o9 R ++ own), p.1 < Lt := lLt
    refine CompY.push (nw := cellsL s₁.heap.objs.size p1 q2 q3 q4 q5 q6 q7 q8 o9 R) Fd Nd (fun p hp => List.mem_cons_of_mem _ hp) List.mem_cons_self hf9 off (cellsL s₁.heap.objs.size p1 q2 q3 q4 q5 q6 q7 q8 o9 ((Lt, W.listOf (List.toArray (tripL vi)) 0) :: R)) ?_ ⟨_, rfl, ?_, fun p hp => List.mem_cons_of_mem _ (hRR p hp), ?_⟩
    · exact cells_push
    · intro p hp
      rcases List.mem_cons.mp hp with rfl | hp
      · exact hf9 (s₁.heap.objs.size + 1 + 1 + 1 + 1 + 1 + 1 + 1 + 1 + 1, p1) (.tail _ (.tail _ (.head _)))
      · exact hR p hp
    · rw [hnx]
      exact (htrp.mono fun p hp => List.mem_cons_of_mem _ hp).append (.cons List.mem_cons_self .nil)
  rintro g ys nw hlt ⟨R14, rfl, hR14, hRR14, htrp⟩ hle Dt1 h tk eD F3 N3 off3
  rw [hsm.length, List.take_length] at htrp
  clear N96 F15
  have hDt1 := ltN (hlt (s₁.heap.objs.size + 1 + 1 + 1 + 1 + 1 + 1 + 1 + 1 + 1, p1) List.mem_cons_self)
  have hS2m := hRR14 _ List.mem_cons_self
  k_steps
  unfold Stop
  rename Fr _ _ _ _ => F16
  refine' trips_str (vs := si) ?F9q ?N9q ?m9q ?t9q ?z9q ?g9q ?u9q ?_
  case F9q => exact F16
  case N9q => exact N3
  case m9q => exact List.mem_cons_self
  case t9q => exact htrp.mono fun p hp => List.mem_cons_of_mem _ (cells_in hp)
  case z9q => rw [← hsm.length]; omega
  case g9q => exact rfl
  case u9q => show callerA.units + 3 + 5 < 9900; decide
  intro h5 u5 tk5 F5 N5
  clear F16 N3
  have N97 : News _ _ _ (cellsL s₁.heap.objs.size p1 q2 q3 q4 q5 q6 q7 q8 o9 R14) := news_sub N5 (fun p hp => List.mem_cons_of_mem _ hp)
  clear N5 htrp
  k_steps
  unfold Stop
  clear hR13 g ys hlt hRR14 hle eD off3 hDt1
  revert G Y hg KX T B TE TW hcd K0 qk z3x1 hsm hsml hR14 hS2m F5 N97
  exact kz.op R14 Dt1 h tk h5 u5 tk5⟩
noncomputable def Q15 (d : Mine.Ledger × Nat × PySem.Heap × Nat × PySem.Heap × PySem.Tok × Nat) : Prop := l15.1 d.1 d.2.1 d.2.2.1 d.2.2.2.1 d.2.2.2.2.1 d.2.2.2.2.2.1 d.2.2.2.2.2.2
noncomputable def c15 := skel (neP neI (neP neI (neP neI (neP neI (neP neI (neP neI (neI))))))) Q15
noncomputable def C15.R14 : Mine.Ledger := c15.1
noncomputable def C15.Dt1 : Nat := c15.2.1
noncomputable def C15.h : PySem.Heap := c15.2.2.1
noncomputable def C15.tk : Nat := c15.2.2.2.1
noncomputable def C15.h5 : PySem.Heap := c15.2.2.2.2.1
noncomputable def C15.u5 : PySem.Tok := c15.2.2.2.2.2.1
noncomputable def C15.tk5 : Nat := c15.2.2.2.2.2.2
theorem k15 (hzz : Sealed (l15.1 C15.R14 C15.Dt1 C15.h C15.tk C15.h5 C15.u5 C15.tk5)) : PySem.Challenge.rw_wb0121_01.Holds := l15.2 ⟨fun R14 Dt1 h tk h5 u5 tk5 => skel_all (Q := Q15) hzz.op (R14, Dt1, h, tk, h5, u5, tk5)⟩
end

section
open PySem PySem.W PyProof.Rows PySem.Calls


local macro_rules | `(tactic| k_lt $h:ident) => `(tactic| skip)
open C0
open C1 hiding tk
open C2 hiding n9 tk
open C3 hiding tk
open C4 hiding h tk
open C5
open C6 hiding h tk
open C7 hiding h tk ub1 ub2
open C8 hiding h tk
open C9 hiding h tk
open C10 hiding tk
open C11 hiding tk
open C12 hiding h tk
open C13 hiding tk
open C14 hiding tk
open C15
theorem l16 : PySem.Challenge.rw_wb0121_01.Holds := by
  refine k15 ⟨?_⟩
  show ∀ G : _, _
  w_top off
  k_fill
  set_option tactic.hygienic false in intros
  k_dflt (refine comp_eval (F₀ := by k_asm) (by with_unfolding_all rfl) (by decide) (by rfl) (by decide) (by decide) ?_)
  k_steps
  unfold Stop
  rename Fr _ _ _ _ => F17
  refine src_list (k := 0) (vs := sm) (news := ?nn16) (J := fun i ys nw => ∃ R, nw = cellsL s₁.heap.objs.size p1 q2 q3 q4 q5 q6 q7 q8 o9 R ∧ (∀ p ∈ R, s₁.heap.objs.size + 9 < p.1) ∧ (∀ p ∈ R14, p ∈ R) ∧ Trips R ys (si.take i)) rfl (by rfl) (by rfl) (le_sizeLine (by omega)) ?m F17 ?N ?keep ?J0 ?turn ?fin16
  case N => exact N97
  case m => tb_rel
  case keep =>
    rintro i ys nw ⟨R, rfl, h1, h2, h3⟩
    exact cells_in (h2 _ hS2m)
  case J0 => exact ⟨_, rfl, hR14, fun p hp => hp, .nil⟩
  case turn =>
    rintro i ys nw own C Dl oC m₂ h tk E' hi ⟨xv, hP, hma⟩ hC ⟨R, rfl, hR, hRR, htrp⟩ hyl F2 N2 off hne hK
    obtain ⟨tx', rfl⟩ := IntsAre.int_at hsm i xv (by simpa using hP)
    have hi' : i < si.length := by rw [← hsm.length]; exact hi
    have hnx := take_next si hi'
    obtain ⟨vi, evi⟩ : ∃ vi, vi = si.getD i 0 := ⟨_, rfl⟩
    rw [← evi] at hma hnx
    clear N97 F17
    show wpAny _ _ (eval _ _) _ _ _
    k_steps
    rename Fr _ _ _ _ => Fd
    rename News _ _ _ _ => Nd
    rename_i Lt hgt lLt
    have hf9 : ∀ p ∈ (C, oC) :: (Dl, LCg.lst ys) :: (cellsL s₁.heap.objs.size p1 q2 q3 q4 q5 q6 q7 q8 o9 R ++ own), p.1 < Lt := lLt
    replace Nd : News _ _ _ ((Lt, W.listOf (List.toArray (tripL vi)) 0) :: (C, oC) :: (Dl, LCg.lst ys) :: (cellsL s₁.heap.objs.size p1 q2 q3 q4 q5 q6 q7 q8 o9 R ++ own)) := Nd
    refine CompY.push (nw := cellsL s₁.heap.objs.size p1 q2 q3 q4 q5 q6 q7 q8 o9 R) Fd Nd (fun p hp => List.mem_cons_of_mem _ hp) List.mem_cons_self hf9 off (cellsL s₁.heap.objs.size p1 q2 q3 q4 q5 q6 q7 q8 o9 ((Lt, W.listOf (List.toArray (tripL vi)) 0) :: R)) ?_ ⟨_, rfl, ?_, fun p hp => List.mem_cons_of_mem _ (hRR p hp), ?_⟩
    · exact cells_push
    · intro p hp
      rcases List.mem_cons.mp hp with rfl | hp
      · exact hf9 (s₁.heap.objs.size + 1 + 1 + 1 + 1 + 1 + 1 + 1 + 1 + 1, p1) (.tail _ (.tail _ (.head _)))
      · exact hR p hp
    · rw [hnx]
      exact (htrp.mono fun p hp => List.mem_cons_of_mem _ hp).append (.cons List.mem_cons_self .nil)
  rintro g ys nw hlt ⟨R15, rfl, hR15, hRR15, htrp⟩ hle Dt2 h tk eD F3 N3 off3
  rw [hsm.length, List.take_length] at htrp
  clear N97 F17
  k_steps
  unfold Stop
  rename Fr _ _ _ _ => F18
  refine' trips_str (vs := si) ?F9r ?N9r ?m9r ?t9r ?z9r ?g9r ?u9r ?_
  case F9r => exact F18
  case N9r => exact N3
  case m9r => exact List.mem_cons_self
  case t9r => exact htrp.mono fun p hp => List.mem_cons_of_mem _ (cells_in hp)
  case z9r => rw [← hsm.length]; omega
  case g9r => exact rfl
  case u9r => show callerA.units + 3 + 5 < 9900; decide
  intro h6 u6 tk6 F6 N6
  k_steps
  refine GoodW.toG ?_
  refine goodW_bool F6 (by assumption) (raisesW_false ?_) ?_
  · wrow_none_raised
  · wrow_post
end

end Mine

theorem PySem.Challenge.cw_wb0121_01_holds : PySem.Challenge.rw_wb0121_01.Holds := by
  exact Mine.l16
