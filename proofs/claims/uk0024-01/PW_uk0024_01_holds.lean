import PyProof.Rows.All
import Wide.All
import OpenK.AllK
import Wide.FinOn
import PySem.Challenge.RW_uk0024_01
set_option Elab.async false
set_option linter.unusedVariables false
section
open PySem PySem.W PyProof.Rows
namespace Mine
abbrev lawR : RowW := OpenRow.toRowW PySem.Challenge.rw_uk0024_01.row
abbrev looseL : List PySem.Str := ["_name_disallowed_re", "_value_disallowed_re", "insort_right", "bisect_right", "bisect_left"]
def vw : Program := view PySem.Challenge.pw_uk0024_01 [0, 1, 3, 4, 5, 11, 12, 13, 14, 15, 16, 18, 19, 20, 21, 22, 23, 24, 25, 26, 27]
local macro_rules | `(tactic| o_law) => `(tactic| (refine holds_law (by decide +kernel) fun said => ?_))
local macro_rules | `(tactic| o_head $H) => `(tactic| (
  refine holds_open (q := Mine.vw) (loose := looseL) (Xt := fun s => xlAt Mine.vw [] s && recOk (RowW.records lawR) s) (XP := XL Mine.vw []) (Yf := Hook.obs $H) (Ya := Hook.val $H) (YP := Hook.says $H) (N := 3152) ?hl (Hook.of $H) (Hook.keeps $H) (fun s e => xl_of s (Bool.and_eq_true_iff.mp e).1) XL.keeps (by rfl) (by rfl) (by rfl) (fun s e => recFacts_of (Bool.and_eq_true_iff.mp e).2) (by rfl) (by first | assumption | decide +kernel) (by decide +kernel) ⟨rfl, rfl, rfl, rfl, rfl, by decide +kernel⟩ ?hw ?hc;
  (case hl => (intro w; kernel_rfl))))
set_option maxRecDepth 100000 in
set_option maxHeartbeats 8000000 in
open_top hd for PySem.Challenge.rw_uk0024_01
end Mine
end
section
open PySem PySem.W PyProof.Rows Lean
namespace Mine
open PySem.Sre PySem.Builtin.Re
abbrev nmCode : Array Nat := #[14, 10, 4, 1, 1, 22, 0, 31, 16, 127, 0, 13, 7, 22, 0, 31, 16, 127, 0, 1]
abbrev vlCode : Array Nat := #[14, 14, 4, 1, 1, 9, 4294966783, 0, 0, 2147483648, 0, 0, 0, 0, 0, 13, 11, 9, 4294966783, 0, 0, 2147483648, 0, 0, 0, 0, 0, 1]
/-- a sign that no regex of the two takes -/
def Plain (x : PySem.Str) : Prop := ∀ c ∈ x.cps.toList, 32 ≤ c ∧ c < 127
def setNone (code : Array Nat) : Prop := ∀ c seen, 32 ≤ c → c < 127 → ∃ seen', inSet code c code.size 5 true seen = .ok (false, seen')
theorem nm_none : setNone nmCode := by
  intro c seen h1 h2
  have e1 : decide (c ≤ 31) = false := decide_eq_false (by omega)
  have e2 : (c == 127) = false := beq_eq_false_iff_ne.mpr (by omega)
  simp [inSet, nmCode, ops, e1, e2]
theorem vl_none : setNone vlCode := by
  intro c seen h1 h2
  have key : ∀ c, c < 127 → 32 ≤ c → (c < 256 && (vlCode.getD (5 + (1 + c / 32)) 0).testBit (c % 32)) = false := by decide
  have e := key c h2 h1
  have s1 : ∀ seen : Sre.Seen, inSet vlCode c (27 + 1) 5 true seen = if (decide (c < 256) && (vlCode.getD (5 + (1 + c / 32)) 0).testBit (c % 32)) = true then .ok (true, seen.add 9) else inSet vlCode c 27 14 true (seen.add 9) := fun _ => rfl
  have s2 : ∀ seen : Sre.Seen, inSet vlCode c (26 + 1) 14 true seen = .ok (false, seen.add 0) := fun _ => rfl
  refine ⟨(seen.add 9).add 0, ?_⟩
  show inSet vlCode c (27 + 1) 5 true seen = _
  rw [s1, if_neg (by rw [e]; exact Bool.false_ne_true), s2]
theorem admitted_none {m : M} (hs : setNone m.code) (ht : ∀ c ∈ m.text.toList, 32 ≤ c ∧ c < 127) (hl : m.lim = m.text.size) : ∀ (fuel s : Nat) (seen : Sre.Seen), ∃ seen', M.admitted m fuel s seen = .ok (none, seen')
  | 0, _, seen => ⟨seen, rfl⟩
  | fuel + 1, s, seen => by
    unfold M.admitted
    by_cases h : s ≥ m.lim
    · exact ⟨seen, by rw [if_pos h]⟩
    · rw [if_neg h]
      have hlt : s < m.text.size := by omega
      have hc := ht m.text[s] (by simp)
      have e : m.text.getD s 0 = m.text[s] := by simp [Array.getD, hlt]
      obtain ⟨seen', e'⟩ := hs m.text[s] seen hc.1 hc.2
      rw [e, e']
      exact admitted_none hs ht hl fuel (s + 1) seen'
/-- the machine says no at once -/
structure SaysNo (m : M) : Prop where
  answer : m.answer = some false
  frames : m.frames = []
  outcome : m.outcome = none
theorem attemptFrom_no {m : M} (hf : m.hasFirstSet = true) (hs : setNone m.code) (ht : ∀ c ∈ m.text.toList, 32 ≤ c ∧ c < 127) (hl : m.lim = m.text.size) (h1 : m.frames = []) (h2 : m.outcome = none) (p : Nat) (f : Bool) : SaysNo (m.attemptFrom p f) := by
  unfold M.attemptFrom
  rw [hf]
  obtain ⟨seen', e⟩ := admitted_none hs ht hl (m.lim + 1 - p) p m.seen
  rw [e]
  exact ⟨rfl, h1, h2⟩
theorem forSearch_no {code : Array Nat} (hs : setNone code) (h2 : ∀ m : M, m.code = code → m.hasFirstSet = true) {x : PySem.Str} (hx : Plain x) (g p l : Nat) (hl : l = x.cps.size) :
    SaysNo (forSearch code x.cps g p l false) := by
  subst hl
  unfold forSearch
  dsimp only
  split
  · exact ⟨rfl, rfl, rfl⟩
  · refine attemptFrom_no ?_ ?_ ?_ ?_ ?_ ?_ _ _
    · exact h2 _ rfl
    · exact hs
    · exact hx
    · rfl
    · rfl
    · rfl
theorem nm_first (m : M) (h : m.code = nmCode) : m.hasFirstSet = true := by unfold M.hasFirstSet; rw [h]; rfl
theorem vl_first (m : M) (h : m.code = vlCode) : m.hasFirstSet = true := by unfold M.hasFirstSet; rw [h]; rfl
section
variable {prog : Program} {w : World} {A : Around} {E : Value → Shared → Prop} {s : Shared}
theorem runToEnd_no {m : M} (h : SaysNo m) {Q : Option M → Shared → Prop} (hq : Q none s) : wpAny (model prog w) A (reRunToEnd m) Q E s := by
  obtain ⟨h1, h2, h3⟩ := h
  have hs : m.step = { m with outcome := some .failed } := by unfold M.step; rw [h3, h1, h2]; rfl
  have hr : m.runFor 4 = { m with outcome := some .failed } := by
    show M.runFor (3 + 1) m = _
    unfold M.runFor
    rw [h3, hs]
    rfl
  unfold reRunToEnd
  have hd : ∀ n, reDrive (n + 1) m = pure { m with outcome := some .failed } := fun n => by
    have hr' : M.runFor reTurnSteps m = { m with outcome := some .failed } := hr
    unfold reDrive
    dsimp only
    rw [hr']
    rfl
  have h64 : (2 : Nat) ^ 64 = (2 ^ 64 - 1) + 1 := by decide
  rw [h64, hd]
  refine wpAny_bind (wpAny_pure ?_)
  refine wpAny_bind (wpAny_forIn_list _ (fun _ _ s' => s' = s) _ ?_ ?_ _ _ rfl)
  · rintro i rest b s' rfl
    split
    · exact wpAny_bind (wpAny_rule (wpAny_pure rfl))
    · exact wpAny_pure rfl
  · rintro b s' rfl
    exact wpAny_pure hq
theorem slot_search : Slot "re.Pattern" "search" "re.Pattern.search" :=
  .of (owner := "re.Pattern") (n := "search") (by rw [typeLookup_type, builtinLookup_eq_fast]; kernel_rfl) (by decide +kernel) (by decide +kernel) (by decide +kernel)
    (by first | exact .inl (by decide +kernel) | exact .inr (by decide +kernel)) (by rw [isSubtype_type]; kernel_rfl)
theorem entry_search : entryFor table "re.Pattern.search" = some Builtin.«re.Pattern.search» := entryFor_of_tree (by kernel_rfl)
/-- a compiled pattern lies at `p`, its code at `q` -/
structure PatAt (h : Heap) (p : Addr) (code : Array Nat) : Prop where
  ex : ∃ q src fl tf its, h.get? p = some { cls := .type "re.Pattern", data := .fields #[.str src fl, .int 32 tf, .int 0 0, .none, .none, .ref q, .int 0 0] } ∧ h.get? q = some { cls := .type "tuple", data := .seq its } ∧ (its.map reRawOf).map (·.toNat) = code
theorem search_none {p : Addr} {code : Array Nat} {x : PySem.Str} {t : Tok} {Q : Value → Shared → Prop} (P : PatAt s.heap p code) (hs : setNone code) (h2 : ∀ m : M, m.code = code → m.hasFirstSet = true) (hx : Plain x) (hq : Q .none s)
    (hlen : x.cps.size ≤ 1000000) :
    wpAny (model prog w) A (call (.builtin "re.Pattern.search") [.ref p, .str x t]) Q E s := by
  obtain ⟨q, src, fl, tf, its, h3, h4, h5⟩ := P.ex
  refine wpAny_call_entry slot_search ⟨_, h3, rfl⟩ entry_search ?_ (by kernel_rfl)
  unfold Builtin.«re.Pattern.search»
  refine wpAny_bind ?_
  unfold reTarget
  dsimp only
  have e1 : reNamed "re.Pattern.search" "search" ["string", "pos", "endpos"] 1 [Value.str x t] [] = pure [some (.str x t), none, none] := rfl
  rw [e1]
  refine wpAny_bind (wpAny_pure ?_)
  refine wpAny_bind (wpAny_pure ?_)
  refine wpAny_bind (wpAny_pure ?_)
  refine wpAny_bind (wpAny_fieldsOf h3 rfl ?_)
  have e2 : reTextOf (Value.str x t) = pure (x.cps, 0) := rfl
  rw [e2]
  refine wpAny_bind (wpAny_pure ?_)
  have e3 : (#[Value.str src fl, Value.int 32 tf, Value.int 0 0, Value.none, Value.none, Value.ref q, Value.int 0 0].getD 6 Value.none) = Value.int 0 0 := rfl
  have e4 : (#[Value.str src fl, Value.int 32 tf, Value.int 0 0, Value.none, Value.none, Value.ref q, Value.int 0 0].getD 5 Value.none) = Value.ref q := rfl
  have e5 : (#[Value.str src fl, Value.int 32 tf, Value.int 0 0, Value.none, Value.none, Value.ref q, Value.int 0 0].getD 2 Value.none) = Value.int 0 0 := rfl
  rw [e3, e4, e5]
  have e6 : (reRawNat (Value.int 0 0) == 0 && (0 : Nat) == 1) = false := rfl
  have e7 : (reRawNat (Value.int 0 0) == 1 && (0 : Nat) == 0) = false := rfl
  dsimp only
  rw [e6, e7]
  simp only [Bool.false_eq_true, if_false]
  have e8 : reNoCollectionInside (Value.str x t) 0 = pure () := rfl
  rw [e8]
  refine wpAny_bind (wpAny_pure ?_)
  unfold reRawItems seqItems?
  dsimp only
  refine wpAny_bind (wpAny_bind (wpAny_bind (wpAny_load h4 ?_)))
  dsimp only
  refine wpAny_pure (wpAny_pure (wpAny_pure ?_))
  dsimp only [Option.getD]
  rw [h5]
  unfold reAnswer
  refine wpAny_bind (runToEnd_no (forSearch_no hs h2 hx _ _ _ ?_) ?_)
  · have : ((2 : Int) ^ 63 - 1).toNat = 9223372036854775807 := by decide
    rw [this]
    exact Nat.min_eq_right (by omega)
  · exact wpAny_pure ⟨_, rfl, hq⟩
theorem plain_pat : PySem.PlainAttrs "re.Pattern" :=
  ⟨⟨"object.__getattribute__", by rw [typeLookup_type, builtinLookup_eq_fast]; kernel_rfl, by decide +kernel⟩, by rw [typeLookup_type, builtinLookup_eq_fast]; kernel_rfl⟩
theorem type_search : typeOf (.builtin "re.Pattern.search") = pure (.type "method_descriptor") := by show builtinType _ = _; rw [builtinType_eq_fast]; kernel_rfl
theorem getMethod_search {p : Addr} {code : Array Nat} {pl : Sem Bool} {Q : Value × List Value → Shared → Prop} (P : PatAt s.heap p code) (h : Q (.builtin "re.Pattern.search", [.ref p]) s) :
    wpAny (model prog w) A (getMethod (.ref p) "search" pl) Q E s := by
  obtain ⟨q, src, fl, tf, its, h3, h4, h5⟩ := P.ex
  exact getMethod_builtin ⟨_, h3, rfl⟩ plain_pat slot_search type_search (fun a e => by cases e; exact ⟨_, h3, rfl⟩) h
end
end Mine
end
section
open PySem PySem.W PyProof.Rows
namespace Mine
open PyProof.Rows.LCg (SrcAt)
section
variable {prog : Program} {w : World} {A : Around} {E : Value → Shared → Prop} {s : Shared} {h₀ : Heap} {L : Addr} {m : PySem.Str → Option Value} {news : List (Addr × Obj)} {env : Env}
theorem letGo_list {target : PySem.Expr} {it l : Addr} {i : Nat} {v : Value} {Q : Unit → Shared → Prop} (h : s.heap.IsListIter it l i) (hq : Q () s) :
    wpAny (model prog w) A (letOwnedTupleGo target (.ref it) v) Q E s := by
  obtain ⟨o, ho, hc, hd⟩ := h
  unfold letOwnedTupleGo
  split
  all_goals first | exact wpAny_pure hq | skip
  all_goals
    cases v <;> first | exact wpAny_pure hq | skip
    refine wpAny_bind (wpAny_load ho ?_)
    rw [hc, hd]
    exact wpAny_pure hq
/-- what a turn of a loop over a list must leave -/
def LoopEnd (h₀ : Heap) (L : Addr) (I : Addr) (oI : Obj) (J : (PySem.Str → Option Value) → List (Addr × Obj) → Prop) (R : Result → Shared → Prop) (s : Shared) (f : Flow) (s₃ : Shared) : Prop :=
  match f with
  | .next | .cont => ∃ h' tk' m' news', s₃ = { s with heap := h', toks := tk' } ∧ Fr h₀ L h' m' ∧ News h₀ L h' ((I, oI) :: news') ∧ (∀ p ∈ news', p.1 ≠ I) ∧ J m' news'
  | .brk => R (.ok .next) s₃
  | .ret v => R (.ok (.ret v)) s₃
theorem news_ext {h h' : Heap} {I : Addr} (N : News h₀ L h news) (k : Heap.SameBut I h h') (hne : ∀ p ∈ news, p.1 ≠ I) : News h₀ L h' news :=
  fun p hp => ⟨(k.2 _ (hne p hp)).trans (N p hp).1, (N p hp).2⟩
theorem fr_ext {h h' : Heap} {I : Addr} (F : Fr h₀ L h m) (k : Heap.ExtBut I h h') (hL : L ≠ I) (hI : h₀.get? I = none) : Fr h₀ L h' m :=
  ⟨F.ns.at' fun o e => k L o hL e, fun b o e => k b o (fun q => by rw [q, hI] at e; cases e) (F.keep b o e), F.above⟩
theorem news_extB {h h' : Heap} {I : Addr} (N : News h₀ L h news) (k : Heap.ExtBut I h h') (hne : ∀ p ∈ news, p.1 ≠ I) : News h₀ L h' news :=
  fun p hp => ⟨k _ _ (hne p hp) (N p hp).1, (N p hp).2⟩
theorem for_list {R : Result → Shared → Prop} {target : PySem.Expr} {body : List Stmt} {l : Addr} {items : Array Value} (hh : A.handled = none)
    (F : Fr h₀ L s.heap m) (N : News h₀ L s.heap news) (J : Nat → (PySem.Str → Option Value) → List (Addr × Obj) → Prop) (h0 : J 0 m news)
    (hsrc : ∀ i m₁ news₁, J i m₁ news₁ → SrcAt h₀ l items news₁)
    (step : ∀ i v m₁ news₁ h tk I oI E', items[i]? = some v → J i m₁ news₁ → Fr h₀ L h m₁ → News h₀ L h ((I, oI) :: news₁) → (∀ p ∈ news₁, p.1 ≠ I) →
      wpAny (model prog w) A (assign target env v) (fun _ s₂ => wpAny (model prog w) A (execs body env) (LoopEnd h₀ L I oI (J (i + 1)) R s) E' s₂) E' { s with heap := h, toks := tk })
    (done : ∀ m₁ news₁ h tk, J items.size m₁ news₁ → Fr h₀ L h m₁ → News h₀ L h news₁ → R (.ok .next) { s with heap := h, toks := tk }) :
    wpAny (model prog w) A (pyIter (.ref l)) (fun it s₂ => codeAny (model prog w) A (.forLoop target it body [] env) R s₂) E s := by
  have hl := (hsrc 0 m news h0).list F.keep N
  have hlt : l < s.heap.objs.size := by obtain ⟨_, e, _⟩ := hl; exact Heap.lt_size e
  have hlI : l ≠ s.heap.objs.size := Nat.ne_of_lt hlt
  have hLI : L ≠ s.heap.objs.size := Nat.ne_of_lt F.ns.lt
  have hI₀ : h₀.get? s.heap.objs.size = none := next_is_new F
  refine wpAny_pyIter_list hl ?_
  have up : ∀ b o, s.heap.get? b = some o → (s.heap.push { cls := .type "list_iterator", data := .fields #[.ref l, .int 0 0] }).get? b = some o := fun b o e => Heap.get?_push_of_some _ e
  refine codeAny_forLoop_any (fun k s' => ∃ h' tk m₁ news₁ i, s' = { s with heap := h', toks := tk } ∧ h'.IsListIter s.heap.objs.size l i ∧ Fr h₀ L h' m₁ ∧ News h₀ L h' news₁ ∧ (∀ p ∈ news₁, p.1 ≠ s.heap.objs.size) ∧ J i m₁ news₁ ∧ i ≤ items.size ∧ k = items.size + 1 - i)
    ?_ (items.size + 1) ⟨_, s.toks, m, news, 0, rfl, ⟨_, Heap.get?_push_size _ rfl, rfl, rfl⟩, F.keeps up, N.grown up, (fun p hp => Nat.ne_of_lt (Heap.lt_size (N p hp).1)), h0, Nat.zero_le _, rfl⟩
  rintro k s' ⟨h', tk, m₁, news₁, i, rfl, hit, F₁, N₁, off, hJ, hi, rfl⟩
  have hl₁ := (hsrc i m₁ news₁ hJ).list F₁.keep N₁
  by_cases hlt : i < items.size
  · have hx : items[i]? = some items[i] := by simp [hlt]
    refine wpAny_pyNext_list_item hit hl₁ hx fun h₂ hit₂ hs₂ => ?_
    refine letGo_list hit₂ ?_
    obtain ⟨oI, hoI, hcI, hdI⟩ := id hit₂
    have F₂ : Fr h₀ L h₂ m₁ := fr_ext F₁ hs₂.extBut hLI hI₀
    have N₂ : News h₀ L h₂ ((s.heap.objs.size, oI) :: news₁) := fun p hp => by
      rcases List.mem_cons.mp hp with rfl | hp
      · exact ⟨hoI, Ne.symm hLI, hI₀⟩
      · exact news_ext N₁ hs₂ off p hp
    refine wpAny_mono (step i _ m₁ news₁ h₂ tk _ oI _ hx hJ F₂ N₂ off) (fun _ s₂ h₂' => wpAny_mono h₂' (fun f s₃ h₃ => ?_) fun _ _ e => e) fun _ _ e => e
    have fin : (∃ h' tk' m' news', s₃ = { s with heap := h', toks := tk' } ∧ Fr h₀ L h' m' ∧ News h₀ L h' ((s.heap.objs.size, oI) :: news') ∧ (∀ p ∈ news', p.1 ≠ s.heap.objs.size) ∧ J (i + 1) m' news') →
        ∃ m_1, m_1 < items.size + 1 - i ∧ ∃ h' tk m₁ news₁ i, s₃ = { s with heap := h', toks := tk } ∧ h'.IsListIter s.heap.objs.size l i ∧ Fr h₀ L h' m₁ ∧ News h₀ L h' news₁ ∧ (∀ p ∈ news₁, p.1 ≠ s.heap.objs.size) ∧ J i m₁ news₁ ∧ i ≤ items.size ∧ m_1 = items.size + 1 - i := by
      rintro ⟨h', tk', m', news', rfl, F', N', off', hJ'⟩
      exact ⟨items.size + 1 - (i + 1), by omega, h', tk', m', news', i + 1, rfl, ⟨oI, (N' _ List.mem_cons_self).1, hcI, hdI⟩, F', fun p hp => N' p (List.mem_cons_of_mem _ hp), off', hJ', hlt, rfl⟩
    cases f with
    | next => exact fin h₃
    | cont => exact fin h₃
    | brk => exact h₃
    | ret v => exact h₃
  · obtain rfl : i = items.size := by omega
    refine wpAny_pyNext_list_end hh hit hl₁ (by simp) fun h₂ hx₂ => wpAny_execs_nil ?_
    exact done m₁ news₁ h₂ tk hJ (fr_ext F₁ hx₂ hLI hI₀) (news_extB N₁ hx₂ off)
theorem letGo_range {target : PySem.Expr} {it : Addr} {x lf st : Int} {v : Value} {Q : Unit → Shared → Prop} (h : IsRangeIter s.heap it x lf st) (hq : Q () s) :
    wpAny (model prog w) A (letOwnedTupleGo target (.ref it) v) Q E s := by
  unfold letOwnedTupleGo
  split
  all_goals first | exact wpAny_pure hq | skip
  all_goals
    cases v <;> first | exact wpAny_pure hq | skip
    refine wpAny_bind (wpAny_load h ?_)
    exact wpAny_pure hq
abbrev rgO (x lf c : Int) : Obj := { cls := .type "range_iterator", data := .fields #[rawInt x, rawInt lf, rawInt c] }
theorem for_rangeC {R : Result → Shared → Prop} {target : PySem.Expr} {body : List Stmt} {r : Addr} {a b c : Int} {t u v : Tok} {n : Nat} (hh : A.handled = none)
    (hr : IsRange s.heap r a b c t u v) (hsm : Builtin.Range.small a b c = true) (hn : Builtin.Range.rangeSize a b c = (n : Int))
    (F : Fr h₀ L s.heap m) (N : News h₀ L s.heap news) (J : Nat → (PySem.Str → Option Value) → List (Addr × Obj) → Prop) (h0 : J 0 m news)
    (step : ∀ i t' m₁ news₁ h tk I oI E', (∃ x y z, oI = rgO x y z) → i < n → J i m₁ news₁ → Fr h₀ L h m₁ → News h₀ L h ((I, oI) :: news₁) → (∀ p ∈ news₁, p.1 ≠ I) →
      wpAny (model prog w) A (assign target env (.int (a + (i : Int) * c) t')) (fun _ s₂ => wpAny (model prog w) A (execs body env) (LoopEnd h₀ L I oI (J (i + 1)) R s) E' s₂) E' { s with heap := h, toks := tk })
    (done : ∀ m₁ news₁ h tk, J n m₁ news₁ → Fr h₀ L h m₁ → News h₀ L h news₁ → R (.ok .next) { s with heap := h, toks := tk }) :
    wpAny (model prog w) A (pyIter (.ref r)) (fun it s₂ => codeAny (model prog w) A (.forLoop target it body [] env) R s₂) E s := by
  have hLI : L ≠ s.heap.objs.size := Nat.ne_of_lt F.ns.lt
  have hI₀ : h₀.get? s.heap.objs.size = none := next_is_new F
  refine wpAny_pyIter_range hr hsm ?_
  rw [hn]
  have up : ∀ b o, s.heap.get? b = some o → (s.heap.push { cls := .type "range_iterator", data := .fields #[rawInt a, rawInt (n : Int), rawInt c] }).get? b = some o := fun b o e => Heap.get?_push_of_some _ e
  have W := Walks.range (prog := prog) (w := w) hh s.heap.objs.size a c n
  refine codeAny_forLoop_any (fun k s' => ∃ h' tk m₁ news₁ i, s' = { s with heap := h', toks := tk } ∧ IsRangeIter h' s.heap.objs.size (a + (i : Nat) * c) ((n : Int) - (i : Nat)) c ∧ Fr h₀ L h' m₁ ∧ News h₀ L h' news₁ ∧ (∀ p ∈ news₁, p.1 ≠ s.heap.objs.size) ∧ J i m₁ news₁ ∧ i ≤ n ∧ k = n + 1 - i)
    ?_ (n + 1) ⟨_, s.toks, m, news, 0, rfl, ?_, F.keeps up, N.grown up, (fun p hp => Nat.ne_of_lt (Heap.lt_size (N p hp).1)), h0, Nat.zero_le _, rfl⟩
  rotate_left
  · show IsRangeIter _ _ (a + ((0 : Nat) : Int) * c) ((n : Int) - ((0 : Nat) : Int)) c
    simp only [Int.natCast_zero, Int.zero_mul, Int.add_zero, Int.sub_zero]
    exact Heap.get?_push_size _ rfl
  rintro k s' ⟨h', tk, m₁, news₁, i, rfl, hit, F₁, N₁, off, hJ, hi, rfl⟩
  by_cases hlt : i < n
  · refine W.item i _ _ _ hlt hit fun v h₂ tk₂ hP hit₂ hs₂ => ?_
    obtain ⟨t', rfl⟩ := hP
    refine letGo_range hit₂ ?_
    have hx : Heap.ExtBut s.heap.objs.size h' h₂ := fun b o hb e => hs₂ b o (by simpa using hb) e
    have F₂ : Fr h₀ L h₂ m₁ := fr_ext F₁ hx hLI hI₀
    have N₂ : News h₀ L h₂ ((s.heap.objs.size, rgO (a + ((i + 1 : Nat) : Int) * c) ((n : Int) - ((i + 1 : Nat) : Int)) c) :: news₁) := fun p hp => by
      rcases List.mem_cons.mp hp with rfl | hp
      · exact ⟨hit₂, Ne.symm hLI, hI₀⟩
      · exact news_extB N₁ hx off p hp
    refine wpAny_mono (step i _ m₁ news₁ h₂ tk₂ _ _ _ ⟨_, _, _, rfl⟩ hlt hJ F₂ N₂ off) (fun _ s₂ h₂' => wpAny_mono h₂' (fun f s₃ h₃ => ?_) fun _ _ e => e) fun _ _ e => e
    have fin : (∃ h' tk' m' news', s₃ = { s with heap := h', toks := tk' } ∧ Fr h₀ L h' m' ∧ News h₀ L h' ((s.heap.objs.size, rgO (a + ((i + 1 : Nat) : Int) * c) ((n : Int) - ((i + 1 : Nat) : Int)) c) :: news') ∧ (∀ p ∈ news', p.1 ≠ s.heap.objs.size) ∧ J (i + 1) m' news') →
        ∃ m_1, m_1 < n + 1 - i ∧ ∃ h' tk m₁ news₁ i, s₃ = { s with heap := h', toks := tk } ∧ IsRangeIter h' s.heap.objs.size (a + (i : Nat) * c) ((n : Int) - (i : Nat)) c ∧ Fr h₀ L h' m₁ ∧ News h₀ L h' news₁ ∧ (∀ p ∈ news₁, p.1 ≠ s.heap.objs.size) ∧ J i m₁ news₁ ∧ i ≤ n ∧ m_1 = n + 1 - i := by
      rintro ⟨h', tk', m', news', rfl, F', N', off', hJ'⟩
      exact ⟨n + 1 - (i + 1), by omega, h', tk', m', news', i + 1, rfl, (N' _ List.mem_cons_self).1, F', fun p hp => N' p (List.mem_cons_of_mem _ hp), off', hJ', hlt, rfl⟩
    cases f with
    | next => exact fin h₃
    | cont => exact fin h₃
    | brk => exact h₃
    | ret v => exact h₃
  · obtain rfl : i = n := by omega
    refine W.done _ _ _ hit fun h₂ tk₂ hs₂ => wpAny_execs_nil ?_
    have hx : Heap.ExtBut s.heap.objs.size h' h₂ := fun b o hb e => hs₂ b o (by simpa using hb) e
    exact done m₁ news₁ h₂ tk₂ hJ (fr_ext F₁ hx hLI hI₀) (news_extB N₁ hx off)
end
section
variable {prog : Program} {w : World} {A : Around} {E : Value → Shared → Prop} {s : Shared} {h₀ : Heap} {L a : Addr} {m : PySem.Str → Option Value} {news : List (Addr × Obj)} {cn : PySem.Str} {cs : PySem.Scope} {ccd : Value} {cl : List (PySem.Str × Addr)} {env : Env}
theorem for_range {R : Result → Shared → Prop} {target : PySem.Expr} {body : List Stmt} {r : Addr} {a b c : Int} {t u v : Tok} {n : Nat} (hh : A.handled = none)
    (hr : IsRange s.heap r a b c t u v) (hsm : Builtin.Range.small a b c = true) (hn : Builtin.Range.rangeSize a b c = (n : Int))
    (F : Fr h₀ L s.heap m) (N : News h₀ L s.heap news) (J : Nat → (PySem.Str → Option Value) → List (Addr × Obj) → Prop) (h0 : J 0 m news)
    (step : ∀ i t' m₁ news₁ h tk I oI E', i < n → J i m₁ news₁ → Fr h₀ L h m₁ → News h₀ L h ((I, oI) :: news₁) → (∀ p ∈ news₁, p.1 ≠ I) →
      wpAny (model prog w) A (assign target env (.int (a + (i : Int) * c) t')) (fun _ s₂ => wpAny (model prog w) A (execs body env) (LoopEnd h₀ L I oI (J (i + 1)) R s) E' s₂) E' { s with heap := h, toks := tk })
    (done : ∀ m₁ news₁ h tk, J n m₁ news₁ → Fr h₀ L h m₁ → News h₀ L h news₁ → R (.ok .next) { s with heap := h, toks := tk }) :
    wpAny (model prog w) A (pyIter (.ref r)) (fun it s₂ => codeAny (model prog w) A (.forLoop target it body [] env) R s₂) E s :=
  for_rangeC hh hr hsm hn F N J h0 (fun i t' m₁ news₁ h tk I oI E' _ => step i t' m₁ news₁ h tk I oI E') done
end
end Mine
end
section
open PySem PySem.W PyProof.Rows
namespace Mine
open PyProof.Rows.LCg (SrcAt NsObj Off3 Off1 lst)
section
variable {prog : Program} {w : World} {A : Around} {E : Value → Shared → Prop} {s : Shared} {h₀ : Heap} {L : Addr} {m : PySem.Str → Option Value} {news : List (Addr × Obj)} {env : Env} {R : Result → Shared → Prop}
abbrev testsOf (ifs : List PySem.Expr) (env : Env) : Sem Bool := forIn ifs true fun c r => if r = true then do let ok ← isTrue c env (eval c env); pure (ForInStep.yield ok) else pure (ForInStep.yield r)
theorem compLoop_gen {elt target iter : PySem.Expr} {ifs : List PySem.Expr} {scope : PySem.Scope} {pos : PySem.Pos} {it acc : Value} {env : Env} (I : Nat → Shared → Prop)
    (turn : ∀ n s, I n s → wpAny (model prog w) A (pyNext it) (fun r s₁ => match r with
      | none => R (.ok .next) s₁
      | some v => wpAny (model prog w) A (letOwnedTupleGo target it v) (fun _ s₁' => wpAny (model prog w) A (assign target env v) (fun _ s₂ =>
          wpAny (model prog w) A (testsOf ifs env) (fun ok s₃ =>
            if ok = true then wpAny (model prog w) A (eval elt env) (fun x s₄ =>
              wpAny (model prog w) A (call (.builtin "list.append") [acc, x]) (fun _ s₅ => ∃ m, m < n ∧ I m s₅) (notedBy (model prog w) A env fun e s' => R (.error e) s') s₄) (notedBy (model prog w) A env fun e s' => R (.error e) s') s₃
            else ∃ m, m < n ∧ I m s₃) (notedBy (model prog w) A env fun e s' => R (.error e) s') s₂) (notedBy (model prog w) A env fun e s' => R (.error e) s') s₁') (notedBy (model prog w) A env fun e s' => R (.error e) s') s₁) (notedBy (model prog w) A env fun e s' => R (.error e) s') s)
    (n : Nat) (h : I n s) :
    codeAny (model prog w) A (.compLoop (.ListComp elt [⟨target, iter, ifs, 0⟩] scope pos) 0 it acc env) R s := by
  refine codeAny_loop rfl I (fun n s hI => ?_) n h
  show wpAny _ A ((compTurn (.ListComp elt [⟨target, iter, ifs, 0⟩] scope pos) 0 it acc env).onRaise (fun x => do noteFrame x env; theTreesLotGoes x)) _ _ s
  refine wpAny_noted ?_
  rw [compTurn_list]
  refine wpAny_bind (wpAny_standAt (wpAny_bind (wpAny_mono (turn n s hI) (fun r s₁ h₁ => ?_) fun _ _ h' => h')))
  cases r with
  | none => exact wpAny_pure h₁
  | some v =>
    refine wpAny_bind (wpAny_mono h₁ (fun _ s₁' h₁' => ?_) fun _ _ h' => h')
    refine wpAny_bind (wpAny_mono h₁' (fun _ s₂ h₂ => wpAny_bind (wpAny_mono h₂ (fun ok s₃ h₃ => ?_) fun _ _ h' => h')) fun _ _ h' => h')
    cases ok with
    | false => exact wpAny_pure ⟨rfl, h₃⟩
    | true =>
      exact wpAny_bind (wpAny_bind (wpAny_mono h₃ (fun x s₄ h₄ => wpAny_bind (wpAny_mono h₄ (fun _ s₅ h₅ => wpAny_pure (wpAny_pure ⟨rfl, h₅⟩)) fun _ _ h' => h')) fun _ _ h' => h'))
/-- what a turn of a comprehension must leave -/
def CEnd (h₀ : Heap) (L : Addr) (m : PySem.Str → Option Value) (s : Shared) (I : Addr) (oI : Obj) (C D : Addr) (ys : List Value) (rest : List (Addr × Obj) → Prop) (s' : Shared) : Prop :=
  ∃ h' tk news' oC' m', s' = { s with heap := h', toks := tk } ∧ Fr h₀ L h' m ∧ News h₀ L h' ((I, oI) :: (C, oC') :: (D, lst ys) :: news') ∧ NsObj oC' m' ∧ Off3 I C D news' ∧ rest news'
theorem block_G {elt target iter : PySem.Expr} {ifs : List PySem.Expr} {scope : PySem.Scope} {cl : List (PySem.Str × Addr)} {pos : PySem.Pos} {s₂ : Shared} {I : Addr} {fp : List Addr} {n : Nat} {P : Nat → Value → Prop} {St : Nat → Heap → Prop} {S : List (Addr × Obj) → Prop} {news : List (Addr × Obj)}
    {J : Nat → List Value → List (Addr × Obj) → Prop} {RR : Value → Addr → Result → Shared → Prop}
    (W : Walks prog w A I fp [I] n P St) (hsz : n ≤ sizeLine) (hIo : ∀ i h, St i h → ∃ o, h.get? I = some o)
    (hgo : ∀ i (s : Shared) (v : Value) (Q : Unit → Shared → Prop) (E : Value → Shared → Prop), St i s.heap → Q () s → wpAny (model prog w) A (letOwnedTupleGo target (.ref I) v) Q E s)
    (hSt : ∀ i h h' o nw, St i h → h.get? I = some o → h'.get? I = some o → (∀ b o, h₀.get? b = some o → h'.get? b = some o) → News h₀ L h' nw → S nw → St i h')
    (hcell : ∀ y ∈ scope.names, y.2 ≠ .cell) (hkind : scope.kind = .function) (hst : St 0 s₂.heap) (hfp : ∀ b ∈ fp, b < s₂.heap.objs.size)
    (F : Fr h₀ L s₂.heap m) (N : News h₀ L s₂.heap news) (hIL : L ≠ I) (hI₀ : h₀.get? I = none) (off : ∀ p ∈ news, p.1 ≠ I) (h0 : J 0 [] news) (hJS : ∀ i ys nw, J i ys nw → S nw)
    (turn : ∀ i v ys news₁ oI C oC D m₁ h tk E', i < n → P i v → J i ys news₁ → NsObj oC m₁ → Fr h₀ L h m → News h₀ L h ((I, oI) :: (C, oC) :: (D, lst ys) :: news₁) → Off3 I C D news₁ → ((@Ne Nat I C) ∧ (@Ne Nat I D) ∧ (@Ne Nat C D)) → C ≠ L → h₀.get? C = none →
      wpAny (model prog w) A (assign target (compEnvC scope cl C env) v) (fun _ s' => wpAny (model prog w) A (testsOf ifs (compEnvC scope cl C env)) (fun ok s₃ =>
        if ok = true then wpAny (model prog w) A (eval elt (compEnvC scope cl C env)) (fun y s₄ => CEnd h₀ L m s₂ I oI C D ys (J (i + 1) (ys ++ [y])) s₄) E' s₃
        else CEnd h₀ L m s₂ I oI C D ys (J (i + 1) ys) s₃) E' s') E' { s₂ with heap := h, toks := tk })
    (hRR : ∀ D C h tk m' ys news', Fr h₀ L h m → News h₀ L h ((D, lst ys) :: news') → Off1 D news' → h.Ns C m' → h₀.get? C = none → h₀.get? D = none → C ≠ L → D ≠ L → C ≠ D → (∀ p ∈ news', p.1 ≠ C) → J n ys news' → RR (.ref D) C (.ok .next) { s₂ with heap := h, toks := tk }) :
    wpAny (model prog w) A (newList []) (fun acc s₃ => wpAny (model prog w) A (newFunctionEnv scope env.globals cl [] env.qual none .none (some env)) (fun cenv s₄ =>
      codeAny (model prog w) A (.compStart (.ListComp elt [⟨target, iter, ifs, 0⟩] scope pos) 0 (.ref I) acc { cenv with scope := relabel scope env }) (RR acc cenv.locals) s₄) E s₃) E s₂ := by
  refine wpAny_newObj_type (wpAny_newFunctionEnv hcell (by intro y hy; simp at hy) (fun h₁ hns₁ hsb₁ => ?_) hkind)
  dsimp only at hns₁ hsb₁ ⊢
  generalize hH2 : s₂.heap.push { cls := .type "list", dict := none, data := .seq ([] : List Value).toArray } = H2 at hns₁ hsb₁ ⊢
  have hC : H2.objs.size = s₂.heap.objs.size + 1 := by rw [← hH2, Heap.size_push]
  have hDC : s₂.heap.objs.size ≠ H2.objs.size := by rw [hC]; exact Nat.ne_of_lt (Nat.lt_succ_self _)
  have below : ∀ b, b < s₂.heap.objs.size → b ≠ H2.objs.size ∧ b ≠ s₂.heap.objs.size := fun b hb => ⟨by rw [hC]; exact Nat.ne_of_lt (Nat.lt_succ_of_lt hb), Nat.ne_of_lt hb⟩
  have hDf : s₂.heap.objs.size ∉ fp := fun hm => Nat.lt_irrefl _ (hfp _ hm)
  have hCf : H2.objs.size ∉ fp := fun hm => by have := hfp _ hm; rw [hC] at this; exact Nat.lt_irrefl _ (Nat.lt_of_succ_lt this)
  have hIf : I ∈ fp := W.sub I (List.mem_singleton.mpr rfl)
  have hIlt : I < s₂.heap.objs.size := hfp I hIf
  have old : ∀ b o, s₂.heap.get? b = some o → h₁.get? b = some o := fun b o e => hsb₁.extBut b o (below b (Heap.lt_size e)).1 (Heap.get?_push_of_some _ (hH2 ▸ Heap.get?_push_of_some _ e))
  have hacc : h₁.get? s₂.heap.objs.size = some (lst []) := hsb₁.extBut _ _ hDC (Heap.get?_push_of_some _ (hH2 ▸ Heap.get?_push_size _ rfl))
  have hst₁ : St 0 h₁ := W.frame _ _ _ hst fun b _ o e => old b o e
  have fresh : ∀ a, s₂.heap.objs.size ≤ a → s₂.heap.get? a = none := fun a ha => by
    cases e : s₂.heap.get? a with
    | none => rfl
    | some o' => exact absurd (Heap.lt_size e) (Nat.not_lt.mpr ha)
  have fresh₀ : ∀ a, s₂.heap.objs.size ≤ a → h₀.get? a = none := fun a ha => by
    cases e : h₀.get? a with
    | none => rfl
    | some o' => have := F.keep a o' e; rw [fresh a ha] at this; cases this
  have hD₀ : h₀.get? s₂.heap.objs.size = none := fresh₀ _ (Nat.le_refl _)
  have hC₀ : h₀.get? H2.objs.size = none := fresh₀ _ (by rw [hC]; exact Nat.le_succ _)
  have hLlt : L < s₂.heap.objs.size := F.ns.lt
  have hDL : s₂.heap.objs.size ≠ L := Ne.symm (below L hLlt).2
  have hCL : H2.objs.size ≠ L := Ne.symm (below L hLlt).1
  have hCI : I ≠ H2.objs.size := (below I hIlt).1
  have hDI : I ≠ s₂.heap.objs.size := (below I hIlt).2
  have off₀ : Off3 I H2.objs.size s₂.heap.objs.size news := Off3.of fun p hp => ⟨off p hp, (below _ (Heap.lt_size (N p hp).1)).1, (below _ (Heap.lt_size (N p hp).1)).2⟩
  have loop : ∀ s₃ : Shared, s₃ = { s₂ with heap := h₁, toks := s₂.toks + ([] : List (PySem.Str × Value)).length } →
      codeAny (model prog w) A (.compLoop (.ListComp elt [⟨target, iter, ifs, 0⟩] scope pos) 0 (.ref I) (.ref s₂.heap.objs.size) (compEnvC scope cl H2.objs.size env))
        (RR (.ref s₂.heap.objs.size) H2.objs.size) s₃ := by
    rintro s₃ rfl
    refine compLoop_gen
      (fun k s' => ∃ h' tk i ys m' news', s' = { s₂ with heap := h', toks := tk } ∧ i ≤ n ∧ k = n + 1 - i ∧ ys.length ≤ i ∧ St i h' ∧ Fr h₀ L h' m ∧ h'.Ns H2.objs.size m' ∧ News h₀ L h' ((s₂.heap.objs.size, lst ys) :: news') ∧
        Off3 I H2.objs.size s₂.heap.objs.size news' ∧ J i ys news') ?_ (n + 1)
      ⟨h₁, _, 0, [], _, news, rfl, Nat.zero_le _, rfl, Nat.le_refl _, hst₁, F.keeps old, hns₁, fun p hp => ?_, off₀, h0⟩
    · rintro k s' ⟨h', tk, i, ys, m', news', rfl, hi, rfl, hyl, hst', F', hn', N', off', hJ⟩
      by_cases hlt : i < n
      · refine W.item i _ _ _ hlt hst' fun v h₂ tk₂ hPv hst₂ hk₂ => ?_
        refine hgo _ _ _ _ _ hst₂ ?_
        obtain ⟨oI, heI⟩ := hIo _ _ hst₂
        have hn₂ : h₂.Ns H2.objs.size m' := hn'.at' fun o e => hk₂ _ o (by simpa using Ne.symm hCI) e
        obtain ⟨oC, heC, hoC⟩ := PyProof.Rows.LCg.ns_obj hn₂
        have F₂ : Fr h₀ L h₂ m := PyProof.Rows.LCg.fr_but F' hk₂ hIL hI₀
        have off3 := off'.mem
        have N₂ : News h₀ L h₂ ((s₂.heap.objs.size, lst ys) :: news') := PyProof.Rows.LCg.news_but N' hk₂ fun p hp => by
          rcases List.mem_cons.mp hp with rfl | hp
          · exact Ne.symm hDI
          · exact (off3 p hp).1
        have N₃ : News h₀ L h₂ ((I, oI) :: (H2.objs.size, oC) :: (s₂.heap.objs.size, lst ys) :: news') := fun p hp => by
          rcases List.mem_cons.mp hp with rfl | hp
          · exact ⟨heI, Ne.symm hIL, hI₀⟩
          · rcases List.mem_cons.mp hp with rfl | hp
            · exact ⟨heC, hCL, hC₀⟩
            · exact N₂ p hp
        have stEnd : ∀ {ys' : List Value} {h₄ : Heap} {news₄ : List (Addr × Obj)} {oC' : Obj}, Fr h₀ L h₄ m → News h₀ L h₄ ((I, oI) :: (H2.objs.size, oC') :: (s₂.heap.objs.size, lst ys) :: news₄) → J (i + 1) ys' news₄ → St (i + 1) h₄ := fun {ys' h₄ news₄ oC'} F₄ N₄ hJ₄ =>
          hSt _ _ _ _ _ hst₂ heI (N₄ (I, oI) List.mem_cons_self).1 F₄.keep (fun p hp => N₄ p (List.mem_cons_of_mem _ (List.mem_cons_of_mem _ (List.mem_cons_of_mem _ hp)))) (hJS _ _ _ hJ₄)
        refine wpAny_mono (turn i v ys news' oI H2.objs.size oC s₂.heap.objs.size m' h₂ tk₂ _ hlt hPv hJ hoC F₂ N₃ off' ⟨hCI, hDI, Ne.symm hDC⟩ hCL hC₀) (fun _ s' h' => wpAny_mono h' (fun ok s₃ h₃ => ?_) fun _ _ e => e) fun _ _ e => e
        cases ok with
        | false =>
          obtain ⟨h₄, tk₄, news₄, oC', m₄, rfl, F₄, N₄, hC', off₄, hJ₄⟩ := h₃
          have zC := (N₄ (H2.objs.size, oC') (List.mem_cons_of_mem _ List.mem_cons_self)).1
          exact ⟨n + 1 - (i + 1), by omega, h₄, tk₄, i + 1, ys, m₄, news₄, rfl, hlt, rfl, Nat.le_succ_of_le hyl, stEnd F₄ N₄ hJ₄, F₄, hC'.ns zC, (fun p hp => N₄ p (List.mem_cons_of_mem _ (List.mem_cons_of_mem _ hp))), off₄, hJ₄⟩
        | true =>
          refine wpAny_mono h₃ (fun y s₄ h₄ => ?_) fun _ _ e => e
          obtain ⟨h₄, tk₄, news₄, oC', m₄, rfl, F₄, N₄, hC', off₄, hJ₄⟩ := h₄
          have zC := (N₄ (H2.objs.size, oC') (List.mem_cons_of_mem _ List.mem_cons_self)).1
          have zD := (N₄ (s₂.heap.objs.size, lst ys) (List.mem_cons_of_mem _ (List.mem_cons_of_mem _ List.mem_cons_self))).1
          have N₄' : News h₀ L h₄ news₄ := fun p hp => N₄ p (List.mem_cons_of_mem _ (List.mem_cons_of_mem _ (List.mem_cons_of_mem _ hp)))
          have hst₄ := stEnd F₄ N₄ hJ₄
          refine append_at (hsz := by show ys.toArray.size ≤ sizeLine; rw [List.size_toArray]; exact Nat.le_trans hyl (Nat.le_trans hi hsz)) zD fun h₅ hs₅ hD₅ => ?_
          have off4 := off₄.mem
          refine ⟨n + 1 - (i + 1), by omega, h₅, tk₄, i + 1, ys ++ [y], m₄, news₄, rfl, hlt, rfl, by rw [List.length_append, List.length_singleton]; omega, W.frame _ _ _ hst₄ fun b hb o e => hs₅.extBut b o (fun q => hDf (q ▸ hb)) e, F₄.change hs₅ hDL hD₀,
            (hC'.ns zC).sameBut hs₅ (Ne.symm hDC), fun p hp => ?_, off₄, hJ₄⟩
          rcases List.mem_cons.mp hp with rfl | hp
          · exact ⟨hD₅.trans (congrArg some (PyProof.Rows.LCg.lst_snoc ys y)), hDL, hD₀⟩
          · exact ⟨hs₅.extBut _ _ (off4 p hp).2.2 (N₄' p hp).1, (N₄' p hp).2⟩
      · obtain rfl : i = n := Nat.le_antisymm hi (Nat.not_lt.mp hlt)
        refine W.done _ _ _ hst' fun h₂ tk₂ hk₂ => ?_
        have off3 := off'.mem
        exact hRR _ _ h₂ tk₂ _ ys news' (PyProof.Rows.LCg.fr_but F' hk₂ hIL hI₀) (PyProof.Rows.LCg.news_but N' hk₂ fun p hp => by
          rcases List.mem_cons.mp hp with rfl | hp
          · exact Ne.symm hDI
          · exact (off3 p hp).1) off'.one (hn'.at' fun o e => hk₂ _ o (by simpa using Ne.symm hCI) e) hC₀ hD₀ hCL hDL (Ne.symm hDC) (fun p hp => (off3 p hp).2.1) hJ
    · rcases List.mem_cons.mp hp with rfl | hp
      · exact ⟨hacc, hDL, hD₀⟩
      · exact ⟨old _ _ (N p hp).1, (N p hp).2⟩
  refine codeAny_compStart_list (loop _ rfl) (W.self 0 _ _ _ hst₁ (loop _ rfl))
open PyProof.Rows.LCg (FinE FinA)
/-- the comprehension's block over what `iter` gave -/
def Tail (prog : Program) (w : World) (A : Around) (h₀ : Heap) (L : Addr) (m : PySem.Str → Option Value) (env : Env) (elt target iter : PySem.Expr) (ifs : List PySem.Expr) (scope : PySem.Scope) (cl : List (PySem.Str × Addr)) (pos : PySem.Pos) (Fin : Shared → List Value → List (Addr × Obj) → Prop) (xv : Value) (s₁ : Shared) : Prop :=
  ∀ (RR : Value → Addr → Result → Shared → Prop) (E : Value → Shared → Prop), (∀ D C h tk m' ys news', Fr h₀ L h m → News h₀ L h ((D, lst ys) :: news') → Off1 D news' → h.Ns C m' → h₀.get? C = none → h₀.get? D = none → C ≠ L → D ≠ L → C ≠ D → (∀ p ∈ news', p.1 ≠ C) → Fin s₁ ys news' → RR (.ref D) C (.ok .next) { s₁ with heap := h, toks := tk }) →
    wpAny (model prog w) A (pyIter xv) (fun it s₂ => wpAny (model prog w) A (newList []) (fun acc s₃ => wpAny (model prog w) A (newFunctionEnv scope env.globals cl [] env.qual none .none (some env)) (fun cenv s₄ =>
      codeAny (model prog w) A (.compStart (.ListComp elt [⟨target, iter, ifs, 0⟩] scope pos) 0 it acc { cenv with scope := relabel scope env }) (RR acc cenv.locals) s₄) E s₃) E s₂) E s₁
theorem eval_tail {elt target iter : PySem.Expr} {ifs : List PySem.Expr} {scope : PySem.Scope} {cl : List (PySem.Str × Addr)} {pos : PySem.Pos} {Q : Value → Shared → Prop} (F₀ : Fr h₀ L s.heap m)
    (hclos : closureFor scope env = pure cl) (hkind : scope.kind = .function) (hnames : ∀ y ∈ scope.names, y.2 = .local → scope.names.lookup y.1 = some .local)
    (h : wpAny (model prog w) A (eval iter env) (Tail prog w A h₀ L m env elt target iter ifs scope cl pos (fun s₁ => FinE h₀ L m s₁ Q)) E s)
    (hs : ∀ x, foldedSetIterable iter env x = pure x := by intro _; rfl) :
    wpAny (model prog w) A (eval (.ListComp elt [⟨target, iter, ifs, 0⟩] scope pos) env) Q E s := by
  rw [eval_ListComp]
  refine wpAny_comprehension_free (use := none) rfl hs hclos hkind hnames (wpAny_mono h (fun xv s₁ h₁ => ?_) fun _ _ e => e)
  refine h₁ _ E fun D C h tk m' ys news' F' N' o1 hn hC₀ hD₀ hCL hDL hCD offC fin => ?_
  refine ⟨m', hn, fun h'' hs'' => fin D h'' tk (F'.change hs'' hCL hC₀) (fun p hp => ?_) o1⟩
  refine ⟨hs''.extBut _ _ ?_ (N' p hp).1, (N' p hp).2⟩
  rcases List.mem_cons.mp hp with rfl | hp
  · exact Ne.symm hCD
  · exact offC p hp
theorem assign_tail {elt target iter : PySem.Expr} {ifs : List PySem.Expr} {scope : PySem.Scope} {cl : List (PySem.Str × Addr)} {pos spos py : PySem.Pos} {y : PySem.Str} {Q : Flow → Shared → Prop} (F₀ : Fr h₀ L s.heap m) (hLe : env.locals = L)
    (hsw : swapsWith (.ListComp elt [⟨target, iter, ifs, 0⟩] scope pos) (some (.Name y py)) spos.line env = pure true)
    (hclos : closureFor scope env = pure cl) (hkind : scope.kind = .function) (hnames : ∀ y ∈ scope.names, y.2 = .local → scope.names.lookup y.1 = some .local)
    (hy : env.kindOf y = some .local) (hp : (env.scope.kind == .class || (env.scope.kind == .module && env.locals != env.globals)) = false)
    (h : wpAny (model prog w) A (eval iter env) (Tail prog w A h₀ L m env elt target iter ifs scope cl pos (fun s₁ => FinA h₀ L m s₁ y Q)) E s)
    (hs : ∀ x, foldedSetIterable iter env x = pure x := by intro _; rfl) :
    wpAny (model prog w) A (exec (.Assign [.Name y py] (.ListComp elt [⟨target, iter, ifs, 0⟩] scope pos) spos) env) Q E s := by
  subst hLe
  rw [exec_Assign_Name_used _ _ _ _ hsw]
  refine wpAny_bind (wpAny_standAt (wpAny_bind ?_))
  show wpAny _ A (do let _ ← comprehension (.ListComp elt [⟨target, iter, ifs, 0⟩] scope pos) scope env _ (newList []) false (eval iter env) (some (assign (.Name y py) env))) _ _ s
  refine wpAny_bind (wpAny_mono (wpAny_comprehension_free (use := some (assign (.Name y py) env)) (Q := fun _ s' => Q .next s') rfl hs hclos hkind hnames
    (wpAny_mono h (fun xv s₁ h₁ => ?_) fun _ _ e => e)) (fun _ s' hq => wpAny_pure (wpAny_pure hq)) fun _ _ e => e)
  refine h₁ _ E fun D C h' tk m' ys news' F' N' o1 hn hC₀ hD₀ hCL hDL hCD offC fin => ?_
  show wpAny _ A (assign (.Name y py) env (.ref D)) _ _ _
  refine wpAny_assign_Name (wpAny_storeName_local hy F'.ns (fun h₂ hn₂ hs₂ => ?_) hp)
  have hL₀ : h₀.get? env.locals = none := Heap.get?_none_of_le F'.above
  have F₂ : Fr h₀ env.locals h₂ (fun z => if z = y then some (.ref D) else m z) := ⟨hn₂, fun b o e => hs₂.extBut b o (fun q => by rw [q, hL₀] at e; cases e) (F'.keep b o e), F'.above⟩
  refine ⟨m', hn.sameBut hs₂ hCL, fun h'' hs'' => fin D h'' _ (F₂.change hs'' hCL hC₀) (fun p hp => ?_) o1⟩
  have z : h₂.get? p.1 = some p.2 := hs₂.extBut _ _ (N' p hp).2.1 (N' p hp).1
  refine ⟨hs''.extBut _ _ ?_ z, (N' p hp).2⟩
  rcases List.mem_cons.mp hp with rfl | hp
  · exact Ne.symm hCD
  · exact offC p hp
/-- a turn of a comprehension's block -/
abbrev Turn (prog : Program) (w : World) (A : Around) (h₀ : Heap) (L : Addr) (m : PySem.Str → Option Value) (env : Env) (elt target : PySem.Expr) (ifs : List PySem.Expr) (scope : PySem.Scope) (cl : List (PySem.Str × Addr)) (s₂ : Shared) (n : Nat) (P : Nat → Value → Prop) (J : Nat → List Value → List (Addr × Obj) → Prop) : Prop :=
  ∀ i v ys news₁ I oI C oC D m₁ h tk E', i < n → P i v → J i ys news₁ → NsObj oC m₁ → Fr h₀ L h m → News h₀ L h ((I, oI) :: (C, oC) :: (D, lst ys) :: news₁) → Off3 I C D news₁ → ((@Ne Nat I C) ∧ (@Ne Nat I D) ∧ (@Ne Nat C D)) → C ≠ L → h₀.get? C = none →
      wpAny (model prog w) A (assign target (compEnvC scope cl C env) v) (fun _ s' => wpAny (model prog w) A (testsOf ifs (compEnvC scope cl C env)) (fun ok s₃ =>
        if ok = true then wpAny (model prog w) A (eval elt (compEnvC scope cl C env)) (fun y s₄ => CEnd h₀ L m s₂ I oI C D ys (J (i + 1) (ys ++ [y])) s₄) E' s₃
        else CEnd h₀ L m s₂ I oI C D ys (J (i + 1) ys) s₃) E' s') E' { s₂ with heap := h, toks := tk }
theorem tail_list {elt target iter : PySem.Expr} {ifs : List PySem.Expr} {scope : PySem.Scope} {cl : List (PySem.Str × Addr)} {pos : PySem.Pos} {Fin : Shared → List Value → List (Addr × Obj) → Prop} {ax : Addr} {its : Array Value}
    (hh : A.handled = none) (F : Fr h₀ L s.heap m) (N : News h₀ L s.heap news) (hsz : its.size ≤ sizeLine) (hcell : ∀ y ∈ scope.names, y.2 ≠ .cell) (hkind : scope.kind = .function)
    (J : Nat → List Value → List (Addr × Obj) → Prop) (h0 : J 0 [] news) (hJS : ∀ i ys nw, J i ys nw → SrcAt h₀ ax its nw)
    (turn : Turn prog w A h₀ L m env elt target ifs scope cl s its.size (fun i v => its[i]? = some v) J)
    (fin : ∀ ys nw, J its.size ys nw → Fin s ys nw) : Tail prog w A h₀ L m env elt target iter ifs scope cl pos Fin (.ref ax) s := by
  intro RR E hRR
  have hl := (hJS _ _ _ h0).list F.keep N
  have hlt : ax < s.heap.objs.size := by obtain ⟨_, e, _⟩ := hl; exact Heap.lt_size e
  refine wpAny_pyIter_list hl ?_
  have up : ∀ b o, s.heap.get? b = some o → (s.heap.push { cls := .type "list_iterator", data := .fields #[.ref ax, .int 0 0] }).get? b = some o := fun b o e => Heap.get?_push_of_some _ e
  refine block_G (S := SrcAt h₀ ax its) (J := J) (Walks.list hh s.heap.objs.size ax (Nat.ne_of_lt hlt) its) hsz (fun i h st => by obtain ⟨o, e, _⟩ := st.1; exact ⟨o, e⟩) (fun i s v Q E st hq => letGo_list st.1 hq) PyProof.Rows.LCg.list_st hcell hkind ⟨⟨_, Heap.get?_push_size _ rfl, rfl, rfl⟩, hl.push _⟩ (fun b hb => ?_)
      (F.keeps up) (N.grown up) (Nat.ne_of_lt F.ns.lt) (next_is_new F) (fun p hp => Nat.ne_of_lt (Heap.lt_size (N p hp).1)) h0 hJS (fun i v ys news₁ oI C oC D m₁ h tk E' hi hP hJ => turn i v ys news₁ _ oI C oC D m₁ h tk E' hi hP hJ) ?_
  · show b < (s.heap.push _).objs.size
    rw [Heap.size_push]
    rcases List.mem_cons.mp hb with rfl | hb
    · exact Nat.lt_succ_self _
    · rw [List.mem_singleton.mp hb]; exact Nat.lt_succ_of_lt hlt
  · intro D C h tk m' ys news' F' N' o1 hn hC₀ hD₀ hCL hDL hCD offC hJ
    exact hRR D C h tk m' ys news' F' N' o1 hn hC₀ hD₀ hCL hDL hCD offC (fin ys news' hJ)
theorem tail_range {elt target iter : PySem.Expr} {ifs : List PySem.Expr} {scope : PySem.Scope} {cl : List (PySem.Str × Addr)} {pos : PySem.Pos} {Fin : Shared → List Value → List (Addr × Obj) → Prop} {r : Addr} {a b : Int} {t u v : Tok} {n : Nat}
    (hh : A.handled = none) (F : Fr h₀ L s.heap m) (N : News h₀ L s.heap news) (hr : IsRange s.heap r a b 1 t u v) (hsm : Builtin.Range.small a b 1 = true) (hn : Builtin.Range.rangeSize a b 1 = ((n : Nat) : Int)) (hsz : n ≤ sizeLine) (hcell : ∀ y ∈ scope.names, y.2 ≠ .cell) (hkind : scope.kind = .function)
    (J : Nat → List Value → List (Addr × Obj) → Prop) (h0 : J 0 [] news)
    (turn : Turn prog w A h₀ L m env elt target ifs scope cl s n (fun i v => ∃ t, v = .int (a + (i : Int)) t) J)
    (fin : ∀ ys nw, J n ys nw → Fin s ys nw) : Tail prog w A h₀ L m env elt target iter ifs scope cl pos Fin (.ref r) s := by
  intro RR E hRR
  refine wpAny_pyIter_range hr hsm ?_
  refine block_G (S := fun _ => True) (J := J) (PyProof.Rows.LCg.range_walks hh a n) hsz (fun i h st => ⟨_, st⟩) (fun i s v Q E st hq => letGo_range st hq) PyProof.Rows.LCg.range_st hcell hkind (by show IsRangeIter _ _ _ _ _; rw [hn]; simpa using Heap.get?_push_size _ rfl) (fun b hb => ?_)
      (F.keeps fun _ _ e => Heap.get?_push_of_some _ e) (N.grown fun _ _ e => Heap.get?_push_of_some _ e) (Nat.ne_of_lt F.ns.lt) (next_is_new F) (fun p hp => Nat.ne_of_lt (Heap.lt_size (N p hp).1)) h0 (fun _ _ _ _ => trivial) (fun i v ys news₁ oI C oC D m₁ h tk E' hi hP hJ => turn i v ys news₁ _ oI C oC D m₁ h tk E' hi hP hJ) ?_
  · rw [List.mem_singleton.mp hb]
    show s.heap.objs.size < (s.heap.push _).objs.size
    rw [Heap.size_push]; exact Nat.lt_succ_self _
  · intro D C h tk m' ys news' F' N' o1 hn hC₀ hD₀ hCL hDL hCD offC hJ
    exact hRR D C h tk m' ys news' F' N' o1 hn hC₀ hD₀ hCL hDL hCD offC (fin ys news' hJ)
end
end Mine
end
section
open PySem PySem.W PyProof.Rows
namespace Mine
open PyProof.Rows.LCg (SrcAt NsObj Off3 Off1 lst)
section
variable {prog : Program} {w : World} {A : Around} {E : Value → Shared → Prop} {s : Shared} {h₀ : Heap} {L a : Addr} {m : PySem.Str → Option Value} {news : List (Addr × Obj)} {cn : PySem.Str} {cs : PySem.Scope} {ccd : Value} {cl : List (PySem.Str × Addr)} {env : Env}
theorem news_new {h h' : Heap} (F : Fr h₀ L h m) (N : News h₀ L h news) (k : Heap.ExtBut h.objs.size h h') : Fr h₀ L h' m ∧ News h₀ L h' news :=
  ⟨F.extBut k (Nat.le_refl _), news_extB N k fun p hp => Nat.ne_of_lt (Heap.lt_size (N p hp).1)⟩
theorem pair_assign {x y : PySem.Str} {px py pos : PySem.Pos} {k : Nat} {t : Addr} {u v : Value} {Q : Unit → Shared → Prop} (hh : A.handled = none) (F : Fr h₀ L s.heap m) (N : News h₀ L s.heap news) (ht : IsTup s.heap t #[u, v])
    (hk : cs.kind = .function) (hx : cs.names.lookup x = some .local) (hy : cs.names.lookup y = some .local)
    (h : ∀ h' tk', Fr h₀ L h' (fun z => if z = y then some v else if z = x then some u else m z) → News h₀ L h' news → Q () { s with heap := h', toks := tk' }) :
    wpAny (model prog w) A (assign (.Tuple [.Name x px, .Name y py] k pos) (envX cn cs L a ccd cl) (.ref t)) Q E s := by
  refine assign_Tuple_tuple hh ht rfl rfl fun h₁ hx₁ => ?_
  obtain ⟨F₁, N₁⟩ := news_new F N hx₁
  show wpAny _ A (do holding [v] (assign (.Name x px) (envX cn cs L a ccd cl) u); holding [] (assign (.Name y py) (envX cn cs L a ccd cl) v); pure ()) Q E _
  refine wpAny_bind (wpAny_holding (assign_Name ?_))
  refine storeX_L F₁ N₁ ?_ hk hx
  intro h₂ F₂ N₂
  refine wpAny_bind (wpAny_holding (assign_Name ?_))
  refine storeX_L F₂ N₂ ?_ hk hy
  intro h₃ F₃ N₃
  exact wpAny_pure (h _ _ F₃ N₃)
/-- in a comprehension's block -/
theorem comp_assign {x : PySem.Str} {px : PySem.Pos} {scope : PySem.Scope} {I C D : Addr} {oI oC : Obj} {ys : List Value} {m₁ : PySem.Str → Option Value} {v : Value} {Q : Unit → Shared → Prop}
    (F : Fr h₀ L s.heap m) (N : News h₀ L s.heap ((I, oI) :: (C, oC) :: (D, lst ys) :: news)) (hC : NsObj oC m₁) (off : Off3 I C D news) (ne : (@Ne Nat I C) ∧ (@Ne Nat I D) ∧ (@Ne Nat C D)) (hCL : C ≠ L) (hC₀ : h₀.get? C = none)
    (hkind : scope.kind = .function) (hx : scope.names.lookup x = some .local)
    (h : ∀ h' tk' oC', Fr h₀ L h' m → News h₀ L h' ((I, oI) :: (C, oC') :: (D, lst ys) :: news) → NsObj oC' (fun z => if z = x then some v else m₁ z) → Q () { s with heap := h', toks := tk' }) :
    wpAny (model prog w) A (assign (.Name x px) (compEnvC scope cl C env) v) Q E s := by
  have hns : s.heap.Ns C m₁ := hC.ns (N (C, oC) (List.mem_cons_of_mem _ List.mem_cons_self)).1
  refine wpAny_assign_Name (wpAny_storeName_local (lookup_relabel_local hx) hns (fun h₃ hn₃ hs₃ => ?_) (by simp [compEnvC, relabel, hkind]))
  obtain ⟨oC', heC, hoC⟩ := PyProof.Rows.LCg.ns_obj hn₃
  have off3 := off.mem
  refine h h₃ _ oC' (F.change hs₃ hCL hC₀) (fun p hp => ?_) hoC
  rcases List.mem_cons.mp hp with rfl | hp
  · exact ⟨hs₃.extBut _ _ ne.1 (N _ List.mem_cons_self).1, (N _ List.mem_cons_self).2⟩
  · rcases List.mem_cons.mp hp with rfl | hp
    · exact ⟨heC, hCL, hC₀⟩
    · have z := N p (List.mem_cons_of_mem _ (List.mem_cons_of_mem _ hp))
      refine ⟨hs₃.extBut _ _ ?_ z.1, z.2⟩
      rcases List.mem_cons.mp hp with rfl | hp
      · exact Ne.symm ne.2.2
      · exact (off3 p hp).2.1
theorem comp_pair_assign {x y : PySem.Str} {px py pos : PySem.Pos} {k : Nat} {t : Addr} {u v : Value} {scope : PySem.Scope} {I C D : Addr} {oI oC : Obj} {ys : List Value} {m₁ : PySem.Str → Option Value} {Q : Unit → Shared → Prop} (hh : A.handled = none)
    (F : Fr h₀ L s.heap m) (N : News h₀ L s.heap ((I, oI) :: (C, oC) :: (D, lst ys) :: news)) (hC : NsObj oC m₁) (off : Off3 I C D news) (ne : (@Ne Nat I C) ∧ (@Ne Nat I D) ∧ (@Ne Nat C D)) (hCL : C ≠ L) (hC₀ : h₀.get? C = none) (ht : IsTup s.heap t #[u, v])
    (hkind : scope.kind = .function) (hx : scope.names.lookup x = some .local) (hy : scope.names.lookup y = some .local)
    (h : ∀ h' tk' oC', Fr h₀ L h' m → News h₀ L h' ((I, oI) :: (C, oC') :: (D, lst ys) :: news) → NsObj oC' (fun z => if z = y then some v else if z = x then some u else m₁ z) → Q () { s with heap := h', toks := tk' }) :
    wpAny (model prog w) A (assign (.Tuple [.Name x px, .Name y py] k pos) (compEnvC scope cl C env) (.ref t)) Q E s := by
  refine assign_Tuple_tuple hh ht rfl rfl fun h₁ hx₁ => ?_
  obtain ⟨F₁, N₁⟩ := news_new F N hx₁
  show wpAny _ A (do holding [v] (assign (.Name x px) (compEnvC scope cl C env) u); holding [] (assign (.Name y py) (compEnvC scope cl C env) v); pure ()) Q E _
  refine wpAny_bind (wpAny_holding ?_)
  refine comp_assign F₁ N₁ hC off ne hCL hC₀ hkind hx ?_
  intro h₂ tk₂ oC₂ F₂ N₂ hC₂
  refine wpAny_bind (wpAny_holding ?_)
  refine comp_assign F₂ N₂ hC₂ off ne hCL hC₀ hkind hy ?_
  intro h₃ tk₃ oC₃ F₃ N₃ hC₃
  exact wpAny_pure (h _ _ _ F₃ N₃ hC₃)
/-- a frame that may have turned at the names `xs` -/
def frU (xs : List PySem.Str) (u m : PySem.Str → Option Value) : PySem.Str → Option Value := fun z => if xs.contains z then u z else m z
theorem frU_wrap {xs : List PySem.Str} {u m m₁ : PySem.Str → Option Value} {x : PySem.Str} {v : Option Value} (h : m₁ = frU xs u m) (hx : xs.contains x = true) :
    (fun z => if z = x then v else m₁ z) = frU xs (fun z => if z = x then v else u z) m := by
  subst h
  funext z
  unfold frU
  by_cases e : z = x
  · subst e; simp only [if_pos, hx, if_true]
  · simp only [if_neg e]
theorem frU_self {xs : List PySem.Str} {m : PySem.Str → Option Value} : m = frU xs m m := by
  funext z; unfold frU; split <;> rfl
theorem for_listU {R : Result → Shared → Prop} {target : PySem.Expr} {body : List Stmt} {l : Addr} {items : Array Value} (xs : List PySem.Str) (hh : A.handled = none)
    (F : Fr h₀ L s.heap m) (N : News h₀ L s.heap news) (J : Nat → (PySem.Str → Option Value) → List (Addr × Obj) → Prop) (h0 : J 0 m news)
    (hsrc : ∀ i u news₁, J i u news₁ → SrcAt h₀ l items news₁)
    (step : ∀ i v u news₁ h tk I oI E', items[i]? = some v → J i u news₁ → Fr h₀ L h (frU xs u m) → News h₀ L h ((I, oI) :: news₁) → (∀ p ∈ news₁, p.1 ≠ I) →
      wpAny (model prog w) A (assign target env v) (fun _ s₂ => wpAny (model prog w) A (execs body env) (LoopEnd h₀ L I oI (fun m' nw => ∃ u', m' = frU xs u' m ∧ J (i + 1) u' nw) R s) E' s₂) E' { s with heap := h, toks := tk })
    (done : ∀ u news₁ h tk, J items.size u news₁ → Fr h₀ L h (frU xs u m) → News h₀ L h news₁ → R (.ok .next) { s with heap := h, toks := tk }) :
    wpAny (model prog w) A (pyIter (.ref l)) (fun it s₂ => codeAny (model prog w) A (.forLoop target it body [] env) R s₂) E s :=
  for_list hh F N (fun i m' nw => ∃ u', m' = frU xs u' m ∧ J i u' nw) ⟨m, frU_self, h0⟩ (fun i m₁ nw ⟨u, _, hJ⟩ => hsrc i u nw hJ)
    (by rintro i v m₁ news₁ h tk I oI E' hv ⟨u, rfl, hJ⟩ F₁ N₁ off; exact step i v u news₁ h tk I oI E' hv hJ F₁ N₁ off)
    (by rintro m₁ news₁ h tk ⟨u, rfl, hJ⟩ F₁ N₁; exact done u news₁ h tk hJ F₁ N₁)
theorem for_rangeU {R : Result → Shared → Prop} {target : PySem.Expr} {body : List Stmt} {r : Addr} {a b c : Int} {t u v : Tok} {n : Nat} (xs : List PySem.Str) (hh : A.handled = none)
    (hr : IsRange s.heap r a b c t u v) (hsm : Builtin.Range.small a b c = true) (hn : Builtin.Range.rangeSize a b c = (n : Int))
    (F : Fr h₀ L s.heap m) (N : News h₀ L s.heap news) (J : Nat → (PySem.Str → Option Value) → List (Addr × Obj) → Prop) (h0 : J 0 m news)
    (step : ∀ i t' u news₁ h tk I oI E', i < n → J i u news₁ → Fr h₀ L h (frU xs u m) → News h₀ L h ((I, oI) :: news₁) → (∀ p ∈ news₁, p.1 ≠ I) →
      wpAny (model prog w) A (assign target env (.int (a + (i : Int) * c) t')) (fun _ s₂ => wpAny (model prog w) A (execs body env) (LoopEnd h₀ L I oI (fun m' nw => ∃ u', m' = frU xs u' m ∧ J (i + 1) u' nw) R s) E' s₂) E' { s with heap := h, toks := tk })
    (done : ∀ u news₁ h tk, J n u news₁ → Fr h₀ L h (frU xs u m) → News h₀ L h news₁ → R (.ok .next) { s with heap := h, toks := tk }) :
    wpAny (model prog w) A (pyIter (.ref r)) (fun it s₂ => codeAny (model prog w) A (.forLoop target it body [] env) R s₂) E s :=
  for_range hh hr hsm hn F N (fun i m' nw => ∃ u', m' = frU xs u' m ∧ J i u' nw) ⟨m, frU_self, h0⟩
    (by rintro i t' m₁ news₁ h tk I oI E' hi ⟨u, rfl, hJ⟩ F₁ N₁ off; exact step i t' u news₁ h tk I oI E' hi hJ F₁ N₁ off)
    (by rintro m₁ news₁ h tk ⟨u, rfl, hJ⟩ F₁ N₁; exact done u news₁ h tk hJ F₁ N₁)
theorem units_make {A : Around} {c : Addr} {pos : List Value} {kw : List (PySem.Str × Value)} : (A.under (.builtin "type.__call__" ⟨.ref c :: pos, kw⟩)).units = A.units + 1 := rfl
theorem fit0 {d K N : Nat} (h : d + K < N) : d < N := Nat.lt_of_le_of_lt (Nat.le_add_right d K) h
theorem fit1 {d c K N : Nat} (h : d + K < N) (e : Nat.ble c K = true) : d + c < N := Nat.lt_of_le_of_lt (Nat.add_le_add_left (Nat.le_of_ble_eq_true e) d) h
theorem fit2 {d b c K N : Nat} (h : d + K < N) (e : Nat.ble (b + c) K = true) : d + b + c < N := Nat.add_assoc d b c ▸ fit1 h e
theorem fit3 {d b b2 c K N : Nat} (h : d + K < N) (e : Nat.ble (b + b2 + c) K = true) : d + b + b2 + c < N := by rw [Nat.add_assoc d b b2]; exact fit2 h e
theorem le_cl {a b : Nat} (e : Nat.ble a b = true) : a ≤ b := Nat.le_of_ble_eq_true e
theorem lt_cl {a b : Nat} (e : Nat.ble (a + 1) b = true) : a < b := Nat.le_of_ble_eq_true e
theorem le_by {n K N : Nat} (h : n ≤ K) (e : Nat.ble K N = true) : n ≤ N := Nat.le_trans h (Nat.le_of_ble_eq_true e)
theorem le_by' {n K N : Nat} (h : n < K) (e : Nat.ble K (N + 1) = true) : n ≤ N := Nat.le_of_lt_succ (Nat.lt_of_lt_of_le h (Nat.le_of_ble_eq_true e))
theorem lt_by {n K N : Nat} (h : n ≤ K) (e : Nat.ble (K + 1) N = true) : n < N := Nat.lt_of_le_of_lt h (Nat.le_of_ble_eq_true e)
theorem lt_by' {n K N : Nat} (h : n < K) (e : Nat.ble K N = true) : n < N := Nat.lt_of_lt_of_le h (Nat.le_of_ble_eq_true e)
theorem lt63 {n K : Nat} (h : n ≤ K) (e : Nat.ble (K + 1) (2 ^ 63) = true) : (n : Int) < 2 ^ 63 := by have := lt_by h e; omega
theorem lt63' {n K : Nat} (h : n < K) (e : Nat.ble K (2 ^ 63) = true) : (n : Int) < 2 ^ 63 := by have := lt_by' h e; omega
/-- what a turn of a while must leave -/
def WEnd (h₀ : Heap) (L : Addr) (xs : List PySem.Str) (m : PySem.Str → Option Value) (J : Nat → (PySem.Str → Option Value) → List (Addr × Obj) → Prop) (n : Nat) (R : Result → Shared → Prop) (s : Shared) (f : Flow) (s₃ : Shared) : Prop :=
  match f with
  | .next | .cont => ∃ h' tk' m' nw' n', s₃ = { s with heap := h', toks := tk' } ∧ n' < n ∧ Fr h₀ L h' m' ∧ News h₀ L h' nw' ∧ ∃ u', m' = frU xs u' m ∧ J n' u' nw'
  | .brk => R (.ok .next) s₃
  | .ret v => R (.ok (.ret v)) s₃
theorem while_U {R : Result → Shared → Prop} {test : PySem.Expr} {body orelse : List Stmt} (xs : List PySem.Str)
    (F : Fr h₀ L s.heap m) (N : News h₀ L s.heap news) (J : Nat → (PySem.Str → Option Value) → List (Addr × Obj) → Prop) (n : Nat) (h0 : J n m news)
    (turn : ∀ n u nw h tk E', J n u nw → Fr h₀ L h (frU xs u m) → News h₀ L h nw →
      wpAny (model prog w) A (isTrue test env (eval test env)) (fun b s₂ => if b then wpAny (model prog w) A (execs body env) (WEnd h₀ L xs m J n R s) E' s₂
        else wpAny (model prog w) A (execs orelse env) (fun f s₃ => R (.ok f) s₃) E' s₂) E' { s with heap := h, toks := tk }) :
    codeAny (model prog w) A (.whileLoop test body orelse env) R s := by
  refine codeAny_whileLoop (fun k s' => ∃ h' tk u nw, s' = { s with heap := h', toks := tk } ∧ Fr h₀ L h' (frU xs u m) ∧ News h₀ L h' nw ∧ J k u nw) ?_ n ⟨s.heap, s.toks, m, news, rfl, by rw [← frU_self]; exact F, N, h0⟩
  rintro k s' ⟨h', tk, u, nw, rfl, F', N', hJ⟩
  refine wpAny_mono (turn k u nw h' tk _ hJ F' N') (fun b s₂ h₂ => ?_) fun _ _ e => e
  cases b with
  | false => exact h₂
  | true =>
    refine wpAny_mono h₂ (fun f s₃ h₃ => ?_) fun _ _ e => e
    have fin : (∃ h' tk' m' nw' n', s₃ = { s with heap := h', toks := tk' } ∧ n' < k ∧ Fr h₀ L h' m' ∧ News h₀ L h' nw' ∧ ∃ u', m' = frU xs u' m ∧ J n' u' nw') →
        ∃ m_1, m_1 < k ∧ ∃ h' tk u nw, s₃ = { s with heap := h', toks := tk } ∧ Fr h₀ L h' (frU xs u m) ∧ News h₀ L h' nw ∧ J m_1 u nw := by
      rintro ⟨h', tk', m', nw', n', rfl, hn, F₁, N₁, u', rfl, hJ'⟩
      exact ⟨n', hn, h', tk', u', nw', rfl, F₁, N₁, hJ'⟩
    cases f with
    | next => exact fin h₃
    | cont => exact fin h₃
    | brk => exact h₃
    | ret v => exact h₃
end
end Mine
end
section
open PySem PySem.W PyProof.Rows PySem.Calls
namespace Mine
section
variable {prog : Program} {w : World} {A : Around} {E : Value → Shared → Prop} {s : Shared} {h₀ : Heap} {L : Addr} {m : PySem.Str → Option Value} {news : List (Addr × Obj)}
theorem collect_rng {r : Addr} {a b c : Int} {t u v : Tok} {n : Nat} {Q : List Value → Shared → Prop} (hh : A.handled = none) (hr : IsRange s.heap r a b c t u v) (hsmall : Builtin.Range.small a b c = true)
    (hn : Builtin.Range.rangeSize a b c = n) (hlen : n ≤ 2 ^ 24)
    (hQ : ∀ h' tk acc, (∀ b o, s.heap.get? b = some o → h'.get? b = some o) → ItemsOf (fun i v => ∃ t, v = Value.int (a + i * c) t) acc n → Q acc.toList { s with heap := h', toks := tk }) :
    wpAny (model prog w) A (collect (.ref r)) Q E s := by
  unfold collect
  refine wpAny_bind (wpAny_runValue (codeAny_builtin F.entry_proto_collect ?_))
  rw [Around.under_plainId F.plain_proto_collect _]
  show wpAny _ A.in1 (newList [] >>= fun l => again (.builtin "list.__iadd__" ⟨[l, .ref r], []⟩)) _ _ s
  have hr' : IsRange (s.heap.push { cls := .type "list", dict := none, data := .seq ([] : List Value).toArray }) r a b c t u v := Heap.get?_push_of_some _ hr
  have key : ∀ R : Result → Shared → Prop, (∀ h' tk acc' c', (∀ b o, b ≠ s.heap.objs.size → (s.heap.push { cls := .type "list", dict := none, data := .seq ([] : List Value).toArray }).get? b = some o → h'.get? b = some o) → h'.get? s.heap.objs.size = some { cls := .type "list", dict := none, data := .seq acc' c', slots := #[] } →
      ItemsOf (fun i v => ∃ t, v = Value.int (a + i * c) t) acc' n → R (.ok (.ret (.ref s.heap.objs.size))) { s with heap := h', toks := tk }) →
      codeAny (model prog w) A (.builtin "list.__iadd__" ⟨[.ref s.heap.objs.size, .ref r], []⟩) R { s with heap := s.heap.push { cls := .type "list", dict := none, data := .seq ([] : List Value).toArray } } := by
    intro R hR
    refine codeAny_builtin F.entry_list_iadd ?_
    rw [Around.under_plainId F.plain_list_iadd _]
    exact wpAny_extend_range (s := { s with heap := s.heap.push { cls := .type "list", dict := none, data := .seq ([] : List Value).toArray } }) hh hr' hsmall hn hlen s.heap.objs.size (.ref s.heap.objs.size) 0 (Heap.get?_push_size _ rfl) hR
  refine wpAny_bind (wpAny_newObj_type ?_)
  refine wpAny_pure ⟨plainId_quiet F.plain_list_iadd _, key _ ?_⟩
  intro h' tk acc' c' keep hS hacc
  have hk : ∀ b o, s.heap.get? b = some o → h'.get? b = some o := fun b o e => keep b o (Nat.ne_of_lt (Heap.lt_size e)) (Heap.get?_push_of_some _ e)
  show wpAny _ A (load s.heap.objs.size >>= _) _ _ _
  refine wpAny_bind (wpAny_load hS ?_)
  exact wpAny_pure (hQ h' tk acc' hk hacc)
/-- sorted over a range, by a key: asked item by item -/
theorem sorted_rng {r : Addr} {a b c : Int} {t u v : Tok} {n : Nat} {f : Value} {kw : List (PySem.Str × Value)} {Q : Value → Shared → Prop} (hh : A.handled = none) (hr : IsRange s.heap r a b c t u v) (hsmall : Builtin.Range.small a b c = true)
    (hn : Builtin.Range.rangeSize a b c = n) (h2 : 2 ≤ n) (h64 : n < 64) (F : Fr h₀ L s.heap m) (N : News h₀ L s.heap news)
    (ha1 : argsOk "sorted" ⟨[.ref r], kw⟩) (ha2 : ∀ x, argsOk "list.sort" ⟨[.ref x], kw⟩) (ht : ∀ x, Builtin.«list.sort» ⟨[.ref x], kw⟩ = ksk_tree x f false)
    (h : ∀ vs D kS e1 h' tk, vs.length = n → (∀ (i : Nat) v, vs[i]? = some v → ∃ t, v = Value.int (a + (i : Int) * c) t) → Fr h₀ L h' m → News h₀ L h' ((kS, seqObj "list" #[] 0) :: (D, seqObj "list" #[] e1) :: news) → D < kS → (∀ q ∈ news, q.1 < D) →
      KatKeys prog w A.in1.in1 h₀ L m kS f (fun ks e s' => wpAny (model prog w) A.in1.in1 (keyKind' (List.toArray ks)) (fun κ s'' => (kas_sort vs.length).kasWp (kas_ask prog w A.in1.in1 κ (katRev false ks)) (fun p s3 => KatFin h₀ L m kS D ks e e1 (katRev false (p.toList.map fun i => (katRev false vs).getD i Value.none)) (fun s4 => Q (.ref D) s4) s3) s'') (fun _ _ => False) s') vs [] 0 { s with heap := h', toks := tk }) :
    wpAny (model prog w) A (call (.builtin "sorted") [.ref r] kw) Q E s := by
  refine call_function_entry_kw kind_sorted plain_sorted entry_sorted ha1 ?_
  unfold Builtin.«sorted»
  refine wpAny_bind (m := checkCount "sorted" 1 1 _) (wpAny_pure ?_)
  refine wpAny_bind (collect_rng hh hr hsmall hn (by omega) fun h1 tk1 acc keep items => ?_)
  have hl : acc.toList.length = n := by have := items.1; rw [Array.length_toList]; exact this
  refine wpAny_bind (wpAny_newList ?_ (by rw [sizeLine_eq]; omega))
  have hoL : (h1.push (seqObj "list" acc.toList.toArray 0)).get? h1.objs.size = some (seqObj "list" acc.toList.toArray 0) := Heap.get?_push_size _ rfl
  have keep2 : ∀ b o, s.heap.get? b = some o → (h1.push (seqObj "list" acc.toList.toArray 0)).get? b = some o := fun b o e => Heap.get?_push_of_some _ (keep b o e)
  have F1 := F.keeps keep
  have N1 := N.grown keep
  have F2 : Fr h₀ L (h1.push (seqObj "list" acc.toList.toArray 0)) m := F1.push _
  have N2 : News h₀ L (h1.push (seqObj "list" acc.toList.toArray 0)) news := N1.grown fun b o e => Heap.get?_push_of_some _ e
  refine wpAny_bind (wpAny_holding (wpAny_call_entry_kw slot_list_sort ⟨_, hoL, rfl⟩ entry_list_sort ?body (ha2 _)))
  case body =>
    have ht' := ht h1.objs.size
    show wpAny (model prog w) A.in1.in1 (Builtin.«list.sort» ⟨[.ref h1.objs.size], kw⟩) _ _ _
    rw [ht']
    have hL : L < h1.objs.size := F1.ns.lt
    refine kat_keyed (vs := acc.toList) F2 N2 hoL (Nat.ne_of_gt hL) (Heap.get?_none_of_le (Nat.le_trans F.above (Nat.le_of_lt hL))) (fun p hp => Nat.ne_of_lt (Heap.lt_size (N1 p hp).1)) (by omega) (by omega) fun kS e1 h' F' N' l0 l1 => ?_
    refine kat_keys_mono (h acc.toList _ kS e1 h' _ hl (fun i v hv => items.2 i v (by simpa using hv)) F' N' l0 fun q hq => Heap.lt_size (N1 q hq).1) fun ks e s' hl' hd => ?_
    have hl2 : ks.length = acc.toList.length := by simpa using hl'
    refine wpAny_mono hd (fun κ s'' hk => ?_) fun _ _ x => x
    rw [kat_ask_eq (vs := katRev false acc.toList) (by rw [kat_len, kat_len, hl2])] at hk ⊢
    exact kas_wp_mono hk fun p s3 hk' => hk'.mono fun s4 hq => ⟨_, rfl, wpAny_pure ⟨_, rfl, hq⟩⟩
end
end Mine
end
section
open PySem PySem.W PyProof.Rows
namespace Mine
open PyProof.Rows.LCg (SrcAt NsObj Off3 Off1 lst)
section
variable {prog : Program} {w : World} {A : Around} {E : Value → Shared → Prop} {s : Shared} {h₀ : Heap} {L : Addr} {m : PySem.Str → Option Value} {news : List (Addr × Obj)} {env : Env}
theorem for_rangeUC {R : Result → Shared → Prop} {target : PySem.Expr} {body : List Stmt} {r : Addr} {a b c : Int} {t u v : Tok} {n : Nat} (xs : List PySem.Str) (hh : A.handled = none)
    (hr : IsRange s.heap r a b c t u v) (hsm : Builtin.Range.small a b c = true) (hn : Builtin.Range.rangeSize a b c = (n : Int))
    (F : Fr h₀ L s.heap m) (N : News h₀ L s.heap news) (J : Nat → (PySem.Str → Option Value) → List (Addr × Obj) → Prop) (h0 : J 0 m news)
    (step : ∀ i t' u news₁ h tk I oI E', (∃ x y z, oI = rgO x y z) → i < n → J i u news₁ → Fr h₀ L h (frU xs u m) → News h₀ L h ((I, oI) :: news₁) → (∀ p ∈ news₁, p.1 ≠ I) →
      wpAny (model prog w) A (assign target env (.int (a + (i : Int) * c) t')) (fun _ s₂ => wpAny (model prog w) A (execs body env) (LoopEnd h₀ L I oI (fun m' nw => ∃ u', m' = frU xs u' m ∧ J (i + 1) u' nw) R s) E' s₂) E' { s with heap := h, toks := tk })
    (done : ∀ u news₁ h tk, J n u news₁ → Fr h₀ L h (frU xs u m) → News h₀ L h news₁ → R (.ok .next) { s with heap := h, toks := tk }) :
    wpAny (model prog w) A (pyIter (.ref r)) (fun it s₂ => codeAny (model prog w) A (.forLoop target it body [] env) R s₂) E s :=
  for_rangeC hh hr hsm hn F N (fun i m' nw => ∃ u', m' = frU xs u' m ∧ J i u' nw) ⟨m, frU_self, h0⟩
    (by rintro i t' m₁ news₁ h tk I oI E' hc hi ⟨u, rfl, hJ⟩ F₁ N₁ off; exact step i t' u news₁ h tk I oI E' hc hi hJ F₁ N₁ off)
    (by rintro m₁ news₁ h tk ⟨u, rfl, hJ⟩ F₁ N₁; exact done u news₁ h tk hJ F₁ N₁)
end
end Mine
end
section
open PySem PySem.W PyProof.Rows
namespace Mine
open PyProof.Rows.LCg (SrcAt NsObj Off3 Off1 lst)
section
variable {prog : Program} {w : World} {A : Around} {E : Value → Shared → Prop} {s : Shared} {h₀ : Heap} {L : Addr} {m : PySem.Str → Option Value} {news : List (Addr × Obj)} {env : Env} {R : Result → Shared → Prop}
theorem tail_dict {K : Type} [DecidableEq K] {knd : KeyKind prog w K} {elt iter : PySem.Expr} {x : PySem.Str} {px : PySem.Pos} {ifs : List PySem.Expr} {scope : PySem.Scope} {cl : List (PySem.Str × Addr)} {pos : PySem.Pos} {Fin : Shared → List Value → List (Addr × Obj) → Prop} {d : Addr} {oD : Obj} {kvs : List (K × Value)}
    (hh : A.handled = none) (F : Fr h₀ L s.heap m) (N : News h₀ L s.heap news) (hsz : kvs.length ≤ sizeLine) (hcell : ∀ y ∈ scope.names, y.2 ≠ .cell) (hkind : scope.kind = .function)
    (lo : (d == sysModules) = false) (hd : oD.IsDictOf knd kvs) (hm : (d, oD) ∈ news)
    (J : Nat → List Value → List (Addr × Obj) → Prop) (h0 : J 0 [] news) (hJS : ∀ i ys nw, J i ys nw → (d, oD) ∈ nw)
    (turn : Turn prog w A h₀ L m env elt (.Name x px) ifs scope cl s kvs.length (fun i v => ∃ k y, kvs[i]? = some (k, y) ∧ knd.is k v = true) J)
    (fin : ∀ ys nw, J kvs.length ys nw → Fin s ys nw) : Tail prog w A h₀ L m env elt (.Name x px) iter ifs scope cl pos Fin (.ref d) s := by
  intro RR E hRR
  obtain ⟨ep, ha⟩ := KdkAt.of hd
  have hlt : d < s.heap.objs.size := Heap.lt_size (N _ hm).1
  refine wpAny_pyIter_dict lo (ha.dictAt (N _ hm).1) ?_
  generalize hoI : ({ cls := .type "dict_keyiterator", data := .fields #[.ref d, .int 0 0, .int kvs.length 0, .int ep 0] } : Obj) = oI
  have up : ∀ b o, s.heap.get? b = some o → (s.heap.push oI).get? b = some o := fun b o e => Heap.get?_push_of_some _ e
  have ho : (s.heap.push oI).get? s.heap.objs.size = some oI := Heap.get?_push_size _ (by rw [← hoI]; rfl)
  refine block_G (S := fun nw => (d, oD) ∈ nw) (J := J) (Walks.dictKeys hh s.heap.objs.size d (Nat.ne_of_lt hlt) kvs ep) hsz (fun i h st => by obtain ⟨o, e, _⟩ := st.1; exact ⟨o, e⟩) (fun i s v Q E st hq => wpAny_pure hq)
      (fun i h h' o nw st e e' k N' hm' => ⟨by obtain ⟨o', q, r⟩ := st.1; rw [e] at q; cases q; exact ⟨o, e', r⟩, ha.dictAt (N' _ hm').1⟩) hcell hkind ⟨⟨_, ho, by rw [← hoI], by rw [← hoI]; rfl⟩, ha.dictAt (up _ _ (N _ hm).1)⟩ (fun b hb => ?_)
      (F.keeps up) (N.grown up) (Nat.ne_of_lt F.ns.lt) (next_is_new F) (fun p hp => Nat.ne_of_lt (Heap.lt_size (N p hp).1)) h0 hJS (fun i v ys news₁ oI C oC D m₁ h tk E' hi hP hJ => turn i v ys news₁ _ oI C oC D m₁ h tk E' hi hP hJ) ?_
  · show b < (s.heap.push _).objs.size
    rw [Heap.size_push]
    rcases List.mem_cons.mp hb with rfl | hb
    · exact Nat.lt_succ_self _
    · rw [List.mem_singleton.mp hb]; exact Nat.lt_succ_of_lt hlt
  · intro D C h tk m' ys news' F' N' o1 hn hC₀ hD₀ hCL hDL hCD offC hJ
    exact hRR D C h tk m' ys news' F' N' o1 hn hC₀ hD₀ hCL hDL hCD offC (fin ys news' hJ)
theorem tail_str {elt iter : PySem.Expr} {x : PySem.Str} {px : PySem.Pos} {ifs : List PySem.Expr} {scope : PySem.Scope} {cl : List (PySem.Str × Addr)} {pos : PySem.Pos} {Fin : Shared → List Value → List (Addr × Obj) → Prop} {z : PySem.Str} {t : Tok}
    (hh : A.handled = none) (F : Fr h₀ L s.heap m) (N : News h₀ L s.heap news) (hz : z.cps.all (· < 128) = true) (hsz : z.cps.size ≤ sizeLine) (hcell : ∀ y ∈ scope.names, y.2 ≠ .cell) (hkind : scope.kind = .function)
    (J : Nat → List Value → List (Addr × Obj) → Prop) (h0 : J 0 [] news)
    (turn : Turn prog w A h₀ L m env elt (.Name x px) ifs scope cl s z.cps.size (SignAt z) J)
    (fin : ∀ ys nw, J z.cps.size ys nw → Fin s ys nw) : Tail prog w A h₀ L m env elt (.Name x px) iter ifs scope cl pos Fin (.str z t) s := by
  intro RR E hRR
  refine wpAny_pyIter_ascii hz ?_
  generalize hoI : ({ cls := .type "str_ascii_iterator", data := .fields #[.str z t, .int 0 0] } : Obj) = oI
  have up : ∀ b o, s.heap.get? b = some o → (s.heap.push oI).get? b = some o := fun b o e => Heap.get?_push_of_some _ e
  have ho : (s.heap.push oI).get? s.heap.objs.size = some oI := Heap.get?_push_size _ (by rw [← hoI]; rfl)
  refine block_G (S := fun _ => True) (J := J) (Walks.strAscii hh s.heap.objs.size z t) hsz (fun i h st => by obtain ⟨o, e, _⟩ := st; exact ⟨o, e⟩) (fun i s v Q E st hq => wpAny_pure hq)
      (fun i h h' o nw st e e' k N' hm' => by obtain ⟨o', q, r⟩ := st; rw [e] at q; cases q; exact ⟨o, e', r⟩) hcell hkind ⟨_, ho, by rw [← hoI], by rw [← hoI]; rfl⟩ (fun b hb => ?_)
      (F.keeps up) (N.grown up) (Nat.ne_of_lt F.ns.lt) (next_is_new F) (fun p hp => Nat.ne_of_lt (Heap.lt_size (N p hp).1)) h0 (fun _ _ _ _ => trivial) (fun i v ys news₁ oI C oC D m₁ h tk E' hi hP hJ => turn i v ys news₁ _ oI C oC D m₁ h tk E' hi hP hJ) ?_
  · rw [List.mem_singleton.mp hb]
    show s.heap.objs.size < (s.heap.push _).objs.size
    rw [Heap.size_push]; exact Nat.lt_succ_self _
  · intro D C h tk m' ys news' F' N' o1 hn hC₀ hD₀ hCL hDL hCD offC hJ
    exact hRR D C h tk m' ys news' F' N' o1 hn hC₀ hD₀ hCL hDL hCD offC (fin ys news' hJ)
end
end Mine
end
section
open PySem PySem.W PyProof.Rows Lean
namespace Mine
/-- what an `if a in text: text = text.replace(a, b)` makes of the text -/
def rep (x a b : PySem.Str) : PySem.Str := if (Builtin.Str.occurrences x a 0 x.length 1).isEmpty then x else Txt.replace x a b
abbrev escScope : PySem.Scope := { kind := .function, names := [(PySem.Str.ofString "text", .local), (PySem.Str.ofString "TypeError", .globalImplicit), (PySem.Str.ofString "AttributeError", .globalImplicit), (PySem.Str.ofString "_raise_serialization_error", .globalImplicit)], isGenerator := false, isCoroutine := false, more := [] }
section
variable {prog : Program} {w : World} {A : Around} {E : Value → Shared → Prop} {s : Shared} {h₀ : Heap} {L a : Addr} {m : PySem.Str → Option Value} {news : List (Addr × Obj)} {qual : PySem.Str} {cd : Addr} {cl : List (PySem.Str × Addr)} {Q : Flow → Shared → Prop}
theorem upd_same {m : PySem.Str → Option Value} {x : PySem.Str} {v : Value} (h : m x = some v) : (fun y => if y = x then some v else m y) = m := by
  funext y; by_cases e : y = x
  · subst e; simp [h]
  · simp [e]
set_option maxRecDepth 100000 in
set_option maxHeartbeats 800000 in
theorem esc_if {x sub rp : PySem.Str} {t : Tok} {p1 p2 p3 p4 p5 p6 p7 p8 p9 p10 p11 : PySem.Pos} {k1 k2 k3 : Nat} (F : Fr h₀ L s.heap m) (N : News h₀ L s.heap news) (hm : m "text" = some (.str x t))
    (hpos : (p6.endLine == p9.line) = true) (hne : (sub == rp) = false) (hb : x.length + (x.length + 1) * rp.length ≤ 16777216)
    (ret : ∀ t' h' tk', Fr h₀ L h' (fun y => if y = "text" then some (.str (rep x sub rp) t') else m y) → News h₀ L h' news → Q .next { s with heap := h', toks := tk' }) :
    wpAny (model prog w) A (exec (.If (.Compare (.Constant (.str sub) k1 p1) [.In] [.Name "text" p2] p3) [.Assign [.Name "text" p4] (.Call (.Attribute (.Name "text" p5) "replace" p6) [.Constant (.str sub) k2 p7, .Constant (.str rp) k3 p8] [] p9) p10] [] p11) (envOf qual escScope L a (.ref cd))) Q E s := by
  k_with_none
  walk1
  walk1
  walk1
  refine nameX_L F hm ?_
  walk1
  walk1
  cases ho : (Builtin.Str.occurrences x sub 0 x.length 1).isEmpty
  · simp only [Bool.not_false, if_true]
    refine wpAny_execs_cons ?_
    walk1
    refine MethodCall_ (pl := (do return (← importBound (.Name (PySem.Str.ofString "text") p5) (envOf qual escScope L a (.ref cd))).getD true)) ?_ ?_
    rotate_left
    · show (do
        let ov ← eval (.Name (PySem.Str.ofString "text") p5) (envOf qual escScope L a (.ref cd))
        standAt p6.atName
        methodCall (.Name (PySem.Str.ofString "text") p5) (PySem.Str.ofString "replace") p6 p9 (envOf qual escScope L a (.ref cd)) ov _ _ _) = _
      unfold methodCall methodCallPos
      rw [hpos]
      rfl
    refine nameX_L F hm ?_
    walk1
    walk1
    walk1
    walk1
    walk1
    walk1
    walk1
    refine SC.replace ?_ ?_ ?_ hne hb ?_
    · exact Nat.succ_ne_zero _
    · exact Nat.succ_ne_zero _
    · exact Nat.ne_of_lt (Nat.lt_succ_self _)
    · intro t' k
      refine storeX_L F N ?_
      intro h' F' N'
      refine wpAny_execs_nil ?_
      have e : rep x sub rp = Txt.replace x sub rp := by unfold rep; rw [ho]; rfl
      rw [← e] at F'
      exact ret _ _ _ F' N'
  · simp only [Bool.not_true]
    refine wpAny_execs_nil ?_
    have e : rep x sub rp = x := by unfold rep; rw [ho]; rfl
    have := ret t s.heap (s.toks + 1) (by rw [e, upd_same hm]; exact F) N
    exact this
end
abbrev Small (x : PySem.Str) : Prop := x.length ≤ 2000000
/-- a hand's chain of replacements -/
def escL : List (PySem.Str × PySem.Str) → PySem.Str → PySem.Str
  | [], x => x
  | (a, b) :: r, x => escL r (rep x a b)
def OkL : List (PySem.Str × PySem.Str) → PySem.Str → Prop
  | [], _ => True
  | (a, b) :: r, x => Small x ∧ OkL r (rep x a b)
def tbl (way : Nat) : List (PySem.Str × PySem.Str) := match way with
  | 0 => [("&", "&amp;"), ("<", "&lt;"), (">", "&gt;")]
  | 1 => [("&", "&amp;"), ("<", "&lt;"), (">", "&gt;"), ("\r", "&#xD;")]
  | 2 => [("&", "&amp;"), ("<", "&lt;"), (">", "&gt;"), ("\"", "&quot;"), ("\r", "&#13;"), ("\n", "&#10;"), ("\t", "&#09;")]
  | 3 => [("&", "&amp;"), ("<", "&lt;"), ("\"", "&quot;"), ("\t", "&#x9;"), ("\n", "&#xA;"), ("\r", "&#xD;")]
  | _ => [("&", "&amp;"), (">", "&gt;"), ("\"", "&quot;")]
theorem small_hb {x r : PySem.Str} (h : Small x) (hr : r.length ≤ 6) : x.length + (x.length + 1) * r.length ≤ 16777216 := by
  have : (x.length + 1) * r.length ≤ (x.length + 1) * 6 := Nat.mul_le_mul_left _ hr
  omega
local macro_rules | `(tactic| walk_at $s:str) => `(tactic| k_extra $s)
section
variable {w : World} {p : Program} {loose : List PySem.Str} {mean : ExcName → Option Value} {mg mb : PySem.Str → Option Value}
   {dp un : Nat} {gd : Option (List Code)} {cn : PySem.Str} {cs : PySem.Scope} {a : Addr} {ccd : Value} {cl : List (PySem.Str × Addr)} {outer : List Env} {A₀ : Around} {base h₀ : Heap} {L : Addr} {m : PySem.Str → Option Value} {news : List (Addr × Obj)} {s : Shared} {Q E : Value → Shared → Prop}
set_option maxRecDepth 100000 in
set_option maxHeartbeats 8000000 in
theorem esc0_spec (B : Below A₀ base outer h₀) (F : Fr h₀ L s.heap m) (X : (Mine.hd.heap_1 w.params).In h₀) (N : News h₀ L s.heap news) (T : Top p loose mean mg mb h₀) (hk : cs.kind = .function) (hd : dp + 20 < recursionLimit) (hu : un + 200 < cLine) {x : PySem.Str} {t2 : Tok} (ok : OkL (tbl 0) x)
    (ret : ∀ t h' tk', Fr h₀ L h' m → News h₀ L h' news → Q (.str (escL (tbl 0) x) t) { s with heap := h', toks := tk' }) :
    wpAny (model PySem.Challenge.rw_uk0024_01.row.prog w) (ktrTop dp un gd cn cs L a ccd cl outer) (call (.ref 216) [.str x t2]) Q E s := by
  k_with_none
  (k_with "m_esc" => ((k_dflt (refine' esc_if ?FQ9 ?NQ9 ?mQ9 ?pQ9 ?nQ9 ?bQ9 ?_; (case FQ9 => k_asm); (case NQ9 => k_asm); (case mQ9 => exact rfl); (case pQ9 => decide); (case nQ9 => decide); (case bQ9 => exact small_hb (by assumption) (by decide)); k_whole); intro _ _ _ _ _; dsimp only)))
  revert X; k_fill; intro X
  simp only [tbl, OkL] at ok
  obtain ⟨o1, o2, o3, -⟩ := ok
  simp only [tbl, escL] at ret
  refine wpAny_call ?_
  k_dflt cell_enter
  walk1; walk1; walk1; walk1
  (walk_at "m_esc"); walk1
  (walk_at "m_esc"); walk1
  (walk_at "m_esc"); walk1
  repeat walk1
  exact ret _ _ _ (by k_asm) (by k_asm)
set_option maxRecDepth 100000 in
set_option maxHeartbeats 8000000 in
theorem esc1_spec (B : Below A₀ base outer h₀) (F : Fr h₀ L s.heap m) (X : (Mine.hd.heap_1 w.params).In h₀) (N : News h₀ L s.heap news) (T : Top p loose mean mg mb h₀) (hk : cs.kind = .function) (hd : dp + 20 < recursionLimit) (hu : un + 200 < cLine) {x : PySem.Str} {t2 : Tok} (ok : OkL (tbl 1) x)
    (ret : ∀ t h' tk', Fr h₀ L h' m → News h₀ L h' news → Q (.str (escL (tbl 1) x) t) { s with heap := h', toks := tk' }) :
    wpAny (model PySem.Challenge.rw_uk0024_01.row.prog w) (ktrTop dp un gd cn cs L a ccd cl outer) (call (.ref 237) [.str x t2]) Q E s := by
  k_with_none
  (k_with "m_esc" => ((k_dflt (refine' esc_if ?FQ9 ?NQ9 ?mQ9 ?pQ9 ?nQ9 ?bQ9 ?_; (case FQ9 => k_asm); (case NQ9 => k_asm); (case mQ9 => exact rfl); (case pQ9 => decide); (case nQ9 => decide); (case bQ9 => exact small_hb (by assumption) (by decide)); k_whole); intro _ _ _ _ _; dsimp only)))
  revert X; k_fill; intro X
  simp only [tbl, OkL] at ok
  obtain ⟨o1, o2, o3, o4, -⟩ := ok
  simp only [tbl, escL] at ret
  refine wpAny_call ?_
  k_dflt cell_enter
  walk1; walk1; walk1; walk1
  (walk_at "m_esc"); walk1
  (walk_at "m_esc"); walk1
  (walk_at "m_esc"); walk1
  (walk_at "m_esc"); walk1
  repeat walk1
  exact ret _ _ _ (by k_asm) (by k_asm)
set_option maxRecDepth 100000 in
set_option maxHeartbeats 8000000 in
theorem esc2_spec (B : Below A₀ base outer h₀) (F : Fr h₀ L s.heap m) (X : (Mine.hd.heap_1 w.params).In h₀) (N : News h₀ L s.heap news) (T : Top p loose mean mg mb h₀) (hk : cs.kind = .function) (hd : dp + 20 < recursionLimit) (hu : un + 200 < cLine) {x : PySem.Str} {t2 : Tok} (ok : OkL (tbl 2) x)
    (ret : ∀ t h' tk', Fr h₀ L h' m → News h₀ L h' news → Q (.str (escL (tbl 2) x) t) { s with heap := h', toks := tk' }) :
    wpAny (model PySem.Challenge.rw_uk0024_01.row.prog w) (ktrTop dp un gd cn cs L a ccd cl outer) (call (.ref 223) [.str x t2]) Q E s := by
  k_with_none
  (k_with "m_esc" => ((k_dflt (refine' esc_if ?FQ9 ?NQ9 ?mQ9 ?pQ9 ?nQ9 ?bQ9 ?_; (case FQ9 => k_asm); (case NQ9 => k_asm); (case mQ9 => exact rfl); (case pQ9 => decide); (case nQ9 => decide); (case bQ9 => exact small_hb (by assumption) (by decide)); k_whole); intro _ _ _ _ _; dsimp only)))
  revert X; k_fill; intro X
  simp only [tbl, OkL] at ok
  obtain ⟨o1, o2, o3, o4, o5, o6, o7, -⟩ := ok
  simp only [tbl, escL] at ret
  refine wpAny_call ?_
  k_dflt cell_enter
  walk1; walk1; walk1; walk1
  (walk_at "m_esc"); walk1
  (walk_at "m_esc"); walk1
  (walk_at "m_esc"); walk1
  (walk_at "m_esc"); walk1
  (walk_at "m_esc"); walk1
  (walk_at "m_esc"); walk1
  (walk_at "m_esc"); walk1
  repeat walk1
  exact ret _ _ _ (by k_asm) (by k_asm)
set_option maxRecDepth 100000 in
set_option maxHeartbeats 8000000 in
theorem esc3_spec (B : Below A₀ base outer h₀) (F : Fr h₀ L s.heap m) (X : (Mine.hd.heap_1 w.params).In h₀) (N : News h₀ L s.heap news) (T : Top p loose mean mg mb h₀) (hk : cs.kind = .function) (hd : dp + 20 < recursionLimit) (hu : un + 200 < cLine) {x : PySem.Str} {t2 : Tok} (ok : OkL (tbl 3) x)
    (ret : ∀ t h' tk', Fr h₀ L h' m → News h₀ L h' news → Q (.str (escL (tbl 3) x) t) { s with heap := h', toks := tk' }) :
    wpAny (model PySem.Challenge.rw_uk0024_01.row.prog w) (ktrTop dp un gd cn cs L a ccd cl outer) (call (.ref 244) [.str x t2]) Q E s := by
  k_with_none
  (k_with "m_esc" => ((k_dflt (refine' esc_if ?FQ9 ?NQ9 ?mQ9 ?pQ9 ?nQ9 ?bQ9 ?_; (case FQ9 => k_asm); (case NQ9 => k_asm); (case mQ9 => exact rfl); (case pQ9 => decide); (case nQ9 => decide); (case bQ9 => exact small_hb (by assumption) (by decide)); k_whole); intro _ _ _ _ _; dsimp only)))
  revert X; k_fill; intro X
  simp only [tbl, OkL] at ok
  obtain ⟨o1, o2, o3, o4, o5, o6, -⟩ := ok
  simp only [tbl, escL] at ret
  refine wpAny_call ?_
  k_dflt cell_enter
  walk1; walk1; walk1; walk1
  (walk_at "m_esc"); walk1
  (walk_at "m_esc"); walk1
  (walk_at "m_esc"); walk1
  (walk_at "m_esc"); walk1
  (walk_at "m_esc"); walk1
  (walk_at "m_esc"); walk1
  repeat walk1
  exact ret _ _ _ (by k_asm) (by k_asm)
set_option maxRecDepth 100000 in
set_option maxHeartbeats 8000000 in
theorem esc4_spec (B : Below A₀ base outer h₀) (F : Fr h₀ L s.heap m) (X : (Mine.hd.heap_1 w.params).In h₀) (N : News h₀ L s.heap news) (T : Top p loose mean mg mb h₀) (hk : cs.kind = .function) (hd : dp + 20 < recursionLimit) (hu : un + 200 < cLine) {x : PySem.Str} {t2 : Tok} (ok : OkL (tbl 4) x)
    (ret : ∀ t h' tk', Fr h₀ L h' m → News h₀ L h' news → Q (.str (escL (tbl 4) x) t) { s with heap := h', toks := tk' }) :
    wpAny (model PySem.Challenge.rw_uk0024_01.row.prog w) (ktrTop dp un gd cn cs L a ccd cl outer) (call (.ref 230) [.str x t2]) Q E s := by
  k_with_none
  (k_with "m_esc" => ((k_dflt (refine' esc_if ?FQ9 ?NQ9 ?mQ9 ?pQ9 ?nQ9 ?bQ9 ?_; (case FQ9 => k_asm); (case NQ9 => k_asm); (case mQ9 => exact rfl); (case pQ9 => decide); (case nQ9 => decide); (case bQ9 => exact small_hb (by assumption) (by decide)); k_whole); intro _ _ _ _ _; dsimp only)))
  revert X; k_fill; intro X
  simp only [tbl, OkL] at ok
  obtain ⟨o1, o2, o3, -⟩ := ok
  simp only [tbl, escL] at ret
  refine wpAny_call ?_
  k_dflt cell_enter
  walk1; walk1; walk1; walk1
  (walk_at "m_esc"); walk1
  (walk_at "m_esc"); walk1
  (walk_at "m_esc"); walk1
  repeat walk1
  exact ret _ _ _ (by k_asm) (by k_asm)
end
end Mine
end
section
open PySem PySem.W PyProof.Rows Lean
namespace Mine
local macro_rules | `(tactic| walk_at $s:str) => `(tactic| k_extra $s)
section
variable {w : World} {p : Program} {loose : List PySem.Str} {mean : ExcName → Option Value} {mg mb : PySem.Str → Option Value}
   {dp un : Nat} {gd : Option (List Code)} {cn : PySem.Str} {cs : PySem.Scope} {a : Addr} {ccd : Value} {cl : List (PySem.Str × Addr)} {outer : List Env} {A₀ : Around} {base h₀ : Heap} {L : Addr} {m : PySem.Str → Option Value} {news : List (Addr × Obj)} {s : Shared} {Q E : Value → Shared → Prop}
set_option maxRecDepth 100000 in
set_option maxHeartbeats 8000000 in
theorem hand0_spec (B : Below A₀ base outer h₀) (F : Fr h₀ L s.heap m) (X : (Mine.hd.heap_1 w.params).In h₀) (N : News h₀ L s.heap news) (T : Top p loose mean mg mb h₀) (hk : cs.kind = .function) (hd : dp + 30 < recursionLimit) (hu : un + 300 < cLine) {x : PySem.Str} {t1 t2 : Tok} (ok : OkL (tbl 0) x)
    (ret : ∀ t h' tk', Fr h₀ L h' m → News h₀ L h' news → Q (.str (escL (tbl 0) x) t) { s with heap := h', toks := tk' }) :
    wpAny (model PySem.Challenge.rw_uk0024_01.row.prog w) (ktrTop dp un gd cn cs L a ccd cl outer) (call (.ref 265) [.int 0 t1, .str x t2]) Q E s := by
  k_with_none
  (k_with "call ref" => (first | (k_dflt (refine' esc0_spec (B := ?BQ9) (F := ?FQ9) (X := ?XQ9) (N := ?NQ9) (T := ?TQ9) (hk := ?hkQ9) (hd := ?hdQ9) (hu := ?huQ9) (ok := ?okQ9) (ret := ?_); (case BQ9 => k_asm); (case FQ9 => k_asm); (case XQ9 => k_asm); (case NQ9 => k_asm); (case TQ9 => k_asm); (case hkQ9 => first | exact rfl | assumption); (case hdQ9 => ktr_room); (case huQ9 => ktr_units); (case okQ9 => assumption)); intro _ _ _ _ _; (try dsimp only)) | (k_dflt (refine' esc1_spec (B := ?BQ9) (F := ?FQ9) (X := ?XQ9) (N := ?NQ9) (T := ?TQ9) (hk := ?hkQ9) (hd := ?hdQ9) (hu := ?huQ9) (ok := ?okQ9) (ret := ?_); (case BQ9 => k_asm); (case FQ9 => k_asm); (case XQ9 => k_asm); (case NQ9 => k_asm); (case TQ9 => k_asm); (case hkQ9 => first | exact rfl | assumption); (case hdQ9 => ktr_room); (case huQ9 => ktr_units); (case okQ9 => assumption)); intro _ _ _ _ _; (try dsimp only)) | (k_dflt (refine' esc2_spec (B := ?BQ9) (F := ?FQ9) (X := ?XQ9) (N := ?NQ9) (T := ?TQ9) (hk := ?hkQ9) (hd := ?hdQ9) (hu := ?huQ9) (ok := ?okQ9) (ret := ?_); (case BQ9 => k_asm); (case FQ9 => k_asm); (case XQ9 => k_asm); (case NQ9 => k_asm); (case TQ9 => k_asm); (case hkQ9 => first | exact rfl | assumption); (case hdQ9 => ktr_room); (case huQ9 => ktr_units); (case okQ9 => assumption)); intro _ _ _ _ _; (try dsimp only)) | (k_dflt (refine' esc3_spec (B := ?BQ9) (F := ?FQ9) (X := ?XQ9) (N := ?NQ9) (T := ?TQ9) (hk := ?hkQ9) (hd := ?hdQ9) (hu := ?huQ9) (ok := ?okQ9) (ret := ?_); (case BQ9 => k_asm); (case FQ9 => k_asm); (case XQ9 => k_asm); (case NQ9 => k_asm); (case TQ9 => k_asm); (case hkQ9 => first | exact rfl | assumption); (case hdQ9 => ktr_room); (case huQ9 => ktr_units); (case okQ9 => assumption)); intro _ _ _ _ _; (try dsimp only)) | (k_dflt (refine' esc4_spec (B := ?BQ9) (F := ?FQ9) (X := ?XQ9) (N := ?NQ9) (T := ?TQ9) (hk := ?hkQ9) (hd := ?hdQ9) (hu := ?huQ9) (ok := ?okQ9) (ret := ?_); (case BQ9 => k_asm); (case FQ9 => k_asm); (case XQ9 => k_asm); (case NQ9 => k_asm); (case TQ9 => k_asm); (case hkQ9 => first | exact rfl | assumption); (case hdQ9 => ktr_room); (case huQ9 => ktr_units); (case okQ9 => assumption)); intro _ _ _ _ _; (try dsimp only))))
  revert X; k_fill; intro X
  refine wpAny_call ?_
  k_dflt cell_enter
  repeat walk1
  exact ret _ _ _ (by k_asm) (by k_asm)
set_option maxRecDepth 100000 in
set_option maxHeartbeats 8000000 in
theorem hand1_spec (B : Below A₀ base outer h₀) (F : Fr h₀ L s.heap m) (X : (Mine.hd.heap_1 w.params).In h₀) (N : News h₀ L s.heap news) (T : Top p loose mean mg mb h₀) (hk : cs.kind = .function) (hd : dp + 30 < recursionLimit) (hu : un + 300 < cLine) {x : PySem.Str} {t1 t2 : Tok} (ok : OkL (tbl 1) x)
    (ret : ∀ t h' tk', Fr h₀ L h' m → News h₀ L h' news → Q (.str (escL (tbl 1) x) t) { s with heap := h', toks := tk' }) :
    wpAny (model PySem.Challenge.rw_uk0024_01.row.prog w) (ktrTop dp un gd cn cs L a ccd cl outer) (call (.ref 265) [.int 1 t1, .str x t2]) Q E s := by
  k_with_none
  (k_with "call ref" => (first | (k_dflt (refine' esc0_spec (B := ?BQ9) (F := ?FQ9) (X := ?XQ9) (N := ?NQ9) (T := ?TQ9) (hk := ?hkQ9) (hd := ?hdQ9) (hu := ?huQ9) (ok := ?okQ9) (ret := ?_); (case BQ9 => k_asm); (case FQ9 => k_asm); (case XQ9 => k_asm); (case NQ9 => k_asm); (case TQ9 => k_asm); (case hkQ9 => first | exact rfl | assumption); (case hdQ9 => ktr_room); (case huQ9 => ktr_units); (case okQ9 => assumption)); intro _ _ _ _ _; (try dsimp only)) | (k_dflt (refine' esc1_spec (B := ?BQ9) (F := ?FQ9) (X := ?XQ9) (N := ?NQ9) (T := ?TQ9) (hk := ?hkQ9) (hd := ?hdQ9) (hu := ?huQ9) (ok := ?okQ9) (ret := ?_); (case BQ9 => k_asm); (case FQ9 => k_asm); (case XQ9 => k_asm); (case NQ9 => k_asm); (case TQ9 => k_asm); (case hkQ9 => first | exact rfl | assumption); (case hdQ9 => ktr_room); (case huQ9 => ktr_units); (case okQ9 => assumption)); intro _ _ _ _ _; (try dsimp only)) | (k_dflt (refine' esc2_spec (B := ?BQ9) (F := ?FQ9) (X := ?XQ9) (N := ?NQ9) (T := ?TQ9) (hk := ?hkQ9) (hd := ?hdQ9) (hu := ?huQ9) (ok := ?okQ9) (ret := ?_); (case BQ9 => k_asm); (case FQ9 => k_asm); (case XQ9 => k_asm); (case NQ9 => k_asm); (case TQ9 => k_asm); (case hkQ9 => first | exact rfl | assumption); (case hdQ9 => ktr_room); (case huQ9 => ktr_units); (case okQ9 => assumption)); intro _ _ _ _ _; (try dsimp only)) | (k_dflt (refine' esc3_spec (B := ?BQ9) (F := ?FQ9) (X := ?XQ9) (N := ?NQ9) (T := ?TQ9) (hk := ?hkQ9) (hd := ?hdQ9) (hu := ?huQ9) (ok := ?okQ9) (ret := ?_); (case BQ9 => k_asm); (case FQ9 => k_asm); (case XQ9 => k_asm); (case NQ9 => k_asm); (case TQ9 => k_asm); (case hkQ9 => first | exact rfl | assumption); (case hdQ9 => ktr_room); (case huQ9 => ktr_units); (case okQ9 => assumption)); intro _ _ _ _ _; (try dsimp only)) | (k_dflt (refine' esc4_spec (B := ?BQ9) (F := ?FQ9) (X := ?XQ9) (N := ?NQ9) (T := ?TQ9) (hk := ?hkQ9) (hd := ?hdQ9) (hu := ?huQ9) (ok := ?okQ9) (ret := ?_); (case BQ9 => k_asm); (case FQ9 => k_asm); (case XQ9 => k_asm); (case NQ9 => k_asm); (case TQ9 => k_asm); (case hkQ9 => first | exact rfl | assumption); (case hdQ9 => ktr_room); (case huQ9 => ktr_units); (case okQ9 => assumption)); intro _ _ _ _ _; (try dsimp only))))
  revert X; k_fill; intro X
  refine wpAny_call ?_
  k_dflt cell_enter
  repeat walk1
  exact ret _ _ _ (by k_asm) (by k_asm)
set_option maxRecDepth 100000 in
set_option maxHeartbeats 8000000 in
theorem hand2_spec (B : Below A₀ base outer h₀) (F : Fr h₀ L s.heap m) (X : (Mine.hd.heap_1 w.params).In h₀) (N : News h₀ L s.heap news) (T : Top p loose mean mg mb h₀) (hk : cs.kind = .function) (hd : dp + 30 < recursionLimit) (hu : un + 300 < cLine) {x : PySem.Str} {t1 t2 : Tok} (ok : OkL (tbl 2) x)
    (ret : ∀ t h' tk', Fr h₀ L h' m → News h₀ L h' news → Q (.str (escL (tbl 2) x) t) { s with heap := h', toks := tk' }) :
    wpAny (model PySem.Challenge.rw_uk0024_01.row.prog w) (ktrTop dp un gd cn cs L a ccd cl outer) (call (.ref 265) [.int 2 t1, .str x t2]) Q E s := by
  k_with_none
  (k_with "call ref" => (first | (k_dflt (refine' esc0_spec (B := ?BQ9) (F := ?FQ9) (X := ?XQ9) (N := ?NQ9) (T := ?TQ9) (hk := ?hkQ9) (hd := ?hdQ9) (hu := ?huQ9) (ok := ?okQ9) (ret := ?_); (case BQ9 => k_asm); (case FQ9 => k_asm); (case XQ9 => k_asm); (case NQ9 => k_asm); (case TQ9 => k_asm); (case hkQ9 => first | exact rfl | assumption); (case hdQ9 => ktr_room); (case huQ9 => ktr_units); (case okQ9 => assumption)); intro _ _ _ _ _; (try dsimp only)) | (k_dflt (refine' esc1_spec (B := ?BQ9) (F := ?FQ9) (X := ?XQ9) (N := ?NQ9) (T := ?TQ9) (hk := ?hkQ9) (hd := ?hdQ9) (hu := ?huQ9) (ok := ?okQ9) (ret := ?_); (case BQ9 => k_asm); (case FQ9 => k_asm); (case XQ9 => k_asm); (case NQ9 => k_asm); (case TQ9 => k_asm); (case hkQ9 => first | exact rfl | assumption); (case hdQ9 => ktr_room); (case huQ9 => ktr_units); (case okQ9 => assumption)); intro _ _ _ _ _; (try dsimp only)) | (k_dflt (refine' esc2_spec (B := ?BQ9) (F := ?FQ9) (X := ?XQ9) (N := ?NQ9) (T := ?TQ9) (hk := ?hkQ9) (hd := ?hdQ9) (hu := ?huQ9) (ok := ?okQ9) (ret := ?_); (case BQ9 => k_asm); (case FQ9 => k_asm); (case XQ9 => k_asm); (case NQ9 => k_asm); (case TQ9 => k_asm); (case hkQ9 => first | exact rfl | assumption); (case hdQ9 => ktr_room); (case huQ9 => ktr_units); (case okQ9 => assumption)); intro _ _ _ _ _; (try dsimp only)) | (k_dflt (refine' esc3_spec (B := ?BQ9) (F := ?FQ9) (X := ?XQ9) (N := ?NQ9) (T := ?TQ9) (hk := ?hkQ9) (hd := ?hdQ9) (hu := ?huQ9) (ok := ?okQ9) (ret := ?_); (case BQ9 => k_asm); (case FQ9 => k_asm); (case XQ9 => k_asm); (case NQ9 => k_asm); (case TQ9 => k_asm); (case hkQ9 => first | exact rfl | assumption); (case hdQ9 => ktr_room); (case huQ9 => ktr_units); (case okQ9 => assumption)); intro _ _ _ _ _; (try dsimp only)) | (k_dflt (refine' esc4_spec (B := ?BQ9) (F := ?FQ9) (X := ?XQ9) (N := ?NQ9) (T := ?TQ9) (hk := ?hkQ9) (hd := ?hdQ9) (hu := ?huQ9) (ok := ?okQ9) (ret := ?_); (case BQ9 => k_asm); (case FQ9 => k_asm); (case XQ9 => k_asm); (case NQ9 => k_asm); (case TQ9 => k_asm); (case hkQ9 => first | exact rfl | assumption); (case hdQ9 => ktr_room); (case huQ9 => ktr_units); (case okQ9 => assumption)); intro _ _ _ _ _; (try dsimp only))))
  revert X; k_fill; intro X
  refine wpAny_call ?_
  k_dflt cell_enter
  repeat walk1
  exact ret _ _ _ (by k_asm) (by k_asm)
set_option maxRecDepth 100000 in
set_option maxHeartbeats 8000000 in
theorem hand3_spec (B : Below A₀ base outer h₀) (F : Fr h₀ L s.heap m) (X : (Mine.hd.heap_1 w.params).In h₀) (N : News h₀ L s.heap news) (T : Top p loose mean mg mb h₀) (hk : cs.kind = .function) (hd : dp + 30 < recursionLimit) (hu : un + 300 < cLine) {x : PySem.Str} {t1 t2 : Tok} (ok : OkL (tbl 3) x)
    (ret : ∀ t h' tk', Fr h₀ L h' m → News h₀ L h' news → Q (.str (escL (tbl 3) x) t) { s with heap := h', toks := tk' }) :
    wpAny (model PySem.Challenge.rw_uk0024_01.row.prog w) (ktrTop dp un gd cn cs L a ccd cl outer) (call (.ref 265) [.int 3 t1, .str x t2]) Q E s := by
  k_with_none
  (k_with "call ref" => (first | (k_dflt (refine' esc0_spec (B := ?BQ9) (F := ?FQ9) (X := ?XQ9) (N := ?NQ9) (T := ?TQ9) (hk := ?hkQ9) (hd := ?hdQ9) (hu := ?huQ9) (ok := ?okQ9) (ret := ?_); (case BQ9 => k_asm); (case FQ9 => k_asm); (case XQ9 => k_asm); (case NQ9 => k_asm); (case TQ9 => k_asm); (case hkQ9 => first | exact rfl | assumption); (case hdQ9 => ktr_room); (case huQ9 => ktr_units); (case okQ9 => assumption)); intro _ _ _ _ _; (try dsimp only)) | (k_dflt (refine' esc1_spec (B := ?BQ9) (F := ?FQ9) (X := ?XQ9) (N := ?NQ9) (T := ?TQ9) (hk := ?hkQ9) (hd := ?hdQ9) (hu := ?huQ9) (ok := ?okQ9) (ret := ?_); (case BQ9 => k_asm); (case FQ9 => k_asm); (case XQ9 => k_asm); (case NQ9 => k_asm); (case TQ9 => k_asm); (case hkQ9 => first | exact rfl | assumption); (case hdQ9 => ktr_room); (case huQ9 => ktr_units); (case okQ9 => assumption)); intro _ _ _ _ _; (try dsimp only)) | (k_dflt (refine' esc2_spec (B := ?BQ9) (F := ?FQ9) (X := ?XQ9) (N := ?NQ9) (T := ?TQ9) (hk := ?hkQ9) (hd := ?hdQ9) (hu := ?huQ9) (ok := ?okQ9) (ret := ?_); (case BQ9 => k_asm); (case FQ9 => k_asm); (case XQ9 => k_asm); (case NQ9 => k_asm); (case TQ9 => k_asm); (case hkQ9 => first | exact rfl | assumption); (case hdQ9 => ktr_room); (case huQ9 => ktr_units); (case okQ9 => assumption)); intro _ _ _ _ _; (try dsimp only)) | (k_dflt (refine' esc3_spec (B := ?BQ9) (F := ?FQ9) (X := ?XQ9) (N := ?NQ9) (T := ?TQ9) (hk := ?hkQ9) (hd := ?hdQ9) (hu := ?huQ9) (ok := ?okQ9) (ret := ?_); (case BQ9 => k_asm); (case FQ9 => k_asm); (case XQ9 => k_asm); (case NQ9 => k_asm); (case TQ9 => k_asm); (case hkQ9 => first | exact rfl | assumption); (case hdQ9 => ktr_room); (case huQ9 => ktr_units); (case okQ9 => assumption)); intro _ _ _ _ _; (try dsimp only)) | (k_dflt (refine' esc4_spec (B := ?BQ9) (F := ?FQ9) (X := ?XQ9) (N := ?NQ9) (T := ?TQ9) (hk := ?hkQ9) (hd := ?hdQ9) (hu := ?huQ9) (ok := ?okQ9) (ret := ?_); (case BQ9 => k_asm); (case FQ9 => k_asm); (case XQ9 => k_asm); (case NQ9 => k_asm); (case TQ9 => k_asm); (case hkQ9 => first | exact rfl | assumption); (case hdQ9 => ktr_room); (case huQ9 => ktr_units); (case okQ9 => assumption)); intro _ _ _ _ _; (try dsimp only))))
  revert X; k_fill; intro X
  refine wpAny_call ?_
  k_dflt cell_enter
  repeat walk1
  exact ret _ _ _ (by k_asm) (by k_asm)
set_option maxRecDepth 100000 in
set_option maxHeartbeats 8000000 in
theorem hand4_spec (B : Below A₀ base outer h₀) (F : Fr h₀ L s.heap m) (X : (Mine.hd.heap_1 w.params).In h₀) (N : News h₀ L s.heap news) (T : Top p loose mean mg mb h₀) (hk : cs.kind = .function) (hd : dp + 30 < recursionLimit) (hu : un + 300 < cLine) {x : PySem.Str} {t1 t2 : Tok} (ok : OkL (tbl 4) x)
    (ret : ∀ t h' tk', Fr h₀ L h' m → News h₀ L h' news → Q (.str (escL (tbl 4) x) t) { s with heap := h', toks := tk' }) :
    wpAny (model PySem.Challenge.rw_uk0024_01.row.prog w) (ktrTop dp un gd cn cs L a ccd cl outer) (call (.ref 265) [.int 4 t1, .str x t2]) Q E s := by
  k_with_none
  (k_with "call ref" => (first | (k_dflt (refine' esc0_spec (B := ?BQ9) (F := ?FQ9) (X := ?XQ9) (N := ?NQ9) (T := ?TQ9) (hk := ?hkQ9) (hd := ?hdQ9) (hu := ?huQ9) (ok := ?okQ9) (ret := ?_); (case BQ9 => k_asm); (case FQ9 => k_asm); (case XQ9 => k_asm); (case NQ9 => k_asm); (case TQ9 => k_asm); (case hkQ9 => first | exact rfl | assumption); (case hdQ9 => ktr_room); (case huQ9 => ktr_units); (case okQ9 => assumption)); intro _ _ _ _ _; (try dsimp only)) | (k_dflt (refine' esc1_spec (B := ?BQ9) (F := ?FQ9) (X := ?XQ9) (N := ?NQ9) (T := ?TQ9) (hk := ?hkQ9) (hd := ?hdQ9) (hu := ?huQ9) (ok := ?okQ9) (ret := ?_); (case BQ9 => k_asm); (case FQ9 => k_asm); (case XQ9 => k_asm); (case NQ9 => k_asm); (case TQ9 => k_asm); (case hkQ9 => first | exact rfl | assumption); (case hdQ9 => ktr_room); (case huQ9 => ktr_units); (case okQ9 => assumption)); intro _ _ _ _ _; (try dsimp only)) | (k_dflt (refine' esc2_spec (B := ?BQ9) (F := ?FQ9) (X := ?XQ9) (N := ?NQ9) (T := ?TQ9) (hk := ?hkQ9) (hd := ?hdQ9) (hu := ?huQ9) (ok := ?okQ9) (ret := ?_); (case BQ9 => k_asm); (case FQ9 => k_asm); (case XQ9 => k_asm); (case NQ9 => k_asm); (case TQ9 => k_asm); (case hkQ9 => first | exact rfl | assumption); (case hdQ9 => ktr_room); (case huQ9 => ktr_units); (case okQ9 => assumption)); intro _ _ _ _ _; (try dsimp only)) | (k_dflt (refine' esc3_spec (B := ?BQ9) (F := ?FQ9) (X := ?XQ9) (N := ?NQ9) (T := ?TQ9) (hk := ?hkQ9) (hd := ?hdQ9) (hu := ?huQ9) (ok := ?okQ9) (ret := ?_); (case BQ9 => k_asm); (case FQ9 => k_asm); (case XQ9 => k_asm); (case NQ9 => k_asm); (case TQ9 => k_asm); (case hkQ9 => first | exact rfl | assumption); (case hdQ9 => ktr_room); (case huQ9 => ktr_units); (case okQ9 => assumption)); intro _ _ _ _ _; (try dsimp only)) | (k_dflt (refine' esc4_spec (B := ?BQ9) (F := ?FQ9) (X := ?XQ9) (N := ?NQ9) (T := ?TQ9) (hk := ?hkQ9) (hd := ?hdQ9) (hu := ?huQ9) (ok := ?okQ9) (ret := ?_); (case BQ9 => k_asm); (case FQ9 => k_asm); (case XQ9 => k_asm); (case NQ9 => k_asm); (case TQ9 => k_asm); (case hkQ9 => first | exact rfl | assumption); (case hdQ9 => ktr_room); (case huQ9 => ktr_units); (case okQ9 => assumption)); intro _ _ _ _ _; (try dsimp only))))
  revert X; k_fill; intro X
  refine wpAny_call ?_
  k_dflt cell_enter
  repeat walk1
  exact ret _ _ _ (by k_asm) (by k_asm)
end
end Mine
end
section
open PySem PySem.W PyProof.Rows PyProof.V PySem.Spec
namespace Mine
theorem law_post (a : List WData) : PySem.Challenge.rw_uk0024_01.row.claim.post a (.bool true) a = true := by
  refine postW_of ?_ (X := (true == true)) ?_ (by rfl)
  · exact rfl
  · show (WTm.eq .res (.lit (.bool true))).value _ _ = _
    apply w_eq_bool
    · exact rfl
    · exact rfl
end Mine
end
local macro_rules | `(tactic| cell_enter) => `(tactic| first | (k_extra "ce1"; intro g' L' h' FG' F' N' B' X' T'; (try dsimp only); (try k_lift B'); (try k_fold)) | (k_extra "ce2"; intro g' L' h' tk' cells' FG' F' N' Y' B' X' T' l1; (try k_lt l1); k_cells Y'; (try simp only [List.cons_append, List.nil_append] at N'); (try dsimp only); (try k_lift B'); (try k_fold)))
local macro_rules | `(tactic| walk_at $s:str) => `(tactic| k_extra $s)
local macro_rules | `(tactic| k_all) => `(tactic| assumption)
local macro_rules | `(tactic| k_ne) => `(tactic| assumption)
local macro_rules | `(tactic| k_mem) => `(tactic| k_extra "k_mem")
local macro_rules | `(tactic| ktr_units) => `(tactic| k_extra "ktr_units")
local macro_rules | `(tactic| ktr_room) => `(tactic| k_extra "ktr_room")
local macro_rules | `(tactic| omega) => `(tactic| k_extra "omega")
local macro_rules | `(tactic| simp) => `(tactic| k_extra "simp")
local macro_rules | `(tactic| simp [$h:term]) => `(tactic| (have hq9 := $h; k_extra "simph"))
local macro_rules | `(tactic| walk1) => `(tactic| k_extra "walk1")
theorem Mine.set_rows : True := by
  k_with_none
  (k_with "omega" => (first | (lia) | fail "no"))
  (k_with "omega" => (with_reducible first | exact Int.natCast_nonneg _ | exact Mine.le_cl (by decide) | exact Mine.lt_cl (by decide) | fail "no"))
  (k_with "simp" => (with_reducible first | exact List.mem_cons_self | (refine List.mem_cons_of_mem _ ?_; simp; done) | fail "no"))
  (k_with "simph" => (with_reducible first | assumption | exact List.mem_cons_of_mem _ (by assumption) | exact Or.inl (by assumption) | exact List.mem_append_left _ (by assumption) | exact List.mem_append_right _ (by assumption) | (refine List.mem_cons_of_mem _ ?_; k_extra "simph"; done) | (refine Or.inr ?_; k_extra "simph"; done) | fail "no"))
  (k_with "perm" => ((refine (?_ : ∀ q ∈ _, q ∈ _) _ (by assumption); (repeat (with_reducible refine List.forall_mem_cons.mpr ⟨by first | exact List.mem_cons_self | (refine List.mem_cons_of_mem _ ?_; simp; done), ?_⟩)); with_reducible (intro q hq; repeat (first | exact hq | refine List.mem_cons_of_mem _ ?_)))))
  trivial
section
open PySem PySem.W PyProof.Rows Lean
namespace Mine
set_option maxHeartbeats 4000000
section
variable {w : World} {p : Program} {loose : List PySem.Str} {mean : ExcName → Option Value} {mg mb : PySem.Str → Option Value}
   {dp un : Nat} {gd : Option (List Code)} {cn : PySem.Str} {cs : PySem.Scope} {a : Addr} {ccd : Value} {cl : List (PySem.Str × Addr)} {outer : List Env} {A₀ : Around} {base h₀ : Heap} {L : Addr} {m : PySem.Str → Option Value} {news : List (Addr × Obj)} {s : Shared} {Q E : Value → Shared → Prop}

theorem patNm (h : (Mine.hd.heap_1 w.params).In h₀) : PatAt h₀ 43 nmCode := ⟨⟨42, _, _, _, _, h 43 _ rfl, h 42 _ rfl, by decide +kernel⟩⟩
theorem patVl (h : (Mine.hd.heap_1 w.params).In h₀) : PatAt h₀ 48 vlCode := ⟨⟨47, _, _, _, _, h 48 _ rfl, h 47 _ rfl, by decide +kernel⟩⟩
theorem PatAt.keeps {h h' : Heap} {p : Addr} {c : Array Nat} (x : PatAt h p c) (k : ∀ b o, h.get? b = some o → h'.get? b = some o) : PatAt h' p c :=
  let ⟨q, a1, a2, a3, a4, e1, e2, e3⟩ := x.ex; ⟨⟨q, a1, a2, a3, a4, k _ _ e1, k _ _ e2, e3⟩⟩
set_option maxRecDepth 100000 in
set_option maxHeartbeats 8000000 in
theorem cst_spec (B : Below A₀ base outer h₀) (F : Fr h₀ L s.heap m) (X : (Mine.hd.heap_1 w.params).In h₀) (N : News h₀ L s.heap news) (T : Top p loose mean mg mb h₀) (hk : cs.kind = .function) (hd : dp + 20 < recursionLimit) (hu : un + 200 < cLine)
    {self : Value} {b : Bool} {x : PySem.Str} {t2 : Tok} (hx : Plain x) (hl : x.cps.size ≤ 1000000)
    (ret : ∀ h' tk', Fr h₀ L h' m → News h₀ L h' news → Q (.str x t2) { s with heap := h', toks := tk' }) :
    wpAny (model PySem.Challenge.rw_uk0024_01.row.prog w) (ktrTop dp un gd cn cs L a ccd cl outer) (call (.ref 70) [self, .str x t2] [(PySem.Str.ofString "name", .bool b)]) Q E s := by
  k_with_none
  (k_with "ce1" => (refine' code_def ?k1Q9 ?k2Q9 ?k3Q9 ?k4Q9 ?k5Q9 ?kAQ9 ?kFQ9 ?kKQ9 ?k6Q9 ?k7Q9 ?k8Q9 ?k9Q9 ?kBQ9 ?_ ?c2Q9 ?c3Q9 ?c4Q9 ?c5Q9; (case kAQ9 => exact rfl); (case kFQ9 => exact rfl); (case kKQ9 => first | assumption | exact rfl); (case k1Q9 => k_asm); (case k2Q9 => k_asm); (case k3Q9 => k_asm); (case k4Q9 => k_asm); (case k5Q9 => k_asm); (case k6Q9 => k_is); (case k7Q9 => k_is); (case k8Q9 => ktr_room); (case k9Q9 => first | exact BindsTo.of_eq rfl | exact binds_K (by k_in) rfl (by k_is) rfl rfl rfl); (case c5Q9 => decide); (case kBQ9 => exact locs rfl); (case c2Q9 => exact rfl); (case c3Q9 => exact rfl); (case c4Q9 => exact rfl); k_whole))
  (k_with "ce2" => (refine' code_defC ?k1Q9 ?k2Q9 ?k3Q9 ?k4Q9 ?k5Q9 ?kAQ9 ?kFQ9 ?kKQ9 ?k6Q9 ?k7Q9 ?k8Q9 ?k9Q9 ?kBQ9 ?kDQ9 ?_ ?c2Q9 ?c3Q9 ?c4Q9; (case kAQ9 => exact rfl); (case kFQ9 => exact rfl); (case kKQ9 => first | assumption | exact rfl); (case k1Q9 => k_asm); (case k2Q9 => k_asm); (case k3Q9 => k_asm); (case k4Q9 => k_asm); (case k5Q9 => k_asm); (case k6Q9 => k_is); (case k7Q9 => k_is); (case k8Q9 => ktr_room); (case k9Q9 => first | exact BindsTo.of_eq rfl | exact binds_K (by k_in) rfl (by k_is) rfl rfl rfl); (case kBQ9 => exact rfl); (case kDQ9 => decide +kernel); (case c2Q9 => exact rfl); (case c3Q9 => exact rfl); (case c4Q9 => exact rfl); k_whole))
  (k_with "ktr_units" => ((have hcL9 := cLine_is; (simp only [Mine.units_make, PyProof.Rows.units_in1, PyProof.Rows.units_deeper, PySem.Around.mark_units, PyProof.Rows.units_caller, ktrTop] at *); omega)))
  (k_with "ktr_units" => ((simp only [Mine.units_make, PyProof.Rows.units_in1, PyProof.Rows.units_deeper, PySem.Around.mark_units, PyProof.Rows.units_caller]; first | exact Mine.fit2 (by with_reducible assumption) (by decide) | exact Mine.fit3 (by with_reducible assumption) (by decide) | fail "no")))
  (k_with "ktr_units" => (first | exact Mine.fit2 (d := (PySem.W.ktrTop _ _ _ _ _ _ _ _ _ _).units) (by assumption) (by decide) | exact Mine.fit3 (d := (PySem.W.ktrTop _ _ _ _ _ _ _ _ _ _).units) (by assumption) (by decide) | exact Mine.fit1 (d := (PySem.W.ktrTop _ _ _ _ _ _ _ _ _ _).units) (by assumption) (by decide) | fail "no"))
  (k_with "ktr_room" => (first | exact Mine.fit0 (d := (PySem.W.ktrTop _ _ _ _ _ _ _ _ _ _).depth) (by assumption) | exact Mine.fit2 (d := (PySem.W.ktrTop _ _ _ _ _ _ _ _ _ _).depth) (by assumption) (by decide) | exact Mine.fit3 (d := (PySem.W.ktrTop _ _ _ _ _ _ _ _ _ _).depth) (by assumption) (by decide) | exact Mine.fit1 (d := (PySem.W.ktrTop _ _ _ _ _ _ _ _ _ _).depth) (by assumption) (by decide) | fail "no"))
  (k_with "omega" => (first | (lia) | fail "no"))
  (k_with "omega" => (with_reducible first | exact Int.natCast_nonneg _ | exact Mine.le_cl (by decide) | exact Mine.lt_cl (by decide) | fail "no"))
  (k_with "simp" => (with_reducible first | exact List.mem_cons_self | (refine List.mem_cons_of_mem _ ?_; simp; done) | fail "no"))
  (k_with "simph" => (with_reducible first | assumption | exact List.mem_cons_of_mem _ (by assumption) | exact Or.inl (by assumption) | exact List.mem_append_left _ (by assumption) | exact List.mem_append_right _ (by assumption) | (refine List.mem_cons_of_mem _ ?_; k_extra "simph"; done) | (refine Or.inr ?_; k_extra "simph"; done) | fail "no"))
  (k_with "perm" => ((refine (?_ : ∀ q ∈ _, q ∈ _) _ (by assumption); (repeat (with_reducible refine List.forall_mem_cons.mpr ⟨by first | exact List.mem_cons_self | (refine List.mem_cons_of_mem _ ?_; simp; done), ?_⟩)); with_reducible (intro q hq; repeat (first | exact hq | refine List.mem_cons_of_mem _ ?_)))))
  (k_with "call builtin:re.Pattern.search" => ((k_dflt (first
    | (refine' search_none (PatAt.keeps (patNm (w := w) (by assumption)) (Fr.keep (by k_asm))) nm_none nm_first (by assumption) ?_ (by assumption))
    | (refine' search_none (PatAt.keeps (patVl (w := w) (by assumption)) (Fr.keep (by k_asm))) vl_none vl_first (by assumption) ?_ (by assumption))))))
  (k_with "getMethod ref" => ((k_dflt (first
    | (refine' getMethod_search (PatAt.keeps (patNm (w := w) (by assumption)) (Fr.keep (by k_asm))) ?_)
    | (refine' getMethod_search (PatAt.keeps (patVl (w := w) (by assumption)) (Fr.keep (by k_asm))) ?_)))))
  revert X; k_fill; intro X
  refine wpAny_call ?_
  k_dflt cell_enter
  cases b <;> repeat (first | walk1 | (dsimp only; walk1))
  all_goals exact ret _ _ (by k_asm) (by k_asm)
end
end Mine
end
section
open PySem PySem.W PyProof.Rows
namespace Mine
set_option maxHeartbeats 4000000
open PyProof.Rows.LCg (SrcAt NsObj Off3 Off1 lst)

abbrev tupO (vs : List Value) : Obj := { cls := .type "tuple", data := .seq vs.toArray }
/-- a pair of two texts -/
def RowIs (news : List (Addr × Obj)) (v : Value) (r : PySem.Str × PySem.Str) : Prop := ∃ t k1 k2, v = .ref t ∧ (t, tupO [.str r.1 k1, .str r.2 k2]) ∈ news
abbrev RowsAre (news : List (Addr × Obj)) (vs : List Value) (rs : List (PySem.Str × PySem.Str)) : Prop := Paired (RowIs news) vs rs
theorem RowIs.mono {news news' : List (Addr × Obj)} {v : Value} {r : PySem.Str × PySem.Str} (h : RowIs news v r) (k : ∀ p ∈ news, p ∈ news') : RowIs news' v r :=
  let ⟨t, k1, k2, e, hm⟩ := h; ⟨t, k1, k2, e, k _ hm⟩
theorem paired_get {α β : Type} {R : α → β → Prop} : ∀ {l₁ : List α} {l₂ : List β}, Paired R l₁ l₂ → ∀ (i : Nat) (a : α), l₁[i]? = some a → ∃ b, l₂[i]? = some b ∧ R a b
  | _, _, .nil, i, a, h => by simp at h
  | _, _, .cons h t, 0, a, e => by simp at e; subst e; exact ⟨_, rfl, h⟩
  | _, _, .cons h t, i + 1, a, e => by simp at e; obtain ⟨b, e', r⟩ := paired_get t i a e; exact ⟨b, by simpa using e', r⟩
/-- a table of rows, as the class makes it -/
structure TableAt (w : World) (news : List (Addr × Obj)) (TI R : Addr) : Prop where
  ex : ∃ TD t n, (TI, instObj 171 TD) ∈ news ∧ (TD, dictOf [⟨PyData.keyHash w.params (PySem.Str.ofString "_headers"), .str (PySem.Str.ofString "_headers") t, .ref R⟩] n) ∈ news
theorem TableAt.mono {w : World} {news news' : List (Addr × Obj)} {TI R : Addr} (h : TableAt w news TI R) (k : ∀ p ∈ news, p ∈ news') : TableAt w news' TI R :=
  let ⟨TD, t, n, a, b⟩ := h.ex; ⟨⟨TD, t, n, k _ a, k _ b⟩⟩
theorem frame2 {x y : PySem.Str} {m m₂ : PySem.Str → Option Value} (h : ∀ z, z ≠ x → z ≠ y → m₂ z = m z) : m₂ = fun z => if z = y then m₂ z else if z = x then m₂ z else m z := by
  funext z
  by_cases h1 : z = y
  · simp [h1]
  · by_cases h2 : z = x
    · simp [h2]
    · simp only [if_neg h1, if_neg h2]; exact h z h2 h1
def findRow (rs : List (PySem.Str × PySem.Str)) (x : PySem.Str) : Option (PySem.Str × PySem.Str) := rs.find? fun r => Txt.lower r.1 == x
/-- what `get` hands back -/
def GetRes (o : Option (PySem.Str × PySem.Str)) (v : Value) : Prop := match o with
  | some r => ∃ t, v = .str r.2 t
  | none => v = .none
section
variable {w : World} {p : Program} {loose : List PySem.Str} {mean : ExcName → Option Value} {mg mb : PySem.Str → Option Value}
   {dp un : Nat} {gd : Option (List Code)} {cn : PySem.Str} {cs : PySem.Scope} {a : Addr} {ccd : Value} {cl : List (PySem.Str × Addr)} {outer : List Env} {A₀ : Around} {base h₀ : Heap} {L : Addr} {m : PySem.Str → Option Value} {news : List (Addr × Obj)} {s : Shared} {Q E : Value → Shared → Prop}

set_option maxRecDepth 100000 in
set_option maxHeartbeats 8000000 in
theorem get_spec (B : Below A₀ base outer h₀) (F : Fr h₀ L s.heap m) (X : (Mine.hd.heap_1 w.params).In h₀) (N : News h₀ L s.heap news) (T : Top p loose mean mg mb h₀) (hk : cs.kind = .function) (hd : dp + 30 < recursionLimit) (hu : un + 300 < cLine)
    {TI R : Addr} {n : Nat} {vs : List Value} {rs : List (PySem.Str × PySem.Str)} {x : PySem.Str} {t2 : Tok} (ht : TableAt w news TI R) (hR : (R, listOf vs.toArray n) ∈ news) (hrs : RowsAre news vs rs)
    (hx : Plain (Txt.lower x)) (hl : (Txt.lower x).cps.size ≤ 1000000) (hfit : Builtin.Str.tooLong (Txt.lower x).length = false) (hrf : ∀ r ∈ rs, Builtin.Str.tooLong (Txt.lower r.1).length = false)
    (ret : ∀ v h' tk', Fr h₀ L h' m → News h₀ L h' news → GetRes (findRow rs (Txt.lower x)) v → Q v { s with heap := h', toks := tk' }) :
    wpAny (model PySem.Challenge.rw_uk0024_01.row.prog w) (ktrTop dp un gd cn cs L a ccd cl outer) (call (.ref 118) [.ref TI, .str x t2]) Q E s := by
  k_with_none
  (k_with "ce1" => (refine' code_def ?k1Q9 ?k2Q9 ?k3Q9 ?k4Q9 ?k5Q9 ?kAQ9 ?kFQ9 ?kKQ9 ?k6Q9 ?k7Q9 ?k8Q9 ?k9Q9 ?kBQ9 ?_ ?c2Q9 ?c3Q9 ?c4Q9 ?c5Q9; (case kAQ9 => exact rfl); (case kFQ9 => exact rfl); (case kKQ9 => first | assumption | exact rfl); (case k1Q9 => k_asm); (case k2Q9 => k_asm); (case k3Q9 => k_asm); (case k4Q9 => k_asm); (case k5Q9 => k_asm); (case k6Q9 => k_is); (case k7Q9 => k_is); (case k8Q9 => ktr_room); (case k9Q9 => first | exact BindsTo.of_eq rfl | exact binds_K (by k_in) rfl (by k_is) rfl rfl rfl); (case c5Q9 => decide); (case kBQ9 => exact locs rfl); (case c2Q9 => exact rfl); (case c3Q9 => exact rfl); (case c4Q9 => exact rfl); k_whole))
  (k_with "ce2" => (refine' code_defC ?k1Q9 ?k2Q9 ?k3Q9 ?k4Q9 ?k5Q9 ?kAQ9 ?kFQ9 ?kKQ9 ?k6Q9 ?k7Q9 ?k8Q9 ?k9Q9 ?kBQ9 ?kDQ9 ?_ ?c2Q9 ?c3Q9 ?c4Q9; (case kAQ9 => exact rfl); (case kFQ9 => exact rfl); (case kKQ9 => first | assumption | exact rfl); (case k1Q9 => k_asm); (case k2Q9 => k_asm); (case k3Q9 => k_asm); (case k4Q9 => k_asm); (case k5Q9 => k_asm); (case k6Q9 => k_is); (case k7Q9 => k_is); (case k8Q9 => ktr_room); (case k9Q9 => first | exact BindsTo.of_eq rfl | exact binds_K (by k_in) rfl (by k_is) rfl rfl rfl); (case kBQ9 => exact rfl); (case kDQ9 => decide +kernel); (case c2Q9 => exact rfl); (case c3Q9 => exact rfl); (case c4Q9 => exact rfl); k_whole))
  (k_with "ktr_units" => ((have hcL9 := cLine_is; (simp only [Mine.units_make, PyProof.Rows.units_in1, PyProof.Rows.units_deeper, PySem.Around.mark_units, PyProof.Rows.units_caller, ktrTop] at *); omega)))
  (k_with "ktr_units" => ((simp only [Mine.units_make, PyProof.Rows.units_in1, PyProof.Rows.units_deeper, PySem.Around.mark_units, PyProof.Rows.units_caller]; first | exact Mine.fit2 (by with_reducible assumption) (by decide) | exact Mine.fit3 (by with_reducible assumption) (by decide) | fail "no")))
  (k_with "ktr_units" => (first | exact Mine.fit2 (d := (PySem.W.ktrTop _ _ _ _ _ _ _ _ _ _).units) (by assumption) (by decide) | exact Mine.fit3 (d := (PySem.W.ktrTop _ _ _ _ _ _ _ _ _ _).units) (by assumption) (by decide) | exact Mine.fit1 (d := (PySem.W.ktrTop _ _ _ _ _ _ _ _ _ _).units) (by assumption) (by decide) | fail "no"))
  (k_with "ktr_room" => (first | exact Mine.fit0 (d := (PySem.W.ktrTop _ _ _ _ _ _ _ _ _ _).depth) (by assumption) | exact Mine.fit2 (d := (PySem.W.ktrTop _ _ _ _ _ _ _ _ _ _).depth) (by assumption) (by decide) | exact Mine.fit3 (d := (PySem.W.ktrTop _ _ _ _ _ _ _ _ _ _).depth) (by assumption) (by decide) | exact Mine.fit1 (d := (PySem.W.ktrTop _ _ _ _ _ _ _ _ _ _).depth) (by assumption) (by decide) | fail "no"))
  (k_with "omega" => (first | (lia) | fail "no"))
  (k_with "omega" => (with_reducible first | exact Int.natCast_nonneg _ | exact Mine.le_cl (by decide) | exact Mine.lt_cl (by decide) | fail "no"))
  (k_with "simp" => (with_reducible first | exact List.mem_cons_self | (refine List.mem_cons_of_mem _ ?_; simp; done) | fail "no"))
  (k_with "simph" => (with_reducible first | assumption | exact List.mem_cons_of_mem _ (by assumption) | exact Or.inl (by assumption) | exact List.mem_append_left _ (by assumption) | exact List.mem_append_right _ (by assumption) | (refine List.mem_cons_of_mem _ ?_; k_extra "simph"; done) | (refine Or.inr ?_; k_extra "simph"; done) | fail "no"))
  (k_with "perm" => ((refine (?_ : ∀ q ∈ _, q ∈ _) _ (by assumption); (repeat (with_reducible refine List.forall_mem_cons.mpr ⟨by first | exact List.mem_cons_self | (refine List.mem_cons_of_mem _ ?_; simp; done), ?_⟩)); with_reducible (intro q hq; repeat (first | exact hq | refine List.mem_cons_of_mem _ ?_)))))
  (k_with "m_fru" => (first | (with_reducible refine frU_wrap ?_ (by decide); walk_at "m_fru") | exact rfl))
  (k_with "call ref" => ((k_dflt (refine' cst_spec (B := ?BQ9) (F := ?FQ9) (X := ?XQ9) (N := ?NQ9) (T := ?TQ9) (hk := ?hkQ9) (hd := ?hdQ9) (hu := ?huQ9) (hx := ?hxQ9) (hl := ?hlQ9) (ret := ?_); (case BQ9 => k_asm); (case FQ9 => k_asm); (case XQ9 => k_asm); (case NQ9 => k_asm); (case TQ9 => k_asm); (case hkQ9 => first | exact rfl | assumption); (case hdQ9 => ktr_room); (case huQ9 => ktr_units); (case hxQ9 => assumption); (case hlQ9 => assumption)); intro _ _ _ _; (try dsimp only))))
  (k_with "call builtin:str.lower" => ((refine SC.lower (by assumption) ?_)))
  revert X; k_fill; intro X
  obtain ⟨TD, t, n', h1, h2⟩ := ht.ex
  refine wpAny_call ?_
  k_dflt cell_enter
  iterate 12 walk1
  (try dsimp only)
  iterate 10 walk1
  refine wpAny_For ?_
  walk1
  walk1
  walk1
  rename Fr _ _ _ _ => F1
  rename News _ _ _ _ => N1
  refine for_listU (items := vs.toArray) [PySem.Str.ofString "k", PySem.Str.ofString "v"] rfl F1 N1 (fun i u nw => nw = news ∧ findRow (rs.take i) (Txt.lower x) = none) ⟨rfl, rfl⟩ (fun i u nw h => .inr ⟨_, h.1 ▸ hR, rfl, _, rfl⟩) ?_ ?_
  · rintro i v u nw h tk I oI E' hv ⟨rfl, hnone⟩ F2 N2 off
    (try k_fold)
    obtain ⟨⟨rk, rt⟩, hr, tt, k1, k2, rfl, hm⟩ := paired_get hrs i v (by simpa using hv)
    refine pair_assign rfl F2 N2 (News.isTup N2 (List.mem_cons_of_mem _ hm)) rfl rfl rfl ?_
    intro h3 tk3 F3 N3
    have hrow := hrf _ (List.mem_of_getElem? hr)
    dsimp only at hrow
    iterate 11 walk1
    have hfr : findRow (rs.take (i + 1)) (Txt.lower x) = if (Txt.lower rk == Txt.lower x) = true then some (rk, rt) else none := by
      unfold findRow at hnone ⊢
      rw [List.take_add_one, hr, List.find?_append, hnone]
      simp [List.find?_cons]
      split <;> simp_all
    cases hb : (Txt.lower rk == Txt.lower x)
    · rw [hb] at hfr
      rw [if_neg (by decide)]
      refine wpAny_execs_nil ?_
      refine wpAny_execs_nil ?_
      (repeat k_unfold)
      exact ⟨_, _, _, _, rfl, F3, N3, off, _, frU_wrap (frU_wrap rfl (by decide)) (by decide), rfl, by simpa using hfr⟩
    · rw [hb] at hfr
      rw [if_pos rfl]
      iterate 4 walk1
      dsimp only [LoopEnd]
      k_unfold
      (try dsimp only)
      walk1
      rename News _ _ _ _ => N9
      refine ret _ _ _ (by k_asm) (fun p hp => N9 p (List.mem_cons_of_mem _ hp)) ?_
      have e : findRow rs (Txt.lower x) = some (rk, rt) := by
        unfold findRow at hfr ⊢
        rw [← List.take_append_drop (i + 1) rs, List.find?_append, hfr]
        rfl
      rw [e]
      exact ⟨_, rfl⟩
  · rintro u nw h tk ⟨rfl, hnone⟩ F2 N2
    (try dsimp only)
    iterate 4 walk1
    refine ret _ _ _ (by k_asm) (by k_asm) ?_
    have e : rs.take vs.toArray.size = rs := by
      rw [List.size_toArray, hrs.length]; exact List.take_length
    rw [e] at hnone
    rw [hnone]
    exact rfl
end
end Mine
end
section
open PySem PySem.W PyProof.Rows
namespace Mine
set_option maxHeartbeats 4000000
open PyProof.Rows.LCg (SrcAt NsObj Off3 Off1 lst FinE)

def NameIs (v : Value) (r : PySem.Str × PySem.Str) : Prop := ∃ t, v = .str r.1 t
theorem off1_ne {D : Addr} : ∀ {l : List (Addr × Obj)}, Off1 D l → ∀ p ∈ l, p.1 ≠ D
  | [], _, _, h => nomatch h
  | _ :: _, x, p, h => by
    rcases List.mem_cons.mp h with rfl | h
    · exact x.1
    · exact off1_ne x.2 p h
section
variable {w : World} {p : Program} {loose : List PySem.Str} {mean : ExcName → Option Value} {mg mb : PySem.Str → Option Value}
   {dp un : Nat} {gd : Option (List Code)} {cn : PySem.Str} {cs : PySem.Scope} {a : Addr} {ccd : Value} {cl : List (PySem.Str × Addr)} {outer : List Env} {A₀ : Around} {base h₀ : Heap} {L : Addr} {m : PySem.Str → Option Value} {news : List (Addr × Obj)} {s : Shared} {Q E : Value → Shared → Prop}

set_option maxRecDepth 100000 in
set_option maxHeartbeats 8000000 in
theorem keys_spec (B : Below A₀ base outer h₀) (F : Fr h₀ L s.heap m) (X : (Mine.hd.heap_1 w.params).In h₀) (N : News h₀ L s.heap news) (T : Top p loose mean mg mb h₀) (hk : cs.kind = .function) (hd : dp + 30 < recursionLimit) (hu : un + 300 < cLine)
    {TI R : Addr} {n : Nat} {vs : List Value} {rs : List (PySem.Str × PySem.Str)} (ht : TableAt w news TI R) (hR : (R, listOf vs.toArray n) ∈ news) (hrs : RowsAre news vs rs) (hsz : vs.length ≤ 1000)
    (ret : ∀ D ys h' tk', Fr h₀ L h' m → News h₀ L h' ((D, lst ys) :: news) → (∀ p ∈ news, p.1 ≠ D) → Paired NameIs ys rs → Q (.ref D) { s with heap := h', toks := tk' }) :
    wpAny (model PySem.Challenge.rw_uk0024_01.row.prog w) (ktrTop dp un gd cn cs L a ccd cl outer) (call (.ref 123) [.ref TI]) Q E s := by
  k_with_none
  (k_with "ce1" => (refine' code_def ?k1Q9 ?k2Q9 ?k3Q9 ?k4Q9 ?k5Q9 ?kAQ9 ?kFQ9 ?kKQ9 ?k6Q9 ?k7Q9 ?k8Q9 ?k9Q9 ?kBQ9 ?_ ?c2Q9 ?c3Q9 ?c4Q9 ?c5Q9; (case kAQ9 => exact rfl); (case kFQ9 => exact rfl); (case kKQ9 => first | assumption | exact rfl); (case k1Q9 => k_asm); (case k2Q9 => k_asm); (case k3Q9 => k_asm); (case k4Q9 => k_asm); (case k5Q9 => k_asm); (case k6Q9 => k_is); (case k7Q9 => k_is); (case k8Q9 => ktr_room); (case k9Q9 => first | exact BindsTo.of_eq rfl | exact binds_K (by k_in) rfl (by k_is) rfl rfl rfl); (case c5Q9 => decide); (case kBQ9 => exact locs rfl); (case c2Q9 => exact rfl); (case c3Q9 => exact rfl); (case c4Q9 => exact rfl); k_whole))
  (k_with "ce2" => (refine' code_defC ?k1Q9 ?k2Q9 ?k3Q9 ?k4Q9 ?k5Q9 ?kAQ9 ?kFQ9 ?kKQ9 ?k6Q9 ?k7Q9 ?k8Q9 ?k9Q9 ?kBQ9 ?kDQ9 ?_ ?c2Q9 ?c3Q9 ?c4Q9; (case kAQ9 => exact rfl); (case kFQ9 => exact rfl); (case kKQ9 => first | assumption | exact rfl); (case k1Q9 => k_asm); (case k2Q9 => k_asm); (case k3Q9 => k_asm); (case k4Q9 => k_asm); (case k5Q9 => k_asm); (case k6Q9 => k_is); (case k7Q9 => k_is); (case k8Q9 => ktr_room); (case k9Q9 => first | exact BindsTo.of_eq rfl | exact binds_K (by k_in) rfl (by k_is) rfl rfl rfl); (case kBQ9 => exact rfl); (case kDQ9 => decide +kernel); (case c2Q9 => exact rfl); (case c3Q9 => exact rfl); (case c4Q9 => exact rfl); k_whole))
  (k_with "ktr_units" => ((have hcL9 := cLine_is; (simp only [Mine.units_make, PyProof.Rows.units_in1, PyProof.Rows.units_deeper, PySem.Around.mark_units, PyProof.Rows.units_caller, ktrTop] at *); omega)))
  (k_with "ktr_units" => ((simp only [Mine.units_make, PyProof.Rows.units_in1, PyProof.Rows.units_deeper, PySem.Around.mark_units, PyProof.Rows.units_caller]; first | exact Mine.fit2 (by with_reducible assumption) (by decide) | exact Mine.fit3 (by with_reducible assumption) (by decide) | fail "no")))
  (k_with "ktr_units" => (first | exact Mine.fit2 (d := (PySem.W.ktrTop _ _ _ _ _ _ _ _ _ _).units) (by assumption) (by decide) | exact Mine.fit3 (d := (PySem.W.ktrTop _ _ _ _ _ _ _ _ _ _).units) (by assumption) (by decide) | exact Mine.fit1 (d := (PySem.W.ktrTop _ _ _ _ _ _ _ _ _ _).units) (by assumption) (by decide) | fail "no"))
  (k_with "ktr_room" => (first | exact Mine.fit0 (d := (PySem.W.ktrTop _ _ _ _ _ _ _ _ _ _).depth) (by assumption) | exact Mine.fit2 (d := (PySem.W.ktrTop _ _ _ _ _ _ _ _ _ _).depth) (by assumption) (by decide) | exact Mine.fit3 (d := (PySem.W.ktrTop _ _ _ _ _ _ _ _ _ _).depth) (by assumption) (by decide) | exact Mine.fit1 (d := (PySem.W.ktrTop _ _ _ _ _ _ _ _ _ _).depth) (by assumption) (by decide) | fail "no"))
  (k_with "omega" => (first | (lia) | fail "no"))
  (k_with "omega" => (with_reducible first | exact Int.natCast_nonneg _ | exact Mine.le_cl (by decide) | exact Mine.lt_cl (by decide) | fail "no"))
  (k_with "simp" => (with_reducible first | exact List.mem_cons_self | (refine List.mem_cons_of_mem _ ?_; simp; done) | fail "no"))
  (k_with "simph" => (with_reducible first | assumption | exact List.mem_cons_of_mem _ (by assumption) | exact Or.inl (by assumption) | exact List.mem_append_left _ (by assumption) | exact List.mem_append_right _ (by assumption) | (refine List.mem_cons_of_mem _ ?_; k_extra "simph"; done) | (refine Or.inr ?_; k_extra "simph"; done) | fail "no"))
  (k_with "perm" => ((refine (?_ : ∀ q ∈ _, q ∈ _) _ (by assumption); (repeat (with_reducible refine List.forall_mem_cons.mpr ⟨by first | exact List.mem_cons_self | (refine List.mem_cons_of_mem _ ?_; simp; done), ?_⟩)); with_reducible (intro q hq; repeat (first | exact hq | refine List.mem_cons_of_mem _ ?_)))))
  (k_with "m_fru" => (first | (with_reducible refine frU_wrap ?_ (by decide); walk_at "m_fru") | exact rfl))
  revert X; k_fill; intro X
  obtain ⟨TD, t, n', h1, h2⟩ := ht.ex
  refine wpAny_call ?_
  k_dflt cell_enter
  iterate 3 walk1
  rename Fr _ _ _ _ => F1
  rename News _ _ _ _ => N1
  refine eval_tail (cl := []) F1 (by with_unfolding_all rfl) rfl (by decide) ?_ (by intro _; with_unfolding_all rfl)
  iterate 3 walk1
  rename Fr _ _ _ _ => F2
  rename News _ _ _ _ => N2
  refine tail_list (its := vs.toArray) rfl F2 N2 (by rw [List.size_toArray, sizeLine_eq]; omega) (by decide) rfl (fun i ys nw => nw = news ∧ Paired NameIs ys (rs.take i)) ⟨rfl, .nil⟩ (fun i ys nw h => .inr ⟨_, h.1 ▸ hR, rfl, _, rfl⟩) ?_ ?_
  · rintro i v ys nw I oI C oC D m₁ h tk E' hi hv ⟨rfl, hys⟩ hC F3 N3 off ne hCL hC₀
    (try k_fold)
    obtain ⟨⟨rk, rt⟩, hr, tt, k1, k2, rfl, hm⟩ := paired_get hrs i v (by simpa using hv)
    refine comp_pair_assign rfl F3 N3 hC off ne hCL hC₀ (News.isTup N3 (List.mem_cons_of_mem _ (List.mem_cons_of_mem _ (List.mem_cons_of_mem _ hm)))) rfl rfl rfl ?_
    intro h4 tk4 oC4 F4 N4 hC4
    refine wpAny_tests_nil ?_
    (try dsimp only)
    rw [if_pos rfl]
    refine LCgL.ld_own N4 (List.mem_cons_of_mem _ List.mem_cons_self) hC4 rfl ?_
    refine ⟨_, _, nw, _, _, rfl, F4, N4, hC4, off, rfl, ?_⟩
    rw [List.take_add_one, hr]
    exact hys.snoc ⟨_, rfl⟩
  · rintro ys nw ⟨rfl, hys⟩
    intro D h tk F3 N3 off
    (try dsimp only)
    iterate 1 walk1
    refine ret _ _ _ _ (by k_asm) (by k_asm) (off1_ne off) ?_
    rw [List.size_toArray, hrs.length, List.take_length] at hys
    exact hys
set_option maxRecDepth 100000 in
set_option maxHeartbeats 8000000 in
theorem items_spec (B : Below A₀ base outer h₀) (F : Fr h₀ L s.heap m) (X : (Mine.hd.heap_1 w.params).In h₀) (N : News h₀ L s.heap news) (T : Top p loose mean mg mb h₀) (hk : cs.kind = .function) (hd : dp + 30 < recursionLimit) (hu : un + 300 < cLine)
    {TI R : Addr} {n : Nat} {vs : List Value} (ht : TableAt w news TI R) (hR : (R, listOf vs.toArray n) ∈ news) (hsz : vs.length ≤ 1000)
    (ret : ∀ D n' h' tk', Fr h₀ L h' m → News h₀ L h' ((D, listOf vs.toArray n') :: news) → (∀ p ∈ news, p.1 ≠ D) → Q (.ref D) { s with heap := h', toks := tk' }) :
    wpAny (model PySem.Challenge.rw_uk0024_01.row.prog w) (ktrTop dp un gd cn cs L a ccd cl outer) (call (.ref 135) [.ref TI]) Q E s := by
  k_with_none
  (k_with "ce1" => (refine' code_def ?k1Q9 ?k2Q9 ?k3Q9 ?k4Q9 ?k5Q9 ?kAQ9 ?kFQ9 ?kKQ9 ?k6Q9 ?k7Q9 ?k8Q9 ?k9Q9 ?kBQ9 ?_ ?c2Q9 ?c3Q9 ?c4Q9 ?c5Q9; (case kAQ9 => exact rfl); (case kFQ9 => exact rfl); (case kKQ9 => first | assumption | exact rfl); (case k1Q9 => k_asm); (case k2Q9 => k_asm); (case k3Q9 => k_asm); (case k4Q9 => k_asm); (case k5Q9 => k_asm); (case k6Q9 => k_is); (case k7Q9 => k_is); (case k8Q9 => ktr_room); (case k9Q9 => first | exact BindsTo.of_eq rfl | exact binds_K (by k_in) rfl (by k_is) rfl rfl rfl); (case c5Q9 => decide); (case kBQ9 => exact locs rfl); (case c2Q9 => exact rfl); (case c3Q9 => exact rfl); (case c4Q9 => exact rfl); k_whole))
  (k_with "ce2" => (refine' code_defC ?k1Q9 ?k2Q9 ?k3Q9 ?k4Q9 ?k5Q9 ?kAQ9 ?kFQ9 ?kKQ9 ?k6Q9 ?k7Q9 ?k8Q9 ?k9Q9 ?kBQ9 ?kDQ9 ?_ ?c2Q9 ?c3Q9 ?c4Q9; (case kAQ9 => exact rfl); (case kFQ9 => exact rfl); (case kKQ9 => first | assumption | exact rfl); (case k1Q9 => k_asm); (case k2Q9 => k_asm); (case k3Q9 => k_asm); (case k4Q9 => k_asm); (case k5Q9 => k_asm); (case k6Q9 => k_is); (case k7Q9 => k_is); (case k8Q9 => ktr_room); (case k9Q9 => first | exact BindsTo.of_eq rfl | exact binds_K (by k_in) rfl (by k_is) rfl rfl rfl); (case kBQ9 => exact rfl); (case kDQ9 => decide +kernel); (case c2Q9 => exact rfl); (case c3Q9 => exact rfl); (case c4Q9 => exact rfl); k_whole))
  (k_with "ktr_units" => ((have hcL9 := cLine_is; (simp only [Mine.units_make, PyProof.Rows.units_in1, PyProof.Rows.units_deeper, PySem.Around.mark_units, PyProof.Rows.units_caller, ktrTop] at *); omega)))
  (k_with "ktr_units" => ((simp only [Mine.units_make, PyProof.Rows.units_in1, PyProof.Rows.units_deeper, PySem.Around.mark_units, PyProof.Rows.units_caller]; first | exact Mine.fit2 (by with_reducible assumption) (by decide) | exact Mine.fit3 (by with_reducible assumption) (by decide) | fail "no")))
  (k_with "ktr_units" => (first | exact Mine.fit2 (d := (PySem.W.ktrTop _ _ _ _ _ _ _ _ _ _).units) (by assumption) (by decide) | exact Mine.fit3 (d := (PySem.W.ktrTop _ _ _ _ _ _ _ _ _ _).units) (by assumption) (by decide) | exact Mine.fit1 (d := (PySem.W.ktrTop _ _ _ _ _ _ _ _ _ _).units) (by assumption) (by decide) | fail "no"))
  (k_with "ktr_room" => (first | exact Mine.fit0 (d := (PySem.W.ktrTop _ _ _ _ _ _ _ _ _ _).depth) (by assumption) | exact Mine.fit2 (d := (PySem.W.ktrTop _ _ _ _ _ _ _ _ _ _).depth) (by assumption) (by decide) | exact Mine.fit3 (d := (PySem.W.ktrTop _ _ _ _ _ _ _ _ _ _).depth) (by assumption) (by decide) | exact Mine.fit1 (d := (PySem.W.ktrTop _ _ _ _ _ _ _ _ _ _).depth) (by assumption) (by decide) | fail "no"))
  (k_with "omega" => (first | (lia) | fail "no"))
  (k_with "omega" => (with_reducible first | exact Int.natCast_nonneg _ | exact Mine.le_cl (by decide) | exact Mine.lt_cl (by decide) | fail "no"))
  (k_with "simp" => (with_reducible first | exact List.mem_cons_self | (refine List.mem_cons_of_mem _ ?_; simp; done) | fail "no"))
  (k_with "simph" => (with_reducible first | assumption | exact List.mem_cons_of_mem _ (by assumption) | exact Or.inl (by assumption) | exact List.mem_append_left _ (by assumption) | exact List.mem_append_right _ (by assumption) | (refine List.mem_cons_of_mem _ ?_; k_extra "simph"; done) | (refine Or.inr ?_; k_extra "simph"; done) | fail "no"))
  (k_with "perm" => ((refine (?_ : ∀ q ∈ _, q ∈ _) _ (by assumption); (repeat (with_reducible refine List.forall_mem_cons.mpr ⟨by first | exact List.mem_cons_self | (refine List.mem_cons_of_mem _ ?_; simp; done), ?_⟩)); with_reducible (intro q hq; repeat (first | exact hq | refine List.mem_cons_of_mem _ ?_)))))
  (k_with "m_fru" => (first | (with_reducible refine frU_wrap ?_ (by decide); walk_at "m_fru") | exact rfl))
  revert X; k_fill; intro X
  obtain ⟨TD, t, n', h1, h2⟩ := ht.ex
  refine wpAny_call ?_
  k_dflt cell_enter
  iterate 12 walk1
  rename Fr _ _ _ _ => F1
  rename News _ _ _ _ => N1
  k_dflt (refine' kmk_slice_lit (zs := vs) F1 N1 (News.isList N1 hR) IsPart.none IsPart.none ?_ ?_ ?_ ?_ ?_)
  · rw [slicePick_all]
  · intro D h' F2 N2 l1
    (try dsimp only)
    iterate 1 walk1
    exact ret _ _ _ _ (by k_asm) (by k_asm) (fun p hp => Nat.ne_of_lt (l1 p hp))
  · with_unfolding_all rfl
  · intro _; with_unfolding_all rfl
  · rw [List.size_toArray, sizeLine_eq]; omega
end
end Mine
end
section
open PySem PySem.W PyProof.Rows
namespace Mine
set_option maxHeartbeats 4000000
open PyProof.Rows.LCg (SrcAt NsObj Off3 Off1 lst)
section
variable {w : World} {p : Program} {loose : List PySem.Str} {mean : ExcName → Option Value} {mg mb : PySem.Str → Option Value}
   {dp un : Nat} {gd : Option (List Code)} {cn : PySem.Str} {cs : PySem.Scope} {a : Addr} {ccd : Value} {cl : List (PySem.Str × Addr)} {outer : List Env} {A₀ : Around} {base h₀ : Heap} {L : Addr} {m : PySem.Str → Option Value} {news : List (Addr × Obj)} {s : Shared} {Q E : Value → Shared → Prop}

set_option maxRecDepth 100000 in
set_option maxHeartbeats 8000000 in
theorem mk_spec (B : Below A₀ base outer h₀) (F : Fr h₀ L s.heap m) (X : (Mine.hd.heap_1 w.params).In h₀) (N : News h₀ L s.heap news) (T : Top p loose mean mg mb h₀) (hk : cs.kind = .function) (hd : dp + 30 < recursionLimit) (hu : un + 300 < cLine)
    {R : Addr} {n : Nat} {vs : List Value} {rs : List (PySem.Str × PySem.Str)} (hR : (R, listOf vs.toArray n) ∈ news) (hrs : RowsAre news vs rs)
    (hx : ∀ r ∈ rs, (Plain r.1 ∧ r.1.cps.size ≤ 1000000) ∧ Plain r.2 ∧ r.2.cps.size ≤ 1000000)
    (ret : ∀ TI TD t h' tk', Fr h₀ L h' m → News h₀ L h' ((TI, instObj 171 TD) :: (TD, dictOf [⟨PyData.keyHash w.params (PySem.Str.ofString "_headers"), .str (PySem.Str.ofString "_headers") t, .ref R⟩] 1) :: news) → (∀ p ∈ news, p.1 ≠ TI ∧ p.1 ≠ TD) → TI ≠ TD → Q (.ref TI) { s with heap := h', toks := tk' }) :
    wpAny (model PySem.Challenge.rw_uk0024_01.row.prog w) (ktrTop dp un gd cn cs L a ccd cl outer) (call (.ref 171) [.ref R]) Q E s := by
  k_with_none
  (k_with "ce1" => (refine' code_def ?k1Q9 ?k2Q9 ?k3Q9 ?k4Q9 ?k5Q9 ?kAQ9 ?kFQ9 ?kKQ9 ?k6Q9 ?k7Q9 ?k8Q9 ?k9Q9 ?kBQ9 ?_ ?c2Q9 ?c3Q9 ?c4Q9 ?c5Q9; (case kAQ9 => exact rfl); (case kFQ9 => exact rfl); (case kKQ9 => first | assumption | exact rfl); (case k1Q9 => k_asm); (case k2Q9 => k_asm); (case k3Q9 => k_asm); (case k4Q9 => k_asm); (case k5Q9 => k_asm); (case k6Q9 => k_is); (case k7Q9 => k_is); (case k8Q9 => ktr_room); (case k9Q9 => first | exact BindsTo.of_eq rfl | exact binds_K (by k_in) rfl (by k_is) rfl rfl rfl); (case c5Q9 => decide); (case kBQ9 => exact locs rfl); (case c2Q9 => exact rfl); (case c3Q9 => exact rfl); (case c4Q9 => exact rfl); k_whole))
  (k_with "ce2" => (refine' code_defC ?k1Q9 ?k2Q9 ?k3Q9 ?k4Q9 ?k5Q9 ?kAQ9 ?kFQ9 ?kKQ9 ?k6Q9 ?k7Q9 ?k8Q9 ?k9Q9 ?kBQ9 ?kDQ9 ?_ ?c2Q9 ?c3Q9 ?c4Q9; (case kAQ9 => exact rfl); (case kFQ9 => exact rfl); (case kKQ9 => first | assumption | exact rfl); (case k1Q9 => k_asm); (case k2Q9 => k_asm); (case k3Q9 => k_asm); (case k4Q9 => k_asm); (case k5Q9 => k_asm); (case k6Q9 => k_is); (case k7Q9 => k_is); (case k8Q9 => ktr_room); (case k9Q9 => first | exact BindsTo.of_eq rfl | exact binds_K (by k_in) rfl (by k_is) rfl rfl rfl); (case kBQ9 => exact rfl); (case kDQ9 => decide +kernel); (case c2Q9 => exact rfl); (case c3Q9 => exact rfl); (case c4Q9 => exact rfl); k_whole))
  (k_with "ktr_units" => ((have hcL9 := cLine_is; (simp only [Mine.units_make, PyProof.Rows.units_in1, PyProof.Rows.units_deeper, PySem.Around.mark_units, PyProof.Rows.units_caller, ktrTop] at *); omega)))
  (k_with "ktr_units" => ((simp only [Mine.units_make, PyProof.Rows.units_in1, PyProof.Rows.units_deeper, PySem.Around.mark_units, PyProof.Rows.units_caller]; first | exact Mine.fit2 (by with_reducible assumption) (by decide) | exact Mine.fit3 (by with_reducible assumption) (by decide) | fail "no")))
  (k_with "ktr_units" => (first | exact Mine.fit2 (d := (PySem.W.ktrTop _ _ _ _ _ _ _ _ _ _).units) (by assumption) (by decide) | exact Mine.fit3 (d := (PySem.W.ktrTop _ _ _ _ _ _ _ _ _ _).units) (by assumption) (by decide) | exact Mine.fit1 (d := (PySem.W.ktrTop _ _ _ _ _ _ _ _ _ _).units) (by assumption) (by decide) | fail "no"))
  (k_with "ktr_room" => (first | exact Mine.fit0 (d := (PySem.W.ktrTop _ _ _ _ _ _ _ _ _ _).depth) (by assumption) | exact Mine.fit2 (d := (PySem.W.ktrTop _ _ _ _ _ _ _ _ _ _).depth) (by assumption) (by decide) | exact Mine.fit3 (d := (PySem.W.ktrTop _ _ _ _ _ _ _ _ _ _).depth) (by assumption) (by decide) | exact Mine.fit1 (d := (PySem.W.ktrTop _ _ _ _ _ _ _ _ _ _).depth) (by assumption) (by decide) | fail "no"))
  (k_with "omega" => (first | (lia) | fail "no"))
  (k_with "omega" => (with_reducible first | exact Int.natCast_nonneg _ | exact Mine.le_cl (by decide) | exact Mine.lt_cl (by decide) | fail "no"))
  (k_with "simp" => (with_reducible first | exact List.mem_cons_self | (refine List.mem_cons_of_mem _ ?_; simp; done) | fail "no"))
  (k_with "simph" => (with_reducible first | assumption | exact List.mem_cons_of_mem _ (by assumption) | exact Or.inl (by assumption) | exact List.mem_append_left _ (by assumption) | exact List.mem_append_right _ (by assumption) | (refine List.mem_cons_of_mem _ ?_; k_extra "simph"; done) | (refine Or.inr ?_; k_extra "simph"; done) | fail "no"))
  (k_with "perm" => ((refine (?_ : ∀ q ∈ _, q ∈ _) _ (by assumption); (repeat (with_reducible refine List.forall_mem_cons.mpr ⟨by first | exact List.mem_cons_self | (refine List.mem_cons_of_mem _ ?_; simp; done), ?_⟩)); with_reducible (intro q hq; repeat (first | exact hq | refine List.mem_cons_of_mem _ ?_)))))
  (k_with "m_fru" => (first | (with_reducible refine frU_wrap ?_ (by decide); walk_at "m_fru") | exact rfl))
  (k_with "call ref" => ((k_dflt (refine' cst_spec (B := ?BQ9) (F := ?FQ9) (X := ?XQ9) (N := ?NQ9) (T := ?TQ9) (hk := ?hkQ9) (hd := ?hdQ9) (hu := ?huQ9) (hx := ?hxQ9) (hl := ?hlQ9) (ret := ?_); (case BQ9 => k_asm); (case FQ9 => k_asm); (case XQ9 => k_asm); (case NQ9 => k_asm); (case TQ9 => k_asm); (case hkQ9 => first | exact rfl | assumption); (case hdQ9 => ktr_room); (case huQ9 => ktr_units); (case hxQ9 => assumption); (case hlQ9 => assumption)); intro _ _ _ _; (try dsimp only))))
  (k_with "call type:type" => ((with_reducible show wpAny _ _ (call (Value.type "type") [Value.ref _]) _ _ _; (k_dflt (refine' kto_cont (T := "list") ?cQ9 ?nQ9 ?_; (case cQ9 => exact ⟨_, (News.get (by k_asm) (by k_mem)), rfl⟩); (case nQ9 => decide +kernel))))))
  revert X; k_fill; intro X
  refine call_cls (K := Mine.hd.heap_1 w.params) F X N (by k_dflt k_is) (by k_dflt k_is) (by k_dflt k_is) ?_
  intro x' d' h' F' N' l1 l2
  have l3 : ∀ p ∈ news, p.1 ≠ d' := fun p hp => Nat.ne_of_lt (l1 p hp)
  have l4 : x' ≠ d' := Nat.ne_of_gt l2
  have l5 : ∀ p ∈ news, p.1 ≠ x' := fun p hp => Nat.ne_of_lt (Nat.lt_trans (l1 p hp) l2)
  k_dflt cell_enter
  iterate 21 walk1
  rename News _ _ _ _ => N1
  k_dflt (refine' kto_cont (T := "list") ?c ?n ?_)
  case c => exact ⟨_, (N1 _ (List.mem_cons_of_mem _ (List.mem_cons_of_mem _ hR))).1, rfl⟩
  case n => decide +kernel
  iterate 19 walk1
  refine wpAny_For ?_
  walk1
  rename Fr _ _ _ _ => F1
  rename News _ _ _ _ => N1
  refine for_listU (items := vs.toArray) [PySem.Str.ofString "k", PySem.Str.ofString "v"] rfl F1 N1 (fun i u nw => nw = _ :: _ :: news) rfl (fun i u nw h => .inr ⟨_, h ▸ List.mem_cons_of_mem _ (List.mem_cons_of_mem _ hR), rfl, _, rfl⟩) ?_ ?_
  · rintro i v u nw h tk I oI E' hv rfl F2 N2 off
    obtain ⟨⟨rk, rt⟩, hr, tt, k1, k2, rfl, hm⟩ := paired_get hrs i v (by simpa using hv)
    refine pair_assign rfl F2 N2 (News.isTup N2 (List.mem_cons_of_mem _ (List.mem_cons_of_mem _ (List.mem_cons_of_mem _ hm)))) rfl rfl rfl ?_
    intro h3 tk3 F3 N3
    obtain ⟨⟨p1, p2⟩, p3, p4⟩ := hx _ (List.mem_of_getElem? hr)
    dsimp only at p1 p2 p3 p4
    repeat (first | walk1 | (dsimp only; walk1))
    repeat (first | walk1 | (dsimp only; walk1))
    rename Fr _ _ _ _ => F9
    rename News _ _ _ _ => N9
    exact ⟨_, _, _, _, rfl, F9, N9, off, _, frU_wrap (frU_wrap rfl (by decide)) (by decide), rfl⟩
  · rintro u nw h tk rfl F2 N2
    (try dsimp only)
    iterate 3 walk1
    exact ret _ _ _ _ _ (by k_asm) (by k_asm) (fun p hp => ⟨l5 p hp, l3 p hp⟩) l4
end
end Mine
end
section
open PySem PySem.W PyProof.Rows PyProof.V PySem.Spec
namespace Mine
set_option maxHeartbeats 4000000
open PyProof.Rows.LCg (SrcAt NsObj Off3 Off1 lst FinE)

/-- a hand's signs and references, as the law lists them -/
def refL (way : Nat) : List (PySem.Str × PySem.Str) := match way with
  | 0 => [("&", "&amp;"), ("<", "&lt;"), (">", "&gt;")]
  | 1 => [("&", "&amp;"), ("<", "&lt;"), (">", "&gt;"), ("\r", "&#xD;")]
  | 2 => [("&", "&amp;"), ("<", "&lt;"), (">", "&gt;"), ("\"", "&quot;"), ("\r", "&#13;"), ("\n", "&#10;"), ("\t", "&#09;")]
  | 3 => [("&", "&amp;"), ("<", "&lt;"), ("\"", "&quot;"), ("\r", "&#xD;"), ("\n", "&#xA;"), ("\t", "&#x9;")]
  | _ => [("&", "&amp;"), (">", "&gt;"), ("\"", "&quot;")]
def refD (way : Nat) : List (PyData × PyData) := (refL way).map fun p => (.str p.1, .str p.2)
theorem allLt_of {d : Addr} {l : List (Addr × Obj)} (h : AllLt d l) : ∀ p ∈ l, p.1 < d := by
  induction l with
  | nil => intro p hp; cases hp
  | cons q r ih =>
    obtain ⟨h1, h2⟩ := h
    intro p hp
    rcases List.mem_cons.mp hp with rfl | hp
    · exact h1
    · exact ih h2 p hp
structure RefsAt (w : World) (o : Obj) (way : Nat) : Prop where
  ex : ∃ kvs, o.IsDictOf (strKind PySem.Challenge.rw_uk0024_01.row.prog w) kvs ∧ FlatPairs PyData.str kvs (refD way)
section
variable {w : World} {s : Shared} {h₀ : Heap} {L d : Addr} {m : PySem.Str → Option Value} {news : List (Addr × Obj)} {g : Obj → List (Addr × Obj)} {o : Obj} {Q : Value → Shared → Prop} {vs : List (Value × Value)}
theorem dict_made (way : Nat) (F : Fr h₀ L s.heap m) (N : News h₀ L s.heap news) (U : UpdF d o news g) (hd : o.IsDictOf (strKind PySem.Challenge.rw_uk0024_01.row.prog w) []) (hk : allStrKeys vs = true) (hn : ((strPairs vs).map (·.1)).Nodup) (hv : allFlat vs = true) (e : strData vs = refD way)
    (h : ∀ h' o' tk, Fr h₀ L h' m → News h₀ L h' (g o') → RefsAt w o' way → Q (.ref d) { s with heap := h', toks := tk }) : KdnMade PySem.Challenge.rw_uk0024_01.row.prog w (strKind PySem.Challenge.rw_uk0024_01.row.prog w) d Q vs s :=
  kdn_made_strF F N U hd hk hn hv fun h' o' F' N' x y => h h' o' _ F' N' ⟨_, x, e ▸ y⟩
end
section
variable {w : World} {p : Program} {loose : List PySem.Str} {mean : ExcName → Option Value} {mg mb : PySem.Str → Option Value}
   {dp un : Nat} {gd : Option (List Code)} {cn : PySem.Str} {cs : PySem.Scope} {a : Addr} {ccd : Value} {cl : List (PySem.Str × Addr)} {outer : List Env} {A₀ : Around} {base h₀ : Heap} {L : Addr} {m : PySem.Str → Option Value} {news : List (Addr × Obj)} {s : Shared} {Q E : Value → Shared → Prop}

set_option maxRecDepth 100000 in
set_option maxHeartbeats 8000000 in
theorem refs_spec (B : Below A₀ base outer h₀) (F : Fr h₀ L s.heap m) (X : (Mine.hd.heap_1 w.params).In h₀) (N : News h₀ L s.heap news) (T : Top p loose mean mg mb h₀) (hk : cs.kind = .function) (hd : dp + 30 < recursionLimit) (hu : un + 300 < cLine)
    {way : Nat} (hw : way < 5) {t : Tok}
    (ret : ∀ D oD h' tk', Fr h₀ L h' m → News h₀ L h' ((D, oD) :: news) → (∀ p ∈ news, p.1 ≠ D) → (D == sysModules) = false → RefsAt w oD way → Q (.ref D) { s with heap := h', toks := tk' }) :
    wpAny (model PySem.Challenge.rw_uk0024_01.row.prog w) (ktrTop dp un gd cn cs L a ccd cl outer) (call (.ref 258) [.int (way : Int) t]) Q E s := by
  k_with_none
  (k_with "ce1" => (refine' code_def ?k1Q9 ?k2Q9 ?k3Q9 ?k4Q9 ?k5Q9 ?kAQ9 ?kFQ9 ?kKQ9 ?k6Q9 ?k7Q9 ?k8Q9 ?k9Q9 ?kBQ9 ?_ ?c2Q9 ?c3Q9 ?c4Q9 ?c5Q9; (case kAQ9 => exact rfl); (case kFQ9 => exact rfl); (case kKQ9 => first | assumption | exact rfl); (case k1Q9 => k_asm); (case k2Q9 => k_asm); (case k3Q9 => k_asm); (case k4Q9 => k_asm); (case k5Q9 => k_asm); (case k6Q9 => k_is); (case k7Q9 => k_is); (case k8Q9 => ktr_room); (case k9Q9 => first | exact BindsTo.of_eq rfl | exact binds_K (by k_in) rfl (by k_is) rfl rfl rfl); (case c5Q9 => decide); (case kBQ9 => exact locs rfl); (case c2Q9 => exact rfl); (case c3Q9 => exact rfl); (case c4Q9 => exact rfl); k_whole))
  (k_with "ce2" => (refine' code_defC ?k1Q9 ?k2Q9 ?k3Q9 ?k4Q9 ?k5Q9 ?kAQ9 ?kFQ9 ?kKQ9 ?k6Q9 ?k7Q9 ?k8Q9 ?k9Q9 ?kBQ9 ?kDQ9 ?_ ?c2Q9 ?c3Q9 ?c4Q9; (case kAQ9 => exact rfl); (case kFQ9 => exact rfl); (case kKQ9 => first | assumption | exact rfl); (case k1Q9 => k_asm); (case k2Q9 => k_asm); (case k3Q9 => k_asm); (case k4Q9 => k_asm); (case k5Q9 => k_asm); (case k6Q9 => k_is); (case k7Q9 => k_is); (case k8Q9 => ktr_room); (case k9Q9 => first | exact BindsTo.of_eq rfl | exact binds_K (by k_in) rfl (by k_is) rfl rfl rfl); (case kBQ9 => exact rfl); (case kDQ9 => decide +kernel); (case c2Q9 => exact rfl); (case c3Q9 => exact rfl); (case c4Q9 => exact rfl); k_whole))
  (k_with "ktr_units" => ((have hcL9 := cLine_is; (simp only [Mine.units_make, PyProof.Rows.units_in1, PyProof.Rows.units_deeper, PySem.Around.mark_units, PyProof.Rows.units_caller, ktrTop] at *); omega)))
  (k_with "ktr_units" => ((simp only [Mine.units_make, PyProof.Rows.units_in1, PyProof.Rows.units_deeper, PySem.Around.mark_units, PyProof.Rows.units_caller]; first | exact Mine.fit2 (by with_reducible assumption) (by decide) | exact Mine.fit3 (by with_reducible assumption) (by decide) | fail "no")))
  (k_with "ktr_units" => (first | exact Mine.fit2 (d := (PySem.W.ktrTop _ _ _ _ _ _ _ _ _ _).units) (by assumption) (by decide) | exact Mine.fit3 (d := (PySem.W.ktrTop _ _ _ _ _ _ _ _ _ _).units) (by assumption) (by decide) | exact Mine.fit1 (d := (PySem.W.ktrTop _ _ _ _ _ _ _ _ _ _).units) (by assumption) (by decide) | fail "no"))
  (k_with "ktr_room" => (first | exact Mine.fit0 (d := (PySem.W.ktrTop _ _ _ _ _ _ _ _ _ _).depth) (by assumption) | exact Mine.fit2 (d := (PySem.W.ktrTop _ _ _ _ _ _ _ _ _ _).depth) (by assumption) (by decide) | exact Mine.fit3 (d := (PySem.W.ktrTop _ _ _ _ _ _ _ _ _ _).depth) (by assumption) (by decide) | exact Mine.fit1 (d := (PySem.W.ktrTop _ _ _ _ _ _ _ _ _ _).depth) (by assumption) (by decide) | fail "no"))
  (k_with "omega" => (first | (lia) | fail "no"))
  (k_with "omega" => (with_reducible first | exact Int.natCast_nonneg _ | exact Mine.le_cl (by decide) | exact Mine.lt_cl (by decide) | fail "no"))
  (k_with "simp" => (with_reducible first | exact List.mem_cons_self | (refine List.mem_cons_of_mem _ ?_; simp; done) | fail "no"))
  (k_with "simph" => (with_reducible first | assumption | exact List.mem_cons_of_mem _ (by assumption) | exact Or.inl (by assumption) | exact List.mem_append_left _ (by assumption) | exact List.mem_append_right _ (by assumption) | (refine List.mem_cons_of_mem _ ?_; k_extra "simph"; done) | (refine Or.inr ?_; k_extra "simph"; done) | fail "no"))
  (k_with "perm" => ((refine (?_ : ∀ q ∈ _, q ∈ _) _ (by assumption); (repeat (with_reducible refine List.forall_mem_cons.mpr ⟨by first | exact List.mem_cons_self | (refine List.mem_cons_of_mem _ ?_; simp; done), ?_⟩)); with_reducible (intro q hq; repeat (first | exact hq | refine List.mem_cons_of_mem _ ?_)))))
  (k_with "m_fru" => (first | (with_reducible refine frU_wrap ?_ (by decide); walk_at "m_fru") | exact rfl))
  (k_with "call builtin:len" => (((with_reducible show wpAny _ _ (call (Value.builtin "len") [Value.ref _]) _ _ _); k_dflt (refine' len_list ?lQ9 ?fQ9 ?_; (case lQ9 => exact News.isList (by k_asm) (by k_mem)); (case fQ9 => (simp only [List.size_toArray]; omega))); (try simp only [List.size_toArray]))))
  (k_with "m_go" => (repeat (
    (fail_if_success (with_reducible show wpAny _ _ (exec (PySem.Stmt.While _ _ _ _) _) _ _ _));
    (fail_if_success (with_reducible show wpAny _ _ (exec (PySem.Stmt.For _ _ _ _ _) _) _ _ _));
    (fail_if_success (with_reducible show wpAny _ _ (exec (PySem.Stmt.Assign _ (PySem.Expr.ListComp _ _ _ _) _) _) _ _ _));
    (fail_if_success (with_reducible show wpAny _ _ (eval (PySem.Expr.ListComp _ _ _ _) _) _ _ _));
    first | walk1 | (dsimp only; walk1))))
  (k_with "eval Name" => ((k_here; k_dflt (refine' nameX_L ?FQ9 ?vQ9 ?_ ?aQ9 ?bQ9; (case aQ9 => rfl); (case bQ9 => rfl); (case FQ9 => k_asm); (case vQ9 => first | exact rfl | assumption)))))
  (k_with "eval Dict" => ((k_dflt (refine' kdn_eval (knd := strKind _ _) ?FQ9 ?NQ9 ?bQ9 ?aQ9 ?lQ9 ?eQ9 ?nQ9 ?_; (case FQ9 => k_asm); (case NQ9 => k_asm); (case bQ9 => exact Top.nolimit (by k_asm)); (case aQ9 => rfl); (case lQ9 => rfl); (case eQ9 => exact List.cons_ne_nil _ _); (case nQ9 => exact Nat.le_of_ble_eq_true rfl)); intro _ _ _ _ _ qqL _ _; (try k_lt qqL); (try dsimp only))))
  (k_with "KdnMade 0" => (((try dsimp only); k_dflt (refine' dict_made 0 ?FQ9 ?NQ9 ?UQ9 ?dQ9 ?kQ9 ?nQ9 ?vQ9 ?eQ9 ?_; (case FQ9 => k_asm); (case NQ9 => k_asm); (case UQ9 => k_updF); (case dQ9 => k_asm); (case kQ9 => rfl); (case nQ9 => exact of_decide_eq_true (by first | rfl | kernel_rfl!)); (case vQ9 => rfl); (case eQ9 => rfl)); intro _ _ _ _ qqN _; (try dsimp only at qqN); (try dsimp only))))
  (k_with "KdnMade 1" => (((try dsimp only); k_dflt (refine' dict_made 1 ?FQ9 ?NQ9 ?UQ9 ?dQ9 ?kQ9 ?nQ9 ?vQ9 ?eQ9 ?_; (case FQ9 => k_asm); (case NQ9 => k_asm); (case UQ9 => k_updF); (case dQ9 => k_asm); (case kQ9 => rfl); (case nQ9 => exact of_decide_eq_true (by first | rfl | kernel_rfl!)); (case vQ9 => rfl); (case eQ9 => rfl)); intro _ _ _ _ qqN _; (try dsimp only at qqN); (try dsimp only))))
  (k_with "KdnMade 2" => (((try dsimp only); k_dflt (refine' dict_made 2 ?FQ9 ?NQ9 ?UQ9 ?dQ9 ?kQ9 ?nQ9 ?vQ9 ?eQ9 ?_; (case FQ9 => k_asm); (case NQ9 => k_asm); (case UQ9 => k_updF); (case dQ9 => k_asm); (case kQ9 => rfl); (case nQ9 => exact of_decide_eq_true (by first | rfl | kernel_rfl!)); (case vQ9 => rfl); (case eQ9 => rfl)); intro _ _ _ _ qqN _; (try dsimp only at qqN); (try dsimp only))))
  (k_with "KdnMade 3" => (((try dsimp only); k_dflt (refine' dict_made 3 ?FQ9 ?NQ9 ?UQ9 ?dQ9 ?kQ9 ?nQ9 ?vQ9 ?eQ9 ?_; (case FQ9 => k_asm); (case NQ9 => k_asm); (case UQ9 => k_updF); (case dQ9 => k_asm); (case kQ9 => rfl); (case nQ9 => exact of_decide_eq_true (by first | rfl | kernel_rfl!)); (case vQ9 => rfl); (case eQ9 => rfl)); intro _ _ _ _ qqN _; (try dsimp only at qqN); (try dsimp only))))
  (k_with "KdnMade 4" => (((try dsimp only); k_dflt (refine' dict_made 4 ?FQ9 ?NQ9 ?UQ9 ?dQ9 ?kQ9 ?nQ9 ?vQ9 ?eQ9 ?_; (case FQ9 => k_asm); (case NQ9 => k_asm); (case UQ9 => k_updF); (case dQ9 => k_asm); (case kQ9 => rfl); (case nQ9 => exact of_decide_eq_true (by first | rfl | kernel_rfl!)); (case vQ9 => rfl); (case eQ9 => rfl)); intro _ _ _ _ qqN _; (try dsimp only at qqN); (try dsimp only))))
  (k_with "m_go3" => (repeat (
    (fail_if_success (with_reducible show KdnMade _ _ _ _ _ _ _));
    first | walk1 | (dsimp only; walk1))))
  (k_with "execs cons" => (refine wpAny_execs_cons ?_; k_fold))
  (k_with "walk1" => (k_unfold; (try dsimp only); (try clear ek); (try clear qk); walk1))
  revert X; k_fill; intro X
  refine wpAny_call ?_
  k_dflt cell_enter
  rename_i g' L' h' FG' F' N' B' X' T'
  walk_at "m_go3"
  walk_at "KdnMade 0"
  walk_at "m_go3"
  walk_at "KdnMade 1"
  walk_at "m_go3"
  walk_at "KdnMade 2"
  walk_at "m_go3"
  walk_at "KdnMade 3"
  walk_at "m_go3"
  walk_at "KdnMade 4"
  have hc : way = 0 ∨ way = 1 ∨ way = 2 ∨ way = 3 ∨ way = 4 := by omega
  iterate 3 (first | walk1 | (dsimp only; walk1))
  rcases hc with rfl | rfl | rfl | rfl | rfl
  all_goals (walk_at "m_go3")
  all_goals (
    rename News h₀ L _ _ => NN
    refine ret _ _ _ _ (by k_asm) (fun q hq => NN q ?_) (fun p hp => ?_) (by assumption) (by assumption)
    · walk_at "perm"
    · first
        | exact Nat.ne_of_lt ((by assumption : ∀ p ∈ news, p.1 < _) p hp)
        | (refine Nat.ne_of_lt (allLt_of ?_ p hp)
           first | assumption | exact And.right (by assumption) | exact And.right (And.right (by assumption)) | exact And.right (And.right (And.right (by assumption))) | exact And.right (And.right (And.right (And.right (by assumption))))))
end
end Mine
end
section
open PySem PySem.W PyProof.Rows
namespace Mine
set_option maxHeartbeats 4000000
open PyProof.Rows.LCg (SrcAt NsObj Off3 Off1 lst FinE)

theorem News.first {h₀ h : Heap} {L : Addr} {T : Addr} {o : Obj} {l : List (Addr × Obj)} (N : News h₀ L h ((T, o) :: l)) : ∃ TT, TT = T := ⟨T, rfl⟩
theorem range_upto (n : Nat) : Builtin.Range.rangeSize 0 (n : Int) 1 = (n : Int) := by
  unfold Builtin.Range.rangeSize
  rw [if_pos (by omega)]
  split <;> omega
theorem range_small {n : Nat} (h : n ≤ 70) : Builtin.Range.small 0 (n : Int) 1 = true := by
  have : ∀ m : Fin 71, Builtin.Range.small 0 ((m : Nat) : Int) 1 = true := by decide +kernel
  exact this ⟨n, by omega⟩
theorem isList_keep {h₀ h : Heap} {L : Addr} {m : PySem.Str → Option Value} {S : Addr} {its : Array Value} (F : Fr h₀ L h m) (hS : h₀.IsList S its) : h.IsList S its :=
  let ⟨o, a, r⟩ := hS; ⟨o, F.keep _ _ a, r⟩
section
variable {w : World} {p : Program} {loose : List PySem.Str} {mean : ExcName → Option Value} {mg mb : PySem.Str → Option Value}
   {dp un : Nat} {gd : Option (List Code)} {cn : PySem.Str} {cs : PySem.Scope} {a : Addr} {ccd : Value} {cl : List (PySem.Str × Addr)} {outer : List Env} {A₀ : Around} {base h₀ : Heap} {L : Addr} {m : PySem.Str → Option Value} {news : List (Addr × Obj)} {s : Shared} {Q E : Value → Shared → Prop}

set_option maxRecDepth 100000 in
set_option maxHeartbeats 8000000 in
theorem cells_spec (B : Below A₀ base outer h₀) (F : Fr h₀ L s.heap m) (X : (Mine.hd.heap_1 w.params).In h₀) (N : News h₀ L s.heap news) (T : Top p loose mean mg mb h₀) (hk : cs.kind = .function) (hd : dp + 30 < recursionLimit) (hu : un + 300 < cLine)
    {S : Addr} {vs : List Value} {ns : List Int} (hS : h₀.IsList S vs.toArray) (hI : IntsAre vs ns) (hlen : ns.length ≤ 63)
    (ret : ∀ D vs' ns' n h' tk', Fr h₀ L h' m → News h₀ L h' ((D, listOf (List.toArray vs') n) :: news) → (∀ p ∈ news, p.1 ≠ D) → IntsAre vs' ns' → ns'.length = 7 → (∀ x ∈ ns', 0 ≤ x ∧ x < 1000) → Q (.ref D) { s with heap := h', toks := tk' }) :
    wpAny (model PySem.Challenge.rw_uk0024_01.row.prog w) (ktrTop dp un gd cn cs L a ccd cl outer) (call (.ref 251) [.ref S]) Q E s := by
  k_with_none
  (k_with "ce1" => (refine' code_def ?k1Q9 ?k2Q9 ?k3Q9 ?k4Q9 ?k5Q9 ?kAQ9 ?kFQ9 ?kKQ9 ?k6Q9 ?k7Q9 ?k8Q9 ?k9Q9 ?kBQ9 ?_ ?c2Q9 ?c3Q9 ?c4Q9 ?c5Q9; (case kAQ9 => exact rfl); (case kFQ9 => exact rfl); (case kKQ9 => first | assumption | exact rfl); (case k1Q9 => k_asm); (case k2Q9 => k_asm); (case k3Q9 => k_asm); (case k4Q9 => k_asm); (case k5Q9 => k_asm); (case k6Q9 => k_is); (case k7Q9 => k_is); (case k8Q9 => ktr_room); (case k9Q9 => first | exact BindsTo.of_eq rfl | exact binds_K (by k_in) rfl (by k_is) rfl rfl rfl); (case c5Q9 => decide); (case kBQ9 => exact locs rfl); (case c2Q9 => exact rfl); (case c3Q9 => exact rfl); (case c4Q9 => exact rfl); k_whole))
  (k_with "ce2" => (refine' code_defC ?k1Q9 ?k2Q9 ?k3Q9 ?k4Q9 ?k5Q9 ?kAQ9 ?kFQ9 ?kKQ9 ?k6Q9 ?k7Q9 ?k8Q9 ?k9Q9 ?kBQ9 ?kDQ9 ?_ ?c2Q9 ?c3Q9 ?c4Q9; (case kAQ9 => exact rfl); (case kFQ9 => exact rfl); (case kKQ9 => first | assumption | exact rfl); (case k1Q9 => k_asm); (case k2Q9 => k_asm); (case k3Q9 => k_asm); (case k4Q9 => k_asm); (case k5Q9 => k_asm); (case k6Q9 => k_is); (case k7Q9 => k_is); (case k8Q9 => ktr_room); (case k9Q9 => first | exact BindsTo.of_eq rfl | exact binds_K (by k_in) rfl (by k_is) rfl rfl rfl); (case kBQ9 => exact rfl); (case kDQ9 => decide +kernel); (case c2Q9 => exact rfl); (case c3Q9 => exact rfl); (case c4Q9 => exact rfl); k_whole))
  (k_with "ktr_units" => ((have hcL9 := cLine_is; (simp only [Mine.units_make, PyProof.Rows.units_in1, PyProof.Rows.units_deeper, PySem.Around.mark_units, PyProof.Rows.units_caller, ktrTop] at *); omega)))
  (k_with "ktr_units" => ((simp only [Mine.units_make, PyProof.Rows.units_in1, PyProof.Rows.units_deeper, PySem.Around.mark_units, PyProof.Rows.units_caller]; first | exact Mine.fit2 (by with_reducible assumption) (by decide) | exact Mine.fit3 (by with_reducible assumption) (by decide) | fail "no")))
  (k_with "ktr_units" => (first | exact Mine.fit2 (d := (PySem.W.ktrTop _ _ _ _ _ _ _ _ _ _).units) (by assumption) (by decide) | exact Mine.fit3 (d := (PySem.W.ktrTop _ _ _ _ _ _ _ _ _ _).units) (by assumption) (by decide) | exact Mine.fit1 (d := (PySem.W.ktrTop _ _ _ _ _ _ _ _ _ _).units) (by assumption) (by decide) | fail "no"))
  (k_with "ktr_room" => (first | exact Mine.fit0 (d := (PySem.W.ktrTop _ _ _ _ _ _ _ _ _ _).depth) (by assumption) | exact Mine.fit2 (d := (PySem.W.ktrTop _ _ _ _ _ _ _ _ _ _).depth) (by assumption) (by decide) | exact Mine.fit3 (d := (PySem.W.ktrTop _ _ _ _ _ _ _ _ _ _).depth) (by assumption) (by decide) | exact Mine.fit1 (d := (PySem.W.ktrTop _ _ _ _ _ _ _ _ _ _).depth) (by assumption) (by decide) | fail "no"))
  (k_with "omega" => (first | (lia) | fail "no"))
  (k_with "omega" => (with_reducible first | exact Int.natCast_nonneg _ | exact Mine.le_cl (by decide) | exact Mine.lt_cl (by decide) | fail "no"))
  (k_with "simp" => (with_reducible first | exact List.mem_cons_self | (refine List.mem_cons_of_mem _ ?_; simp; done) | fail "no"))
  (k_with "simph" => (with_reducible first | assumption | exact List.mem_cons_of_mem _ (by assumption) | exact Or.inl (by assumption) | exact List.mem_append_left _ (by assumption) | exact List.mem_append_right _ (by assumption) | (refine List.mem_cons_of_mem _ ?_; k_extra "simph"; done) | (refine Or.inr ?_; k_extra "simph"; done) | fail "no"))
  (k_with "perm" => ((refine (?_ : ∀ q ∈ _, q ∈ _) _ (by assumption); (repeat (with_reducible refine List.forall_mem_cons.mpr ⟨by first | exact List.mem_cons_self | (refine List.mem_cons_of_mem _ ?_; simp; done), ?_⟩)); with_reducible (intro q hq; repeat (first | exact hq | refine List.mem_cons_of_mem _ ?_)))))
  (k_with "m_fru" => (first | (with_reducible refine frU_wrap ?_ (by decide); walk_at "m_fru") | exact rfl))
  (k_with "call builtin:len" => (((with_reducible show wpAny _ _ (call (Value.builtin "len") [Value.ref _]) _ _ _); k_dflt (refine' len_list ?lQ9 ?fQ9 ?_; (case lQ9 => exact News.isList (by k_asm) (by k_mem)); (case fQ9 => (simp only [List.size_toArray]; omega))); (try simp only [List.size_toArray]))))
  (k_with "m_go" => (repeat (
    (fail_if_success (with_reducible show wpAny _ _ (exec (PySem.Stmt.While _ _ _ _) _) _ _ _));
    (fail_if_success (with_reducible show wpAny _ _ (exec (PySem.Stmt.For _ _ _ _ _) _) _ _ _));
    (fail_if_success (with_reducible show wpAny _ _ (exec (PySem.Stmt.Assign _ (PySem.Expr.ListComp _ _ _ _) _) _) _ _ _));
    (fail_if_success (with_reducible show wpAny _ _ (eval (PySem.Expr.ListComp _ _ _ _) _) _ _ _));
    first | walk1 | (dsimp only; walk1))))
  (k_with "eval Name" => ((k_here; k_dflt (refine' nameX_L ?FQ9 ?vQ9 ?_ ?aQ9 ?bQ9; (case aQ9 => rfl); (case bQ9 => rfl); (case FQ9 => k_asm); (case vQ9 => first | exact rfl | assumption)))))
  (k_with "call builtin:len" => ((k_dflt (refine' len_list ?lQ9 ?fQ9 ?_; (case lQ9 => exact isList_keep (by k_asm) (by assumption)); (case fQ9 => (simp only [List.size_toArray]; omega))); (try simp only [List.size_toArray]))))
  (k_with "execs cons" => (refine wpAny_execs_cons ?_; k_fold))
  (k_with "walk1" => (k_unfold; (try dsimp only); (try clear ek); (try clear qk); walk1))
  revert X; k_fill; intro X
  have hvl : vs.length = ns.length := hI.length
  refine wpAny_call ?_
  k_dflt cell_enter
  rename_i g' L' h' FG' F' N' B' X' T'
  have hS' := isList_keep FG' hS
  walk_at "m_go"
  refine wpAny_For ?_
  walk_at "m_go"
  rename IsRange _ _ _ _ _ _ _ _ => hr
  rename Fr g' L' _ _ => F3
  rename News g' L' _ _ => N3
  rename ∀ (p : Addr × Obj), p ∈ news → p.1 < _ => hlt
  obtain ⟨lt, hlt'⟩ := News.first N3
  subst hlt'
  refine for_rangeU (n := ns.length) ["k"] rfl hr ?_ ?_ F3 N3 (fun i u nw => ∃ vs1 ns1 n1, nw = (lt, listOf (List.toArray vs1) n1) :: news ∧ IntsAre vs1 ns1 ∧ ns1.length = 7 ∧ ∀ x ∈ ns1, 0 ≤ x ∧ x < 1000) ?_ ?_ ?_
  · exact range_small (by omega)
  · exact range_upto _
  · refine ⟨_, [110, 41, 431, 100, 352, 461, 2], _, rfl, ?_, rfl, by decide⟩
    repeat constructor
  · rintro i t' u nw h tk I oI E' hi ⟨vs1, ns1, n1, rfl, hI1, hl1, hr1⟩ F9 N9 off9
    (try k_fold)
    have q0 : 0 ≤ (0 + (i : Int) * 1 + 2).fmod 7 := by rw [Int.fmod_eq_emod_of_nonneg _ (by decide)]; omega
    have q1 : (0 + (i : Int) * 1 + 2).fmod 7 < ns1.length := by rw [Int.fmod_eq_emod_of_nonneg _ (by decide)]; omega
    have q2 : (0 + (i : Int) * 1 + 2).fmod 7 < 2 ^ 63 := by rw [Int.fmod_eq_emod_of_nonneg _ (by decide)]; omega
    have p0 : 0 ≤ 0 + (i : Int) * 1 := by omega
    have p1 : 0 + (i : Int) * 1 < ns.length := by omega
    have p2 : 0 + (i : Int) * 1 < 2 ^ 63 := by omega
    have hIl : I ≠ lt := fun e => off9 _ List.mem_cons_self e.symm
    walk_at "m_go"
    rename Fr g' L' _ _ => F6
    rename News g' L' _ ((I, oI) :: _) => N6
    rename IntsAre (List.set _ _ _) _ => hI6
    (repeat k_unfold)
    refine ⟨_, _, _, _, rfl, F6, N6, ?_, _, frU_wrap rfl (by decide), _, _, _, rfl, hI6, by rw [List.length_set]; exact hl1, ?_⟩
    · intro q hq
      rcases List.mem_cons.mp hq with rfl | hq
      · exact fun e => hIl e.symm
      · exact off9 q (List.mem_cons_of_mem _ hq)
    intro x hx
    rcases List.mem_or_eq_of_mem_set hx with hx | rfl
    · exact hr1 x hx
    · rw [Int.fmod_eq_emod_of_nonneg _ (by decide)]
      omega
  · rintro u nw h tk ⟨vs1, ns1, n1, rfl, hI1, hl1, hr1⟩ F9 N9
    (try dsimp only)
    walk_at "m_go"
    refine ret _ _ _ _ _ _ (by k_asm) (by k_asm) ?_ hI1 hl1 hr1
    exact fun q hq => Nat.ne_of_lt (hlt q hq)
end
end Mine
end
section
open PySem PySem.W PyProof.Rows PyProof.V PySem.Spec
namespace Mine
set_option maxHeartbeats 4000000
theorem append_L {prog : Program} {w : World} {A : Around} {E : Value → Shared → Prop} {s : Shared} {h₀ : Heap} {L R : Addr} {m : PySem.Str → Option Value} {news : List (Addr × Obj)} {vs : List Value} {n : Nat} {x : Value} {Q : Value → Shared → Prop}
    (F : Fr h₀ L s.heap m) (N : News h₀ L s.heap ((R, listOf (List.toArray vs) n) :: news)) (ne : ∀ q ∈ news, q.1 ≠ R) (hsz : vs.length ≤ 1000)
    (h : ∀ h', Fr h₀ L h' m → News h₀ L h' ((R, listOf (List.toArray (vs ++ [x])) (n + 1)) :: news) → Q .none { s with heap := h' }) :
    wpAny (model prog w) A (call (.builtin "list.append") [.ref R, x]) Q E s := by
  refine append_K F N (.head ne) (fun h' F' N' => h h' F' ?_) (by rw [List.size_toArray, sizeLine_eq]; omega)
  have e : (List.toArray vs).push x = List.toArray (vs ++ [x]) := by simp
  rw [e] at N'
  exact N'

end Mine
end
section
open PySem PySem.W PyProof.Rows
namespace Mine
set_option maxHeartbeats 4000000
open PyProof.Rows.LCg (SrcAt NsObj Off3 Off1 lst FinE)

/-- a function object that hands back an int for each value that P knows -/
def KeyOk (w : World) (p : Program) (loose : List PySem.Str) (mean : ExcName → Option Value) (mg mb : PySem.Str → Option Value) (fn : Addr) (news : List (Addr × Obj)) (P : Value → Int → Prop) : Prop :=
  ∀ (dp un : Nat) (gd : Option (List Code)) (cn : PySem.Str) (cs : PySem.Scope) (a : Addr) (ccd : Value) (cl : List (PySem.Str × Addr)) (outer : List Env) (A₀ : Around) (base h₀ : Heap) (L : Addr) (m : PySem.Str → Option Value) (news' : List (Addr × Obj)) (s : Shared) (Q E : Value → Shared → Prop) (v : Value) (k : Int),
    Below A₀ base outer h₀ → Fr h₀ L s.heap m → (Mine.hd.heap_1 w.params).In h₀ → News h₀ L s.heap news' → Top p loose mean mg mb h₀ → cs.kind = .function → dp + 10 < recursionLimit → un + 100 < cLine → (∀ q ∈ news, q ∈ news') → P v k →
    (∀ t h' tk', Fr h₀ L h' m → News h₀ L h' news' → Q (.int k t) { s with heap := h', toks := tk' }) →
    wpAny (model PySem.Challenge.rw_uk0024_01.row.prog w) (ktrTop dp un gd cn cs L a ccd cl outer) (call (.ref fn) [v]) Q E s
section
variable {w : World} {p : Program} {loose : List PySem.Str} {mean : ExcName → Option Value} {mg mb : PySem.Str → Option Value}
   {dp un : Nat} {gd : Option (List Code)} {cn : PySem.Str} {cs : PySem.Scope} {a : Addr} {ccd : Value} {cl : List (PySem.Str × Addr)} {outer : List Env} {A₀ : Around} {base h₀ : Heap} {L : Addr} {m : PySem.Str → Option Value} {news : List (Addr × Obj)} {s : Shared} {Q E : Value → Shared → Prop}

theorem key_use {fn : Addr} {P : Value → Int → Prop} {news₀ : List (Addr × Obj)} {v : Value} {k : Int} (C : KeyOk w p loose mean mg mb fn news₀ P) (B : Below A₀ base outer h₀) (F : Fr h₀ L s.heap m) (X : (Mine.hd.heap_1 w.params).In h₀) (N : News h₀ L s.heap news) (T : Top p loose mean mg mb h₀) (hk : cs.kind = .function) (hd : dp + 10 < recursionLimit) (hu : un + 100 < cLine)
    (sub : ∀ q ∈ news₀, q ∈ news) (hv : P v k) (ret : ∀ t h' tk', Fr h₀ L h' m → News h₀ L h' news → Q (.int k t) { s with heap := h', toks := tk' }) :
    wpAny (model PySem.Challenge.rw_uk0024_01.row.prog w) (ktrTop dp un gd cn cs L a ccd cl outer) (call (.ref fn) [v]) Q E s := C _ _ _ _ _ _ _ _ _ _ _ _ _ _ _ _ _ _ _ _ B F X N T hk hd hu sub hv ret
set_option maxRecDepth 100000 in
set_option maxHeartbeats 8000000 in
theorem bisL_spec (B : Below A₀ base outer h₀) (F : Fr h₀ L s.heap m) (X : (Mine.hd.heap_1 w.params).In h₀) (N : News h₀ L s.heap news) (T : Top p loose mean mg mb h₀) (hk : cs.kind = .function) (hd : dp + 30 < recursionLimit) (hu : un + 300 < cLine)
    {R fn : Addr} {n : Nat} {vs : List Value} {K : Nat → Int} {lo : Nat} {x : Int} {t1 t2 : Tok} {P : Value → Int → Prop} (hR : (R, listOf vs.toArray n) ∈ news) (hks : ∀ i v, lo ≤ i → vs[i]? = some v → P v (K i)) (C : KeyOk w p loose mean mg mb fn news P) {oc : Value} {od : Option Addr} {fd : FuncData} {sl : Array (Option Value)} (hf : (fn, (⟨oc, od, .func fd, sl⟩ : Obj)) ∈ news) (hlo : lo ≤ vs.length) (hsz : vs.length ≤ 1000)
    (mono : ∀ i j, lo ≤ i → i ≤ j → j < vs.length → K i ≤ K j)
    (ret : ∀ r t h' tk', Fr h₀ L h' m → News h₀ L h' news → lo ≤ r → r ≤ vs.length → (∀ i, lo ≤ i → i < r → K i < x) → (∀ i, r ≤ i → i < vs.length → ¬ K i < x) → Q (.int (r : Int) t) { s with heap := h', toks := tk' }) :
    wpAny (model PySem.Challenge.rw_uk0024_01.row.prog w) (ktrTop dp un gd cn cs L a ccd cl outer) (call (.ref 202) [.ref R, .int x t1, .int (lo : Int) t2] [(PySem.Str.ofString "key", .ref fn)]) Q E s := by
  k_with_none
  (k_with "ce1" => (refine' code_def ?k1Q9 ?k2Q9 ?k3Q9 ?k4Q9 ?k5Q9 ?kAQ9 ?kFQ9 ?kKQ9 ?k6Q9 ?k7Q9 ?k8Q9 ?k9Q9 ?kBQ9 ?_ ?c2Q9 ?c3Q9 ?c4Q9 ?c5Q9; (case kAQ9 => exact rfl); (case kFQ9 => exact rfl); (case kKQ9 => first | assumption | exact rfl); (case k1Q9 => k_asm); (case k2Q9 => k_asm); (case k3Q9 => k_asm); (case k4Q9 => k_asm); (case k5Q9 => k_asm); (case k6Q9 => k_is); (case k7Q9 => k_is); (case k8Q9 => ktr_room); (case k9Q9 => first | exact BindsTo.of_eq rfl | exact binds_K (by k_in) rfl (by k_is) rfl rfl rfl); (case c5Q9 => decide); (case kBQ9 => exact locs rfl); (case c2Q9 => exact rfl); (case c3Q9 => exact rfl); (case c4Q9 => exact rfl); k_whole))
  (k_with "ce2" => (refine' code_defC ?k1Q9 ?k2Q9 ?k3Q9 ?k4Q9 ?k5Q9 ?kAQ9 ?kFQ9 ?kKQ9 ?k6Q9 ?k7Q9 ?k8Q9 ?k9Q9 ?kBQ9 ?kDQ9 ?_ ?c2Q9 ?c3Q9 ?c4Q9; (case kAQ9 => exact rfl); (case kFQ9 => exact rfl); (case kKQ9 => first | assumption | exact rfl); (case k1Q9 => k_asm); (case k2Q9 => k_asm); (case k3Q9 => k_asm); (case k4Q9 => k_asm); (case k5Q9 => k_asm); (case k6Q9 => k_is); (case k7Q9 => k_is); (case k8Q9 => ktr_room); (case k9Q9 => first | exact BindsTo.of_eq rfl | exact binds_K (by k_in) rfl (by k_is) rfl rfl rfl); (case kBQ9 => exact rfl); (case kDQ9 => decide +kernel); (case c2Q9 => exact rfl); (case c3Q9 => exact rfl); (case c4Q9 => exact rfl); k_whole))
  (k_with "ktr_units" => ((have hcL9 := cLine_is; (simp only [Mine.units_make, PyProof.Rows.units_in1, PyProof.Rows.units_deeper, PySem.Around.mark_units, PyProof.Rows.units_caller, ktrTop] at *); omega)))
  (k_with "ktr_units" => ((simp only [Mine.units_make, PyProof.Rows.units_in1, PyProof.Rows.units_deeper, PySem.Around.mark_units, PyProof.Rows.units_caller]; first | exact Mine.fit2 (by with_reducible assumption) (by decide) | exact Mine.fit3 (by with_reducible assumption) (by decide) | fail "no")))
  (k_with "ktr_units" => (first | exact Mine.fit2 (d := (PySem.W.ktrTop _ _ _ _ _ _ _ _ _ _).units) (by assumption) (by decide) | exact Mine.fit3 (d := (PySem.W.ktrTop _ _ _ _ _ _ _ _ _ _).units) (by assumption) (by decide) | exact Mine.fit1 (d := (PySem.W.ktrTop _ _ _ _ _ _ _ _ _ _).units) (by assumption) (by decide) | fail "no"))
  (k_with "ktr_room" => (first | exact Mine.fit0 (d := (PySem.W.ktrTop _ _ _ _ _ _ _ _ _ _).depth) (by assumption) | exact Mine.fit2 (d := (PySem.W.ktrTop _ _ _ _ _ _ _ _ _ _).depth) (by assumption) (by decide) | exact Mine.fit3 (d := (PySem.W.ktrTop _ _ _ _ _ _ _ _ _ _).depth) (by assumption) (by decide) | exact Mine.fit1 (d := (PySem.W.ktrTop _ _ _ _ _ _ _ _ _ _).depth) (by assumption) (by decide) | fail "no"))
  (k_with "omega" => (first | (lia) | fail "no"))
  (k_with "omega" => (with_reducible first | exact Int.natCast_nonneg _ | exact Mine.le_cl (by decide) | exact Mine.lt_cl (by decide) | fail "no"))
  (k_with "simp" => (with_reducible first | exact List.mem_cons_self | (refine List.mem_cons_of_mem _ ?_; simp; done) | fail "no"))
  (k_with "simph" => (with_reducible first | assumption | exact List.mem_cons_of_mem _ (by assumption) | exact Or.inl (by assumption) | exact List.mem_append_left _ (by assumption) | exact List.mem_append_right _ (by assumption) | (refine List.mem_cons_of_mem _ ?_; k_extra "simph"; done) | (refine Or.inr ?_; k_extra "simph"; done) | fail "no"))
  (k_with "perm" => ((refine (?_ : ∀ q ∈ _, q ∈ _) _ (by assumption); (repeat (with_reducible refine List.forall_mem_cons.mpr ⟨by first | exact List.mem_cons_self | (refine List.mem_cons_of_mem _ ?_; simp; done), ?_⟩)); with_reducible (intro q hq; repeat (first | exact hq | refine List.mem_cons_of_mem _ ?_)))))
  (k_with "m_fru" => (first | (with_reducible refine frU_wrap ?_ (by decide); walk_at "m_fru") | exact rfl))
  (k_with "call builtin:len" => (((with_reducible show wpAny _ _ (call (Value.builtin "len") [Value.ref _]) _ _ _); k_dflt (refine' len_list ?lQ9 ?fQ9 ?_; (case lQ9 => exact News.isList (by k_asm) (by k_mem)); (case fQ9 => (simp only [List.size_toArray]; omega))); (try simp only [List.size_toArray]))))
  (k_with "m_go" => (repeat (
    (fail_if_success (with_reducible show wpAny _ _ (exec (PySem.Stmt.While _ _ _ _) _) _ _ _));
    (fail_if_success (with_reducible show wpAny _ _ (exec (PySem.Stmt.For _ _ _ _ _) _) _ _ _));
    (fail_if_success (with_reducible show wpAny _ _ (exec (PySem.Stmt.Assign _ (PySem.Expr.ListComp _ _ _ _) _) _) _ _ _));
    (fail_if_success (with_reducible show wpAny _ _ (eval (PySem.Expr.ListComp _ _ _ _) _) _ _ _));
    first | walk1 | (dsimp only; walk1))))
  (k_with "eval Name" => ((k_here; k_dflt (refine' nameX_L ?FQ9 ?vQ9 ?_ ?aQ9 ?bQ9; (case aQ9 => rfl); (case bQ9 => rfl); (case FQ9 => k_asm); (case vQ9 => first | exact rfl | assumption)))))
  (k_with "call ref" => ((k_dflt (refine' key_use ?CQ9 ?BQ9 ?FQ9 ?XQ9 ?NQ9 ?TQ9 ?hkQ9 ?hdQ9 ?huQ9 ?subQ9 ?hvQ9 ?_; (case CQ9 => assumption); (case BQ9 => k_asm); (case FQ9 => k_asm); (case XQ9 => k_asm); (case NQ9 => k_asm); (case TQ9 => k_asm); (case hkQ9 => first | exact rfl | assumption); (case hdQ9 => ktr_room); (case huQ9 => ktr_units); (case subQ9 => exact fun _ h => h); (case hvQ9 => assumption)); intro _ _ _ _ _; (try dsimp only))))
  (k_with "callWith ref" => ((k_dflt (refine' callWith_F (FnAt.of (by k_asm) (by k_mem)) ?_))))
  (k_with "And" => (((with_reducible show FnAt _ _ ∧ _); refine ⟨by k_dflt (exact FnAt.of (by k_asm) (by k_mem)), ?_⟩; (try dsimp only [List.nil_append, List.cons_append]))))
  (k_with "subscriptTail Name Name ref int" => ((k_dflt (refine' item_list ?lQ9 ?aQ9 ?bQ9 ?cQ9 ?_; (case lQ9 => exact News.isList (by k_asm) (by k_mem)); (case aQ9 => assumption); (case bQ9 => assumption); (case cQ9 => assumption)))))
  (k_with "execs cons" => (refine wpAny_execs_cons ?_; k_fold))
  (k_with "walk1" => (k_unfold; (try dsimp only); (try clear ek); (try clear qk); walk1))
  revert X; k_fill; intro X
  refine wpAny_call ?_
  k_dflt cell_enter
  walk_at "m_go"
  refine wpAny_While ?_
  rename Fr _ _ _ _ => F1
  rename News _ _ _ _ => N1
  refine while_U [PySem.Str.ofString "lo", PySem.Str.ofString "hi", PySem.Str.ofString "mid"] F1 N1 (fun d u nw => nw = news ∧ ∃ l h tl th, u (PySem.Str.ofString "lo") = some (.int ((l : Nat) : Int) tl) ∧ u (PySem.Str.ofString "hi") = some (.int ((h : Nat) : Int) th) ∧ lo ≤ l ∧ l ≤ h ∧ h ≤ vs.length ∧ d = h - l ∧ (∀ i, lo ≤ i → i < l → K i < x) ∧ (∀ i, h ≤ i → i < vs.length → ¬ K i < x)) (vs.length - lo) ?_ ?_
  · refine ⟨rfl, lo, vs.length, _, _, rfl, rfl, Nat.le_refl _, hlo, Nat.le_refl _, rfl, fun i h1 h2 => absurd h1 (by omega), fun i h1 h2 => absurd h1 (by omega)⟩
  · rintro d u nw hp tk E' ⟨rfl, l, h, tl, th, hul, huh, b1, b2, b3, rfl, i1, i2⟩ F2 N2
    by_cases hlt : l < h
    · have hm1 : ((l : Int) + (h : Int)).fdiv 2 = ((l + h) / 2 : Nat) := by
        rw [Int.fdiv_eq_ediv_of_nonneg _ (by decide)]; omega
      have hm2 : (0 : Int) ≤ ((l : Int) + (h : Int)).fdiv 2 := by rw [hm1]; omega
      have hm3 : ((l : Int) + (h : Int)).fdiv 2 < 2 ^ 63 := by rw [hm1]; omega
      have hm4 : (l + h) / 2 < vs.length := by omega
      have hm5 : vs.toArray[(((l : Int) + (h : Int)).fdiv 2).toNat]? = some (vs[(l + h) / 2]'hm4) := by
        rw [hm1, Int.toNat_natCast, List.getElem?_toArray, List.getElem?_eq_getElem hm4]
      have hk2 := hks _ _ (by omega) (List.getElem?_eq_getElem hm4)
      generalize hk1 : K ((l + h) / 2) = k at hk2
      walk_at "m_go"
      · have hc : k < x := by first | exact of_decide_eq_true (by assumption) | assumption
        rename Fr _ _ _ _ => F9
        rename News _ _ _ _ => N9
        refine ⟨_, _, _, _, h - ((l + h) / 2 + 1), rfl, by omega, F9, N9, _, frU_wrap (frU_wrap rfl (by decide)) (by decide), rfl, (l + h) / 2 + 1, h, _, th, congrArg (fun z : Int => some (Value.int z _)) (by rw [hm1]; rfl), huh, by omega, by omega, b3, rfl, ?_, i2⟩
        · intro i h1 h2
          by_cases hil : i < l
          · exact i1 i h1 hil
          · have := mono i ((l + h) / 2) h1 (by omega) hm4
            omega
      · walk_at "m_go"
        have hc : ¬ k < x := by first | exact of_decide_eq_false (by assumption) | assumption
        rename Fr _ _ _ _ => F9
        rename News _ _ _ _ => N9
        refine ⟨_, _, _, _, (l + h) / 2 - l, rfl, by omega, F9, N9, _, frU_wrap (frU_wrap rfl (by decide)) (by decide), rfl, l, (l + h) / 2, tl, _, hul, congrArg (fun z : Int => some (Value.int z _)) hm1, b1, by omega, by omega, rfl, i1, ?_⟩
        · intro i h1 h2
          have := mono ((l + h) / 2) i (by omega) h1 h2
          omega
    · walk_at "m_go"
      have e : l = h := by omega
      subst e
      exact ret l _ _ _ (by k_asm) (by k_asm) b1 b3 i1 i2
end
end Mine
end
section
open PySem PySem.W PyProof.Rows
namespace Mine
set_option maxHeartbeats 4000000
open PyProof.Rows.LCg (SrcAt NsObj Off3 Off1 lst FinE)
section
variable {w : World} {p : Program} {loose : List PySem.Str} {mean : ExcName → Option Value} {mg mb : PySem.Str → Option Value}
   {dp un : Nat} {gd : Option (List Code)} {cn : PySem.Str} {cs : PySem.Scope} {a : Addr} {ccd : Value} {cl : List (PySem.Str × Addr)} {outer : List Env} {A₀ : Around} {base h₀ : Heap} {L : Addr} {m : PySem.Str → Option Value} {news : List (Addr × Obj)} {s : Shared} {Q E : Value → Shared → Prop}
set_option maxRecDepth 100000 in
set_option maxHeartbeats 8000000 in
theorem bisR_spec (B : Below A₀ base outer h₀) (F : Fr h₀ L s.heap m) (X : (Mine.hd.heap_1 w.params).In h₀) (N : News h₀ L s.heap news) (T : Top p loose mean mg mb h₀) (hk : cs.kind = .function) (hd : dp + 30 < recursionLimit) (hu : un + 300 < cLine)
    {R fn : Addr} {n : Nat} {vs : List Value} {K : Nat → Int} {lo : Nat} {x : Int} {t1 t2 : Tok} {P : Value → Int → Prop} (hR : (R, listOf vs.toArray n) ∈ news) (hks : ∀ i v, lo ≤ i → vs[i]? = some v → P v (K i)) (C : KeyOk w p loose mean mg mb fn news P) {oc : Value} {od : Option Addr} {fd : FuncData} {sl : Array (Option Value)} (hf : (fn, (⟨oc, od, .func fd, sl⟩ : Obj)) ∈ news) (hlo : lo ≤ vs.length) (hsz : vs.length ≤ 1000)
    (mono : ∀ i j, lo ≤ i → i ≤ j → j < vs.length → K i ≤ K j)
    (ret : ∀ r t h' tk', Fr h₀ L h' m → News h₀ L h' news → lo ≤ r → r ≤ vs.length → (∀ i, lo ≤ i → i < r → ¬ x < K i) → (∀ i, r ≤ i → i < vs.length → x < K i) → Q (.int (r : Int) t) { s with heap := h', toks := tk' }) :
    wpAny (model PySem.Challenge.rw_uk0024_01.row.prog w) (ktrTop dp un gd cn cs L a ccd cl outer) (call (.ref 193) [.ref R, .int x t1, .int (lo : Int) t2] [(PySem.Str.ofString "key", .ref fn)]) Q E s := by
  k_with_none
  (k_with "ce1" => (refine' code_def ?k1Q9 ?k2Q9 ?k3Q9 ?k4Q9 ?k5Q9 ?kAQ9 ?kFQ9 ?kKQ9 ?k6Q9 ?k7Q9 ?k8Q9 ?k9Q9 ?kBQ9 ?_ ?c2Q9 ?c3Q9 ?c4Q9 ?c5Q9; (case kAQ9 => exact rfl); (case kFQ9 => exact rfl); (case kKQ9 => first | assumption | exact rfl); (case k1Q9 => k_asm); (case k2Q9 => k_asm); (case k3Q9 => k_asm); (case k4Q9 => k_asm); (case k5Q9 => k_asm); (case k6Q9 => k_is); (case k7Q9 => k_is); (case k8Q9 => ktr_room); (case k9Q9 => first | exact BindsTo.of_eq rfl | exact binds_K (by k_in) rfl (by k_is) rfl rfl rfl); (case c5Q9 => decide); (case kBQ9 => exact locs rfl); (case c2Q9 => exact rfl); (case c3Q9 => exact rfl); (case c4Q9 => exact rfl); k_whole))
  (k_with "ce2" => (refine' code_defC ?k1Q9 ?k2Q9 ?k3Q9 ?k4Q9 ?k5Q9 ?kAQ9 ?kFQ9 ?kKQ9 ?k6Q9 ?k7Q9 ?k8Q9 ?k9Q9 ?kBQ9 ?kDQ9 ?_ ?c2Q9 ?c3Q9 ?c4Q9; (case kAQ9 => exact rfl); (case kFQ9 => exact rfl); (case kKQ9 => first | assumption | exact rfl); (case k1Q9 => k_asm); (case k2Q9 => k_asm); (case k3Q9 => k_asm); (case k4Q9 => k_asm); (case k5Q9 => k_asm); (case k6Q9 => k_is); (case k7Q9 => k_is); (case k8Q9 => ktr_room); (case k9Q9 => first | exact BindsTo.of_eq rfl | exact binds_K (by k_in) rfl (by k_is) rfl rfl rfl); (case kBQ9 => exact rfl); (case kDQ9 => decide +kernel); (case c2Q9 => exact rfl); (case c3Q9 => exact rfl); (case c4Q9 => exact rfl); k_whole))
  (k_with "ktr_units" => ((have hcL9 := cLine_is; (simp only [Mine.units_make, PyProof.Rows.units_in1, PyProof.Rows.units_deeper, PySem.Around.mark_units, PyProof.Rows.units_caller, ktrTop] at *); omega)))
  (k_with "ktr_units" => ((simp only [Mine.units_make, PyProof.Rows.units_in1, PyProof.Rows.units_deeper, PySem.Around.mark_units, PyProof.Rows.units_caller]; first | exact Mine.fit2 (by with_reducible assumption) (by decide) | exact Mine.fit3 (by with_reducible assumption) (by decide) | fail "no")))
  (k_with "ktr_units" => (first | exact Mine.fit2 (d := (PySem.W.ktrTop _ _ _ _ _ _ _ _ _ _).units) (by assumption) (by decide) | exact Mine.fit3 (d := (PySem.W.ktrTop _ _ _ _ _ _ _ _ _ _).units) (by assumption) (by decide) | exact Mine.fit1 (d := (PySem.W.ktrTop _ _ _ _ _ _ _ _ _ _).units) (by assumption) (by decide) | fail "no"))
  (k_with "ktr_room" => (first | exact Mine.fit0 (d := (PySem.W.ktrTop _ _ _ _ _ _ _ _ _ _).depth) (by assumption) | exact Mine.fit2 (d := (PySem.W.ktrTop _ _ _ _ _ _ _ _ _ _).depth) (by assumption) (by decide) | exact Mine.fit3 (d := (PySem.W.ktrTop _ _ _ _ _ _ _ _ _ _).depth) (by assumption) (by decide) | exact Mine.fit1 (d := (PySem.W.ktrTop _ _ _ _ _ _ _ _ _ _).depth) (by assumption) (by decide) | fail "no"))
  (k_with "omega" => (first | (lia) | fail "no"))
  (k_with "omega" => (with_reducible first | exact Int.natCast_nonneg _ | exact Mine.le_cl (by decide) | exact Mine.lt_cl (by decide) | fail "no"))
  (k_with "simp" => (with_reducible first | exact List.mem_cons_self | (refine List.mem_cons_of_mem _ ?_; simp; done) | fail "no"))
  (k_with "simph" => (with_reducible first | assumption | exact List.mem_cons_of_mem _ (by assumption) | exact Or.inl (by assumption) | exact List.mem_append_left _ (by assumption) | exact List.mem_append_right _ (by assumption) | (refine List.mem_cons_of_mem _ ?_; k_extra "simph"; done) | (refine Or.inr ?_; k_extra "simph"; done) | fail "no"))
  (k_with "perm" => ((refine (?_ : ∀ q ∈ _, q ∈ _) _ (by assumption); (repeat (with_reducible refine List.forall_mem_cons.mpr ⟨by first | exact List.mem_cons_self | (refine List.mem_cons_of_mem _ ?_; simp; done), ?_⟩)); with_reducible (intro q hq; repeat (first | exact hq | refine List.mem_cons_of_mem _ ?_)))))
  (k_with "m_fru" => (first | (with_reducible refine frU_wrap ?_ (by decide); walk_at "m_fru") | exact rfl))
  (k_with "call builtin:len" => (((with_reducible show wpAny _ _ (call (Value.builtin "len") [Value.ref _]) _ _ _); k_dflt (refine' len_list ?lQ9 ?fQ9 ?_; (case lQ9 => exact News.isList (by k_asm) (by k_mem)); (case fQ9 => (simp only [List.size_toArray]; omega))); (try simp only [List.size_toArray]))))
  (k_with "m_go" => (repeat (
    (fail_if_success (with_reducible show wpAny _ _ (exec (PySem.Stmt.While _ _ _ _) _) _ _ _));
    (fail_if_success (with_reducible show wpAny _ _ (exec (PySem.Stmt.For _ _ _ _ _) _) _ _ _));
    (fail_if_success (with_reducible show wpAny _ _ (exec (PySem.Stmt.Assign _ (PySem.Expr.ListComp _ _ _ _) _) _) _ _ _));
    (fail_if_success (with_reducible show wpAny _ _ (eval (PySem.Expr.ListComp _ _ _ _) _) _ _ _));
    first | walk1 | (dsimp only; walk1))))
  (k_with "eval Name" => ((k_here; k_dflt (refine' nameX_L ?FQ9 ?vQ9 ?_ ?aQ9 ?bQ9; (case aQ9 => rfl); (case bQ9 => rfl); (case FQ9 => k_asm); (case vQ9 => first | exact rfl | assumption)))))
  (k_with "call ref" => ((k_dflt (refine' key_use ?CQ9 ?BQ9 ?FQ9 ?XQ9 ?NQ9 ?TQ9 ?hkQ9 ?hdQ9 ?huQ9 ?subQ9 ?hvQ9 ?_; (case CQ9 => assumption); (case BQ9 => k_asm); (case FQ9 => k_asm); (case XQ9 => k_asm); (case NQ9 => k_asm); (case TQ9 => k_asm); (case hkQ9 => first | exact rfl | assumption); (case hdQ9 => ktr_room); (case huQ9 => ktr_units); (case subQ9 => exact fun _ h => h); (case hvQ9 => assumption)); intro _ _ _ _ _; (try dsimp only))))
  (k_with "callWith ref" => ((k_dflt (refine' callWith_F (FnAt.of (by k_asm) (by k_mem)) ?_))))
  (k_with "And" => (((with_reducible show FnAt _ _ ∧ _); refine ⟨by k_dflt (exact FnAt.of (by k_asm) (by k_mem)), ?_⟩; (try dsimp only [List.nil_append, List.cons_append]))))
  (k_with "subscriptTail Name Name ref int" => ((k_dflt (refine' item_list ?lQ9 ?aQ9 ?bQ9 ?cQ9 ?_; (case lQ9 => exact News.isList (by k_asm) (by k_mem)); (case aQ9 => assumption); (case bQ9 => assumption); (case cQ9 => assumption)))))
  (k_with "execs cons" => (refine wpAny_execs_cons ?_; k_fold))
  (k_with "walk1" => (k_unfold; (try dsimp only); (try clear ek); (try clear qk); walk1))
  revert X; k_fill; intro X
  refine wpAny_call ?_
  k_dflt cell_enter
  walk_at "m_go"
  refine wpAny_While ?_
  rename Fr _ _ _ _ => F1
  rename News _ _ _ _ => N1
  refine while_U [PySem.Str.ofString "lo", PySem.Str.ofString "hi", PySem.Str.ofString "mid"] F1 N1 (fun d u nw => nw = news ∧ ∃ l h tl th, u (PySem.Str.ofString "lo") = some (.int ((l : Nat) : Int) tl) ∧ u (PySem.Str.ofString "hi") = some (.int ((h : Nat) : Int) th) ∧ lo ≤ l ∧ l ≤ h ∧ h ≤ vs.length ∧ d = h - l ∧ (∀ i, lo ≤ i → i < l → ¬ x < K i) ∧ (∀ i, h ≤ i → i < vs.length → x < K i)) (vs.length - lo) ?_ ?_
  · refine ⟨rfl, lo, vs.length, _, _, rfl, rfl, Nat.le_refl _, hlo, Nat.le_refl _, rfl, fun i h1 h2 => absurd h1 (by omega), fun i h1 h2 => absurd h1 (by omega)⟩
  · rintro d u nw hp tk E' ⟨rfl, l, h, tl, th, hul, huh, b1, b2, b3, rfl, i1, i2⟩ F2 N2
    by_cases hlt : l < h
    · have hm1 : ((l : Int) + (h : Int)).fdiv 2 = ((l + h) / 2 : Nat) := by
        rw [Int.fdiv_eq_ediv_of_nonneg _ (by decide)]; omega
      have hm2 : (0 : Int) ≤ ((l : Int) + (h : Int)).fdiv 2 := by rw [hm1]; omega
      have hm3 : ((l : Int) + (h : Int)).fdiv 2 < 2 ^ 63 := by rw [hm1]; omega
      have hm4 : (l + h) / 2 < vs.length := by omega
      have hm5 : vs.toArray[(((l : Int) + (h : Int)).fdiv 2).toNat]? = some (vs[(l + h) / 2]'hm4) := by
        rw [hm1, Int.toNat_natCast, List.getElem?_toArray, List.getElem?_eq_getElem hm4]
      have hk2 := hks _ _ (by omega) (List.getElem?_eq_getElem hm4)
      generalize hk1 : K ((l + h) / 2) = k at hk2
      walk_at "m_go"
      · have hc : x < k := by first | exact of_decide_eq_true (by assumption) | assumption
        rename Fr _ _ _ _ => F9
        rename News _ _ _ _ => N9
        refine ⟨_, _, _, _, (l + h) / 2 - l, rfl, by omega, F9, N9, _, frU_wrap (frU_wrap rfl (by decide)) (by decide), rfl, l, (l + h) / 2, tl, _, hul, congrArg (fun z : Int => some (Value.int z _)) hm1, b1, by omega, by omega, rfl, i1, ?_⟩
        · intro i h1 h2
          have := mono ((l + h) / 2) i (by omega) h1 h2
          omega
      · walk_at "m_go"
        have hc : ¬ x < k := by first | exact of_decide_eq_false (by assumption) | assumption
        rename Fr _ _ _ _ => F9
        rename News _ _ _ _ => N9
        refine ⟨_, _, _, _, h - ((l + h) / 2 + 1), rfl, by omega, F9, N9, _, frU_wrap (frU_wrap rfl (by decide)) (by decide), rfl, (l + h) / 2 + 1, h, _, th, congrArg (fun z : Int => some (Value.int z _)) (by rw [hm1]; rfl), huh, by omega, by omega, b3, rfl, ?_, i2⟩
        · intro i h1 h2
          by_cases hil : i < l
          · exact i1 i h1 hil
          · have := mono i ((l + h) / 2) h1 (by omega) hm4
            omega
    · walk_at "m_go"
      have e : l = h := by omega
      subst e
      exact ret l _ _ _ (by k_asm) (by k_asm) b1 b3 i1 i2
set_option maxRecDepth 100000 in
set_option maxHeartbeats 8000000 in
theorem bisR4_spec (B : Below A₀ base outer h₀) (F : Fr h₀ L s.heap m) (X : (Mine.hd.heap_1 w.params).In h₀) (N : News h₀ L s.heap news) (T : Top p loose mean mg mb h₀) (hk : cs.kind = .function) (hd : dp + 30 < recursionLimit) (hu : un + 300 < cLine)
    {R fn : Addr} {n : Nat} {vs : List Value} {K : Nat → Int} {lo : Nat} {x : Int} {t1 t2 : Tok} {P : Value → Int → Prop} (hR : (R, listOf vs.toArray n) ∈ news) (hks : ∀ i v, lo ≤ i → vs[i]? = some v → P v (K i)) (C : KeyOk w p loose mean mg mb fn news P) {oc : Value} {od : Option Addr} {fd : FuncData} {sl : Array (Option Value)} (hf : (fn, (⟨oc, od, .func fd, sl⟩ : Obj)) ∈ news) (hlo : lo ≤ vs.length) (hsz : vs.length ≤ 1000)
    (mono : ∀ i j, lo ≤ i → i ≤ j → j < vs.length → K i ≤ K j)
    (ret : ∀ r t h' tk', Fr h₀ L h' m → News h₀ L h' news → lo ≤ r → r ≤ vs.length → (∀ i, lo ≤ i → i < r → ¬ x < K i) → (∀ i, r ≤ i → i < vs.length → x < K i) → Q (.int (r : Int) t) { s with heap := h', toks := tk' }) :
    wpAny (model PySem.Challenge.rw_uk0024_01.row.prog w) (ktrTop dp un gd cn cs L a ccd cl outer) (call (.ref 193) [.ref R, .int x t1, .int (lo : Int) t2, .none] [(PySem.Str.ofString "key", .ref fn)]) Q E s := by
  k_with_none
  (k_with "ce1" => (refine' code_def ?k1Q9 ?k2Q9 ?k3Q9 ?k4Q9 ?k5Q9 ?kAQ9 ?kFQ9 ?kKQ9 ?k6Q9 ?k7Q9 ?k8Q9 ?k9Q9 ?kBQ9 ?_ ?c2Q9 ?c3Q9 ?c4Q9 ?c5Q9; (case kAQ9 => exact rfl); (case kFQ9 => exact rfl); (case kKQ9 => first | assumption | exact rfl); (case k1Q9 => k_asm); (case k2Q9 => k_asm); (case k3Q9 => k_asm); (case k4Q9 => k_asm); (case k5Q9 => k_asm); (case k6Q9 => k_is); (case k7Q9 => k_is); (case k8Q9 => ktr_room); (case k9Q9 => first | exact BindsTo.of_eq rfl | exact binds_K (by k_in) rfl (by k_is) rfl rfl rfl); (case c5Q9 => decide); (case kBQ9 => exact locs rfl); (case c2Q9 => exact rfl); (case c3Q9 => exact rfl); (case c4Q9 => exact rfl); k_whole))
  (k_with "ce2" => (refine' code_defC ?k1Q9 ?k2Q9 ?k3Q9 ?k4Q9 ?k5Q9 ?kAQ9 ?kFQ9 ?kKQ9 ?k6Q9 ?k7Q9 ?k8Q9 ?k9Q9 ?kBQ9 ?kDQ9 ?_ ?c2Q9 ?c3Q9 ?c4Q9; (case kAQ9 => exact rfl); (case kFQ9 => exact rfl); (case kKQ9 => first | assumption | exact rfl); (case k1Q9 => k_asm); (case k2Q9 => k_asm); (case k3Q9 => k_asm); (case k4Q9 => k_asm); (case k5Q9 => k_asm); (case k6Q9 => k_is); (case k7Q9 => k_is); (case k8Q9 => ktr_room); (case k9Q9 => first | exact BindsTo.of_eq rfl | exact binds_K (by k_in) rfl (by k_is) rfl rfl rfl); (case kBQ9 => exact rfl); (case kDQ9 => decide +kernel); (case c2Q9 => exact rfl); (case c3Q9 => exact rfl); (case c4Q9 => exact rfl); k_whole))
  (k_with "ktr_units" => ((have hcL9 := cLine_is; (simp only [Mine.units_make, PyProof.Rows.units_in1, PyProof.Rows.units_deeper, PySem.Around.mark_units, PyProof.Rows.units_caller, ktrTop] at *); omega)))
  (k_with "ktr_units" => ((simp only [Mine.units_make, PyProof.Rows.units_in1, PyProof.Rows.units_deeper, PySem.Around.mark_units, PyProof.Rows.units_caller]; first | exact Mine.fit2 (by with_reducible assumption) (by decide) | exact Mine.fit3 (by with_reducible assumption) (by decide) | fail "no")))
  (k_with "ktr_units" => (first | exact Mine.fit2 (d := (PySem.W.ktrTop _ _ _ _ _ _ _ _ _ _).units) (by assumption) (by decide) | exact Mine.fit3 (d := (PySem.W.ktrTop _ _ _ _ _ _ _ _ _ _).units) (by assumption) (by decide) | exact Mine.fit1 (d := (PySem.W.ktrTop _ _ _ _ _ _ _ _ _ _).units) (by assumption) (by decide) | fail "no"))
  (k_with "ktr_room" => (first | exact Mine.fit0 (d := (PySem.W.ktrTop _ _ _ _ _ _ _ _ _ _).depth) (by assumption) | exact Mine.fit2 (d := (PySem.W.ktrTop _ _ _ _ _ _ _ _ _ _).depth) (by assumption) (by decide) | exact Mine.fit3 (d := (PySem.W.ktrTop _ _ _ _ _ _ _ _ _ _).depth) (by assumption) (by decide) | exact Mine.fit1 (d := (PySem.W.ktrTop _ _ _ _ _ _ _ _ _ _).depth) (by assumption) (by decide) | fail "no"))
  (k_with "omega" => (first | (lia) | fail "no"))
  (k_with "omega" => (with_reducible first | exact Int.natCast_nonneg _ | exact Mine.le_cl (by decide) | exact Mine.lt_cl (by decide) | fail "no"))
  (k_with "simp" => (with_reducible first | exact List.mem_cons_self | (refine List.mem_cons_of_mem _ ?_; simp; done) | fail "no"))
  (k_with "simph" => (with_reducible first | assumption | exact List.mem_cons_of_mem _ (by assumption) | exact Or.inl (by assumption) | exact List.mem_append_left _ (by assumption) | exact List.mem_append_right _ (by assumption) | (refine List.mem_cons_of_mem _ ?_; k_extra "simph"; done) | (refine Or.inr ?_; k_extra "simph"; done) | fail "no"))
  (k_with "perm" => ((refine (?_ : ∀ q ∈ _, q ∈ _) _ (by assumption); (repeat (with_reducible refine List.forall_mem_cons.mpr ⟨by first | exact List.mem_cons_self | (refine List.mem_cons_of_mem _ ?_; simp; done), ?_⟩)); with_reducible (intro q hq; repeat (first | exact hq | refine List.mem_cons_of_mem _ ?_)))))
  (k_with "m_fru" => (first | (with_reducible refine frU_wrap ?_ (by decide); walk_at "m_fru") | exact rfl))
  (k_with "call builtin:len" => (((with_reducible show wpAny _ _ (call (Value.builtin "len") [Value.ref _]) _ _ _); k_dflt (refine' len_list ?lQ9 ?fQ9 ?_; (case lQ9 => exact News.isList (by k_asm) (by k_mem)); (case fQ9 => (simp only [List.size_toArray]; omega))); (try simp only [List.size_toArray]))))
  (k_with "m_go" => (repeat (
    (fail_if_success (with_reducible show wpAny _ _ (exec (PySem.Stmt.While _ _ _ _) _) _ _ _));
    (fail_if_success (with_reducible show wpAny _ _ (exec (PySem.Stmt.For _ _ _ _ _) _) _ _ _));
    (fail_if_success (with_reducible show wpAny _ _ (exec (PySem.Stmt.Assign _ (PySem.Expr.ListComp _ _ _ _) _) _) _ _ _));
    (fail_if_success (with_reducible show wpAny _ _ (eval (PySem.Expr.ListComp _ _ _ _) _) _ _ _));
    first | walk1 | (dsimp only; walk1))))
  (k_with "eval Name" => ((k_here; k_dflt (refine' nameX_L ?FQ9 ?vQ9 ?_ ?aQ9 ?bQ9; (case aQ9 => rfl); (case bQ9 => rfl); (case FQ9 => k_asm); (case vQ9 => first | exact rfl | assumption)))))
  (k_with "call ref" => ((k_dflt (refine' key_use ?CQ9 ?BQ9 ?FQ9 ?XQ9 ?NQ9 ?TQ9 ?hkQ9 ?hdQ9 ?huQ9 ?subQ9 ?hvQ9 ?_; (case CQ9 => assumption); (case BQ9 => k_asm); (case FQ9 => k_asm); (case XQ9 => k_asm); (case NQ9 => k_asm); (case TQ9 => k_asm); (case hkQ9 => first | exact rfl | assumption); (case hdQ9 => ktr_room); (case huQ9 => ktr_units); (case subQ9 => exact fun _ h => h); (case hvQ9 => assumption)); intro _ _ _ _ _; (try dsimp only))))
  (k_with "callWith ref" => ((k_dflt (refine' callWith_F (FnAt.of (by k_asm) (by k_mem)) ?_))))
  (k_with "And" => (((with_reducible show FnAt _ _ ∧ _); refine ⟨by k_dflt (exact FnAt.of (by k_asm) (by k_mem)), ?_⟩; (try dsimp only [List.nil_append, List.cons_append]))))
  (k_with "subscriptTail Name Name ref int" => ((k_dflt (refine' item_list ?lQ9 ?aQ9 ?bQ9 ?cQ9 ?_; (case lQ9 => exact News.isList (by k_asm) (by k_mem)); (case aQ9 => assumption); (case bQ9 => assumption); (case cQ9 => assumption)))))
  (k_with "execs cons" => (refine wpAny_execs_cons ?_; k_fold))
  (k_with "walk1" => (k_unfold; (try dsimp only); (try clear ek); (try clear qk); walk1))
  revert X; k_fill; intro X
  refine wpAny_call ?_
  k_dflt cell_enter
  walk_at "m_go"
  refine wpAny_While ?_
  rename Fr _ _ _ _ => F1
  rename News _ _ _ _ => N1
  refine while_U [PySem.Str.ofString "lo", PySem.Str.ofString "hi", PySem.Str.ofString "mid"] F1 N1 (fun d u nw => nw = news ∧ ∃ l h tl th, u (PySem.Str.ofString "lo") = some (.int ((l : Nat) : Int) tl) ∧ u (PySem.Str.ofString "hi") = some (.int ((h : Nat) : Int) th) ∧ lo ≤ l ∧ l ≤ h ∧ h ≤ vs.length ∧ d = h - l ∧ (∀ i, lo ≤ i → i < l → ¬ x < K i) ∧ (∀ i, h ≤ i → i < vs.length → x < K i)) (vs.length - lo) ?_ ?_
  · refine ⟨rfl, lo, vs.length, _, _, rfl, rfl, Nat.le_refl _, hlo, Nat.le_refl _, rfl, fun i h1 h2 => absurd h1 (by omega), fun i h1 h2 => absurd h1 (by omega)⟩
  · rintro d u nw hp tk E' ⟨rfl, l, h, tl, th, hul, huh, b1, b2, b3, rfl, i1, i2⟩ F2 N2
    by_cases hlt : l < h
    · have hm1 : ((l : Int) + (h : Int)).fdiv 2 = ((l + h) / 2 : Nat) := by
        rw [Int.fdiv_eq_ediv_of_nonneg _ (by decide)]; omega
      have hm2 : (0 : Int) ≤ ((l : Int) + (h : Int)).fdiv 2 := by rw [hm1]; omega
      have hm3 : ((l : Int) + (h : Int)).fdiv 2 < 2 ^ 63 := by rw [hm1]; omega
      have hm4 : (l + h) / 2 < vs.length := by omega
      have hm5 : vs.toArray[(((l : Int) + (h : Int)).fdiv 2).toNat]? = some (vs[(l + h) / 2]'hm4) := by
        rw [hm1, Int.toNat_natCast, List.getElem?_toArray, List.getElem?_eq_getElem hm4]
      have hk2 := hks _ _ (by omega) (List.getElem?_eq_getElem hm4)
      generalize hk1 : K ((l + h) / 2) = k at hk2
      walk_at "m_go"
      · have hc : x < k := by first | exact of_decide_eq_true (by assumption) | assumption
        rename Fr _ _ _ _ => F9
        rename News _ _ _ _ => N9
        refine ⟨_, _, _, _, (l + h) / 2 - l, rfl, by omega, F9, N9, _, frU_wrap (frU_wrap rfl (by decide)) (by decide), rfl, l, (l + h) / 2, tl, _, hul, congrArg (fun z : Int => some (Value.int z _)) hm1, b1, by omega, by omega, rfl, i1, ?_⟩
        · intro i h1 h2
          have := mono ((l + h) / 2) i (by omega) h1 h2
          omega
      · walk_at "m_go"
        have hc : ¬ x < k := by first | exact of_decide_eq_false (by assumption) | assumption
        rename Fr _ _ _ _ => F9
        rename News _ _ _ _ => N9
        refine ⟨_, _, _, _, h - ((l + h) / 2 + 1), rfl, by omega, F9, N9, _, frU_wrap (frU_wrap rfl (by decide)) (by decide), rfl, (l + h) / 2 + 1, h, _, th, congrArg (fun z : Int => some (Value.int z _)) (by rw [hm1]; rfl), huh, by omega, by omega, b3, rfl, ?_, i2⟩
        · intro i h1 h2
          by_cases hil : i < l
          · exact i1 i h1 hil
          · have := mono i ((l + h) / 2) h1 (by omega) hm4
            omega
    · walk_at "m_go"
      have e : l = h := by omega
      subst e
      exact ret l _ _ _ (by k_asm) (by k_asm) b1 b3 i1 i2
theorem KeyOk.mono {fn : Addr} {P : Value → Int → Prop} {news news' : List (Addr × Obj)} (C : KeyOk w p loose mean mg mb fn news P) (k : ∀ q ∈ news, q ∈ news') : KeyOk w p loose mean mg mb fn news' P :=
  fun dp un gd cn cs a ccd cl outer A₀ base h₀ L m nw s Q E v i B F X N T hk hd hu sub hv ret => C dp un gd cn cs a ccd cl outer A₀ base h₀ L m nw s Q E v i B F X N T hk hd hu (fun q hq => sub q (k q hq)) hv ret
theorem Upd.mem {R : Addr} {o o' : Obj} {news news' : List (Addr × Obj)} (U : Upd R o o' news news') : (R, o) ∈ news := by
  obtain ⟨pre, post, rfl, -, -, -⟩ := U.split
  exact List.mem_append.mpr (.inr (.head _))
set_option maxRecDepth 100000 in
set_option maxHeartbeats 8000000 in
theorem insort_spec (B : Below A₀ base outer h₀) (F : Fr h₀ L s.heap m) (X : (Mine.hd.heap_1 w.params).In h₀) (N : News h₀ L s.heap news) (T : Top p loose mean mg mb h₀) (hk : cs.kind = .function) (hd : dp + 40 < recursionLimit) (hu : un + 400 < cLine)
    {R fn : Addr} {n : Nat} {vs : List Value} {K : Nat → Int} {lo : Nat} {xv : Value} {x : Int} {t2 : Tok} {P : Value → Int → Prop} {ng : List Value → List (Addr × Obj)} (U : ∀ l, Upd R (listOf vs.toArray n) (listOf l.toArray (n + 1)) news (ng l)) (hks : ∀ i v, lo ≤ i → vs[i]? = some v → P v (K i)) (hxv : P xv x) (C : KeyOk w p loose mean mg mb fn news P) {oc : Value} {od : Option Addr} {fd : FuncData} {sl : Array (Option Value)} (hf : (fn, (⟨oc, od, .func fd, sl⟩ : Obj)) ∈ news) (hlo : lo ≤ vs.length) (hsz : vs.length ≤ 1000)
    (mono : ∀ i j, lo ≤ i → i ≤ j → j < vs.length → K i ≤ K j)
    (ret : ∀ (r : Nat) h' tk', Fr h₀ L h' m → News h₀ L h' (ng (kl_ins vs (r : Int) xv)) → lo ≤ r → r ≤ vs.length → (∀ i, lo ≤ i → i < r → ¬ x < K i) → (∀ i, r ≤ i → i < vs.length → x < K i) → Q .none { s with heap := h', toks := tk' }) :
    wpAny (model PySem.Challenge.rw_uk0024_01.row.prog w) (ktrTop dp un gd cn cs L a ccd cl outer) (call (.ref 184) [.ref R, xv, .int (lo : Int) t2] [(PySem.Str.ofString "key", .ref fn)]) Q E s := by
  k_with_none
  (k_with "ce1" => (refine' code_def ?k1Q9 ?k2Q9 ?k3Q9 ?k4Q9 ?k5Q9 ?kAQ9 ?kFQ9 ?kKQ9 ?k6Q9 ?k7Q9 ?k8Q9 ?k9Q9 ?kBQ9 ?_ ?c2Q9 ?c3Q9 ?c4Q9 ?c5Q9; (case kAQ9 => exact rfl); (case kFQ9 => exact rfl); (case kKQ9 => first | assumption | exact rfl); (case k1Q9 => k_asm); (case k2Q9 => k_asm); (case k3Q9 => k_asm); (case k4Q9 => k_asm); (case k5Q9 => k_asm); (case k6Q9 => k_is); (case k7Q9 => k_is); (case k8Q9 => ktr_room); (case k9Q9 => first | exact BindsTo.of_eq rfl | exact binds_K (by k_in) rfl (by k_is) rfl rfl rfl); (case c5Q9 => decide); (case kBQ9 => exact locs rfl); (case c2Q9 => exact rfl); (case c3Q9 => exact rfl); (case c4Q9 => exact rfl); k_whole))
  (k_with "ce2" => (refine' code_defC ?k1Q9 ?k2Q9 ?k3Q9 ?k4Q9 ?k5Q9 ?kAQ9 ?kFQ9 ?kKQ9 ?k6Q9 ?k7Q9 ?k8Q9 ?k9Q9 ?kBQ9 ?kDQ9 ?_ ?c2Q9 ?c3Q9 ?c4Q9; (case kAQ9 => exact rfl); (case kFQ9 => exact rfl); (case kKQ9 => first | assumption | exact rfl); (case k1Q9 => k_asm); (case k2Q9 => k_asm); (case k3Q9 => k_asm); (case k4Q9 => k_asm); (case k5Q9 => k_asm); (case k6Q9 => k_is); (case k7Q9 => k_is); (case k8Q9 => ktr_room); (case k9Q9 => first | exact BindsTo.of_eq rfl | exact binds_K (by k_in) rfl (by k_is) rfl rfl rfl); (case kBQ9 => exact rfl); (case kDQ9 => decide +kernel); (case c2Q9 => exact rfl); (case c3Q9 => exact rfl); (case c4Q9 => exact rfl); k_whole))
  (k_with "ktr_units" => ((have hcL9 := cLine_is; (simp only [Mine.units_make, PyProof.Rows.units_in1, PyProof.Rows.units_deeper, PySem.Around.mark_units, PyProof.Rows.units_caller, ktrTop] at *); omega)))
  (k_with "ktr_units" => ((simp only [Mine.units_make, PyProof.Rows.units_in1, PyProof.Rows.units_deeper, PySem.Around.mark_units, PyProof.Rows.units_caller]; first | exact Mine.fit2 (by with_reducible assumption) (by decide) | exact Mine.fit3 (by with_reducible assumption) (by decide) | fail "no")))
  (k_with "ktr_units" => (first | exact Mine.fit2 (d := (PySem.W.ktrTop _ _ _ _ _ _ _ _ _ _).units) (by assumption) (by decide) | exact Mine.fit3 (d := (PySem.W.ktrTop _ _ _ _ _ _ _ _ _ _).units) (by assumption) (by decide) | exact Mine.fit1 (d := (PySem.W.ktrTop _ _ _ _ _ _ _ _ _ _).units) (by assumption) (by decide) | fail "no"))
  (k_with "ktr_room" => (first | exact Mine.fit0 (d := (PySem.W.ktrTop _ _ _ _ _ _ _ _ _ _).depth) (by assumption) | exact Mine.fit2 (d := (PySem.W.ktrTop _ _ _ _ _ _ _ _ _ _).depth) (by assumption) (by decide) | exact Mine.fit3 (d := (PySem.W.ktrTop _ _ _ _ _ _ _ _ _ _).depth) (by assumption) (by decide) | exact Mine.fit1 (d := (PySem.W.ktrTop _ _ _ _ _ _ _ _ _ _).depth) (by assumption) (by decide) | fail "no"))
  (k_with "omega" => (first | (lia) | fail "no"))
  (k_with "omega" => (with_reducible first | exact Int.natCast_nonneg _ | exact Mine.le_cl (by decide) | exact Mine.lt_cl (by decide) | fail "no"))
  (k_with "simp" => (with_reducible first | exact List.mem_cons_self | (refine List.mem_cons_of_mem _ ?_; simp; done) | fail "no"))
  (k_with "simph" => (with_reducible first | assumption | exact List.mem_cons_of_mem _ (by assumption) | exact Or.inl (by assumption) | exact List.mem_append_left _ (by assumption) | exact List.mem_append_right _ (by assumption) | (refine List.mem_cons_of_mem _ ?_; k_extra "simph"; done) | (refine Or.inr ?_; k_extra "simph"; done) | fail "no"))
  (k_with "perm" => ((refine (?_ : ∀ q ∈ _, q ∈ _) _ (by assumption); (repeat (with_reducible refine List.forall_mem_cons.mpr ⟨by first | exact List.mem_cons_self | (refine List.mem_cons_of_mem _ ?_; simp; done), ?_⟩)); with_reducible (intro q hq; repeat (first | exact hq | refine List.mem_cons_of_mem _ ?_)))))
  (k_with "m_fru" => (first | (with_reducible refine frU_wrap ?_ (by decide); walk_at "m_fru") | exact rfl))
  (k_with "call builtin:len" => (((with_reducible show wpAny _ _ (call (Value.builtin "len") [Value.ref _]) _ _ _); k_dflt (refine' len_list ?lQ9 ?fQ9 ?_; (case lQ9 => exact News.isList (by k_asm) (by k_mem)); (case fQ9 => (simp only [List.size_toArray]; omega))); (try simp only [List.size_toArray]))))
  (k_with "m_go" => (repeat (
    (fail_if_success (with_reducible show wpAny _ _ (exec (PySem.Stmt.While _ _ _ _) _) _ _ _));
    (fail_if_success (with_reducible show wpAny _ _ (exec (PySem.Stmt.For _ _ _ _ _) _) _ _ _));
    (fail_if_success (with_reducible show wpAny _ _ (exec (PySem.Stmt.Assign _ (PySem.Expr.ListComp _ _ _ _) _) _) _ _ _));
    (fail_if_success (with_reducible show wpAny _ _ (eval (PySem.Expr.ListComp _ _ _ _) _) _ _ _));
    first | walk1 | (dsimp only; walk1))))
  (k_with "eval Name" => ((k_here; k_dflt (refine' nameX_L ?FQ9 ?vQ9 ?_ ?aQ9 ?bQ9; (case aQ9 => rfl); (case bQ9 => rfl); (case FQ9 => k_asm); (case vQ9 => first | exact rfl | assumption)))))
  (k_with "call ref" => ((k_dflt (refine' key_use ?CQ9 ?BQ9 ?FQ9 ?XQ9 ?NQ9 ?TQ9 ?hkQ9 ?hdQ9 ?huQ9 ?subQ9 ?hvQ9 ?_; (case CQ9 => assumption); (case BQ9 => k_asm); (case FQ9 => k_asm); (case XQ9 => k_asm); (case NQ9 => k_asm); (case TQ9 => k_asm); (case hkQ9 => first | exact rfl | assumption); (case hdQ9 => ktr_room); (case huQ9 => ktr_units); (case subQ9 => exact fun _ h => h); (case hvQ9 => assumption)); intro _ _ _ _ _; (try dsimp only))))
  (k_with "callWith ref" => ((k_dflt (refine' callWith_F (FnAt.of (by k_asm) (by k_mem)) ?_))))
  (k_with "And" => (((with_reducible show FnAt _ _ ∧ _); refine ⟨by k_dflt (exact FnAt.of (by k_asm) (by k_mem)), ?_⟩; (try dsimp only [List.nil_append, List.cons_append]))))
  (k_with "subscriptTail Name Name ref int" => ((k_dflt (refine' item_list ?lQ9 ?aQ9 ?bQ9 ?cQ9 ?_; (case lQ9 => exact News.isList (by k_asm) (by k_mem)); (case aQ9 => assumption); (case bQ9 => assumption); (case cQ9 => assumption)))))
  (k_with "call ref" => ((k_dflt (refine' bisR4_spec (B := ?BQ9) (F := ?FQ9) (X := ?XQ9) (N := ?NQ9) (T := ?TQ9) (hk := ?hkQ9) (hd := ?hdQ9) (hu := ?huQ9) (hR := ?hRQ9) (hks := ?hksQ9) (C := ?CQ9) (hf := ?hfQ9) (hlo := ?hloQ9) (hsz := ?hszQ9) (mono := ?monoQ9) (ret := ?_); (case BQ9 => k_asm); (case FQ9 => k_asm); (case XQ9 => k_asm); (case NQ9 => k_asm); (case TQ9 => k_asm); (case hkQ9 => first | exact rfl | assumption); (case hdQ9 => ktr_room); (case huQ9 => ktr_units); (case hRQ9 => assumption); (case hksQ9 => assumption); (case CQ9 => assumption); (case hfQ9 => assumption); (case hloQ9 => assumption); (case hszQ9 => assumption); (case monoQ9 => assumption)); intro _ _ _ _ _ _ _ _ _ _; (try dsimp only))))
  (k_with "call ref" => ((k_dflt (refine' key_use ?CQ9 ?BQ9 ?FQ9 ?XQ9 ?NQ9 ?TQ9 ?hkQ9 ?hdQ9 ?huQ9 ?subQ9 ?hvQ9 ?_; (case CQ9 => assumption); (case BQ9 => k_asm); (case FQ9 => k_asm); (case XQ9 => k_asm); (case NQ9 => k_asm); (case TQ9 => k_asm); (case hkQ9 => first | exact rfl | assumption); (case hdQ9 => ktr_room); (case huQ9 => ktr_units); (case subQ9 => exact fun _ h => h); (case hvQ9 => assumption)); intro _ _ _ _ _; (try dsimp only))))
  (k_with "k_mem" => (assumption))
  (k_with "execs cons" => (refine wpAny_execs_cons ?_; k_fold))
  (k_with "walk1" => (k_unfold; (try dsimp only); (try clear ek); (try clear qk); walk1))
  revert X; k_fill; intro X
  have hR := Upd.mem (U [])
  refine wpAny_call ?_
  k_dflt cell_enter
  walk_at "m_go"
  rename Fr _ _ _ _ => F9
  rename News _ _ _ _ => N9
  rename ∀ i, _ ≤ i → i < vs.length → x < K i => q4
  k_dflt (refine' kl_insert F9 N9 ?f rfl (U _) ?z ?_)
  case f => simp only [Builtin.List.listFitsIndex, Bool.and_eq_true, decide_eq_true_eq]; omega
  case z => rw [sizeLine_eq]; simp only []; omega
  intro h8 F8 N8
  walk_at "m_go"
  refine ret _ _ _ ?_ ?_ ?_ ?_ ?_ q4
  · k_asm
  · k_asm
  · assumption
  · assumption
  · assumption
end
end Mine
end
section
open PySem PySem.W PyProof.Rows PyProof.V PySem.Spec PySem.PyData
namespace Mine
set_option maxHeartbeats 4000000
open PyProof.Rows.LCg (SrcAt NsObj Off3 Off1 lst FinE)

theorem codeAmong_snoc_inv {pos : PySem.Pos} {a b : Int} {c v : Value} : ∀ (l : List Value), TriplesOk l → codeAmong pos (l ++ [rawInt a, rawInt b, c]) = some v → codeAmong pos l = some v ∨ v = c := by
  intro l h e
  fun_induction TriplesOk l with
  | case1 =>
    simp only [List.nil_append, rawInt, codeAmong] at e
    split at e
    · exact .inr (Option.some.inj e).symm
    · cases e
  | case2 x t y u z rest ih =>
    simp only [List.cons_append, codeAmong] at e ⊢
    split at e
    · rename_i hh; rw [if_pos hh]; exact .inl e
    · rename_i hh; rw [if_neg hh]; exact ih h e
  | case3 => exact h.elim
/-- the code that a list already holds for a name -/
def CodeFor (qual : PySem.Str) (news : List (Addr × Obj)) (v : Value) : Prop := ∃ c' oc vs t, v = .ref c' ∧ (c', oc) ∈ news ∧ oc.data = .fields vs ∧ vs[1]? = some (.str qual t)
theorem CodeFor.mono {qual : PySem.Str} {news news' : List (Addr × Obj)} {v : Value} (h : CodeFor qual news v) (k : ∀ q ∈ news, q ∈ news') : CodeFor qual news' v :=
  let ⟨c', oc, vs, t, e, hm, a, b⟩ := h; ⟨c', oc, vs, t, e, k _ hm, a, b⟩
def TabOk (ps : Array Value) (qual : PySem.Str) (news : List (Addr × Obj)) : Prop := TriplesOk ps.toList ∧ ∀ pos v, codeAmong pos ps.toList = some v → CodeFor qual news v
theorem TabOk.mono {ps : Array Value} {qual : PySem.Str} {news news' : List (Addr × Obj)} (h : TabOk ps qual news) (k : ∀ q ∈ news, q ∈ news') : TabOk ps qual news' :=
  ⟨h.1, fun pos v e => (h.2 pos v e).mono k⟩
theorem TabOk.nil {qual : PySem.Str} {news : List (Addr × Obj)} : TabOk #[] qual news := ⟨trivial, fun pos v e => by simp [codeAmong] at e⟩
section
variable {w : World} {p : Program} {loose : List PySem.Str} {mean : ExcName → Option Value} {mg mb : PySem.Str → Option Value}
   {dp un : Nat} {gd : Option (List Code)} {cn : PySem.Str} {cs : PySem.Scope} {a : Addr} {ccd : Value} {cl : List (PySem.Str × Addr)} {outer : List Env} {A₀ : Around} {base h₀ : Heap} {L : Addr} {m : PySem.Str → Option Value} {news : List (Addr × Obj)} {s : Shared} {Q E : Value → Shared → Prop}

theorem lam_mk {R P c : Addr} {oR : Obj} {ps : Array Value} {rest : List (Addr × Obj)} {name qual : PySem.Str} {params : Arguments} {body : PySem.Expr} {scope : PySem.Scope} {pos : PySem.Pos} {firstLine : Nat} {clos : List (PySem.Str × Addr)} {prog : Program} {A : Around}
    (F : Fr h₀ L s.heap m) (N : News h₀ L s.heap ((R, oR) :: (P, tabObj ps) :: rest)) (T : Top p loose mean mg mb h₀) (C : CodeHd h₀ c P) (hcd : ccd = .ref c) (ht : TabOk ps qual rest)
    (hRP : (@Ne Nat R P)) (hP : ∀ q ∈ rest, q.1 ≠ P) (hR : ∀ q ∈ rest, q.1 ≠ R)
    (hcl : closureFor scope (envX cn cs L a ccd cl) = pure clos)
    (ret : ∀ f c' ctv ps' rest' h' tk, Fr h₀ L h' m → News h₀ L h' ((R, oR) :: (P, tabObj ps') :: rest') → TabOk ps' qual rest' → CodeFor qual rest' (.ref c') →
      (f, kla_obj name qual params body scope clos ((mg "__name__").getD .none) c' ctv) ∈ rest' → (∀ q ∈ rest', q.1 ≠ P) → (∀ q ∈ rest', q.1 ≠ R) → (∀ q ∈ rest, q ∈ rest') → Q (.ref f) { s with heap := h', toks := tk }) :
    wpAny (model prog w) A (makeFunction name qual params (.expr body) scope (envX cn cs L a ccd cl) [] [] [] pos firstLine) Q E s := by
  cases hc : codeAmong pos ps.toList with
  | none =>
    refine kla_nest F N T C hcd (.tail hRP (.head hP)) ht.1 hc hcl ?_
    intro f c' oc vs t ctv h' tk F' N' hd hv l1 l2
    have lR : R < c' := l1 _ List.mem_cons_self
    have lP : P < c' := l1 _ (List.mem_cons_of_mem _ List.mem_cons_self)
    have lr : ∀ q ∈ rest, q.1 < c' := fun q hq => l1 q (List.mem_cons_of_mem _ (List.mem_cons_of_mem _ hq))
    refine ret f c' ctv (ps ++ #[rawInt pos.line, rawInt pos.col, .ref c']) ((f, kla_obj name qual params body scope clos ((mg "__name__").getD .none) c' ctv) :: (c', oc) :: rest) h' tk F' ?_ ⟨?_, ?_⟩ ?_ List.mem_cons_self ?_ ?_ ?_
    · intro q hq
      refine N' q ?_
      walk_at "perm"
    · rw [Array.toList_append]; exact TriplesOk_snoc _ _ _ _ ht.1
    · intro pos' v e
      rw [Array.toList_append] at e
      rcases codeAmong_snoc_inv _ ht.1 e with e | rfl
      · exact (ht.2 _ _ e).mono fun q hq => List.mem_cons_of_mem _ (List.mem_cons_of_mem _ hq)
      · exact ⟨c', oc, vs, t, rfl, List.mem_cons_of_mem _ List.mem_cons_self, hd, hv⟩
    · exact ⟨c', oc, vs, t, rfl, List.mem_cons_of_mem _ List.mem_cons_self, hd, hv⟩
    · intro q hq
      rcases List.mem_cons.mp hq with rfl | hq
      · exact Nat.ne_of_gt (Nat.lt_trans lP l2)
      · rcases List.mem_cons.mp hq with rfl | hq
        · exact Nat.ne_of_gt lP
        · exact hP q hq
    · intro q hq
      rcases List.mem_cons.mp hq with rfl | hq
      · exact Nat.ne_of_gt (Nat.lt_trans lR l2)
      · rcases List.mem_cons.mp hq with rfl | hq
        · exact Nat.ne_of_gt lR
        · exact hR q hq
    · exact fun q hq => List.mem_cons_of_mem _ (List.mem_cons_of_mem _ hq)
  | some v =>
    obtain ⟨c', oc, vs, t, rfl, hm, hd, hv⟩ := ht.2 _ _ hc
    refine kla_hit F N T C hcd (List.mem_cons_of_mem _ List.mem_cons_self) ht.1 hc hcl ?_
    intro f ctv h' tk F' N' l1
    have lR : R < f := l1 _ List.mem_cons_self
    have lP : P < f := l1 _ (List.mem_cons_of_mem _ List.mem_cons_self)
    refine ret f c' ctv ps ((f, kla_obj name qual params body scope clos ((mg "__name__").getD .none) c' ctv) :: rest) h' tk F' ?_ (ht.mono fun q hq => List.mem_cons_of_mem _ hq) ⟨c', oc, vs, t, rfl, List.mem_cons_of_mem _ hm, hd, hv⟩ List.mem_cons_self ?_ ?_ ?_
    · intro q hq
      refine N' q ?_
      walk_at "perm"
    · intro q hq
      rcases List.mem_cons.mp hq with rfl | hq
      · exact Nat.ne_of_gt lP
      · exact hP q hq
    · intro q hq
      rcases List.mem_cons.mp hq with rfl | hq
      · exact Nat.ne_of_gt lR
      · exact hR q hq
    · exact fun q hq => List.mem_cons_of_mem _ hq
end
/-- what the walls tell of a pair -/
def WallP (D : List (PyData × PyData)) (rest : List (Addr × Obj)) (v : Value) (k : Int) : Prop :=
  ∃ r : PySem.Str × PySem.Str, RowIs rest v r ∧ Builtin.Str.tooLong (Txt.lower r.1).length = false ∧ lookup (.str (Txt.lower r.1)) D = some (.int k)
abbrev wParams (p8 : PySem.Pos) : Arguments := { posonlyargs := [], args := [{ arg := "pair", annotation := none, pos := p8 }], vararg := none, kwonlyargs := [], kw_defaults := [], kwarg := none, defaults := [] }
abbrev wScope : PySem.Scope := { kind := .function, names := [("pair", .local), ("walls", .free)], isGenerator := false, isCoroutine := false, more := [] }
section
variable {w : World} {p : Program} {loose : List PySem.Str} {mean : ExcName → Option Value} {mg mb : PySem.Str → Option Value}
set_option maxRecDepth 100000 in
set_option maxHeartbeats 8000000 in
theorem lam_key1 {f WC WD c' : Addr} {oC oD : Obj} {D : List (PyData × PyData)} {kvs : List (PySem.Str × Value)} {rest : List (Addr × Obj)} {qual : PySem.Str} {pm ctv : Value} 
    (ho : (f, kla_obj "<lambda>" qual (wParams ⟨256, 61, 256, 65⟩) (.Subscript (.Name "walls" ⟨256, 67, 256, 72⟩) (.Call (.Attribute (.Subscript (.Name "pair" ⟨256, 73, 256, 77⟩) (.Constant (.int 0) 0 ⟨256, 78, 256, 79⟩) ⟨256, 73, 256, 80⟩) "lower" ⟨256, 73, 256, 86⟩) [] [] ⟨256, 73, 256, 88⟩) ⟨256, 67, 256, 89⟩) wScope [("walls", WC)] pm c' ctv) ∈ rest) (hc : CodeFor qual rest (.ref c'))
    (hWC : (WC, oC) ∈ rest) (hoC : oC.data = .cell (some (.ref WD))) (hWD : (WD, oD) ∈ rest) (lo : (WD == sysModules) = false) (hoD : oD.IsDictOf (strKind PySem.Challenge.rw_uk0024_01.row.prog w) kvs) (hfl : FlatPairs PyData.str kvs D) :
    KeyOk w p loose mean mg mb f rest (WallP D rest) := by
  k_with_none
  (k_with "ce1" => (refine' code_def ?k1Q9 ?k2Q9 ?k3Q9 ?k4Q9 ?k5Q9 ?kAQ9 ?kFQ9 ?kKQ9 ?k6Q9 ?k7Q9 ?k8Q9 ?k9Q9 ?kBQ9 ?_ ?c2Q9 ?c3Q9 ?c4Q9 ?c5Q9; (case kAQ9 => exact rfl); (case kFQ9 => exact rfl); (case kKQ9 => first | assumption | exact rfl); (case k1Q9 => k_asm); (case k2Q9 => k_asm); (case k3Q9 => k_asm); (case k4Q9 => k_asm); (case k5Q9 => k_asm); (case k6Q9 => k_is); (case k7Q9 => k_is); (case k8Q9 => ktr_room); (case k9Q9 => first | exact BindsTo.of_eq rfl | exact binds_K (by k_in) rfl (by k_is) rfl rfl rfl); (case c5Q9 => decide); (case kBQ9 => exact locs rfl); (case c2Q9 => exact rfl); (case c3Q9 => exact rfl); (case c4Q9 => exact rfl); k_whole))
  (k_with "ce2" => (refine' code_defC ?k1Q9 ?k2Q9 ?k3Q9 ?k4Q9 ?k5Q9 ?kAQ9 ?kFQ9 ?kKQ9 ?k6Q9 ?k7Q9 ?k8Q9 ?k9Q9 ?kBQ9 ?kDQ9 ?_ ?c2Q9 ?c3Q9 ?c4Q9; (case kAQ9 => exact rfl); (case kFQ9 => exact rfl); (case kKQ9 => first | assumption | exact rfl); (case k1Q9 => k_asm); (case k2Q9 => k_asm); (case k3Q9 => k_asm); (case k4Q9 => k_asm); (case k5Q9 => k_asm); (case k6Q9 => k_is); (case k7Q9 => k_is); (case k8Q9 => ktr_room); (case k9Q9 => first | exact BindsTo.of_eq rfl | exact binds_K (by k_in) rfl (by k_is) rfl rfl rfl); (case kBQ9 => exact rfl); (case kDQ9 => decide +kernel); (case c2Q9 => exact rfl); (case c3Q9 => exact rfl); (case c4Q9 => exact rfl); k_whole))
  (k_with "ktr_units" => ((have hcL9 := cLine_is; (simp only [Mine.units_make, PyProof.Rows.units_in1, PyProof.Rows.units_deeper, PySem.Around.mark_units, PyProof.Rows.units_caller, ktrTop] at *); omega)))
  (k_with "ktr_units" => ((simp only [Mine.units_make, PyProof.Rows.units_in1, PyProof.Rows.units_deeper, PySem.Around.mark_units, PyProof.Rows.units_caller]; first | exact Mine.fit2 (by with_reducible assumption) (by decide) | exact Mine.fit3 (by with_reducible assumption) (by decide) | fail "no")))
  (k_with "ktr_units" => (first | exact Mine.fit2 (d := (PySem.W.ktrTop _ _ _ _ _ _ _ _ _ _).units) (by assumption) (by decide) | exact Mine.fit3 (d := (PySem.W.ktrTop _ _ _ _ _ _ _ _ _ _).units) (by assumption) (by decide) | exact Mine.fit1 (d := (PySem.W.ktrTop _ _ _ _ _ _ _ _ _ _).units) (by assumption) (by decide) | fail "no"))
  (k_with "ktr_room" => (first | exact Mine.fit0 (d := (PySem.W.ktrTop _ _ _ _ _ _ _ _ _ _).depth) (by assumption) | exact Mine.fit2 (d := (PySem.W.ktrTop _ _ _ _ _ _ _ _ _ _).depth) (by assumption) (by decide) | exact Mine.fit3 (d := (PySem.W.ktrTop _ _ _ _ _ _ _ _ _ _).depth) (by assumption) (by decide) | exact Mine.fit1 (d := (PySem.W.ktrTop _ _ _ _ _ _ _ _ _ _).depth) (by assumption) (by decide) | fail "no"))
  (k_with "omega" => (first | (lia) | fail "no"))
  (k_with "omega" => (with_reducible first | exact Int.natCast_nonneg _ | exact Mine.le_cl (by decide) | exact Mine.lt_cl (by decide) | fail "no"))
  (k_with "simp" => (with_reducible first | exact List.mem_cons_self | (refine List.mem_cons_of_mem _ ?_; simp; done) | fail "no"))
  (k_with "simph" => (with_reducible first | assumption | exact List.mem_cons_of_mem _ (by assumption) | exact Or.inl (by assumption) | exact List.mem_append_left _ (by assumption) | exact List.mem_append_right _ (by assumption) | (refine List.mem_cons_of_mem _ ?_; k_extra "simph"; done) | (refine Or.inr ?_; k_extra "simph"; done) | fail "no"))
  (k_with "perm" => ((refine (?_ : ∀ q ∈ _, q ∈ _) _ (by assumption); (repeat (with_reducible refine List.forall_mem_cons.mpr ⟨by first | exact List.mem_cons_self | (refine List.mem_cons_of_mem _ ?_; simp; done), ?_⟩)); with_reducible (intro q hq; repeat (first | exact hq | refine List.mem_cons_of_mem _ ?_)))))
  (k_with "m_fru" => (first | (with_reducible refine frU_wrap ?_ (by decide); walk_at "m_fru") | exact rfl))
  (k_with "call builtin:len" => (((with_reducible show wpAny _ _ (call (Value.builtin "len") [Value.ref _]) _ _ _); k_dflt (refine' len_list ?lQ9 ?fQ9 ?_; (case lQ9 => exact News.isList (by k_asm) (by k_mem)); (case fQ9 => (simp only [List.size_toArray]; omega))); (try simp only [List.size_toArray]))))
  (k_with "m_go" => (repeat (
    (fail_if_success (with_reducible show wpAny _ _ (exec (PySem.Stmt.While _ _ _ _) _) _ _ _));
    (fail_if_success (with_reducible show wpAny _ _ (exec (PySem.Stmt.For _ _ _ _ _) _) _ _ _));
    (fail_if_success (with_reducible show wpAny _ _ (exec (PySem.Stmt.Assign _ (PySem.Expr.ListComp _ _ _ _) _) _) _ _ _));
    (fail_if_success (with_reducible show wpAny _ _ (eval (PySem.Expr.ListComp _ _ _ _) _) _ _ _));
    first | walk1 | (dsimp only; walk1))))
  (k_with "eval Name" => ((k_here; k_dflt (refine' nameX_L ?FQ9 ?vQ9 ?_ ?aQ9 ?bQ9; (case aQ9 => rfl); (case bQ9 => rfl); (case FQ9 => k_asm); (case vQ9 => first | exact rfl | assumption)))))
  (k_with "call builtin:str.lower" => ((refine SC.lower (by assumption) ?_)))
  intro dp un gd cn cs a ccd cl outer A₀ base h₀ L m news' s Q E v k B F X N T hk hd hu sub hvk ret
  obtain ⟨⟨rk, rt⟩, ⟨t, k1, k2, rfl, hm⟩, hfit, hlk⟩ := hvk
  obtain ⟨_, oc, vs, t9, ⟨⟩, hcm, hcd, hcv⟩ := hc
  replace ho := sub _ ho
  replace hWC := sub _ hWC
  replace hWD := sub _ hWD
  replace hcm := sub _ hcm
  replace hm := sub _ hm
  dsimp only at hfit hlk
  revert X; k_fill; intro X
  refine wpAny_call ?_
  k_dflt (refine' kla_code ?k1 ?k2 ?k3 ?k4 ?k5 ?kA ?kF ?kK ?k6 ?k7 ?k8 ?k9 ?kB ?_ ?c2 ?c3 ?c4 ?c5; (case kA => exact rfl); (case kF => exact rfl); (case kK => exact hk); (case k1 => k_asm); (case k2 => k_asm); (case k3 => k_asm); (case k4 => k_asm); (case k5 => k_asm); (case k6 => exact ho); (case k7 => exact codeRec_news (by k_asm) hcm hcd hcv); (case k8 => ktr_room); (case k9 => exact rfl); (case c5 => decide); (case kB => exact locs rfl); (case c2 => exact rfl); (case c3 => exact rfl); (case c4 => exact rfl))
  intro g' L' h' FG' F' N' B' X' T'
  try dsimp only
  try k_lift B'
  try k_fold
  walk1
  refine nameX_F (by k_asm) rfl hWC hoC ?_
  refine MethodCall_ ?_
  iterate 7 walk1
  refine tab_tail (knd := strKind _ _) (enc := PyData.str) (TabAt.ofNews (by k_asm) hWD lo hoD hfl) ?_
  refine getItem_tab PyProof.V.same_str (strKind_is _ _ _ _) (TabAt.ofNews (by k_asm) hWD lo hoD hfl) hlk ?_
  intro v hv
  dict_open hv
  walk_at "m_go"
  exact ret _ _ _ (by k_asm) (by k_asm)
set_option maxRecDepth 100000 in
set_option maxHeartbeats 8000000 in
theorem lam_key2 {f WC WD c' : Addr} {oC oD : Obj} {D : List (PyData × PyData)} {kvs : List (PySem.Str × Value)} {rest : List (Addr × Obj)} {qual : PySem.Str} {pm ctv : Value} 
    (ho : (f, kla_obj "<lambda>" qual (wParams ⟨257, 61, 257, 65⟩) (.Subscript (.Name "walls" ⟨257, 67, 257, 72⟩) (.Call (.Attribute (.Subscript (.Name "pair" ⟨257, 73, 257, 77⟩) (.Constant (.int 0) 0 ⟨257, 78, 257, 79⟩) ⟨257, 73, 257, 80⟩) "lower" ⟨257, 73, 257, 86⟩) [] [] ⟨257, 73, 257, 88⟩) ⟨257, 67, 257, 89⟩) wScope [("walls", WC)] pm c' ctv) ∈ rest) (hc : CodeFor qual rest (.ref c'))
    (hWC : (WC, oC) ∈ rest) (hoC : oC.data = .cell (some (.ref WD))) (hWD : (WD, oD) ∈ rest) (lo : (WD == sysModules) = false) (hoD : oD.IsDictOf (strKind PySem.Challenge.rw_uk0024_01.row.prog w) kvs) (hfl : FlatPairs PyData.str kvs D) :
    KeyOk w p loose mean mg mb f rest (WallP D rest) := by
  k_with_none
  (k_with "ce1" => (refine' code_def ?k1Q9 ?k2Q9 ?k3Q9 ?k4Q9 ?k5Q9 ?kAQ9 ?kFQ9 ?kKQ9 ?k6Q9 ?k7Q9 ?k8Q9 ?k9Q9 ?kBQ9 ?_ ?c2Q9 ?c3Q9 ?c4Q9 ?c5Q9; (case kAQ9 => exact rfl); (case kFQ9 => exact rfl); (case kKQ9 => first | assumption | exact rfl); (case k1Q9 => k_asm); (case k2Q9 => k_asm); (case k3Q9 => k_asm); (case k4Q9 => k_asm); (case k5Q9 => k_asm); (case k6Q9 => k_is); (case k7Q9 => k_is); (case k8Q9 => ktr_room); (case k9Q9 => first | exact BindsTo.of_eq rfl | exact binds_K (by k_in) rfl (by k_is) rfl rfl rfl); (case c5Q9 => decide); (case kBQ9 => exact locs rfl); (case c2Q9 => exact rfl); (case c3Q9 => exact rfl); (case c4Q9 => exact rfl); k_whole))
  (k_with "ce2" => (refine' code_defC ?k1Q9 ?k2Q9 ?k3Q9 ?k4Q9 ?k5Q9 ?kAQ9 ?kFQ9 ?kKQ9 ?k6Q9 ?k7Q9 ?k8Q9 ?k9Q9 ?kBQ9 ?kDQ9 ?_ ?c2Q9 ?c3Q9 ?c4Q9; (case kAQ9 => exact rfl); (case kFQ9 => exact rfl); (case kKQ9 => first | assumption | exact rfl); (case k1Q9 => k_asm); (case k2Q9 => k_asm); (case k3Q9 => k_asm); (case k4Q9 => k_asm); (case k5Q9 => k_asm); (case k6Q9 => k_is); (case k7Q9 => k_is); (case k8Q9 => ktr_room); (case k9Q9 => first | exact BindsTo.of_eq rfl | exact binds_K (by k_in) rfl (by k_is) rfl rfl rfl); (case kBQ9 => exact rfl); (case kDQ9 => decide +kernel); (case c2Q9 => exact rfl); (case c3Q9 => exact rfl); (case c4Q9 => exact rfl); k_whole))
  (k_with "ktr_units" => ((have hcL9 := cLine_is; (simp only [Mine.units_make, PyProof.Rows.units_in1, PyProof.Rows.units_deeper, PySem.Around.mark_units, PyProof.Rows.units_caller, ktrTop] at *); omega)))
  (k_with "ktr_units" => ((simp only [Mine.units_make, PyProof.Rows.units_in1, PyProof.Rows.units_deeper, PySem.Around.mark_units, PyProof.Rows.units_caller]; first | exact Mine.fit2 (by with_reducible assumption) (by decide) | exact Mine.fit3 (by with_reducible assumption) (by decide) | fail "no")))
  (k_with "ktr_units" => (first | exact Mine.fit2 (d := (PySem.W.ktrTop _ _ _ _ _ _ _ _ _ _).units) (by assumption) (by decide) | exact Mine.fit3 (d := (PySem.W.ktrTop _ _ _ _ _ _ _ _ _ _).units) (by assumption) (by decide) | exact Mine.fit1 (d := (PySem.W.ktrTop _ _ _ _ _ _ _ _ _ _).units) (by assumption) (by decide) | fail "no"))
  (k_with "ktr_room" => (first | exact Mine.fit0 (d := (PySem.W.ktrTop _ _ _ _ _ _ _ _ _ _).depth) (by assumption) | exact Mine.fit2 (d := (PySem.W.ktrTop _ _ _ _ _ _ _ _ _ _).depth) (by assumption) (by decide) | exact Mine.fit3 (d := (PySem.W.ktrTop _ _ _ _ _ _ _ _ _ _).depth) (by assumption) (by decide) | exact Mine.fit1 (d := (PySem.W.ktrTop _ _ _ _ _ _ _ _ _ _).depth) (by assumption) (by decide) | fail "no"))
  (k_with "omega" => (first | (lia) | fail "no"))
  (k_with "omega" => (with_reducible first | exact Int.natCast_nonneg _ | exact Mine.le_cl (by decide) | exact Mine.lt_cl (by decide) | fail "no"))
  (k_with "simp" => (with_reducible first | exact List.mem_cons_self | (refine List.mem_cons_of_mem _ ?_; simp; done) | fail "no"))
  (k_with "simph" => (with_reducible first | assumption | exact List.mem_cons_of_mem _ (by assumption) | exact Or.inl (by assumption) | exact List.mem_append_left _ (by assumption) | exact List.mem_append_right _ (by assumption) | (refine List.mem_cons_of_mem _ ?_; k_extra "simph"; done) | (refine Or.inr ?_; k_extra "simph"; done) | fail "no"))
  (k_with "perm" => ((refine (?_ : ∀ q ∈ _, q ∈ _) _ (by assumption); (repeat (with_reducible refine List.forall_mem_cons.mpr ⟨by first | exact List.mem_cons_self | (refine List.mem_cons_of_mem _ ?_; simp; done), ?_⟩)); with_reducible (intro q hq; repeat (first | exact hq | refine List.mem_cons_of_mem _ ?_)))))
  (k_with "m_fru" => (first | (with_reducible refine frU_wrap ?_ (by decide); walk_at "m_fru") | exact rfl))
  (k_with "call builtin:len" => (((with_reducible show wpAny _ _ (call (Value.builtin "len") [Value.ref _]) _ _ _); k_dflt (refine' len_list ?lQ9 ?fQ9 ?_; (case lQ9 => exact News.isList (by k_asm) (by k_mem)); (case fQ9 => (simp only [List.size_toArray]; omega))); (try simp only [List.size_toArray]))))
  (k_with "m_go" => (repeat (
    (fail_if_success (with_reducible show wpAny _ _ (exec (PySem.Stmt.While _ _ _ _) _) _ _ _));
    (fail_if_success (with_reducible show wpAny _ _ (exec (PySem.Stmt.For _ _ _ _ _) _) _ _ _));
    (fail_if_success (with_reducible show wpAny _ _ (exec (PySem.Stmt.Assign _ (PySem.Expr.ListComp _ _ _ _) _) _) _ _ _));
    (fail_if_success (with_reducible show wpAny _ _ (eval (PySem.Expr.ListComp _ _ _ _) _) _ _ _));
    first | walk1 | (dsimp only; walk1))))
  (k_with "eval Name" => ((k_here; k_dflt (refine' nameX_L ?FQ9 ?vQ9 ?_ ?aQ9 ?bQ9; (case aQ9 => rfl); (case bQ9 => rfl); (case FQ9 => k_asm); (case vQ9 => first | exact rfl | assumption)))))
  (k_with "call builtin:str.lower" => ((refine SC.lower (by assumption) ?_)))
  intro dp un gd cn cs a ccd cl outer A₀ base h₀ L m news' s Q E v k B F X N T hk hd hu sub hvk ret
  obtain ⟨⟨rk, rt⟩, ⟨t, k1, k2, rfl, hm⟩, hfit, hlk⟩ := hvk
  obtain ⟨_, oc, vs, t9, ⟨⟩, hcm, hcd, hcv⟩ := hc
  replace ho := sub _ ho
  replace hWC := sub _ hWC
  replace hWD := sub _ hWD
  replace hcm := sub _ hcm
  replace hm := sub _ hm
  dsimp only at hfit hlk
  revert X; k_fill; intro X
  refine wpAny_call ?_
  k_dflt (refine' kla_code ?k1 ?k2 ?k3 ?k4 ?k5 ?kA ?kF ?kK ?k6 ?k7 ?k8 ?k9 ?kB ?_ ?c2 ?c3 ?c4 ?c5; (case kA => exact rfl); (case kF => exact rfl); (case kK => exact hk); (case k1 => k_asm); (case k2 => k_asm); (case k3 => k_asm); (case k4 => k_asm); (case k5 => k_asm); (case k6 => exact ho); (case k7 => exact codeRec_news (by k_asm) hcm hcd hcv); (case k8 => ktr_room); (case k9 => exact rfl); (case c5 => decide); (case kB => exact locs rfl); (case c2 => exact rfl); (case c3 => exact rfl); (case c4 => exact rfl))
  intro g' L' h' FG' F' N' B' X' T'
  try dsimp only
  try k_lift B'
  try k_fold
  walk1
  refine nameX_F (by k_asm) rfl hWC hoC ?_
  refine MethodCall_ ?_
  iterate 7 walk1
  refine tab_tail (knd := strKind _ _) (enc := PyData.str) (TabAt.ofNews (by k_asm) hWD lo hoD hfl) ?_
  refine getItem_tab PyProof.V.same_str (strKind_is _ _ _ _) (TabAt.ofNews (by k_asm) hWD lo hoD hfl) hlk ?_
  intro v hv
  dict_open hv
  walk_at "m_go"
  exact ret _ _ _ (by k_asm) (by k_asm)
set_option maxRecDepth 100000 in
set_option maxHeartbeats 8000000 in
theorem lam_key3 {f WC WD c' : Addr} {oC oD : Obj} {D : List (PyData × PyData)} {kvs : List (PySem.Str × Value)} {rest : List (Addr × Obj)} {qual : PySem.Str} {pm ctv : Value} 
    (ho : (f, kla_obj "<lambda>" qual (wParams ⟨260, 53, 260, 57⟩) (.Subscript (.Name "walls" ⟨260, 59, 260, 64⟩) (.Call (.Attribute (.Subscript (.Name "pair" ⟨260, 65, 260, 69⟩) (.Constant (.int 0) 0 ⟨260, 70, 260, 71⟩) ⟨260, 65, 260, 72⟩) "lower" ⟨260, 65, 260, 78⟩) [] [] ⟨260, 65, 260, 80⟩) ⟨260, 59, 260, 81⟩) wScope [("walls", WC)] pm c' ctv) ∈ rest) (hc : CodeFor qual rest (.ref c'))
    (hWC : (WC, oC) ∈ rest) (hoC : oC.data = .cell (some (.ref WD))) (hWD : (WD, oD) ∈ rest) (lo : (WD == sysModules) = false) (hoD : oD.IsDictOf (strKind PySem.Challenge.rw_uk0024_01.row.prog w) kvs) (hfl : FlatPairs PyData.str kvs D) :
    KeyOk w p loose mean mg mb f rest (WallP D rest) := by
  k_with_none
  (k_with "ce1" => (refine' code_def ?k1Q9 ?k2Q9 ?k3Q9 ?k4Q9 ?k5Q9 ?kAQ9 ?kFQ9 ?kKQ9 ?k6Q9 ?k7Q9 ?k8Q9 ?k9Q9 ?kBQ9 ?_ ?c2Q9 ?c3Q9 ?c4Q9 ?c5Q9; (case kAQ9 => exact rfl); (case kFQ9 => exact rfl); (case kKQ9 => first | assumption | exact rfl); (case k1Q9 => k_asm); (case k2Q9 => k_asm); (case k3Q9 => k_asm); (case k4Q9 => k_asm); (case k5Q9 => k_asm); (case k6Q9 => k_is); (case k7Q9 => k_is); (case k8Q9 => ktr_room); (case k9Q9 => first | exact BindsTo.of_eq rfl | exact binds_K (by k_in) rfl (by k_is) rfl rfl rfl); (case c5Q9 => decide); (case kBQ9 => exact locs rfl); (case c2Q9 => exact rfl); (case c3Q9 => exact rfl); (case c4Q9 => exact rfl); k_whole))
  (k_with "ce2" => (refine' code_defC ?k1Q9 ?k2Q9 ?k3Q9 ?k4Q9 ?k5Q9 ?kAQ9 ?kFQ9 ?kKQ9 ?k6Q9 ?k7Q9 ?k8Q9 ?k9Q9 ?kBQ9 ?kDQ9 ?_ ?c2Q9 ?c3Q9 ?c4Q9; (case kAQ9 => exact rfl); (case kFQ9 => exact rfl); (case kKQ9 => first | assumption | exact rfl); (case k1Q9 => k_asm); (case k2Q9 => k_asm); (case k3Q9 => k_asm); (case k4Q9 => k_asm); (case k5Q9 => k_asm); (case k6Q9 => k_is); (case k7Q9 => k_is); (case k8Q9 => ktr_room); (case k9Q9 => first | exact BindsTo.of_eq rfl | exact binds_K (by k_in) rfl (by k_is) rfl rfl rfl); (case kBQ9 => exact rfl); (case kDQ9 => decide +kernel); (case c2Q9 => exact rfl); (case c3Q9 => exact rfl); (case c4Q9 => exact rfl); k_whole))
  (k_with "ktr_units" => ((have hcL9 := cLine_is; (simp only [Mine.units_make, PyProof.Rows.units_in1, PyProof.Rows.units_deeper, PySem.Around.mark_units, PyProof.Rows.units_caller, ktrTop] at *); omega)))
  (k_with "ktr_units" => ((simp only [Mine.units_make, PyProof.Rows.units_in1, PyProof.Rows.units_deeper, PySem.Around.mark_units, PyProof.Rows.units_caller]; first | exact Mine.fit2 (by with_reducible assumption) (by decide) | exact Mine.fit3 (by with_reducible assumption) (by decide) | fail "no")))
  (k_with "ktr_units" => (first | exact Mine.fit2 (d := (PySem.W.ktrTop _ _ _ _ _ _ _ _ _ _).units) (by assumption) (by decide) | exact Mine.fit3 (d := (PySem.W.ktrTop _ _ _ _ _ _ _ _ _ _).units) (by assumption) (by decide) | exact Mine.fit1 (d := (PySem.W.ktrTop _ _ _ _ _ _ _ _ _ _).units) (by assumption) (by decide) | fail "no"))
  (k_with "ktr_room" => (first | exact Mine.fit0 (d := (PySem.W.ktrTop _ _ _ _ _ _ _ _ _ _).depth) (by assumption) | exact Mine.fit2 (d := (PySem.W.ktrTop _ _ _ _ _ _ _ _ _ _).depth) (by assumption) (by decide) | exact Mine.fit3 (d := (PySem.W.ktrTop _ _ _ _ _ _ _ _ _ _).depth) (by assumption) (by decide) | exact Mine.fit1 (d := (PySem.W.ktrTop _ _ _ _ _ _ _ _ _ _).depth) (by assumption) (by decide) | fail "no"))
  (k_with "omega" => (first | (lia) | fail "no"))
  (k_with "omega" => (with_reducible first | exact Int.natCast_nonneg _ | exact Mine.le_cl (by decide) | exact Mine.lt_cl (by decide) | fail "no"))
  (k_with "simp" => (with_reducible first | exact List.mem_cons_self | (refine List.mem_cons_of_mem _ ?_; simp; done) | fail "no"))
  (k_with "simph" => (with_reducible first | assumption | exact List.mem_cons_of_mem _ (by assumption) | exact Or.inl (by assumption) | exact List.mem_append_left _ (by assumption) | exact List.mem_append_right _ (by assumption) | (refine List.mem_cons_of_mem _ ?_; k_extra "simph"; done) | (refine Or.inr ?_; k_extra "simph"; done) | fail "no"))
  (k_with "perm" => ((refine (?_ : ∀ q ∈ _, q ∈ _) _ (by assumption); (repeat (with_reducible refine List.forall_mem_cons.mpr ⟨by first | exact List.mem_cons_self | (refine List.mem_cons_of_mem _ ?_; simp; done), ?_⟩)); with_reducible (intro q hq; repeat (first | exact hq | refine List.mem_cons_of_mem _ ?_)))))
  (k_with "m_fru" => (first | (with_reducible refine frU_wrap ?_ (by decide); walk_at "m_fru") | exact rfl))
  (k_with "call builtin:len" => (((with_reducible show wpAny _ _ (call (Value.builtin "len") [Value.ref _]) _ _ _); k_dflt (refine' len_list ?lQ9 ?fQ9 ?_; (case lQ9 => exact News.isList (by k_asm) (by k_mem)); (case fQ9 => (simp only [List.size_toArray]; omega))); (try simp only [List.size_toArray]))))
  (k_with "m_go" => (repeat (
    (fail_if_success (with_reducible show wpAny _ _ (exec (PySem.Stmt.While _ _ _ _) _) _ _ _));
    (fail_if_success (with_reducible show wpAny _ _ (exec (PySem.Stmt.For _ _ _ _ _) _) _ _ _));
    (fail_if_success (with_reducible show wpAny _ _ (exec (PySem.Stmt.Assign _ (PySem.Expr.ListComp _ _ _ _) _) _) _ _ _));
    (fail_if_success (with_reducible show wpAny _ _ (eval (PySem.Expr.ListComp _ _ _ _) _) _ _ _));
    first | walk1 | (dsimp only; walk1))))
  (k_with "eval Name" => ((k_here; k_dflt (refine' nameX_L ?FQ9 ?vQ9 ?_ ?aQ9 ?bQ9; (case aQ9 => rfl); (case bQ9 => rfl); (case FQ9 => k_asm); (case vQ9 => first | exact rfl | assumption)))))
  (k_with "call builtin:str.lower" => ((refine SC.lower (by assumption) ?_)))
  intro dp un gd cn cs a ccd cl outer A₀ base h₀ L m news' s Q E v k B F X N T hk hd hu sub hvk ret
  obtain ⟨⟨rk, rt⟩, ⟨t, k1, k2, rfl, hm⟩, hfit, hlk⟩ := hvk
  obtain ⟨_, oc, vs, t9, ⟨⟩, hcm, hcd, hcv⟩ := hc
  replace ho := sub _ ho
  replace hWC := sub _ hWC
  replace hWD := sub _ hWD
  replace hcm := sub _ hcm
  replace hm := sub _ hm
  dsimp only at hfit hlk
  revert X; k_fill; intro X
  refine wpAny_call ?_
  k_dflt (refine' kla_code ?k1 ?k2 ?k3 ?k4 ?k5 ?kA ?kF ?kK ?k6 ?k7 ?k8 ?k9 ?kB ?_ ?c2 ?c3 ?c4 ?c5; (case kA => exact rfl); (case kF => exact rfl); (case kK => exact hk); (case k1 => k_asm); (case k2 => k_asm); (case k3 => k_asm); (case k4 => k_asm); (case k5 => k_asm); (case k6 => exact ho); (case k7 => exact codeRec_news (by k_asm) hcm hcd hcv); (case k8 => ktr_room); (case k9 => exact rfl); (case c5 => decide); (case kB => exact locs rfl); (case c2 => exact rfl); (case c3 => exact rfl); (case c4 => exact rfl))
  intro g' L' h' FG' F' N' B' X' T'
  try dsimp only
  try k_lift B'
  try k_fold
  walk1
  refine nameX_F (by k_asm) rfl hWC hoC ?_
  refine MethodCall_ ?_
  iterate 7 walk1
  refine tab_tail (knd := strKind _ _) (enc := PyData.str) (TabAt.ofNews (by k_asm) hWD lo hoD hfl) ?_
  refine getItem_tab PyProof.V.same_str (strKind_is _ _ _ _) (TabAt.ofNews (by k_asm) hWD lo hoD hfl) hlk ?_
  intro v hv
  dict_open hv
  walk_at "m_go"
  exact ret _ _ _ (by k_asm) (by k_asm)
set_option maxRecDepth 100000 in
set_option maxHeartbeats 8000000 in
theorem lam_key4 {f WC WD c' : Addr} {oC oD : Obj} {D : List (PyData × PyData)} {kvs : List (PySem.Str × Value)} {rest : List (Addr × Obj)} {qual : PySem.Str} {pm ctv : Value} 
    (ho : (f, kla_obj "<lambda>" qual (wParams ⟨261, 71, 261, 75⟩) (.Subscript (.Name "walls" ⟨261, 77, 261, 82⟩) (.Call (.Attribute (.Subscript (.Name "pair" ⟨261, 83, 261, 87⟩) (.Constant (.int 0) 0 ⟨261, 88, 261, 89⟩) ⟨261, 83, 261, 90⟩) "lower" ⟨261, 83, 261, 96⟩) [] [] ⟨261, 83, 261, 98⟩) ⟨261, 77, 261, 99⟩) wScope [("walls", WC)] pm c' ctv) ∈ rest) (hc : CodeFor qual rest (.ref c'))
    (hWC : (WC, oC) ∈ rest) (hoC : oC.data = .cell (some (.ref WD))) (hWD : (WD, oD) ∈ rest) (lo : (WD == sysModules) = false) (hoD : oD.IsDictOf (strKind PySem.Challenge.rw_uk0024_01.row.prog w) kvs) (hfl : FlatPairs PyData.str kvs D) :
    KeyOk w p loose mean mg mb f rest (WallP D rest) := by
  k_with_none
  (k_with "ce1" => (refine' code_def ?k1Q9 ?k2Q9 ?k3Q9 ?k4Q9 ?k5Q9 ?kAQ9 ?kFQ9 ?kKQ9 ?k6Q9 ?k7Q9 ?k8Q9 ?k9Q9 ?kBQ9 ?_ ?c2Q9 ?c3Q9 ?c4Q9 ?c5Q9; (case kAQ9 => exact rfl); (case kFQ9 => exact rfl); (case kKQ9 => first | assumption | exact rfl); (case k1Q9 => k_asm); (case k2Q9 => k_asm); (case k3Q9 => k_asm); (case k4Q9 => k_asm); (case k5Q9 => k_asm); (case k6Q9 => k_is); (case k7Q9 => k_is); (case k8Q9 => ktr_room); (case k9Q9 => first | exact BindsTo.of_eq rfl | exact binds_K (by k_in) rfl (by k_is) rfl rfl rfl); (case c5Q9 => decide); (case kBQ9 => exact locs rfl); (case c2Q9 => exact rfl); (case c3Q9 => exact rfl); (case c4Q9 => exact rfl); k_whole))
  (k_with "ce2" => (refine' code_defC ?k1Q9 ?k2Q9 ?k3Q9 ?k4Q9 ?k5Q9 ?kAQ9 ?kFQ9 ?kKQ9 ?k6Q9 ?k7Q9 ?k8Q9 ?k9Q9 ?kBQ9 ?kDQ9 ?_ ?c2Q9 ?c3Q9 ?c4Q9; (case kAQ9 => exact rfl); (case kFQ9 => exact rfl); (case kKQ9 => first | assumption | exact rfl); (case k1Q9 => k_asm); (case k2Q9 => k_asm); (case k3Q9 => k_asm); (case k4Q9 => k_asm); (case k5Q9 => k_asm); (case k6Q9 => k_is); (case k7Q9 => k_is); (case k8Q9 => ktr_room); (case k9Q9 => first | exact BindsTo.of_eq rfl | exact binds_K (by k_in) rfl (by k_is) rfl rfl rfl); (case kBQ9 => exact rfl); (case kDQ9 => decide +kernel); (case c2Q9 => exact rfl); (case c3Q9 => exact rfl); (case c4Q9 => exact rfl); k_whole))
  (k_with "ktr_units" => ((have hcL9 := cLine_is; (simp only [Mine.units_make, PyProof.Rows.units_in1, PyProof.Rows.units_deeper, PySem.Around.mark_units, PyProof.Rows.units_caller, ktrTop] at *); omega)))
  (k_with "ktr_units" => ((simp only [Mine.units_make, PyProof.Rows.units_in1, PyProof.Rows.units_deeper, PySem.Around.mark_units, PyProof.Rows.units_caller]; first | exact Mine.fit2 (by with_reducible assumption) (by decide) | exact Mine.fit3 (by with_reducible assumption) (by decide) | fail "no")))
  (k_with "ktr_units" => (first | exact Mine.fit2 (d := (PySem.W.ktrTop _ _ _ _ _ _ _ _ _ _).units) (by assumption) (by decide) | exact Mine.fit3 (d := (PySem.W.ktrTop _ _ _ _ _ _ _ _ _ _).units) (by assumption) (by decide) | exact Mine.fit1 (d := (PySem.W.ktrTop _ _ _ _ _ _ _ _ _ _).units) (by assumption) (by decide) | fail "no"))
  (k_with "ktr_room" => (first | exact Mine.fit0 (d := (PySem.W.ktrTop _ _ _ _ _ _ _ _ _ _).depth) (by assumption) | exact Mine.fit2 (d := (PySem.W.ktrTop _ _ _ _ _ _ _ _ _ _).depth) (by assumption) (by decide) | exact Mine.fit3 (d := (PySem.W.ktrTop _ _ _ _ _ _ _ _ _ _).depth) (by assumption) (by decide) | exact Mine.fit1 (d := (PySem.W.ktrTop _ _ _ _ _ _ _ _ _ _).depth) (by assumption) (by decide) | fail "no"))
  (k_with "omega" => (first | (lia) | fail "no"))
  (k_with "omega" => (with_reducible first | exact Int.natCast_nonneg _ | exact Mine.le_cl (by decide) | exact Mine.lt_cl (by decide) | fail "no"))
  (k_with "simp" => (with_reducible first | exact List.mem_cons_self | (refine List.mem_cons_of_mem _ ?_; simp; done) | fail "no"))
  (k_with "simph" => (with_reducible first | assumption | exact List.mem_cons_of_mem _ (by assumption) | exact Or.inl (by assumption) | exact List.mem_append_left _ (by assumption) | exact List.mem_append_right _ (by assumption) | (refine List.mem_cons_of_mem _ ?_; k_extra "simph"; done) | (refine Or.inr ?_; k_extra "simph"; done) | fail "no"))
  (k_with "perm" => ((refine (?_ : ∀ q ∈ _, q ∈ _) _ (by assumption); (repeat (with_reducible refine List.forall_mem_cons.mpr ⟨by first | exact List.mem_cons_self | (refine List.mem_cons_of_mem _ ?_; simp; done), ?_⟩)); with_reducible (intro q hq; repeat (first | exact hq | refine List.mem_cons_of_mem _ ?_)))))
  (k_with "m_fru" => (first | (with_reducible refine frU_wrap ?_ (by decide); walk_at "m_fru") | exact rfl))
  (k_with "call builtin:len" => (((with_reducible show wpAny _ _ (call (Value.builtin "len") [Value.ref _]) _ _ _); k_dflt (refine' len_list ?lQ9 ?fQ9 ?_; (case lQ9 => exact News.isList (by k_asm) (by k_mem)); (case fQ9 => (simp only [List.size_toArray]; omega))); (try simp only [List.size_toArray]))))
  (k_with "m_go" => (repeat (
    (fail_if_success (with_reducible show wpAny _ _ (exec (PySem.Stmt.While _ _ _ _) _) _ _ _));
    (fail_if_success (with_reducible show wpAny _ _ (exec (PySem.Stmt.For _ _ _ _ _) _) _ _ _));
    (fail_if_success (with_reducible show wpAny _ _ (exec (PySem.Stmt.Assign _ (PySem.Expr.ListComp _ _ _ _) _) _) _ _ _));
    (fail_if_success (with_reducible show wpAny _ _ (eval (PySem.Expr.ListComp _ _ _ _) _) _ _ _));
    first | walk1 | (dsimp only; walk1))))
  (k_with "eval Name" => ((k_here; k_dflt (refine' nameX_L ?FQ9 ?vQ9 ?_ ?aQ9 ?bQ9; (case aQ9 => rfl); (case bQ9 => rfl); (case FQ9 => k_asm); (case vQ9 => first | exact rfl | assumption)))))
  (k_with "call builtin:str.lower" => ((refine SC.lower (by assumption) ?_)))
  intro dp un gd cn cs a ccd cl outer A₀ base h₀ L m news' s Q E v k B F X N T hk hd hu sub hvk ret
  obtain ⟨⟨rk, rt⟩, ⟨t, k1, k2, rfl, hm⟩, hfit, hlk⟩ := hvk
  obtain ⟨_, oc, vs, t9, ⟨⟩, hcm, hcd, hcv⟩ := hc
  replace ho := sub _ ho
  replace hWC := sub _ hWC
  replace hWD := sub _ hWD
  replace hcm := sub _ hcm
  replace hm := sub _ hm
  dsimp only at hfit hlk
  revert X; k_fill; intro X
  refine wpAny_call ?_
  k_dflt (refine' kla_code ?k1 ?k2 ?k3 ?k4 ?k5 ?kA ?kF ?kK ?k6 ?k7 ?k8 ?k9 ?kB ?_ ?c2 ?c3 ?c4 ?c5; (case kA => exact rfl); (case kF => exact rfl); (case kK => exact hk); (case k1 => k_asm); (case k2 => k_asm); (case k3 => k_asm); (case k4 => k_asm); (case k5 => k_asm); (case k6 => exact ho); (case k7 => exact codeRec_news (by k_asm) hcm hcd hcv); (case k8 => ktr_room); (case k9 => exact rfl); (case c5 => decide); (case kB => exact locs rfl); (case c2 => exact rfl); (case c3 => exact rfl); (case c4 => exact rfl))
  intro g' L' h' FG' F' N' B' X' T'
  try dsimp only
  try k_lift B'
  try k_fold
  walk1
  refine nameX_F (by k_asm) rfl hWC hoC ?_
  refine MethodCall_ ?_
  iterate 7 walk1
  refine tab_tail (knd := strKind _ _) (enc := PyData.str) (TabAt.ofNews (by k_asm) hWD lo hoD hfl) ?_
  refine getItem_tab PyProof.V.same_str (strKind_is _ _ _ _) (TabAt.ofNews (by k_asm) hWD lo hoD hfl) hlk ?_
  intro v hv
  dict_open hv
  walk_at "m_go"
  exact ret _ _ _ (by k_asm) (by k_asm)

theorem walls1 {cn : PySem.Str} {cs : PySem.Scope} {a : Addr} {ccd : Value} {cl : List (PySem.Str × Addr)} {h₀ : Heap} {L : Addr} {m : PySem.Str → Option Value} {s : Shared} {Q E : Value → Shared → Prop} {A : Around}
    {R P c WC WD : Addr} {oR oC oD : Obj} {ps : Array Value} {rest : List (Addr × Obj)} {qual : PySem.Str} {D : List (PyData × PyData)} {kvs : List (PySem.Str × Value)} {pos : PySem.Pos}
    (F : Fr h₀ L s.heap m) (N : News h₀ L s.heap ((R, oR) :: (P, tabObj ps) :: rest)) (T : Top p loose mean mg mb h₀) (C : CodeHd h₀ c P) (hcd : ccd = .ref c) (hq : (envX cn cs L a ccd cl).qual ++ "<lambda>" = qual) (ht : TabOk ps qual rest)
    (hRP : (@Ne Nat R P)) (hP : ∀ q ∈ rest, q.1 ≠ P) (hR : ∀ q ∈ rest, q.1 ≠ R) (hcl : closureFor wScope (envX cn cs L a ccd cl) = pure ([("walls", WC)] : List (PySem.Str × Addr)))
    (hWC : (WC, oC) ∈ rest) (hoC : oC.data = .cell (some (.ref WD))) (hWD : (WD, oD) ∈ rest) (lo : (WD == sysModules) = false) (hoD : oD.IsDictOf (strKind PySem.Challenge.rw_uk0024_01.row.prog w) kvs) (hfl : FlatPairs PyData.str kvs D)
    (ret : ∀ f c' ctv ps' rest' h' tk, Fr h₀ L h' m → News h₀ L h' ((R, oR) :: (P, tabObj ps') :: rest') → TabOk ps' qual rest' → KeyOk w p loose mean mg mb f rest' (WallP D rest') →
      (f, kla_obj "<lambda>" qual (wParams ⟨256, 61, 256, 65⟩) (.Subscript (.Name "walls" ⟨256, 67, 256, 72⟩) (.Call (.Attribute (.Subscript (.Name "pair" ⟨256, 73, 256, 77⟩) (.Constant (.int 0) 0 ⟨256, 78, 256, 79⟩) ⟨256, 73, 256, 80⟩) "lower" ⟨256, 73, 256, 86⟩) [] [] ⟨256, 73, 256, 88⟩) ⟨256, 67, 256, 89⟩) wScope [("walls", WC)] ((mg "__name__").getD .none) c' ctv) ∈ rest' → (∀ q ∈ rest', q.1 ≠ P) → (∀ q ∈ rest', q.1 ≠ R) → (∀ q ∈ rest, q ∈ rest') → Q (.ref f) { s with heap := h', toks := tk }) :
    wpAny (model PySem.Challenge.rw_uk0024_01.row.prog w) A (eval (.Lambda (wParams ⟨256, 61, 256, 65⟩) (.Subscript (.Name "walls" ⟨256, 67, 256, 72⟩) (.Call (.Attribute (.Subscript (.Name "pair" ⟨256, 73, 256, 77⟩) (.Constant (.int 0) 0 ⟨256, 78, 256, 79⟩) ⟨256, 73, 256, 80⟩) "lower" ⟨256, 73, 256, 86⟩) [] [] ⟨256, 73, 256, 88⟩) ⟨256, 67, 256, 89⟩) wScope pos) (envX cn cs L a ccd cl)) Q E s := by
  refine kla_eval rfl ?_
  rw [hq]
  refine lam_mk F N T C hcd ht hRP hP hR hcl ?_
  intro f c' ctv ps' rest' h' tk F' N' ht' hc ho h1 h2 h3
  exact ret f c' ctv ps' rest' h' tk F' N' ht' (lam_key1 ho hc (h3 _ hWC) hoC (h3 _ hWD) lo hoD hfl) ho h1 h2 h3

theorem walls2 {cn : PySem.Str} {cs : PySem.Scope} {a : Addr} {ccd : Value} {cl : List (PySem.Str × Addr)} {h₀ : Heap} {L : Addr} {m : PySem.Str → Option Value} {s : Shared} {Q E : Value → Shared → Prop} {A : Around}
    {R P c WC WD : Addr} {oR oC oD : Obj} {ps : Array Value} {rest : List (Addr × Obj)} {qual : PySem.Str} {D : List (PyData × PyData)} {kvs : List (PySem.Str × Value)} {pos : PySem.Pos}
    (F : Fr h₀ L s.heap m) (N : News h₀ L s.heap ((R, oR) :: (P, tabObj ps) :: rest)) (T : Top p loose mean mg mb h₀) (C : CodeHd h₀ c P) (hcd : ccd = .ref c) (hq : (envX cn cs L a ccd cl).qual ++ "<lambda>" = qual) (ht : TabOk ps qual rest)
    (hRP : (@Ne Nat R P)) (hP : ∀ q ∈ rest, q.1 ≠ P) (hR : ∀ q ∈ rest, q.1 ≠ R) (hcl : closureFor wScope (envX cn cs L a ccd cl) = pure ([("walls", WC)] : List (PySem.Str × Addr)))
    (hWC : (WC, oC) ∈ rest) (hoC : oC.data = .cell (some (.ref WD))) (hWD : (WD, oD) ∈ rest) (lo : (WD == sysModules) = false) (hoD : oD.IsDictOf (strKind PySem.Challenge.rw_uk0024_01.row.prog w) kvs) (hfl : FlatPairs PyData.str kvs D)
    (ret : ∀ f c' ctv ps' rest' h' tk, Fr h₀ L h' m → News h₀ L h' ((R, oR) :: (P, tabObj ps') :: rest') → TabOk ps' qual rest' → KeyOk w p loose mean mg mb f rest' (WallP D rest') →
      (f, kla_obj "<lambda>" qual (wParams ⟨257, 61, 257, 65⟩) (.Subscript (.Name "walls" ⟨257, 67, 257, 72⟩) (.Call (.Attribute (.Subscript (.Name "pair" ⟨257, 73, 257, 77⟩) (.Constant (.int 0) 0 ⟨257, 78, 257, 79⟩) ⟨257, 73, 257, 80⟩) "lower" ⟨257, 73, 257, 86⟩) [] [] ⟨257, 73, 257, 88⟩) ⟨257, 67, 257, 89⟩) wScope [("walls", WC)] ((mg "__name__").getD .none) c' ctv) ∈ rest' → (∀ q ∈ rest', q.1 ≠ P) → (∀ q ∈ rest', q.1 ≠ R) → (∀ q ∈ rest, q ∈ rest') → Q (.ref f) { s with heap := h', toks := tk }) :
    wpAny (model PySem.Challenge.rw_uk0024_01.row.prog w) A (eval (.Lambda (wParams ⟨257, 61, 257, 65⟩) (.Subscript (.Name "walls" ⟨257, 67, 257, 72⟩) (.Call (.Attribute (.Subscript (.Name "pair" ⟨257, 73, 257, 77⟩) (.Constant (.int 0) 0 ⟨257, 78, 257, 79⟩) ⟨257, 73, 257, 80⟩) "lower" ⟨257, 73, 257, 86⟩) [] [] ⟨257, 73, 257, 88⟩) ⟨257, 67, 257, 89⟩) wScope pos) (envX cn cs L a ccd cl)) Q E s := by
  refine kla_eval rfl ?_
  rw [hq]
  refine lam_mk F N T C hcd ht hRP hP hR hcl ?_
  intro f c' ctv ps' rest' h' tk F' N' ht' hc ho h1 h2 h3
  exact ret f c' ctv ps' rest' h' tk F' N' ht' (lam_key2 ho hc (h3 _ hWC) hoC (h3 _ hWD) lo hoD hfl) ho h1 h2 h3

theorem walls3 {cn : PySem.Str} {cs : PySem.Scope} {a : Addr} {ccd : Value} {cl : List (PySem.Str × Addr)} {h₀ : Heap} {L : Addr} {m : PySem.Str → Option Value} {s : Shared} {Q E : Value → Shared → Prop} {A : Around}
    {R P c WC WD : Addr} {oR oC oD : Obj} {ps : Array Value} {rest : List (Addr × Obj)} {qual : PySem.Str} {D : List (PyData × PyData)} {kvs : List (PySem.Str × Value)} {pos : PySem.Pos}
    (F : Fr h₀ L s.heap m) (N : News h₀ L s.heap ((R, oR) :: (P, tabObj ps) :: rest)) (T : Top p loose mean mg mb h₀) (C : CodeHd h₀ c P) (hcd : ccd = .ref c) (hq : (envX cn cs L a ccd cl).qual ++ "<lambda>" = qual) (ht : TabOk ps qual rest)
    (hRP : (@Ne Nat R P)) (hP : ∀ q ∈ rest, q.1 ≠ P) (hR : ∀ q ∈ rest, q.1 ≠ R) (hcl : closureFor wScope (envX cn cs L a ccd cl) = pure ([("walls", WC)] : List (PySem.Str × Addr)))
    (hWC : (WC, oC) ∈ rest) (hoC : oC.data = .cell (some (.ref WD))) (hWD : (WD, oD) ∈ rest) (lo : (WD == sysModules) = false) (hoD : oD.IsDictOf (strKind PySem.Challenge.rw_uk0024_01.row.prog w) kvs) (hfl : FlatPairs PyData.str kvs D)
    (ret : ∀ f c' ctv ps' rest' h' tk, Fr h₀ L h' m → News h₀ L h' ((R, oR) :: (P, tabObj ps') :: rest') → TabOk ps' qual rest' → KeyOk w p loose mean mg mb f rest' (WallP D rest') →
      (f, kla_obj "<lambda>" qual (wParams ⟨260, 53, 260, 57⟩) (.Subscript (.Name "walls" ⟨260, 59, 260, 64⟩) (.Call (.Attribute (.Subscript (.Name "pair" ⟨260, 65, 260, 69⟩) (.Constant (.int 0) 0 ⟨260, 70, 260, 71⟩) ⟨260, 65, 260, 72⟩) "lower" ⟨260, 65, 260, 78⟩) [] [] ⟨260, 65, 260, 80⟩) ⟨260, 59, 260, 81⟩) wScope [("walls", WC)] ((mg "__name__").getD .none) c' ctv) ∈ rest' → (∀ q ∈ rest', q.1 ≠ P) → (∀ q ∈ rest', q.1 ≠ R) → (∀ q ∈ rest, q ∈ rest') → Q (.ref f) { s with heap := h', toks := tk }) :
    wpAny (model PySem.Challenge.rw_uk0024_01.row.prog w) A (eval (.Lambda (wParams ⟨260, 53, 260, 57⟩) (.Subscript (.Name "walls" ⟨260, 59, 260, 64⟩) (.Call (.Attribute (.Subscript (.Name "pair" ⟨260, 65, 260, 69⟩) (.Constant (.int 0) 0 ⟨260, 70, 260, 71⟩) ⟨260, 65, 260, 72⟩) "lower" ⟨260, 65, 260, 78⟩) [] [] ⟨260, 65, 260, 80⟩) ⟨260, 59, 260, 81⟩) wScope pos) (envX cn cs L a ccd cl)) Q E s := by
  refine kla_eval rfl ?_
  rw [hq]
  refine lam_mk F N T C hcd ht hRP hP hR hcl ?_
  intro f c' ctv ps' rest' h' tk F' N' ht' hc ho h1 h2 h3
  exact ret f c' ctv ps' rest' h' tk F' N' ht' (lam_key3 ho hc (h3 _ hWC) hoC (h3 _ hWD) lo hoD hfl) ho h1 h2 h3

theorem walls4 {cn : PySem.Str} {cs : PySem.Scope} {a : Addr} {ccd : Value} {cl : List (PySem.Str × Addr)} {h₀ : Heap} {L : Addr} {m : PySem.Str → Option Value} {s : Shared} {Q E : Value → Shared → Prop} {A : Around}
    {R P c WC WD : Addr} {oR oC oD : Obj} {ps : Array Value} {rest : List (Addr × Obj)} {qual : PySem.Str} {D : List (PyData × PyData)} {kvs : List (PySem.Str × Value)} {pos : PySem.Pos}
    (F : Fr h₀ L s.heap m) (N : News h₀ L s.heap ((R, oR) :: (P, tabObj ps) :: rest)) (T : Top p loose mean mg mb h₀) (C : CodeHd h₀ c P) (hcd : ccd = .ref c) (hq : (envX cn cs L a ccd cl).qual ++ "<lambda>" = qual) (ht : TabOk ps qual rest)
    (hRP : (@Ne Nat R P)) (hP : ∀ q ∈ rest, q.1 ≠ P) (hR : ∀ q ∈ rest, q.1 ≠ R) (hcl : closureFor wScope (envX cn cs L a ccd cl) = pure ([("walls", WC)] : List (PySem.Str × Addr)))
    (hWC : (WC, oC) ∈ rest) (hoC : oC.data = .cell (some (.ref WD))) (hWD : (WD, oD) ∈ rest) (lo : (WD == sysModules) = false) (hoD : oD.IsDictOf (strKind PySem.Challenge.rw_uk0024_01.row.prog w) kvs) (hfl : FlatPairs PyData.str kvs D)
    (ret : ∀ f c' ctv ps' rest' h' tk, Fr h₀ L h' m → News h₀ L h' ((R, oR) :: (P, tabObj ps') :: rest') → TabOk ps' qual rest' → KeyOk w p loose mean mg mb f rest' (WallP D rest') →
      (f, kla_obj "<lambda>" qual (wParams ⟨261, 71, 261, 75⟩) (.Subscript (.Name "walls" ⟨261, 77, 261, 82⟩) (.Call (.Attribute (.Subscript (.Name "pair" ⟨261, 83, 261, 87⟩) (.Constant (.int 0) 0 ⟨261, 88, 261, 89⟩) ⟨261, 83, 261, 90⟩) "lower" ⟨261, 83, 261, 96⟩) [] [] ⟨261, 83, 261, 98⟩) ⟨261, 77, 261, 99⟩) wScope [("walls", WC)] ((mg "__name__").getD .none) c' ctv) ∈ rest' → (∀ q ∈ rest', q.1 ≠ P) → (∀ q ∈ rest', q.1 ≠ R) → (∀ q ∈ rest, q ∈ rest') → Q (.ref f) { s with heap := h', toks := tk }) :
    wpAny (model PySem.Challenge.rw_uk0024_01.row.prog w) A (eval (.Lambda (wParams ⟨261, 71, 261, 75⟩) (.Subscript (.Name "walls" ⟨261, 77, 261, 82⟩) (.Call (.Attribute (.Subscript (.Name "pair" ⟨261, 83, 261, 87⟩) (.Constant (.int 0) 0 ⟨261, 88, 261, 89⟩) ⟨261, 83, 261, 90⟩) "lower" ⟨261, 83, 261, 96⟩) [] [] ⟨261, 83, 261, 98⟩) ⟨261, 77, 261, 99⟩) wScope pos) (envX cn cs L a ccd cl)) Q E s := by
  refine kla_eval rfl ?_
  rw [hq]
  refine lam_mk F N T C hcd ht hRP hP hR hcl ?_
  intro f c' ctv ps' rest' h' tk F' N' ht' hc ho h1 h2 h3
  exact ret f c' ctv ps' rest' h' tk F' N' ht' (lam_key4 ho hc (h3 _ hWC) hoC (h3 _ hWD) lo hoD hfl) ho h1 h2 h3

theorem hd291 {h₀ : Heap} (X : (Mine.hd.heap_1 w.params).In h₀) : CodeHd h₀ 291 289 :=
  ⟨_, _, _, _, _, _, _, _, _, X 291 _ rfl, rfl, rfl, rfl, rfl, rfl, rfl, rfl, rfl, by decide⟩
theorem hd301 {h₀ : Heap} (X : (Mine.hd.heap_1 w.params).In h₀) : CodeHd h₀ 301 299 :=
  ⟨_, _, _, _, _, _, _, _, _, X 301 _ rfl, rfl, rfl, rfl, rfl, rfl, rfl, rfl, rfl, by decide⟩
end
end Mine
end
section
open PySem PySem.W PyProof.Rows PyProof.V PySem.Spec
namespace Mine
set_option maxHeartbeats 4000000
open PyProof.Rows.LCg (SrcAt NsObj Off3 Off1 lst FinE)

abbrev big (d : Nat) : PySem.Str := Txt.item "aBcDeFg" (d : Int)
abbrev odd (d : Nat) : PySem.Str := Txt.item "AbCdEfG" (d : Int)
abbrev small (d : Nat) : PySem.Str := Txt.item "abcdefg" (d : Int)
abbrev row (tx : Nat → PySem.Str) (d : Nat) : PySem.Str × PySem.Str := (big d, tx d)
theorem lower_odd : ∀ d, d < 7 → Txt.lower (odd d) = small d := by decide +kernel
theorem lower_big : ∀ d, d < 7 → Txt.lower (big d) = small d := by decide +kernel
theorem small_inj : ∀ d, d < 7 → ∀ k, k < 7 → small d = small k → d = k := by decide +kernel
theorem big_inj : ∀ d, d < 7 → ∀ k, k < 7 → big d = big k → d = k := by decide +kernel
theorem small_size : ∀ d, d < 7 → (small d).cps.size ≤ 1000000 := by decide +kernel
theorem small_fit : ∀ d, d < 7 → Builtin.Str.tooLong (small d).length = false := by decide +kernel
theorem small_plain : ∀ d, d < 7 → Plain (small d) := by unfold Plain; decide +kernel
theorem big_plain : ∀ d, d < 7 → Plain (big d) := by unfold Plain; decide +kernel
theorem find_row {tx : Nat → PySem.Str} {k : Nat} (hk : k < 7) : ∀ {deeds : List Nat}, (∀ d ∈ deeds, d < 7) → findRow (deeds.map (row tx)) (small k) = if k ∈ deeds then some (row tx k) else none
  | [], _ => by simp [findRow]
  | d :: r, h => by
    have ih := find_row (tx := tx) hk (deeds := r) (fun x hx => h x (List.mem_cons_of_mem _ hx))
    unfold findRow at ih ⊢
    rw [List.map_cons, List.find?_cons]
    have hd := h d List.mem_cons_self
    by_cases e : d = k
    · subst e
      rw [lower_big d hd]
      simp
    · have : (Txt.lower (row tx d).1 == small k) = false := by
        rw [lower_big d hd]
        exact beq_false_of_ne fun x => e (small_inj d hd k hk x)
      rw [this, ih]
      have : k ≠ d := fun x => e x.symm
      simp [this]
theorem Paired.mono {α β : Type} {R S : α → β → Prop} (k : ∀ a b, R a b → S a b) : ∀ {l : List α} {l' : List β}, Paired R l l' → Paired S l l'
  | _, _, .nil => .nil
  | _, _, .cons h t => .cons (k _ _ h) (Paired.mono k t)
section
variable {w : World} {p : Program} {loose : List PySem.Str} {mean : ExcName → Option Value} {mg mb : PySem.Str → Option Value}
   {dp un : Nat} {gd : Option (List Code)} {cn : PySem.Str} {cs : PySem.Scope} {a : Addr} {ccd : Value} {cl : List (PySem.Str × Addr)} {outer : List Env} {A₀ : Around} {base h₀ : Heap} {L : Addr} {m : PySem.Str → Option Value} {news : List (Addr × Obj)} {s : Shared} {Q E : Value → Shared → Prop}

theorem get_hit (B : Below A₀ base outer h₀) (F : Fr h₀ L s.heap m) (X : (Mine.hd.heap_1 w.params).In h₀) (N : News h₀ L s.heap news) (T : Top p loose mean mg mb h₀) (hk : cs.kind = .function) (hd : dp + 30 < recursionLimit) (hu : un + 300 < cLine) {TI R : Addr} {n : Nat} {vs : List Value} {rs : List (PySem.Str × PySem.Str)} {x : PySem.Str} {t2 : Tok} {news₀ : List (Addr × Obj)} (ht : TableAt w news₀ TI R) (hR : (R, listOf vs.toArray n) ∈ news₀) (hrs : RowsAre news₀ vs rs) (sub : ∀ q ∈ news₀, q ∈ news) (hx : Plain (Txt.lower x)) (hl : (Txt.lower x).cps.size ≤ 1000000) (hfit : Builtin.Str.tooLong (Txt.lower x).length = false) (hrf : ∀ r ∈ rs, Builtin.Str.tooLong (Txt.lower r.1).length = false) {r : PySem.Str × PySem.Str} (hf : findRow rs (Txt.lower x) = some r) (ret : ∀ t h' tk', Fr h₀ L h' m → News h₀ L h' news → Q (.str r.2 t) { s with heap := h', toks := tk' }) : wpAny (model PySem.Challenge.rw_uk0024_01.row.prog w) (ktrTop dp un gd cn cs L a ccd cl outer) (call (.ref 118) [.ref TI, .str x t2]) Q E s :=
  get_spec B F X N T hk hd hu (ht.mono sub) (sub _ hR) (Paired.mono (fun _ _ h => RowIs.mono h sub) hrs) hx hl hfit hrf fun v h' tk' F' N' g => by rw [hf] at g; obtain ⟨t, rfl⟩ := g; exact ret t h' tk' F' N'
theorem get_miss (B : Below A₀ base outer h₀) (F : Fr h₀ L s.heap m) (X : (Mine.hd.heap_1 w.params).In h₀) (N : News h₀ L s.heap news) (T : Top p loose mean mg mb h₀) (hk : cs.kind = .function) (hd : dp + 30 < recursionLimit) (hu : un + 300 < cLine) {TI R : Addr} {n : Nat} {vs : List Value} {rs : List (PySem.Str × PySem.Str)} {x : PySem.Str} {t2 : Tok} {news₀ : List (Addr × Obj)} (ht : TableAt w news₀ TI R) (hR : (R, listOf vs.toArray n) ∈ news₀) (hrs : RowsAre news₀ vs rs) (sub : ∀ q ∈ news₀, q ∈ news) (hx : Plain (Txt.lower x)) (hl : (Txt.lower x).cps.size ≤ 1000000) (hfit : Builtin.Str.tooLong (Txt.lower x).length = false) (hrf : ∀ r ∈ rs, Builtin.Str.tooLong (Txt.lower r.1).length = false) (hf : findRow rs (Txt.lower x) = none) (ret : ∀ h' tk', Fr h₀ L h' m → News h₀ L h' news → Q .none { s with heap := h', toks := tk' }) : wpAny (model PySem.Challenge.rw_uk0024_01.row.prog w) (ktrTop dp un gd cn cs L a ccd cl outer) (call (.ref 118) [.ref TI, .str x t2]) Q E s :=
  get_spec B F X N T hk hd hu (ht.mono sub) (sub _ hR) (Paired.mono (fun _ _ h => RowIs.mono h sub) hrs) hx hl hfit hrf fun v h' tk' F' N' g => by rw [hf] at g; cases g; exact ret h' tk' F' N'
end
end Mine
end
section
open PySem
namespace Mine
set_option maxHeartbeats 4000000
def mn (l : List Nat) : Nat := l.foldl min 7
theorem foldl_min (l : List Nat) : ∀ a, l.foldl min a ≤ a ∧ (∀ d ∈ l, l.foldl min a ≤ d) ∧ (l.foldl min a = a ∨ l.foldl min a ∈ l) := by
  induction l with
  | nil => intro a; exact ⟨Nat.le_refl _, (fun d h => by cases h), Or.inl rfl⟩
  | cons x r ih =>
    intro a
    obtain ⟨h1, h2, h3⟩ := ih (min a x)
    rw [List.foldl_cons]
    refine ⟨by omega, fun d hd => ?_, ?_⟩
    · rcases List.mem_cons.mp hd with rfl | hd
      · omega
      · exact h2 d hd
    · rcases h3 with h3 | h3
      · by_cases e : a ≤ x
        · exact .inl (by rw [h3]; omega)
        · exact .inr (by rw [h3, show min a x = x by omega]; exact List.mem_cons_self)
      · exact .inr (List.mem_cons_of_mem _ h3)
theorem mn_le7 (l : List Nat) : mn l ≤ 7 := (foldl_min l 7).1
theorem mn_le {l : List Nat} {d : Nat} (h : d ∈ l) : mn l ≤ d := (foldl_min l 7).2.1 d h
theorem mn_mem {l : List Nat} (h : mn l < 7) : mn l ∈ l := by
  rcases (foldl_min l 7).2.2 with e | e
  · unfold mn at h; omega
  · exact e
theorem mn_anti {l : List Nat} {i i' : Nat} (h : i ≤ i') : mn (l.take i') ≤ mn (l.take i) := by
  by_cases e : mn (l.take i) < 7
  · have := mn_mem e
    exact mn_le ((List.take_subset_take_left _ h) this)
  · have := mn_le7 (l.take i'); omega
theorem mn_all {l : List Nat} {i : Nat} : mn l ≤ mn (l.take i) := by
  by_cases e : mn (l.take i) < 7
  · exact mn_le (List.mem_of_mem_take (mn_mem e))
  · have := mn_le7 l; omega
section
variable {deeds : List Nat} {j k : Nat}
/-- where the wall of a place stands -/
def wall (deeds : List Nat) (j i : Nat) : Int := -((mn ((deeds.drop (j + 1)).take (i - j)) : Nat) : Int)
theorem wall_mono {i i' : Nat} (h : i ≤ i') : wall deeds j i ≤ wall deeds j i' := by
  unfold wall
  have := mn_anti (l := deeds.drop (j + 1)) (show i - j ≤ i' - j by omega)
  omega
theorem mem_take_at {i : Nat} (h1 : j + 1 ≤ i) {d : Nat} (h : deeds[i]? = some d) : d ∈ (deeds.drop (j + 1)).take (i - j) := by
  refine List.mem_of_getElem? (i := i - j - 1) ?_
  rw [List.getElem?_take_of_lt (by omega), List.getElem?_drop, show j + 1 + (i - j - 1) = i by omega]
  exact h
theorem of_mem_take {i : Nat} {d : Nat} (h : d ∈ (deeds.drop (j + 1)).take (i - j)) : ∃ q, j + 1 ≤ q ∧ q ≤ i ∧ deeds[q]? = some d := by
  obtain ⟨q, hq⟩ := List.getElem?_of_mem h
  have hl : q < ((deeds.drop (j + 1)).take (i - j)).length := (List.getElem?_eq_some_iff.mp hq).1
  rw [List.length_take] at hl
  rw [List.getElem?_take_of_lt (by omega), List.getElem?_drop] at hq
  exact ⟨j + 1 + q, by omega, by omega, hq⟩
theorem first_is {r le : Nat} (hnd : deeds.Nodup) (hle : le = mn (deeds.drop (j + 1))) (h7 : le < 7) (h1 : j + 1 ≤ r) (h2 : ∀ i, j + 1 ≤ i → i < r → wall deeds j i < -(le : Int)) (h3 : ∀ i, r ≤ i → i < deeds.length → ¬ wall deeds j i < -(le : Int)) (hr : r ≤ deeds.length) :
    r = deeds.idxOf le := by
  have hm : le ∈ deeds.drop (j + 1) := by rw [hle]; exact mn_mem (hle ▸ h7)
  obtain ⟨p, hp⟩ := List.getElem?_of_mem hm
  rw [List.getElem?_drop] at hp
  have hpl := (List.getElem?_eq_some_iff.mp hp).1
  have hmd : le ∈ deeds := List.mem_of_mem_drop hm
  have hq : deeds[deeds.idxOf le]? = some le := by
    rw [List.getElem?_eq_getElem (List.idxOf_lt_length_of_mem hmd)]; simp
  have hqe : deeds.idxOf le = j + 1 + p := ((List.getElem?_inj (List.idxOf_lt_length_of_mem hmd) hnd).mp (hq.trans hp.symm))
  rw [hqe]
  by_cases e1 : j + 1 + p < r
  · have := h2 _ (by omega) e1
    unfold wall at this
    have hm2 := mn_le (mem_take_at (j := j) (show j + 1 ≤ j + 1 + p by omega) hp)
    omega
  · by_cases e2 : r < j + 1 + p
    · have h4 := h3 r (Nat.le_refl _) (by omega)
      unfold wall at h4
      have h5 := mn_all (l := deeds.drop (j + 1)) (i := r - j)
      have h6 : mn ((deeds.drop (j + 1)).take (r - j)) = le := by omega
      have h8 := mn_mem (show mn ((deeds.drop (j + 1)).take (r - j)) < 7 by omega)
      rw [h6] at h8
      obtain ⟨q, q1, q2, q3⟩ := of_mem_take h8
      have := ((List.getElem?_inj (List.getElem?_eq_some_iff.mp q3).1 hnd).mp (q3.trans hp.symm))
      omega
    · omega
theorem last_is {r le : Nat} (hle : le = mn (deeds.drop (j + 1))) (h3 : ∀ i, r ≤ i → i < deeds.length → -(le : Int) < wall deeds j i) (hr : r ≤ deeds.length) : r = deeds.length := by
  by_cases e : r < deeds.length
  · have := h3 r (Nat.le_refl _) e
    unfold wall at this
    have h5 := mn_all (l := deeds.drop (j + 1)) (i := r - j)
    omega
  · omega
theorem wall_ne (hk : k ∉ deeds) (hk7 : k < 7) (i : Nat) : mn ((deeds.drop (j + 1)).take (i - j)) ≠ k := by
  intro e
  have := mn_mem (show mn ((deeds.drop (j + 1)).take (i - j)) < 7 by omega)
  rw [e] at this
  exact hk (List.mem_of_mem_drop (List.mem_of_mem_take this))
theorem place_is {r r' : Nat} (hk : k ∉ deeds) (hk7 : k < 7) (h1 : j + 1 ≤ r) (h1' : j + 1 ≤ r')
    (h2 : ∀ i, j + 1 ≤ i → i < r → wall deeds j i < -(k : Int)) (h3 : ∀ i, r ≤ i → i < deeds.length → ¬ wall deeds j i < -(k : Int)) (hr : r ≤ deeds.length)
    (h2' : ∀ i, j + 1 ≤ i → i < r' → ¬ -(k : Int) < wall deeds j i) (h3' : ∀ i, r' ≤ i → i < deeds.length → -(k : Int) < wall deeds j i) (hr' : r' ≤ deeds.length) : r = r' := by
  by_cases e1 : r < r'
  · have a := h2' r h1 e1
    have b := h3 r (Nat.le_refl _) (by omega)
    unfold wall at a b
    have := wall_ne (j := j) hk hk7 r
    omega
  · by_cases e2 : r' < r
    · have a := h2 r' h1' e2
      have b := h3' r' (Nat.le_refl _) (by omega)
      omega
    · omega
theorem place_lt {r : Nat} (hk : k ∉ deeds) (hk7 : k < 7) (h2 : ∀ i, j + 1 ≤ i → i < r → ¬ -(k : Int) < wall deeds j i) : ∀ i d, j + 1 ≤ i → i < r → deeds[i]? = some d → k < d := by
  intro i d h1 hi hd
  have a := h2 i h1 hi
  unfold wall at a
  have := wall_ne (j := j) hk hk7 i
  have := mn_le (mem_take_at h1 hd)
  omega
theorem place_ge {r : Nat} (hk : k ∉ deeds) (hk7 : k < 7) (h1 : j + 1 ≤ r) (h2 : ∀ i, j + 1 ≤ i → i < r → ¬ -(k : Int) < wall deeds j i) (h3 : ∀ i, r ≤ i → i < deeds.length → -(k : Int) < wall deeds j i) : ∀ d, deeds[r]? = some d → d < k := by
  intro d hd
  have hl := (List.getElem?_eq_some_iff.mp hd).1
  have a := h3 r (Nat.le_refl _) hl
  unfold wall at a
  have h8 := mn_mem (show mn ((deeds.drop (j + 1)).take (r - j)) < 7 by omega)
  obtain ⟨q, q1, q2, q3⟩ := of_mem_take h8
  by_cases e : q = r
  · subst e
    rw [hd] at q3
    have := Option.some.inj q3
    omega
  · have := place_lt hk hk7 h2 q _ q1 (by omega) q3
    omega
end
end Mine
end
section
open PySem PySem.W PyProof.Rows PyProof.V PySem.Spec
namespace Mine
set_option maxHeartbeats 4000000
open PyProof.Rows.LCg (SrcAt NsObj Off3 Off1 lst FinE)

section
variable {w : World} {p : Program} {loose : List PySem.Str} {mean : ExcName → Option Value} {mg mb : PySem.Str → Option Value}
   {dp un : Nat} {gd : Option (List Code)} {cn : PySem.Str} {cs : PySem.Scope} {a : Addr} {ccd : Value} {cl : List (PySem.Str × Addr)} {outer : List Env} {A₀ : Around} {base h₀ : Heap} {L : Addr} {m : PySem.Str → Option Value} {news : List (Addr × Obj)} {s : Shared} {Q E : Value → Shared → Prop}


set_option maxRecDepth 100000 in
set_option maxHeartbeats 8000000 in
theorem comes_hit {ps : Array Value} {rest : List (Addr × Obj)} {R TI : Addr} {n : Nat} {vs : List Value} (B : Below A₀ base outer h₀) (F : Fr h₀ L s.heap m) (X : (Mine.hd.heap_1 w.params).In h₀) (N : News h₀ L s.heap ((R, listOf vs.toArray n) :: (289, tabObj ps) :: rest)) (T : Top p loose mean mg mb h₀) (hk : cs.kind = .function) (hd : dp + 60 < recursionLimit) (hu : un + 600 < cLine)
    {deeds : List Nat} {tx : Nat → PySem.Str} {k left : Nat} {t2 t3 t4 : Tok} (htI : TableAt w rest TI R) (hrs' : RowsAre rest vs (deeds.map (row tx)))
    (h7 : ∀ d ∈ deeds, d < 7) (hk7 : k < 7) (hkd : k ∈ deeds)
    (ret : ∀ t h' tk', Fr h₀ L h' m → News h₀ L h' ((R, listOf vs.toArray n) :: (289, tabObj ps) :: rest) → Q (.str (tx k) t) { s with heap := h', toks := tk' }) :
    wpAny (model PySem.Challenge.rw_uk0024_01.row.prog w) (ktrTop dp un gd cn cs L a ccd cl outer) (call (.ref 292) [.ref TI, .ref R, .int (k : Int) t2, .int (left : Int) t3, .str (tx k) t4]) Q E s := by
  k_with_none
  (k_with "ce1" => (refine' code_def ?k1Q9 ?k2Q9 ?k3Q9 ?k4Q9 ?k5Q9 ?kAQ9 ?kFQ9 ?kKQ9 ?k6Q9 ?k7Q9 ?k8Q9 ?k9Q9 ?kBQ9 ?_ ?c2Q9 ?c3Q9 ?c4Q9 ?c5Q9; (case kAQ9 => exact rfl); (case kFQ9 => exact rfl); (case kKQ9 => first | assumption | exact rfl); (case k1Q9 => k_asm); (case k2Q9 => k_asm); (case k3Q9 => k_asm); (case k4Q9 => k_asm); (case k5Q9 => k_asm); (case k6Q9 => k_is); (case k7Q9 => k_is); (case k8Q9 => ktr_room); (case k9Q9 => first | exact BindsTo.of_eq rfl | exact binds_K (by k_in) rfl (by k_is) rfl rfl rfl); (case c5Q9 => decide); (case kBQ9 => exact locs rfl); (case c2Q9 => exact rfl); (case c3Q9 => exact rfl); (case c4Q9 => exact rfl); k_whole))
  (k_with "ce2" => (refine' code_defC ?k1Q9 ?k2Q9 ?k3Q9 ?k4Q9 ?k5Q9 ?kAQ9 ?kFQ9 ?kKQ9 ?k6Q9 ?k7Q9 ?k8Q9 ?k9Q9 ?kBQ9 ?kDQ9 ?_ ?c2Q9 ?c3Q9 ?c4Q9; (case kAQ9 => exact rfl); (case kFQ9 => exact rfl); (case kKQ9 => first | assumption | exact rfl); (case k1Q9 => k_asm); (case k2Q9 => k_asm); (case k3Q9 => k_asm); (case k4Q9 => k_asm); (case k5Q9 => k_asm); (case k6Q9 => k_is); (case k7Q9 => k_is); (case k8Q9 => ktr_room); (case k9Q9 => first | exact BindsTo.of_eq rfl | exact binds_K (by k_in) rfl (by k_is) rfl rfl rfl); (case kBQ9 => exact rfl); (case kDQ9 => decide +kernel); (case c2Q9 => exact rfl); (case c3Q9 => exact rfl); (case c4Q9 => exact rfl); k_whole))
  (k_with "ktr_units" => ((have hcL9 := cLine_is; (simp only [Mine.units_make, PyProof.Rows.units_in1, PyProof.Rows.units_deeper, PySem.Around.mark_units, PyProof.Rows.units_caller, ktrTop] at *); omega)))
  (k_with "ktr_units" => ((simp only [Mine.units_make, PyProof.Rows.units_in1, PyProof.Rows.units_deeper, PySem.Around.mark_units, PyProof.Rows.units_caller]; first | exact Mine.fit2 (by with_reducible assumption) (by decide) | exact Mine.fit3 (by with_reducible assumption) (by decide) | fail "no")))
  (k_with "ktr_units" => (first | exact Mine.fit2 (d := (PySem.W.ktrTop _ _ _ _ _ _ _ _ _ _).units) (by assumption) (by decide) | exact Mine.fit3 (d := (PySem.W.ktrTop _ _ _ _ _ _ _ _ _ _).units) (by assumption) (by decide) | exact Mine.fit1 (d := (PySem.W.ktrTop _ _ _ _ _ _ _ _ _ _).units) (by assumption) (by decide) | fail "no"))
  (k_with "ktr_room" => (first | exact Mine.fit0 (d := (PySem.W.ktrTop _ _ _ _ _ _ _ _ _ _).depth) (by assumption) | exact Mine.fit2 (d := (PySem.W.ktrTop _ _ _ _ _ _ _ _ _ _).depth) (by assumption) (by decide) | exact Mine.fit3 (d := (PySem.W.ktrTop _ _ _ _ _ _ _ _ _ _).depth) (by assumption) (by decide) | exact Mine.fit1 (d := (PySem.W.ktrTop _ _ _ _ _ _ _ _ _ _).depth) (by assumption) (by decide) | fail "no"))
  (k_with "omega" => (first | (lia) | fail "no"))
  (k_with "omega" => (with_reducible first | exact Int.natCast_nonneg _ | exact Mine.le_cl (by decide) | exact Mine.lt_cl (by decide) | fail "no"))
  (k_with "simp" => (with_reducible first | exact List.mem_cons_self | (refine List.mem_cons_of_mem _ ?_; simp; done) | fail "no"))
  (k_with "simph" => (with_reducible first | assumption | exact List.mem_cons_of_mem _ (by assumption) | exact Or.inl (by assumption) | exact List.mem_append_left _ (by assumption) | exact List.mem_append_right _ (by assumption) | (refine List.mem_cons_of_mem _ ?_; k_extra "simph"; done) | (refine Or.inr ?_; k_extra "simph"; done) | fail "no"))
  (k_with "perm" => ((refine (?_ : ∀ q ∈ _, q ∈ _) _ (by assumption); (repeat (with_reducible refine List.forall_mem_cons.mpr ⟨by first | exact List.mem_cons_self | (refine List.mem_cons_of_mem _ ?_; simp; done), ?_⟩)); with_reducible (intro q hq; repeat (first | exact hq | refine List.mem_cons_of_mem _ ?_)))))
  (k_with "m_fru" => (first | (with_reducible refine frU_wrap ?_ (by decide); walk_at "m_fru") | exact rfl))
  (k_with "call builtin:len" => (((with_reducible show wpAny _ _ (call (Value.builtin "len") [Value.ref _]) _ _ _); k_dflt (refine' len_list ?lQ9 ?fQ9 ?_; (case lQ9 => exact News.isList (by k_asm) (by k_mem)); (case fQ9 => (simp only [List.size_toArray]; omega))); (try simp only [List.size_toArray]))))
  (k_with "m_go" => (repeat (
    (fail_if_success (with_reducible show wpAny _ _ (exec (PySem.Stmt.While _ _ _ _) _) _ _ _));
    (fail_if_success (with_reducible show wpAny _ _ (exec (PySem.Stmt.For _ _ _ _ _) _) _ _ _));
    (fail_if_success (with_reducible show wpAny _ _ (exec (PySem.Stmt.Assign _ (PySem.Expr.ListComp _ _ _ _) _) _) _ _ _));
    (fail_if_success (with_reducible show wpAny _ _ (eval (PySem.Expr.ListComp _ _ _ _) _) _ _ _));
    first | walk1 | (dsimp only; walk1))))
  (k_with "eval Name" => ((k_here; k_dflt (refine' nameX_L ?FQ9 ?vQ9 ?_ ?aQ9 ?bQ9; (case aQ9 => rfl); (case bQ9 => rfl); (case FQ9 => k_asm); (case vQ9 => first | exact rfl | assumption)))))
  (k_with "k_sub" => ((intro q hq; repeat (first | exact hq | refine' List.Mem.tail _ ?_))))
  (k_with "k_mem" => (first | assumption | exact List.Mem.head _ | (refine' List.Mem.tail _ ?_; k_mem)))
  (k_with "subscriptTail Constant Name str int" => ((refine item_str (fitsSsize_of (N := 9223372036854775808) (by omega) (by omega) (Int.le_refl _)) (by omega) ?h2Q9 ?_; (case h2Q9 => (refine Int.lt_of_lt_of_le (b := 7) (by omega) (by decide +kernel))); intro _; (try dsimp only))))
  (k_with "call ref" => (((k_dflt (refine' get_hit (B := ?BQ9) (F := ?FQ9) (X := ?XQ9) (N := ?NQ9) (T := ?TQ9) (hk := ?hkQ9) (hd := ?hdQ9) (hu := ?huQ9) (ht := ?htQ9) (hR := ?hRQ9) (hrs := ?hrsQ9) (sub := ?subQ9) (hx := ?hxQ9) (hl := ?hlQ9) (hfit := ?hfitQ9) (hrf := ?hrfQ9) (hf := ?hfQ9) (ret := ?_); (case BQ9 => k_asm); (case FQ9 => k_asm); (case XQ9 => k_asm); (case NQ9 => k_asm); (case TQ9 => k_asm); (case hkQ9 => first | exact rfl | assumption); (case hdQ9 => ktr_room); (case huQ9 => ktr_units); (case htQ9 => assumption); (case hRQ9 => assumption); (case hrsQ9 => assumption); (case subQ9 => walk_at "k_sub"); (case hxQ9 => assumption); (case hlQ9 => assumption); (case hfitQ9 => assumption); (case hrfQ9 => assumption); (case hfQ9 => assumption))); intro _ _ _ _ _; (try dsimp only))))
  (k_with "execs cons" => (refine wpAny_execs_cons ?_; k_fold))
  (k_with "walk1" => (k_unfold; (try dsimp only); (try clear ek); (try clear qk); walk1))
  revert X; k_fill; intro X
  have ht : TableAt w ((R, listOf vs.toArray n) :: (289, tabObj ps) :: rest) TI R := htI.mono fun q h => List.mem_cons_of_mem _ (List.mem_cons_of_mem _ h)
  have hrs : RowsAre ((R, listOf vs.toArray n) :: (289, tabObj ps) :: rest) vs (deeds.map (row tx)) := Paired.mono (fun _ _ h => RowIs.mono h fun q h => List.mem_cons_of_mem _ (List.mem_cons_of_mem _ h)) hrs'
  have hR : (R, listOf vs.toArray n) ∈ ((R, listOf vs.toArray n) :: (289, tabObj ps) :: rest) := List.mem_cons_self
  have hx : Plain (Txt.lower (odd k)) := lower_odd k hk7 ▸ small_plain k hk7
  have hl : (Txt.lower (odd k)).cps.size ≤ 1000000 := lower_odd k hk7 ▸ small_size k hk7
  have hfit : Builtin.Str.tooLong (Txt.lower (odd k)).length = false := lower_odd k hk7 ▸ small_fit k hk7
  have hrf : ∀ r ∈ deeds.map (row tx), Builtin.Str.tooLong (Txt.lower r.1).length = false := by
    intro r hr
    obtain ⟨d, hd, rfl⟩ := List.mem_map.mp hr
    exact lower_big d (h7 d hd) ▸ small_fit d (h7 d hd)
  have hf : findRow (deeds.map (row tx)) (Txt.lower (odd k)) = some (row tx k) := by
    rw [lower_odd k hk7, find_row hk7 h7, if_pos hkd]
  obtain ⟨TD, tt, nn, h1, h2⟩ := ht.ex
  generalize hnews : (R, listOf vs.toArray n) :: (289, tabObj ps) :: rest = news at *
  refine wpAny_call ?_
  k_dflt cell_enter
  walk_at "m_go"
  rename News _ _ _ _ => N9
  exact ret _ _ _ (by k_asm) (fun q hq => N9 q (List.mem_cons_of_mem _ hq))
end
end Mine
end
section
open PySem PySem.W PyProof.Rows PyProof.V PySem.Spec
namespace Mine
set_option maxHeartbeats 4000000
open PyProof.Rows.LCg (SrcAt NsObj Off3 Off1 lst FinE)

theorem WallP.mono {D : List (PyData × PyData)} {rest rest' : List (Addr × Obj)} {v : Value} {k : Int} (h : WallP D rest v k) (s : ∀ q ∈ rest, q ∈ rest') : WallP D rest' v k :=
  let ⟨r, a, b, c⟩ := h; ⟨r, a.mono s, b, c⟩
structure Here (w : World) (qual : PySem.Str) (ps : Array Value) (rest : List (Addr × Obj)) (TI R WC WD : Addr) (vs : List Value) (deeds : List Nat) (tx : Nat → PySem.Str) (D : List (PyData × PyData)) (j : Nat) : Prop where
  tab : TabOk ps qual rest
  rp : (@Ne Nat R 289)
  p : ∀ q ∈ rest, q.1 ≠ 289
  r : ∀ q ∈ rest, q.1 ≠ R
  cell : ∃ oC oD kvs, (WC, oC) ∈ rest ∧ oC.data = .cell (some (.ref WD)) ∧ (WD, oD) ∈ rest ∧ (WD == sysModules) = false ∧ oD.IsDictOf (strKind PySem.Challenge.rw_uk0024_01.row.prog w) kvs ∧ FlatPairs PyData.str kvs D
  table : TableAt w rest TI R
  rows : RowsAre rest vs (deeds.map (row tx))
  keys : ∀ i v, j + 1 ≤ i → vs[i]? = some v → WallP D rest v (wall deeds j i)
theorem Here.len {w : World} {qual : PySem.Str} {ps : Array Value} {rest : List (Addr × Obj)} {TI R WC WD : Addr} {vs : List Value} {deeds : List Nat} {tx : Nat → PySem.Str} {D : List (PyData × PyData)} {j : Nat} (H : Here w qual ps rest TI R WC WD vs deeds tx D j) : vs.length = deeds.length := by
  rw [H.rows.length, List.length_map]
section
variable {w : World} {p : Program} {loose : List PySem.Str} {mean : ExcName → Option Value} {mg mb : PySem.Str → Option Value}
   {dp un : Nat} {gd : Option (List Code)} {cn : PySem.Str} {cs : PySem.Scope} {a : Addr} {ccd : Value} {cl : List (PySem.Str × Addr)} {outer : List Env} {A₀ : Around} {base h₀ : Heap} {L : Addr} {m : PySem.Str → Option Value} {news : List (Addr × Obj)} {s : Shared} {Q E : Value → Shared → Prop}

theorem KeyOk.weak {fn : Addr} {P P' : Value → Int → Prop} {nw : List (Addr × Obj)} (C : KeyOk w p loose mean mg mb fn nw P) (k : ∀ v i, P' v i → P v i) : KeyOk w p loose mean mg mb fn nw P' :=
  fun dp un gd cn cs a ccd cl outer A₀ base h₀ L m nw s Q E v i B F X N T hk hd hu sub hv ret => C dp un gd cn cs a ccd cl outer A₀ base h₀ L m nw s Q E v i B F X N T hk hd hu sub (k _ _ hv) ret

theorem wallsH1 {A : Around} {R c TI WC WD : Addr} {n j : Nat} {vs : List Value} {deeds : List Nat} {tx : Nat → PySem.Str} {ps : Array Value} {rest : List (Addr × Obj)} {qual : PySem.Str} {D : List (PyData × PyData)} {pos : PySem.Pos}
    (F : Fr h₀ L s.heap m) (N : News h₀ L s.heap ((R, listOf vs.toArray n) :: (289, tabObj ps) :: rest)) (T : Top p loose mean mg mb h₀) (C : CodeHd h₀ c 289) (hcd : ccd = .ref c) (hq : (envX cn cs L a ccd cl).qual ++ "<lambda>" = qual)
    (hcl : closureFor wScope (envX cn cs L a ccd cl) = pure ([("walls", WC)] : List (PySem.Str × Addr))) (H : Here w qual ps rest TI R WC WD vs deeds tx D j)
    (ret : ∀ f c' ctv ps' rest' h' tk, Fr h₀ L h' m → News h₀ L h' ((R, listOf vs.toArray n) :: (289, tabObj ps') :: rest') → Here w qual ps' rest' TI R WC WD vs deeds tx D j → KeyOk w p loose mean mg mb f rest' (WallP D rest') →
      (f, kla_obj "<lambda>" qual (wParams ⟨256, 61, 256, 65⟩) (.Subscript (.Name "walls" ⟨256, 67, 256, 72⟩) (.Call (.Attribute (.Subscript (.Name "pair" ⟨256, 73, 256, 77⟩) (.Constant (.int 0) 0 ⟨256, 78, 256, 79⟩) ⟨256, 73, 256, 80⟩) "lower" ⟨256, 73, 256, 86⟩) [] [] ⟨256, 73, 256, 88⟩) ⟨256, 67, 256, 89⟩) wScope [("walls", WC)] ((mg "__name__").getD .none) c' ctv) ∈ rest' → (∀ q ∈ rest, q ∈ rest') → Q (.ref f) { s with heap := h', toks := tk }) :
    wpAny (model PySem.Challenge.rw_uk0024_01.row.prog w) A (eval (.Lambda (wParams ⟨256, 61, 256, 65⟩) (.Subscript (.Name "walls" ⟨256, 67, 256, 72⟩) (.Call (.Attribute (.Subscript (.Name "pair" ⟨256, 73, 256, 77⟩) (.Constant (.int 0) 0 ⟨256, 78, 256, 79⟩) ⟨256, 73, 256, 80⟩) "lower" ⟨256, 73, 256, 86⟩) [] [] ⟨256, 73, 256, 88⟩) ⟨256, 67, 256, 89⟩) wScope pos) (envX cn cs L a ccd cl)) Q E s := by
  obtain ⟨oC, oD, kvs, w1, w2, w3, w4, w5, w6⟩ := H.cell
  refine walls1 F N T C hcd hq H.tab H.rp H.p H.r hcl w1 w2 w3 w4 w5 w6 ?_
  intro f c' ctv ps' rest' h' tk F' N' ht' hK ho h1 h2 h3
  exact ret f c' ctv ps' rest' h' tk F' N' ⟨ht', H.rp, h1, h2, ⟨oC, oD, kvs, h3 _ w1, w2, h3 _ w3, w4, w5, w6⟩, H.table.mono h3, Mine.Paired.mono (fun _ _ h => RowIs.mono h h3) H.rows, fun i v a b => (H.keys i v a b).mono h3⟩ hK ho h3

theorem wallsH2 {A : Around} {R c TI WC WD : Addr} {n j : Nat} {vs : List Value} {deeds : List Nat} {tx : Nat → PySem.Str} {ps : Array Value} {rest : List (Addr × Obj)} {qual : PySem.Str} {D : List (PyData × PyData)} {pos : PySem.Pos}
    (F : Fr h₀ L s.heap m) (N : News h₀ L s.heap ((R, listOf vs.toArray n) :: (289, tabObj ps) :: rest)) (T : Top p loose mean mg mb h₀) (C : CodeHd h₀ c 289) (hcd : ccd = .ref c) (hq : (envX cn cs L a ccd cl).qual ++ "<lambda>" = qual)
    (hcl : closureFor wScope (envX cn cs L a ccd cl) = pure ([("walls", WC)] : List (PySem.Str × Addr))) (H : Here w qual ps rest TI R WC WD vs deeds tx D j)
    (ret : ∀ f c' ctv ps' rest' h' tk, Fr h₀ L h' m → News h₀ L h' ((R, listOf vs.toArray n) :: (289, tabObj ps') :: rest') → Here w qual ps' rest' TI R WC WD vs deeds tx D j → KeyOk w p loose mean mg mb f rest' (WallP D rest') →
      (f, kla_obj "<lambda>" qual (wParams ⟨257, 61, 257, 65⟩) (.Subscript (.Name "walls" ⟨257, 67, 257, 72⟩) (.Call (.Attribute (.Subscript (.Name "pair" ⟨257, 73, 257, 77⟩) (.Constant (.int 0) 0 ⟨257, 78, 257, 79⟩) ⟨257, 73, 257, 80⟩) "lower" ⟨257, 73, 257, 86⟩) [] [] ⟨257, 73, 257, 88⟩) ⟨257, 67, 257, 89⟩) wScope [("walls", WC)] ((mg "__name__").getD .none) c' ctv) ∈ rest' → (∀ q ∈ rest, q ∈ rest') → Q (.ref f) { s with heap := h', toks := tk }) :
    wpAny (model PySem.Challenge.rw_uk0024_01.row.prog w) A (eval (.Lambda (wParams ⟨257, 61, 257, 65⟩) (.Subscript (.Name "walls" ⟨257, 67, 257, 72⟩) (.Call (.Attribute (.Subscript (.Name "pair" ⟨257, 73, 257, 77⟩) (.Constant (.int 0) 0 ⟨257, 78, 257, 79⟩) ⟨257, 73, 257, 80⟩) "lower" ⟨257, 73, 257, 86⟩) [] [] ⟨257, 73, 257, 88⟩) ⟨257, 67, 257, 89⟩) wScope pos) (envX cn cs L a ccd cl)) Q E s := by
  obtain ⟨oC, oD, kvs, w1, w2, w3, w4, w5, w6⟩ := H.cell
  refine walls2 F N T C hcd hq H.tab H.rp H.p H.r hcl w1 w2 w3 w4 w5 w6 ?_
  intro f c' ctv ps' rest' h' tk F' N' ht' hK ho h1 h2 h3
  exact ret f c' ctv ps' rest' h' tk F' N' ⟨ht', H.rp, h1, h2, ⟨oC, oD, kvs, h3 _ w1, w2, h3 _ w3, w4, w5, w6⟩, H.table.mono h3, Mine.Paired.mono (fun _ _ h => RowIs.mono h h3) H.rows, fun i v a b => (H.keys i v a b).mono h3⟩ hK ho h3

theorem wallsH3 {A : Around} {R c TI WC WD : Addr} {n j : Nat} {vs : List Value} {deeds : List Nat} {tx : Nat → PySem.Str} {ps : Array Value} {rest : List (Addr × Obj)} {qual : PySem.Str} {D : List (PyData × PyData)} {pos : PySem.Pos}
    (F : Fr h₀ L s.heap m) (N : News h₀ L s.heap ((R, listOf vs.toArray n) :: (289, tabObj ps) :: rest)) (T : Top p loose mean mg mb h₀) (C : CodeHd h₀ c 289) (hcd : ccd = .ref c) (hq : (envX cn cs L a ccd cl).qual ++ "<lambda>" = qual)
    (hcl : closureFor wScope (envX cn cs L a ccd cl) = pure ([("walls", WC)] : List (PySem.Str × Addr))) (H : Here w qual ps rest TI R WC WD vs deeds tx D j)
    (ret : ∀ f c' ctv ps' rest' h' tk, Fr h₀ L h' m → News h₀ L h' ((R, listOf vs.toArray n) :: (289, tabObj ps') :: rest') → Here w qual ps' rest' TI R WC WD vs deeds tx D j → KeyOk w p loose mean mg mb f rest' (WallP D rest') →
      (f, kla_obj "<lambda>" qual (wParams ⟨260, 53, 260, 57⟩) (.Subscript (.Name "walls" ⟨260, 59, 260, 64⟩) (.Call (.Attribute (.Subscript (.Name "pair" ⟨260, 65, 260, 69⟩) (.Constant (.int 0) 0 ⟨260, 70, 260, 71⟩) ⟨260, 65, 260, 72⟩) "lower" ⟨260, 65, 260, 78⟩) [] [] ⟨260, 65, 260, 80⟩) ⟨260, 59, 260, 81⟩) wScope [("walls", WC)] ((mg "__name__").getD .none) c' ctv) ∈ rest' → (∀ q ∈ rest, q ∈ rest') → Q (.ref f) { s with heap := h', toks := tk }) :
    wpAny (model PySem.Challenge.rw_uk0024_01.row.prog w) A (eval (.Lambda (wParams ⟨260, 53, 260, 57⟩) (.Subscript (.Name "walls" ⟨260, 59, 260, 64⟩) (.Call (.Attribute (.Subscript (.Name "pair" ⟨260, 65, 260, 69⟩) (.Constant (.int 0) 0 ⟨260, 70, 260, 71⟩) ⟨260, 65, 260, 72⟩) "lower" ⟨260, 65, 260, 78⟩) [] [] ⟨260, 65, 260, 80⟩) ⟨260, 59, 260, 81⟩) wScope pos) (envX cn cs L a ccd cl)) Q E s := by
  obtain ⟨oC, oD, kvs, w1, w2, w3, w4, w5, w6⟩ := H.cell
  refine walls3 F N T C hcd hq H.tab H.rp H.p H.r hcl w1 w2 w3 w4 w5 w6 ?_
  intro f c' ctv ps' rest' h' tk F' N' ht' hK ho h1 h2 h3
  exact ret f c' ctv ps' rest' h' tk F' N' ⟨ht', H.rp, h1, h2, ⟨oC, oD, kvs, h3 _ w1, w2, h3 _ w3, w4, w5, w6⟩, H.table.mono h3, Mine.Paired.mono (fun _ _ h => RowIs.mono h h3) H.rows, fun i v a b => (H.keys i v a b).mono h3⟩ hK ho h3

theorem wallsH4 {A : Around} {R c TI WC WD : Addr} {n j : Nat} {vs : List Value} {deeds : List Nat} {tx : Nat → PySem.Str} {ps : Array Value} {rest : List (Addr × Obj)} {qual : PySem.Str} {D : List (PyData × PyData)} {pos : PySem.Pos}
    (F : Fr h₀ L s.heap m) (N : News h₀ L s.heap ((R, listOf vs.toArray n) :: (289, tabObj ps) :: rest)) (T : Top p loose mean mg mb h₀) (C : CodeHd h₀ c 289) (hcd : ccd = .ref c) (hq : (envX cn cs L a ccd cl).qual ++ "<lambda>" = qual)
    (hcl : closureFor wScope (envX cn cs L a ccd cl) = pure ([("walls", WC)] : List (PySem.Str × Addr))) (H : Here w qual ps rest TI R WC WD vs deeds tx D j)
    (ret : ∀ f c' ctv ps' rest' h' tk, Fr h₀ L h' m → News h₀ L h' ((R, listOf vs.toArray n) :: (289, tabObj ps') :: rest') → Here w qual ps' rest' TI R WC WD vs deeds tx D j → KeyOk w p loose mean mg mb f rest' (WallP D rest') →
      (f, kla_obj "<lambda>" qual (wParams ⟨261, 71, 261, 75⟩) (.Subscript (.Name "walls" ⟨261, 77, 261, 82⟩) (.Call (.Attribute (.Subscript (.Name "pair" ⟨261, 83, 261, 87⟩) (.Constant (.int 0) 0 ⟨261, 88, 261, 89⟩) ⟨261, 83, 261, 90⟩) "lower" ⟨261, 83, 261, 96⟩) [] [] ⟨261, 83, 261, 98⟩) ⟨261, 77, 261, 99⟩) wScope [("walls", WC)] ((mg "__name__").getD .none) c' ctv) ∈ rest' → (∀ q ∈ rest, q ∈ rest') → Q (.ref f) { s with heap := h', toks := tk }) :
    wpAny (model PySem.Challenge.rw_uk0024_01.row.prog w) A (eval (.Lambda (wParams ⟨261, 71, 261, 75⟩) (.Subscript (.Name "walls" ⟨261, 77, 261, 82⟩) (.Call (.Attribute (.Subscript (.Name "pair" ⟨261, 83, 261, 87⟩) (.Constant (.int 0) 0 ⟨261, 88, 261, 89⟩) ⟨261, 83, 261, 90⟩) "lower" ⟨261, 83, 261, 96⟩) [] [] ⟨261, 83, 261, 98⟩) ⟨261, 77, 261, 99⟩) wScope pos) (envX cn cs L a ccd cl)) Q E s := by
  obtain ⟨oC, oD, kvs, w1, w2, w3, w4, w5, w6⟩ := H.cell
  refine walls4 F N T C hcd hq H.tab H.rp H.p H.r hcl w1 w2 w3 w4 w5 w6 ?_
  intro f c' ctv ps' rest' h' tk F' N' ht' hK ho h1 h2 h3
  exact ret f c' ctv ps' rest' h' tk F' N' ⟨ht', H.rp, h1, h2, ⟨oC, oD, kvs, h3 _ w1, w2, h3 _ w3, w4, w5, w6⟩, H.table.mono h3, Mine.Paired.mono (fun _ _ h => RowIs.mono h h3) H.rows, fun i v a b => (H.keys i v a b).mono h3⟩ hK ho h3

theorem bisL_here {R TI WC WD fn : Addr} {n j : Nat} {vs : List Value} {deeds : List Nat} {tx : Nat → PySem.Str} {ps : Array Value} {rest : List (Addr × Obj)} {qual : PySem.Str} {D : List (PyData × PyData)} {x : Int} {t1 t2 : Tok} (B : Below A₀ base outer h₀) (F : Fr h₀ L s.heap m) (X : (Mine.hd.heap_1 w.params).In h₀) (N : News h₀ L s.heap ((R, listOf vs.toArray n) :: (289, tabObj ps) :: rest)) (T : Top p loose mean mg mb h₀) (hk : cs.kind = .function) (hd : dp + 30 < recursionLimit) (hu : un + 300 < cLine) (H : Here w qual ps rest TI R WC WD vs deeds tx D j) (C : KeyOk w p loose mean mg mb fn rest (WallP D rest)) {oc : Value} {od : Option Addr} {fd : FuncData} {sl : Array (Option Value)} (hf : (fn, (⟨oc, od, .func fd, sl⟩ : Obj)) ∈ rest) (hj : j < deeds.length) (hsz : vs.length ≤ 1000) 
    (ret : ∀ r t h' tk', Fr h₀ L h' m → News h₀ L h' ((R, listOf vs.toArray n) :: (289, tabObj ps) :: rest) → j + 1 ≤ r → r ≤ deeds.length → (∀ i, j + 1 ≤ i → i < r → wall deeds j i < x) → (∀ i, r ≤ i → i < deeds.length → ¬ wall deeds j i < x) → Q (.int ((r : Nat) : Int) t) { s with heap := h', toks := tk' }) :
    wpAny (model PySem.Challenge.rw_uk0024_01.row.prog w) (ktrTop dp un gd cn cs L a ccd cl outer) (call (.ref 202) [.ref R, .int x t1, .int ((j : Int) + 1) t2] [(PySem.Str.ofString "key", .ref fn)]) Q E s := by
  have e := H.len
  exact bisL_spec (P := WallP D rest) (lo := j + 1) B F X N T hk hd hu List.mem_cons_self (fun i v h1 h2 => (H.keys i v h1 h2).mono (fun q hq => hq)) (KeyOk.weak (C.mono (fun q hq => List.mem_cons_of_mem _ (List.mem_cons_of_mem _ hq))) (fun v k h => h)) ((fun q hq => List.mem_cons_of_mem _ (List.mem_cons_of_mem _ hq)) _ hf) (by omega) hsz (fun i i' h1 h2 _ => wall_mono h2) (fun r t h' tk' F' N' q1 q2 q3 q4 => ret r t h' tk' F' N' q1 (e ▸ q2) q3 (e ▸ q4))

theorem bisR_here {R TI WC WD fn : Addr} {n j : Nat} {vs : List Value} {deeds : List Nat} {tx : Nat → PySem.Str} {ps : Array Value} {rest : List (Addr × Obj)} {qual : PySem.Str} {D : List (PyData × PyData)} {x : Int} {t1 t2 : Tok} (B : Below A₀ base outer h₀) (F : Fr h₀ L s.heap m) (X : (Mine.hd.heap_1 w.params).In h₀) (N : News h₀ L s.heap ((R, listOf vs.toArray n) :: (289, tabObj ps) :: rest)) (T : Top p loose mean mg mb h₀) (hk : cs.kind = .function) (hd : dp + 30 < recursionLimit) (hu : un + 300 < cLine) (H : Here w qual ps rest TI R WC WD vs deeds tx D j) (C : KeyOk w p loose mean mg mb fn rest (WallP D rest)) {oc : Value} {od : Option Addr} {fd : FuncData} {sl : Array (Option Value)} (hf : (fn, (⟨oc, od, .func fd, sl⟩ : Obj)) ∈ rest) (hj : j < deeds.length) (hsz : vs.length ≤ 1000) 
    (ret : ∀ r t h' tk', Fr h₀ L h' m → News h₀ L h' ((R, listOf vs.toArray n) :: (289, tabObj ps) :: rest) → j + 1 ≤ r → r ≤ deeds.length → (∀ i, j + 1 ≤ i → i < r → ¬ x < wall deeds j i) → (∀ i, r ≤ i → i < deeds.length → x < wall deeds j i) → Q (.int ((r : Nat) : Int) t) { s with heap := h', toks := tk' }) :
    wpAny (model PySem.Challenge.rw_uk0024_01.row.prog w) (ktrTop dp un gd cn cs L a ccd cl outer) (call (.ref 193) [.ref R, .int x t1, .int ((j : Int) + 1) t2] [(PySem.Str.ofString "key", .ref fn)]) Q E s := by
  have e := H.len
  exact bisR_spec (P := WallP D rest) (lo := j + 1) B F X N T hk hd hu List.mem_cons_self (fun i v h1 h2 => (H.keys i v h1 h2).mono (fun q hq => hq)) (KeyOk.weak (C.mono (fun q hq => List.mem_cons_of_mem _ (List.mem_cons_of_mem _ hq))) (fun v k h => h)) ((fun q hq => List.mem_cons_of_mem _ (List.mem_cons_of_mem _ hq)) _ hf) (by omega) hsz (fun i i' h1 h2 _ => wall_mono h2) (fun r t h' tk' F' N' q1 q2 q3 q4 => ret r t h' tk' F' N' q1 (e ▸ q2) q3 (e ▸ q4))

theorem insort_here {R TI WC WD fn : Addr} {n j : Nat} {vs : List Value} {deeds : List Nat} {tx : Nat → PySem.Str} {ps : Array Value} {rest : List (Addr × Obj)} {qual : PySem.Str} {D : List (PyData × PyData)} {t2 : Tok} {k : Nat} {xv : Value} (B : Below A₀ base outer h₀) (F : Fr h₀ L s.heap m) (X : (Mine.hd.heap_1 w.params).In h₀) (N : News h₀ L s.heap ((R, listOf vs.toArray n) :: (289, tabObj ps) :: rest)) (T : Top p loose mean mg mb h₀) (hk : cs.kind = .function) (hd : dp + 40 < recursionLimit) (hu : un + 400 < cLine) (H : Here w qual ps rest TI R WC WD vs deeds tx D j) (C : KeyOk w p loose mean mg mb fn rest (WallP D rest)) {oc : Value} {od : Option Addr} {fd : FuncData} {sl : Array (Option Value)} (hf : (fn, (⟨oc, od, .func fd, sl⟩ : Obj)) ∈ rest) (hj : j < deeds.length) (hsz : vs.length ≤ 1000)  (hxv : WallP D rest xv (-(k : Int)))
    (ret : ∀ (r : Nat) h' tk', Fr h₀ L h' m → News h₀ L h' ((R, listOf (vs.take r ++ xv :: vs.drop r).toArray (n + 1)) :: (289, tabObj ps) :: rest) → j + 1 ≤ r → r ≤ deeds.length → (∀ i, j + 1 ≤ i → i < r → ¬ -(k : Int) < wall deeds j i) → (∀ i, r ≤ i → i < deeds.length → -(k : Int) < wall deeds j i) → Q .none { s with heap := h', toks := tk' }) :
    wpAny (model PySem.Challenge.rw_uk0024_01.row.prog w) (ktrTop dp un gd cn cs L a ccd cl outer) (call (.ref 184) [.ref R, xv, .int ((j : Int) + 1) t2] [(PySem.Str.ofString "key", .ref fn)]) Q E s := by
  have e := H.len
  refine insort_spec (P := WallP D rest) (K := wall deeds j) (lo := j + 1) (ng := fun l => (R, listOf l.toArray (n + 1)) :: (289, tabObj ps) :: rest) B F X N T hk hd hu (fun l => .head ?_) H.keys hxv (C.mono (fun q hq => List.mem_cons_of_mem _ (List.mem_cons_of_mem _ hq))) ((fun q hq => List.mem_cons_of_mem _ (List.mem_cons_of_mem _ hq)) _ hf) (by omega) hsz (fun i i' h1 h2 _ => wall_mono h2) ?_
  · intro q hq
    rcases List.mem_cons.mp hq with rfl | hq
    · exact fun e => H.rp e.symm
    · exact H.r q hq
  · intro r h' tk' F' N' q1 q2 q3 q4
    have ek : kl_ins vs (r : Int) xv = vs.take r ++ xv :: vs.drop r := by
      unfold kl_ins
      rw [if_neg (by omega), Int.toNat_natCast, show min r vs.length = r by omega]
    rw [ek] at N'
    exact ret r h' tk' F' N' q1 (e ▸ q2) q3 (e ▸ q4)
end
end Mine
end
section
open PySem PySem.W PyProof.Rows PyProof.V PySem.Spec
namespace Mine
set_option maxHeartbeats 4000000
open PyProof.Rows.LCg (SrcAt NsObj Off3 Off1 lst FinE)

def lamQ : PySem.Str := "_law_comes.<locals>.<lambda>"
theorem lamQ_at : ((("_law_comes" : PySem.Str) ++ ".<locals>.") ++ "<lambda>") = lamQ := by decide +kernel
theorem lamQ_eq {cs : PySem.Scope} {L a : Addr} {ccd : Value} {cl : List (PySem.Str × Addr)} : (envX "_law_comes" cs L a ccd cl).qual ++ "<lambda>" = lamQ := lamQ_at
theorem lamC_of {cs : PySem.Scope} {L a c : Addr} {ccd : Value} {cl : List (PySem.Str × Addr)} {cn : PySem.Str} (h : cellOf (envX cn cs L a ccd cl) "walls" = pure c) : closureFor wScope (envX cn cs L a ccd cl) = pure ([("walls", c)] : List (PySem.Str × Addr)) := by
  unfold closureFor
  simp only [List.forIn_cons, List.forIn_nil]
  simp [h]
def IntIs (v : Value) (d : Nat) : Prop := ∃ t, v = .int (d : Int) t
theorem find_small : ∀ d, d < 7 → Txt.find "abcdefg" (small d) = (d : Int) := by decide +kernel
theorem allLt_mem {d : Addr} {l : List (Addr × Obj)} (h : AllLt d l) : ∀ p ∈ l, p.1 < d := by
  induction l with
  | nil => intro p hp; cases hp
  | cons q r ih =>
    obtain ⟨h1, h2⟩ := h
    intro p hp
    rcases List.mem_cons.mp hp with rfl | hp
    · exact h1
    · exact ih h2 p hp
theorem ints_ok : ∀ {ys : List Value} {ds : List Nat}, Paired IntIs ys ds → kf_ints ys = true
  | _, _, .nil => rfl
  | _, _, .cons h t => by obtain ⟨_, rfl⟩ := h; simpa [kf_ints] using ints_ok t
theorem ints_at {d : Nat} : ∀ {ys : List Value} {ds : List Nat}, Paired IntIs ys ds → d ∈ ds → kf_at (d : Int) ys = some (ds.idxOf d)
  | _, _, .nil, h => nomatch h
  | _ :: l, e :: l', .cons hh tl, h => by
    obtain ⟨t, rfl⟩ := hh
    unfold kf_at
    by_cases he : e = d
    · subst he; simp [isInt, List.idxOf_cons]
    · have hne : isInt (d : Int) (.int (e : Int) t) = false := by simp [isInt]; omega
      have hm : d ∈ l' := by
        rcases List.mem_cons.mp h with h | h
        · exact absurd h.symm he
        · exact h
      rw [hne, ints_at tl hm]
      have : (e == d) = false := by simp [he]
      simp [List.idxOf_cons, this]
theorem Paired.drop {α β : Type} {R : α → β → Prop} : ∀ {l : List α} {l' : List β}, Paired R l l' → ∀ n, Paired R (l.drop n) (l'.drop n)
  | _, _, h, 0 => h
  | _, _, .nil, _ + 1 => .nil
  | _, _, .cons _ t, n + 1 => Paired.drop t n
theorem mn_step {l : List Nat} {i d : Nat} (h : l[i]? = some d) : (if ((d : Nat) : Int) < ((mn (l.take i) : Nat) : Int) then ((d : Nat) : Int) else ((mn (l.take i) : Nat) : Int)) = ((mn (l.take (i + 1)) : Nat) : Int) := by
  have e : mn (l.take (i + 1)) = min (mn (l.take i)) d := by
    unfold mn; rw [List.take_add_one, h, List.foldl_append]; rfl
  rw [e]
  split <;> omega
theorem pick_from (vs : List Value) (b : Nat) : (slicePick vs.toArray (some (b : Int)) none none).toList = vs.drop b := by
  have e : sliceBounds (some (b : Int)) none none vs.toArray.size = (((min b vs.toArray.size : Nat) : Int), ((vs.toArray.size : Nat) : Int), 1) := by
    simp only [sliceBounds, Option.getD_none, show (1 : Int) > 0 by decide, if_true, if_neg (show ¬ ((b : Int) < 0) by omega)]
    congr 1
    omega
  rw [kmk_pick_nat _ e]
  show (vs.drop (min b vs.toArray.size)).take (vs.toArray.size - min b vs.toArray.size) = _
  rw [List.size_toArray, kmk_drop_min, List.take_of_length_le (by rw [List.length_drop]; omega)]

theorem News.drop1 {h₀ h : Heap} {L : Addr} {x : Addr × Obj} {l : List (Addr × Obj)} (N : News h₀ L h (x :: l)) : News h₀ L h l := fun q hq => N q (List.mem_cons_of_mem _ hq)
theorem tup_here {w : World} {g h1 h2 : Heap} {L0 : Addr} {qual : PySem.Str} {ps : Array Value} {rest : List (Addr × Obj)} {TI R WC WD T : Addr} {o oR : Obj} {vs : List Value} {deeds : List Nat} {tx : Nat → PySem.Str} {D : List (PyData × PyData)} {j : Nat} (H : Here w qual ps rest TI R WC WD vs deeds tx D j)
    (N0 : News g L0 h1 ((R, oR) :: (289, tabObj ps) :: rest)) (NT : News g L0 h2 ((T, o) :: (R, oR) :: (289, tabObj ps) :: rest)) (hT : T = h1.objs.size) :
    News g L0 h2 ((R, oR) :: (289, tabObj ps) :: (T, o) :: rest) ∧ Here w qual ps ((T, o) :: rest) TI R WC WD vs deeds tx D j := by
  subst hT
  have s : ∀ q ∈ rest, q ∈ ((h1.objs.size, o) :: rest) := fun q hq => List.mem_cons_of_mem _ hq
  obtain ⟨oC, oD, kvs, w1, w2, w3, w4, w5, w6⟩ := H.cell
  refine ⟨?_, ⟨H.tab.mono s, H.rp, ?_, ?_, ⟨oC, oD, kvs, s _ w1, w2, s _ w3, w4, w5, w6⟩, H.table.mono s, Mine.Paired.mono (fun _ _ h => RowIs.mono h s) H.rows, fun i v a b => (H.keys i v a b).mono s⟩⟩
  · intro q hq
    refine NT q ?_
    walk_at "perm"
  · intro q hq
    rcases List.mem_cons.mp hq with rfl | hq
    · exact Nat.ne_of_gt (Heap.lt_size (N0 (289, tabObj ps) (List.mem_cons_of_mem _ List.mem_cons_self)).1)
    · exact H.p q hq
  · intro q hq
    rcases List.mem_cons.mp hq with rfl | hq
    · exact Nat.ne_of_gt (Heap.lt_size (N0 (R, oR) List.mem_cons_self).1)
    · exact H.r q hq
theorem tup_wall {D : List (PyData × PyData)} {rest : List (Addr × Obj)} {T : Addr} {k : Nat} {y : PySem.Str} {t1 t2 : Tok} (hk7 : k < 7) (hkk : lookup (.str (small k)) D = some (.int (-(k : Int)))) (hm : (T, (⟨.type "tuple", none, .seq #[.str (big k) t1, .str y t2], #[]⟩ : Obj)) ∈ rest) : WallP D rest (.ref T) (-(k : Int)) := by
  refine ⟨(big k, y), ⟨T, t1, t2, rfl, hm⟩, lower_big k hk7 ▸ small_fit k hk7, ?_⟩
  show lookup (.str (Txt.lower (big k))) D = _
  rw [lower_big k hk7]; exact hkk
theorem paired_ins {rest' : List (Addr × Obj)} {tx : Nat → PySem.Str} {k T r : Nat} {t1 t2 : Tok} (hT : (T, (⟨.type "tuple", none, .seq #[.str (big k) t1, .str (tx k) t2], #[]⟩ : Obj)) ∈ rest') : ∀ {vs : List Value} {deeds : List Nat}, RowsAre rest' vs (deeds.map (row tx)) → r ≤ deeds.length →
    RowsAre rest' (vs.take r ++ .ref T :: vs.drop r) ((deeds.take r ++ k :: deeds.drop r).map (row tx)) := by
  induction r with
  | zero => intro vs deeds h _; exact .cons ⟨T, t1, t2, rfl, hT⟩ h
  | succ r ih =>
    intro vs deeds h hr
    cases deeds with
    | nil => simp at hr
    | cons d deeds =>
      cases h with
      | cons a b => exact .cons a (ih b (by simpa using hr))
theorem News.third {h₀ h : Heap} {L : Addr} {a b : Addr × Obj} {T : Addr} {o : Obj} {l : List (Addr × Obj)} (N : News h₀ L h (a :: b :: (T, o) :: l)) : ∃ TT, TT = T := ⟨T, rfl⟩
theorem at_place {vs : List Value} {r : Nat} (h : r ≤ vs.length) (x : Value) : (vs.take r ++ x :: vs.drop r).toArray[((r : Nat) : Int).toNat]? = some x := by
  rw [Int.toNat_natCast, List.getElem?_toArray, List.getElem?_append_right (by rw [List.length_take]; omega), List.length_take, show r - min r vs.length = 0 by omega]
  rfl
section
variable {prog : Program} {w : World} {A : Around} {E : Value → Shared → Prop} {s : Shared} {t u : Tok} {Q : Value → Shared → Prop}
theorem index_low (hA : A.handled = none) {y : PySem.Str} {d : Nat} (e : y = small d) (hd : d < 7) (h : Q (.int (d : Int) s.toks) { s with toks := s.toks + 1 }) :
    wpAny (model prog w) A (call (.builtin "str.index") [.str "abcdefg" t, .str y u]) Q E s := by
  subst e
  refine index_or hA (fun h1 _ => ?_) (fun _ _ => ?_)
  · rw [find_small d hd] at h1; omega
  · rw [find_small d hd]; exact h
theorem index_small (hA : A.handled = none) {d : Nat} (hd : d < 7) (h : Q (.int (d : Int) s.toks) { s with toks := s.toks + 1 }) :
    wpAny (model prog w) A (call (.builtin "str.index") [.str "abcdefg" t, .str (small d) u]) Q E s := by
  refine index_or hA (fun h1 _ => ?_) (fun _ _ => ?_)
  · rw [find_small d hd] at h1; omega
  · rw [find_small d hd]; exact h
end
section
variable {w : World} {p : Program} {loose : List PySem.Str} {mean : ExcName → Option Value} {mg mb : PySem.Str → Option Value}
   {dp un : Nat} {gd : Option (List Code)} {cn : PySem.Str} {cs : PySem.Scope} {a : Addr} {ccd : Value} {cl : List (PySem.Str × Addr)} {outer : List Env} {A₀ : Around} {base h₀ : Heap} {L : Addr} {m : PySem.Str → Option Value} {news : List (Addr × Obj)} {s : Shared} {Q E : Value → Shared → Prop}

theorem keys_sub (B : Below A₀ base outer h₀) (F : Fr h₀ L s.heap m) (X : (Mine.hd.heap_1 w.params).In h₀) (N : News h₀ L s.heap news) (T : Top p loose mean mg mb h₀) (hk : cs.kind = .function) (hd : dp + 30 < recursionLimit) (hu : un + 300 < cLine)
    {TI R : Addr} {n : Nat} {vs : List Value} {rs : List (PySem.Str × PySem.Str)} {news₀ : List (Addr × Obj)} (ht : TableAt w news₀ TI R) (hR : (R, listOf vs.toArray n) ∈ news₀) (hrs : RowsAre news₀ vs rs) (sub : ∀ q ∈ news₀, q ∈ news) (hsz : vs.length ≤ 1000)
    (ret : ∀ D ys h' tk', Fr h₀ L h' m → News h₀ L h' ((D, lst ys) :: news) → (∀ p ∈ news, p.1 ≠ D) → Paired NameIs ys rs → Q (.ref D) { s with heap := h', toks := tk' }) :
    wpAny (model PySem.Challenge.rw_uk0024_01.row.prog w) (ktrTop dp un gd cn cs L a ccd cl outer) (call (.ref 123) [.ref TI]) Q E s :=
  keys_spec B F X N T hk hd hu (ht.mono sub) (sub _ hR) (Paired.mono (fun _ _ h => RowIs.mono h sub) hrs) hsz ret


/-- a post that is named -/
def MidT (P : Prop) : Prop := P
theorem Fr.nam {h₀ h : Heap} {L : Addr} {m : PySem.Str → Option Value} (F : Fr h₀ L h m) : ∃ m', m' = m ∧ Fr h₀ L h m' := ⟨m, rfl, F⟩
set_option maxRecDepth 100000 in
set_option maxHeartbeats 8000000 in
theorem comes_new {ps : Array Value} {rest : List (Addr × Obj)} {R TI : Addr} {n : Nat} {vs : List Value} (B : Below A₀ base outer h₀) (F : Fr h₀ L s.heap m) (X : (Mine.hd.heap_1 w.params).In h₀) (N : News h₀ L s.heap ((R, listOf vs.toArray n) :: (289, tabObj ps) :: rest)) (T : Top p loose mean mg mb h₀) (hk : cs.kind = .function) (hd : dp + 60 < recursionLimit) (hu : un + 600 < cLine)
    {deeds : List Nat} {tx : Nat → PySem.Str} {k left : Nat} {t2 t3 t4 : Tok} (htI : TableAt w rest TI R) (hrs' : RowsAre rest vs (deeds.map (row tx))) (hP : ∀ q ∈ rest, q.1 ≠ 289) (hR' : ∀ q ∈ rest, q.1 ≠ R) (hRP : (@Ne Nat R 289))
    (hnd : deeds.Nodup) (h7 : ∀ d ∈ deeds, d < 7) (hl : left ∈ deeds) (hk7 : k < 7) (hkd : k ∉ deeds) (hsz : vs.length ≤ 1000) (hTab : TabOk ps lamQ rest)
    (ret : ∀ (r : Nat) t vs' n' ps' rest' h' tk', Fr h₀ L h' m → News h₀ L h' ((R, listOf (List.toArray vs') n') :: (289, tabObj ps') :: rest') → TableAt w rest' TI R → RowsAre rest' vs' ((deeds.take r ++ k :: deeds.drop r).map (row tx)) → TabOk ps' lamQ rest' → (∀ q ∈ rest', q.1 ≠ 289) → (∀ q ∈ rest', q.1 ≠ R) → (∀ q ∈ rest, q ∈ rest') →
      deeds.idxOf left + 1 ≤ r → r ≤ deeds.length → (∀ i d, deeds.idxOf left + 1 ≤ i → i < r → deeds[i]? = some d → k < d) → (∀ d, deeds[r]? = some d → d < k) → Q (.str (tx k) t) { s with heap := h', toks := tk' }) :
    wpAny (model PySem.Challenge.rw_uk0024_01.row.prog w) (ktrTop dp un gd cn cs L a ccd cl outer) (call (.ref 292) [.ref TI, .ref R, .int (k : Int) t2, .int (left : Int) t3, .str (tx k) t4]) Q E s := by
  k_with_none
  (k_with "ce1" => (refine' code_def ?k1Q9 ?k2Q9 ?k3Q9 ?k4Q9 ?k5Q9 ?kAQ9 ?kFQ9 ?kKQ9 ?k6Q9 ?k7Q9 ?k8Q9 ?k9Q9 ?kBQ9 ?_ ?c2Q9 ?c3Q9 ?c4Q9 ?c5Q9; (case kAQ9 => exact rfl); (case kFQ9 => exact rfl); (case kKQ9 => first | assumption | exact rfl); (case k1Q9 => k_asm); (case k2Q9 => k_asm); (case k3Q9 => k_asm); (case k4Q9 => k_asm); (case k5Q9 => k_asm); (case k6Q9 => k_is); (case k7Q9 => k_is); (case k8Q9 => ktr_room); (case k9Q9 => first | exact BindsTo.of_eq rfl | exact binds_K (by k_in) rfl (by k_is) rfl rfl rfl); (case c5Q9 => decide); (case kBQ9 => exact locs rfl); (case c2Q9 => exact rfl); (case c3Q9 => exact rfl); (case c4Q9 => exact rfl); k_whole))
  (k_with "ce2" => (refine' code_defC ?k1Q9 ?k2Q9 ?k3Q9 ?k4Q9 ?k5Q9 ?kAQ9 ?kFQ9 ?kKQ9 ?k6Q9 ?k7Q9 ?k8Q9 ?k9Q9 ?kBQ9 ?kDQ9 ?_ ?c2Q9 ?c3Q9 ?c4Q9; (case kAQ9 => exact rfl); (case kFQ9 => exact rfl); (case kKQ9 => first | assumption | exact rfl); (case k1Q9 => k_asm); (case k2Q9 => k_asm); (case k3Q9 => k_asm); (case k4Q9 => k_asm); (case k5Q9 => k_asm); (case k6Q9 => k_is); (case k7Q9 => k_is); (case k8Q9 => ktr_room); (case k9Q9 => first | exact BindsTo.of_eq rfl | exact binds_K (by k_in) rfl (by k_is) rfl rfl rfl); (case kBQ9 => exact rfl); (case kDQ9 => decide +kernel); (case c2Q9 => exact rfl); (case c3Q9 => exact rfl); (case c4Q9 => exact rfl); k_whole))
  (k_with "ktr_units" => ((have hcL9 := cLine_is; (simp only [Mine.units_make, PyProof.Rows.units_in1, PyProof.Rows.units_deeper, PySem.Around.mark_units, PyProof.Rows.units_caller, ktrTop] at *); omega)))
  (k_with "ktr_units" => ((simp only [Mine.units_make, PyProof.Rows.units_in1, PyProof.Rows.units_deeper, PySem.Around.mark_units, PyProof.Rows.units_caller]; first | exact Mine.fit2 (by with_reducible assumption) (by decide) | exact Mine.fit3 (by with_reducible assumption) (by decide) | fail "no")))
  (k_with "ktr_units" => (first | exact Mine.fit2 (d := (PySem.W.ktrTop _ _ _ _ _ _ _ _ _ _).units) (by assumption) (by decide) | exact Mine.fit3 (d := (PySem.W.ktrTop _ _ _ _ _ _ _ _ _ _).units) (by assumption) (by decide) | exact Mine.fit1 (d := (PySem.W.ktrTop _ _ _ _ _ _ _ _ _ _).units) (by assumption) (by decide) | fail "no"))
  (k_with "ktr_room" => (first | exact Mine.fit0 (d := (PySem.W.ktrTop _ _ _ _ _ _ _ _ _ _).depth) (by assumption) | exact Mine.fit2 (d := (PySem.W.ktrTop _ _ _ _ _ _ _ _ _ _).depth) (by assumption) (by decide) | exact Mine.fit3 (d := (PySem.W.ktrTop _ _ _ _ _ _ _ _ _ _).depth) (by assumption) (by decide) | exact Mine.fit1 (d := (PySem.W.ktrTop _ _ _ _ _ _ _ _ _ _).depth) (by assumption) (by decide) | fail "no"))
  (k_with "omega" => (first | (lia) | fail "no"))
  (k_with "omega" => (with_reducible first | exact Int.natCast_nonneg _ | exact Mine.le_cl (by decide) | exact Mine.lt_cl (by decide) | fail "no"))
  (k_with "simp" => (with_reducible first | exact List.mem_cons_self | (refine List.mem_cons_of_mem _ ?_; simp; done) | fail "no"))
  (k_with "simph" => (with_reducible first | assumption | exact List.mem_cons_of_mem _ (by assumption) | exact Or.inl (by assumption) | exact List.mem_append_left _ (by assumption) | exact List.mem_append_right _ (by assumption) | (refine List.mem_cons_of_mem _ ?_; k_extra "simph"; done) | (refine Or.inr ?_; k_extra "simph"; done) | fail "no"))
  (k_with "perm" => ((refine (?_ : ∀ q ∈ _, q ∈ _) _ (by assumption); (repeat (with_reducible refine List.forall_mem_cons.mpr ⟨by first | exact List.mem_cons_self | (refine List.mem_cons_of_mem _ ?_; simp; done), ?_⟩)); with_reducible (intro q hq; repeat (first | exact hq | refine List.mem_cons_of_mem _ ?_)))))
  (k_with "m_fru" => (first | (with_reducible refine frU_wrap ?_ (by decide); walk_at "m_fru") | exact rfl))
  (k_with "call builtin:len" => (((with_reducible show wpAny _ _ (call (Value.builtin "len") [Value.ref _]) _ _ _); k_dflt (refine' len_list ?lQ9 ?fQ9 ?_; (case lQ9 => exact News.isList (by k_asm) (by k_mem)); (case fQ9 => (simp only [List.size_toArray]; omega))); (try simp only [List.size_toArray]))))
  (k_with "m_go" => (repeat (
    (fail_if_success (with_reducible show wpAny _ _ (exec (PySem.Stmt.While _ _ _ _) _) _ _ _));
    (fail_if_success (with_reducible show wpAny _ _ (exec (PySem.Stmt.For _ _ _ _ _) _) _ _ _));
    (fail_if_success (with_reducible show wpAny _ _ (exec (PySem.Stmt.Assign _ (PySem.Expr.ListComp _ _ _ _) _) _) _ _ _));
    (fail_if_success (with_reducible show wpAny _ _ (eval (PySem.Expr.ListComp _ _ _ _) _) _ _ _));
    first | walk1 | (dsimp only; walk1))))
  (k_with "eval Name" => ((k_here; k_dflt (refine' nameX_L ?FQ9 ?vQ9 ?_ ?aQ9 ?bQ9; (case aQ9 => rfl); (case bQ9 => rfl); (case FQ9 => k_asm); (case vQ9 => first | exact rfl | assumption)))))
  (k_with "k_sub" => ((intro q hq; repeat (first | exact hq | refine' List.Mem.tail _ ?_))))
  (k_with "k_mem" => (first | assumption | exact List.Mem.head _ | (refine' List.Mem.tail _ ?_; k_mem)))
  (k_with "subscriptTail Constant Name str int" => ((refine item_str (fitsSsize_of (N := 9223372036854775808) (by omega) (by omega) (Int.le_refl _)) (by omega) ?h2Q9 ?_; (case h2Q9 => (refine Int.lt_of_lt_of_le (b := 7) (by omega) (by decide +kernel))); intro _; (try dsimp only))))
  (k_with "call builtin:str.lower" => ((refine SC.lower (by assumption) ?_)))
  (k_with "call builtin:list.index" => ((k_dflt (refine' kf_index ?NQ9 ?mQ9 ?iQ9 ?eQ9 rfl ?zQ9 ?_; (case NQ9 => k_asm); (case mQ9 => k_mem); (case iQ9 => assumption); (case eQ9 => assumption); (case zQ9 => (simp only []; rw [sizeLine_eq]; omega))))))
  (k_with "setItem ref str" => ((k_dflt (refine' setItem_K PyProof.V.same_str (strKind_is _ _ _ _) ?vQ9 ?FQ9 ?NQ9 ?UQ9 ?dQ9 ?fQ9 ?_ ?zQ9; (case FQ9 => k_asm); (case NQ9 => k_asm); (case UQ9 => k_updF); (case dQ9 => assumption); (case fQ9 => assumption); (case zQ9 => (rw [sizeLine_eq]; omega)); (case vQ9 => k_flat)); intro _ _ _ _ _ _)))
  (k_with "subscriptTail Name Name ref int" => ((k_dflt (refine' item_list ?lQ9 ?aQ9 ?bQ9 ?cQ9 ?_; (case lQ9 => exact News.isList (by k_asm) (by k_mem)); (case aQ9 => assumption); (case bQ9 => assumption); (case cQ9 => first | assumption | exact at_place (by assumption) _)))))
  (k_with "m_go2" => (repeat (
    (fail_if_success (with_reducible show wpAny _ _ (eval (PySem.Expr.Lambda _ _ _ _) _) _ _ _));
    first | walk1 | (dsimp only; walk1))))
  (k_with "m_go3" => (repeat (
    (fail_if_success (with_reducible show wpAny _ _ (call (Value.ref 118) _) _ _ _));
    first | walk1 | (dsimp only; walk1))))
  (k_with "call builtin:str.index" => ((k_dflt (refine' index_low ?AQ9 ?eQ9 ?dQ9 ?_; (case AQ9 => rfl); (case eQ9 => assumption); (case dQ9 => assumption)))))
  (k_with "eval Name" => ((k_dflt (refine' LCgL.ld_own ?NQ9 ?mQ9 ?cQ9 ?eQ9 ?_; (case NQ9 => k_asm); (case mQ9 => k_mem); (case cQ9 => assumption); (case eQ9 => exact rfl)))))
  (k_with "call ref" => (((k_dflt (refine' get_hit (B := ?BQ9) (F := ?FQ9) (X := ?XQ9) (N := ?NQ9) (T := ?TQ9) (hk := ?hkQ9) (hd := ?hdQ9) (hu := ?huQ9) (ht := ?htQ9) (hR := ?hRQ9) (hrs := ?hrsQ9) (sub := ?subQ9) (hx := ?hxQ9) (hl := ?hlQ9) (hfit := ?hfitQ9) (hrf := ?hrfQ9) (hf := ?hfQ9) (ret := ?_); (case BQ9 => k_asm); (case FQ9 => k_asm); (case XQ9 => k_asm); (case NQ9 => k_asm); (case TQ9 => k_asm); (case hkQ9 => first | exact rfl | assumption); (case hdQ9 => ktr_room); (case huQ9 => ktr_units); (case htQ9 => assumption); (case hRQ9 => assumption); (case hrsQ9 => assumption); (case subQ9 => walk_at "k_sub"); (case hxQ9 => assumption); (case hlQ9 => assumption); (case hfitQ9 => assumption); (case hrfQ9 => assumption); (case hfQ9 => assumption))); intro _ _ _ _ _; (try dsimp only))))
  (k_with "call ref" => (((k_dflt (refine' get_miss (B := ?BQ9) (F := ?FQ9) (X := ?XQ9) (N := ?NQ9) (T := ?TQ9) (hk := ?hkQ9) (hd := ?hdQ9) (hu := ?huQ9) (ht := ?htQ9) (hR := ?hRQ9) (hrs := ?hrsQ9) (sub := ?subQ9) (hx := ?hxQ9) (hl := ?hlQ9) (hfit := ?hfitQ9) (hrf := ?hrfQ9) (hf := ?hfQ9) (ret := ?_); (case BQ9 => k_asm); (case FQ9 => k_asm); (case XQ9 => k_asm); (case NQ9 => k_asm); (case TQ9 => k_asm); (case hkQ9 => first | exact rfl | assumption); (case hdQ9 => ktr_room); (case huQ9 => ktr_units); (case htQ9 => assumption); (case hRQ9 => assumption); (case hrsQ9 => assumption); (case subQ9 => walk_at "k_sub"); (case hxQ9 => assumption); (case hlQ9 => assumption); (case hfitQ9 => assumption); (case hrfQ9 => assumption); (case hfQ9 => assumption))); intro _ _ _ _; (try dsimp only))))
  revert X; k_fill; intro X
  have sub0 : ∀ q ∈ rest, q ∈ ((R, listOf vs.toArray n) :: (289, tabObj ps) :: rest) := fun q h => List.mem_cons_of_mem _ (List.mem_cons_of_mem _ h)
  have ht : TableAt w ((R, listOf vs.toArray n) :: (289, tabObj ps) :: rest) TI R := htI.mono sub0
  have hrs : RowsAre ((R, listOf vs.toArray n) :: (289, tabObj ps) :: rest) vs (deeds.map (row tx)) := Paired.mono (fun _ _ h => RowIs.mono h sub0) hrs'
  have hR : (R, listOf vs.toArray n) ∈ ((R, listOf vs.toArray n) :: (289, tabObj ps) :: rest) := List.mem_cons_self
  have hx : Plain (Txt.lower (odd k)) := lower_odd k hk7 ▸ small_plain k hk7
  have hlx : (Txt.lower (odd k)).cps.size ≤ 1000000 := lower_odd k hk7 ▸ small_size k hk7
  have hfit : Builtin.Str.tooLong (Txt.lower (odd k)).length = false := lower_odd k hk7 ▸ small_fit k hk7
  have hrf : ∀ r ∈ deeds.map (row tx), Builtin.Str.tooLong (Txt.lower r.1).length = false := by
    intro r hr
    obtain ⟨d, hd, rfl⟩ := List.mem_map.mp hr
    exact lower_big d (h7 d hd) ▸ small_fit d (h7 d hd)
  have hf : findRow (deeds.map (row tx)) (Txt.lower (odd k)) = none := by
    rw [lower_odd k hk7, find_row hk7 h7, if_neg hkd]
  have hdl : vs.length = deeds.length := by rw [hrs'.length, List.length_map]
  obtain ⟨TD, tt, nn, h1, h2⟩ := ht.ex
  refine wpAny_call ?_
  k_dflt cell_enter
  rename_i g' L' h' tk' FG' F' B' X' T' l1 o' d1' N'
  walk_at "m_go"
  rename Fr _ _ _ _ => F1
  rename News _ _ _ _ => N1
  refine assign_tail (cl := []) F1 rfl (by with_unfolding_all rfl) (by with_unfolding_all rfl) rfl (by decide) rfl rfl ?_ (by intro _; with_unfolding_all rfl)
  walk_at "m_go"
  (k_dflt (refine' keys_sub (B := ?B) (F := ?F) (X := ?X) (N := ?N) (T := ?T) (hk := ?hk) (hd := ?hd) (hu := ?hu) (ht := ?ht) (hR := ?hR) (hrs := ?hrs) (sub := ?sub) (hsz := ?hsz) (ret := ?_); (case B => k_asm); (case F => k_asm); (case X => k_asm); (case N => k_asm); (case T => k_asm); (case hk => first | exact rfl | assumption); (case hd => ktr_room); (case hu => ktr_units); (case ht => assumption); (case hR => assumption); (case hrs => assumption); (case sub => walk_at "k_sub"); (case hsz => assumption)))
  intro D9 ys9 h9 tk9 F2 N2 ne9 hys
  (try dsimp only)
  have hyl : ys9.length = deeds.length := by rw [hys.length, List.length_map]
  refine tail_list (its := ys9.toArray) rfl F2 N2 (by rw [List.size_toArray, sizeLine_eq]; omega) (by decide) rfl (fun i ys nw => nw = (D9, lst ys9) :: _ ∧ Paired IntIs ys (deeds.take i)) ⟨rfl, .nil⟩ (fun i ys nw h => .inr ⟨_, h.1 ▸ List.mem_cons_self, rfl, _, rfl⟩) ?_ ?_
  · rintro i v ys nw I oI C oC D m₁ h tk E' hi hv ⟨rfl, hys'⟩ hC F3 N3 off ne hCL hC₀
    (try k_fold)
    obtain ⟨⟨rk, rt⟩, hr, t, rfl⟩ := paired_get hys i v (by simpa using hv)
    rw [List.getElem?_map] at hr
    obtain ⟨d, hd', e⟩ := Option.map_eq_some_iff.mp hr
    injection e with e1 e2
    subst e1 e2
    have hd7 := h7 d (List.mem_of_getElem? hd')
    have hlow := lower_big d hd7
    have hfd : Builtin.Str.tooLong (Txt.lower (big d)).length = false := lower_big d hd7 ▸ small_fit d hd7
    refine comp_assign F3 N3 hC off ne hCL hC₀ rfl rfl ?_
    intro h4 tk4 oC4 F4 N4 hC4
    refine wpAny_tests_nil ?_
    (try dsimp only)
    rw [if_pos rfl]
    walk_at "m_go"
    k_unfold
    (repeat k_unfold)
    refine ⟨_, _, _, _, _, rfl, F4, N4, hC4, off, rfl, ?_⟩
    rw [List.take_add_one, hd']
    exact hys'.snoc ⟨_, rfl⟩
  · rintro ys nw ⟨rfl, hys'⟩
    rw [List.size_toArray, hyl, List.take_length] at hys'
    intro D h tk F3 N3 off
    (try dsimp only)
    have hyl' : ys.length = deeds.length := hys'.length
    have il := ints_ok hys'
    have ia := ints_at hys' hl
    have hjl : deeds.idxOf left < deeds.length := List.idxOf_lt_length_of_mem hl
    obtain ⟨j, hj⟩ : ∃ j, deeds.idxOf left = j := ⟨_, rfl⟩
    rw [hj] at ia hjl ret
    have hDm : (D, lst ys) ∈ ((R, listOf vs.toArray n) :: (289, tabObj ps) :: (D, lst ys) :: rest) := List.mem_cons_of_mem _ (List.mem_cons_of_mem _ List.mem_cons_self)
    have hsubR : ∀ q ∈ rest, q ∈ ((R, listOf vs.toArray n) :: (289, tabObj ps) :: (D, lst ys) :: rest) := fun q hq => List.mem_cons_of_mem _ (List.mem_cons_of_mem _ (List.mem_cons_of_mem _ hq))
    have hDne := off1_ne off
    have hCne : ∀ p ∈ ((R, listOf vs.toArray n) :: (289, tabObj ps) :: (D, lst ys) :: rest), p.1 ≠ L' + 1 := by
      obtain ⟨a1, a2, a3⟩ := l1
      intro p hp
      rcases List.mem_cons.mp hp with rfl | hp
      · exact Nat.ne_of_lt (Nat.lt_succ_of_lt a1)
      · rcases List.mem_cons.mp hp with rfl | hp
        · exact Nat.ne_of_lt (Nat.lt_succ_of_lt a2)
        · rcases List.mem_cons.mp hp with rfl | hp
          · exact fun e => hDne (L' + 1, o') (List.mem_cons_of_mem _ List.mem_cons_self) e.symm
          · exact Nat.ne_of_lt (Nat.lt_succ_of_lt (allLt_mem a3 p hp))
    have N4 : News g' L' h ((L' + 1, o') :: ((R, listOf vs.toArray n) :: (289, tabObj ps) :: (D, lst ys) :: rest)) := by
      intro q hq
      refine N3 q ?_
      walk_at "perm"
    have hDR : (@Ne Nat D R) := fun e => hDne (R, listOf vs.toArray n) (List.mem_cons_of_mem _ (List.mem_cons_of_mem _ List.mem_cons_self)) e.symm
    have hD289 : (@Ne Nat D 289) := fun e => hDne (289, tabObj ps) (List.mem_cons_of_mem _ (List.mem_cons_of_mem _ (List.mem_cons_of_mem _ List.mem_cons_self))) e.symm
    clear N3 N2 N1 N' hDne off
    obtain ⟨NW, hNW⟩ : ∃ NW, NW = ((R, listOf vs.toArray n) :: (289, tabObj ps) :: (D, lst ys) :: rest) := ⟨_, rfl⟩
    rw [← hNW] at hDm hsubR hCne N4
    walk_at "m_go"
    rename Fr _ _ _ _ => F5
    rename News _ _ _ _ => N5
    refine kdn_eval (knd := strKind _ _) F5 N5 (Top.nolimit (by k_asm)) rfl rfl (List.cons_ne_nil _ _) (Nat.le_of_ble_eq_true rfl) ?_
    intro WD h6 oW6 F6 N6 l6 lo6 hd6
    have hWne : ∀ p ∈ ((L' + 1, o') :: NW), p.1 ≠ WD := fun p hp => Nat.ne_of_lt (l6 p hp)
    have hCW : WD ≠ L' + 1 := fun e => hWne _ List.mem_cons_self e.symm
    walk_at "m_go"
    rename_i h7z oW7 hd7 fl7 h71 oC7 hC7 h70 F7 N7
    refine wpAny_For ?_
    walk_at "m_go"
    k_dflt (refine' kmk_slice_lit (zs := ys.drop (j + 1)) F7 N7 (News.isList N7 (List.mem_cons_of_mem _ (List.mem_cons_of_mem _ hDm))) (IsPart.int _ _) IsPart.none ?_ ?_ ?_ ?_ ?_)
    · exact pick_from ys (j + 1)
    · intro SL h8 F8 N8 l8
      have hSne : ∀ p ∈ ((WD, oW7) :: (L' + 1, oC7) :: NW), p.1 ≠ SL := fun p hp => Nat.ne_of_lt (l8 p hp)
      have hWne' : ∀ p ∈ ((L' + 1, oC7) :: NW), p.1 ≠ WD := by
        intro p hp
        rcases List.mem_cons.mp hp with rfl | hp
        · exact fun e => hCW e.symm
        · exact hWne p (List.mem_cons_of_mem _ hp)
      have hSW : SL ≠ WD := fun e => hSne _ List.mem_cons_self e.symm
      (try dsimp only)
      have hys2 : Paired IntIs (ys.drop (j + 1)) (deeds.drop (j + 1)) := Mine.Paired.drop hys' _
      have h72 : ∀ d ∈ deeds.drop (j + 1), d < 7 := fun d hd => h7 d (List.mem_of_mem_drop hd)
      have hnd2 : (deeds.drop (j + 1)).Nodup := hnd.sublist (List.drop_sublist _ _)
      have hmD2 : ∀ d ∈ deeds.drop (j + 1), d ∈ deeds := fun d hd => List.mem_of_mem_drop hd
      have hyl2 : (ys.drop (j + 1)).length ≤ 1000 := by rw [List.length_drop]; omega
      generalize hD2 : deeds.drop (j + 1) = D2 at *
      generalize hy2 : ys.drop (j + 1) = y2 at *
      refine for_listU (items := y2.toArray) ["least", "deed"] rfl F8 N8 (fun i u nw => ∃ oW kvs Dd tl, nw = (SL, listOf y2.toArray 0) :: (WD, oW) :: (L' + 1, oC7) :: NW ∧ oW.IsDictOf (strKind PySem.Challenge.rw_uk0024_01.row.prog w) kvs ∧ FlatPairs PyData.str kvs Dd ∧ Dd.length ≤ i + 1 ∧ u "least" = some (.int (mn (D2.take i) : Nat) tl) ∧
        (∀ jj d, D2[jj]? = some d → jj < i → lookup (.str (small d)) Dd = some (.int (-((mn (D2.take (jj + 1)) : Nat) : Int)))) ∧ lookup (.str (small k)) Dd = some (.int (-(k : Int)))) ?_ ?_ ?_ ?_
      · refine ⟨oW7, _, _, _, rfl, hd7, fl7, Nat.le_refl _, rfl, fun jj d _ h => absurd h (Nat.not_lt_zero _), ?_⟩
        exact lookup_putK_same (D := []) keyEnc_str _ _
      · rintro i u nw ⟨oW, kvs, Dd, tl, rfl, -⟩
        exact .inr ⟨_, List.mem_cons_self, rfl, _, rfl⟩
      · rintro i v u nw h tk I oI E' hv ⟨oW, kvs, Dd, tl, rfl, hdW, flW, hlen, hul, hall, hkk⟩ F9 N9 off9
        (try k_fold)
        obtain ⟨d, hd9, td, rfl⟩ := paired_get hys2 i v (by simpa using hv)
        have hIW : I ≠ WD := fun e => off9 _ (List.mem_cons_of_mem _ List.mem_cons_self) e.symm
        have hd7' : d < 7 := h72 d (List.mem_of_getElem? hd9)
        have hil : i < y2.length := by
          have := (List.getElem?_eq_some_iff.mp (show y2[i]? = some _ by simpa using hv)).1
          exact this
        walk_at "m_go"
        rename_i h10 oW10 F10 N10 hd10 fl10
        have hst := mn_step hd9
        have off10 : ∀ p ∈ ((SL, listOf y2.toArray 0) :: (WD, oW10) :: (L' + 1, oC7) :: NW), p.1 ≠ I := by
          intro p hp
          rcases List.mem_cons.mp hp with rfl | hp
          · exact off9 (SL, listOf y2.toArray 0) List.mem_cons_self
          · rcases List.mem_cons.mp hp with rfl | hp
            · exact off9 (WD, oW) (List.mem_cons_of_mem _ List.mem_cons_self)
            · exact off9 p (List.mem_cons_of_mem _ (List.mem_cons_of_mem _ hp))
        (repeat k_unfold)
        refine ⟨_, _, _, _, rfl, F10, N10, off10, _, frU_wrap (frU_wrap rfl (by decide)) (by decide), oW10, _, _, _, rfl, hd10, fl10, Nat.le_trans (putD_length_le _ _ _) (by omega), congrArg (fun z : Int => some (Value.int z _)) hst, ?_, ?_⟩
        · intro jj d' hjd hjl
          rw [hst]
          by_cases e : jj = i
          · subst e
            rw [hd9] at hjd
            obtain rfl := Option.some.inj hjd
            exact lookup_putK_same keyEnc_str _ _ _
          · have hne : small d' ≠ small d := by
              intro es
              have hd'7 : d' < 7 := h72 d' (List.mem_of_getElem? hjd)
              have := small_inj d' hd'7 d hd7' es
              subst this
              exact e ((List.getElem?_inj (List.getElem?_eq_some_iff.mp hjd).1 hnd2).mp (hjd.trans hd9.symm))
            rw [lookup_putK_other keyEnc_str hne]
            exact hall jj d' hjd (by omega)
        · have hne : small k ≠ small d := by
            intro es
            have := small_inj k hk7 d hd7' es
            subst this
            exact hkd (hmD2 _ (List.mem_of_getElem? hd9))
          rw [lookup_putK_other keyEnc_str hne]
          exact hkk
      · rintro u nw h tk ⟨oW, kvs, Dd, tl, rfl, hdW, flW, hlen, hul, hall, hkk⟩ F9 N9
        (try dsimp only)
        have hsz2 : y2.toArray.size = D2.length := by rw [List.size_toArray]; exact hys2.length
        rw [hsz2] at hul hall
        rw [List.take_length] at hul
        have hSR : (@Ne Nat SL R) := fun e => hSne (R, listOf vs.toArray n) (hNW ▸ List.mem_cons_of_mem _ (List.mem_cons_of_mem _ List.mem_cons_self)) e.symm
        have hS9 : (@Ne Nat SL 289) := fun e => hSne (289, tabObj ps) (hNW ▸ List.mem_cons_of_mem _ (List.mem_cons_of_mem _ (List.mem_cons_of_mem _ List.mem_cons_self))) e.symm
        have hWR : (@Ne Nat WD R) := fun e => hWne' (R, listOf vs.toArray n) (hNW ▸ List.mem_cons_of_mem _ List.mem_cons_self) e.symm
        have hW9 : (@Ne Nat WD 289) := fun e => hWne' (289, tabObj ps) (hNW ▸ List.mem_cons_of_mem _ (List.mem_cons_of_mem _ List.mem_cons_self)) e.symm
        have hCR : (@Ne Nat (L' + 1) R) := fun e => hCne (R, listOf vs.toArray n) (hNW ▸ List.mem_cons_self) e.symm
        have hC9 : (@Ne Nat (L' + 1) 289) := fun e => hCne (289, tabObj ps) (hNW ▸ List.mem_cons_of_mem _ List.mem_cons_self) e.symm
        obtain ⟨rest1, hr1⟩ : ∃ rest1, rest1 = (SL, listOf y2.toArray 0) :: (WD, oW) :: (L' + 1, oC7) :: (D, lst ys) :: rest := ⟨_, rfl⟩
        have s1 : ∀ q ∈ rest, q ∈ rest1 := fun q hq => hr1 ▸ List.mem_cons_of_mem _ (List.mem_cons_of_mem _ (List.mem_cons_of_mem _ (List.mem_cons_of_mem _ hq)))
        have N10 : News g' L' h ((R, listOf vs.toArray n) :: (289, tabObj ps) :: rest1) := by
          intro q hq
          refine N9 q ?_
          rw [hr1] at hq
          rw [hNW]
          walk_at "perm"
        have mD : (D, lst ys) ∈ rest1 := hr1 ▸ List.mem_cons_of_mem _ (List.mem_cons_of_mem _ (List.mem_cons_of_mem _ List.mem_cons_self))
        have H1 : Here w lamQ ps rest1 TI R (L' + 1) WD vs deeds tx Dd j := by
          refine ⟨hTab.mono s1, hRP, ?_, ?_, ⟨oC7, oW, kvs, ?_, hC7, ?_, lo6, hdW, flW⟩, htI.mono s1, Mine.Paired.mono (fun _ _ h => RowIs.mono h s1) hrs', ?_⟩
          · rw [hr1]
            intro q hq
            simp only [List.mem_cons] at hq
            rcases hq with rfl | rfl | rfl | rfl | hq
            · exact hS9
            · exact hW9
            · exact hC9
            · exact hD289
            · exact hP q hq
          · rw [hr1]
            intro q hq
            simp only [List.mem_cons] at hq
            rcases hq with rfl | rfl | rfl | rfl | hq
            · exact hSR
            · exact hWR
            · exact hCR
            · exact hDR
            · exact hR' q hq
          · exact hr1 ▸ List.mem_cons_of_mem _ (List.mem_cons_of_mem _ List.mem_cons_self)
          · exact hr1 ▸ List.mem_cons_of_mem _ List.mem_cons_self
          · intro i v hi hv
            obtain ⟨r, hr, hri⟩ := paired_get hrs' i v hv
            rw [List.getElem?_map] at hr
            obtain ⟨d, hd', e⟩ := Option.map_eq_some_iff.mp hr
            subst e
            have hd7 := h7 d (List.mem_of_getElem? hd')
            have hq2 : D2[i - (j + 1)]? = some d := by rw [← hD2, List.getElem?_drop, show j + 1 + (i - (j + 1)) = i by omega]; exact hd'
            refine ⟨_, hri.mono s1, lower_big d hd7 ▸ small_fit d hd7, ?_⟩
            show lookup (.str (Txt.lower (big d))) Dd = _
            rw [lower_big d hd7, hall _ d hq2 (List.getElem?_eq_some_iff.mp hq2).1]
            unfold wall
            rw [hD2, show i - (j + 1) + 1 = i - j by omega]
        clear N9
        have hj1 : j < deeds.length := hjl
        generalize hle : mn D2 = le at hul
        obtain ⟨um, hum, F10⟩ := Fr.nam F9
        have w1 : um "table" = some (.ref TI) := by rw [hum]; with_unfolding_all rfl
        have w2 : um "rows" = some (.ref R) := by rw [hum]; with_unfolding_all rfl
        have w3 : um "k" = some (.int (k : Int) t2) := by rw [hum]; with_unfolding_all rfl
        have w4 : um "text" = some (.str (tx k) t4) := by rw [hum]; with_unfolding_all rfl
        obtain ⟨tb, w5⟩ : ∃ t, um "behind" = some (.int ((j : Int) + 1) t) := ⟨_, by rw [hum]; with_unfolding_all rfl⟩
        have w6 : um "least" = some (.int (le : Int) tl) := by rw [hum]; exact hul
        have w7 : um "deeds" = some (.ref D) := by rw [hum]; with_unfolding_all rfl
        clear hum hul F9
        refine wpAny_execs_cons ?_
        refine wpAny_mono (Q := fun fl s' => MidT (fl = Flow.next ∧ ∃ h3 tk3 u3 ps3 rest3, s' = { s with heap := h3, toks := tk3 } ∧ Fr g' L' h3 u3 ∧ News g' L' h3 ((R, listOf vs.toArray n) :: (289, tabObj ps3) :: rest3) ∧ Here w lamQ ps3 rest3 TI R (L' + 1) WD vs deeds tx Dd j ∧ (∀ q ∈ rest, q ∈ rest3) ∧ u3 "table" = some (.ref TI) ∧ u3 "rows" = some (.ref R) ∧ u3 "k" = some (.int (k : Int) t2) ∧ u3 "text" = some (.str (tx k) t4) ∧ u3 "behind" = some (.int ((j : Int) + 1) tb))) ?_ (fun fl s' hfl => ?_) (fun _ _ h => h)
        · (try k_fold)
          by_cases h77 : le < 7
          · walk_at "m_go2"
            k_dflt (refine' wallsH1 ?F ?N ?T ?C ?hcd ?hq ?hcl ?H ?_; (case F => k_asm); (case N => k_asm); (case T => k_asm); (case hcd => exact rfl); (case C => exact hd291 (by k_in)); (case hq => exact lamQ_eq); (case hcl => exact lamC_of (by with_unfolding_all rfl)); (case H => assumption))
            intro f1 c1 ctv1 ps1 rest1 hh1 tkk1 FF1 NN1 HH1 KK1 ho1 sub1
            walk_at "m_go2"
            k_dflt (refine' bisL_here ?B ?F ?X ?N ?T ?hk ?hd ?hu ?H ?C ?hf ?hj ?hsz ?_; (case B => k_asm); (case F => k_asm); (case X => k_asm); (case N => k_asm); (case T => k_asm); (case hk => exact rfl); (case hd => ktr_room); (case hu => ktr_units); (case H => assumption); (case C => assumption); (case hf => assumption); (case hj => assumption); (case hsz => assumption))
            intro r1 t1 h1 tk1 F11 N11 a1 a2 a3 a4
            have e1 := first_is hnd (by rw [hD2]; exact hle.symm) h77 a1 a3 a4 a2
            subst e1
            walk_at "m_go2"
            k_dflt (refine' wallsH2 ?F ?N ?T ?C ?hcd ?hq ?hcl ?H ?_; (case F => k_asm); (case N => k_asm); (case T => k_asm); (case hcd => exact rfl); (case C => exact hd291 (by k_in)); (case hq => exact lamQ_eq); (case hcl => exact lamC_of (by with_unfolding_all rfl)); (case H => assumption))
            intro f2 c2 ctv2 ps2 rest2 hh2 tkk2 FF2 NN2 HH2 KK2 ho2 sub2
            walk_at "m_go2"
            k_dflt (refine' bisR_here ?B ?F ?X ?N ?T ?hk ?hd ?hu ?H ?C ?hf ?hj ?hsz ?_; (case B => k_asm); (case F => k_asm); (case X => k_asm); (case N => k_asm); (case T => k_asm); (case hk => exact rfl); (case hd => ktr_room); (case hu => ktr_units); (case H => assumption); (case C => assumption); (case hf => assumption); (case hj => assumption); (case hsz => assumption))
            intro r2 t2' h2' tk2 F12 N12 b1 b2 b3 b4
            have e2 : r2 = vs.length := (last_is (by rw [hD2]; exact hle.symm) b4 b2).trans hdl.symm
            subst e2
            have hlm : le ∈ deeds := by
              have := mn_mem (l := D2) (by omega)
              rw [hle, ← hD2] at this
              exact List.mem_of_mem_drop this
            have ia2 := ints_at hys' hlm
            have mD1 := sub1 _ mD
            have mD2 := sub2 _ mD1
            walk_at "m_go2"
            rename Fr g' L' _ _ => FZ
            rename News _ _ _ _ => NZ
            (repeat k_unfold)
            unfold MidT
            exact ⟨rfl, _, _, _, ps2, rest2, rfl, FZ, News.drop1 (News.drop1 NZ), HH2, fun q hq => sub2 _ (sub1 _ (s1 q hq)), w1, w2, w3, w4, w5⟩
          · walk_at "m_go2"
            rename Fr g' L' _ _ => FZ
            rename News _ _ _ _ => NZ
            (repeat k_unfold)
            unfold MidT
            exact ⟨rfl, _, _, _, ps, rest1, rfl, FZ, NZ, H1, s1, w1, w2, w3, w4, w5⟩
        · unfold MidT at hfl
          obtain ⟨rfl, h3, tk3, u3, ps0, rest0, rfl, F10, N11, H11, s11, w1, w2, w3, w4, w5⟩ := hfl
          clear N10 H1
          (try dsimp only)
          walk_at "m_go2"
          k_dflt (refine' wallsH3 ?F ?N ?T ?C ?hcd ?hq ?hcl ?H ?_; (case F => k_asm); (case N => k_asm); (case T => k_asm); (case hcd => exact rfl); (case C => exact hd291 (by k_in)); (case hq => exact lamQ_eq); (case hcl => exact lamC_of (by with_unfolding_all rfl)); (case H => assumption))
          intro f3 c3 ctv3 ps3 rest3 hh3 tkk3 FF3 NN3 HH3 KK3 ho3 sub3
          have s3 : ∀ q ∈ rest, q ∈ rest3 := fun q hq => sub3 _ (s11 q hq)
          walk_at "m_go2"
          k_dflt (refine' bisL_here ?B ?F ?X ?N ?T ?hk ?hd ?hu ?H ?C ?hf ?hj ?hsz ?_; (case B => k_asm); (case F => k_asm); (case X => k_asm); (case N => k_asm); (case T => k_asm); (case hk => exact rfl); (case hd => ktr_room); (case hu => ktr_units); (case H => assumption); (case C => assumption); (case hf => assumption); (case hj => assumption); (case hsz => assumption))
          intro r3 t3' h3' tk3 F13 N13 p1 p2 p3 p4
          walk_at "m_go2"
          rename News _ _ _ _ => NT
          rename News g' L' _ ((R, listOf vs.toArray n) :: _) => NP
          obtain ⟨NT2, HT⟩ := tup_here HH3 NP NT rfl
          clear NT
          obtain ⟨TT, hTT⟩ := News.third NT2
          rw [← hTT] at NT2 HT ⊢
          clear hTT
          k_dflt (refine' wallsH4 ?F ?N ?T ?C ?hcd ?hq ?hcl ?H ?_; (case F => k_asm); (case N => k_asm); (case T => k_asm); (case hcd => exact rfl); (case C => exact hd291 (by k_in)); (case hq => exact lamQ_eq); (case hcl => exact lamC_of (by with_unfolding_all rfl)); (case H => assumption))
          intro f4 c4 ctv4 ps4 rest4 hh4 tkk4 FF4 NN4 HH4 KK4 ho4 sub4
          have mT := sub4 _ List.mem_cons_self
          walk_at "m_go2"
          have hxv := tup_wall (D := Dd) hk7 hkk mT
          k_dflt (refine' insort_here ?B ?F ?X ?N ?T ?hk ?hd ?hu ?H ?C ?hf ?hj ?hsz ?hxv ?_; (case B => k_asm); (case F => k_asm); (case X => k_asm); (case N => k_asm); (case T => k_asm); (case hk => exact rfl); (case hd => ktr_room); (case hu => ktr_units); (case H => assumption); (case C => assumption); (case hf => assumption); (case hj => assumption); (case hsz => assumption); (case hxv => assumption))
          intro r4 h4' tk4 F14 N14 i1 i2 i3 i4
          have e3 := place_is hkd hk7 p1 i1 p3 p4 p2 i3 i4 i2
          subst e3
          have g2 : ((r3 : Nat) : Int) < 2 ^ 63 := by omega
          have g3 : r3 ≤ vs.length := by omega
          have hs5 : ∀ q ∈ rest4, q ∈ ((R, listOf (vs.take r3 ++ .ref TT :: vs.drop r3).toArray (n + 1)) :: (289, tabObj ps4) :: rest4) := fun q hq => List.mem_cons_of_mem _ (List.mem_cons_of_mem _ hq)
          have ht5 := HH4.table.mono hs5
          have hrs4 := paired_ins mT HH4.rows (show r3 ≤ deeds.length by omega)
          have hrs5 := Mine.Paired.mono (fun _ _ h => RowIs.mono h hs5) hrs4
          have hR5 : (R, listOf (vs.take r3 ++ .ref TT :: vs.drop r3).toArray (n + 1)) ∈ ((R, listOf (vs.take r3 ++ .ref TT :: vs.drop r3).toArray (n + 1)) :: (289, tabObj ps4) :: rest4) := List.mem_cons_self
          have h75 : ∀ d ∈ deeds.take r3 ++ k :: deeds.drop r3, d < 7 := by
            intro d hd
            rcases List.mem_append.mp hd with hd | hd
            · exact h7 d (List.mem_of_mem_take hd)
            · rcases List.mem_cons.mp hd with rfl | hd
              · exact hk7
              · exact h7 d (List.mem_of_mem_drop hd)
          have hrf5 : ∀ r ∈ (deeds.take r3 ++ k :: deeds.drop r3).map (row tx), Builtin.Str.tooLong (Txt.lower r.1).length = false := by
            intro r hr
            obtain ⟨d, hd, rfl⟩ := List.mem_map.mp hr
            exact lower_big d (h75 d hd) ▸ small_fit d (h75 d hd)
          have hf5 : findRow ((deeds.take r3 ++ k :: deeds.drop r3).map (row tx)) (Txt.lower (odd k)) = some (row tx k) := by
            rw [lower_odd k hk7, find_row hk7 h75, if_pos (by simp)]
          obtain ⟨TD5, tt5, nn5, hq1, hq2⟩ := ht5.ex
          iterate 17 (first | walk1 | (dsimp only; walk1))
          rename News _ _ _ _ => N15
          k_dflt (refine' item_list ?zl ?za ?zb ?zc ?_; (case zl => exact News.isList N15 List.mem_cons_self); (case za => exact Int.natCast_nonneg _); (case zb => exact g2); (case zc => exact at_place g3 _))
          iterate 7 (first | walk1 | (dsimp only; walk1))
          simp only [bne_self_eq_false, decide_false]
          walk_at "m_go3"
          k_dflt (refine' get_hit (r := row tx k) ?gB ?gF ?gX ?gN ?gT ?gk ?gd ?gu ht5 hR5 hrs5 ?gs hx hlx hfit hrf5 hf5 ?_; (case gB => k_asm); (case gF => k_asm); (case gX => k_asm); (case gN => k_asm); (case gT => k_asm); (case gk => exact rfl); (case gd => ktr_room); (case gu => ktr_units); (case gs => walk_at "k_sub"))
          intro tG hG tkG FG9 NG9
          (try dsimp only)
          walk_at "m_go2"
          rename News h₀ L _ ((R, listOf (vs.take r3 ++ _ :: vs.drop r3).toArray (n + 1)) :: _) => NF
          exact ret r3 _ _ _ _ _ _ _ (by k_asm) NF HH4.table hrs4 HH4.tab HH4.p HH4.r (fun q hq => sub4 _ (List.mem_cons_of_mem _ (s3 q hq))) i1 i2 (place_lt hkd hk7 i3) (place_ge hkd hk7 i1 i3 i4)
    · with_unfolding_all rfl
    · intro _; with_unfolding_all rfl
    · rw [List.size_toArray, sizeLine_eq]; omega
end
end Mine
end
section
namespace Mine
set_option maxHeartbeats 4000000
/-- way p stands before way q: item by item, the greater number first, the shorter one first -/
def lx : List Nat → List Nat → Bool
  | [], [] => false
  | [], _ :: _ => true
  | _ :: _, [] => false
  | a :: r, b :: t => if a = b then lx r t else decide (b < a)
theorem lx_cons_same (a : Nat) (p q : List Nat) : lx (a :: p) (a :: q) = lx p q := by simp [lx]
theorem lx_app (u : List Nat) (p q : List Nat) : lx (u ++ p) (u ++ q) = lx p q := by
  induction u with
  | nil => rfl
  | cons a u ih => rw [List.cons_append, List.cons_append, lx_cons_same, ih]
theorem lx_irrefl (p : List Nat) : lx p p = false := by
  induction p with
  | nil => rfl
  | cons a p ih => rw [lx_cons_same, ih]
theorem lx_pre (p : List Nat) (c : Nat) (t : List Nat) : lx p (p ++ c :: t) = true := by
  have := lx_app p [] (c :: t)
  rw [List.append_nil] at this
  rw [this]; rfl
theorem lx_part (u : List Nat) {a b : Nat} (r t : List Nat) (h : a < b) : lx (u ++ b :: r) (u ++ a :: t) = true := by
  rw [lx_app]
  simp only [lx]
  rw [if_neg (by omega)]
  simp [h]
theorem lx_cases : ∀ {p q : List Nat}, lx p q = true → (∃ c t, q = p ++ c :: t) ∨ (∃ u a b r t, p = u ++ b :: r ∧ q = u ++ a :: t ∧ a < b)
  | [], [], h => by cases h
  | [], b :: t, h => .inl ⟨b, t, rfl⟩
  | _ :: _, [], h => by cases h
  | a :: r, b :: t, h => by
    by_cases e : a = b
    · subst e
      rw [lx_cons_same] at h
      rcases lx_cases h with ⟨c, t', rfl⟩ | ⟨u, a', b', r', t', rfl, rfl, h'⟩
      · exact .inl ⟨c, t', rfl⟩
      · exact .inr ⟨a :: u, a', b', r', t', rfl, rfl, h'⟩
    · simp only [lx, if_neg e, decide_eq_true_eq] at h
      exact .inr ⟨[], b, a, r, t, rfl, rfl, h⟩
theorem lx_total : ∀ {p q : List Nat}, lx p q = false → lx q p = false → p = q
  | [], [], _, _ => rfl
  | [], _ :: _, h, _ => by cases h
  | _ :: _, [], _, h => by cases h
  | a :: r, b :: t, h1, h2 => by
    by_cases e : a = b
    · subst e
      rw [lx_cons_same] at h1 h2
      rw [lx_total h1 h2]
    · simp only [lx, if_neg e, if_neg (Ne.symm e), decide_eq_false_iff_not] at h1 h2
      omega
theorem lx_trans : ∀ {p q r : List Nat}, lx p q = true → lx q r = true → lx p r = true
  | [], [], _, h, _ => by cases h
  | [], _ :: _, [], _, h => by cases h
  | [], _ :: _, _ :: _, _, _ => rfl
  | _ :: _, [], _, h, _ => by cases h
  | _ :: _, _ :: _, [], _, h => by cases h
  | a :: p, b :: q, c :: r, h1, h2 => by
    by_cases e : a = b
    · subst e
      rw [lx_cons_same] at h1
      by_cases e2 : a = c
      · subst e2
        rw [lx_cons_same] at h2 ⊢
        exact lx_trans h1 h2
      · simp only [lx, if_neg e2, decide_eq_true_eq] at h2 ⊢
        exact h2
    · simp only [lx, if_neg e, decide_eq_true_eq] at h1
      by_cases e2 : b = c
      · subst e2
        simp only [lx, if_neg e, decide_eq_true_eq]
        exact h1
      · simp only [lx, if_neg e2, decide_eq_true_eq] at h2
        simp only [lx, if_neg (show ¬ a = c by omega), decide_eq_true_eq]
        omega
/-- the ways of a text of deeds: that of the forerunner and the deed's number behind it -/
structure Ways (lf : Nat → Nat) (P : Nat → List Nat) : Prop where
  root : P 0 = []
  less : ∀ k, 1 ≤ k → k < 7 → lf k < k
  step : ∀ k, 1 ≤ k → k < 7 → P k = P (lf k) ++ [k]
/-- with each deed its forerunner is there -/
def LeftClosed (lf : Nat → Nat) (S : Nat → Prop) : Prop := ∀ d, S d → 1 ≤ d → S (lf d)
section
variable {lf : Nat → Nat} {P : Nat → List Nat}
theorem Ways.up (W : Ways lf P) {S : Nat → Prop} (hS : LeftClosed lf S) : ∀ (x : Nat), x < 7 → ∀ {u : List Nat} {a : Nat} {t : List Nat}, P x = u ++ a :: t → S x → P a = u ++ [a] ∧ a ≤ x ∧ 1 ≤ a ∧ S a
  | 0, _, u, a, t, h, _ => by rw [W.root] at h; simp at h
  | x + 1, h7, u, a, t, h, hx => by
    have hl := W.less (x + 1) (by omega) h7
    have hs := W.step (x + 1) (by omega) h7
    rcases List.eq_nil_or_concat t with rfl | ⟨t', z, rfl⟩
    · have e : P (lf (x + 1)) ++ [x + 1] = u ++ [a] := hs.symm.trans h
      obtain ⟨e1, e2⟩ := List.append_inj' e rfl
      injection e2 with e2
      subst e2
      exact ⟨h, Nat.le_refl _, by omega, hx⟩
    · have e : P (lf (x + 1)) ++ [x + 1] = (u ++ a :: t') ++ [z] := by rw [← hs, h]; simp
      obtain ⟨e1, e2⟩ := List.append_inj' e rfl
      obtain ⟨q1, q2, q3, q4⟩ := Ways.up W hS (lf (x + 1)) (by omega) e1 (hS _ hx (by omega))
      exact ⟨q1, by omega, q3, q4⟩
theorem Ways.inj (W : Ways lf P) {a b : Nat} (ha : a < 7) (hb : b < 7) (h : P a = P b) : a = b := by
  by_cases h1 : a = 0
  · subst h1
    by_cases h2 : b = 0
    · exact h2.symm
    · rw [W.root, W.step b (by omega) hb] at h
      simp at h
  · by_cases h2 : b = 0
    · subst h2
      rw [W.root, W.step a (by omega) ha] at h
      simp at h
    · rw [W.step a (by omega) ha, W.step b (by omega) hb] at h
      obtain ⟨-, e2⟩ := List.append_inj' h rfl
      injection e2
abbrev before (P : Nat → List Nat) (a b : Nat) : Prop := lx (P a) (P b) = true
/-- who stands behind the forerunner and not before the newcomer: a lesser one leads there -/
theorem Ways.walls (W : Ways lf P) {S : Nat → Prop} (hS : LeftClosed lf S) (h7 : ∀ d, S d → d < 7) {k d : Nat} (hk1 : 1 ≤ k) (hk7 : k < 7) (hkS : ¬ S k) (hl : S (lf k)) (hd : S d) (hld : before P (lf k) d) (hn : ¬ before P d k) :
    ∃ x, S x ∧ x < k ∧ before P (lf k) x ∧ (x = d ∨ before P x d) := by
  have hd7 := h7 d hd
  have hs := W.step k hk1 hk7
  have hlk := W.less k hk1 hk7
  rcases lx_cases hld with ⟨c, t, e⟩ | ⟨u, a, b, r, t, e1, e2, hab⟩
  · obtain ⟨q1, q2, q3, q4⟩ := W.up hS d hd7 e hd
    have hck : c < k := by
      rcases Nat.lt_trichotomy c k with h | h | h
      · exact h
      · exact absurd (h ▸ q4) hkS
      · exact absurd (by unfold before; rw [e, hs]; exact lx_part _ _ _ h) hn
    refine ⟨c, q4, hck, by unfold before; rw [q1]; exact lx_pre _ _ _, ?_⟩
    cases t with
    | nil => exact .inl (W.inj (by omega) hd7 (q1.trans e.symm))
    | cons z t => refine .inr ?_; unfold before; rw [q1, e, show P (lf k) ++ c :: z :: t = (P (lf k) ++ [c]) ++ z :: t by simp]; exact lx_pre _ _ _
  · obtain ⟨q1, q2, q3, q4⟩ := W.up hS d hd7 e2 hd
    obtain ⟨p1, p2, p3, p4⟩ := W.up hS (lf k) (by omega) e1 hl
    refine ⟨a, q4, by omega, by unfold before; rw [q1, e1]; exact lx_part _ _ _ hab, ?_⟩
    cases t with
    | nil => exact .inl (W.inj (by omega) hd7 (q1.trans e2.symm))
    | cons z t => refine .inr ?_; unfold before; rw [q1, e2, show u ++ a :: z :: t = (u ++ [a]) ++ z :: t by simp]; exact lx_pre _ _ _
theorem Ways.behind (W : Ways lf P) {S : Nat → Prop} (hS : LeftClosed lf S) (h7 : ∀ d, S d → d < 7) {k d : Nat} (hk1 : 1 ≤ k) (hk7 : k < 7) (hd : S d) (hld : before P (lf k) d) (hdk : d < k) : before P k d := by
  have hs := W.step k hk1 hk7
  rcases lx_cases hld with ⟨c, t, e⟩ | ⟨u, a, b, r, t, e1, e2, hab⟩
  · obtain ⟨q1, q2, q3, q4⟩ := W.up hS d (h7 d hd) e hd
    unfold before; rw [e, hs]; exact lx_part _ _ _ (by omega)
  · unfold before
    rw [hs, e1, e2, List.append_assoc]
    exact lx_part _ _ _ hab
theorem at_lt {deeds : List Nat} (hp : deeds.Pairwise (before P)) {i i' d d' : Nat} (h1 : deeds[i]? = some d) (h2 : deeds[i']? = some d') (h : i < i') : before P d d' := by
  obtain ⟨l1, e1⟩ := List.getElem?_eq_some_iff.mp h1
  obtain ⟨l2, e2⟩ := List.getElem?_eq_some_iff.mp h2
  have := (List.pairwise_iff_getElem.mp hp) i i' l1 l2 h
  rw [e1, e2] at this
  exact this
theorem before_asymm {a b : Nat} (h : before P a b) : ¬ before P b a := fun h' => by
  have := lx_trans h h'
  rw [lx_irrefl] at this
  cases this
theorem at_of {deeds : List Nat} (hp : deeds.Pairwise (before P)) {i i' d d' : Nat} (h1 : deeds[i]? = some d) (h2 : deeds[i']? = some d') (h : before P d d') : i < i' := by
  rcases Nat.lt_trichotomy i i' with e | e | e
  · exact e
  · subst e
    rw [h1] at h2
    obtain rfl := Option.some.inj h2
    unfold before at h
    rw [lx_irrefl] at h
    cases h
  · exact absurd (at_lt hp h2 h1 e) (before_asymm h)
/-- the place that the bisections find keeps the order of the ways -/
theorem Ways.insert (W : Ways lf P) {deeds : List Nat} (hp : deeds.Pairwise (before P)) (hS : LeftClosed lf (· ∈ deeds)) (h7 : ∀ d ∈ deeds, d < 7) {k j r : Nat} (hk1 : 1 ≤ k) (hk7 : k < 7) (hkS : k ∉ deeds)
    (hj : deeds[j]? = some (lf k)) (h1 : j + 1 ≤ r) (h2 : r ≤ deeds.length) (h3 : ∀ i d, j + 1 ≤ i → i < r → deeds[i]? = some d → k < d) (h4 : ∀ d, deeds[r]? = some d → d < k) :
    (deeds.take r ++ k :: deeds.drop r).Pairwise (before P) := by
  have hl : lf k ∈ deeds := List.mem_of_getElem? hj
  have hlk : before P (lf k) k := by unfold before; rw [W.step k hk1 hk7]; exact lx_pre _ _ _
  have front : ∀ d ∈ deeds.take r, before P d k := by
    intro d hd
    obtain ⟨i, hi⟩ := List.getElem?_of_mem hd
    have hir : i < r := by
      have := (List.getElem?_eq_some_iff.mp hi).1
      rw [List.length_take] at this
      omega
    rw [List.getElem?_take_of_lt hir] at hi
    rcases Nat.lt_trichotomy i j with e | e | e
    · exact lx_trans (at_lt hp hi hj e) hlk
    · subst e
      rw [hi] at hj
      obtain rfl := Option.some.inj hj
      exact hlk
    · have hld := at_lt hp hj hi e
      by_cases hn : before P d k
      · exact hn
      · obtain ⟨x, x1, x2, x3, x4⟩ := W.walls hS h7 hk1 hk7 hkS hl (List.mem_of_getElem? hi) hld hn
        obtain ⟨i', hi'⟩ := List.getElem?_of_mem x1
        have a1 := at_of hp hj hi' x3
        have a2 : i' ≤ i := by
          rcases x4 with rfl | x4
          · by_cases c : i' ≤ i
            · exact c
            · exact absurd (at_lt hp hi hi' (by omega)) (by unfold before; rw [lx_irrefl]; simp)
          · exact Nat.le_of_lt (at_of hp hi' hi x4)
        have := h3 i' x (by omega) (by omega) hi'
        omega
  have back : ∀ d ∈ deeds.drop r, before P k d := by
    intro d hd
    obtain ⟨i, hi⟩ := List.getElem?_of_mem hd
    rw [List.getElem?_drop] at hi
    have hil := (List.getElem?_eq_some_iff.mp hi).1
    have hr : deeds[r]? = some deeds[r] := List.getElem?_eq_getElem (by omega)
    have he := W.behind hS h7 hk1 hk7 (List.mem_of_getElem? hr) (at_lt hp hj hr (by omega)) (h4 _ hr)
    cases i with
    | zero =>
      rw [Nat.add_zero, hr] at hi
      obtain rfl := Option.some.inj hi
      exact he
    | succ i => exact lx_trans he (at_lt hp hr hi (by omega))
  rw [List.pairwise_append]
  refine ⟨hp.sublist (List.take_sublist _ _), List.pairwise_cons.mpr ⟨back, hp.sublist (List.drop_sublist _ _)⟩, ?_⟩
  intro a ha b hb
  rcases List.mem_cons.mp hb with rfl | hb
  · exact front a ha
  · exact lx_trans (front a ha) (back b hb)
theorem sorted_unique : ∀ {l l' : List Nat}, l.Pairwise (before P) → l'.Pairwise (before P) → (∀ d, d ∈ l ↔ d ∈ l') → l = l'
  | [], [], _, _, _ => rfl
  | [], b :: _, _, _, h => absurd ((h b).mpr List.mem_cons_self) (by simp)
  | a :: _, [], _, _, h => absurd ((h a).mp List.mem_cons_self) (by simp)
  | a :: l, b :: l', h1, h2, h => by
    obtain ⟨a1, a2⟩ := List.pairwise_cons.mp h1
    obtain ⟨b1, b2⟩ := List.pairwise_cons.mp h2
    have e : a = b := by
      rcases List.mem_cons.mp ((h a).mp List.mem_cons_self) with e | e
      · exact e
      · rcases List.mem_cons.mp ((h b).mpr List.mem_cons_self) with e' | e'
        · exact e'.symm
        · exact absurd (a1 b e') (before_asymm (b1 a e))
    subst e
    have ni : ∀ {m : List Nat}, (∀ d ∈ m, before P a d) → a ∉ m := fun q hm => by
      have := q a hm
      unfold before at this
      rw [lx_irrefl] at this
      cases this
    rw [sorted_unique a2 b2 fun d => ?_]
    constructor
    · intro hd
      rcases List.mem_cons.mp ((h d).mp (List.mem_cons_of_mem _ hd)) with rfl | e
      · exact absurd hd (ni a1)
      · exact e
    · intro hd
      rcases List.mem_cons.mp ((h d).mpr (List.mem_cons_of_mem _ hd)) with rfl | e
      · exact absurd hd (ni b1)
      · exact e
/-- behind the insertion: again the order, cut to who is there -/
theorem Ways.turn (W : Ways lf P) {order S : List Nat} (ho : order.Pairwise (before P)) (hm : ∀ d, d ∈ order ↔ d < 7) (hS : LeftClosed lf (· ∈ S)) (hS7 : ∀ d ∈ S, d < 7) {k r : Nat} (hk1 : 1 ≤ k) (hk7 : k < 7) (hkS : k ∉ S) (hl : lf k ∈ S)
    (h1 : (order.filter (S.contains ·)).idxOf (lf k) + 1 ≤ r) (h2 : r ≤ (order.filter (S.contains ·)).length) (h3 : ∀ i d, (order.filter (S.contains ·)).idxOf (lf k) + 1 ≤ i → i < r → (order.filter (S.contains ·))[i]? = some d → k < d) (h4 : ∀ d, (order.filter (S.contains ·))[r]? = some d → d < k) :
    (order.filter (S.contains ·)).take r ++ k :: (order.filter (S.contains ·)).drop r = order.filter ((S ++ [k]).contains ·) := by
  have hmem : ∀ d, d ∈ order.filter (S.contains ·) ↔ d ∈ S := fun d => by
    rw [List.mem_filter, hm]
    simp only [List.contains_iff_mem]
    exact ⟨fun h => h.2, fun h => ⟨hS7 d h, h⟩⟩
  refine sorted_unique (W.insert (ho.filter _) (fun d hd h => (hmem _).mpr (hS d ((hmem d).mp hd) h)) (fun d hd => hS7 d ((hmem d).mp hd)) hk1 hk7 (fun h => hkS ((hmem k).mp h)) ?_ h1 h2 h3 h4) (ho.filter _) ?_
  · have hi := List.idxOf_lt_length_of_mem ((hmem _).mpr hl)
    rw [List.getElem?_eq_getElem hi]
    simp
  · intro d
    have t : d ∈ (order.filter (S.contains ·)).take r ∨ d ∈ (order.filter (S.contains ·)).drop r ↔ d ∈ S := by
      rw [← List.mem_append, List.take_append_drop, hmem]
    rw [List.mem_append, List.mem_cons, List.mem_filter, hm]
    simp only [List.contains_iff_mem, List.mem_append, List.mem_singleton]
    constructor
    · rintro (h | h | h)
      · exact ⟨hS7 d (t.mp (.inl h)), .inl (t.mp (.inl h))⟩
      · exact ⟨h ▸ hk7, .inr h⟩
      · exact ⟨hS7 d (t.mp (.inr h)), .inl (t.mp (.inr h))⟩
    · rintro ⟨-, h | h⟩
      · rcases t.mpr h with h | h
        · exact .inl h
        · exact .inr (.inr h)
      · exact .inr (.inl h)
end
end Mine
end
section
open PySem PySem.W PyProof.Rows PyProof.V PySem.Spec
namespace Mine
set_option maxHeartbeats 4000000
open PyProof.Rows.LCg (SrcAt NsObj Off3 Off1 lst FinE)
section
variable {w : World} {p : Program} {loose : List PySem.Str} {mean : ExcName → Option Value} {mg mb : PySem.Str → Option Value}
   {dp un : Nat} {gd : Option (List Code)} {cn : PySem.Str} {cs : PySem.Scope} {a : Addr} {ccd : Value} {cl : List (PySem.Str × Addr)} {outer : List Env} {A₀ : Around} {base h₀ : Heap} {L : Addr} {m : PySem.Str → Option Value} {news : List (Addr × Obj)} {s : Shared} {Q E : Value → Shared → Prop}

theorem handW_spec (B : Below A₀ base outer h₀) (F : Fr h₀ L s.heap m) (X : (Mine.hd.heap_1 w.params).In h₀) (N : News h₀ L s.heap news) (T : Top p loose mean mg mb h₀) (hk : cs.kind = .function) (hd : dp + 30 < recursionLimit) (hu : un + 300 < cLine) {way : Nat} (hw : way < 5) {x : PySem.Str} {t1 t2 : Tok} (ok : OkL (tbl way) x)
    (ret : ∀ t h' tk', Fr h₀ L h' m → News h₀ L h' news → Q (.str (escL (tbl way) x) t) { s with heap := h', toks := tk' }) :
    wpAny (model PySem.Challenge.rw_uk0024_01.row.prog w) (ktrTop dp un gd cn cs L a ccd cl outer) (call (.ref 265) [.int (way : Int) t1, .str x t2]) Q E s := by
  have hc : way = 0 ∨ way = 1 ∨ way = 2 ∨ way = 3 ∨ way = 4 := by omega
  rcases hc with rfl | rfl | rfl | rfl | rfl
  · exact hand0_spec B F X N T hk hd hu ok ret
  · exact hand1_spec B F X N T hk hd hu ok ret
  · exact hand2_spec B F X N T hk hd hu ok ret
  · exact hand3_spec B F X N T hk hd hu ok ret
  · exact hand4_spec B F X N T hk hd hu ok ret
def StrIs (v : Value) (x : PySem.Str) : Prop := ∃ t, v = .str x t
/-- a sign's reference, spelled as deep as a way is long -/
def spell (times : Nat) (r : PySem.Str) : PySem.Str := "&" ++ Txt.mul "amp;" (times : Int) ++ Txt.slice r (some 1) none
theorem strs_of : ∀ {ys : List Value} {xs : List PySem.Str}, Paired StrIs ys xs → StrsAre ys xs
  | _, _, .nil => .nil
  | _, _, .cons ⟨t, e⟩ tl => e ▸ .cons _ t (strs_of tl)
set_option maxRecDepth 100000 in
set_option maxHeartbeats 8000000 in
theorem spelled_spec (B : Below A₀ base outer h₀) (F : Fr h₀ L s.heap m) (X : (Mine.hd.heap_1 w.params).In h₀) (N : News h₀ L s.heap news) (T : Top p loose mean mg mb h₀) (hk : cs.kind = .function) (hd : dp + 30 < recursionLimit) (hu : un + 300 < cLine)
    {way times : Nat} {RD : Addr} {oD : Obj} {z : PySem.Str} {t1 t2 : Tok} (hRD : (RD, oD) ∈ news) (hlo : (RD == sysModules) = false) (hrf : RefsAt w oD way) (hz : z.cps.all (· < 128) = true) (hz1 : z.cps.size ≤ 1) (hti : times ≤ 10) {r : PySem.Str} (hr : z.cps.size = 1 → lookup (.str z) (refD way) = some (.str r)) (hrl : r.length ≤ 10) (hsl : (spell times r).length ≤ 1000)
    (ret : ∀ t h' tk', Fr h₀ L h' m → News h₀ L h' news → Q (.str (Txt.join "" (List.replicate z.cps.size (spell times r))) t) { s with heap := h', toks := tk' }) :
    wpAny (model PySem.Challenge.rw_uk0024_01.row.prog w) (ktrTop dp un gd cn cs L a ccd cl outer) (call (.ref 275) [.str z t1, .ref RD, .int (times : Int) t2]) Q E s := by
  k_with_none
  (k_with "ce1" => (refine' code_def ?k1Q9 ?k2Q9 ?k3Q9 ?k4Q9 ?k5Q9 ?kAQ9 ?kFQ9 ?kKQ9 ?k6Q9 ?k7Q9 ?k8Q9 ?k9Q9 ?kBQ9 ?_ ?c2Q9 ?c3Q9 ?c4Q9 ?c5Q9; (case kAQ9 => exact rfl); (case kFQ9 => exact rfl); (case kKQ9 => first | assumption | exact rfl); (case k1Q9 => k_asm); (case k2Q9 => k_asm); (case k3Q9 => k_asm); (case k4Q9 => k_asm); (case k5Q9 => k_asm); (case k6Q9 => k_is); (case k7Q9 => k_is); (case k8Q9 => ktr_room); (case k9Q9 => first | exact BindsTo.of_eq rfl | exact binds_K (by k_in) rfl (by k_is) rfl rfl rfl); (case c5Q9 => decide); (case kBQ9 => exact locs rfl); (case c2Q9 => exact rfl); (case c3Q9 => exact rfl); (case c4Q9 => exact rfl); k_whole))
  (k_with "ce2" => (refine' code_defC ?k1Q9 ?k2Q9 ?k3Q9 ?k4Q9 ?k5Q9 ?kAQ9 ?kFQ9 ?kKQ9 ?k6Q9 ?k7Q9 ?k8Q9 ?k9Q9 ?kBQ9 ?kDQ9 ?_ ?c2Q9 ?c3Q9 ?c4Q9; (case kAQ9 => exact rfl); (case kFQ9 => exact rfl); (case kKQ9 => first | assumption | exact rfl); (case k1Q9 => k_asm); (case k2Q9 => k_asm); (case k3Q9 => k_asm); (case k4Q9 => k_asm); (case k5Q9 => k_asm); (case k6Q9 => k_is); (case k7Q9 => k_is); (case k8Q9 => ktr_room); (case k9Q9 => first | exact BindsTo.of_eq rfl | exact binds_K (by k_in) rfl (by k_is) rfl rfl rfl); (case kBQ9 => exact rfl); (case kDQ9 => decide +kernel); (case c2Q9 => exact rfl); (case c3Q9 => exact rfl); (case c4Q9 => exact rfl); k_whole))
  (k_with "ktr_units" => ((have hcL9 := cLine_is; (simp only [Mine.units_make, PyProof.Rows.units_in1, PyProof.Rows.units_deeper, PySem.Around.mark_units, PyProof.Rows.units_caller, ktrTop] at *); omega)))
  (k_with "ktr_units" => ((simp only [Mine.units_make, PyProof.Rows.units_in1, PyProof.Rows.units_deeper, PySem.Around.mark_units, PyProof.Rows.units_caller]; first | exact Mine.fit2 (by with_reducible assumption) (by decide) | exact Mine.fit3 (by with_reducible assumption) (by decide) | fail "no")))
  (k_with "ktr_units" => (first | exact Mine.fit2 (d := (PySem.W.ktrTop _ _ _ _ _ _ _ _ _ _).units) (by assumption) (by decide) | exact Mine.fit3 (d := (PySem.W.ktrTop _ _ _ _ _ _ _ _ _ _).units) (by assumption) (by decide) | exact Mine.fit1 (d := (PySem.W.ktrTop _ _ _ _ _ _ _ _ _ _).units) (by assumption) (by decide) | fail "no"))
  (k_with "ktr_room" => (first | exact Mine.fit0 (d := (PySem.W.ktrTop _ _ _ _ _ _ _ _ _ _).depth) (by assumption) | exact Mine.fit2 (d := (PySem.W.ktrTop _ _ _ _ _ _ _ _ _ _).depth) (by assumption) (by decide) | exact Mine.fit3 (d := (PySem.W.ktrTop _ _ _ _ _ _ _ _ _ _).depth) (by assumption) (by decide) | exact Mine.fit1 (d := (PySem.W.ktrTop _ _ _ _ _ _ _ _ _ _).depth) (by assumption) (by decide) | fail "no"))
  (k_with "omega" => (first | (lia) | fail "no"))
  (k_with "omega" => (with_reducible first | exact Int.natCast_nonneg _ | exact Mine.le_cl (by decide) | exact Mine.lt_cl (by decide) | fail "no"))
  (k_with "simp" => (with_reducible first | exact List.mem_cons_self | (refine List.mem_cons_of_mem _ ?_; simp; done) | fail "no"))
  (k_with "simph" => (with_reducible first | assumption | exact List.mem_cons_of_mem _ (by assumption) | exact Or.inl (by assumption) | exact List.mem_append_left _ (by assumption) | exact List.mem_append_right _ (by assumption) | (refine List.mem_cons_of_mem _ ?_; k_extra "simph"; done) | (refine Or.inr ?_; k_extra "simph"; done) | fail "no"))
  (k_with "perm" => ((refine (?_ : ∀ q ∈ _, q ∈ _) _ (by assumption); (repeat (with_reducible refine List.forall_mem_cons.mpr ⟨by first | exact List.mem_cons_self | (refine List.mem_cons_of_mem _ ?_; simp; done), ?_⟩)); with_reducible (intro q hq; repeat (first | exact hq | refine List.mem_cons_of_mem _ ?_)))))
  (k_with "m_fru" => (first | (with_reducible refine frU_wrap ?_ (by decide); walk_at "m_fru") | exact rfl))
  (k_with "call builtin:len" => (((with_reducible show wpAny _ _ (call (Value.builtin "len") [Value.ref _]) _ _ _); k_dflt (refine' len_list ?lQ9 ?fQ9 ?_; (case lQ9 => exact News.isList (by k_asm) (by k_mem)); (case fQ9 => (simp only [List.size_toArray]; omega))); (try simp only [List.size_toArray]))))
  (k_with "m_go" => (repeat (
    (fail_if_success (with_reducible show wpAny _ _ (exec (PySem.Stmt.While _ _ _ _) _) _ _ _));
    (fail_if_success (with_reducible show wpAny _ _ (exec (PySem.Stmt.For _ _ _ _ _) _) _ _ _));
    (fail_if_success (with_reducible show wpAny _ _ (exec (PySem.Stmt.Assign _ (PySem.Expr.ListComp _ _ _ _) _) _) _ _ _));
    (fail_if_success (with_reducible show wpAny _ _ (eval (PySem.Expr.ListComp _ _ _ _) _) _ _ _));
    first | walk1 | (dsimp only; walk1))))
  (k_with "eval Name" => ((k_here; k_dflt (refine' nameX_L ?FQ9 ?vQ9 ?_ ?aQ9 ?bQ9; (case aQ9 => rfl); (case bQ9 => rfl); (case FQ9 => k_asm); (case vQ9 => first | exact rfl | assumption)))))
  (k_with "k_mem" => (first | assumption | exact List.Mem.head _ | (refine' List.Mem.tail _ ?_; k_mem)))
  (k_with "eval Name" => ((k_dflt (refine' LCgL.ld_own ?NQ9 ?mQ9 ?cQ9 ?eQ9 ?_; (case NQ9 => k_asm); (case mQ9 => k_mem); (case cQ9 => assumption); (case eQ9 => exact rfl)))))
  (k_with "eval Name" => ((k_dflt (refine' comp_free ?zNQ9 ?zmQ9 ?zdQ9 ?_ ?zkQ9 ?zxQ9 ?zcQ9 ?zbQ9 ?znQ9; (case zkQ9 => exact rfl); (case zxQ9 => with_unfolding_all rfl); (case zcQ9 => with_unfolding_all rfl); (case zNQ9 => k_asm); (case zmQ9 => k_mem); (case zdQ9 => assumption); (case zbQ9 => decide); (case znQ9 => decide)))))
  (k_with "execs cons" => (refine wpAny_execs_cons ?_; k_fold))
  (k_with "walk1" => (k_unfold; (try dsimp only); (try clear ek); (try clear qk); walk1))
  revert X; k_fill; intro X
  refine wpAny_call ?_
  k_dflt cell_enter
  rename_i g' L' h' tk' FG' F' B' X' T' l1 oT oR dT dR N'
  have dR' : oR.data = .cell (some (.ref RD)) := dR
  have dT' : oT.data = .cell (some (.int (times : Int) t2)) := dT
  walk_at "m_go"
  rename Fr _ _ _ _ => F1
  rename News _ _ _ _ => N1
  refine eval_tail F1 (by with_unfolding_all rfl) rfl (by decide) ?_ (by intro _; with_unfolding_all rfl)
  walk_at "m_go"
  rename Fr _ _ _ _ => F2
  rename News _ _ _ _ => N2
  obtain ⟨kvs, hk1, hk2⟩ := hrf.ex
  refine tail_str rfl F2 N2 hz (by rw [sizeLine_eq]; omega) (by decide) rfl (fun i ys nw => nw = (L' + 1 + 1, oT) :: (L' + 1, oR) :: news ∧ Paired StrIs ys (List.replicate i (spell times r))) ⟨rfl, .nil⟩ ?_ ?_
  · rintro i v ys nw I oI C oC D m₁ h tk E' hi ⟨cc, uu, hcc, rfl⟩ ⟨rfl, hys⟩ hC FB NB off ne hCL hC₀
    (try k_fold)
    refine comp_assign FB NB hC off ne hCL hC₀ rfl rfl ?_
    intro h4 tk4 oC4 FC NC hC4
    refine wpAny_tests_nil ?_
    (try dsimp only)
    rw [if_pos rfl]
    have hz2 : z.cps.size = 1 := by omega
    have hzc : z = (⟨#[cc]⟩ : PySem.Str) := by
      have hi0 : i = 0 := by omega
      subst hi0
      obtain ⟨l⟩ := z
      obtain ⟨l⟩ := l
      cases l with
      | nil => simp at hz2
      | cons a l =>
        cases l with
        | nil => simp at hcc; simp [hcc]
        | cons b l => simp at hz2
    have hlk := hr hz2
    rw [hzc] at hlk
    walk_at "m_go"
    rename Fr g' L' _ _ => FE
    rename News g' L' _ _ => NE
    (repeat k_unfold)
    refine ⟨_, _, _, _, _, rfl, FE, NE, hC4, off, rfl, ?_⟩
    rw [List.replicate_succ']
    exact hys.snoc ⟨_, rfl⟩
  · rintro ys nw ⟨rfl, hys⟩
    intro D h tk FB NB off
    (try dsimp only)
    walk_at "m_go"
    rename Fr g' L' _ _ => FE
    rename News g' L' _ _ => NE
    refine join_list (News.isList NE List.mem_cons_self) (ys := List.replicate z.cps.size (spell times r)) (strs_of hys) ?_ ?_
    · rw [List.map_replicate, List.sum_replicate_nat, List.length_replicate]
      have : z.cps.size * (spell times r).length ≤ 1 * 1000 := Nat.mul_le_mul hz1 hsl
      have e0 : ("" : PySem.Str).length = 0 := rfl
      rw [e0]
      omega
    intro t' k'
    walk_at "m_go"
    rename News _ _ _ _ => NF
    exact ret _ _ _ (by k_asm) (fun q hq => NF q (by simp [hq]))
end
end Mine
end
section
open PySem PySem.W PyProof.Rows PyProof.V PySem.Spec
namespace Mine
set_option maxHeartbeats 4000000
open PyProof.Rows.LCg (SrcAt NsObj Off3 Off1 lst FinE)

def PathIs (rest : List (Addr × Obj)) (v : Value) (p : List Nat) : Prop := ∃ a vs n, v = .ref a ∧ (a, listOf (List.toArray vs) n) ∈ rest ∧ IntsAre vs (p.map fun d => -((d : Nat) : Int))
theorem News.four {h₀ h : Heap} {L : Addr} {a b c d : Addr} {oa ob oc od : Obj} {l : List (Addr × Obj)} (N : News h₀ L h ((a, oa) :: (b, ob) :: (c, oc) :: (d, od) :: l)) : ∃ a' b' c' d', a' = a ∧ b' = b ∧ c' = c ∧ d' = d := ⟨_, _, _, _, rfl, rfl, rfl, rfl⟩
theorem ints_snoc {k : Int} {t : Tok} : ∀ {vs : List Value} {ns : List Int}, IntsAre vs ns → IntsAre (vs ++ [.int k t]) (ns ++ [k])
  | _, _, .nil => .cons k t .nil
  | _, _, .cons a u h => .cons a u (ints_snoc h)
theorem News.swap4 {h₀ h : Heap} {L : Addr} {a b c d : Addr × Obj} {l : List (Addr × Obj)} (N : News h₀ L h (a :: b :: c :: d :: l)) : News h₀ L h (a :: b :: d :: c :: l) :=
  fun q hq => N q (by walk_at "perm")
theorem PathIs.mono {rest rest' : List (Addr × Obj)} {v : Value} {p : List Nat} (h : PathIs rest v p) (k : ∀ q ∈ rest, q ∈ rest') : PathIs rest' v p :=
  let ⟨a, vs, n, e, hm, hi⟩ := h; ⟨a, vs, n, e, k _ hm, hi⟩
/-- forerunner, way and sign of a deed, told by the numbers -/
def lfOf (ns : List Int) (k : Nat) : Nat := (ns.getD (k - 1) 0 % 10 % k).toNat
def siOf (way : Nat) (ns : List Int) (k : Nat) : Nat := (ns.getD (k - 1) 0 / 10 % 10 % (refL way).length).toNat
def sgOf (way : Nat) (ns : List Int) (k : Nat) : PySem.Str := if k = 0 then "" else ((refL way).getD (siOf way ns k) ("", "")).1
def wayF (lf : Nat → Nat) : Nat → Nat → List Nat
  | 0, _ => []
  | f + 1, k => if k = 0 then [] else wayF lf f (lf k) ++ [k]
def wayOf (lf : Nat → Nat) (k : Nat) : List Nat := wayF lf 7 k
theorem wayF_more (lf : Nat → Nat) (hl : ∀ k, 1 ≤ k → k < 7 → lf k < k) : ∀ f k, k ≤ f → k < 7 → wayF lf f k = wayF lf (f + 1) k
  | 0, k, h, _ => by obtain rfl := Nat.le_zero.mp h; rfl
  | f + 1, k, h, h7 => by
    show (if k = 0 then [] else wayF lf f (lf k) ++ [k]) = (if k = 0 then [] else wayF lf (f + 1) (lf k) ++ [k])
    by_cases e : k = 0
    · rw [if_pos e, if_pos e]
    · have := hl k (by omega) h7
      rw [if_neg e, if_neg e, wayF_more lf hl f (lf k) (by omega) (by omega)]
theorem lfOf_lt (ns : List Int) {k : Nat} (h1 : 1 ≤ k) : lfOf ns k < k := by
  unfold lfOf
  have := Int.emod_lt_of_pos (ns.getD (k - 1) 0 % 10) (show (0 : Int) < k by omega)
  omega
theorem ways_of (ns : List Int) : Ways (lfOf ns) (wayOf (lfOf ns)) where
  root := rfl
  less := fun k h _ => lfOf_lt ns h
  step := fun k h1 h7 => by
    have hl := lfOf_lt ns h1
    show (if k = 0 then [] else wayF (lfOf ns) 6 (lfOf ns k) ++ [k]) = wayF (lfOf ns) 7 (lfOf ns k) ++ [k]
    rw [if_neg (by omega), wayF_more (lfOf ns) (fun k h _ => lfOf_lt ns h) 6 (lfOf ns k) (by omega) (by omega)]
theorem way_len (ns : List Int) : ∀ k, k < 7 → (wayOf (lfOf ns) k).length ≤ k := by
  intro k
  induction k using Nat.strongRecOn with
  | ind k ih =>
    intro h7
    by_cases e : k = 0
    · subst e; rw [(ways_of ns).root]; exact Nat.le_refl _
    · have hl := lfOf_lt ns (show 1 ≤ k by omega)
      rw [(ways_of ns).step k (by omega) h7, List.length_append]
      have := ih _ hl (by omega)
      simp
      omega
theorem flat_get : ∀ {kvs : List (PySem.Str × Value)} {D : List (PyData × PyData)}, FlatPairs PyData.str kvs D → ∀ {i : Nat} {k : PySem.Str} {y : Value}, kvs[i]? = some (k, y) → ∃ d, D[i]? = some (.str k, d)
  | _, _, .nil, _, _, _, h => by simp at h
  | _, _, .cons _ _, 0, _, _, h => by
    simp at h
    obtain ⟨rfl, rfl⟩ := h
    exact ⟨_, rfl⟩
  | _, _, .cons _ tl, i + 1, _, _, h => flat_get tl (i := i) (by simpa using h)
theorem refs_len (way : Nat) : 1 ≤ (refL way).length ∧ (refL way).length ≤ 7 := by
  unfold refL; split <;> decide
section
variable {w : World} {p : Program} {loose : List PySem.Str} {mean : ExcName → Option Value} {mg mb : PySem.Str → Option Value}
   {dp un : Nat} {gd : Option (List Code)} {cn : PySem.Str} {cs : PySem.Scope} {a : Addr} {ccd : Value} {cl : List (PySem.Str × Addr)} {outer : List Env} {A₀ : Around} {base h₀ : Heap} {L : Addr} {m : PySem.Str → Option Value} {news : List (Addr × Obj)} {s : Shared} {Q E : Value → Shared → Prop}

set_option maxRecDepth 100000 in
set_option maxHeartbeats 8000000 in
theorem deeds_spec (B : Below A₀ base outer h₀) (F : Fr h₀ L s.heap m) (X : (Mine.hd.heap_1 w.params).In h₀) (N : News h₀ L s.heap news) (T : Top p loose mean mg mb h₀) (hk : cs.kind = .function) (hd : dp + 30 < recursionLimit) (hu : un + 300 < cLine)
    {way nC : Nat} {RD CE : Addr} {oD : Obj} {cv : List Value} {ns : List Int} (hRD : (RD, oD) ∈ news) (hlo : (RD == sysModules) = false) (hrf : RefsAt w oD way) (hCE : (CE, listOf (List.toArray cv) nC) ∈ news) (hcv : IntsAre cv ns) (hns : ns.length = 7) (hnb : ∀ x ∈ ns, 0 ≤ x ∧ x < 1000)
    (ret : ∀ (T LE PA SI : Addr) lv pv sv n1 n2 n3 fr h' tk', Fr h₀ L h' m → News h₀ L h' (fr ++ news) → (∀ q ∈ fr, ∀ p ∈ news, p.1 < q.1) → (T, tupO [.ref LE, .ref PA, .ref SI]) ∈ fr → (LE, listOf (List.toArray lv) n1) ∈ fr → (PA, listOf (List.toArray pv) n2) ∈ fr → (SI, listOf (List.toArray sv) n3) ∈ fr →
      IntsAre lv (-1 :: (List.range 6).map fun i => ((lfOf ns (i + 1) : Nat) : Int)) → Paired (PathIs fr) pv ((List.range 7).map (wayOf (lfOf ns))) → Paired StrIs sv ((List.range 7).map (sgOf way ns)) → Q (.ref T) { s with heap := h', toks := tk' }) :
    wpAny (model PySem.Challenge.rw_uk0024_01.row.prog w) (ktrTop dp un gd cn cs L a ccd cl outer) (call (.ref 270) [.ref CE, .ref RD]) Q E s := by
  k_with_none
  (k_with "ce1" => (refine' code_def ?k1Q9 ?k2Q9 ?k3Q9 ?k4Q9 ?k5Q9 ?kAQ9 ?kFQ9 ?kKQ9 ?k6Q9 ?k7Q9 ?k8Q9 ?k9Q9 ?kBQ9 ?_ ?c2Q9 ?c3Q9 ?c4Q9 ?c5Q9; (case kAQ9 => exact rfl); (case kFQ9 => exact rfl); (case kKQ9 => first | assumption | exact rfl); (case k1Q9 => k_asm); (case k2Q9 => k_asm); (case k3Q9 => k_asm); (case k4Q9 => k_asm); (case k5Q9 => k_asm); (case k6Q9 => k_is); (case k7Q9 => k_is); (case k8Q9 => ktr_room); (case k9Q9 => first | exact BindsTo.of_eq rfl | exact binds_K (by k_in) rfl (by k_is) rfl rfl rfl); (case c5Q9 => decide); (case kBQ9 => exact locs rfl); (case c2Q9 => exact rfl); (case c3Q9 => exact rfl); (case c4Q9 => exact rfl); k_whole))
  (k_with "ce2" => (refine' code_defC ?k1Q9 ?k2Q9 ?k3Q9 ?k4Q9 ?k5Q9 ?kAQ9 ?kFQ9 ?kKQ9 ?k6Q9 ?k7Q9 ?k8Q9 ?k9Q9 ?kBQ9 ?kDQ9 ?_ ?c2Q9 ?c3Q9 ?c4Q9; (case kAQ9 => exact rfl); (case kFQ9 => exact rfl); (case kKQ9 => first | assumption | exact rfl); (case k1Q9 => k_asm); (case k2Q9 => k_asm); (case k3Q9 => k_asm); (case k4Q9 => k_asm); (case k5Q9 => k_asm); (case k6Q9 => k_is); (case k7Q9 => k_is); (case k8Q9 => ktr_room); (case k9Q9 => first | exact BindsTo.of_eq rfl | exact binds_K (by k_in) rfl (by k_is) rfl rfl rfl); (case kBQ9 => exact rfl); (case kDQ9 => decide +kernel); (case c2Q9 => exact rfl); (case c3Q9 => exact rfl); (case c4Q9 => exact rfl); k_whole))
  (k_with "ktr_units" => ((have hcL9 := cLine_is; (simp only [Mine.units_make, PyProof.Rows.units_in1, PyProof.Rows.units_deeper, PySem.Around.mark_units, PyProof.Rows.units_caller, ktrTop] at *); omega)))
  (k_with "ktr_units" => ((simp only [Mine.units_make, PyProof.Rows.units_in1, PyProof.Rows.units_deeper, PySem.Around.mark_units, PyProof.Rows.units_caller]; first | exact Mine.fit2 (by with_reducible assumption) (by decide) | exact Mine.fit3 (by with_reducible assumption) (by decide) | fail "no")))
  (k_with "ktr_units" => (first | exact Mine.fit2 (d := (PySem.W.ktrTop _ _ _ _ _ _ _ _ _ _).units) (by assumption) (by decide) | exact Mine.fit3 (d := (PySem.W.ktrTop _ _ _ _ _ _ _ _ _ _).units) (by assumption) (by decide) | exact Mine.fit1 (d := (PySem.W.ktrTop _ _ _ _ _ _ _ _ _ _).units) (by assumption) (by decide) | fail "no"))
  (k_with "ktr_room" => (first | exact Mine.fit0 (d := (PySem.W.ktrTop _ _ _ _ _ _ _ _ _ _).depth) (by assumption) | exact Mine.fit2 (d := (PySem.W.ktrTop _ _ _ _ _ _ _ _ _ _).depth) (by assumption) (by decide) | exact Mine.fit3 (d := (PySem.W.ktrTop _ _ _ _ _ _ _ _ _ _).depth) (by assumption) (by decide) | exact Mine.fit1 (d := (PySem.W.ktrTop _ _ _ _ _ _ _ _ _ _).depth) (by assumption) (by decide) | fail "no"))
  (k_with "omega" => (first | (lia) | fail "no"))
  (k_with "omega" => (with_reducible first | exact Int.natCast_nonneg _ | exact Mine.le_cl (by decide) | exact Mine.lt_cl (by decide) | fail "no"))
  (k_with "simp" => (with_reducible first | exact List.mem_cons_self | (refine List.mem_cons_of_mem _ ?_; simp; done) | fail "no"))
  (k_with "simph" => (with_reducible first | assumption | exact List.mem_cons_of_mem _ (by assumption) | exact Or.inl (by assumption) | exact List.mem_append_left _ (by assumption) | exact List.mem_append_right _ (by assumption) | (refine List.mem_cons_of_mem _ ?_; k_extra "simph"; done) | (refine Or.inr ?_; k_extra "simph"; done) | fail "no"))
  (k_with "perm" => ((refine (?_ : ∀ q ∈ _, q ∈ _) _ (by assumption); (repeat (with_reducible refine List.forall_mem_cons.mpr ⟨by first | exact List.mem_cons_self | (refine List.mem_cons_of_mem _ ?_; simp; done), ?_⟩)); with_reducible (intro q hq; repeat (first | exact hq | refine List.mem_cons_of_mem _ ?_)))))
  (k_with "m_fru" => (first | (with_reducible refine frU_wrap ?_ (by decide); walk_at "m_fru") | exact rfl))
  (k_with "call builtin:len" => (((with_reducible show wpAny _ _ (call (Value.builtin "len") [Value.ref _]) _ _ _); k_dflt (refine' len_list ?lQ9 ?fQ9 ?_; (case lQ9 => exact News.isList (by k_asm) (by k_mem)); (case fQ9 => (simp only [List.size_toArray]; omega))); (try simp only [List.size_toArray]))))
  (k_with "m_go" => (repeat (
    (fail_if_success (with_reducible show wpAny _ _ (exec (PySem.Stmt.While _ _ _ _) _) _ _ _));
    (fail_if_success (with_reducible show wpAny _ _ (exec (PySem.Stmt.For _ _ _ _ _) _) _ _ _));
    (fail_if_success (with_reducible show wpAny _ _ (exec (PySem.Stmt.Assign _ (PySem.Expr.ListComp _ _ _ _) _) _) _ _ _));
    (fail_if_success (with_reducible show wpAny _ _ (eval (PySem.Expr.ListComp _ _ _ _) _) _ _ _));
    first | walk1 | (dsimp only; walk1))))
  (k_with "eval Name" => ((k_here; k_dflt (refine' nameX_L ?FQ9 ?vQ9 ?_ ?aQ9 ?bQ9; (case aQ9 => rfl); (case bQ9 => rfl); (case FQ9 => k_asm); (case vQ9 => first | exact rfl | assumption)))))
  (k_with "k_mem" => (first | assumption | exact List.Mem.head _ | (refine' List.Mem.tail _ ?_; k_mem)))
  (k_with "execs cons" => (refine wpAny_execs_cons ?_; k_fold))
  (k_with "walk1" => (k_unfold; (try dsimp only); (try clear ek); (try clear qk); walk1))
  revert X; k_fill; intro X
  refine wpAny_call ?_
  k_dflt cell_enter
  rename_i g' L' h' FG' F' N' B' X' T'
  walk_at "m_go"
  refine wpAny_For ?_
  walk_at "m_go"
  rename IsRange _ _ _ _ _ _ _ _ => hr
  rename Fr g' L' _ _ => F3
  rename News g' L' _ _ => N3
  rename _ ∧ _ ∧ _ ∧ AllLt _ _ => q1
  rename _ ∧ _ ∧ AllLt _ _ => q2
  rename _ ∧ AllLt _ _ => q3
  rename ∀ (p : Addr × Obj), p ∈ news → p.1 < _ => q4
  obtain ⟨SI, PA, P0, LE, e1, e2, e3, e4⟩ := News.four N3
  subst e1 e2 e3 e4
  have hPL : (@Ne Nat PA LE) := Ne.symm (Nat.ne_of_lt q2.2.1)
  have hSL : (@Ne Nat SI LE) := Ne.symm (Nat.ne_of_lt q1.2.2.1)
  have hSP : (@Ne Nat SI PA) := Ne.symm (Nat.ne_of_lt q1.1)
  have N3' := News.swap4 N3
  refine for_rangeU (n := 6) ["k"] rfl hr rfl rfl F3 N3' (fun i u nw => ∃ lv pv sv n1 n2 n3 rest, nw = (SI, listOf (List.toArray sv) n3) :: (PA, listOf (List.toArray pv) n2) :: (LE, listOf (List.toArray lv) n1) :: rest ∧ (∃ fr, rest = fr ++ news ∧ (∀ q ∈ fr, ∀ p ∈ news, p.1 < q.1) ∧ Paired (PathIs fr) pv ((List.range (i + 1)).map (wayOf (lfOf ns)))) ∧ (∀ q ∈ rest, q.1 ≠ SI) ∧ (∀ q ∈ rest, q.1 ≠ PA) ∧ (∀ q ∈ rest, q.1 ≠ LE) ∧
    IntsAre lv (-1 :: (List.range i).map fun i => ((lfOf ns (i + 1) : Nat) : Int)) ∧ Paired StrIs sv ((List.range (i + 1)).map (sgOf way ns))) ?_ ?_ ?_
  · refine ⟨[.int (-1) _], [.ref P0], [.str "" _], _, _, _, (P0, _) :: news, rfl, ⟨[(P0, _)], rfl, ?_, .cons ⟨P0, [], 0, rfl, List.mem_cons_self, .nil⟩ .nil⟩, ?_, ?_, ?_, ?_, ?_⟩
    · intro q hq p hp
      rw [List.mem_singleton.mp hq]
      exact allLt_of q3.2 p hp
    · intro q hq
      rcases List.mem_cons.mp hq with rfl | hq
      · exact Nat.ne_of_lt q1.2.1
      · exact Nat.ne_of_lt (allLt_of q1.2.2.2 q hq)
    · intro q hq
      rcases List.mem_cons.mp hq with rfl | hq
      · exact Nat.ne_of_lt q2.1
      · exact Nat.ne_of_lt (allLt_of q2.2.2 q hq)
    · intro q hq
      rcases List.mem_cons.mp hq with rfl | hq
      · exact Nat.ne_of_gt q3.1
      · exact Nat.ne_of_lt (q4 q hq)
    · exact .cons _ _ .nil
    · exact .cons ⟨_, rfl⟩ .nil
  · rintro i t' u nw h tk I oI E' hi ⟨lv, pv, sv, n1, n2, n3, rest, rfl, ⟨fr, hfr, hlt9, h2'⟩, hs, hp, hl, h1, h3⟩ F9 N9 off9
    (try k_fold)
    have sub : ∀ q ∈ news, q ∈ rest := fun q hq => hfr ▸ List.mem_append_right _ hq
    have h2 : Paired (PathIs rest) pv _ := Mine.Paired.mono (fun _ _ h => PathIs.mono h fun q hq => hfr ▸ List.mem_append_left _ hq) h2'
    have hCE' := sub _ hCE
    have hRD' := sub _ hRD
    have hIS : (@Ne Nat SI I) := off9 _ List.mem_cons_self
    have hIP : (@Ne Nat PA I) := off9 _ (List.mem_cons_of_mem _ List.mem_cons_self)
    have hIL : (@Ne Nat LE I) := off9 _ (List.mem_cons_of_mem _ (List.mem_cons_of_mem _ List.mem_cons_self))
    have hIr : ∀ q ∈ rest, q.1 ≠ I := fun q hq => off9 _ (List.mem_cons_of_mem _ (List.mem_cons_of_mem _ (List.mem_cons_of_mem _ hq)))
    walk_at "m_go"
    rename Fr g' L' _ _ => F4
    rename News g' L' _ _ => N4
    have hlvl : lv.length = i + 1 := by have := h1.length; simp at this; omega
    refine append_L (R := LE) (vs := lv) (n := n1) (news := (I, oI) :: (SI, listOf (List.toArray sv) n3) :: (PA, listOf (List.toArray pv) n2) :: rest) F4 (fun q hq => N4 q (by walk_at "perm")) ?_ (by omega) ?_
    · intro q hq
      simp only [List.mem_cons] at hq
      rcases hq with rfl | rfl | rfl | hq
      · exact hIL.symm
      · exact hSL
      · exact hPL
      · exact hl q hq
    intro h5 F5 N5
    have hb := hnb (ns.getD (1 + (i : Int) * 1 - 1).toNat 0) (by rw [List.getD_eq_getElem?_getD, List.getElem?_eq_getElem (by omega)]; exact List.getElem_mem _)
    have hlf : ((ns.getD (1 + (i : Int) * 1 - 1).toNat 0).fmod 10).fmod (1 + (i : Int) * 1) = ((lfOf ns (i + 1) : Nat) : Int) := by
      rw [Int.fmod_eq_emod_of_nonneg _ (by omega), Int.fmod_eq_emod_of_nonneg _ (by omega)]
      unfold lfOf
      rw [show (1 + (i : Int) * 1 - 1).toNat = i + 1 - 1 by omega, show 1 + (i : Int) * 1 = ((i + 1 : Nat) : Int) by omega]
      have := Int.emod_nonneg (ns.getD (i + 1 - 1) 0 % 10) (show ((i + 1 : Nat) : Int) ≠ 0 by omega)
      omega
    have hllt := lfOf_lt ns (show 1 ≤ i + 1 by omega)
    rw [hlf] at N5
    generalize hlfe : lfOf ns (i + 1) = lk at *
    obtain ⟨lv5, N6, hI5⟩ : ∃ lv5, News g' L' h5 ((LE, listOf (List.toArray lv5) (n1 + 1)) :: (I, oI) :: (SI, listOf (List.toArray sv) n3) :: (PA, listOf (List.toArray pv) n2) :: rest) ∧ IntsAre lv5 ((-1 :: (List.range i).map fun i => ((lfOf ns (i + 1) : Nat) : Int)) ++ [((lk : Nat) : Int)]) := ⟨_, N5, ints_snoc h1⟩
    clear N5 N4
    iterate 13 (first | walk1 | (dsimp only; walk1))
    have hk1 : (1 + (i : Int) * 1) < ((((-1 :: (List.range i).map fun i => ((lfOf ns (i + 1) : Nat) : Int)) ++ [((lk : Nat) : Int)]).length : Nat) : Int) := by simp; omega
    k_dflt (refine' item_anyK (News.isList ?zN ?zm) hI5 ?z0 hk1 ?z2 ?_ ?z3; (case zN => k_asm); (case zm => k_mem); (case z0 => omega); (case z2 => omega); (case z3 => with_unfolding_all rfl))
    intro tLk
    have hg : ((-1 :: (List.range i).map fun i => ((lfOf ns (i + 1) : Nat) : Int)) ++ [((lk : Nat) : Int)]).getD (1 + (i : Int) * 1).toNat 0 = ((lk : Nat) : Int) := by
      rw [show (1 + (i : Int) * 1).toNat = i + 1 by omega, List.getD_eq_getElem?_getD, List.getElem?_append_right (by simp)]
      simp
    rw [hg]
    have hpl : pv.length = i + 1 := by have := h2.length; simpa using this
    obtain ⟨v, hv⟩ : ∃ v, pv[lk]? = some v := ⟨_, List.getElem?_eq_getElem (by omega)⟩
    obtain ⟨pp, hpp, ap, vp, np, rfl, hmp, hip⟩ := paired_get h2 lk v hv
    have hpw : pp = wayOf (lfOf ns) lk := by
      rw [List.getElem?_map, List.getElem?_range (by omega)] at hpp
      exact (Option.some.inj hpp).symm
    have hwl : (wayOf (lfOf ns) (i + 1)) = pp ++ [i + 1] := by rw [hpw, (ways_of ns).step (i + 1) (by omega) (by omega), hlfe]
    have hvpl : vp.length ≤ 7 := by
      have a1 := hip.length
      have a2 := way_len ns (i + 1) (by omega)
      rw [hwl] at a2
      simp at a1 a2
      omega
    k_dflt (refine' item_list ?zl ?za ?zb ?zc ?_; (case zl => exact News.isList (by k_asm) (by k_mem)); (case za => exact Int.natCast_nonneg _); (case zb => omega); (case zc => (rw [Int.toNat_natCast, List.getElem?_toArray]; exact hv)))
    iterate 7 (first | walk1 | (dsimp only; walk1))
    (try dsimp only)
    k_dflt (refine' kmk_add_ints ?zF ?zN ?zp ?zq ?zi ?zj ?_ ?zz; (case zF => k_asm); (case zN => k_asm); (case zp => exact News.isList (by k_asm) (by k_mem)); (case zq => exact News.isList (by k_asm) (by k_mem)); (case zi => exact hip); (case zj => exact .cons _ _ .nil); (case zz => (rw [sizeLine_eq]; have := hip.length; simp at *; omega)))
    intro PN us h7 F7 N7 l7 hI7
    walk_at "m_go"
    have hPA7 := l7 (PA, listOf (List.toArray pv) n2) (by simp)
    have hSI7 := l7 (SI, listOf (List.toArray sv) n3) (by simp)
    have hLE7 := l7 (LE, listOf (List.toArray lv5) (n1 + 1)) (by simp)
    have hI7' := l7 (I, oI) (by simp)
    have hr7 : ∀ q ∈ rest, q.1 < PN := fun q hq => l7 q (by simp [hq])
    refine append_L (R := PA) (vs := pv) (n := n2) (news := (LE, listOf (List.toArray lv5) (n1 + 1)) :: (I, oI) :: (SI, listOf (List.toArray sv) n3) :: (PN, listOf (List.toArray us) 0) :: rest) F7 (fun q hq => N7 q (by walk_at "perm")) ?_ (by omega) ?_
    · intro q hq
      simp only [List.mem_cons] at hq
      rcases hq with rfl | rfl | rfl | rfl | hq
      · exact hPL.symm
      · exact hIP.symm
      · exact hSP
      · exact Nat.ne_of_gt hPA7
      · exact hp q hq
    intro h8 F8 N8
    have hP8 : Paired (PathIs ((PN, listOf (List.toArray us) 0) :: fr)) (pv ++ [.ref PN]) ((List.range (i + 1 + 1)).map (wayOf (lfOf ns))) := by
      rw [List.range_succ, List.map_append]
      refine Paired.snoc (Mine.Paired.mono (fun _ _ h => PathIs.mono h fun q hq => List.mem_cons_of_mem _ hq) h2') ⟨PN, us, 0, rfl, List.mem_cons_self, ?_⟩
      rw [hwl, List.map_append]
      have e : (-(1 + (i : Int) * 1)) = -(((i + 1 : Nat) : Nat) : Int) := by omega
      rw [e] at hI7
      exact hI7
    generalize hpv : pv ++ [Value.ref PN] = pv8 at *
    obtain ⟨rest8, hr8⟩ : ∃ rest8, rest8 = (PN, listOf (List.toArray us) 0) :: rest := ⟨_, rfl⟩
    rw [← hr8] at N8
    have sub8 : ∀ q ∈ rest, q ∈ rest8 := fun q hq => hr8 ▸ List.mem_cons_of_mem _ hq
    have hS8 : ∀ q ∈ rest8, q.1 ≠ SI := by
      rw [hr8]; intro q hq
      rcases List.mem_cons.mp hq with rfl | hq
      · exact Nat.ne_of_gt hSI7
      · exact hs q hq
    have hPr8 : ∀ q ∈ rest8, q.1 ≠ PA := by
      rw [hr8]; intro q hq
      rcases List.mem_cons.mp hq with rfl | hq
      · exact Nat.ne_of_gt hPA7
      · exact hp q hq
    have hL8 : ∀ q ∈ rest8, q.1 ≠ LE := by
      rw [hr8]; intro q hq
      rcases List.mem_cons.mp hq with rfl | hq
      · exact Nat.ne_of_gt hLE7
      · exact hl q hq
    have hIr8 : ∀ q ∈ rest8, q.1 ≠ I := by
      rw [hr8]; intro q hq
      rcases List.mem_cons.mp hq with rfl | hq
      · exact Nat.ne_of_gt hI7'
      · exact hIr q hq
    have hCE8 := sub8 _ hCE'
    have hRD8 := sub8 _ hRD'
    clear N7
    walk_at "m_go"
    rename Fr g' L' _ _ => F9'
    rename News g' L' _ _ => N9'
    refine eval_tail (cl := []) F9' (by with_unfolding_all rfl) rfl (by decide) ?_ (by intro _; with_unfolding_all rfl)
    walk_at "m_go"
    rename Fr g' L' _ _ => FA
    rename News g' L' _ _ => NA
    obtain ⟨kvs, hk1, hk2⟩ := hrf.ex
    have hkl : kvs.length = (refL way).length := by rw [← hk2.length]; simp [refD]
    have hrl := refs_len way
    refine tail_dict rfl FA NA (by rw [sizeLine_eq]; omega) (by decide) rfl hlo hk1 (by k_mem) (fun i ys nw => nw = _ ∧ Paired StrIs ys (((refL way).take i).map (·.1))) ⟨rfl, .nil⟩ (fun i ys nw h => h.1 ▸ (by k_mem)) ?_ ?_
    · rintro iq v ys nw I2 oI2 C oC D m₁ h tk E' hiq ⟨kq, yq, hkv, hvq⟩ ⟨rfl, hys⟩ hC FB NB off ne hCL hC₀
      obtain ⟨tq, rfl⟩ := Value.isStrOf_shape hvq
      obtain ⟨dq, hdq⟩ := flat_get hk2 hkv
      refine comp_assign FB NB hC off ne hCL hC₀ rfl rfl ?_
      intro h4 tk4 oC4 FC NC hC4
      refine wpAny_tests_nil ?_
      (try dsimp only)
      rw [if_pos rfl]
      refine LCgL.ld_own NC (List.mem_cons_of_mem _ List.mem_cons_self) hC4 rfl ?_
      (repeat k_unfold)
      refine ⟨_, _, _, _, _, rfl, FC, NC, hC4, off, rfl, ?_⟩
      have hre : ∃ rq, (refL way)[iq]? = some (kq, rq) := by
        unfold refD at hdq
        rw [List.getElem?_map] at hdq
        obtain ⟨⟨a1, a2⟩, a3, a4⟩ := Option.map_eq_some_iff.mp hdq
        injection a4 with a4 a5
        injection a4 with a4
        subst a4
        exact ⟨a2, a3⟩
      obtain ⟨rq, hre⟩ := hre
      rw [List.take_add_one, hre, List.map_append]
      exact hys.snoc ⟨_, rfl⟩
    · rintro ys nw ⟨rfl, hys⟩
      intro D h tk FB NB off
      (try dsimp only)
      rw [hkl, List.take_length] at hys
      have hkl0 : ((kvs.length : Nat) : Int) ≠ 0 := by omega
      have hyl : ys.length = (refL way).length := by rw [hys.length, List.length_map]
      iterate 20 (first | walk1 | (dsimp only; walk1))
      k_dflt (refine' kda_len (K := PySem.Str) (knd := strKind PySem.Challenge.rw_uk0024_01.row.prog w) (kvs := kvs) ?zN ?zm ?zd hlo ?zf ?_; (case zN => k_asm); (case zm => k_mem); (case zd => exact hk1); (case zf => omega))
      iterate 2 (first | walk1 | (dsimp only; walk1))
      have hsi : (((ns.getD (1 + (i : Int) * 1 - 1).toNat 0).fdiv 10).fmod 10).fmod ((kvs.length : Nat) : Int) = ((siOf way ns (i + 1) : Nat) : Int) := by
        rw [Int.fmod_eq_emod_of_nonneg _ (by omega), Int.fmod_eq_emod_of_nonneg _ (by omega), Int.fdiv_eq_ediv_of_nonneg _ (by omega)]
        unfold siOf
        rw [show (1 + (i : Int) * 1 - 1).toNat = i + 1 - 1 by omega, hkl]
        have := Int.emod_nonneg (ns.getD (i + 1 - 1) 0 / 10 % 10) (show (((refL way).length : Nat) : Int) ≠ 0 by omega)
        omega
      rw [hsi]
      have hsl : siOf way ns (i + 1) < (refL way).length := by
        have := Int.emod_lt_of_pos (ns.getD (i + 1 - 1) 0 / 10 % 10) (show (0 : Int) < (((refL way).length : Nat) : Int) by omega)
        unfold siOf
        omega
      obtain ⟨v, hv⟩ : ∃ v, ys[siOf way ns (i + 1)]? = some v := ⟨_, List.getElem?_eq_getElem (by omega)⟩
      obtain ⟨xs, hxs, tv, rfl⟩ := paired_get hys _ v hv
      have hsg : sgOf way ns (i + 1) = xs := by
        rw [List.getElem?_map, List.getElem?_eq_getElem hsl] at hxs
        unfold sgOf
        rw [if_neg (by omega), List.getD_eq_getElem?_getD, List.getElem?_eq_getElem hsl]
        exact Option.some.inj hxs
      k_dflt (refine' item_list ?zl ?za ?zb ?zc ?_; (case zl => exact News.isList (by k_asm) (by k_mem)); (case za => exact Int.natCast_nonneg _); (case zb => omega); (case zc => (rw [Int.toNat_natCast, List.getElem?_toArray]; exact hv)))
      walk_at "m_go"
      rename Fr g' L' _ _ => FD
      rename News g' L' _ _ => ND
      have hsvl : sv.length = i + 1 := by have := h3.length; simpa using this
      refine append_L (R := SI) (vs := sv) (n := n3) (news := (PA, listOf (List.toArray pv8) (n2 + 1)) :: (LE, listOf (List.toArray lv5) (n1 + 1)) :: (I, oI) :: rest8) FD (fun q hq => ND q (by walk_at "perm")) ?_ (by omega) ?_
      · intro q hq
        simp only [List.mem_cons] at hq
        rcases hq with rfl | rfl | rfl | hq
        · exact hSP.symm
        · exact hSL.symm
        · exact hIS.symm
        · exact hS8 q hq
      intro hX FX NX
      walk_at "m_go"
      rename Fr g' L' _ _ => FY
      (repeat k_unfold)
      refine ⟨_, _, _, _, rfl, FY, (fun q hq => NX q ?_ : News g' L' _ ((I, oI) :: (SI, listOf (List.toArray (sv ++ [.str xs tv])) (n3 + 1)) :: (PA, listOf (List.toArray pv8) (n2 + 1)) :: (LE, listOf (List.toArray lv5) (n1 + 1)) :: rest8)), ?_, _, frU_wrap rfl (by decide), lv5, pv8, _, _, _, _, rest8, rfl, ⟨(PN, listOf (List.toArray us) 0) :: fr, by rw [hr8, hfr]; rfl, ?_, hP8⟩, hS8, hPr8, hL8, ?_, ?_⟩
      · walk_at "perm"
      · intro q hq
        simp only [List.mem_cons] at hq
        rcases hq with rfl | rfl | rfl | hq
        · exact hIS
        · exact hIP
        · exact hIL
        · exact hIr8 q hq
      · intro q hq p hp
        rcases List.mem_cons.mp hq with rfl | hq
        · exact hr7 p (sub p hp)
        · exact hlt9 q hq p hp
      · rw [List.range_succ, List.map_append, ← List.cons_append]
        simp only [List.map_cons, List.map_nil, hlfe]
        exact hI5
      · rw [List.range_succ, List.map_append]
        exact h3.snoc (show StrIs (.str xs tv) (sgOf way ns (i + 1)) from ⟨tv, by rw [hsg]⟩)
  · rintro u nw h tk ⟨lv, pv, sv, n1, n2, n3, rest, rfl, ⟨fr, hfr, hlt9, h2'⟩, hs, hp, hl, h1, h3⟩ F9 N9
    have sub : ∀ q ∈ news, q ∈ rest := fun q hq => hfr ▸ List.mem_append_right _ hq
    have h2 : Paired (PathIs rest) pv _ := Mine.Paired.mono (fun _ _ h => PathIs.mono h fun q hq => hfr ▸ List.mem_append_left _ hq) h2'
    (try dsimp only)
    walk_at "m_go"
    rename News h₀ L _ ((_, Obj.mk _ _ _ _) :: _) => NN
    rename SI < _ ∧ _ => lT
    obtain ⟨TT, hTT⟩ := News.first NN
    subst hTT
    refine ret TT LE PA SI lv pv sv n1 n2 n3 ((TT, tupO [.ref LE, .ref PA, .ref SI]) :: (SI, listOf (List.toArray sv) n3) :: (PA, listOf (List.toArray pv) n2) :: (LE, listOf (List.toArray lv) n1) :: fr) _ _ (by k_asm) (fun q hq => NN q ?_) ?_ ?_ ?_ ?_ ?_ h1 ?_ h3
    · rw [hfr]; exact hq
    · intro q hq p hp
      simp only [List.mem_cons] at hq
      rcases hq with rfl | rfl | rfl | rfl | hq
      · exact allLt_of lT.2.2.2 p (sub p hp)
      · exact allLt_of q1.2.2.2 p hp
      · exact allLt_of q2.2.2 p hp
      · exact q4 p hp
      · exact hlt9 q hq p hp
    · simp
    · simp
    · simp
    · simp
    · exact Mine.Paired.mono (fun _ _ h => PathIs.mono h fun q hq => by simp [hq]) h2'
end
end Mine
end
section
open PySem PySem.W PyProof.Rows PyProof.V PySem.Spec
namespace Mine
set_option maxHeartbeats 4000000
open PyProof.Rows.LCg (SrcAt NsObj Off3 Off1 lst FinE)
/-- a table and its rows, as the ledger has them -/
structure Seat (w : World) (ps : Array Value) (rest : List (Addr × Obj)) (TI R : Addr) (vs : List Value) (deeds : List Nat) (tx : Nat → PySem.Str) : Prop where
  table : TableAt w rest TI R
  rows : RowsAre rest vs (deeds.map (row tx))
  tab : TabOk ps lamQ rest
  p : ∀ q ∈ rest, q.1 ≠ 289
  r : ∀ q ∈ rest, q.1 ≠ R
  rp : (@Ne Nat R 289)
abbrev cutAt (TH : Addr) (rest : List (Addr × Obj)) : List (Addr × Obj) := rest.filter fun q => decide (q.1 ≠ TH)
theorem mem_cut {TH : Addr} {rest : List (Addr × Obj)} {q : Addr × Obj} (h : q ∈ rest) (hn : q.1 ≠ TH) : q ∈ cutAt TH rest := List.mem_filter.mpr ⟨h, by simpa using hn⟩
theorem of_cut {TH : Addr} {rest : List (Addr × Obj)} {q : Addr × Obj} (h : q ∈ cutAt TH rest) : q ∈ rest ∧ q.1 ≠ TH := by
  obtain ⟨a, b⟩ := List.mem_filter.mp h
  exact ⟨a, by simpa using b⟩
theorem News.same {h₀ h : Heap} {L TH : Addr} {o o' : Obj} {nw : List (Addr × Obj)} (N : News h₀ L h nw) (h1 : (TH, o) ∈ nw) (h2 : (TH, o') ∈ nw) : o = o' := by
  have a := (N _ h1).1
  have b := (N _ h2).1
  rw [a] at b
  exact Option.some.inj b
theorem Seat.cut {w : World} {ps : Array Value} {rest nw : List (Addr × Obj)} {TI R TH : Addr} {vs : List Value} {deeds : List Nat} {tx : Nat → PySem.Str} {h₀ h : Heap} {L : Addr} {tv : List Value} {nt : Nat} (S : Seat w ps rest TI R vs deeds tx) (N : News h₀ L h nw) (sub : ∀ q ∈ rest, q ∈ nw) (hT : (TH, listOf (List.toArray tv) nt) ∈ rest) :
    Seat w ps (cutAt TH rest) TI R vs deeds tx := by
  have ne : ∀ q ∈ rest, q.2 ≠ listOf (List.toArray tv) nt → q.1 ≠ TH := by
    rintro ⟨a, o⟩ hq hne e
    subst e
    exact hne (News.same N (sub _ hq) (sub _ hT))
  refine ⟨?_, ?_, ⟨S.tab.1, ?_⟩, fun q hq => S.p q (of_cut hq).1, fun q hq => S.r q (of_cut hq).1, S.rp⟩
  · obtain ⟨TD, t, n, a, b⟩ := S.table.ex
    exact ⟨⟨TD, t, n, mem_cut a (ne _ a fun e => by have := congrArg Obj.cls e; cases this), mem_cut b (ne _ b fun e => by have := congrArg Obj.cls e; simp [W.listOf] at this)⟩⟩
  · refine Mine.Paired.mono (fun v r h => ?_) S.rows
    obtain ⟨t, k1, k2, e, hm⟩ := h
    exact ⟨t, k1, k2, e, mem_cut hm (ne _ hm fun e => by have := congrArg Obj.cls e; simp [W.listOf] at this)⟩
  · intro pos v e
    obtain ⟨c', oc, xs, t, e1, hm, hd, hv⟩ := S.tab.2 pos v e
    exact ⟨c', oc, xs, t, e1, mem_cut hm (ne _ hm fun e => by have := congrArg Obj.data e; simp only at this; rw [hd] at this; simp [W.listOf] at this), hd, hv⟩
theorem Seat.cutI {w : World} {ps : Array Value} {rest nw : List (Addr × Obj)} {TI R I : Addr} {vs : List Value} {deeds : List Nat} {tx : Nat → PySem.Str} {h₀ h : Heap} {L : Addr} {oI : Obj} (hoI : ∃ x y z, oI = rgO x y z) (S : Seat w ps rest TI R vs deeds tx) (N : News h₀ L h nw) (sub : ∀ q ∈ rest, q ∈ nw) (hT : (I, oI) ∈ rest) :
    Seat w ps (cutAt I rest) TI R vs deeds tx := by
  obtain ⟨x, y, z, rfl⟩ := hoI
  have ne : ∀ q ∈ rest, q.2 ≠ rgO x y z → q.1 ≠ I := by
    rintro ⟨a, o⟩ hq hne e
    subst e
    exact hne (News.same N (sub _ hq) (sub _ hT))
  refine ⟨?_, ?_, ⟨S.tab.1, ?_⟩, fun q hq => S.p q (of_cut hq).1, fun q hq => S.r q (of_cut hq).1, S.rp⟩
  · obtain ⟨TD, t, n, a, b⟩ := S.table.ex
    exact ⟨⟨TD, t, n, mem_cut a (ne _ a fun e => by have := congrArg Obj.cls e; cases this), mem_cut b (ne _ b fun e => by have := congrArg Obj.cls e; simp at this)⟩⟩
  · refine Mine.Paired.mono (fun v r h => ?_) S.rows
    obtain ⟨t, k1, k2, e, hm⟩ := h
    exact ⟨t, k1, k2, e, mem_cut hm (ne _ hm fun e => by have := congrArg Obj.cls e; simp at this)⟩
  · intro pos v e
    obtain ⟨c', oc, xs, t, e1, hm, hd, hv⟩ := S.tab.2 pos v e
    refine ⟨c', oc, xs, t, e1, mem_cut hm (ne _ hm fun e => ?_), hd, hv⟩
    have := congrArg Obj.data e
    simp only at this
    rw [hd] at this
    injection this with this
    rw [this] at hv
    simp [rawInt] at hv
theorem before_nodup {P : Nat → List Nat} {l : List Nat} (h : l.Pairwise (before P)) : l.Nodup :=
  h.imp fun {a b} hab e => by subst e; unfold before at hab; rw [lx_irrefl] at hab; cases hab
section
variable {w : World} {p : Program} {loose : List PySem.Str} {mean : ExcName → Option Value} {mg mb : PySem.Str → Option Value}
   {dp un : Nat} {gd : Option (List Code)} {cn : PySem.Str} {cs : PySem.Scope} {a : Addr} {ccd : Value} {cl : List (PySem.Str × Addr)} {outer : List Env} {A₀ : Around} {base h₀ : Heap} {L : Addr} {m : PySem.Str → Option Value} {news : List (Addr × Obj)} {s : Shared} {Q E : Value → Shared → Prop}

theorem comes_all {ps : Array Value} {rest : List (Addr × Obj)} {R TI TH : Addr} {n nt : Nat} {vs tv : List Value} (B : Below A₀ base outer h₀) (F : Fr h₀ L s.heap m) (X : (Mine.hd.heap_1 w.params).In h₀) (T : Top p loose mean mg mb h₀) (hk : cs.kind = .function) (hd : dp + 60 < recursionLimit) (hu : un + 600 < cLine)
    (N : News h₀ L s.heap ((R, listOf (List.toArray vs) n) :: (TH, listOf (List.toArray tv) nt) :: (289, tabObj ps) :: rest)) {lf : Nat → Nat} {P : Nat → List Nat} {order S : List Nat} {tx : Nat → PySem.Str} {k : Nat} {t2 t3 t4 : Tok} (W : Ways lf P)
    (ho : order.Pairwise (before P)) (hm : ∀ d, d ∈ order ↔ d < 7) (hol : order.length = 7) (hS : LeftClosed lf (· ∈ S)) (hS7 : ∀ d ∈ S, d < 7) (hk1 : 1 ≤ k) (hk7 : k < 7) (hl : lf k ∈ S)
    (st : Seat w ps rest TI R vs (order.filter (S.contains ·)) tx) (hTR : (@Ne Nat TH R)) (hT9 : (@Ne Nat TH 289)) (hTr : ∀ q ∈ rest, q.1 ≠ TH)
    (ret : ∀ t vs' n' ps' rest' h' tk', Fr h₀ L h' m → News h₀ L h' ((R, listOf (List.toArray vs') n') :: (TH, listOf (List.toArray tv) nt) :: (289, tabObj ps') :: rest') → Seat w ps' rest' TI R vs' (order.filter ((if k ∈ S then S else S ++ [k]).contains ·)) tx → (∀ q ∈ rest, q ∈ rest') → (∀ q ∈ rest', q.1 ≠ TH) → Q (.str (tx k) t) { s with heap := h', toks := tk' }) :
    wpAny (model PySem.Challenge.rw_uk0024_01.row.prog w) (ktrTop dp un gd cn cs L a ccd cl outer) (call (.ref 292) [.ref TI, .ref R, .int (k : Int) t2, .int ((lf k : Nat) : Int) t3, .str (tx k) t4]) Q E s := by
  have hmem : ∀ d, d ∈ order.filter (S.contains ·) ↔ d ∈ S := fun d => by
    rw [List.mem_filter, hm]
    simp only [List.contains_iff_mem]
    exact ⟨fun h => h.2, fun h => ⟨hS7 d h, h⟩⟩
  have N1 : News h₀ L s.heap ((R, listOf (List.toArray vs) n) :: (289, tabObj ps) :: (TH, listOf (List.toArray tv) nt) :: rest) := fun q hq => N q (by
    walk_at "perm")
  have s1 : ∀ q ∈ rest, q ∈ (TH, listOf (List.toArray tv) nt) :: rest := fun q hq => List.mem_cons_of_mem _ hq
  have hrs := Mine.Paired.mono (fun _ _ h => RowIs.mono h s1) st.rows
  have h7 : ∀ d ∈ order.filter (S.contains ·), d < 7 := fun d hd => hS7 d ((hmem d).mp hd)
  by_cases hkS : k ∈ S
  · rw [if_pos hkS] at ret
    refine comes_hit B F X N1 T hk hd hu (st.table.mono s1) hrs h7 hk7 ((hmem k).mpr hkS) ?_
    intro t h' tk' F' N'
    exact ret t vs n ps rest h' tk' F' (fun q hq => N' q (by
      walk_at "perm")) st (fun q hq => hq) hTr
  · rw [if_neg hkS] at ret
    have hvl : vs.length ≤ 1000 := by
      have a1 := st.rows.length
      rw [List.length_map] at a1
      have a2 := List.length_filter_le (S.contains ·) order
      omega
    refine comes_new B F X N1 T hk hd hu (st.table.mono s1) hrs ?_ ?_ st.rp ((before_nodup ho).filter _) h7 ((hmem _).mpr hl) hk7 (fun h => hkS ((hmem k).mp h)) hvl (st.tab.mono s1) ?_
    · intro q hq
      rcases List.mem_cons.mp hq with rfl | hq
      · exact hT9
      · exact st.p q hq
    · intro q hq
      rcases List.mem_cons.mp hq with rfl | hq
      · exact hTR
      · exact st.r q hq
    · intro r t vs' n' ps' rest' h' tk' F' N' p1 p2 p3 p4 p5 p6 r1 r2 r3 r4
      rw [W.turn ho hm hS hS7 hk1 hk7 hkS hl r1 r2 r3 r4] at p2
      have hT := p6 _ List.mem_cons_self
      have sub9 : ∀ q ∈ rest', q ∈ (R, listOf (List.toArray vs') n') :: (289, tabObj ps') :: rest' := fun q hq => List.mem_cons_of_mem _ (List.mem_cons_of_mem _ hq)
      refine ret t vs' n' ps' (cutAt TH rest') h' tk' F' ?_ (Seat.cut ⟨p1, p2, p3, p4, p5, st.rp⟩ N' sub9 hT) (fun q hq => mem_cut (p6 q (s1 q hq)) (hTr q hq)) (fun q hq => (of_cut hq).2)
      intro q hq
      simp only [List.mem_cons] at hq
      rcases hq with rfl | rfl | rfl | hq
      · exact N' _ List.mem_cons_self
      · exact N' _ (sub9 _ hT)
      · exact N' _ (List.mem_cons_of_mem _ List.mem_cons_self)
      · exact N' _ (sub9 _ (of_cut hq).1)
theorem comes_turn {ps : Array Value} {rest : List (Addr × Obj)} {R TI TH I : Addr} {oI : Obj} {n nt : Nat} {vs tv : List Value} (B : Below A₀ base outer h₀) (F : Fr h₀ L s.heap m) (X : (Mine.hd.heap_1 w.params).In h₀) (T : Top p loose mean mg mb h₀) (hk : cs.kind = .function) (hd : dp + 60 < recursionLimit) (hu : un + 600 < cLine)
    (hoI : ∃ x y z, oI = rgO x y z) (N : News h₀ L s.heap ((I, oI) :: (R, listOf (List.toArray vs) n) :: (TH, listOf (List.toArray tv) nt) :: (289, tabObj ps) :: rest)) {lf : Nat → Nat} {P : Nat → List Nat} {order S : List Nat} {tx : Nat → PySem.Str} {k : Nat} {t2 t3 t4 : Tok} (W : Ways lf P)
    (ho : order.Pairwise (before P)) (hm : ∀ d, d ∈ order ↔ d < 7) (hol : order.length = 7) (hS : LeftClosed lf (· ∈ S)) (hS7 : ∀ d ∈ S, d < 7) (hk1 : 1 ≤ k) (hk7 : k < 7) (hl : lf k ∈ S)
    (st : Seat w ps rest TI R vs (order.filter (S.contains ·)) tx) (hTR : (@Ne Nat TH R)) (hT9 : (@Ne Nat TH 289)) (hTr : ∀ q ∈ rest, q.1 ≠ TH) (hI : ∀ q ∈ ((R, listOf (List.toArray vs) n) :: (TH, listOf (List.toArray tv) nt) :: (289, tabObj ps) :: rest), q.1 ≠ I)
    (ret : ∀ t vs' n' ps' rest' h' tk', Fr h₀ L h' m → News h₀ L h' ((I, oI) :: (R, listOf (List.toArray vs') n') :: (TH, listOf (List.toArray tv) nt) :: (289, tabObj ps') :: rest') → Seat w ps' rest' TI R vs' (order.filter ((if k ∈ S then S else S ++ [k]).contains ·)) tx → (∀ q ∈ rest, q ∈ rest') → (∀ q ∈ rest', q.1 ≠ TH) → (∀ q ∈ rest', q.1 ≠ I) → Q (.str (tx k) t) { s with heap := h', toks := tk' }) :
    wpAny (model PySem.Challenge.rw_uk0024_01.row.prog w) (ktrTop dp un gd cn cs L a ccd cl outer) (call (.ref 292) [.ref TI, .ref R, .int (k : Int) t2, .int ((lf k : Nat) : Int) t3, .str (tx k) t4]) Q E s := by
  have iR := hI (R, listOf (List.toArray vs) n) (by simp)
  have iT := hI (TH, listOf (List.toArray tv) nt) (by simp)
  have i9 := hI (289, tabObj ps) (by simp)
  have s1 : ∀ q ∈ rest, q ∈ (I, oI) :: rest := fun q hq => List.mem_cons_of_mem _ hq
  refine comes_all (ps := ps) (R := R) (TH := TH) (n := n) (vs := vs) (rest := (I, oI) :: rest) (tv := tv) (nt := nt) B F X T hk hd hu (fun q hq => N q (by walk_at "perm")) W ho hm hol hS hS7 hk1 hk7 hl
    ⟨st.table.mono s1, Mine.Paired.mono (fun _ _ h => RowIs.mono h s1) st.rows, st.tab.mono s1, ?_, ?_, st.rp⟩ hTR hT9 ?_ ?_
  · intro q hq
    rcases List.mem_cons.mp hq with rfl | hq
    · exact i9.symm
    · exact st.p q hq
  · intro q hq
    rcases List.mem_cons.mp hq with rfl | hq
    · exact iR.symm
    · exact st.r q hq
  · intro q hq
    rcases List.mem_cons.mp hq with rfl | hq
    · exact iT.symm
    · exact hTr q hq
  · intro t vs' n' ps' rest' h' tk' F' N' st' p1 p2
    have hIm := p1 _ List.mem_cons_self
    have sub9 : ∀ q ∈ rest', q ∈ (R, listOf (List.toArray vs') n') :: (TH, listOf (List.toArray tv) nt) :: (289, tabObj ps') :: rest' := fun q hq => by simp [hq]
    refine ret t vs' n' ps' (cutAt I rest') h' tk' F' ?_ (Seat.cutI hoI st' N' sub9 hIm) (fun q hq => mem_cut (p1 q (s1 q hq)) (hI q (by simp [hq]))) (fun q hq => p2 q (of_cut hq).1) (fun q hq => (of_cut hq).2)
    intro q hq
    simp only [List.mem_cons] at hq
    rcases hq with rfl | rfl | rfl | rfl | hq
    · exact N' _ (sub9 _ hIm)
    · exact N' _ (by simp)
    · exact N' _ (by simp)
    · exact N' _ (by simp)
    · exact N' _ (sub9 _ (of_cut hq).1)
end
end Mine
end
section
open PySem PySem.W PyProof.Rows PyProof.V PySem.Spec
namespace Mine
set_option maxHeartbeats 4000000
/-- each sign c becomes the text z -/
def subL (c : Nat) (z : List Nat) (l : List Nat) : List Nat := l.flatMap fun a => if a = c then z else [a]
theorem subL_append (c : Nat) (z a b : List Nat) : subL c z (a ++ b) = subL c z a ++ subL c z b := List.flatMap_append
theorem subL_cons (c : Nat) (z : List Nat) (a : Nat) (l : List Nat) : subL c z (a :: l) = (if a = c then z else [a]) ++ subL c z l := List.flatMap_cons
theorem subL_free (c : Nat) (z : List Nat) : ∀ l : List Nat, c ∉ l → subL c z l = l
  | [], _ => rfl
  | k :: r, h => by
    have h1 : ¬ k = c := fun e => h (e ▸ List.mem_cons_self ..)
    have h2 : c ∉ r := fun m => h (List.mem_cons_of_mem _ m)
    rw [subL_cons, if_neg h1, subL_free c z r h2]; rfl
theorem subL_join (c : Nat) (z : PySem.Str) : ∀ parts : List PySem.Str, (∀ p ∈ parts, c ∉ p.cps.toList) → subL c z.cps.toList (Str.join ⟨#[c]⟩ parts).cps.toList = (Str.join z parts).cps.toList
  | [], _ => rfl
  | [p], h => subL_free c _ _ (h p (List.mem_singleton.mpr rfl))
  | p :: q :: r, h => by
    have ih := subL_join c z (q :: r) fun a ha => h a (List.mem_cons_of_mem _ ha)
    show subL c z.cps.toList (p ++ ⟨#[c]⟩ ++ Str.join ⟨#[c]⟩ (q :: r)).cps.toList = (p ++ z ++ Str.join z (q :: r)).cps.toList
    simp only [PySem.Str.cps_append, Array.toList_append]
    rw [subL_append, subL_append, ih, subL_free c _ _ (h p (List.mem_cons_self ..))]
    congr 2
    simp [subL]
theorem replace_subL (x z : PySem.Str) (c : Nat) : (Txt.replace x ⟨#[c]⟩ z).cps.toList = subL c z.cps.toList x.cps.toList := by
  rw [StrLaws.replace_one, ← subL_join c z _ (StrLaws.split_free x c), StrLaws.join_split]
theorem str_ext {a b : PySem.Str} (h : a.cps.toList = b.cps.toList) : a = b := PySem.Str.ext' (Array.toList_inj.mp h)
theorem rep_free {x z : PySem.Str} {c : Nat} (h : c ∉ x.cps.toList) : rep x ⟨#[c]⟩ z = x := by
  unfold rep
  split
  · rfl
  · exact str_ext ((replace_subL x z c).trans (subL_free c _ _ h))
theorem rep_subL (x z : PySem.Str) (c : Nat) : (rep x ⟨#[c]⟩ z).cps.toList = subL c z.cps.toList x.cps.toList := by
  by_cases h : c ∈ x.cps.toList
  · unfold rep
    rw [if_neg, replace_subL]
    have := StrLaws.found_one x c
    rw [decide_eq_true h] at this
    intro e
    rw [e] at this
    cases this
  · rw [rep_free h, subL_free c _ _ h]
/-- the signs that a hand writes anew, but for & -/
def hardC (c : Nat) : Bool := c == 60 || c == 62 || c == 34 || c == 13 || c == 10 || c == 9
theorem hard_free {x : PySem.Str} (h : ∀ c ∈ x.cps.toList, hardC c = false) {c : Nat} (hc : hardC c = true) : c ∉ x.cps.toList := fun m => by
  rw [h c m] at hc; cases hc
theorem amp_len {x : PySem.Str} (h : x.cps.toList.length ≤ 300000) : (rep x "&" "&amp;").cps.toList.length ≤ 1500000 := by
  rw [show ("&" : PySem.Str) = ⟨#[38]⟩ from rfl, rep_subL]
  have : ∀ l : List Nat, (subL 38 ("&amp;" : PySem.Str).cps.toList l).length ≤ 5 * l.length := by
    intro l
    induction l with
    | nil => exact Nat.le_refl _
    | cons a l ih =>
      rw [subL_cons, List.length_append, List.length_cons]
      have : (if a = 38 then ("&amp;" : PySem.Str).cps.toList else [a]).length ≤ 5 := by
        split
        · decide
        · exact (by decide : 1 ≤ 5)
      omega
  have := this x.cps.toList
  omega
/-- a hand on a text that has & alone to write anew -/
theorem esc_amp {way : Nat} (hw : way < 5) {x : PySem.Str} (h : ∀ c ∈ x.cps.toList, hardC c = false) (hl : x.cps.toList.length ≤ 300000) :
    OkL (tbl way) x ∧ escL (tbl way) x = rep x "&" "&amp;" := by
  have hy : ∀ c ∈ (rep x "&" "&amp;").cps.toList, hardC c = false := by
    intro c hc
    rw [show ("&" : PySem.Str) = ⟨#[38]⟩ from rfl, rep_subL] at hc
    obtain ⟨a, ha, hc⟩ := List.mem_flatMap.mp hc
    split at hc
    · have : ∀ c ∈ ("&amp;" : PySem.Str).cps.toList, hardC c = false := by decide
      exact this c hc
    · rw [List.mem_singleton.mp hc]; exact h a ha
  have s1 : Small x := by
    show x.cps.size ≤ _
    rw [← Array.length_toList]; omega
  have s2 : Small (rep x "&" "&amp;") := by
    show (rep x "&" "&amp;").cps.size ≤ _
    have := amp_len hl
    rw [← Array.length_toList]; omega
  generalize hY : rep x "&" "&amp;" = y at *
  have f1 : ∀ z, rep y "<" z = y := fun z => rep_free (c := 60) (hard_free hy rfl)
  have f2 : ∀ z, rep y ">" z = y := fun z => rep_free (c := 62) (hard_free hy rfl)
  have f3 : ∀ z, rep y "\"" z = y := fun z => rep_free (c := 34) (hard_free hy rfl)
  have f4 : ∀ z, rep y "\r" z = y := fun z => rep_free (c := 13) (hard_free hy rfl)
  have f5 : ∀ z, rep y "\n" z = y := fun z => rep_free (c := 10) (hard_free hy rfl)
  have f6 : ∀ z, rep y "\t" z = y := fun z => rep_free (c := 9) (hard_free hy rfl)
  have hc : way = 0 ∨ way = 1 ∨ way = 2 ∨ way = 3 ∨ way = 4 := by omega
  rcases hc with rfl | rfl | rfl | rfl | rfl <;> simp only [tbl, OkL, escL, hY, f1, f2, f3, f4, f5, f6, s1, s2, and_self]
def amp4 : List Nat := [97, 109, 112, 59]
def rpA (n : Nat) : List Nat := (List.replicate n amp4).flatten
section
variable (rT : Nat → List Nat)
def render1 (e : Nat × Nat) : List Nat := 38 :: (rpA e.1 ++ (97 + e.2) :: (if e.2 = 0 then [] else 38 :: (rpA e.1 ++ rT e.2)))
def render (l : List (Nat × Nat)) : List Nat := l.flatMap (render1 rT)
/-- the page of a list of depths and deeds -/
def rend (l : List (Nat × Nat)) : PySem.Str := ⟨(render rT l).toArray⟩
def txOf (k : Nat) : PySem.Str := if k = 0 then "" else ⟨(38 :: rT k).toArray⟩
/-- a reference's tail: no & in it, nor a sign that a hand writes anew -/
def Fine : Prop := ∀ k, 1 ≤ k → k < 7 → (rT k).length ≤ 8 ∧ ∀ c ∈ rT k, hardC c = false ∧ c ≠ 38 ∧ 32 ≤ c ∧ c < 127
end
def inc (e : Nat × Nat) : Nat × Nat := (e.1 + 1, e.2)
theorem rpA_succ (n : Nat) : rpA (n + 1) = amp4 ++ rpA n := by unfold rpA; rw [List.replicate_succ, List.flatten_cons]
theorem rpA_mem {n c : Nat} (h : c ∈ rpA n) : c ∈ amp4 := by
  unfold rpA at h
  obtain ⟨l, hl, hc⟩ := List.mem_flatten.mp h
  rw [(List.mem_replicate.mp hl).2] at hc
  exact hc
theorem rpA_len (n : Nat) : (rpA n).length = 4 * n := by
  induction n with
  | zero => rfl
  | succ n ih => rw [rpA_succ, List.length_append, ih]; show 4 + 4 * n = _; omega
theorem rpA_free {n c : Nat} (h : c ∉ amp4) : c ∉ rpA n := fun m => h (rpA_mem m)
theorem sub_38 (l : List Nat) : subL 38 ("&amp;" : PySem.Str).cps.toList (38 :: l) = 38 :: (amp4 ++ subL 38 ("&amp;" : PySem.Str).cps.toList l) := by
  rw [subL_cons, if_pos rfl]; rfl
section
variable {rT : Nat → List Nat}
theorem sub_render1 (hf : Fine rT) {e : Nat × Nat} (he : e.2 < 7) : subL 38 ("&amp;" : PySem.Str).cps.toList (render1 rT e) = render1 rT (inc e) := by
  unfold render1
  rw [sub_38, subL_append, subL_cons, if_neg (by omega), subL_free _ _ _ (rpA_free (by decide))]
  show 38 :: (amp4 ++ (rpA e.1 ++ ([97 + e.2] ++ _))) = 38 :: (rpA (e.1 + 1) ++ (97 + e.2) :: _)
  rw [rpA_succ, List.append_assoc]
  congr 4
  by_cases h : e.2 = 0
  · rw [if_pos h, if_pos (show (inc e).2 = 0 from h)]; rfl
  · rw [if_neg h, if_neg (show ¬ (inc e).2 = 0 from h), sub_38, subL_append, subL_free _ _ _ (rpA_free (by decide)), subL_free _ _ (rT e.2) (fun m => ((hf e.2 (by omega) he).2 38 m).2.1 rfl)]
    show _ = [97 + e.2] ++ 38 :: (rpA (e.1 + 1) ++ rT e.2)
    rw [rpA_succ, List.append_assoc]
theorem sub_render (hf : Fine rT) : ∀ {l : List (Nat × Nat)}, (∀ e ∈ l, e.2 < 7) → subL 38 ("&amp;" : PySem.Str).cps.toList (render rT l) = render rT (l.map inc)
  | [], _ => rfl
  | e :: l, h => by
    show subL _ _ (render1 rT e ++ render rT l) = render1 rT (inc e) ++ render rT (l.map inc)
    rw [subL_append, sub_render1 hf (h e List.mem_cons_self), sub_render hf fun x hx => h x (List.mem_cons_of_mem _ hx)]
theorem render_mem (hf : Fine rT) {l : List (Nat × Nat)} (h : ∀ e ∈ l, e.2 < 7) {c : Nat} (hc : c ∈ render rT l) : hardC c = false ∧ c < 128 := by
  obtain ⟨e, he, hc⟩ := List.mem_flatMap.mp hc
  have he7 := h e he
  have ha : ∀ c ∈ amp4, hardC c = false ∧ c < 128 := by decide
  have hl : hardC (97 + e.2) = false ∧ 97 + e.2 < 128 := by
    have : ∀ d : Fin 7, hardC (97 + (d : Nat)) = false ∧ 97 + (d : Nat) < 128 := by decide
    exact this ⟨e.2, he7⟩
  unfold render1 at hc
  rcases List.mem_cons.mp hc with rfl | hc
  · decide
  · rcases List.mem_append.mp hc with hc | hc
    · exact ha c (rpA_mem hc)
    · rcases List.mem_cons.mp hc with rfl | hc
      · exact hl
      · by_cases h0 : e.2 = 0
        · rw [if_pos h0] at hc; cases hc
        · rw [if_neg h0] at hc
          rcases List.mem_cons.mp hc with rfl | hc
          · decide
          · rcases List.mem_append.mp hc with hc | hc
            · exact ha c (rpA_mem hc)
            · have := (hf e.2 (by omega) he7).2 c hc
              exact ⟨this.1, by omega⟩
theorem render_len (hf : Fine rT) : ∀ {l : List (Nat × Nat)}, (∀ e ∈ l, e.2 < 7 ∧ e.1 ≤ 20) → (render rT l).length ≤ 200 * l.length
  | [], _ => Nat.le_refl _
  | e :: l, h => by
    have h1 := h e List.mem_cons_self
    have ih := render_len hf fun x hx => h x (List.mem_cons_of_mem _ hx)
    show (render1 rT e ++ render rT l).length ≤ _
    rw [List.length_append, List.length_cons]
    have : (render1 rT e).length ≤ 200 := by
      unfold render1
      rw [List.length_cons, List.length_append, List.length_cons, rpA_len]
      split
      · simp; omega
      · rw [List.length_cons, List.length_append, rpA_len]
        have := (hf e.2 (by omega) h1.1).1
        omega
    omega
theorem small_cps : ∀ d, d < 7 → (small d).cps.toList = [97 + d] := by decide +kernel
/-- a part: its sign, letter, reference, and what the hand makes of the parts behind it -/
theorem part_is (hf : Fine rT) {way : Nat} (hw : way < 5) {l : List (Nat × Nat)} (h : ∀ e ∈ l, e.2 < 7 ∧ e.1 ≤ 20) (hl : l.length ≤ 10) {k : Nat} (hk : k < 7) :
    OkL (tbl way) (rend rT l) ∧ ("&" ++ small k ++ txOf rT k ++ escL (tbl way) (rend rT l) : PySem.Str) = rend rT ((0, k) :: l.map inc) := by
  have h7 : ∀ e ∈ l, e.2 < 7 := fun e he => (h e he).1
  have e1 := esc_amp hw (x := rend rT l) (fun c hc => (render_mem hf h7 (by simpa [rend] using hc)).1) (by
    have := render_len hf h
    simp only [rend]
    omega)
  refine ⟨e1.1, str_ext ?_⟩
  rw [e1.2, PySem.Str.cps_append, PySem.Str.cps_append, PySem.Str.cps_append, Array.toList_append, Array.toList_append, Array.toList_append, small_cps k hk]
  rw [show ("&" : PySem.Str) = ⟨#[38]⟩ from rfl, rep_subL]
  have e2 : (rend rT l).cps.toList = render rT l := by simp [rend]
  rw [e2, sub_render hf h7]
  show [38] ++ [97 + k] ++ (txOf rT k).cps.toList ++ _ = (rend rT ((0, k) :: l.map inc)).cps.toList
  have e3 : (rend rT ((0, k) :: l.map inc)).cps.toList = render1 rT (0, k) ++ render rT (l.map inc) := by simp [rend, render]
  rw [e3]
  congr 1
  unfold txOf render1
  by_cases h0 : k = 0
  · subst h0; rfl
  · simp [h0, rpA]
theorem rend_append (a b : List (Nat × Nat)) : rend rT a ++ rend rT b = rend rT (a ++ b) := by
  refine str_ext ?_
  rw [PySem.Str.cps_append, Array.toList_append]
  simp [rend, render]
end
/-- the parts that wait, the last one laid first -/
def stk : List Nat → List (Nat × List (Nat × Nat))
  | [] => []
  | d :: r => (d, (0, d) :: (((stk r).takeWhile fun q => decide (d < q.1)).flatMap (·.2)).map inc) :: (stk r).dropWhile fun q => decide (d < q.1)
def flat (s : List (Nat × List (Nat × Nat))) : List (Nat × Nat) := s.flatMap (·.2)
def blocks (l : List Nat) : List (Nat × Nat) := flat (stk l)
theorem flat_split (s : List (Nat × List (Nat × Nat))) (f : (Nat × List (Nat × Nat)) → Bool) : flat (s.takeWhile f) ++ flat (s.dropWhile f) = flat s := by
  unfold flat
  rw [← List.flatMap_append, List.takeWhile_append_dropWhile]
theorem blocks_snd : ∀ l : List Nat, (blocks l).map (·.2) = l
  | [] => rfl
  | d :: r => by
    have ih := blocks_snd r
    show ((0, d) :: ((flat ((stk r).takeWhile fun q => decide (d < q.1))).map inc) ++ flat ((stk r).dropWhile fun q => decide (d < q.1))).map (·.2) = d :: r
    rw [List.cons_append, List.map_cons, List.map_append, List.map_map]
    have e : ((fun x : Nat × Nat => x.2) ∘ inc) = fun x => x.2 := rfl
    rw [e, ← List.map_append, flat_split]
    exact congrArg (d :: ·) ih
theorem blocks_len (l : List Nat) : (blocks l).length = l.length := by
  have := congrArg List.length (blocks_snd l)
  rwa [List.length_map] at this
theorem blocks_dep : ∀ (l : List Nat), ∀ e ∈ blocks l, e.1 ≤ l.length
  | [], e, h => by cases h
  | d :: r, e, h => by
    have ih := blocks_dep r
    have h' : e ∈ (0, d) :: ((flat ((stk r).takeWhile fun q => decide (d < q.1))).map inc) ++ flat ((stk r).dropWhile fun q => decide (d < q.1)) := h
    have sub : ∀ x, x ∈ flat ((stk r).takeWhile fun q => decide (d < q.1)) ∨ x ∈ flat ((stk r).dropWhile fun q => decide (d < q.1)) → x ∈ blocks r := fun x hx => by
      unfold blocks
      rw [← flat_split (stk r) (fun q => decide (d < q.1))]
      exact List.mem_append.mpr hx
    rw [List.length_cons]
    rcases List.mem_append.mp h' with h' | h'
    · rcases List.mem_cons.mp h' with rfl | h'
      · exact Nat.zero_le _
      · obtain ⟨x, hx, rfl⟩ := List.mem_map.mp h'
        have := ih x (sub x (.inl hx))
        show x.1 + 1 ≤ _
        omega
    · have := ih e (sub e (.inr h'))
      omega
end Mine
end
section
open PySem PySem.W PyProof.Rows PyProof.V PySem.Spec
namespace Mine
set_option maxHeartbeats 4000000
open PyProof.Rows.LCg (SrcAt NsObj Off3 Off1 lst FinE)

theorem News.swap2 {h₀ h : Heap} {L : Addr} {a b : Addr × Obj} {l : List (Addr × Obj)} (N : News h₀ L h (a :: b :: l)) : News h₀ L h (b :: a :: l) :=
  fun q hq => N q (by walk_at "perm")
theorem flat_app (a b : List (Nat × List (Nat × Nat))) : flat (a ++ b) = flat a ++ flat b := List.flatMap_append
theorem strOk_rend {rT : Nat → List Nat} (hf : Fine rT) {l : List (Nat × Nat)} (h : ∀ e ∈ l, e.2 < 7) : PyData.strOk (rend rT l) = true := by
  unfold PyData.strOk rend
  rw [Array.all_eq_true]
  intro i hi
  have hm : (render rT l).toArray[i] ∈ render rT l := by simp
  have := (render_mem hf h hm).2
  simp only [decide_eq_true_eq]
  omega
theorem paired_unsnoc {α β : Type} {R : α → β → Prop} : ∀ {l : List α} {r : List β} {b : β}, Paired R l (r ++ [b]) → ∃ l' a, l = l' ++ [a] ∧ Paired R l' r ∧ R a b
  | _, [], _, .cons h .nil => ⟨[], _, rfl, .nil, h⟩
  | _, _ :: r, _, .cons h t => by
    obtain ⟨l', a, rfl, h1, h2⟩ := paired_unsnoc (r := r) t
    exact ⟨_ :: l', a, rfl, .cons h h1, h2⟩
theorem del_L {prog : Program} {w : World} {A : Around} {E : Value → Shared → Prop} {s : Shared} {h₀ : Heap} {L R : Addr} {m : PySem.Str → Option Value} {news : List (Addr × Obj)} {vs : List Value} {v : Value} {n : Nat} {u : Tok} {Q : Unit → Shared → Prop}
    (F : Fr h₀ L s.heap m) (N : News h₀ L s.heap ((R, listOf (List.toArray (vs ++ [v])) n) :: news)) (ne : ∀ q ∈ news, q.1 ≠ R) (hsz : vs.length ≤ 1000)
    (h : ∀ h', Fr h₀ L h' m → News h₀ L h' ((R, listOf (List.toArray vs) (n + 1)) :: news) → Q () { s with heap := h' }) :
    wpAny (model prog w) A (delItem (.ref R) (.int (-1) u)) Q E s := by
  refine delItem_head (k := vs.length) F N ne (by decide) ?_ (fun h' F' N' => h h' F' ?_) (by rw [List.size_toArray, List.length_append, List.length_singleton, sizeLine_eq]; omega)
  · unfold seqIndex?
    rw [List.size_toArray, List.length_append, List.length_singleton]
    simp
    omega
  · have e : ((List.toArray (vs ++ [v])).toList.eraseIdx vs.length).toArray = List.toArray vs := by simp [List.eraseIdx_append_of_length_le]
    rw [e] at N'
    exact N'
theorem stk_len : ∀ l : List Nat, (stk l).length ≤ l.length
  | [] => Nat.le_refl _
  | d :: r => by
    have ih := stk_len r
    have := (List.dropWhile_sublist (l := stk r) fun q => decide (d < q.1)).length_le
    show ((stk r).dropWhile _).length + 1 ≤ r.length + 1
    omega
theorem News.perm5 {h₀ h : Heap} {L : Addr} {a b c : Addr × Obj} {l : List (Addr × Obj)} (N : News h₀ L h (a :: b :: c :: l)) : News h₀ L h (b :: c :: a :: l) :=
  fun q hq => N q (by walk_at "perm")
theorem frU_sub {a : PySem.Str} {xs : List PySem.Str} {u1 u m m1 : PySem.Str → Option Value} (h : m1 = frU xs u m) (hs : xs.contains a = true) : frU [a] u1 m1 = frU xs (fun z => if z = a then u1 z else u z) m := by
  subst h
  funext z
  unfold frU
  by_cases e : z = a
  · subst e; simp only [hs, if_true]; simp
  · have : ([a].contains z) = false := by simp [e]
    simp only [this, if_neg e]; rfl
theorem paired_app {α β : Type} {R : α → β → Prop} : ∀ {l : List α} {r : List β} {l2 : List α} {r2 : List β}, Paired R l r → Paired R l2 r2 → Paired R (l ++ l2) (r ++ r2)
  | _, _, _, _, .nil, h => h
  | _, _, _, _, .cons a b, h => .cons a (paired_app b h)
theorem paired_rev {α β : Type} {R : α → β → Prop} : ∀ {l : List α} {r : List β}, Paired R l r → Paired R l.reverse r.reverse
  | _, _, .nil => .nil
  | _, _, .cons a b => by
    rw [List.reverse_cons, List.reverse_cons]
    exact paired_app (paired_rev b) (.cons a .nil)
theorem sum_le {α : Type} {f : α → Nat} {c : Nat} : ∀ {l : List α}, (∀ x ∈ l, f x ≤ c) → (l.map f).sum ≤ l.length * c
  | [], _ => by simp
  | x :: r, h => by
    have ih := sum_le (l := r) fun y hy => h y (List.mem_cons_of_mem _ hy)
    have h1 := h x List.mem_cons_self
    rw [List.map_cons, List.sum_cons, List.length_cons, Nat.succ_mul]
    omega
theorem flat_part : ∀ {s : List (Nat × List (Nat × Nat))} {q : Nat × List (Nat × Nat)}, q ∈ s → q.2.length ≤ (flat s).length
  | a :: s, q, h => by
    have e : flat (a :: s) = a.2 ++ flat s := rfl
    rw [e, List.length_append]
    rcases List.mem_cons.mp h with rfl | h
    · omega
    · have := flat_part h; omega
theorem txt_join (sep : PySem.Str) (l : List PySem.Str) : Txt.join sep l = Str.join sep l := by
  first
    | exact StrLaws.glued_eq_join _ _
    | exact eq_of_beq (join_plain_closes sep l)
theorem join_empty : ∀ l : List PySem.Str, (Str.join "" l).cps.toList = l.flatMap fun x => x.cps.toList
  | [] => rfl
  | [p] => by simp [Str.join]
  | p :: q :: r => by
    have ih := join_empty (q :: r)
    show (p ++ "" ++ Str.join "" (q :: r)).cps.toList = _
    rw [PySem.Str.cps_append, PySem.Str.cps_append, Array.toList_append, Array.toList_append, ih]
    rw [List.flatMap_cons]
    simp
    rfl
theorem join_rend {rT : Nat → List Nat} (l : List Nat) : Txt.join "" ((stk l).map fun q => rend rT q.2) = rend rT (blocks l) := by
  rw [txt_join]
  refine str_ext ?_
  rw [join_empty]
  unfold blocks flat
  generalize stk l = st
  induction st with
  | nil => rfl
  | cons q r ih =>
    rw [List.map_cons, List.flatMap_cons, ih]
    simp [rend, render]
theorem while_end {st taken stR : List (Nat × List (Nat × Nat))} {d : Nat} (hs : st = taken ++ stR) (ht : ∀ q ∈ taken, d < q.1) (hn : ∀ q r, stR = q :: r → ¬ d < q.1) :
    st.takeWhile (fun q => decide (d < q.1)) = taken ∧ st.dropWhile (fun q => decide (d < q.1)) = stR := by
  subst hs
  induction taken with
  | nil =>
    cases stR with
    | nil => exact ⟨rfl, rfl⟩
    | cons q r =>
      have := hn q r rfl
      simp [List.takeWhile_cons, List.dropWhile_cons, this]
  | cons a taken ih =>
    have h1 := ht a List.mem_cons_self
    have h2 := ih fun q hq => ht q (List.mem_cons_of_mem _ hq)
    simp only [List.cons_append, List.takeWhile_cons, List.dropWhile_cons, h1, decide_true, if_true]
    exact ⟨by rw [h2.1], h2.2⟩
/-- a part that waits -/
def WaitIs (rT : Nat → List Nat) (rest : List (Addr × Obj)) (v : Value) (q : Nat × List (Nat × Nat)) : Prop := ∃ T t1 t2, v = .ref T ∧ (T, tupO [.int ((q.1 : Nat) : Int) t1, .str (rend rT q.2) t2]) ∈ rest
theorem WaitIs.mono {rT : Nat → List Nat} {rest rest' : List (Addr × Obj)} {v : Value} {q : Nat × List (Nat × Nat)} (h : WaitIs rT rest v q) (k : ∀ q ∈ rest, q ∈ rest') : WaitIs rT rest' v q :=
  let ⟨T, t1, t2, e, m⟩ := h; ⟨T, t1, t2, e, k _ m⟩
theorem str_app_len (a b : PySem.Str) : (a ++ b).length = a.length + b.length := by
  show (a.cps ++ b.cps).size = _
  rw [Array.size_append]; rfl
theorem rend_len {rT : Nat → List Nat} (hf : Fine rT) {l : List (Nat × Nat)} (h : ∀ e ∈ l, e.2 < 7 ∧ e.1 ≤ 20) (hl : l.length ≤ 10) : (rend rT l).length ≤ 2000 := by
  show (rend rT l).cps.size ≤ _
  have := render_len hf h
  simp only [rend, List.size_toArray]
  omega
theorem tx_len {rT : Nat → List Nat} (hf : Fine rT) {d : Nat} (h : d < 7) : (txOf rT d).length ≤ 10 := by
  unfold txOf
  split
  · exact Nat.zero_le _
  · show (List.toArray (38 :: rT d)).size ≤ 10
    have := (hf d (by omega) h).1
    rw [List.size_toArray, List.length_cons]
    omega
def waitD (rT : Nat → List Nat) (q : Nat × List (Nat × Nat)) : Dat := .tuple [.int ((q.1 : Nat) : Int), .str (rend rT q.2)]
theorem wait_dat {rT : Nat → List Nat} {rest : List (Addr × Obj)} : ∀ {wv : List Value} {st : List (Nat × List (Nat × Nat))}, Paired (WaitIs rT rest) wv st → DatAll rest wv (st.map (waitD rT))
  | _, _, .nil => .nil
  | _, _, .cons ⟨T, t1, t2, e, m⟩ tl => by
    subst e
    exact .cons (.tuple (vs := [.int _ t1, .str _ t2]) (n := 0) m (.cons (.int _ _) (.cons (.str _ _) .nil))) (wait_dat tl)
theorem wait_ok {rT : Nat → List Nat} (hf : Fine rT) {st : List (Nat × List (Nat × Nat))} (h : ∀ e ∈ flat st, e.2 < 7) : ∀ d ∈ st.map (waitD rT), kqdOk 8 d = true := by
  intro x hx
  obtain ⟨q, hq, rfl⟩ := List.mem_map.mp hx
  have := strOk_rend hf (l := q.2) fun e he => h e (List.mem_flatMap.mpr ⟨q, hq, he⟩)
  simp [waitD, kqdOk, this]
section
variable {w : World} {p : Program} {loose : List PySem.Str} {mean : ExcName → Option Value} {mg mb : PySem.Str → Option Value}
   {dp un : Nat} {gd : Option (List Code)} {cn : PySem.Str} {cs : PySem.Scope} {a : Addr} {ccd : Value} {cl : List (PySem.Str × Addr)} {outer : List Env} {A₀ : Around} {base h₀ : Heap} {L : Addr} {m : PySem.Str → Option Value} {news : List (Addr × Obj)} {s : Shared} {Q E : Value → Shared → Prop}

theorem one_len : ("&" : PySem.Str).length = 1 := rfl
set_option maxRecDepth 100000 in
set_option maxHeartbeats 8000000 in
theorem nested_spec (B : Below A₀ base outer h₀) (F : Fr h₀ L s.heap m) (X : (Mine.hd.heap_1 w.params).In h₀) (N : News h₀ L s.heap news) (T : Top p loose mean mg mb h₀) (hk : cs.kind = .function) (hd : dp + 60 < recursionLimit) (hu : un + 600 < cLine)
    {way n : Nat} (hw : way < 5) {R : Addr} {vs : List Value} {rT : Nat → List Nat} (hf : Fine rT) {deeds : List Nat} {t1 : Tok} (hR : (R, listOf (List.toArray vs) n) ∈ news) (hrs : RowsAre news vs (deeds.map (row (txOf rT)))) (h7 : ∀ d ∈ deeds, d < 7) (hdl : deeds.length ≤ 7)
    (ret : ∀ t h' tk', Fr h₀ L h' m → News h₀ L h' news → Q (.str (rend rT (blocks deeds)) t) { s with heap := h', toks := tk' }) :
    wpAny (model PySem.Challenge.rw_uk0024_01.row.prog w) (ktrTop dp un gd cn cs L a ccd cl outer) (call (.ref 280) [.int (way : Int) t1, .ref R]) Q E s := by
  k_with_none
  (k_with "ce1" => (refine' code_def ?k1Q9 ?k2Q9 ?k3Q9 ?k4Q9 ?k5Q9 ?kAQ9 ?kFQ9 ?kKQ9 ?k6Q9 ?k7Q9 ?k8Q9 ?k9Q9 ?kBQ9 ?_ ?c2Q9 ?c3Q9 ?c4Q9 ?c5Q9; (case kAQ9 => exact rfl); (case kFQ9 => exact rfl); (case kKQ9 => first | assumption | exact rfl); (case k1Q9 => k_asm); (case k2Q9 => k_asm); (case k3Q9 => k_asm); (case k4Q9 => k_asm); (case k5Q9 => k_asm); (case k6Q9 => k_is); (case k7Q9 => k_is); (case k8Q9 => ktr_room); (case k9Q9 => first | exact BindsTo.of_eq rfl | exact binds_K (by k_in) rfl (by k_is) rfl rfl rfl); (case c5Q9 => decide); (case kBQ9 => exact locs rfl); (case c2Q9 => exact rfl); (case c3Q9 => exact rfl); (case c4Q9 => exact rfl); k_whole))
  (k_with "ce2" => (refine' code_defC ?k1Q9 ?k2Q9 ?k3Q9 ?k4Q9 ?k5Q9 ?kAQ9 ?kFQ9 ?kKQ9 ?k6Q9 ?k7Q9 ?k8Q9 ?k9Q9 ?kBQ9 ?kDQ9 ?_ ?c2Q9 ?c3Q9 ?c4Q9; (case kAQ9 => exact rfl); (case kFQ9 => exact rfl); (case kKQ9 => first | assumption | exact rfl); (case k1Q9 => k_asm); (case k2Q9 => k_asm); (case k3Q9 => k_asm); (case k4Q9 => k_asm); (case k5Q9 => k_asm); (case k6Q9 => k_is); (case k7Q9 => k_is); (case k8Q9 => ktr_room); (case k9Q9 => first | exact BindsTo.of_eq rfl | exact binds_K (by k_in) rfl (by k_is) rfl rfl rfl); (case kBQ9 => exact rfl); (case kDQ9 => decide +kernel); (case c2Q9 => exact rfl); (case c3Q9 => exact rfl); (case c4Q9 => exact rfl); k_whole))
  (k_with "ktr_units" => ((have hcL9 := cLine_is; (simp only [Mine.units_make, PyProof.Rows.units_in1, PyProof.Rows.units_deeper, PySem.Around.mark_units, PyProof.Rows.units_caller, ktrTop] at *); omega)))
  (k_with "ktr_units" => ((simp only [Mine.units_make, PyProof.Rows.units_in1, PyProof.Rows.units_deeper, PySem.Around.mark_units, PyProof.Rows.units_caller]; first | exact Mine.fit2 (by with_reducible assumption) (by decide) | exact Mine.fit3 (by with_reducible assumption) (by decide) | fail "no")))
  (k_with "ktr_units" => (first | exact Mine.fit2 (d := (PySem.W.ktrTop _ _ _ _ _ _ _ _ _ _).units) (by assumption) (by decide) | exact Mine.fit3 (d := (PySem.W.ktrTop _ _ _ _ _ _ _ _ _ _).units) (by assumption) (by decide) | exact Mine.fit1 (d := (PySem.W.ktrTop _ _ _ _ _ _ _ _ _ _).units) (by assumption) (by decide) | fail "no"))
  (k_with "ktr_room" => (first | exact Mine.fit0 (d := (PySem.W.ktrTop _ _ _ _ _ _ _ _ _ _).depth) (by assumption) | exact Mine.fit2 (d := (PySem.W.ktrTop _ _ _ _ _ _ _ _ _ _).depth) (by assumption) (by decide) | exact Mine.fit3 (d := (PySem.W.ktrTop _ _ _ _ _ _ _ _ _ _).depth) (by assumption) (by decide) | exact Mine.fit1 (d := (PySem.W.ktrTop _ _ _ _ _ _ _ _ _ _).depth) (by assumption) (by decide) | fail "no"))
  (k_with "omega" => (first | (lia) | fail "no"))
  (k_with "omega" => (with_reducible first | exact Int.natCast_nonneg _ | exact Mine.le_cl (by decide) | exact Mine.lt_cl (by decide) | fail "no"))
  (k_with "simp" => (with_reducible first | exact List.mem_cons_self | (refine List.mem_cons_of_mem _ ?_; simp; done) | fail "no"))
  (k_with "simph" => (with_reducible first | assumption | exact List.mem_cons_of_mem _ (by assumption) | exact Or.inl (by assumption) | exact List.mem_append_left _ (by assumption) | exact List.mem_append_right _ (by assumption) | (refine List.mem_cons_of_mem _ ?_; k_extra "simph"; done) | (refine Or.inr ?_; k_extra "simph"; done) | fail "no"))
  (k_with "perm" => ((refine (?_ : ∀ q ∈ _, q ∈ _) _ (by assumption); (repeat (with_reducible refine List.forall_mem_cons.mpr ⟨by first | exact List.mem_cons_self | (refine List.mem_cons_of_mem _ ?_; simp; done), ?_⟩)); with_reducible (intro q hq; repeat (first | exact hq | refine List.mem_cons_of_mem _ ?_)))))
  (k_with "m_fru" => (first | (with_reducible refine frU_wrap ?_ (by decide); walk_at "m_fru") | exact rfl))
  (k_with "call builtin:len" => (((with_reducible show wpAny _ _ (call (Value.builtin "len") [Value.ref _]) _ _ _); k_dflt (refine' len_list ?lQ9 ?fQ9 ?_; (case lQ9 => exact News.isList (by k_asm) (by k_mem)); (case fQ9 => (simp only [List.size_toArray]; omega))); (try simp only [List.size_toArray]))))
  (k_with "m_go" => (repeat (
    (fail_if_success (with_reducible show wpAny _ _ (exec (PySem.Stmt.While _ _ _ _) _) _ _ _));
    (fail_if_success (with_reducible show wpAny _ _ (exec (PySem.Stmt.For _ _ _ _ _) _) _ _ _));
    (fail_if_success (with_reducible show wpAny _ _ (exec (PySem.Stmt.Assign _ (PySem.Expr.ListComp _ _ _ _) _) _) _ _ _));
    (fail_if_success (with_reducible show wpAny _ _ (eval (PySem.Expr.ListComp _ _ _ _) _) _ _ _));
    first | walk1 | (dsimp only; walk1))))
  (k_with "eval Name" => ((k_here; k_dflt (refine' nameX_L ?FQ9 ?vQ9 ?_ ?aQ9 ?bQ9; (case aQ9 => rfl); (case bQ9 => rfl); (case FQ9 => k_asm); (case vQ9 => first | exact rfl | assumption)))))
  (k_with "k_mem" => (first | assumption | exact List.Mem.head _ | (refine' List.Mem.tail _ ?_; k_mem)))
  (k_with "call builtin:str.lower" => ((refine SC.lower (by assumption) ?_)))
  (k_with "call builtin:str.index" => ((k_dflt (refine' index_low ?AQ9 ?eQ9 ?dQ9 ?_; (case AQ9 => rfl); (case eQ9 => assumption); (case dQ9 => assumption)))))
  (k_with "m_go5" => (repeat (
    (fail_if_success (with_reducible show wpAny _ _ (exec (PySem.Stmt.For _ _ _ _ _) _) _ _ _));
    (fail_if_success (with_reducible show wpAny _ _ (eval (PySem.Expr.ListComp _ _ _ _) _) _ _ _));
    (fail_if_success (with_reducible show wpAny _ _ (delItem _ _) _ _ _));
    (fail_if_success (with_reducible show wpAny _ _ (truthy (Value.bool (decide _))) _ _ _));
    (fail_if_success (with_reducible show wpAny _ _ (call (Value.ref 265) _) _ _ _));
    first | walk1 | (dsimp only; walk1))))
  (k_with "binaryOp Add str str" => ((refine PyProof.Rows.add_str (hsz := ?hszQ9) ?_; (case hszQ9 => (simp only [str_app_len, one_len, sizeLine_eq]; omega)); intro _ _; (try dsimp only))))
  (k_with "subscriptTail Name UnaryOp ref int" => ((k_dflt (refine' kim_back ?zNQ9 ?zmQ9 ?zcQ9 ?zdQ9 ?z0Q9 ?z1Q9 ?zfQ9 ?zxQ9 ?_ ?zsQ9 ?zgQ9; (case zNQ9 => k_asm); (case zmQ9 => k_mem); (case zcQ9 => exact rfl); (case zdQ9 => exact rfl); (case z0Q9 => decide); (case zxQ9 => assumption); (case z1Q9 => assumption); (case zfQ9 => decide); (case zsQ9 => with_unfolding_all rfl); (case zgQ9 => (intro _; with_unfolding_all rfl))))))
  (k_with "execs cons" => (refine wpAny_execs_cons ?_; k_fold))
  (k_with "walk1" => (k_unfold; (try dsimp only); (try clear ek); (try clear qk); walk1))
  revert X; k_fill; intro X
  have hvl : vs.length = deeds.length := by rw [hrs.length, List.length_map]
  refine wpAny_call ?_
  k_dflt cell_enter
  rename_i g' L' h' FG' F' N' B' X' T'
  walk_at "m_go"
  refine wpAny_For ?_
  iterate 9 (first | walk1 | (dsimp only; walk1))
  k_dflt (refine' krv_lit (its := vs.toArray) (zs := vs.reverse) ?zF ?zN ?zl (IsPart.int _ _) ?ze ?_ ?zs ?zt ?zz; (case zF => k_asm); (case zN => k_asm); (case zl => exact News.isList (by k_asm) (by k_mem)); (case ze => rfl); (case zs => with_unfolding_all rfl); (case zt => (intro _; with_unfolding_all rfl)); (case zz => (rw [List.size_toArray, sizeLine_eq]; omega)))
  intro SL h8 F8 N8 l8
  (try dsimp only)
  rename ∀ (p : Addr × Obj), p ∈ news → p.1 < _ => q4
  have N8' := News.swap2 N8
  obtain ⟨W, hW⟩ := News.first N8'
  subst hW
  have hSW := l8 (W, _) List.mem_cons_self
  refine for_listU (items := vs.reverse.toArray) ["name", "text", "deed", "inner"] rfl F8 N8' (fun i u nw => ∃ wv n1 rest, nw = (W, listOf (List.toArray wv) n1) :: rest ∧ (∀ q ∈ news, q ∈ rest) ∧ (SL, listOf (List.toArray vs.reverse) 0) ∈ rest ∧ (∀ q ∈ rest, q.1 ≠ W) ∧ Paired (WaitIs rT rest) wv (stk (deeds.drop (deeds.length - i))).reverse) ?_ ?_ ?_ ?_
  · refine ⟨[], 0, (SL, listOf (List.toArray vs.reverse) 0) :: news, rfl, fun q hq => List.mem_cons_of_mem _ hq, List.mem_cons_self, ?_, ?_⟩
    · intro q hq
      rcases List.mem_cons.mp hq with rfl | hq
      · exact Nat.ne_of_gt hSW
      · exact Nat.ne_of_lt (q4 q hq)
    · rw [Nat.sub_zero, List.drop_length]; exact .nil
  · rintro i u nw ⟨wv, n1, rest, rfl, sub, hS, -⟩
    exact .inr ⟨_, List.mem_cons_of_mem _ hS, rfl, _, rfl⟩
  · rintro i v u nw h tk I oI E' hv ⟨wv, n1, rest, rfl, sub, hS, hne, hst⟩ F9 N9 off9
    (try k_fold)
    have hiv : i < vs.length := by
      have := (List.getElem?_eq_some_iff.mp (show vs.reverse[i]? = some v by simpa using hv)).1
      simpa using this
    have hvr : vs[vs.length - 1 - i]? = some v := by
      have h1 : vs.reverse[i]? = some v := by simpa using hv
      rwa [List.getElem?_reverse hiv] at h1
    obtain ⟨⟨rk, rx⟩, hr, T, ta, tb, rfl, hm⟩ := paired_get hrs _ v hvr
    rw [List.getElem?_map] at hr
    obtain ⟨d, hd', e⟩ := Option.map_eq_some_iff.mp hr
    injection e with e1 e2
    subst e1 e2
    have hd7 := h7 d (List.mem_of_getElem? hd')
    have hlow := lower_big d hd7
    have hfd : Builtin.Str.tooLong (Txt.lower (big d)).length = false := lower_big d hd7 ▸ small_fit d hd7
    have hdrop : deeds.drop (deeds.length - (i + 1)) = d :: deeds.drop (deeds.length - i) := by
      have hl := (List.getElem?_eq_some_iff.mp hd').1
      rw [List.drop_eq_getElem_cons (by omega)]
      have e3 : deeds.length - (i + 1) = vs.length - 1 - i := by omega
      have e4 : deeds.length - (i + 1) + 1 = deeds.length - i := by omega
      rw [e4]
      congr 1
      have := (List.getElem?_eq_some_iff.mp hd').2
      simpa [e3] using this
    have hIW : I ≠ W := fun e => off9 _ List.mem_cons_self e.symm
    have hIr : ∀ q ∈ rest, q.1 ≠ I := fun q hq => off9 q (List.mem_cons_of_mem _ hq)
    have hsb : ∀ e ∈ blocks (deeds.drop (deeds.length - i)), e.2 < 7 ∧ e.1 ≤ 10 := by
      intro e he
      have a1 := blocks_dep _ e he
      have a2 : e.2 ∈ deeds.drop (deeds.length - i) := by rw [← blocks_snd (deeds.drop (deeds.length - i))]; exact List.mem_map_of_mem he
      rw [List.length_drop] at a1
      exact ⟨h7 _ (List.mem_of_mem_drop a2), by omega⟩
    have hsl : (blocks (deeds.drop (deeds.length - i))).length ≤ 7 := by rw [blocks_len, List.length_drop]; omega
    unfold blocks at hsb hsl
    generalize hstk : stk (deeds.drop (deeds.length - i)) = st at *
    obtain ⟨xd, hxd⟩ : ∃ x, x = txOf rT d := ⟨_, rfl⟩
    obtain ⟨xb, hxb⟩ : ∃ x, x = big d := ⟨_, rfl⟩
    dsimp only at hm
    rw [← hxd, ← hxb] at hm
    rw [← hxb] at hlow hfd
    have hxbl : (Txt.lower xb).length ≤ 10 := by
      rw [hlow]
      have : ∀ d, d < 7 → (small d).length ≤ 10 := by decide +kernel
      exact this d hd7
    have hxdl : xd.length ≤ 10 := by rw [hxd]; exact tx_len hf hd7
    have hstl : st.length ≤ 7 := by
      have := stk_len (deeds.drop (deeds.length - i))
      rw [hstk, List.length_drop] at this
      omega
    refine pair_assign rfl F9 N9 (News.isTup N9 (List.mem_cons_of_mem _ (List.mem_cons_of_mem _ (sub _ hm)))) rfl rfl rfl ?_
    intro h10 tk10 F10 N10
    (try dsimp only)
    walk_at "m_go"
    rename Fr g' L' _ _ => FW
    rename News g' L' _ _ => NW
    obtain ⟨mw, hmw, FX⟩ := Fr.nam FW
    clear FW
    refine wpAny_mono (Q := fun fl s' => MidT (fl = Flow.next ∧ ∃ h3 tk3 u3 wv1 n2 taken stR tI, s' = { s with heap := h3, toks := tk3 } ∧ Fr g' L' h3 (frU ["inner"] u3 mw) ∧ News g' L' h3 ((I, oI) :: (W, listOf (List.toArray wv1) n2) :: rest) ∧ Paired (WaitIs rT rest) wv1 stR.reverse ∧ st = taken ++ stR ∧ (∀ q ∈ taken, d < q.1) ∧ (∀ q r, stR = q :: r → ¬ d < q.1) ∧ u3 "inner" = some (.str (rend rT (flat taken)) tI))) ?_ (fun fl s' hfl => ?_) (fun _ _ h => h)
    · (try k_fold)
      subst hmw
      refine wpAny_While ?_
      refine while_U ["inner"] FX NW (fun k u nw => ∃ wv1 n2 taken stR tI, nw = (I, oI) :: (W, listOf (List.toArray wv1) n2) :: rest ∧ Paired (WaitIs rT rest) wv1 stR.reverse ∧ st = taken ++ stR ∧ (∀ q ∈ taken, d < q.1) ∧ u "inner" = some (.str (rend rT (flat taken)) tI) ∧ k = stR.length) st.length ?_ ?_
      · exact ⟨wv, n1, [], st, _, rfl, hst, rfl, (fun q hq => nomatch hq), rfl, rfl⟩
      · rintro k u1 nw h1 tk1 E2 ⟨wv1, n2, taken, stR, tI, rfl, hst1, hsp, htk, huI, rfl⟩ F2 N2
        have hwl : wv1.length = stR.length := by rw [hst1.length, List.length_reverse]
        have hnb : ∀ e ∈ flat taken ++ flat stR, e.2 < 7 ∧ e.1 ≤ 10 := by rw [← flat_app, ← hsp]; exact hsb
        have hnl : (flat taken ++ flat stR).length ≤ 7 := by rw [← flat_app, ← hsp]; exact hsl
        have hnt : ∀ e ∈ flat taken, e.2 < 7 ∧ e.1 ≤ 20 := fun e he => by have := hnb e (List.mem_append_left _ he); omega
        have hntl : (flat taken).length ≤ 10 := by rw [List.length_append] at hnl; omega
        obtain ⟨xi, hxi⟩ : ∃ x, x = rend rT (flat taken) := ⟨_, rfl⟩
        rw [← hxi] at huI
        have hxil : xi.length ≤ 2000 := by rw [hxi]; exact rend_len hf hnt (by rw [List.length_append] at hnl; omega)
        iterate 6 (first | walk1 | (dsimp only; walk1))
        (try dsimp only)
        have hsub2 : ∀ q ∈ rest, q ∈ ((I, oI) :: (W, listOf (List.toArray wv1) n2) :: rest) := fun q hq => List.mem_cons_of_mem _ (List.mem_cons_of_mem _ hq)
        rename News g' L' _ _ => NE
        k_dflt (refine' kqd_ne (n₁ := rest) (n₂ := []) (ds := stR.reverse.map (waitD rT)) (es := []) NE ?ma ?ca ?da (wait_dat hst1) ?sa ?mb ?cb ?db .nil (fun _ h => nomatch h) (wait_ok hf (fun e he => ?hz)) (fun _ h => nomatch h) ?hu ?_; (case ma => exact List.mem_cons_of_mem _ (List.mem_cons_of_mem _ List.mem_cons_self)); (case mb => exact List.mem_cons_self); (case ca => exact rfl); (case da => exact rfl); (case cb => exact rfl); (case db => exact rfl); (case sa => exact fun q hq => List.mem_cons_of_mem _ (hsub2 q hq)); (case hu => ktr_units))
        · have : e ∈ flat stR := by
            obtain ⟨q, hq, he⟩ := List.mem_flatMap.mp he
            exact List.mem_flatMap.mpr ⟨q, List.mem_reverse.mp hq, he⟩
          exact (hnb e (List.mem_append_right _ this)).1
        cases stR with
        | nil =>
          simp only [List.reverse_nil, List.map_nil, decide_true, Bool.not_true]
          walk_at "m_go5"
          rename Fr g' L' _ _ => FD
          rename News g' L' _ _ => ND
          (repeat k_unfold)
          unfold MidT
          exact ⟨rfl, _, _, _, wv1, n2, taken, [], _, rfl, FD, (fun q hq => ND q (List.mem_cons_of_mem _ hq)), hst1, hsp, htk, (by intro q r h; cases h), hxi ▸ huI⟩
        | cons q0 st0 =>
          have hne0 : ¬ ((q0 :: st0).reverse.map (waitD rT) = []) := by simp
          simp only [hne0, decide_false, Bool.not_false]
          rw [List.reverse_cons] at hst1
          obtain ⟨wvr, v0, rfl, hst2, T0, t01, t02, rfl, hmT⟩ := paired_unsnoc hst1
          have hx0 : (wvr ++ [Value.ref T0])[((-1 : Int) + (((wvr ++ [Value.ref T0]).length : Nat) : Int)).toNat]? = some (.ref T0) := by
            rw [List.length_append, List.length_singleton, show ((-1 : Int) + ((wvr.length + 1 : Nat) : Int)).toNat = wvr.length by omega]
            simp
          have hx1 : -(((wvr ++ [Value.ref T0]).length : Nat) : Int) ≤ -1 := by rw [List.length_append, List.length_singleton]; omega
          obtain ⟨xq, hxq⟩ : ∃ x, x = rend rT q0.2 := ⟨_, rfl⟩
          rw [← hxq] at hmT
          have hfq : flat (q0 :: st0) = q0.2 ++ flat st0 := rfl
          have hxql : xq.length ≤ 2000 := by
            rw [hxq]
            refine rend_len hf (fun e he => ?_) ?_
            · have := hnb e (List.mem_append_right _ (by rw [hfq]; exact List.mem_append_left _ he)); omega
            · rw [List.length_append, hfq, List.length_append] at hnl; omega
          walk_at "m_go5"
          have hneW : ∀ q ∈ ((I, oI) :: rest), q.1 ≠ W := by
            intro q hq
            rcases List.mem_cons.mp hq with rfl | hq
            · exact hIW
            · exact hne q hq
          by_cases hlt : d < q0.1
          · have hlt' : ((d : Nat) : Int) < ((q0.1 : Nat) : Int) := by omega
            rw [decide_eq_true hlt']
            walk_at "m_go5"
            rename Fr g' L' _ _ => FD
            rename News g' L' _ _ => ND
            refine del_L (R := W) (vs := wvr) (v := .ref T0) (n := n2) (news := (I, oI) :: rest) FD (fun q hq => ND q (by walk_at "perm")) hneW (by rw [hsp, List.length_append] at hstl; simp at hwl hstl; omega) ?_
            intro hX FX NX
            walk_at "m_go5"
            rename Fr g' L' _ _ => FY
            refine ⟨_, _, _, _, st0.length, rfl, by simp, FY, News.swap2 NX, _, frU_wrap rfl (by decide), wvr, _, taken ++ [q0], st0, _, rfl, hst2, by rw [hsp]; simp, ?_, congrArg (fun z : PySem.Str => some (Value.str z _)) (show xi ++ xq = rend rT (flat (taken ++ [q0])) by rw [flat_app, ← rend_append, ← hxi, show flat [q0] = q0.2 by simp [flat], ← hxq]), rfl⟩
            · intro q hq
              rcases List.mem_append.mp hq with hq | hq
              · exact htk q hq
              · rw [List.mem_singleton.mp hq]; exact hlt
          · have hlt' : ¬ ((d : Nat) : Int) < ((q0.1 : Nat) : Int) := by omega
            rw [decide_eq_false hlt']
            walk_at "m_go5"
            rename Fr g' L' _ _ => FD
            rename News g' L' _ _ => ND
            (repeat k_unfold)
            unfold MidT
            exact ⟨rfl, _, _, _, wvr ++ [Value.ref T0], n2, taken, q0 :: st0, _, rfl, FD, (fun q hq => ND q (List.mem_cons_of_mem _ hq)), (by rw [List.reverse_cons]; exact hst1), hsp, htk, (by intro q r h; cases h; exact hlt), hxi ▸ huI⟩
    · unfold MidT at hfl
      obtain ⟨rfl, h3, tk3, u1, wv9, n2, taken, stR, tI, rfl, FY, NY, hst1, hsp, htk, hnx, huI⟩ := hfl
      subst hmw
      clear FX NW
      (try dsimp only)
      have hwl : wv9.length = stR.length := by rw [hst1.length, List.length_reverse]
      have hnb : ∀ e ∈ flat taken ++ flat stR, e.2 < 7 ∧ e.1 ≤ 10 := by rw [← flat_app, ← hsp]; exact hsb
      have hnl : (flat taken ++ flat stR).length ≤ 7 := by rw [← flat_app, ← hsp]; exact hsl
      have hnt : ∀ e ∈ flat taken, e.2 < 7 ∧ e.1 ≤ 20 := fun e he => by have := hnb e (List.mem_append_left _ he); omega
      have hntl : (flat taken).length ≤ 10 := by rw [List.length_append] at hnl; omega
      obtain ⟨xi, hxi⟩ : ∃ x, x = rend rT (flat taken) := ⟨_, rfl⟩
      rw [← hxi] at huI
      have hxil : xi.length ≤ 2000 := by rw [hxi]; exact rend_len hf hnt (by rw [List.length_append] at hnl; omega)
      have hw9 : wv9.length ≤ 7 := by rw [hsp, List.length_append] at hstl; omega
      have hw9' : (List.toArray wv9).size ≤ 7 := by rw [List.size_toArray]; exact hw9
      have hend := while_end hsp htk hnx
      walk_at "m_go5"
      have hpart := part_is hf hw (l := flat taken) hnt hntl hd7
      rw [← hxi, ← hxd, ← hlow] at hpart
      obtain ⟨xh, hxh⟩ : ∃ x, x = escL (tbl way) xi := ⟨_, rfl⟩
      rw [← hxh] at hpart
      have hxhl : xh.length ≤ 2000 := by
        have h1 := congrArg PySem.Str.length hpart.2
        rw [str_app_len, str_app_len, str_app_len] at h1
        have h2 := rend_len hf (l := (0, d) :: (flat taken).map inc) (fun e he => by
          rcases List.mem_cons.mp he with rfl | he
          · exact ⟨hd7, Nat.zero_le _⟩
          · obtain ⟨x, hx, rfl⟩ := List.mem_map.mp he
            have := hnb x (List.mem_append_left _ hx)
            exact ⟨this.1, by show x.1 + 1 ≤ 20; omega⟩) (by simp only [List.length_cons, List.length_map]; rw [List.length_append] at hnl; omega)
        omega
      k_dflt (refine' handW_spec ?zB ?zF ?zX ?zN ?zT ?zk ?zd ?zu hw hpart.1 ?_; (case zB => k_asm); (case zF => k_asm); (case zX => k_asm); (case zN => k_asm); (case zT => k_asm); (case zk => exact rfl); (case zd => ktr_room); (case zu => ktr_units))
      intro th hh tkh FH NH
      rw [← hxh]
      walk_at "m_go5"
      rename _ ∧ _ ∧ AllLt _ rest => lD
      rename Fr g' L' _ _ => FZ
      rename News g' L' _ _ => NF
      obtain ⟨TD, hTD⟩ := News.first NF
      subst hTD
      have e5 : (List.toArray (wv9)).push (Value.ref TD) = List.toArray ((wv9) ++ [Value.ref TD]) := by simp
      rw [e5, hpart.2] at NF
      have NF2 := News.perm5 NF
      have e6 : stk (d :: deeds.drop (deeds.length - i)) = (d, (0, d) :: (flat taken).map inc) :: stR := by
        show (d, (0, d) :: (((stk (deeds.drop (deeds.length - i))).takeWhile fun q => decide (d < q.1)).flatMap (·.2)).map inc) :: (stk (deeds.drop (deeds.length - i))).dropWhile _ = _
        rw [hstk, hend.1, hend.2]; rfl
      (repeat k_unfold)
      refine ⟨_, _, _, _, rfl, FZ, NF2, ?_, _, frU_sub (frU_wrap (frU_wrap (frU_wrap (frU_wrap rfl (by decide)) (by decide)) (by decide)) (by decide)) (by decide), _, _, _, rfl, fun q hq => List.mem_cons_of_mem _ (sub q hq), List.mem_cons_of_mem _ hS, ?_, ?_⟩
      · intro q hq
        simp only [List.mem_cons] at hq
        rcases hq with rfl | rfl | hq
        · exact hIW.symm
        · exact Nat.ne_of_gt lD.1
        · exact hIr q hq
      · intro q hq
        rcases List.mem_cons.mp hq with rfl | hq
        · exact Nat.ne_of_gt lD.2.1
        · exact hne q hq
      · rw [hdrop, e6, List.reverse_cons]
        exact Paired.snoc (Mine.Paired.mono (fun _ _ h => WaitIs.mono h fun q hq => List.mem_cons_of_mem _ hq) hst1) ⟨TD, _, _, rfl, List.mem_cons_self⟩
  · rintro u nw h tk ⟨wv, n1, rest, rfl, sub, hS, hne, hst⟩ F9 N9
    (try dsimp only)
    have hsz9 : (List.toArray vs.reverse).size = deeds.length := by rw [List.size_toArray, List.length_reverse, hvl]
    rw [hsz9, Nat.sub_self, List.drop_zero] at hst
    have hst9 : Paired (WaitIs rT rest) wv.reverse (stk deeds) := by have := paired_rev hst; rwa [List.reverse_reverse] at this
    have hskl := stk_len deeds
    have hwvl : wv.length = (stk deeds).length := by rw [hst.length, List.length_reverse]
    walk_at "m_go"
    rename Fr g' L' _ _ => FA
    rename News g' L' _ _ => NA
    refine eval_tail (cl := []) FA (by with_unfolding_all rfl) rfl (by decide) ?_ (by intro _; with_unfolding_all rfl)
    iterate 9 (first | walk1 | (dsimp only; walk1))
    k_dflt (refine' krv_lit (its := List.toArray wv) (zs := wv.reverse) ?yF ?yN ?yl (IsPart.int _ _) ?ye ?_ ?ys ?yt ?yz; (case yF => k_asm); (case yN => k_asm); (case yl => exact News.isList (by k_asm) (by k_mem)); (case ye => rfl); (case ys => with_unfolding_all rfl); (case yt => (intro _; with_unfolding_all rfl)); (case yz => (rw [List.size_toArray, sizeLine_eq]; omega)))
    intro S2 hB FB NB lB
    (try dsimp only)
    obtain ⟨tx9, htx9⟩ : ∃ f : Nat × List (Nat × Nat) → PySem.Str, f = fun q => rend rT q.2 := ⟨_, rfl⟩
    refine tail_list (its := List.toArray wv.reverse) rfl FB NB (by rw [List.size_toArray, List.length_reverse, sizeLine_eq]; omega) (by decide) rfl (fun i ys nw => nw = _ ∧ Paired StrIs ys (((stk deeds).take i).map tx9)) ⟨rfl, .nil⟩ (fun i ys nw h => .inr ⟨_, h.1 ▸ List.mem_cons_self, rfl, _, rfl⟩) ?_ ?_
    · rintro iq v ys nw I2 oI2 C oC D m₁ h tk E' hiq hvq ⟨rfl, hys⟩ hC FC NC off ne2 hCL hC₀
      obtain ⟨q, hq, T, ta, tb, rfl, hm⟩ := paired_get hst9 iq v (by simpa using hvq)
      refine comp_pair_assign rfl FC NC hC off ne2 hCL hC₀ (News.isTup NC (List.mem_cons_of_mem _ (List.mem_cons_of_mem _ (List.mem_cons_of_mem _ (List.mem_cons_of_mem _ (List.mem_cons_of_mem _ hm)))))) rfl rfl rfl ?_
      intro h4 tk4 oC4 FD ND hC4
      refine wpAny_tests_nil ?_
      (try dsimp only)
      rw [if_pos rfl]
      refine LCgL.ld_own ND (List.mem_cons_of_mem _ List.mem_cons_self) hC4 rfl ?_
      (repeat k_unfold)
      refine ⟨_, _, _, _, _, rfl, FD, ND, hC4, off, rfl, ?_⟩
      rw [List.take_add_one, hq, List.map_append]
      exact hys.snoc ⟨tb, by rw [htx9]⟩
    · rintro ys nw ⟨rfl, hys⟩
      intro D h tk FC NC off
      (try dsimp only)
      have hyl : (List.toArray wv.reverse).size = (stk deeds).length := by rw [List.size_toArray, List.length_reverse, hwvl]
      rw [hyl, List.take_length] at hys
      walk_at "m_go"
      rename News g' L' _ _ => NE
      refine join_list (News.isList NE List.mem_cons_self) (ys := (stk deeds).map tx9) (strs_of hys) ?_ ?_
      · have e0 : ("" : PySem.Str).length = 0 := rfl
        rw [e0, List.map_map]
        have h1 := sum_le (f := PySem.Str.length ∘ tx9) (c := 2000) (l := stk deeds) (fun q hq => by
          subst htx9
          refine rend_len hf (fun e he => ?_) ?_
          · have hm : e ∈ blocks deeds := List.mem_flatMap.mpr ⟨q, hq, he⟩
            have a1 := blocks_dep deeds e hm
            have a2 : e.2 ∈ deeds := by
              have := List.mem_map_of_mem (f := fun e : Nat × Nat => e.2) hm
              rwa [blocks_snd] at this
            exact ⟨h7 _ a2, by omega⟩
          · have a3 := flat_part hq
            have a4 := blocks_len deeds
            unfold blocks at a4
            omega)
        have h2 : (stk deeds).length * 2000 ≤ 7 * 2000 := Nat.mul_le_mul_right _ (by omega)
        show (List.map (PySem.Str.length ∘ tx9) (stk deeds)).sum + (List.map tx9 (stk deeds)).length * 0 ≤ 16777216
        omega
      intro t' k'
      rw [htx9, join_rend]
      walk_at "m_go"
      rename News h₀ L _ _ => NF
      exact ret _ _ _ (by k_asm) (fun q hq => NF q (by simp [sub q hq]))
end
end Mine
end
section
open PySem PySem.W PyProof.Rows PyProof.V PySem.Spec
namespace Mine
set_option maxHeartbeats 4000000
open PyProof.Rows.LCg (SrcAt NsObj Off3 Off1 lst FinE)
section
variable {w : World} {p : Program} {loose : List PySem.Str} {mean : ExcName → Option Value} {mg mb : PySem.Str → Option Value}
   {dp un : Nat} {gd : Option (List Code)} {cn : PySem.Str} {cs : PySem.Scope} {a : Addr} {ccd : Value} {cl : List (PySem.Str × Addr)} {outer : List Env} {A₀ : Around} {base h₀ : Heap} {L : Addr} {m : PySem.Str → Option Value} {news : List (Addr × Obj)} {s : Shared} {Q E : Value → Shared → Prop}

theorem News.rot3 {h₀ h : Heap} {L : Addr} {a b c : Addr × Obj} {l : List (Addr × Obj)} (N : News h₀ L h (a :: b :: c :: l)) : News h₀ L h (c :: b :: a :: l) :=
  fun q hq => N q (by walk_at "perm")
theorem range_two (m : Nat) : Builtin.Range.rangeSize 2 ((2 + 2 * m : Nat) : Int) 2 = (m : Int) := by
  unfold Builtin.Range.rangeSize
  rw [if_pos (by omega)]
  split <;> omega
theorem range_small2 {m : Nat} (h : m ≤ 7) : Builtin.Range.small 2 ((2 + 2 * m : Nat) : Int) 2 = true := by
  have : ∀ m : Fin 8, Builtin.Range.small 2 ((2 + 2 * (m : Nat) : Nat) : Int) 2 = true := by decide +kernel
  exact this ⟨m, by omega⟩
theorem strs_get : ∀ {vs : List Value} {xs : List PySem.Str}, StrsAre vs xs → ∀ {i : Nat} {x : PySem.Str}, xs[i]? = some x → ∃ t, vs[i]? = some (.str x t)
  | _, _, .cons a t _, 0, x, h => by
    simp at h
    exact ⟨t, by simp [h]⟩
  | _, _, .cons a t tl, i + 1, x, h => by
    have := strs_get tl (i := i) (x := x) (by simpa using h)
    simpa using this
set_option maxRecDepth 100000 in
set_option maxHeartbeats 8000000 in
theorem read_spec (B : Below A₀ base outer h₀) (F : Fr h₀ L s.heap m) (X : (Mine.hd.heap_1 w.params).In h₀) (N : News h₀ L s.heap news) (T : Top p loose mean mg mb h₀) (hk : cs.kind = .function) (hd : dp + 60 < recursionLimit) (hu : un + 600 < cLine)
    {page : PySem.Str} {parts : List PySem.Str} {t1 : Tok} {m9 : Nat} {pA pB : Nat → PySem.Str} {dd : Nat → Nat} {tx : Nat → PySem.Str} (hpl : page.length ≤ 2000) (hsp : Txt.split page "&" = parts) (hpn : parts.length = 2 + 2 * m9) (hm9 : m9 ≤ 7) (hp1 : parts[1]? = some ("a" : PySem.Str)) (htx0 : tx 0 = "") (htxl : ∀ d, d < 7 → (tx d).length ≤ 100)
    (hA : ∀ i, i < m9 → parts[2 + 2 * i]? = some (pA i)) (hB : ∀ i, i < m9 → parts[3 + 2 * i]? = some (pB i)) (hd7 : ∀ i, i < m9 → dd i < 7) (hAl : ∀ i, i < m9 → (pA i).length ≤ 200) (hBl : ∀ i, i < m9 → (pB i).length ≤ 200)
    (hsA : ∀ i, i < m9 → Txt.slice (pA i) (some (-1)) none = small (dd i)) (hsB : ∀ i, i < m9 → "&" ++ Txt.slice (pB i) (some (((pA i).length : Int) - 1)) none = tx (dd i))
    (ret : ∀ D rv n fr h' tk', Fr h₀ L h' m → News h₀ L h' ((D, listOf (List.toArray rv) n) :: (fr ++ news)) → (∀ q ∈ fr, ∀ p ∈ news, p.1 < q.1) → (∀ q ∈ fr, q.1 ≠ D) → (∀ q ∈ news, q.1 < D) → RowsAre fr rv ((0 :: (List.range m9).map dd).map (row tx)) → Q (.ref D) { s with heap := h', toks := tk' }) :
    wpAny (model PySem.Challenge.rw_uk0024_01.row.prog w) (ktrTop dp un gd cn cs L a ccd cl outer) (call (.ref 287) [.str page t1]) Q E s := by
  k_with_none
  (k_with "ce1" => (refine' code_def ?k1Q9 ?k2Q9 ?k3Q9 ?k4Q9 ?k5Q9 ?kAQ9 ?kFQ9 ?kKQ9 ?k6Q9 ?k7Q9 ?k8Q9 ?k9Q9 ?kBQ9 ?_ ?c2Q9 ?c3Q9 ?c4Q9 ?c5Q9; (case kAQ9 => exact rfl); (case kFQ9 => exact rfl); (case kKQ9 => first | assumption | exact rfl); (case k1Q9 => k_asm); (case k2Q9 => k_asm); (case k3Q9 => k_asm); (case k4Q9 => k_asm); (case k5Q9 => k_asm); (case k6Q9 => k_is); (case k7Q9 => k_is); (case k8Q9 => ktr_room); (case k9Q9 => first | exact BindsTo.of_eq rfl | exact binds_K (by k_in) rfl (by k_is) rfl rfl rfl); (case c5Q9 => decide); (case kBQ9 => exact locs rfl); (case c2Q9 => exact rfl); (case c3Q9 => exact rfl); (case c4Q9 => exact rfl); k_whole))
  (k_with "ce2" => (refine' code_defC ?k1Q9 ?k2Q9 ?k3Q9 ?k4Q9 ?k5Q9 ?kAQ9 ?kFQ9 ?kKQ9 ?k6Q9 ?k7Q9 ?k8Q9 ?k9Q9 ?kBQ9 ?kDQ9 ?_ ?c2Q9 ?c3Q9 ?c4Q9; (case kAQ9 => exact rfl); (case kFQ9 => exact rfl); (case kKQ9 => first | assumption | exact rfl); (case k1Q9 => k_asm); (case k2Q9 => k_asm); (case k3Q9 => k_asm); (case k4Q9 => k_asm); (case k5Q9 => k_asm); (case k6Q9 => k_is); (case k7Q9 => k_is); (case k8Q9 => ktr_room); (case k9Q9 => first | exact BindsTo.of_eq rfl | exact binds_K (by k_in) rfl (by k_is) rfl rfl rfl); (case kBQ9 => exact rfl); (case kDQ9 => decide +kernel); (case c2Q9 => exact rfl); (case c3Q9 => exact rfl); (case c4Q9 => exact rfl); k_whole))
  (k_with "ktr_units" => ((have hcL9 := cLine_is; (simp only [Mine.units_make, PyProof.Rows.units_in1, PyProof.Rows.units_deeper, PySem.Around.mark_units, PyProof.Rows.units_caller, ktrTop] at *); omega)))
  (k_with "ktr_units" => ((simp only [Mine.units_make, PyProof.Rows.units_in1, PyProof.Rows.units_deeper, PySem.Around.mark_units, PyProof.Rows.units_caller]; first | exact Mine.fit2 (by with_reducible assumption) (by decide) | exact Mine.fit3 (by with_reducible assumption) (by decide) | fail "no")))
  (k_with "ktr_units" => (first | exact Mine.fit2 (d := (PySem.W.ktrTop _ _ _ _ _ _ _ _ _ _).units) (by assumption) (by decide) | exact Mine.fit3 (d := (PySem.W.ktrTop _ _ _ _ _ _ _ _ _ _).units) (by assumption) (by decide) | exact Mine.fit1 (d := (PySem.W.ktrTop _ _ _ _ _ _ _ _ _ _).units) (by assumption) (by decide) | fail "no"))
  (k_with "ktr_room" => (first | exact Mine.fit0 (d := (PySem.W.ktrTop _ _ _ _ _ _ _ _ _ _).depth) (by assumption) | exact Mine.fit2 (d := (PySem.W.ktrTop _ _ _ _ _ _ _ _ _ _).depth) (by assumption) (by decide) | exact Mine.fit3 (d := (PySem.W.ktrTop _ _ _ _ _ _ _ _ _ _).depth) (by assumption) (by decide) | exact Mine.fit1 (d := (PySem.W.ktrTop _ _ _ _ _ _ _ _ _ _).depth) (by assumption) (by decide) | fail "no"))
  (k_with "omega" => (first | (lia) | fail "no"))
  (k_with "omega" => (with_reducible first | exact Int.natCast_nonneg _ | exact Mine.le_cl (by decide) | exact Mine.lt_cl (by decide) | fail "no"))
  (k_with "simp" => (with_reducible first | exact List.mem_cons_self | (refine List.mem_cons_of_mem _ ?_; simp; done) | fail "no"))
  (k_with "simph" => (with_reducible first | assumption | exact List.mem_cons_of_mem _ (by assumption) | exact Or.inl (by assumption) | exact List.mem_append_left _ (by assumption) | exact List.mem_append_right _ (by assumption) | (refine List.mem_cons_of_mem _ ?_; k_extra "simph"; done) | (refine Or.inr ?_; k_extra "simph"; done) | fail "no"))
  (k_with "perm" => ((refine (?_ : ∀ q ∈ _, q ∈ _) _ (by assumption); (repeat (with_reducible refine List.forall_mem_cons.mpr ⟨by first | exact List.mem_cons_self | (refine List.mem_cons_of_mem _ ?_; simp; done), ?_⟩)); with_reducible (intro q hq; repeat (first | exact hq | refine List.mem_cons_of_mem _ ?_)))))
  (k_with "m_fru" => (first | (with_reducible refine frU_wrap ?_ (by decide); walk_at "m_fru") | exact rfl))
  (k_with "call builtin:len" => (((with_reducible show wpAny _ _ (call (Value.builtin "len") [Value.ref _]) _ _ _); k_dflt (refine' len_list ?lQ9 ?fQ9 ?_; (case lQ9 => exact News.isList (by k_asm) (by k_mem)); (case fQ9 => (simp only [List.size_toArray]; omega))); (try simp only [List.size_toArray]))))
  (k_with "m_go" => (repeat (
    (fail_if_success (with_reducible show wpAny _ _ (exec (PySem.Stmt.While _ _ _ _) _) _ _ _));
    (fail_if_success (with_reducible show wpAny _ _ (exec (PySem.Stmt.For _ _ _ _ _) _) _ _ _));
    (fail_if_success (with_reducible show wpAny _ _ (exec (PySem.Stmt.Assign _ (PySem.Expr.ListComp _ _ _ _) _) _) _ _ _));
    (fail_if_success (with_reducible show wpAny _ _ (eval (PySem.Expr.ListComp _ _ _ _) _) _ _ _));
    first | walk1 | (dsimp only; walk1))))
  (k_with "eval Name" => ((k_here; k_dflt (refine' nameX_L ?FQ9 ?vQ9 ?_ ?aQ9 ?bQ9; (case aQ9 => rfl); (case bQ9 => rfl); (case FQ9 => k_asm); (case vQ9 => first | exact rfl | assumption)))))
  (k_with "k_mem" => (first | assumption | exact List.Mem.head _ | (refine' List.Mem.tail _ ?_; k_mem)))
  (k_with "m_go6" => (repeat (
    (fail_if_success (with_reducible show wpAny _ _ (exec (PySem.Stmt.For _ _ _ _ _) _) _ _ _));
    (fail_if_success (with_reducible show wpAny _ _ (subscriptTail _ _ (Value.ref _) (Value.int _ _)) _ _ _));
    (fail_if_success (with_reducible show wpAny _ _ (call (Value.builtin "str.split") _) _ _ _));
    (fail_if_success (with_reducible show wpAny _ _ (call (Value.builtin "list.append") _) _ _ _));
    first | walk1 | (dsimp only; walk1))))
  (k_with "m_go7" => (repeat (
    (fail_if_success (with_reducible show wpAny _ _ (subscriptTail _ _ (Value.ref _) (Value.int _ _)) _ _ _));
    (fail_if_success (with_reducible show wpAny _ _ (call (Value.builtin "list.append") _) _ _ _));
    first | walk1 | (dsimp only; walk1))))
  (k_with "subscriptTail Name Name ref int" => ((k_dflt (refine' item_list ?lQ9 ?aQ9 ?bQ9 ?cQ9 ?_; (case lQ9 => exact News.isList (by k_asm) (by k_mem)); (case cQ9 => assumption); (case aQ9 => assumption); (case bQ9 => assumption)))))
  (k_with "subscriptTail Name BinOp ref int" => ((k_dflt (refine' item_list ?lQ9 ?aQ9 ?bQ9 ?cQ9 ?_; (case lQ9 => exact News.isList (by k_asm) (by k_mem)); (case cQ9 => assumption); (case aQ9 => assumption); (case bQ9 => assumption)))))
  (k_with "subscriptTail Constant Name str int" => ((refine item_str (fitsSsize_of (N := 9223372036854775808) (by omega) (by omega) (Int.le_refl _)) (by omega) ?h2Q9 ?_; (case h2Q9 => (refine Int.lt_of_lt_of_le (b := 7) (by omega) (by decide +kernel))); intro _; (try dsimp only))))
  (k_with "call builtin:str.index" => ((k_dflt (refine' index_low ?AQ9 ?eQ9 ?dQ9 ?_; (case AQ9 => rfl); (case eQ9 => assumption); (case dQ9 => assumption)))))
  (k_with "binaryOp Add str str" => ((refine PyProof.Rows.add_str (hsz := ?hszQ9) ?_; (case hszQ9 => (simp only [str_app_len, one_len, sizeLine_eq]; omega)); intro _ _; (try dsimp only))))
  (k_with "execs cons" => (refine wpAny_execs_cons ?_; k_fold))
  (k_with "walk1" => (k_unfold; (try dsimp only); (try clear ek); (try clear qk); walk1))
  revert X; k_fill; intro X
  refine wpAny_call ?_
  k_dflt cell_enter
  rename_i g' L' h' FG' F' N' B' X' T'
  walk_at "m_go6"
  rename Fr g' L' _ _ => F1
  rename News g' L' _ _ => N1
  refine splitN1A F1 N1 rfl ?_ (by rw [sizeLine_eq]; omega)
  intro l hS kS e1 e2 e3 e4 F2 N2
  rw [hsp] at e1
  rw [e1] at e2
  obtain ⟨SP, hSP⟩ := News.first N2
  have q3 : ∀ p ∈ news, p.1 < SP := fun p hp => hSP ▸ Heap.lt_size (N1 p hp).1
  rw [← hSP] at N2 ⊢
  generalize hlv : strValues l = pv at *
  have hpvl : pv.length = parts.length := e2.length
  have get : ∀ i x, parts[i]? = some x → ∃ t, pv[i]? = some (Value.str x t) := fun i x hx => strs_get e2 hx
  obtain ⟨t9, hp9⟩ := get 1 _ hp1
  walk_at "m_go6"
  k_dflt (refine' item_list ?zl ?za ?zb ?zc ?_; (case zl => exact News.isList (by k_asm) (by k_mem)); (case za => decide); (case zb => decide); (case zc => (rw [List.getElem?_toArray]; exact hp9)))
  walk_at "m_go6"
  refine wpAny_For ?_
  walk_at "m_go6"
  rename IsRange _ _ _ _ _ _ _ _ => hr
  rename Fr g' L' _ _ => F3
  rename News g' L' _ _ => N3
  rename _ ∧ _ ∧ AllLt _ news => q1
  rename _ ∧ AllLt _ news => q2
  obtain ⟨RW, hRW⟩ := News.first N3
  subst hRW
  have e9 : ((pv.length : Nat) : Int) = ((2 + 2 * m9 : Nat) : Int) := by rw [hpvl, hpn]
  rw [e9] at hr
  refine for_rangeU (n := m9) ["k", "deed"] rfl hr (range_small2 hm9) (range_two m9) F3 N3 (fun i u nw => ∃ rv n1 fr, nw = (RW, listOf (List.toArray rv) n1) :: (fr ++ news) ∧ (∀ q ∈ fr, ∀ p ∈ news, p.1 < q.1) ∧ (SP, listOf (List.toArray pv) 0) ∈ fr ∧ (∀ q ∈ fr, q.1 ≠ RW) ∧ RowsAre fr rv ((0 :: (List.range i).map dd).map (row tx))) ?_ ?_ ?_
  · refine ⟨[.ref _], _, [_, _], rfl, ?_, by simp [W.listOf], ?_, ?_⟩
    · intro q hq p hp
      simp only [List.mem_cons, List.not_mem_nil, or_false] at hq
      rcases hq with rfl | rfl
      · exact allLt_of q2.2 p hp
      · exact q3 p hp
    · intro q hq
      simp only [List.mem_cons, List.not_mem_nil, or_false] at hq
      rcases hq with rfl | rfl
      · exact Nat.ne_of_lt q1.1
      · exact Nat.ne_of_lt q1.2.1
    · refine .cons ?_ .nil
      have b0 : (row tx 0) = (("a" : PySem.Str), ("" : PySem.Str)) := by
        show (big 0, tx 0) = _
        rw [htx0, show big 0 = "a" by decide +kernel]
      rw [b0]
      exact ⟨_, _, _, rfl, List.mem_cons_self⟩
  · rintro i t' u nw h tk I oI E' hi ⟨rv, n1, fr, rfl, sub, hSf, hne, hst⟩ F9 N9 off9
    (try k_fold)
    obtain ⟨rest, hrest⟩ : ∃ rest, rest = fr ++ news := ⟨_, rfl⟩
    rw [← hrest] at N9 off9
    have hS : (SP, listOf (List.toArray pv) 0) ∈ rest := hrest ▸ List.mem_append_left _ hSf
    have hneR : ∀ q ∈ rest, q.1 ≠ RW := by
      rw [hrest]; intro q hq
      rcases List.mem_append.mp hq with hq | hq
      · exact hne q hq
      · exact Nat.ne_of_lt (allLt_of q1.2.2 q hq)
    obtain ⟨xa, hxa⟩ : ∃ x, x = pA i := ⟨_, rfl⟩
    obtain ⟨xb, hxb⟩ : ∃ x, x = pB i := ⟨_, rfl⟩
    obtain ⟨d, hd⟩ : ∃ x, x = dd i := ⟨_, rfl⟩
    have a1 := hA i hi; have a2 := hB i hi; have d7 := hd7 i hi; have la := hAl i hi; have lb := hBl i hi; have sa := hsA i hi; have sb := hsB i hi
    rw [← hxa] at a1 la sa
    rw [← hxb] at a2 lb
    rw [← hd] at d7 sa
    rw [← hd, ← hxa, ← hxb] at sb
    obtain ⟨ta, ha⟩ := get _ _ a1
    obtain ⟨tb, hb⟩ := get _ _ a2
    have f1 : (0 : Int) ≤ 2 + (i : Int) * 2 := by omega
    have f2 : 2 + (i : Int) * 2 < 2 ^ 63 := by omega
    have f3 : (List.toArray pv)[(2 + (i : Int) * 2).toNat]? = some (.str xa ta) := by rw [List.getElem?_toArray, show (2 + (i : Int) * 2).toNat = 2 + 2 * i by omega]; exact ha
    have g1 : (0 : Int) ≤ 2 + (i : Int) * 2 + 1 := by omega
    have g2 : 2 + (i : Int) * 2 + 1 < 2 ^ 63 := by omega
    have g3 : (List.toArray pv)[(2 + (i : Int) * 2 + 1).toNat]? = some (.str xb tb) := by rw [List.getElem?_toArray, show (2 + (i : Int) * 2 + 1).toNat = 3 + 2 * i by omega]; exact hb
    have lsl : (Txt.slice xb (some ((xa.length : Int) - 1)) none).length ≤ 100 := by
      have h1 := congrArg PySem.Str.length sb
      have h2 := htxl d d7
      rw [str_app_len] at h1
      omega
    have hIR : I ≠ RW := fun e => off9 _ List.mem_cons_self e.symm
    have hIr : ∀ q ∈ rest, q.1 ≠ I := fun q hq => off9 q (List.mem_cons_of_mem _ hq)
    have hrvl : rv.length = i + 1 := by have := hst.length; simpa using this
    walk_at "m_go7"
    k_dflt (refine' item_list ?zl1 ?za1 ?zb1 ?zc1 ?_; (case zl1 => exact News.isList (by k_asm) (by k_mem)); (case zc1 => exact f3); (case za1 => exact f1); (case zb1 => exact f2))
    walk_at "m_go7"
    k_dflt (refine' item_list ?zl2 ?za2 ?zb2 ?zc2 ?_; (case zl2 => exact News.isList (by k_asm) (by k_mem)); (case zc2 => exact g3); (case za2 => exact g1); (case zb2 => exact g2))
    walk_at "m_go7"
    k_dflt (refine' item_list ?zl3 ?za3 ?zb3 ?zc3 ?_; (case zl3 => exact News.isList (by k_asm) (by k_mem)); (case zc3 => exact f3); (case za3 => exact f1); (case zb3 => exact f2))
    walk_at "m_go7"
    rename _ ∧ _ ∧ AllLt _ rest => lD
    rename Fr g' L' _ _ => FD
    rename News g' L' _ _ => ND
    obtain ⟨TD, hTD⟩ := News.first ND
    subst hTD
    rw [sb] at ND
    refine append_L FD (News.rot3 ND) ?_ (by omega) ?_
    · intro q hq
      simp only [List.mem_cons] at hq
      rcases hq with rfl | rfl | hq
      · exact hIR
      · exact Nat.ne_of_gt lD.2.1
      · exact hneR q hq
    intro hX FX NX
    walk_at "m_go7"
    rename Fr g' L' _ _ => FZ
    rw [hrest] at NX
    have hll : ∀ q ∈ rest, q.1 < TD := allLt_of lD.2.2
    (repeat k_unfold)
    refine ⟨_, _, _, _, rfl, FZ, News.swap2 NX, ?_, _, frU_wrap (frU_wrap rfl (by decide)) (by decide), _, _, (TD, _) :: fr, rfl, ?_, List.mem_cons_of_mem _ hSf, ?_, ?_⟩
    · intro q hq
      simp only [List.mem_cons] at hq
      rcases hq with rfl | rfl | hq
      · exact hIR.symm
      · exact Nat.ne_of_gt lD.1
      · exact hIr q (hrest ▸ hq)
    · intro q hq p hp
      rcases List.mem_cons.mp hq with rfl | hq
      · exact hll p (hrest ▸ List.mem_append_right _ hp)
      · exact sub q hq p hp
    · intro q hq
      rcases List.mem_cons.mp hq with rfl | hq
      · exact Nat.ne_of_gt lD.2.1
      · exact hne q hq
    · rw [List.range_succ, List.map_append, ← List.cons_append, List.map_append]
      refine Paired.snoc (Mine.Paired.mono (fun _ _ h => RowIs.mono h fun q hq => List.mem_cons_of_mem _ hq) hst) ?_
      show RowIs _ _ (row tx (dd i))
      rw [← hd]
      exact ⟨_, _, _, rfl, List.mem_cons_self⟩
  · rintro u nw h tk ⟨rv, n1, fr, rfl, sub, hS, hne, hst⟩ F9 N9
    (try dsimp only)
    walk_at "m_go6"
    rename News h₀ L _ _ => NN
    exact ret _ _ _ _ _ _ (by k_asm) NN sub hne (fun q hq => allLt_of q1.2.2 q hq) hst
end
end Mine
end
section
open PySem PySem.W PyProof.Rows PyProof.V PySem.Spec
namespace Mine
set_option maxHeartbeats 4000000
theorem join_parts (c : Nat) (p q : PySem.Str) (r : List PySem.Str) : (Str.join ⟨#[c]⟩ (p :: q :: r)).cps.toList = p.cps.toList ++ c :: (Str.join ⟨#[c]⟩ (q :: r)).cps.toList := by
  show (p ++ ⟨#[c]⟩ ++ Str.join ⟨#[c]⟩ (q :: r)).cps.toList = _
  rw [PySem.Str.cps_append, PySem.Str.cps_append, Array.toList_append, Array.toList_append]
  simp
theorem free_cut {c : Nat} : ∀ {a b x y : List Nat}, c ∉ a → c ∉ b → a ++ c :: x = b ++ c :: y → a = b ∧ x = y
  | [], [], x, y, _, _, h => by simp at h; exact ⟨rfl, h⟩
  | [], k :: b, x, y, _, hb, h => by simp at h; exact absurd (h.1 ▸ List.mem_cons_self) hb
  | k :: a, [], x, y, ha, _, h => by simp at h; exact absurd (h.1 ▸ List.mem_cons_self) ha
  | k :: a, l :: b, x, y, ha, hb, h => by
    simp at h
    obtain ⟨rfl, h⟩ := h
    obtain ⟨h1, h2⟩ := free_cut (fun m => ha (List.mem_cons_of_mem _ m)) (fun m => hb (List.mem_cons_of_mem _ m)) h
    exact ⟨by rw [h1], h2⟩
theorem join_inj (c : Nat) : ∀ (l l' : List PySem.Str), l ≠ [] → l' ≠ [] → (∀ p ∈ l, c ∉ p.cps.toList) → (∀ p ∈ l', c ∉ p.cps.toList) → (Str.join ⟨#[c]⟩ l).cps.toList = (Str.join ⟨#[c]⟩ l').cps.toList → l = l'
  | [], _, h, _, _, _, _ => absurd rfl h
  | _ :: _, [], _, h, _, _, _ => absurd rfl h
  | [p], [p'], _, _, _, _, h => by rw [str_ext (show p.cps.toList = p'.cps.toList from h)]
  | [p], p' :: q' :: r', _, _, hp, _, h => by
    rw [join_parts] at h
    exact absurd (by show c ∈ p.cps.toList; rw [show p.cps.toList = _ from h]; simp) (hp p List.mem_cons_self)
  | p :: q :: r, [p'], _, _, _, hp', h => by
    rw [join_parts] at h
    exact absurd (by show c ∈ p'.cps.toList; rw [show p'.cps.toList = _ from h.symm]; simp) (hp' p' List.mem_cons_self)
  | p :: q :: r, p' :: q' :: r', _, _, hp, hp', h => by
    rw [join_parts, join_parts] at h
    obtain ⟨h1, h2⟩ := free_cut (hp p List.mem_cons_self) (hp' p' List.mem_cons_self) h
    rw [str_ext h1, join_inj c (q :: r) (q' :: r') (by simp) (by simp) (fun x hx => hp x (List.mem_cons_of_mem _ hx)) (fun x hx => hp' x (List.mem_cons_of_mem _ hx)) h2]
theorem split_is {x : PySem.Str} {c : Nat} {l : List PySem.Str} (hl : l ≠ []) (hf : ∀ p ∈ l, c ∉ p.cps.toList) (hx : x.cps.toList ≠ []) (hj : (Str.join ⟨#[c]⟩ l).cps.toList = x.cps.toList) : Txt.split x ⟨#[c]⟩ = l := by
  refine join_inj c _ _ ?_ hl (StrLaws.split_free x c) hf ?_
  · intro e
    have := StrLaws.join_split x ⟨#[c]⟩
    rw [e] at this
    exact hx (by rw [← this]; rfl)
  · rw [StrLaws.join_split, hj]
section
variable (rT : Nat → List Nat)
def pieceA (e : Nat × Nat) : PySem.Str := ⟨(rpA e.1 ++ [97 + e.2]).toArray⟩
def pieceB (e : Nat × Nat) : PySem.Str := ⟨(rpA e.1 ++ rT e.2).toArray⟩
def piecesOf (bl : List (Nat × Nat)) : List PySem.Str := bl.flatMap fun e => [pieceA e, pieceB rT e]
end
section
variable {rT : Nat → List Nat}
theorem pieces_len (bl : List (Nat × Nat)) : (piecesOf rT bl).length = 2 * bl.length := by
  induction bl with
  | nil => rfl
  | cons e r ih => show (pieceA e :: pieceB rT e :: piecesOf rT r).length = _; rw [List.length_cons, List.length_cons, ih, List.length_cons]; omega
theorem pieces_at : ∀ {bl : List (Nat × Nat)} {i : Nat} {e : Nat × Nat}, bl[i]? = some e → (piecesOf rT bl)[2 * i]? = some (pieceA e) ∧ (piecesOf rT bl)[2 * i + 1]? = some (pieceB rT e)
  | a :: r, 0, e, h => by
    simp at h; subst h; exact ⟨rfl, rfl⟩
  | a :: r, i + 1, e, h => by
    obtain ⟨h1, h2⟩ := pieces_at (bl := r) (i := i) (e := e) (by simpa using h)
    have e1 : piecesOf rT (a :: r) = pieceA a :: pieceB rT a :: piecesOf rT r := rfl
    rw [e1, show 2 * (i + 1) = 2 * i + 1 + 1 by omega]
    simp only [List.getElem?_cons_succ]
    exact ⟨h1, h2⟩
theorem join_pieces (p : PySem.Str) : ∀ (bl : List (Nat × Nat)), (∀ e ∈ bl, 1 ≤ e.2) → (Str.join ⟨#[38]⟩ (p :: piecesOf rT bl)).cps.toList = p.cps.toList ++ render rT bl
  | [], _ => by show p.cps.toList = _; simp [render]
  | e :: r, h => by
    have ih := join_pieces (pieceB rT e) r fun x hx => h x (List.mem_cons_of_mem _ hx)
    have e1 : piecesOf rT (e :: r) = pieceA e :: pieceB rT e :: piecesOf rT r := rfl
    rw [e1, join_parts, join_parts, ih]
    have h1 := h e List.mem_cons_self
    show _ = _ ++ (render1 rT e ++ render rT r)
    unfold render1 pieceA pieceB
    rw [if_neg (by omega)]
    simp
theorem piece_free (hf : Fine rT) {bl : List (Nat × Nat)} (h : ∀ e ∈ bl, 1 ≤ e.2 ∧ e.2 < 7) : ∀ p ∈ piecesOf rT bl, 38 ∉ p.cps.toList := by
  intro p hp
  obtain ⟨e, he, hp⟩ := List.mem_flatMap.mp hp
  have h7 := h e he
  simp only [List.mem_cons, List.not_mem_nil, or_false] at hp
  rcases hp with rfl | rfl
  · simp only [pieceA, List.mem_append, List.mem_singleton]
    rintro (hm | hm)
    · exact rpA_free (by decide) hm
    · omega
  · simp only [pieceB, List.mem_append]
    rintro (hm | hm)
    · exact rpA_free (by decide) hm
    · exact ((hf e.2 h7.1 h7.2).2 38 hm).2.1 rfl
theorem slice_from {x : PySem.Str} {i : Nat} (h : i ≤ x.cps.toList.length) : (Txt.slice x (some (i : Int)) none).cps.toList = x.cps.toList.drop i := by
  have := eq_of_beq (slice_closes_from (x := x) (i := (i : Int)) ⟨by omega, by omega⟩)
  rw [this]
  simp only [Int.toNat_natCast]
  refine List.take_of_length_le ?_
  rw [List.length_drop]
  omega
theorem pieceA_slice {e : Nat × Nat} (h7 : e.2 < 7) : Txt.slice (pieceA e) (some (-1)) none = small e.2 := by
  have hl : (pieceA e).length = (rpA e.1).length + 1 := by show (pieceA e).cps.size = _; simp [pieceA]
  have hs := slice_from_neg (x := pieceA e) (i := -1) (by decide)
  rw [hs, hl, show max 0 ((((rpA e.1).length + 1 : Nat) : Int) + -1) = (((rpA e.1).length : Nat) : Int) by omega]
  refine str_ext ?_
  rw [slice_from (by simp [pieceA]), small_cps e.2 h7]
  simp [pieceA]
theorem pieceB_slice {e : Nat × Nat} (h1 : 1 ≤ e.2) : ("&" ++ Txt.slice (pieceB rT e) (some (((pieceA e).length : Int) - 1)) none : PySem.Str) = txOf rT e.2 := by
  have hl : (pieceA e).length = (rpA e.1).length + 1 := by show (pieceA e).cps.size = _; simp [pieceA]
  rw [hl, show ((((rpA e.1).length + 1 : Nat) : Int) - 1) = (((rpA e.1).length : Nat) : Int) by omega]
  refine str_ext ?_
  rw [PySem.Str.cps_append, Array.toList_append, slice_from (by simp [pieceB])]
  unfold txOf
  rw [if_neg (by omega)]
  simp [pieceB]
  rfl
/-- a page, cut at its & -/
theorem page_parts (hf : Fine rT) {ds : List Nat} (hds : ∀ d ∈ ds, 1 ≤ d ∧ d < 7) (hl : ds.length ≤ 6) :
    ∃ (bl : List (Nat × Nat)), bl.map (·.2) = ds ∧ (∀ e ∈ bl, e.1 ≤ 7) ∧ (rend rT (blocks (0 :: ds))).length ≤ 2000 ∧ Txt.split (rend rT (blocks (0 :: ds))) "&" = ("" : PySem.Str) :: ("a" : PySem.Str) :: piecesOf rT bl := by
  have hb : blocks (0 :: ds) = (0, 0) :: (blocks (0 :: ds)).tail := rfl
  obtain ⟨bl, hbl⟩ : ∃ bl, bl = (blocks (0 :: ds)).tail := ⟨_, rfl⟩
  rw [← hbl] at hb
  have hs := blocks_snd (0 :: ds)
  have hd := blocks_dep (0 :: ds)
  have hn := blocks_len (0 :: ds)
  rw [hb] at hs hd hn
  rw [List.map_cons] at hs
  have hs2 : bl.map (·.2) = ds := by injection hs
  have h7 : ∀ e ∈ bl, 1 ≤ e.2 ∧ e.2 < 7 := fun e he => hds _ (by rw [← hs2]; exact List.mem_map_of_mem he)
  have hd2 : ∀ e ∈ (0, 0) :: bl, e.1 ≤ 7 := fun e he => by have := hd e he; rw [List.length_cons] at this; omega
  refine ⟨bl, hs2, fun e he => hd2 e (List.mem_cons_of_mem _ he), ?_, ?_⟩
  · rw [hb]
    have := render_len hf (l := (0, 0) :: bl) (fun e he => ⟨by
      rcases List.mem_cons.mp he with rfl | he
      · exact (by decide : 0 < 7)
      · exact (h7 e he).2, by have := hd2 e he; omega⟩)
    show (rend rT ((0, 0) :: bl)).cps.size ≤ _
    rw [List.length_cons] at this hn hn
    simp only [rend, List.size_toArray]
    omega
  · rw [hb]
    refine split_is (c := 38) (by simp) ?_ ?_ ?_
    · intro p hp
      rcases List.mem_cons.mp hp with rfl | hp
      · decide
      · rcases List.mem_cons.mp hp with rfl | hp
        · decide
        · exact piece_free hf h7 p hp
    · simp [rend, render, render1]
    · rw [join_parts, join_pieces _ bl fun e he => (h7 e he).1]
      simp [rend, render, render1, rpA]
      rfl
end
end Mine
end
section
open PySem PySem.W PyProof.Rows PyProof.V PySem.Spec
namespace Mine
set_option maxHeartbeats 4000000
section
variable {w : World} {p : Program} {loose : List PySem.Str} {mean : ExcName → Option Value} {mg mb : PySem.Str → Option Value}
   {dp un : Nat} {gd : Option (List Code)} {cn : PySem.Str} {cs : PySem.Scope} {a : Addr} {ccd : Value} {cl : List (PySem.Str × Addr)} {outer : List Env} {A₀ : Around} {base h₀ : Heap} {L : Addr} {m : PySem.Str → Option Value} {news : List (Addr × Obj)} {s : Shared} {Q E : Value → Shared → Prop}

theorem readP_spec (B : Below A₀ base outer h₀) (F : Fr h₀ L s.heap m) (X : (Mine.hd.heap_1 w.params).In h₀) (N : News h₀ L s.heap news) (T : Top p loose mean mg mb h₀) (hk : cs.kind = .function) (hd : dp + 60 < recursionLimit) (hu : un + 600 < cLine)
    {rT : Nat → List Nat} (hf : Fine rT) {ds : List Nat} (hds : ∀ d ∈ ds, 1 ≤ d ∧ d < 7) (hl : ds.length ≤ 6) {t1 : Tok}
    (ret : ∀ D rv n fr h' tk', Fr h₀ L h' m → News h₀ L h' ((D, listOf (List.toArray rv) n) :: (fr ++ news)) → (∀ q ∈ fr, ∀ p ∈ news, p.1 < q.1) → (∀ q ∈ fr, q.1 ≠ D) → (∀ q ∈ news, q.1 < D) → RowsAre fr rv ((0 :: ds).map (row (txOf rT))) → Q (.ref D) { s with heap := h', toks := tk' }) :
    wpAny (model PySem.Challenge.rw_uk0024_01.row.prog w) (ktrTop dp un gd cn cs L a ccd cl outer) (call (.ref 287) [.str (rend rT (blocks (0 :: ds))) t1]) Q E s := by
  obtain ⟨bl, hb1, hb2, hb3, hb4⟩ := page_parts hf hds hl
  have hbl : bl.length = ds.length := by rw [← hb1, List.length_map]
  have hget : ∀ i, i < bl.length → bl[i]? = some (bl.getD i (0, 0)) := fun i hi => by rw [List.getD_eq_getElem?_getD, List.getElem?_eq_getElem hi]; rfl
  have hmem : ∀ i, i < bl.length → bl.getD i (0, 0) ∈ bl := fun i hi => List.mem_of_getElem? (hget i hi)
  have h7 : ∀ i, i < bl.length → 1 ≤ (bl.getD i (0, 0)).2 ∧ (bl.getD i (0, 0)).2 < 7 := fun i hi => hds _ (by rw [← hb1]; exact List.mem_map_of_mem (hmem i hi))
  have hmap : (List.range bl.length).map (fun i => (bl.getD i (0, 0)).2) = ds := by
    rw [← hb1]
    refine List.ext_getElem? fun i => ?_
    rw [List.getElem?_map, List.getElem?_map]
    by_cases hi : i < bl.length
    · rw [List.getElem?_range hi, hget i hi]; rfl
    · rw [List.getElem?_eq_none (by rw [List.length_range]; omega), List.getElem?_eq_none (by omega)]; rfl
  have hAl : ∀ i, i < bl.length → (pieceA (bl.getD i (0, 0))).length ≤ 200 := fun i hi => by
    have := hb2 _ (hmem i hi)
    show (pieceA _).cps.size ≤ _
    simp only [pieceA, List.size_toArray, List.length_append, rpA_len, List.length_singleton]
    omega
  have hBl : ∀ i, i < bl.length → (pieceB rT (bl.getD i (0, 0))).length ≤ 200 := fun i hi => by
    have := hb2 _ (hmem i hi)
    have h8 := (hf _ (h7 i hi).1 (h7 i hi).2).1
    show (pieceB rT _).cps.size ≤ _
    simp only [pieceB, List.size_toArray, List.length_append, rpA_len]
    omega
  refine read_spec (m9 := bl.length) (pA := fun i => pieceA (bl.getD i (0, 0))) (pB := fun i => pieceB rT (bl.getD i (0, 0))) (dd := fun i => (bl.getD i (0, 0)).2) (tx := txOf rT) B F X N T hk hd hu hb3 hb4 ?_ (by omega) rfl rfl (fun d hd => by have := tx_len hf hd; omega) ?_ ?_ (fun i hi => (h7 i hi).2) hAl hBl (fun i hi => pieceA_slice (h7 i hi).2) (fun i hi => pieceB_slice (h7 i hi).1) ?_
  · rw [List.length_cons, List.length_cons, pieces_len]; omega
  · intro i hi
    rw [show 2 + 2 * i = 2 * i + 1 + 1 by omega]
    simp only [List.getElem?_cons_succ]
    exact (pieces_at (hget i hi)).1
  · intro i hi
    rw [show 3 + 2 * i = 2 * i + 1 + 1 + 1 by omega]
    simp only [List.getElem?_cons_succ]
    exact (pieces_at (hget i hi)).2
  · intro D rv n fr h' tk' F' N' a1 a2 a3 a4
    rw [hmap] at a4
    exact ret D rv n fr h' tk' F' N' a1 a2 a3 a4
end
end Mine
end
section
open PySem PySem.W PyProof.Rows PyProof.V PySem.Spec
namespace Mine
set_option maxHeartbeats 4000000
open PyProof.Rows.LCg (SrcAt NsObj Off3 Off1 lst FinE)
section
variable {w : World} {p : Program} {loose : List PySem.Str} {mean : ExcName → Option Value} {mg mb : PySem.Str → Option Value}
   {dp un : Nat} {gd : Option (List Code)} {cn : PySem.Str} {cs : PySem.Scope} {a : Addr} {ccd : Value} {cl : List (PySem.Str × Addr)} {outer : List Env} {A₀ : Around} {base h₀ : Heap} {L : Addr} {m : PySem.Str → Option Value} {news : List (Addr × Obj)} {s : Shared} {Q E : Value → Shared → Prop}

theorem Fr.named {h₀ h : Heap} {L : Addr} {m : PySem.Str → Option Value} (F : Fr h₀ L h m) : ∃ m', m' = m := ⟨_, rfl⟩
theorem News.lead {h₀ h : Heap} {L : Addr} {a b c d e f g k : Addr × Obj} {l : List (Addr × Obj)} (N : News h₀ L h (a :: b :: c :: d :: e :: f :: g :: k :: l)) : News h₀ L h (d :: a :: k :: b :: c :: e :: f :: g :: l) :=
  fun q hq => N q (by walk_at "perm")
theorem Data.named {o : Obj} {d : Data} (h : o.data = d) : ∃ o', o' = o := ⟨_, rfl⟩
theorem News.swap2' {h₀ h : Heap} {L : Addr} {a b : Addr × Obj} {l : List (Addr × Obj)} (N : News h₀ L h (a :: b :: l)) : News h₀ L h (b :: a :: l) :=
  fun q hq => N q (by walk_at "perm")
/-- the state behind i turns -/
structure TextInv (w : World) (rest : List (Addr × Obj)) (TH c1 c2 : Addr) (oC oL : Obj) (order : List Nat) (lf : Nat → Nat) (rT : Nat → List Nat) (i : Nat) (R TI : Addr) (vs tv : List Value) (S : List Nat) (ps1 : Array Value) (rest1 : List (Addr × Obj)) : Prop where
  sub : ∀ q ∈ rest, q ∈ rest1
  cT : (c2, oC) ∈ rest1
  cL : (c1, oL) ∈ rest1
  seat : Seat w ps1 rest1 TI R vs (order.filter (S.contains ·)) (txOf rT)
  tr : (@Ne Nat TH R)
  t9 : (@Ne Nat TH 289)
  th : ∀ q ∈ rest1, q.1 ≠ TH
  nums : IntsAre tv (S.map fun d => ((d : Nat) : Int))
  zero : 0 ∈ S
  lc : LeftClosed lf (· ∈ S)
  seven : ∀ d ∈ S, d < 7
  sz : S.length ≤ i + 1
  fin : ∀ d, 1 ≤ d → d < 7 → d + 6 ≤ i → d ∈ S
theorem TextInv.short {w : World} {rest : List (Addr × Obj)} {TH c1 c2 : Addr} {oC oL : Obj} {order : List Nat} {lf : Nat → Nat} {rT : Nat → List Nat} {i : Nat} {R TI : Addr} {vs tv : List Value} {S : List Nat} {ps1 : Array Value} {rest1 : List (Addr × Obj)}
    (J : TextInv w rest TH c1 c2 oC oL order lf rT i R TI vs tv S ps1 rest1) (hol : order.length = 7) : vs.length ≤ 1000 := by
  have a1 := J.seat.rows.length
  rw [List.length_map] at a1
  have a2 := List.length_filter_le (S.contains ·) order
  omega
theorem zero_first {P : Nat → List Nat} {order S : List Nat} (ho : order.Pairwise (before P)) (hm : ∀ d, d ∈ order ↔ d < 7) (h0 : 0 ∈ S) (hr : P 0 = []) : ∃ ds, order.filter (S.contains ·) = 0 :: ds ∧ ∀ d ∈ ds, 1 ≤ d ∧ d < 7 := by
  have hm0 : 0 ∈ order.filter (S.contains ·) := List.mem_filter.mpr ⟨(hm 0).mpr (by decide), by simpa using h0⟩
  have hp := ho.filter (S.contains ·)
  have h7 : ∀ d ∈ order.filter (S.contains ·), d < 7 := fun d hd => (hm d).mp (List.mem_filter.mp hd).1
  generalize order.filter (S.contains ·) = l at *
  cases l with
  | nil => cases hm0
  | cons a ds =>
    obtain ⟨h1, h2⟩ := List.pairwise_cons.mp hp
    have ha : a = 0 := by
      rcases List.mem_cons.mp hm0 with e | e
      · exact e.symm
      · have := h1 0 e
        unfold before at this
        rw [hr] at this
        cases hPa : P a with
        | nil => rw [hPa] at this; cases this
        | cons x y => rw [hPa] at this; cases this
    subst ha
    refine ⟨ds, rfl, fun d hd => ⟨?_, h7 d (List.mem_cons_of_mem _ hd)⟩⟩
    by_cases e : d = 0
    · subst e
      have := h1 0 hd
      unfold before at this
      rw [lx_irrefl] at this
      cases this
    · omega
theorem Fr.same {h₀ h : Heap} {L : Addr} {m m' : PySem.Str → Option Value} (F : Fr h₀ L h m) (e : m = m') : Fr h₀ L h m' := e ▸ F
theorem rows_up {fr rest : List (Addr × Obj)} {X : Addr × Obj} {vs : List Value} {rs : List (PySem.Str × PySem.Str)} (h : RowsAre fr vs rs) : RowsAre (X :: (fr ++ rest)) vs rs :=
  Mine.Paired.mono (fun _ _ h => RowIs.mono h fun q hq => List.mem_cons_of_mem _ (List.mem_append_left _ hq)) h
theorem rows_up4 {rest : List (Addr × Obj)} {a b c d : Addr × Obj} {vs : List Value} {rs : List (PySem.Str × PySem.Str)} (h : RowsAre rest vs rs) : RowsAre (a :: b :: c :: d :: rest) vs rs :=
  Mine.Paired.mono (fun _ _ h => RowIs.mono h fun q hq => List.mem_cons_of_mem _ (List.mem_cons_of_mem _ (List.mem_cons_of_mem _ (List.mem_cons_of_mem _ hq)))) h
theorem strs_dat {nw : List (Addr × Obj)} : ∀ {ys : List Value} {xs : List PySem.Str}, Paired StrIs ys xs → DatAll nw ys (xs.map Dat.str)
  | _, _, .nil => .nil
  | _, _, .cons ⟨t, e⟩ tl => by subst e; exact .cons (.str _ t) (strs_dat tl)
theorem big_ok {ds : List Nat} (h : ∀ d ∈ ds, d < 7) : ∀ x ∈ (ds.map big).map Dat.str, kqdOk 8 x = true := by
  intro x hx
  rw [List.map_map] at hx
  obtain ⟨d, hd, rfl⟩ := List.mem_map.mp hx
  have : ∀ d, d < 7 → PyData.strOk (big d) = true := by decide +kernel
  exact this d (h d hd)
theorem names_strs {tx : Nat → PySem.Str} : ∀ {ys : List Value} {ds : List Nat}, Paired NameIs ys (ds.map (row tx)) → Paired StrIs ys (ds.map big)
  | _, [], .nil => .nil
  | _, d :: ds, .cons ⟨t, e⟩ tl => .cons ⟨t, e⟩ (names_strs tl)
theorem ints_at' {S : List Nat} : ∀ {vs : List Value}, IntsAre vs (S.map fun d => ((d : Nat) : Int)) → ∀ {i : Nat} {v : Value}, vs[i]? = some v → ∃ d t, S[i]? = some d ∧ v = .int ((d : Nat) : Int) t := by
  induction S with
  | nil => intro vs h i v hv; cases h; simp at hv
  | cons a S ih =>
    intro vs h i v hv
    cases h with
    | cons x t h =>
      cases i with
      | zero => simp at hv; exact ⟨a, t, rfl, hv.symm⟩
      | succ i => simpa using ih h (i := i) (v := v) (by simpa using hv)
/-- a state behind a statement, kept shut -/
def MidP (P : Prop) : Prop := P
/-- who may come, of the first q deeds -/
def readyOf (lf : Nat → Nat) (S : List Nat) (q : Nat) : List Nat := ((List.range q).map (· + 1)).filter fun j => decide (lf j ∈ S)
theorem readyOf_succ (lf : Nat → Nat) (S : List Nat) (q : Nat) : readyOf lf S (q + 1) = readyOf lf S q ++ if lf (q + 1) ∈ S then [q + 1] else [] := by
  unfold readyOf
  rw [List.range_succ, List.map_append, List.filter_append]
  congr 1
  by_cases h : lf (q + 1) ∈ S <;> simp [h]
theorem kf_ints_of : ∀ {vs : List Value} {ns : List Int}, IntsAre vs ns → kf_ints vs = true
  | _, _, .nil => rfl
  | _, _, .cons i t h => by simpa [kf_ints] using kf_ints_of h
theorem any_is {d : Nat} {S : List Nat} : ∀ {vs : List Value}, IntsAre vs (S.map fun d => ((d : Nat) : Int)) → vs.any (isInt (d : Int)) = decide (d ∈ S) := by
  induction S with
  | nil => intro vs h; cases h; rfl
  | cons a S ih =>
    intro vs h
    cases h with
    | cons i t h =>
      rw [List.any_cons, ih h]
      by_cases e : a = d
      · subst e; simp [isInt]
      · have e2 : ¬ d = a := fun x => e x.symm
        have e3 : ¬ ((a : Nat) : Int) = ((d : Nat) : Int) := by omega
        have e4 : isInt (d : Int) (Value.int ((a : Nat) : Int) t) = false := by simp [isInt]; omega
        rw [e4]; simp [e2]
theorem frU_set {h₀ h : Heap} {L : Addr} {xs : List PySem.Str} {u m : PySem.Str → Option Value} {x : PySem.Str} {v : Option Value} (F : Fr h₀ L h (fun z => if z = x then v else frU xs u m z)) (hx : xs.contains x = true) :
    ∃ u', Fr h₀ L h (frU xs u' m) ∧ u' x = v ∧ ∀ z, z ≠ x → u' z = u z :=
  ⟨_, Fr.same F (frU_wrap rfl hx), by simp, fun z hz => by simp [hz]⟩
theorem wpAny_tests_one {prog : Program} {w : World} {A : Around} {E : Value → Shared → Prop} {s : Shared} {c : PySem.Expr} {env : Env} {Q : Bool → Shared → Prop} (h : wpAny (model prog w) A (isTrue c env (eval c env)) Q E s) :
    wpAny (model prog w) A (testsOf [c] env) Q E s := by
  unfold testsOf
  rw [List.forIn_cons]
  simp only [if_true]
  refine wpAny_bind (wpAny_bind (wpAny_mono h (fun ok s' hk => ?_) fun _ _ e => e))
  refine wpAny_pure ?_
  simp only [List.forIn_nil]
  exact wpAny_pure hk
theorem News.two {h₀ h : Heap} {L : Addr} {a b : Addr} {oa ob : Obj} {l : List (Addr × Obj)} (N : News h₀ L h ((a, oa) :: (b, ob) :: l)) : ∃ a' b', a' = a ∧ b' = b := ⟨_, _, rfl, rfl⟩
theorem rows_plain {rT : Nat → List Nat} (hf : Fine rT) {ds : List Nat} (h7 : ∀ d ∈ ds, d < 7) : ∀ r ∈ ds.map (row (txOf rT)), (Plain r.1 ∧ r.1.cps.size ≤ 1000000) ∧ Plain r.2 ∧ r.2.cps.size ≤ 1000000 := by
  intro r hr
  obtain ⟨d, hd, rfl⟩ := List.mem_map.mp hr
  have d7 := h7 d hd
  refine ⟨⟨big_plain d d7, ?_⟩, ?_, ?_⟩
  · have : ∀ d, d < 7 → (big d).cps.size ≤ 1000000 := by decide +kernel
    exact this d d7
  · show Plain (txOf rT d)
    unfold txOf
    split
    · intro c hc; exact absurd hc (by decide +revert)
    · intro c hc
      have hc' : c ∈ 38 :: rT d := by simpa using hc
      rcases List.mem_cons.mp hc' with rfl | hc'
      · decide
      · have := (hf d (by omega) d7).2 c hc'
        omega
  · have := tx_len hf d7
    show (txOf rT d).cps.size ≤ _
    have e : (txOf rT d).length = (txOf rT d).cps.size := rfl
    omega
theorem comp_free' {M : Model} {A : Around} {env' : Env} {x : PySem.Str} {c : Addr} {o : Obj} {v : Value} {pos : PySem.Pos} (N : News h₀ L s.heap news) (hm : (c, o) ∈ news) (hd : o.data = .cell (some v)) (h : Q v s) (hk : env'.scope.kind = .function) (hx : env'.kindOf x = some .free) (hc : env'.cells.lookup x = some c) (hb : (x == ("__debug__" : PySem.Str)) = false) (hn : (x == ("__classdict__" : PySem.Str)) = false) :
    wpAny M A (eval (.Name x pos) env') Q E s := wpAny_Name (wpAny_loadName_free hk hx hc ⟨o, N.get hm, hd⟩ h hn) hb
set_option maxRecDepth 100000 in
set_option maxHeartbeats 8000000 in
theorem text_spec {ps : Array Value} {rest : List (Addr × Obj)} (B : Below A₀ base outer h₀) (F : Fr h₀ L s.heap m) (X : (Mine.hd.heap_1 w.params).In h₀) (T : Top p loose mean mg mb h₀) (hk : cs.kind = .function) (hd : dp + 80 < recursionLimit) (hu : un + 900 < cLine)
    (N : News h₀ L s.heap ((289, tabObj ps) :: rest)) (hp9 : ∀ q ∈ rest, q.1 ≠ 289) (htab : TabOk ps lamQ rest) {way nC n1 no nw : Nat} (hw : way < 5) {CE LE OR WR : Addr} {cv lv ov wv : List Value} {ns : List Int} {order : List Nat} {rT : Nat → List Nat} {t9 : Tok}
    (hCE : (CE, listOf (List.toArray cv) nC) ∈ rest) (hcv : IntsAre cv ns) (hns : ns.length = 7) (hnb : ∀ x ∈ ns, 0 ≤ x ∧ x < 1000) (hLE : (LE, listOf (List.toArray lv) n1) ∈ rest) (hlv : IntsAre lv (-1 :: (List.range 6).map fun i => ((lfOf ns (i + 1) : Nat) : Int)))
    (hOR : (OR, listOf (List.toArray ov) no) ∈ rest) (hov : IntsAre ov (order.map fun d => ((d : Nat) : Int))) (hWR : (WR, listOf (List.toArray wv) nw) ∈ rest) (hwv : Paired StrIs wv ((List.range 7).map (txOf rT))) (hf : Fine rT)
    (ho : order.Pairwise (before (wayOf (lfOf ns)))) (hm : ∀ d, d ∈ order ↔ d < 7) (hol : order.length = 7)
    (ret : ∀ D dv n ps' rest' h' tk', Fr h₀ L h' m → News h₀ L h' ((289, tabObj ps') :: rest') → (∀ q ∈ rest, q ∈ rest') → (∀ q ∈ rest', q.1 ≠ 289) → (D, listOf (List.toArray dv) n) ∈ rest' → RowsAre rest' dv (order.map (row (txOf rT))) → Q (.ref D) { s with heap := h', toks := tk' }) :
    wpAny (model PySem.Challenge.rw_uk0024_01.row.prog w) (ktrTop dp un gd cn cs L a ccd cl outer) (call (.ref 297) [.ref CE, .ref LE, .ref OR, .ref WR, .int (way : Int) t9]) Q E s := by
  k_with_none
  (k_with "ce1" => (refine' code_def ?k1Q9 ?k2Q9 ?k3Q9 ?k4Q9 ?k5Q9 ?kAQ9 ?kFQ9 ?kKQ9 ?k6Q9 ?k7Q9 ?k8Q9 ?k9Q9 ?kBQ9 ?_ ?c2Q9 ?c3Q9 ?c4Q9 ?c5Q9; (case kAQ9 => exact rfl); (case kFQ9 => exact rfl); (case kKQ9 => first | assumption | exact rfl); (case k1Q9 => k_asm); (case k2Q9 => k_asm); (case k3Q9 => k_asm); (case k4Q9 => k_asm); (case k5Q9 => k_asm); (case k6Q9 => k_is); (case k7Q9 => k_is); (case k8Q9 => ktr_room); (case k9Q9 => first | exact BindsTo.of_eq rfl | exact binds_K (by k_in) rfl (by k_is) rfl rfl rfl); (case c5Q9 => decide); (case kBQ9 => exact locs rfl); (case c2Q9 => exact rfl); (case c3Q9 => exact rfl); (case c4Q9 => exact rfl); k_whole))
  (k_with "ce2" => (refine' code_defC ?k1Q9 ?k2Q9 ?k3Q9 ?k4Q9 ?k5Q9 ?kAQ9 ?kFQ9 ?kKQ9 ?k6Q9 ?k7Q9 ?k8Q9 ?k9Q9 ?kBQ9 ?kDQ9 ?_ ?c2Q9 ?c3Q9 ?c4Q9; (case kAQ9 => exact rfl); (case kFQ9 => exact rfl); (case kKQ9 => first | assumption | exact rfl); (case k1Q9 => k_asm); (case k2Q9 => k_asm); (case k3Q9 => k_asm); (case k4Q9 => k_asm); (case k5Q9 => k_asm); (case k6Q9 => k_is); (case k7Q9 => k_is); (case k8Q9 => ktr_room); (case k9Q9 => first | exact BindsTo.of_eq rfl | exact binds_K (by k_in) rfl (by k_is) rfl rfl rfl); (case kBQ9 => exact rfl); (case kDQ9 => decide +kernel); (case c2Q9 => exact rfl); (case c3Q9 => exact rfl); (case c4Q9 => exact rfl); k_whole))
  (k_with "ktr_units" => ((have hcL9 := cLine_is; (simp only [Mine.units_make, PyProof.Rows.units_in1, PyProof.Rows.units_deeper, PySem.Around.mark_units, PyProof.Rows.units_caller, ktrTop] at *); omega)))
  (k_with "ktr_units" => ((simp only [Mine.units_make, PyProof.Rows.units_in1, PyProof.Rows.units_deeper, PySem.Around.mark_units, PyProof.Rows.units_caller]; first | exact Mine.fit2 (by with_reducible assumption) (by decide) | exact Mine.fit3 (by with_reducible assumption) (by decide) | fail "no")))
  (k_with "ktr_units" => (first | exact Mine.fit2 (d := (PySem.W.ktrTop _ _ _ _ _ _ _ _ _ _).units) (by assumption) (by decide) | exact Mine.fit3 (d := (PySem.W.ktrTop _ _ _ _ _ _ _ _ _ _).units) (by assumption) (by decide) | exact Mine.fit1 (d := (PySem.W.ktrTop _ _ _ _ _ _ _ _ _ _).units) (by assumption) (by decide) | fail "no"))
  (k_with "ktr_room" => (first | exact Mine.fit0 (d := (PySem.W.ktrTop _ _ _ _ _ _ _ _ _ _).depth) (by assumption) | exact Mine.fit2 (d := (PySem.W.ktrTop _ _ _ _ _ _ _ _ _ _).depth) (by assumption) (by decide) | exact Mine.fit3 (d := (PySem.W.ktrTop _ _ _ _ _ _ _ _ _ _).depth) (by assumption) (by decide) | exact Mine.fit1 (d := (PySem.W.ktrTop _ _ _ _ _ _ _ _ _ _).depth) (by assumption) (by decide) | fail "no"))
  (k_with "omega" => (first | (lia) | fail "no"))
  (k_with "omega" => (with_reducible first | exact Int.natCast_nonneg _ | exact Mine.le_cl (by decide) | exact Mine.lt_cl (by decide) | fail "no"))
  (k_with "simp" => (with_reducible first | exact List.mem_cons_self | (refine List.mem_cons_of_mem _ ?_; simp; done) | fail "no"))
  (k_with "simph" => (with_reducible first | assumption | exact List.mem_cons_of_mem _ (by assumption) | exact Or.inl (by assumption) | exact List.mem_append_left _ (by assumption) | exact List.mem_append_right _ (by assumption) | (refine List.mem_cons_of_mem _ ?_; k_extra "simph"; done) | (refine Or.inr ?_; k_extra "simph"; done) | fail "no"))
  (k_with "perm" => ((refine (?_ : ∀ q ∈ _, q ∈ _) _ (by assumption); (repeat (with_reducible refine List.forall_mem_cons.mpr ⟨by first | exact List.mem_cons_self | (refine List.mem_cons_of_mem _ ?_; simp; done), ?_⟩)); with_reducible (intro q hq; repeat (first | exact hq | refine List.mem_cons_of_mem _ ?_)))))
  (k_with "m_fru" => (first | (with_reducible refine frU_wrap ?_ (by decide); walk_at "m_fru") | exact rfl))
  (k_with "call builtin:len" => (((with_reducible show wpAny _ _ (call (Value.builtin "len") [Value.ref _]) _ _ _); k_dflt (refine' len_list ?lQ9 ?fQ9 ?_; (case lQ9 => exact News.isList (by k_asm) (by k_mem)); (case fQ9 => (simp only [List.size_toArray]; omega))); (try simp only [List.size_toArray]))))
  (k_with "m_go" => (repeat (
    (fail_if_success (with_reducible show wpAny _ _ (exec (PySem.Stmt.While _ _ _ _) _) _ _ _));
    (fail_if_success (with_reducible show wpAny _ _ (exec (PySem.Stmt.For _ _ _ _ _) _) _ _ _));
    (fail_if_success (with_reducible show wpAny _ _ (exec (PySem.Stmt.Assign _ (PySem.Expr.ListComp _ _ _ _) _) _) _ _ _));
    (fail_if_success (with_reducible show wpAny _ _ (eval (PySem.Expr.ListComp _ _ _ _) _) _ _ _));
    first | walk1 | (dsimp only; walk1))))
  (k_with "eval Name" => ((k_here; k_dflt (refine' nameX_L ?FQ9 ?vQ9 ?_ ?aQ9 ?bQ9; (case aQ9 => rfl); (case bQ9 => rfl); (case FQ9 => k_asm); (case vQ9 => first | exact rfl | assumption)))))
  (k_with "k_mem" => (first | assumption | exact List.Mem.head _ | (refine' List.Mem.tail _ ?_; k_mem)))
  (k_with "m_goIf" => (repeat (
    (fail_if_success (with_reducible show wpAny _ _ (exec (PySem.Stmt.If _ _ _ _) _) _ _ _));
    first | walk1 | (dsimp only; walk1))))
  (k_with "m_go8" => (repeat (
    (fail_if_success (with_reducible show wpAny _ _ (exec (PySem.Stmt.For _ _ _ _ _) _) _ _ _));
    (fail_if_success (with_reducible show wpAny _ _ (eval (PySem.Expr.ListComp _ _ _ _) _) _ _ _));
    (fail_if_success (with_reducible show wpAny _ _ (exec (PySem.Stmt.Assign _ (PySem.Expr.ListComp _ _ _ _) _) _) _ _ _));
    (fail_if_success (with_reducible show wpAny _ _ (subscriptTail _ _ (Value.ref _) (Value.int _ _)) _ _ _));
    (fail_if_success (with_reducible show wpAny _ _ (call (Value.ref _) _) _ _ _));
    (fail_if_success (with_reducible show wpAny _ _ (compareOp _ _ _) _ _ _));
    (fail_if_success (with_reducible show wpAny _ _ (call (Value.builtin "list.append") _) _ _ _));
    first | walk1 | (dsimp only; walk1))))
  (k_with "eval Name" => ((k_dflt (refine' LCgL.ld_own ?NQ9 ?mQ9 ?cQ9 ?eQ9 ?_; (case NQ9 => k_asm); (case mQ9 => k_mem); (case cQ9 => assumption); (case eQ9 => exact rfl)))))
  (k_with "eval Name" => ((k_dflt (refine' comp_free' ?zNQ9 ?zmQ9 ?zdQ9 ?_ ?zkQ9 ?zxQ9 ?zcQ9 ?zbQ9 ?znQ9; (case zkQ9 => exact rfl); (case zxQ9 => with_unfolding_all rfl); (case zcQ9 => with_unfolding_all rfl); (case zNQ9 => k_asm); (case zmQ9 => k_mem); (case zdQ9 => assumption); (case zbQ9 => decide); (case znQ9 => decide)))))
  (k_with "execs cons" => (refine wpAny_execs_cons ?_; k_fold))
  (k_with "walk1" => (k_unfold; (try dsimp only); (try clear ek); (try clear qk); walk1))
  revert X; k_fill; intro X
  refine wpAny_call ?_
  k_dflt cell_enter
  rename_i g' L' h' tk' FG' F' B' X' T' l1 oT oL dT dL N'
  walk_at "m_go8"
  rename Fr g' L' _ _ => F1
  rename News g' L' _ _ => N1
  obtain ⟨R0, T0, hR0, hT0⟩ := News.two N1
  subst hR0 hT0
  have hpl : ∀ r ∈ [0].map (row (txOf rT)), (Plain r.1 ∧ r.1.cps.size ≤ 1000000) ∧ Plain r.2 ∧ r.2.cps.size ≤ 1000000 := rows_plain hf (by decide)
  have hr0 : RowsAre ((R0, listOf #[Value.ref T0] 0) :: (T0, tupO [.str "a" tk', .str "" (tk' + 1)]) :: (L' + 1 + 1, oT) :: (L' + 1, oL) :: (289, tabObj ps) :: rest) [Value.ref T0] ([0].map (row (txOf rT))) := by
    refine .cons ?_ .nil
    have b0 : row (txOf rT) 0 = (("a" : PySem.Str), ("" : PySem.Str)) := by
      show (big 0, txOf rT 0) = _
      rw [show big 0 = "a" by decide +kernel]; rfl
    rw [b0]
    exact ⟨_, _, _, rfl, List.mem_cons_of_mem _ List.mem_cons_self⟩
  k_dflt (refine' mk_spec (vs := [Value.ref T0]) ?zB ?zF ?zX ?zN ?zT ?zk ?zd ?zu ?zR hr0 hpl ?_; (case zB => k_asm); (case zF => exact F1); (case zX => k_asm); (case zN => exact N1); (case zT => k_asm); (case zk => exact rfl); (case zd => ktr_room); (case zu => ktr_units); (case zR => exact List.mem_cons_self))
  intro TI TD t0 h2 tk2 F2 N2 ne2 neT
  have nT := ne2 (L' + 1 + 1, oT) (by simp)
  have nL := ne2 (L' + 1, oL) (by simp)
  have nR := ne2 (R0, listOf #[Value.ref T0] 0) (by simp)
  have n0 := ne2 (T0, tupO [.str "a" tk', .str "" (tk' + 1)]) (by simp [tupO])
  have n9 := ne2 (289, tabObj ps) (by simp)
  have nr : ∀ q ∈ rest, q.1 ≠ TI ∧ q.1 ≠ TD := fun q hq => ne2 q (by simp [hq])
  obtain ⟨nT1, nT2⟩ := nT
  dsimp only at nT1 nT2 nL nR n0 n9
  have nT1' := nT1.symm
  have nT2' := nT2.symm
  rename 289 < L' ∧ AllLt L' rest => lR
  have hrC : ∀ q ∈ rest, q.1 ≠ L' + 1 + 1 := fun q hq => Nat.ne_of_lt (Nat.lt_succ_of_lt (Nat.lt_succ_of_lt (allLt_of lR.2 q hq)))
  have hrC' : ∀ q ∈ rest, q.1 ≠ L' + 1 := fun q hq => Nat.ne_of_lt (Nat.lt_succ_of_lt (allLt_of lR.2 q hq))
  walk_at "m_go8"
  rename Obj.data _ = Data.cell (some (Value.ref _)) => dC
  refine wpAny_For ?_
  walk_at "m_go8"
  rename IsRange _ _ _ _ _ _ _ _ => hr
  rename Fr g' L' _ _ => F3
  rename News g' L' _ _ => N3
  obtain ⟨TH, hTH⟩ := News.first N3
  subst hTH
  obtain ⟨m0, hm0⟩ := Fr.named F3
  rw [← hm0] at F3
  have e1 : m0 "cells" = some (.ref CE) := by rw [hm0]; rfl
  have e2 : m0 "order" = some (.ref OR) := by rw [hm0]; rfl
  have e3 : m0 "written" = some (.ref WR) := by rw [hm0]; rfl
  have e4 : m0 "way" = some (.int (way : Int) t9) := by rw [hm0]; rfl
  have e5 : m0 "rows" = some (.ref R0) := by rw [hm0]; rfl
  have e6 : m0 "table" = some (.ref TI) := by rw [hm0]; rfl
  rename TI < TH ∧ _ => lH
  rename _ ∧ _ ∧ 289 < T0 ∧ _ => lT0
  rename T0 < R0 ∧ _ => lR0
  clear hm0
  obtain ⟨oC, hoC⟩ := Data.named dC
  subst hoC
  have N4 : News g' L' _ ((R0, listOf (List.toArray [Value.ref T0]) 0) :: (TH, listOf (List.toArray [Value.int 0 _]) 0) :: (289, tabObj ps) :: (TI, instObj 171 TD) :: (TD, dictOf [⟨PyData.keyHash w.params (PySem.Str.ofString "_headers"), .str (PySem.Str.ofString "_headers") t0, .ref R0⟩] 1) :: (T0, tupO [Value.str "a" tk', Value.str "" (tk' + 1)]) :: (L' + 1 + 1, oC) :: (L' + 1, oL) :: rest) :=
    News.lead N3
  refine for_rangeUC (n := 12) ["rows", "table", "k", "ready", "turn"] rfl hr rfl rfl F3 N4 (fun i u nw => ∃ R n vs TI tv nt S ps1 rest1, nw = (R, listOf (List.toArray vs) n) :: (TH, listOf (List.toArray tv) nt) :: (289, tabObj ps1) :: rest1 ∧ u "rows" = some (.ref R) ∧ u "table" = some (.ref TI) ∧ TextInv w rest TH (L' + 1) (L' + 1 + 1) oC oL order (lfOf ns) rT i R TI vs tv S ps1 rest1) ?_ ?_ ?_
  · refine ⟨R0, _, [.ref T0], TI, [.int 0 _], _, [0], ps, _, rfl, e5, e6, ⟨fun q hq => by simp [hq], by simp, by simp, ⟨⟨TD, t0, 1, by simp, by simp⟩, ?_, htab.mono (fun q hq => by simp [hq]), ?_, ?_, Ne.symm (Nat.ne_of_lt lR0.2.2.2.1)⟩, Ne.symm (Nat.ne_of_lt lH.2.2.1), Ne.symm (Nat.ne_of_lt lH.2.2.2.2.2.2.1), ?_, .cons _ _ .nil, by simp, ?_, by decide, by simp, fun d h1 h2 h3 => by omega⟩⟩
    · have ef : order.filter (([0] : List Nat).contains ·) = [0] := by
        refine sorted_unique (ho.filter _) (List.pairwise_singleton _ _) fun d => ?_
        rw [List.mem_filter, hm]
        simp only [List.contains_iff_mem, List.mem_singleton]
        omega
      rw [ef]
      refine .cons ?_ .nil
      have b0 : row (txOf rT) 0 = (("a" : PySem.Str), ("" : PySem.Str)) := by
        show (big 0, txOf rT 0) = _
        rw [show big 0 = "a" by decide +kernel]; rfl
      rw [b0]
      exact ⟨T0, _, _, rfl, List.mem_cons_of_mem _ (List.mem_cons_of_mem _ List.mem_cons_self)⟩
    · intro q hq
      simp only [List.mem_cons] at hq
      rcases hq with rfl | rfl | rfl | rfl | rfl | hq
      · exact n9.1.symm
      · exact n9.2.symm
      · exact Ne.symm (Nat.ne_of_lt lT0.2.2.1)
      · exact Ne.symm (Nat.ne_of_lt (Nat.lt_succ_of_lt (Nat.lt_succ_of_lt lR.1)))
      · exact Ne.symm (Nat.ne_of_lt (Nat.lt_succ_of_lt lR.1))
      · exact hp9 q hq
    · intro q hq
      simp only [List.mem_cons] at hq
      rcases hq with rfl | rfl | rfl | rfl | rfl | hq
      · exact nR.1.symm
      · exact nR.2.symm
      · exact Nat.ne_of_lt lR0.1
      · exact Nat.ne_of_lt lR0.2.1
      · exact Nat.ne_of_lt lR0.2.2.1
      · exact Nat.ne_of_lt (allLt_of lR0.2.2.2.2 q hq)
    · intro q hq
      simp only [List.mem_cons] at hq
      rcases hq with rfl | rfl | rfl | rfl | rfl | hq
      · exact Nat.ne_of_lt lH.1
      · exact Nat.ne_of_lt lH.2.1
      · exact Nat.ne_of_lt lH.2.2.2.1
      · exact Nat.ne_of_lt lH.2.2.2.2.1
      · exact Nat.ne_of_lt lH.2.2.2.2.2.1
      · exact Nat.ne_of_lt (allLt_of lH.2.2.2.2.2.2.2 q hq)
    · intro d hd h1
      have : d = 0 := by simpa using hd
      omega
  · rintro i t' u nw h tk I oI E' hoI hi ⟨R, n, vs, TI, tv, nt, S, ps1, rest1, rfl, u5, u6, J⟩ F9 N9 off9
    (try k_fold)
    iterate 2 (first | walk1 | (dsimp only; walk1))
    refine wpAny_execs_cons ?_
    refine wpAny_mono (Q := fun fl s' => MidP (fl = Flow.next ∧ ∃ h1 tk1 u1 R n vs TI tv nt S ps1 rest1, s' = { s with heap := h1, toks := tk1 } ∧ Fr g' L' h1 (frU ["rows", "table", "k", "ready", "turn"] u1 m0) ∧ News g' L' h1 ((I, oI) :: (R, listOf (List.toArray vs) n) :: (TH, listOf (List.toArray tv) nt) :: (289, tabObj ps1) :: rest1) ∧ (∀ q ∈ ((R, listOf (List.toArray vs) n) :: (TH, listOf (List.toArray tv) nt) :: (289, tabObj ps1) :: rest1), q.1 ≠ I) ∧ u1 "rows" = some (.ref R) ∧ u1 "table" = some (.ref TI) ∧ (∃ tt, u1 "turn" = some (.int (i : Int) tt)) ∧ TextInv w rest TH (L' + 1) (L' + 1 + 1) oC oL order (lfOf ns) rT i R TI vs tv S ps1 rest1)) ?_ (fun fl s' hfl => ?_) (fun _ _ e => e)
    · obtain ⟨TD1, tt1, nn1, hi1, hi2⟩ := J.seat.table.ex
      have hvl := J.short hol
      by_cases h6 : i = 6
      · subst h6
        (try k_fold)
        iterate 5 (first | walk1 | (dsimp only; walk1))
        walk_at "m_go8"
        k_dflt (refine' items_spec (vs := vs) (n := n) ?aB ?aF ?aX ?aN ?aT ?ak ?ad ?au ?ah ?aR hvl ?_; (case aB => k_asm); (case aF => k_asm); (case aX => k_asm); (case aN => k_asm); (case aT => k_asm); (case ak => exact rfl); (case ad => ktr_room); (case au => ktr_units); (case ah => exact J.seat.table.mono (fun q hq => by simp [hq])); (case aR => simp))
        intro D1 nD hA tkA FA NA neA
        walk_at "m_go8"
        have hsub1 : ∀ q ∈ rest1, q ∈ (D1, listOf (List.toArray vs) nD) :: (I, oI) :: (R, listOf (List.toArray vs) n) :: (TH, listOf (List.toArray tv) nt) :: (289, tabObj ps1) :: rest1 := fun q hq => by simp [hq]
        have hdd : ∀ d ∈ order.filter (S.contains ·), d < 7 := fun d hd => (hm d).mp (List.mem_filter.mp hd).1
        have hdl : (order.filter (S.contains ·)).length ≤ 7 := by have := List.length_filter_le (S.contains ·) order; omega
        k_dflt (refine' nested_spec (vs := vs) (n := nD) ?bB ?bF ?bX ?bN ?bT ?bk ?bd ?bu hw hf ?bR (Mine.Paired.mono (fun _ _ h => RowIs.mono h hsub1) J.seat.rows) hdd hdl ?_; (case bB => k_asm); (case bF => k_asm); (case bX => k_asm); (case bN => k_asm); (case bT => k_asm); (case bk => exact rfl); (case bd => ktr_room); (case bu => ktr_units); (case bR => exact List.mem_cons_self))
        intro tp hP tkP FP NP
        obtain ⟨ds, hds, hds7⟩ := zero_first (order := order) (S := S) ho hm J.zero (ways_of ns).root
        have hdsl : ds.length ≤ 6 := by rw [hds, List.length_cons] at hdl; omega
        rw [hds]
        walk_at "m_go8"
        k_dflt (refine' readP_spec ?cB ?cF ?cX ?cN ?cT ?ck ?cd ?cu hf hds7 hdsl ?_; (case cB => k_asm); (case cF => k_asm); (case cX => k_asm); (case cN => k_asm); (case cT => k_asm); (case ck => exact rfl); (case cd => ktr_room); (case cu => ktr_units))
        intro D2 rv n2 fr hR2 tkR FR NR g1 g2 g3 g4
        walk_at "m_go8"
        rename Fr g' L' _ _ => FS
        rename News g' L' _ _ => NS
        have h07 : ∀ d ∈ (0 :: ds), d < 7 := fun d hd => by
          rcases List.mem_cons.mp hd with rfl | hd
          · decide
          · exact (hds7 d hd).2
        k_dflt (refine' mk_spec (vs := rv) ?dB ?dF ?dX ?dN ?dT ?dk ?dd ?du ?dR (rows_up g4) (rows_plain hf h07) ?_; (case dB => k_asm); (case dF => k_asm); (case dX => k_asm); (case dN => k_asm); (case dT => k_asm); (case dk => exact rfl); (case dd => ktr_room); (case du => ktr_units); (case dR => exact List.mem_cons_self))
        intro TI2 TD2 t2 hM tkM FM NM neM neM2
        walk_at "m_go8"
        rename Fr g' L' _ _ => FZ
        rename News g' L' _ _ => NZ
        have i1 := g3 (I, oI) (by simp)
        have i2 := g3 (TH, listOf (List.toArray tv) nt) (by simp)
        have i3 := g3 (289, tabObj ps1) (by simp)
        have k1 := neM (I, oI) (by simp)
        have k2 := neM (TH, listOf (List.toArray tv) nt) (by simp)
        have k3 := neM (289, tabObj ps1) (by simp)
        have k4 := neM (D2, listOf (List.toArray rv) n2) (by simp)
        (repeat k_unfold)
        unfold MidP
        refine ⟨rfl, _, _, _, D2, n2, rv, TI2, tv, nt, S, ps1, (TI2, instObj 171 TD2) :: (TD2, dictOf [⟨PyData.keyHash w.params (PySem.Str.ofString "_headers"), .str (PySem.Str.ofString "_headers") t2, .ref D2⟩] 1) :: (fr ++ rest1), rfl, Fr.same FZ (frU_wrap (frU_wrap (frU_wrap rfl (by decide)) (by decide)) (by decide)), ?_, ?_, rfl, rfl, ⟨t', rfl⟩, ⟨fun q hq => by simp [J.sub q hq], by simp [J.cT], by simp [J.cL], ⟨⟨⟨TD2, t2, 1, by simp, by simp⟩⟩, ?_, J.seat.tab.mono (fun q hq => by simp [hq]), ?_, ?_, Ne.symm (Nat.ne_of_lt i3)⟩, Nat.ne_of_lt i2, J.t9, ?_, J.nums, J.zero, J.lc, J.seven, J.sz, J.fin⟩⟩
        · intro q hq
          refine NZ q ?_
          simp only [List.mem_cons, List.mem_append] at hq ⊢
          rcases hq with h | h | h | h | h | h | h | h <;> simp [h]
        · intro q hq
          simp only [List.mem_cons, List.mem_append] at hq
          rcases hq with rfl | rfl | rfl | rfl | rfl | hq | hq
          · exact Ne.symm (Nat.ne_of_lt i1)
          · exact off9 (TH, listOf (List.toArray tv) nt) (by simp)
          · exact off9 (289, tabObj ps1) (by simp)
          · exact k1.1.symm
          · exact k1.2.symm
          · exact Ne.symm (Nat.ne_of_lt (g1 q hq (I, oI) (by simp)))
          · exact off9 q (by simp [hq])
        · rw [hds]
          exact Mine.Paired.mono (fun _ _ h => RowIs.mono h fun q hq => by simp [hq]) g4
        · intro q hq
          simp only [List.mem_cons, List.mem_append] at hq
          rcases hq with rfl | rfl | hq | hq
          · exact k3.1.symm
          · exact k3.2.symm
          · exact Ne.symm (Nat.ne_of_lt (g1 q hq (289, tabObj ps1) (by simp)))
          · exact J.seat.p q hq
        · intro q hq
          simp only [List.mem_cons, List.mem_append] at hq
          rcases hq with rfl | rfl | hq | hq
          · exact k4.1.symm
          · exact k4.2.symm
          · exact g2 q hq
          · exact Nat.ne_of_lt (g3 q (by simp [hq]))
        · intro q hq
          simp only [List.mem_cons, List.mem_append] at hq
          rcases hq with rfl | rfl | hq | hq
          · exact k2.1.symm
          · exact k2.2.symm
          · exact Ne.symm (Nat.ne_of_lt (g1 q hq (TH, listOf (List.toArray tv) nt) (by simp)))
          · exact J.th q hq
      · iterate 5 (first | walk1 | (dsimp only; walk1))
        rw [show (((0 : Int) + (i : Int) * 1) == 6) = false by simp; omega]
        walk_at "m_go8"
        rename Fr g' L' _ _ => FZ
        rename News g' L' _ _ => NZ
        (repeat k_unfold)
        unfold MidP
        exact ⟨rfl, _, _, _, R, n, vs, TI, tv, nt, S, ps1, rest1, rfl, Fr.same FZ (frU_wrap rfl (by decide)), NZ, off9, u5, u6, ⟨t', congrArg (fun z : Int => some (Value.int z t')) (by omega)⟩, J⟩
    · unfold MidP at hfl
      obtain ⟨rfl, h1, tk1, u1, R, n, vs, TI, tv, nt, S, ps1, rest1, rfl, F1, N1, off1, v5, v6, ⟨tt, v7⟩, J⟩ := hfl
      (try dsimp only)
      walk_at "m_goIf"
      rename Fr g' L' _ _ => F2
      rename News g' L' _ _ => N2
      obtain ⟨u2, F2', w8, hu2⟩ := frU_set F2 (by decide)
      have w5 : u2 "rows" = some (.ref R) := (hu2 _ (by decide)).trans v5
      have w6 : u2 "table" = some (.ref TI) := (hu2 _ (by decide)).trans v6
      have w7 : u2 "turn" = some (.int (i : Int) tt) := (hu2 _ (by decide)).trans v7
      clear hu2 F2
      have dL' : oL.data = .cell (some (.ref LE)) := dL
      have hTHm : (TH, listOf (List.toArray tv) nt) ∈ ((I, oI) :: (R, listOf (List.toArray vs) n) :: (TH, listOf (List.toArray tv) nt) :: (289, tabObj ps1) :: rest1) := by simp
      have hcTm : (L' + 1 + 1, oC) ∈ ((I, oI) :: (R, listOf (List.toArray vs) n) :: (TH, listOf (List.toArray tv) nt) :: (289, tabObj ps1) :: rest1) := by simp [J.cT]
      have hcLm : (L' + 1, oL) ∈ ((I, oI) :: (R, listOf (List.toArray vs) n) :: (TH, listOf (List.toArray tv) nt) :: (289, tabObj ps1) :: rest1) := by simp [J.cL]
      have hLEm : (LE, listOf (List.toArray lv) n1) ∈ ((I, oI) :: (R, listOf (List.toArray vs) n) :: (TH, listOf (List.toArray tv) nt) :: (289, tabObj ps1) :: rest1) := by simp [J.sub _ hLE]
      have hCEm : (CE, listOf (List.toArray cv) nC) ∈ ((I, oI) :: (R, listOf (List.toArray vs) n) :: (TH, listOf (List.toArray tv) nt) :: (289, tabObj ps1) :: rest1) := by simp [J.sub _ hCE]
      have hWRm : (WR, listOf (List.toArray wv) nw) ∈ ((I, oI) :: (R, listOf (List.toArray vs) n) :: (TH, listOf (List.toArray tv) nt) :: (289, tabObj ps1) :: rest1) := by simp [J.sub _ hWR]
      have hORm : (OR, listOf (List.toArray ov) no) ∈ ((I, oI) :: (R, listOf (List.toArray vs) n) :: (TH, listOf (List.toArray tv) nt) :: (289, tabObj ps1) :: rest1) := by simp [J.sub _ hOR]
      refine wpAny_mono (Q := fun fl s' => MidP (fl = Flow.next ∧ ∃ h2 tk2 u2 k tk3, s' = { s with heap := h2, toks := tk2 } ∧ Fr g' L' h2 (frU ["rows", "table", "k", "ready", "turn"] u2 m0) ∧ News g' L' h2 ((I, oI) :: (R, listOf (List.toArray vs) n) :: (TH, listOf (List.toArray tv) nt) :: (289, tabObj ps1) :: rest1) ∧ u2 "rows" = some (.ref R) ∧ u2 "table" = some (.ref TI) ∧ u2 "k" = some (.int ((k : Nat) : Int) tk3) ∧ 1 ≤ k ∧ k < 7 ∧ lfOf ns k ∈ S ∧ (6 ≤ i → k + 5 = i))) ?_ (fun fl s' hfl => ?_) (fun _ _ e => e)
      · (try k_fold)
        by_cases h6 : i < 6
        · iterate 5 (first | walk1 | (dsimp only; walk1))
          rw [decide_eq_true (show (i : Int) < 6 by omega)]
          walk_at "m_go8"
          rename Fr g' L' _ _ => F4
          refine assign_tail F4 rfl (by with_unfolding_all rfl) (by with_unfolding_all rfl) rfl (by decide) rfl rfl ?_ (by intro _; with_unfolding_all rfl)
          walk_at "m_go8"
          rename IsRange _ _ 1 7 1 _ _ _ => hr7
          rename Fr g' L' _ _ => F5
          rename News g' L' _ _ => N5
          refine tail_range (n := 6) rfl F5 N5 hr7 rfl rfl (by decide) (by decide) rfl (fun q ys nw => nw = ((I, oI) :: (R, listOf (List.toArray vs) n) :: (TH, listOf (List.toArray tv) nt) :: (289, tabObj ps1) :: rest1) ∧ IntsAre ys ((readyOf (lfOf ns) S q).map fun d => ((d : Nat) : Int))) ⟨rfl, .nil⟩ ?_ ?_
          · rintro q v ys nw I2 oI2 C oC2 D m₁ h tk E' hq ⟨tv', rfl⟩ ⟨rfl, hys⟩ hC FB NB off ne2 hCL hC₀
            refine comp_assign FB NB hC off ne2 hCL hC₀ rfl rfl ?_
            intro h4 tk4 oC4 FC NC hC4
            refine wpAny_tests_one ?_
            (try k_fold)
            walk_at "m_go8"
            have hgq : (-1 :: (List.range 6).map fun i => ((lfOf ns (i + 1) : Nat) : Int)).getD (1 + (q : Int)).toNat 0 = ((lfOf ns (q + 1) : Nat) : Int) := by
              rw [show (1 + (q : Int)).toNat = q + 1 by omega, List.getD_cons_succ, List.getD_eq_getElem?_getD, List.getElem?_map, List.getElem?_range hq]
              rfl
            k_dflt (refine' item_anyK (News.isList ?zN ?zm) hlv ?z0 ?z1 ?z2 ?_ ?z3; (case zN => k_asm); (case zm => k_mem); (case z0 => omega); (case z1 => (simp only [List.length_cons, List.length_map, List.length_range]; omega)); (case z2 => omega); (case z3 => with_unfolding_all rfl))
            intro tb
            rw [hgq]
            walk_at "m_go8"
            k_dflt (refine' kf_in (b := decide (lfOf ns (q + 1) ∈ S)) ?yN ?ym ?yi ?ye ?_; (case yN => k_asm); (case ym => k_mem); (case yi => exact kf_ints_of J.nums); (case ye => exact any_is J.nums))
            have hsucc := readyOf_succ (lfOf ns) S q
            by_cases hin : lfOf ns (q + 1) ∈ S
            · rw [if_pos hin] at hsucc
              rw [decide_eq_true hin]
              walk_at "m_go8"
              rename Fr g' L' _ _ => FE
              rename News g' L' _ _ => NE
              (repeat k_unfold)
              refine ⟨_, _, _, _, _, rfl, FE, NE, hC4, off, rfl, ?_⟩
              rw [hsucc, List.map_append]
              have := ints_snoc (k := ((q + 1 : Nat) : Int)) (t := tv') hys
              rw [show ((q + 1 : Nat) : Int) = 1 + (q : Int) by omega] at this
              simp only [List.map_cons, List.map_nil]
              rw [show ((q + 1 : Nat) : Int) = 1 + (q : Int) by omega]
              exact this
            · rw [if_neg hin, List.append_nil] at hsucc
              rw [decide_eq_false hin]
              walk_at "m_go8"
              rename Fr g' L' _ _ => FE
              rename News g' L' _ _ => NE
              (repeat k_unfold)
              refine ⟨_, _, _, _, _, rfl, FE, NE, hC4, off, rfl, ?_⟩
              rw [hsucc]
              exact hys
          · rintro ys nw ⟨rfl, hys⟩
            intro D h tk FB NB off
            (try dsimp only)
            have hrm : ∀ k, k ∈ readyOf (lfOf ns) S 6 ↔ (1 ≤ k ∧ k < 7 ∧ lfOf ns k ∈ S) := fun k => by
              unfold readyOf
              simp only [List.mem_filter, List.mem_map, List.mem_range, decide_eq_true_eq]
              constructor
              · rintro ⟨⟨a, h1, rfl⟩, h2⟩; exact ⟨by omega, by omega, h2⟩
              · rintro ⟨h1, h2, h3⟩; exact ⟨⟨k - 1, by omega, by omega⟩, h3⟩
            have hr1 : 1 ∈ readyOf (lfOf ns) S 6 := (hrm 1).mpr ⟨by omega, by omega, by
              have := lfOf_lt ns (show 1 ≤ 1 by omega)
              rw [show lfOf ns 1 = 0 by omega]; exact J.zero⟩
            have hrl := List.length_pos_of_mem hr1
            have hyl : ys.length = (readyOf (lfOf ns) S 6).length := by rw [hys.length, List.length_map]
            have hrl6 : (readyOf (lfOf ns) S 6).length ≤ 6 := by
              unfold readyOf
              refine Nat.le_trans (List.length_filter_le _ _) ?_
              simp
            generalize readyOf (lfOf ns) S 6 = rdy at *
            walk_at "m_go8"
            k_dflt (refine' item_anyK (News.isList ?xN ?xm) hcv ?x0 ?x1 ?x2 ?_ ?x3; (case xN => k_asm); (case xm => k_mem); (case x0 => omega); (case x1 => omega); (case x2 => omega); (case x3 => with_unfolding_all rfl))
            intro tc
            have hyl0 : ((ys.length : Nat) : Int) ≠ 0 := by omega
            walk_at "m_go8"
            obtain ⟨qn, hqn, hql⟩ : ∃ qn : Nat, ((ns.getD ((i : Int)).toNat 0).fdiv 100).fmod ((ys.length : Nat) : Int) = (qn : Int) ∧ qn < ys.length := by
              have h1 := Int.emod_nonneg ((ns.getD ((i : Int)).toNat 0).fdiv 100) hyl0
              have h2 := Int.emod_lt_of_pos ((ns.getD ((i : Int)).toNat 0).fdiv 100) (show (0 : Int) < ((ys.length : Nat) : Int) by omega)
              rw [Int.fmod_eq_emod_of_nonneg _ (by omega)]
              exact ⟨_, (Int.toNat_of_nonneg h1).symm, by omega⟩
            rw [hqn]
            have hgk : (rdy.map fun d => ((d : Nat) : Int)).getD ((qn : Int)).toNat 0 = ((rdy.getD qn 0 : Nat) : Int) := by
              rw [Int.toNat_natCast, List.getD_eq_getElem?_getD, List.getD_eq_getElem?_getD, List.getElem?_map, List.getElem?_eq_getElem (by omega)]
              rfl
            have hkr : rdy.getD qn 0 ∈ rdy := by
              rw [List.getD_eq_getElem?_getD, List.getElem?_eq_getElem (by omega)]
              exact List.getElem_mem _
            k_dflt (refine' item_anyK (News.isList ?wN ?wm) hys ?w0 ?w1 ?w2 ?_ ?w3; (case wN => k_asm); (case wm => k_mem); (case w0 => omega); (case w1 => (rw [List.length_map]; omega)); (case w2 => omega); (case w3 => with_unfolding_all rfl))
            intro td
            rw [hgk]
            obtain ⟨hk1, hk7, hkl⟩ := (hrm _).mp hkr
            walk_at "m_go8"
            rename Fr g' L' _ _ => FZ
            rename News g' L' _ _ => NZ
            (repeat k_unfold)
            unfold MidP
            exact ⟨rfl, _, _, _, rdy.getD qn 0, _, rfl, Fr.same FZ (frU_wrap (frU_wrap rfl (by decide)) (by decide)), fun q hq => NZ q (List.mem_cons_of_mem _ hq), w5, w6, rfl, hk1, hk7, hkl, fun h => absurd h6 (by omega)⟩
        · iterate 5 (first | walk1 | (dsimp only; walk1))
          rw [decide_eq_false (show ¬ ((i : Int) < 6) by omega)]
          walk_at "m_go8"
          rename Fr g' L' _ _ => FZ
          rename News g' L' _ _ => NZ
          (repeat k_unfold)
          unfold MidP
          refine ⟨rfl, _, _, u2, i - 5, _, rfl, FZ, NZ, w5, w6, w8.trans (congrArg (fun z : Int => some (Value.int z _)) (show (i : Int) - 5 = ((i - 5 : Nat) : Int) by omega)), by omega, by omega, ?_, by omega⟩
          · have hlt := lfOf_lt ns (show 1 ≤ i - 5 by omega)
            by_cases h0 : lfOf ns (i - 5) = 0
            · rw [h0]; exact J.zero
            · exact J.fin _ (by omega) (by omega) (by omega)
      · unfold MidP at hfl
        obtain ⟨rfl, h2, tk2, u2, k, tk3, rfl, F3, N3, x5, x6, x7, hk1, hk7, hkl, hk6⟩ := hfl
        (try dsimp only)
        have hwl : wv.length = 7 := by rw [hwv.length, List.length_map, List.length_range]
        obtain ⟨v9, hv9⟩ : ∃ v9, wv[k]? = some v9 := ⟨_, List.getElem?_eq_getElem (by omega)⟩
        obtain ⟨x9, hx9, tw, rfl⟩ := paired_get hwv k v9 hv9
        have hx9' : txOf rT k = x9 := by
          rw [List.getElem?_map, List.getElem?_range hk7] at hx9
          exact Option.some.inj hx9
        rw [← hx9'] at hv9
        have hlk : (-1 :: (List.range 6).map fun i => ((lfOf ns (i + 1) : Nat) : Int)).getD ((k : Int)).toNat 0 = ((lfOf ns k : Nat) : Int) := by
          rw [Int.toNat_natCast, show k = k - 1 + 1 by omega, List.getD_cons_succ, List.getD_eq_getElem?_getD, List.getElem?_map, List.getElem?_range (by omega)]
          rfl
        walk_at "m_go8"
        k_dflt (refine' item_anyK (News.isList ?zN ?zm) hlv ?z0 ?z1 ?z2 ?_ ?z3; (case zN => k_asm); (case zm => k_mem); (case z0 => omega); (case z1 => (simp only [List.length_cons, List.length_map, List.length_range]; omega)); (case z2 => omega); (case z3 => with_unfolding_all rfl))
        intro tb
        rw [hlk]
        walk_at "m_go8"
        k_dflt (refine' item_list ?zl ?za ?zb ?zc ?_; (case zl => exact News.isList (by k_asm) (by k_mem)); (case za => exact Int.natCast_nonneg _); (case zb => omega); (case zc => (rw [Int.toNat_natCast, List.getElem?_toArray]; exact hv9)))
        walk_at "m_go8"
        rename News g' L' _ _ => N4
        k_dflt (refine' comes_turn (ps := ps1) (R := R) (TH := TH) (n := n) (vs := vs) (tv := tv) (nt := nt) (I := I) (oI := oI) (rest := rest1) ?cB ?cF ?cX ?cT ?ck ?cd ?cu hoI N4 (ways_of ns) ho hm hol J.lc J.seven hk1 hk7 hkl J.seat J.tr J.t9 J.th off1 ?_; (case cB => k_asm); (case cF => k_asm); (case cX => k_asm); (case cT => k_asm); (case ck => exact rfl); (case cd => ktr_room); (case cu => ktr_units))
        intro tr vs2 n2 ps2 rest2 h5 tk5 F5 N5 st5 sub5 th5 i5
        walk_at "m_go8"
        k_dflt (refine' item_list ?yl ?ya ?yb ?yc ?_; (case yl => exact News.isList (by k_asm) (show (WR, listOf (List.toArray wv) nw) ∈ _ by simp [sub5 _ (J.sub _ hWR)])); (case ya => exact Int.natCast_nonneg _); (case yb => omega); (case yc => (rw [Int.toNat_natCast, List.getElem?_toArray]; exact hv9)))
        generalize txOf rT k = xk at *
        walk1
        simp only [bne_self_eq_false]
        iterate 3 (first | walk1 | (dsimp only; walk1))
        (try dsimp only)
        refine wpAny_execs_cons ?_
        rename Fr g' L' _ _ => F6
        rename News g' L' _ _ => N6
        refine wpAny_mono (Q := fun fl s' => MidP (fl = Flow.next ∧ ∃ h3 tk4 tv3 nt3, s' = { s with heap := h3, toks := tk4 } ∧ Fr g' L' h3 (frU ["rows", "table", "k", "ready", "turn"] u2 m0) ∧ News g' L' h3 ((I, oI) :: (R, listOf (List.toArray vs2) n2) :: (TH, listOf (List.toArray tv3) nt3) :: (289, tabObj ps2) :: rest2) ∧ IntsAre tv3 ((if k ∈ S then S else S ++ [k]).map fun d => ((d : Nat) : Int)))) ?_ (fun fl s' hfl => ?_) (fun _ _ e => e)
        · (try k_fold)
          have hcT2 := sub5 _ J.cT
          have hcL2 := sub5 _ J.cL
          walk_at "m_go8"
          k_dflt (refine' kf_notin (b := !decide (k ∈ S)) ?zN ?zm ?zi ?ze ?_; (case zN => k_asm); (case zm => k_mem); (case zi => exact kf_ints_of J.nums); (case ze => exact congrArg _ (any_is J.nums)))
          by_cases hkS : k ∈ S
          · rw [show decide (k ∈ S) = true from decide_eq_true hkS]
            walk_at "m_go8"
            rename Fr g' L' _ _ => FZ
            rename News g' L' _ _ => NZ
            (repeat k_unfold)
            unfold MidP
            exact ⟨rfl, _, _, tv, nt, rfl, FZ, NZ, by rw [if_pos hkS]; exact J.nums⟩
          · rw [show decide (k ∈ S) = false from decide_eq_false hkS]
            walk_at "m_go8"
            rename Fr g' L' _ _ => FA
            rename News g' L' _ _ => NA
            have htvl : tv.length ≤ 20 := by have h1 := J.nums.length; rw [List.length_map] at h1; have := J.sz; omega
            refine append_L (R := TH) (vs := tv) (n := nt) (news := (I, oI) :: (R, listOf (List.toArray vs2) n2) :: (289, tabObj ps2) :: rest2) FA (fun q hq => NA q (by walk_at "perm")) ?_ (by omega) ?_
            · intro q hq
              simp only [List.mem_cons] at hq
              rcases hq with rfl | rfl | rfl | hq
              · exact (off1 (TH, listOf (List.toArray tv) nt) (by simp)).symm
              · exact J.tr.symm
              · exact J.t9.symm
              · exact th5 q hq
            intro hX FX NX
            walk_at "m_go8"
            rename Fr g' L' _ _ => FZ
            (repeat k_unfold)
            unfold MidP
            exact ⟨rfl, _, _, tv ++ [.int (k : Int) tk3], nt + 1, rfl, FZ, fun q hq => NX q (by walk_at "perm"), by rw [if_neg hkS, List.map_append]; exact ints_snoc J.nums⟩
        · unfold MidP at hfl
          obtain ⟨rfl, h6, tk6, tv3, nt3, rfl, F7, N7, hI7⟩ := hfl
          (try dsimp only)
          have hSm : ∀ d, d ∈ (if k ∈ S then S else S ++ [k]) ↔ d ∈ S ∨ d = k := by
            intro d
            split
            · rename_i hkS
              exact ⟨.inl, fun h => h.elim id fun e => e ▸ hkS⟩
            · simp
          have hSl : (if k ∈ S then S else S ++ [k]).length ≤ S.length + 1 := by split <;> simp
          generalize (if k ∈ S then S else S ++ [k]) = S2 at *
          have hcT2 := sub5 _ J.cT
          have hOR2 := sub5 _ (J.sub _ hOR)
          obtain ⟨TD3, tt3, nn3, hq1, hq2⟩ := st5.table.ex
          have hv2 : vs2.length ≤ 1000 := by
            have a1 := st5.rows.length
            rw [List.length_map] at a1
            have a2 := List.length_filter_le (S2.contains ·) order
            omega
          have hd2 : ∀ d ∈ order.filter (S2.contains ·), d < 7 := fun d hd => (hm d).mp (List.mem_filter.mp hd).1
          rename IntsAre ov _ => hov
          have hovl : ov.length = 7 := by rw [hov.length, List.length_map, hol]
          have J2 : TextInv w rest TH (L' + 1) (L' + 1 + 1) oC oL order (lfOf ns) rT (i + 1) R TI vs2 tv3 S2 ps2 rest2 := by
            refine ⟨fun q hq => sub5 _ (J.sub q hq), hcT2, sub5 _ J.cL, st5, J.tr, J.t9, th5, hI7, (hSm 0).mpr (.inl J.zero), ?_, ?_, by have := J.sz; omega, ?_⟩
            · intro d hd h1
              rcases (hSm d).mp hd with h | rfl
              · exact (hSm _).mpr (.inl (J.lc d h h1))
              · exact (hSm _).mpr (.inl hkl)
            · intro d hd
              rcases (hSm d).mp hd with h | rfl
              · exact J.seven d h
              · exact hk7
            · intro d h1 h2 h3
              by_cases h4 : d + 6 ≤ i
              · exact (hSm d).mpr (.inl (J.fin d h1 h2 h4))
              · exact (hSm d).mpr (.inr (by have := hk6 (by omega); omega))
          refine wpAny_execs_cons ?_
          walk_at "m_go8"
          rename News g' L' _ _ => N8
          k_dflt (refine' keys_spec (vs := vs2) (n := n2) ?bB ?bF ?bX ?bN ?bT ?bk ?bd ?bu ?bh ?bR (rows_up4 st5.rows) hv2 ?_; (case bB => k_asm); (case bF => k_asm); (case bX => k_asm); (case bN => exact N8); (case bT => k_asm); (case bk => exact rfl); (case bd => ktr_room); (case bu => ktr_units); (case bh => exact st5.table.mono (fun q hq => by simp [hq])); (case bR => simp))
          intro DK ys hK tkK FK NK neK hys
          have hys' := names_strs hys
          walk_at "m_go8"
          rename Fr g' L' _ _ => FA
          refine eval_tail FA (by with_unfolding_all rfl) rfl (by decide) ?_ (by intro _; with_unfolding_all rfl)
          have hORm2 : (OR, listOf (List.toArray ov) no) ∈ ((DK, lst ys) :: (I, oI) :: (R, listOf (List.toArray vs2) n2) :: (TH, listOf (List.toArray tv3) nt3) :: (289, tabObj ps2) :: rest2) := by simp [hOR2]
          have hTHm2 : (TH, listOf (List.toArray tv3) nt3) ∈ ((DK, lst ys) :: (I, oI) :: (R, listOf (List.toArray vs2) n2) :: (TH, listOf (List.toArray tv3) nt3) :: (289, tabObj ps2) :: rest2) := by simp
          walk_at "m_go8"
          rename Fr g' L' _ _ => FB
          rename News g' L' _ _ => NB
          refine tail_list (its := List.toArray ov) rfl FB NB (by rw [List.size_toArray, sizeLine_eq]; omega) (by decide) rfl (fun q ys2 nw => nw = ((DK, lst ys) :: (I, oI) :: (R, listOf (List.toArray vs2) n2) :: (TH, listOf (List.toArray tv3) nt3) :: (289, tabObj ps2) :: rest2) ∧ Paired StrIs ys2 (((order.take q).filter (S2.contains ·)).map big)) ⟨rfl, .nil⟩ (fun q ys2 nw h => .inr ⟨_, h.1 ▸ hORm2, rfl, _, rfl⟩) ?_ ?_
          · rintro q v ys2 nw I2 oI2 C oC2 D m₁ h tk E' hq hv ⟨rfl, hy2⟩ hC FC NC off ne2 hCL hC₀
            (try k_fold)
            obtain ⟨d, td, hdq, rfl⟩ := ints_at' hov (by simpa using hv)
            have hd7 : d < 7 := (hm d).mp (List.mem_of_getElem? hdq)
            refine comp_assign FC NC hC off ne2 hCL hC₀ rfl rfl ?_
            intro h4 tk4 oC4 FD ND hC4
            refine wpAny_tests_one ?_
            (try k_fold)
            walk_at "m_go8"
            k_dflt (refine' kf_in (b := decide (d ∈ S2)) ?yN ?ym ?yi ?ye ?_; (case yN => k_asm); (case ym => k_mem); (case yi => exact kf_ints_of hI7); (case ye => exact any_is hI7))
            by_cases hin : d ∈ S2
            · rw [decide_eq_true hin]
              walk_at "m_go8"
              rename Fr g' L' _ _ => FE
              rename News g' L' _ _ => NE
              (repeat k_unfold)
              refine ⟨_, _, _, _, _, rfl, FE, NE, hC4, off, rfl, ?_⟩
              rw [List.take_add_one, hdq, List.filter_append, List.map_append]
              have e9 : [d].filter (S2.contains ·) = [d] := by simp [hin]
              show Paired StrIs _ (_ ++ ([d].filter (S2.contains ·)).map big)
              rw [e9]
              exact Paired.snoc hy2 ⟨_, rfl⟩
            · rw [decide_eq_false hin]
              walk_at "m_go8"
              rename Fr g' L' _ _ => FE
              rename News g' L' _ _ => NE
              (repeat k_unfold)
              refine ⟨_, _, _, _, _, rfl, FE, NE, hC4, off, rfl, ?_⟩
              rw [List.take_add_one, hdq, List.filter_append, List.map_append]
              have e9 : [d].filter (S2.contains ·) = [] := by simp [hin]
              show Paired StrIs _ (_ ++ ([d].filter (S2.contains ·)).map big)
              rw [e9]
              simpa using hy2
          · rintro ys2 nw ⟨rfl, hy2⟩
            intro D h tk FC NC off
            (try dsimp only)
            rw [show (List.toArray ov).size = order.length by rw [List.size_toArray, hovl, hol], List.take_length] at hy2
            walk_at "m_go8"
            rename News g' L' _ _ => NE
            k_dflt (refine' kqd_ne (n₁ := []) (n₂ := []) (ds := ((order.filter (S2.contains ·)).map big).map Dat.str) (es := ((order.filter (S2.contains ·)).map big).map Dat.str) NE ?xa ?xc ?xd (strs_dat hys') (fun _ h => nomatch h) ?ya ?yc ?yd (strs_dat hy2) (fun _ h => nomatch h) (big_ok hd2) (big_ok hd2) ?zu ?_; (case xa => exact List.mem_cons_of_mem _ List.mem_cons_self); (case ya => exact List.mem_cons_self); (case xc => exact rfl); (case xd => exact rfl); (case yc => exact rfl); (case yd => exact rfl); (case zu => ktr_units))
            simp only [decide_true, Bool.not_true]
            iterate 3 (first | walk1 | (dsimp only; walk1))
            (try dsimp only)
            refine wpAny_execs_nil ?_
            rename Fr g' L' _ _ => FZ
            (repeat k_unfold)
            refine ⟨_, _, _, _, rfl, FZ, (fun q hq => NE q ?_ : News g' L' _ ((I, oI) :: (R, listOf (List.toArray vs2) n2) :: (TH, listOf (List.toArray tv3) nt3) :: (289, tabObj ps2) :: rest2)), ?_, _, rfl, R, n2, vs2, TI, tv3, nt3, S2, ps2, rest2, rfl, x5, x6, J2⟩
            · walk_at "perm"
            · intro q hq
              simp only [List.mem_cons] at hq
              rcases hq with rfl | rfl | rfl | hq
              · exact off1 (R, listOf (List.toArray vs) n) (by simp)
              · exact off1 (TH, listOf (List.toArray tv) nt) (by simp)
              · exact off1 (289, tabObj ps1) (by simp)
              · exact i5 q hq
  · rintro u nw h tk ⟨R, n, vs, TI, tv, nt, S, ps1, rest1, rfl, u5, u6, J⟩ F9 N9
    (try dsimp only)
    obtain ⟨TD1, tt1, nn1, hi1, hi2⟩ := J.seat.table.ex
    have hvl := J.short hol
    have hfull : order.filter (S.contains ·) = order := by
      refine List.filter_eq_self.mpr fun d hd => ?_
      simp only [List.contains_iff_mem]
      by_cases h0 : d = 0
      · rw [h0]; exact J.zero
      · exact J.fin d (by omega) ((hm d).mp hd) (by have := (hm d).mp hd; omega)
    have hrows := J.seat.rows
    rw [hfull] at hrows
    walk_at "m_go8"
    k_dflt (refine' items_spec (vs := vs) (n := n) ?yB ?yF ?yX ?yN ?yT ?yk ?yd ?yu ?yh ?yR hvl ?_; (case yB => k_asm); (case yF => k_asm); (case yX => k_asm); (case yN => k_asm); (case yT => k_asm); (case yk => exact rfl); (case yd => ktr_room); (case yu => ktr_units); (case yh => exact J.seat.table.mono (fun q hq => by simp [hq])); (case yR => simp))
    intro D1 nD hA tkA FA NA neA
    walk_at "m_go8"
    rename Fr g' L' _ _ => FB
    rename News g' L' _ _ => NB
    rename D1 < _ ∧ _ => lB
    obtain ⟨TZ, hTZ⟩ := News.first NB
    subst hTZ
    refine append_L (R := D1) FB (News.swap2' NB) ?_ (by omega) ?_
    · intro q hq
      rcases List.mem_cons.mp hq with rfl | hq
      · exact Ne.symm (Nat.ne_of_lt lB.1)
      · exact neA q hq
    intro hC FC NC
    walk_at "m_go8"
    k_dflt (refine' items_spec (vs := vs) (n := n) ?zB ?zF ?zX ?zN ?zT ?zk ?zd ?zu ?zh ?zR hvl ?_; (case zB => k_asm); (case zF => k_asm); (case zX => k_asm); (case zN => k_asm); (case zT => k_asm); (case zk => exact rfl); (case zd => ktr_room); (case zu => ktr_units); (case zh => exact J.seat.table.mono (fun q hq => by simp [hq])); (case zR => simp))
    intro D2 nD2 hD tkD FD ND neD
    walk_at "m_go8"
    rename News h₀ L _ _ => NN
    refine ret D2 vs nD2 ps1 ((D2, listOf (List.toArray vs) nD2) :: rest1) _ _ (by k_asm) (fun q hq => NN q (by walk_at "perm")) (fun q hq => List.mem_cons_of_mem _ (J.sub q hq)) ?_ List.mem_cons_self (Mine.Paired.mono (fun _ _ h => RowIs.mono h fun q hq => List.mem_cons_of_mem _ hq) hrows)
    intro q hq
    rcases List.mem_cons.mp hq with rfl | hq
    · exact (neD (289, tabObj ps1) (by simp)).symm
    · exact J.seat.p q hq
end
end Mine
end
section
open PySem PySem.W PyProof.Rows PyProof.V PySem.Spec
namespace Mine
set_option maxHeartbeats 4000000
/-- what a sort that asks comes to -/
def runT {α : Type} : KasT α → (Nat → Nat → Bool) → α
  | .ret a, _ => a
  | .ask i j k, f => runT (k (f i j)) f
theorem run_wp {α : Type} {cmp : Nat → Nat → (Bool → Shared → Prop) → Shared → Prop} {f : Nat → Nat → Bool} (hc : ∀ i j C s, C (f i j) s → cmp i j C s) {Q : α → Shared → Prop} : ∀ (t : KasT α) (s : Shared), Q (runT t f) s → t.kasWp cmp Q s
  | .ret _, _, h => h
  | .ask i j k, s, h => hc i j _ s (run_wp hc (k (f i j)) s h)
/-- all that is asked, along one run, is one of the seven -/
def okRun {α : Type} : KasT α → (Nat → Nat → Bool) → Bool
  | .ret _, _ => true
  | .ask i j k, f => decide (i < 7) && decide (j < 7) && okRun (k (f i j)) f
theorem run_wp7 {α : Type} {cmp : Nat → Nat → (Bool → Shared → Prop) → Shared → Prop} {f : Nat → Nat → Bool} {s : Shared} (hc : ∀ i j C, i < 7 → j < 7 → C (f i j) s → cmp i j C s) {Q : α → Shared → Prop} : ∀ (t : KasT α), okRun t f = true → Q (runT t f) s → t.kasWp cmp Q s
  | .ret _, _, h => h
  | .ask i j k, ho, h => by
    simp only [okRun, Bool.and_eq_true, decide_eq_true_eq] at ho
    exact hc i j _ ho.1.1 ho.1.2 (run_wp7 hc (k (f i j)) ho.2 h)
def ordOf (ps : List (List Nat)) : List Nat := (runT (kas_sort 7) fun i j => lx (ps.getD i []) (ps.getD j [])).toList
def sortedB (ps : List (List Nat)) : List Nat → Bool
  | [] => true
  | a :: r => r.all (fun b => lx (ps.getD a []) (ps.getD b [])) && sortedB ps r
def goodB (ps : List (List Nat)) : Bool :=
  let o := ordOf ps
  okRun (kas_sort 7) (fun i j => lx (ps.getD i []) (ps.getD j [])) && sortedB ps o && o.length == 7 && o.all (fun d => decide (d < 7)) && (List.range 7).all (fun d => o.contains d) && blocks o == o.map fun k => ((ps.getD k []).length, k)
def waysL (a2 a3 a4 a5 a6 : Nat) : List (List Nat) :=
  let p2 := ([[], [1]] : List (List Nat)).getD a2 [] ++ [2]
  let p3 := ([[], [1], p2] : List (List Nat)).getD a3 [] ++ [3]
  let p4 := ([[], [1], p2, p3] : List (List Nat)).getD a4 [] ++ [4]
  let p5 := ([[], [1], p2, p3, p4] : List (List Nat)).getD a5 [] ++ [5]
  let p6 := ([[], [1], p2, p3, p4, p5] : List (List Nat)).getD a6 [] ++ [6]
  [[], [1], p2, p3, p4, p5, p6]
def goodRest (a2 a3 : Nat) : Bool := (List.range 4).all fun a4 => (List.range 5).all fun a5 => (List.range 6).all fun a6 => goodB (waysL a2 a3 a4 a5 a6)
theorem good_00 : goodRest 0 0 = true := by decide +kernel
theorem good_01 : goodRest 0 1 = true := by decide +kernel
theorem good_02 : goodRest 0 2 = true := by decide +kernel
theorem good_10 : goodRest 1 0 = true := by decide +kernel
theorem good_11 : goodRest 1 1 = true := by decide +kernel
theorem good_12 : goodRest 1 2 = true := by decide +kernel
theorem good_rest : ∀ a2, a2 < 2 → ∀ a3, a3 < 3 → goodRest a2 a3 = true
  | 0, _, 0, _ => good_00
  | 0, _, 1, _ => good_01
  | 0, _, 2, _ => good_02
  | 1, _, 0, _ => good_10
  | 1, _, 1, _ => good_11
  | 1, _, 2, _ => good_12
  | _, _, n + 3, h => absurd h (by omega)
  | n + 2, h, _, _ => absurd h (by omega)
theorem all_good : ∀ a2, a2 < 2 → ∀ a3, a3 < 3 → ∀ a4, a4 < 4 → ∀ a5, a5 < 5 → ∀ a6, a6 < 6 → goodB (waysL a2 a3 a4 a5 a6) = true := by
  intro a2 h2 a3 h3
  have h := good_rest a2 h2 a3 h3
  unfold goodRest at h
  simp only [List.all_eq_true, List.mem_range] at h
  exact h
end Mine
end
section
open PySem PySem.W PyProof.Rows PyProof.V PySem.Spec
namespace Mine
set_option maxHeartbeats 4000000
theorem ways_list {lf : Nat → Nat} {P : Nat → List Nat} (W : Ways lf P) : (List.range 7).map P = waysL (lf 2) (lf 3) (lf 4) (lf 5) (lf 6) := by
  have h0 := W.root
  have l1 := W.less 1 (by omega) (by omega)
  have l2 := W.less 2 (by omega) (by omega)
  have l3 := W.less 3 (by omega) (by omega)
  have l4 := W.less 4 (by omega) (by omega)
  have l5 := W.less 5 (by omega) (by omega)
  have l6 := W.less 6 (by omega) (by omega)
  have h1 : P 1 = [1] := by rw [W.step 1 (by omega) (by omega), show lf 1 = 0 by omega, h0]; rfl
  have g2 : ∀ j, j < 2 → ([P 0, P 1] : List (List Nat)).getD j [] = P j := by intro j hj; rcases j with _ | _ | j <;> first | rfl | omega
  have g3 : ∀ j, j < 3 → ([P 0, P 1, P 2] : List (List Nat)).getD j [] = P j := by intro j hj; rcases j with _ | _ | _ | j <;> first | rfl | omega
  have g4 : ∀ j, j < 4 → ([P 0, P 1, P 2, P 3] : List (List Nat)).getD j [] = P j := by intro j hj; rcases j with _ | _ | _ | _ | j <;> first | rfl | omega
  have g5 : ∀ j, j < 5 → ([P 0, P 1, P 2, P 3, P 4] : List (List Nat)).getD j [] = P j := by intro j hj; rcases j with _ | _ | _ | _ | _ | j <;> first | rfl | omega
  have g6 : ∀ j, j < 6 → ([P 0, P 1, P 2, P 3, P 4, P 5] : List (List Nat)).getD j [] = P j := by intro j hj; rcases j with _ | _ | _ | _ | _ | _ | j <;> first | rfl | omega
  have s2 := W.step 2 (by omega) (by omega)
  have s3 := W.step 3 (by omega) (by omega)
  have s4 := W.step 4 (by omega) (by omega)
  have s5 := W.step 5 (by omega) (by omega)
  have s6 := W.step 6 (by omega) (by omega)
  rw [← g2 _ l2] at s2
  rw [← g3 _ l3] at s3
  rw [← g4 _ l4] at s4
  rw [← g5 _ l5] at s5
  rw [← g6 _ l6] at s6
  rw [h0, h1] at s2 s3 s4 s5 s6
  show [P 0, P 1, P 2, P 3, P 4, P 5, P 6] = _
  rw [h0, h1]
  unfold waysL
  dsimp only
  rw [← s2, ← s3, ← s4, ← s5, ← s6]
theorem sortedB_pw {ps : List (List Nat)} {P : Nat → List Nat} (hP : ∀ d, d < 7 → ps.getD d [] = P d) : ∀ {l : List Nat}, (∀ d ∈ l, d < 7) → sortedB ps l = true → l.Pairwise (before P)
  | [], _, _ => .nil
  | a :: r, h7, h => by
    simp only [sortedB, Bool.and_eq_true, List.all_eq_true] at h
    refine .cons (fun b hb => ?_) (sortedB_pw hP (fun d hd => h7 d (List.mem_cons_of_mem _ hd)) h.2)
    have := h.1 b hb
    rw [hP a (h7 a List.mem_cons_self), hP b (h7 b (List.mem_cons_of_mem _ hb))] at this
    exact this
/-- the order that the sort tells, for every tree -/
theorem order_good {lf : Nat → Nat} {P : Nat → List Nat} (W : Ways lf P) :
    (ordOf ((List.range 7).map P)).Pairwise (before P) ∧ (∀ d, d ∈ ordOf ((List.range 7).map P) ↔ d < 7) ∧ (ordOf ((List.range 7).map P)).length = 7 ∧ okRun (kas_sort 7) (fun i j => lx (((List.range 7).map P).getD i []) (((List.range 7).map P).getD j [])) = true ∧ blocks (ordOf ((List.range 7).map P)) = (ordOf ((List.range 7).map P)).map fun k => ((P k).length, k) := by
  have hP : ∀ d, d < 7 → ((List.range 7).map P).getD d [] = P d := fun d hd => by
    rw [List.getD_eq_getElem?_getD, List.getElem?_map, List.getElem?_range hd]; rfl
  have hg : goodB ((List.range 7).map P) = true := by
    rw [ways_list W]
    exact all_good _ (W.less 2 (by omega) (by omega)) _ (W.less 3 (by omega) (by omega)) _ (W.less 4 (by omega) (by omega)) _ (W.less 5 (by omega) (by omega)) _ (W.less 6 (by omega) (by omega))
  unfold goodB at hg
  simp only [Bool.and_eq_true, beq_iff_eq, List.all_eq_true, List.mem_range, List.contains_iff_mem, decide_eq_true_eq] at hg
  obtain ⟨⟨⟨⟨⟨g0, g1⟩, g2⟩, h7⟩, g3⟩, g4⟩ := hg
  refine ⟨sortedB_pw hP h7 g1, fun d => ⟨h7 d, g3 d⟩, g2, g0, ?_⟩
  rw [g4]
  refine List.map_congr_left fun k hk => ?_
  rw [hP k (h7 k hk)]
end Mine
end
section
open PySem PySem.W PyProof.Rows PyProof.V PySem.Spec
namespace Mine
set_option maxHeartbeats 4000000
def okLB : List (PySem.Str × PySem.Str) → PySem.Str → Bool
  | [], _ => true
  | (a, b) :: r, x => decide (x.length ≤ 2000000) && okLB r (rep x a b)
theorem okL_of : ∀ {l : List (PySem.Str × PySem.Str)} {x : PySem.Str}, okLB l x = true → OkL l x
  | [], _, _ => trivial
  | (a, b) :: r, x, h => by
    simp only [okLB, Bool.and_eq_true, decide_eq_true_eq] at h
    exact ⟨h.1, okL_of h.2⟩
def lookB (way : Nat) (q : PySem.Str × PySem.Str) : Bool := match lookup (.str q.1) (refD way) with
  | some (.str r) => r == q.2
  | _ => false
theorem look_of {way : Nat} {q : PySem.Str × PySem.Str} (h : lookB way q = true) : lookup (.str q.1) (refD way) = some (.str q.2) := by
  unfold lookB at h
  split at h
  · rename_i r hr
    rw [hr, eq_of_beq h]
  · cases h
def refB (way : Nat) (q : PySem.Str × PySem.Str) : Bool :=
  (escL (tbl way) q.1 == q.2) && okLB (tbl way) q.1 && lookB way q && q.1.cps.size == 1 && q.1.cps.all (fun c => decide (c < 128)) && q.2.cps.toList == 38 :: q.2.cps.toList.drop 1 && decide ((q.2.cps.toList.drop 1).length ≤ 8) &&
    (q.2.cps.toList.drop 1).all (fun c => !hardC c && c != 38 && decide (32 ≤ c) && decide (c < 127))
theorem refs_all : ((List.range 5).all fun way => (refL way).all fun q => refB way q) = true := by decide +kernel
theorem head_all : ((List.range 5).all fun way => escL (tbl way) "" == "" && okLB (tbl way) "") = true := by decide +kernel
def rfOf (way : Nat) (ns : List Int) (k : Nat) : PySem.Str := ((refL way).getD (siOf way ns k) ("", "")).2
def rTOf (way : Nat) (ns : List Int) (k : Nat) : List Nat := (rfOf way ns k).cps.toList.drop 1
section
variable {way : Nat} (hw : way < 5) (ns : List Int)
include hw
theorem sg_in {k : Nat} (hk : 1 ≤ k) : (sgOf way ns k, rfOf way ns k) ∈ refL way := by
  have hrl := refs_len way
  have := Int.emod_lt_of_pos (ns.getD (k - 1) 0 / 10 % 10) (show (0 : Int) < (((refL way).length : Nat) : Int) by omega)
  have h0 := Int.emod_nonneg (ns.getD (k - 1) 0 / 10 % 10) (show (((refL way).length : Nat) : Int) ≠ 0 by omega)
  have hs : siOf way ns k < (refL way).length := by unfold siOf; omega
  unfold sgOf rfOf
  rw [if_neg (by omega), List.getD_eq_getElem?_getD, List.getElem?_eq_getElem hs]
  exact List.getElem_mem _
theorem sg_facts {k : Nat} (hk : 1 ≤ k) : escL (tbl way) (sgOf way ns k) = rfOf way ns k ∧ OkL (tbl way) (sgOf way ns k) ∧ lookup (.str (sgOf way ns k)) (refD way) = some (.str (rfOf way ns k)) ∧ (sgOf way ns k).cps.size = 1 ∧ (sgOf way ns k).cps.all (· < 128) = true ∧
    (rfOf way ns k).cps.toList = 38 :: rTOf way ns k ∧ (rTOf way ns k).length ≤ 8 ∧ ∀ c ∈ rTOf way ns k, hardC c = false ∧ c ≠ 38 ∧ 32 ≤ c ∧ c < 127 := by
  have h := refs_all
  simp only [List.all_eq_true, List.mem_range] at h
  have h := h way hw _ (sg_in hw ns hk)
  unfold refB at h
  simp only [Bool.and_eq_true, beq_iff_eq, decide_eq_true_eq, List.all_eq_true, Bool.not_eq_true', bne_iff_ne] at h
  obtain ⟨⟨⟨⟨⟨⟨⟨h1, h2⟩, h3⟩, h4⟩, h5⟩, h6⟩, h7⟩, h8⟩ := h
  refine ⟨h1, okL_of h2, look_of h3, h4, h5, h6, h7, fun c hc => ?_⟩
  obtain ⟨⟨⟨a, b⟩, c⟩, d⟩ := h8 c hc
  exact ⟨a, b, c, d⟩
theorem fine_of : Fine (rTOf way ns) := fun k h1 _ => let ⟨_, _, _, _, _, _, a, b⟩ := sg_facts hw ns h1; ⟨a, b⟩
theorem written_is (k : Nat) : OkL (tbl way) (sgOf way ns k) ∧ escL (tbl way) (sgOf way ns k) = txOf (rTOf way ns) k := by
  by_cases hk : k = 0
  · subst hk
    have h := head_all
    simp only [List.all_eq_true, List.mem_range, Bool.and_eq_true, beq_iff_eq] at h
    have h := h way hw
    exact ⟨okL_of h.2, h.1⟩
  · obtain ⟨h1, h2, _, _, _, h6, _⟩ := sg_facts hw ns (show 1 ≤ k by omega)
    refine ⟨h2, ?_⟩
    rw [h1]
    unfold txOf
    rw [if_neg hk]
    exact str_ext (by simpa using h6)
end
theorem mul_amp : ∀ n : Nat, n < 8 → (Txt.mul "amp;" (n : Int)).cps.toList = rpA n := by decide +kernel
theorem spell_is {way : Nat} (hw : way < 5) (ns : List Int) {k n : Nat} (hk : 1 ≤ k) (hn : n < 8) : (spell n (rfOf way ns k)).cps.toList = 38 :: (rpA n ++ rTOf way ns k) := by
  obtain ⟨_, _, _, _, _, h6, _⟩ := sg_facts hw ns hk
  unfold spell
  rw [PySem.Str.cps_append, PySem.Str.cps_append, Array.toList_append, Array.toList_append, mul_amp n hn, show (Txt.slice (rfOf way ns k) (some 1) none).cps.toList = _ from slice_from (i := 1) (by rw [h6]; simp)]
  rfl
/-- what the law spells of a deed's sign -/
def spOf (way : Nat) (ns : List Int) (k n : Nat) : PySem.Str := Txt.join "" (List.replicate (sgOf way ns k).cps.size (spell n (rfOf way ns k)))
theorem sp_is {way : Nat} (hw : way < 5) (ns : List Int) {k n : Nat} (hn : n < 8) : (spOf way ns k n).cps.toList = if k = 0 then [] else 38 :: (rpA n ++ rTOf way ns k) := by
  unfold spOf
  rw [txt_join]
  by_cases hk : k = 0
  · subst hk; rfl
  · obtain ⟨_, _, _, h4, _⟩ := sg_facts hw ns (show 1 ≤ k by omega)
    rw [h4, if_neg hk]
    exact spell_is hw ns (by omega) hn
theorem sp_zero {way : Nat} (hw : way < 5) (ns : List Int) (k : Nat) : spOf way ns k 0 = txOf (rTOf way ns) k := by
  refine str_ext ?_
  rw [sp_is hw ns (by omega)]
  unfold txOf
  by_cases hk : k = 0
  · rw [if_pos hk, if_pos hk]; rfl
  · rw [if_neg hk, if_neg hk]; simp [rpA]
/-- a piece of the page that is due -/
def dueOf (way : Nat) (ns : List Int) (n k : Nat) : PySem.Str := "&" ++ Txt.mul "amp;" (n : Int) ++ small k ++ spOf way ns k n
theorem due_is {way : Nat} (hw : way < 5) (ns : List Int) {k n : Nat} (hk : k < 7) (hn : n < 8) : (dueOf way ns n k).cps.toList = render1 (rTOf way ns) (n, k) := by
  unfold dueOf render1
  rw [PySem.Str.cps_append, PySem.Str.cps_append, PySem.Str.cps_append, Array.toList_append, Array.toList_append, Array.toList_append, mul_amp n hn, small_cps k hk, sp_is hw ns hn]
  show [38] ++ rpA n ++ [97 + k] ++ _ = _
  simp
/-- the page of the whole text -/
theorem page_due {way : Nat} (hw : way < 5) (ns : List Int) {order : List Nat} (h7 : ∀ k ∈ order, k < 7) (hl : ∀ k, k < 7 → (wayOf (lfOf ns) k).length < 8) (hb : blocks order = order.map fun k => ((wayOf (lfOf ns) k).length, k)) :
    Txt.join "" (order.map fun k => dueOf way ns (wayOf (lfOf ns) k).length k) = rend (rTOf way ns) (blocks order) := by
  rw [txt_join, hb]
  refine str_ext ?_
  rw [join_empty]
  show _ = (List.toArray (render _ _)).toList
  unfold render
  clear hb
  induction order with
  | nil => rfl
  | cons a r ih =>
    have h := ih fun k hk => h7 k (List.mem_cons_of_mem _ hk)
    rw [List.map_cons, List.flatMap_cons, h, due_is hw ns (h7 a List.mem_cons_self) (hl a (h7 a List.mem_cons_self))]
    simp
end Mine
end
section
open PySem PySem.W PyProof.Rows PySem.Calls
open AutoSeq1 (wpAny_loadPart')
namespace Mine
set_option maxHeartbeats 4000000
def ltI : List Int → List Int → Bool
  | [], [] => false
  | [], _ :: _ => true
  | _ :: _, [] => false
  | a :: r, b :: t => if a = b then ltI r t else decide (a < b)
theorem ltI_lx : ∀ (p q : List Nat), ltI (p.map fun d => -((d : Nat) : Int)) (q.map fun d => -((d : Nat) : Int)) = lx p q
  | [], [] => rfl
  | [], _ :: _ => rfl
  | _ :: _, [] => rfl
  | a :: r, b :: t => by
    have ih := ltI_lx r t
    simp only [List.map_cons, ltI, lx]
    by_cases e : a = b
    · subst e; simp [ih]
    · have e2 : ¬ (-((a : Nat) : Int)) = -((b : Nat) : Int) := by omega
      rw [if_neg e, if_neg e2]
      by_cases h : b < a
      · simp [h]
      · simp [h]
section
variable {prog : Program} {w : World} {A : Around} {E : Value → Shared → Prop} {s : Shared}
theorem ints_none {vs : List Value} {ns : List Int} (h : IntsAre vs ns) {i : Nat} (hi : ns.drop i = []) : vs[i]? = none := by
  have := h.length
  rw [List.drop_eq_nil_iff] at hi
  exact List.getElem?_eq_none (by omega)
theorem ints_some : ∀ {vs : List Value} {ns : List Int}, IntsAre vs ns → ∀ {i : Nat} {a : Int} {r : List Int}, ns.drop i = a :: r → (∃ t, vs[i]? = some (.int a t)) ∧ ns.drop (i + 1) = r
  | _, _, .nil, i, a, r, h => by simp at h
  | _, _, .cons x t tl, 0, a, r, h => by
    simp at h
    obtain ⟨rfl, rfl⟩ := h
    exact ⟨⟨t, rfl⟩, rfl⟩
  | _, _, .cons x t tl, i + 1, a, r, h => by
    obtain ⟨⟨t', h1⟩, h2⟩ := ints_some tl (i := i) (by simpa using h)
    exact ⟨⟨t', by simpa using h1⟩, by simpa using h2⟩
theorem lt_loop {a b : Addr} {xs ys : List Value} {n1 n2 : Nat} {ns ms : List Int} (ha : s.heap.get? a = some { cls := .type "list", dict := none, data := .seq (List.toArray xs) n1, slots := #[] }) (hb : s.heap.get? b = some { cls := .type "list", dict := none, data := .seq (List.toArray ys) n2, slots := #[] }) (hx : IntsAre xs ns) (hy : IntsAre ys ms) : ∀ (k i : Nat) {R : Result → Shared → Prop}, ns.length - i = k → i ≤ ns.length → i ≤ ms.length →
    R (.ok (.ret (.bool (ltI (ns.drop i) (ms.drop i))))) s → codeAny (model prog w) A (.builtin "list.__eq__.loop" ⟨[.ref a, .ref b, rawInt (i : Int), rawInt 0], []⟩) R s := by
  have lx' := hx.length
  have ly' := hy.length
  intro k
  induction k with
  | zero =>
    intro i R hk h1 h2 hR
    refine codeAny_builtin MeetsSeq3.entry_eq_loop ?_
    rw [Around.under_plainId MeetsSeq3.plain_eq_loop _]
    have hd : ns.drop i = [] := by rw [List.drop_eq_nil_iff]; omega
    have hi1 : (List.toArray xs)[((i : Nat) : Int).toNat]? = none := by simpa using ints_none hx hd
    wp_walk using wpAny_loadPart' ha, wpAny_loadPart' hb
    rw [hi1]
    wp_walk using wpAny_loadPart' ha, wpAny_loadPart' hb
    show R (.ok (.ret (.bool (decide ((List.toArray xs).size < (List.toArray ys).size))))) _
    have e : decide ((List.toArray xs).size < (List.toArray ys).size) = ltI (ns.drop i) (ms.drop i) := by
      rw [hd]
      cases hm : ms.drop i with
      | nil => have := List.drop_eq_nil_iff.mp hm; simp [ltI]; omega
      | cons c t =>
        have : i < ms.length := by
          by_cases c : i < ms.length
          · exact c
          · rw [List.drop_eq_nil_iff.mpr (by omega)] at hm; cases hm
        simp [ltI]; omega
    rw [e]; exact hR
  | succ k ih =>
    intro i R hk h1 h2 hR
    refine codeAny_builtin MeetsSeq3.entry_eq_loop ?_
    rw [Around.under_plainId MeetsSeq3.plain_eq_loop _]
    obtain ⟨c, r, hd⟩ : ∃ c r, ns.drop i = c :: r := by
      cases hn : ns.drop i with
      | nil => have := List.drop_eq_nil_iff.mp hn; omega
      | cons c r => exact ⟨c, r, rfl⟩
    obtain ⟨⟨t1, hx1⟩, hdr⟩ := ints_some hx hd
    have hi1 : (List.toArray xs)[((i : Nat) : Int).toNat]? = some (.int c t1) := by simpa using hx1
    cases hm : ms.drop i with
    | nil =>
      have hi2 : (List.toArray ys)[((i : Nat) : Int).toNat]? = none := by simpa using ints_none hy hm
      have := List.drop_eq_nil_iff.mp hm
      wp_walk using wpAny_loadPart' ha, wpAny_loadPart' hb
      rw [hi1, hi2]
      wp_walk using wpAny_loadPart' ha, wpAny_loadPart' hb
      show R (.ok (.ret (.bool (decide ((List.toArray xs).size < (List.toArray ys).size))))) _
      have e : decide ((List.toArray xs).size < (List.toArray ys).size) = ltI (ns.drop i) (ms.drop i) := by
        rw [hd, hm]; simp [ltI]; omega
      rw [e]; exact hR
    | cons d q =>
      obtain ⟨⟨t2, hy1⟩, hdq⟩ := ints_some hy hm
      have hi2 : (List.toArray ys)[((i : Nat) : Int).toNat]? = some (.int d t2) := by simpa using hy1
      have hil : i < ms.length := by
        by_cases c : i < ms.length
        · exact c
        · rw [List.drop_eq_nil_iff.mpr (by omega)] at hm; cases hm
      rw [hd, hm] at hR
      wp_walk using wpAny_loadPart' ha, wpAny_loadPart' hb
      rw [hi1, hi2]
      dsimp only
      refine wpAny_bind (wpAny_eqBool_int ?_)
      by_cases e : c = d
      · subst e
        rw [show ((c == c) : Bool) = true by simp]
        have hR' : R (.ok (.ret (.bool (ltI (ns.drop (i + 1)) (ms.drop (i + 1)))))) s := by
          rw [hdr, hdq]
          simpa [ltI] using hR
        have hc : ((i : Int) + 1) = ((i + 1 : Nat) : Int) := by omega
        wp_walk
        rw [hc]
        exact ⟨plainId_quiet MeetsSeq3.plain_eq_loop _, ih (i + 1) (by omega) (by omega) (by omega) hR'⟩
      · rw [show ((c == d) : Bool) = false by simpa using e]
        have hR' : R (.ok (.ret (.bool (decide (c < d))))) s := by simpa [ltI, e] using hR
        wp_walk using wpAny_loadPart' ha, wpAny_loadPart' hb
        rw [hi1, hi2]
        refine wpAny_bind (show wpAny (model prog w) A.in1 (compareOp .Lt (.int c t1) (.int d t2)) _ _ _ from lt_int ?_)
        exact wpAny_pure hR'
theorem list_lt {a b : Addr} {xs ys : List Value} {n1 n2 : Nat} {ns ms : List Int} (hx : IntsAre xs ns) (hy : IntsAre ys ms) : Meets (Builtin.«list.__lt__» ⟨[.ref a, .ref b], []⟩)
    (fun _ R s => s.heap.get? a = some { cls := .type "list", dict := none, data := .seq (List.toArray xs) n1, slots := #[] } ∧ s.heap.get? b = some { cls := .type "list", dict := none, data := .seq (List.toArray ys) n2, slots := #[] } ∧ R (.ok (.ret (.bool (ltI ns ms)))) s) := by
  intro prog w A R s h
  obtain ⟨ha, hb, hR⟩ := h
  have f3 := AutoSeq1.sub_list_list
  have key := lt_loop (prog := prog) (w := w) (A := A) ha hb hx hy _ 0 (R := R) rfl (Nat.zero_le _) (Nat.zero_le _) hR
  obtain ⟨hp, g, d, tk, os⟩ := s
  wp_walk using wpAny_loadPart' ha, wpAny_loadPart' hb
  exact ⟨plainId_quiet MeetsSeq3.plain_eq_loop _, key⟩
theorem oneLt_lists {a b : Addr} {xs ys : List Value} {n1 n2 : Nat} {ns ms : List Int} {Q : Bool → Shared → Prop} (hu : A.units < cLine) (ha : s.heap.get? a = some { cls := .type "list", dict := none, data := .seq (List.toArray xs) n1, slots := #[] }) (hb : s.heap.get? b = some { cls := .type "list", dict := none, data := .seq (List.toArray ys) n2, slots := #[] }) (hx : IntsAre xs ns) (hy : IntsAre ys ms)
    (h : Q (ltI ns ms) s) : wpAny (model prog w) A (oneLt' true (.ref a) (.ref b)) Q E s := by
  rw [oneLt'_eq]
  simp only [if_true]
  refine wpAny_bind (wpAny_cRoomFor hu ?_)
  refine wpAny_bind (wpAny_callSpecialIfBound?_slot (T := "list") ⟨_, ha, rfl⟩ F.slot_list_lt (call_meets F.slot_list_lt ⟨_, ha, rfl⟩ F.entry_list_lt (F.args_list_lt_2 _ _) (list_lt hx hy) ⟨ha, hb, ?_⟩))
  exact wpAny_truthy_bool h
end
end Mine
end
section
open PySem PySem.W PyProof.Rows PyProof.V PySem.Spec
namespace Mine
set_option maxHeartbeats 4000000
open PyProof.Rows.LCg (SrcAt NsObj Off3 Off1 lst FinE)

abbrev sParams : Arguments := { posonlyargs := [], args := [{ arg := "k", annotation := none, pos := ⟨291, 40, 291, 41⟩ }], vararg := none, kwonlyargs := [], kw_defaults := [], kwarg := none, defaults := [] }
abbrev sScope : PySem.Scope := { kind := .function, names := [("k", .local), ("paths", .free)], isGenerator := false, isCoroutine := false, more := [] }
abbrev sBody : PySem.Expr := .Subscript (.Name "paths" ⟨291, 43, 291, 48⟩) (.Name "k" ⟨291, 49, 291, 50⟩) ⟨291, 43, 291, 51⟩
section
variable {w : World} {p : Program} {loose : List PySem.Str} {mean : ExcName → Option Value} {mg mb : PySem.Str → Option Value}
   {dp un : Nat} {gd : Option (List Code)} {cn : PySem.Str} {cs : PySem.Scope} {a : Addr} {ccd : Value} {cl : List (PySem.Str × Addr)} {outer : List Env} {A₀ : Around} {base h₀ : Heap} {L : Addr} {m : PySem.Str → Option Value} {news : List (Addr × Obj)} {s : Shared} {Q E : Value → Shared → Prop}
set_option maxRecDepth 100000 in
set_option maxHeartbeats 8000000 in
theorem lam_sort {f c4 PA c' : Addr} {o4 : Obj} {pv : List Value} {nP : Nat} {qual : PySem.Str} {pm ctv v : Value} {d : Nat} {t0 : Tok} (B : Below A₀ base outer h₀) (F : Fr h₀ L s.heap m) (X : (Mine.hd.heap_1 w.params).In h₀) (N : News h₀ L s.heap news) (T : Top p loose mean mg mb h₀) (hk : cs.kind = .function) (hd : dp + 10 < recursionLimit) (hu : un + 100 < cLine)
    (ho : (f, kla_obj "<lambda>" qual sParams sBody sScope [("paths", c4)] pm c' ctv) ∈ news) (hc : CodeFor qual news (.ref c'))
    (h4 : (c4, o4) ∈ news) (hd4 : o4.data = .cell (some (.ref PA))) (hPA : (PA, listOf (List.toArray pv) nP) ∈ news) (hpv : pv[d]? = some v) (hsz : d < 1000)
    (ret : ∀ h' tk', Fr h₀ L h' m → News h₀ L h' news → Q v { s with heap := h', toks := tk' }) :
    wpAny (model PySem.Challenge.rw_uk0024_01.row.prog w) (ktrTop dp un gd cn cs L a ccd cl outer) (call (.ref f) [.int (d : Int) t0]) Q E s := by
  k_with_none
  (k_with "ce1" => (refine' code_def ?k1Q9 ?k2Q9 ?k3Q9 ?k4Q9 ?k5Q9 ?kAQ9 ?kFQ9 ?kKQ9 ?k6Q9 ?k7Q9 ?k8Q9 ?k9Q9 ?kBQ9 ?_ ?c2Q9 ?c3Q9 ?c4Q9 ?c5Q9; (case kAQ9 => exact rfl); (case kFQ9 => exact rfl); (case kKQ9 => first | assumption | exact rfl); (case k1Q9 => k_asm); (case k2Q9 => k_asm); (case k3Q9 => k_asm); (case k4Q9 => k_asm); (case k5Q9 => k_asm); (case k6Q9 => k_is); (case k7Q9 => k_is); (case k8Q9 => ktr_room); (case k9Q9 => first | exact BindsTo.of_eq rfl | exact binds_K (by k_in) rfl (by k_is) rfl rfl rfl); (case c5Q9 => decide); (case kBQ9 => exact locs rfl); (case c2Q9 => exact rfl); (case c3Q9 => exact rfl); (case c4Q9 => exact rfl); k_whole))
  (k_with "ce2" => (refine' code_defC ?k1Q9 ?k2Q9 ?k3Q9 ?k4Q9 ?k5Q9 ?kAQ9 ?kFQ9 ?kKQ9 ?k6Q9 ?k7Q9 ?k8Q9 ?k9Q9 ?kBQ9 ?kDQ9 ?_ ?c2Q9 ?c3Q9 ?c4Q9; (case kAQ9 => exact rfl); (case kFQ9 => exact rfl); (case kKQ9 => first | assumption | exact rfl); (case k1Q9 => k_asm); (case k2Q9 => k_asm); (case k3Q9 => k_asm); (case k4Q9 => k_asm); (case k5Q9 => k_asm); (case k6Q9 => k_is); (case k7Q9 => k_is); (case k8Q9 => ktr_room); (case k9Q9 => first | exact BindsTo.of_eq rfl | exact binds_K (by k_in) rfl (by k_is) rfl rfl rfl); (case kBQ9 => exact rfl); (case kDQ9 => decide +kernel); (case c2Q9 => exact rfl); (case c3Q9 => exact rfl); (case c4Q9 => exact rfl); k_whole))
  (k_with "ktr_units" => ((have hcL9 := cLine_is; (simp only [Mine.units_make, PyProof.Rows.units_in1, PyProof.Rows.units_deeper, PySem.Around.mark_units, PyProof.Rows.units_caller, ktrTop] at *); omega)))
  (k_with "ktr_units" => ((simp only [Mine.units_make, PyProof.Rows.units_in1, PyProof.Rows.units_deeper, PySem.Around.mark_units, PyProof.Rows.units_caller]; first | exact Mine.fit2 (by with_reducible assumption) (by decide) | exact Mine.fit3 (by with_reducible assumption) (by decide) | fail "no")))
  (k_with "ktr_units" => (first | exact Mine.fit2 (d := (PySem.W.ktrTop _ _ _ _ _ _ _ _ _ _).units) (by assumption) (by decide) | exact Mine.fit3 (d := (PySem.W.ktrTop _ _ _ _ _ _ _ _ _ _).units) (by assumption) (by decide) | exact Mine.fit1 (d := (PySem.W.ktrTop _ _ _ _ _ _ _ _ _ _).units) (by assumption) (by decide) | fail "no"))
  (k_with "ktr_room" => (first | exact Mine.fit0 (d := (PySem.W.ktrTop _ _ _ _ _ _ _ _ _ _).depth) (by assumption) | exact Mine.fit2 (d := (PySem.W.ktrTop _ _ _ _ _ _ _ _ _ _).depth) (by assumption) (by decide) | exact Mine.fit3 (d := (PySem.W.ktrTop _ _ _ _ _ _ _ _ _ _).depth) (by assumption) (by decide) | exact Mine.fit1 (d := (PySem.W.ktrTop _ _ _ _ _ _ _ _ _ _).depth) (by assumption) (by decide) | fail "no"))
  (k_with "omega" => (first | (lia) | fail "no"))
  (k_with "omega" => (with_reducible first | exact Int.natCast_nonneg _ | exact Mine.le_cl (by decide) | exact Mine.lt_cl (by decide) | fail "no"))
  (k_with "simp" => (with_reducible first | exact List.mem_cons_self | (refine List.mem_cons_of_mem _ ?_; simp; done) | fail "no"))
  (k_with "simph" => (with_reducible first | assumption | exact List.mem_cons_of_mem _ (by assumption) | exact Or.inl (by assumption) | exact List.mem_append_left _ (by assumption) | exact List.mem_append_right _ (by assumption) | (refine List.mem_cons_of_mem _ ?_; k_extra "simph"; done) | (refine Or.inr ?_; k_extra "simph"; done) | fail "no"))
  (k_with "perm" => ((refine (?_ : ∀ q ∈ _, q ∈ _) _ (by assumption); (repeat (with_reducible refine List.forall_mem_cons.mpr ⟨by first | exact List.mem_cons_self | (refine List.mem_cons_of_mem _ ?_; simp; done), ?_⟩)); with_reducible (intro q hq; repeat (first | exact hq | refine List.mem_cons_of_mem _ ?_)))))
  (k_with "m_fru" => (first | (with_reducible refine frU_wrap ?_ (by decide); walk_at "m_fru") | exact rfl))
  (k_with "call builtin:len" => (((with_reducible show wpAny _ _ (call (Value.builtin "len") [Value.ref _]) _ _ _); k_dflt (refine' len_list ?lQ9 ?fQ9 ?_; (case lQ9 => exact News.isList (by k_asm) (by k_mem)); (case fQ9 => (simp only [List.size_toArray]; omega))); (try simp only [List.size_toArray]))))
  (k_with "m_go" => (repeat (
    (fail_if_success (with_reducible show wpAny _ _ (exec (PySem.Stmt.While _ _ _ _) _) _ _ _));
    (fail_if_success (with_reducible show wpAny _ _ (exec (PySem.Stmt.For _ _ _ _ _) _) _ _ _));
    (fail_if_success (with_reducible show wpAny _ _ (exec (PySem.Stmt.Assign _ (PySem.Expr.ListComp _ _ _ _) _) _) _ _ _));
    (fail_if_success (with_reducible show wpAny _ _ (eval (PySem.Expr.ListComp _ _ _ _) _) _ _ _));
    first | walk1 | (dsimp only; walk1))))
  (k_with "eval Name" => ((k_here; k_dflt (refine' nameX_L ?FQ9 ?vQ9 ?_ ?aQ9 ?bQ9; (case aQ9 => rfl); (case bQ9 => rfl); (case FQ9 => k_asm); (case vQ9 => first | exact rfl | assumption)))))
  obtain ⟨_, oc, vs, t9, ⟨⟩, hcm, hcd, hcv⟩ := hc
  revert X; k_fill; intro X
  refine wpAny_call ?_
  k_dflt (refine' kla_code ?k1 ?k2 ?k3 ?k4 ?k5 ?kA ?kF ?kK ?k6 ?k7 ?k8 ?k9 ?kB ?_ ?c2 ?c3 ?c4 ?c5; (case kA => exact rfl); (case kF => exact rfl); (case kK => exact hk); (case k1 => k_asm); (case k2 => k_asm); (case k3 => k_asm); (case k4 => k_asm); (case k5 => k_asm); (case k6 => exact ho); (case k7 => exact codeRec_news (by k_asm) hcm hcd hcv); (case k8 => ktr_room); (case k9 => exact rfl); (case c5 => decide); (case kB => exact locs rfl); (case c2 => exact rfl); (case c3 => exact rfl); (case c4 => exact rfl))
  intro g' L' h' FG' F' N' B' X' T'
  try dsimp only
  try k_lift B'
  try k_fold
  walk1
  refine nameX_F (by k_asm) rfl h4 hd4 ?_
  iterate 1 walk1
  k_dflt (refine' item_list ?zl ?za ?zb ?zc ?_; (case zl => exact News.isList (by k_asm) hPA); (case za => exact Int.natCast_nonneg _); (case zb => omega); (case zc => (rw [Int.toNat_natCast, List.getElem?_toArray]; exact hpv)))
  walk_at "m_go"
  exact ret _ _ (by k_asm) (by k_asm)

end
end Mine
end
section
open PySem PySem.W PyProof.Rows PyProof.V PySem.Spec
namespace Mine
set_option maxHeartbeats 4000000
open PyProof.Rows.LCg (SrcAt NsObj Off3 Off1 lst FinE)
section
variable {w : World} {p : Program} {loose : List PySem.Str} {mean : ExcName → Option Value} {mg mb : PySem.Str → Option Value}
   {dp un : Nat} {gd : Option (List Code)} {cn : PySem.Str} {cs : PySem.Scope} {a : Addr} {ccd : Value} {cl : List (PySem.Str × Addr)} {outer : List Env} {A₀ : Around} {base h₀ : Heap} {L : Addr} {m : PySem.Str → Option Value} {news : List (Addr × Obj)} {s : Shared} {Q E : Value → Shared → Prop}

theorem keys_go {f c4 PA c' kS D : Addr} {o4 oD : Obj} {pv : List Value} {nP : Nat} {qual : PySem.Str} {pm ctv : Value} {Fin : List Value → Nat → Shared → Prop} (B : Below A₀ base outer h₀) (X : (Mine.hd.heap_1 w.params).In h₀) (T : Top p loose mean mg mb h₀) (hk : cs.kind = .function) (hd : dp + 10 < recursionLimit) (hu : un + 300 < cLine)
    (ho : (f, kla_obj "<lambda>" qual sParams sBody sScope [("paths", c4)] pm c' ctv) ∈ news) (hc : CodeFor qual news (.ref c')) (h4 : (c4, o4) ∈ news) (hd4 : o4.data = .cell (some (.ref PA))) (hPA : (PA, listOf (List.toArray pv) nP) ∈ news) (hpl : pv.length = 7)
    (hkn : ∀ q ∈ ((D, oD) :: news), q.1 ≠ kS) : ∀ (r ks : List Value) (e : Nat) (s : Shared), Fr h₀ L s.heap m → News h₀ L s.heap ((kS, seqObj "list" (List.toArray ks) e) :: (D, oD) :: news) → ks.length + r.length = 7 → (∀ (i : Nat) v, r[i]? = some v → ∃ t, v = Value.int (((ks.length + i : Nat)) : Int) t) → ks = pv.take ks.length →
      (∀ e' h' tk', Fr h₀ L h' m → News h₀ L h' ((kS, seqObj "list" (List.toArray pv) e') :: (D, oD) :: news) → Fin pv e' { s with heap := h', toks := tk' }) →
      KatKeys PySem.Challenge.rw_uk0024_01.row.prog w (ktrTop dp un gd cn cs L a ccd cl outer).in1.in1 h₀ L m kS (.ref f) Fin r ks e s
  | [], ks, e, s, F, N, hl, hv, hks, fin => by
    have e1 : ks = pv := by rw [hks, show ks.length = pv.length by simp at hl; omega, List.take_length]
    subst e1
    exact KatKeys.nil (fin e s.heap s.toks F N)
  | v :: r, ks, e, s, F, N, hl, hv, hks, fin => by
    obtain ⟨t0, rfl⟩ := hv 0 v rfl
    rw [List.length_cons] at hl
    obtain ⟨x, hx⟩ : ∃ x, pv[ks.length]? = some x := ⟨_, List.getElem?_eq_getElem (by omega)⟩
    have up : ∀ q ∈ news, q ∈ ((kS, seqObj "list" (List.toArray ks) e) :: (D, oD) :: news) := fun q hq => List.mem_cons_of_mem _ (List.mem_cons_of_mem _ hq)
    refine KatKeys.cons (lam_sort (un := un + 2) B F X N T hk hd (by omega) (up _ ho) (hc.mono up) (up _ h4) hd4 (up _ hPA) (d := ks.length + 0) (t0 := t0) hx (by omega) ?_)
    intro h1 tk1 F1 N1
    refine KatBack.intro F1 N1 (.head hkn) ?_
    intro h2 c2 F2 N2
    refine keys_go B X T hk hd hu ho hc h4 hd4 hPA hpl hkn r (ks ++ [x]) c2 { s with heap := h2, toks := tk1 } F2 N2 (by simp; omega) ?_ ?_ ?_
    · intro i v hi
      obtain ⟨t, ht⟩ := hv (i + 1) v (by simpa using hi)
      refine ⟨t, ht.trans ?_⟩
      rw [List.length_append, List.length_singleton, show ks.length + 1 + i = ks.length + (i + 1) by omega]
    · rw [List.length_append, List.length_singleton, List.take_add_one, hx]
      conv => lhs; rw [hks]
      simp
    · intro e' h' tk' F' N'
      exact fin e' h' tk' F' N'
theorem sort_spec {f c4 PA c' r : Addr} {o4 : Obj} {pv : List Value} {nP : Nat} {qual : PySem.Str} {pm ctv : Value} {P : Nat → List Nat} {t u v : Tok} (F : Fr h₀ L s.heap m) (N : News h₀ L s.heap news) (B : Below A₀ base outer h₀) (X : (Mine.hd.heap_1 w.params).In h₀) (T : Top p loose mean mg mb h₀) (hk : cs.kind = .function) (hd : dp + 10 < recursionLimit) (hu : un + 300 < cLine)
    (hr : IsRange s.heap r 0 7 1 t u v) (ho : (f, kla_obj "<lambda>" qual sParams sBody sScope [("paths", c4)] pm c' ctv) ∈ news) (hc : CodeFor qual news (.ref c')) (h4 : (c4, o4) ∈ news) (hd4 : o4.data = .cell (some (.ref PA))) (hPA : (PA, listOf (List.toArray pv) nP) ∈ news)
    (hpp : Paired (PathIs news) pv ((List.range 7).map P)) (hok : okRun (kas_sort 7) (fun i j => lx (((List.range 7).map P).getD i []) (((List.range 7).map P).getD j [])) = true) (h7 : ∀ d ∈ ordOf ((List.range 7).map P), d < 7)
    (ret : ∀ D ov no h' tk', Fr h₀ L h' m → News h₀ L h' ((D, listOf (List.toArray ov) no) :: news) → (∀ q ∈ news, q.1 < D) → IntsAre ov ((ordOf ((List.range 7).map P)).map fun d => ((d : Nat) : Int)) → Q (.ref D) { s with heap := h', toks := tk' }) :
    wpAny (model PySem.Challenge.rw_uk0024_01.row.prog w) (ktrTop dp un gd cn cs L a ccd cl outer) (call (.builtin "sorted") [.ref r] [(PySem.Str.ofString "key", .ref f)]) Q E s := by
  have hpl : pv.length = 7 := by rw [hpp.length, List.length_map, List.length_range]
  refine sorted_rng (n := 7) rfl hr rfl rfl (by decide) (by decide) F N (ksk_s1 _ _) (fun x => ksk_l1 _ _) (fun x => ksk_t1 _ _) ?_
  intro vs D kS e1 h' tk hl hv F1 N1 l0 l1
  have hkn : ∀ q ∈ ((D, seqObj "list" #[] e1) :: news), q.1 ≠ kS := by
    intro q hq
    rcases List.mem_cons.mp hq with rfl | hq
    · exact Nat.ne_of_lt l0
    · exact Nat.ne_of_lt (Nat.lt_trans (l1 q hq) l0)
  refine keys_go B X T hk hd hu ho hc h4 hd4 hPA hpl hkn vs [] 0 _ F1 N1 (by simpa using hl) (fun i v hi => by
    obtain ⟨t, ht⟩ := hv i v hi
    exact ⟨t, by rw [ht]; simp⟩) rfl ?_
  intro e' h2 tk2 F2 N2
  have get : ∀ i, i < 7 → ∃ a xs n, pv.getD i Value.none = .ref a ∧ h2.get? a = some { cls := .type "list", dict := none, data := .seq (List.toArray xs) n, slots := #[] } ∧ IntsAre xs ((((List.range 7).map P).getD i []).map fun d => -((d : Nat) : Int)) := by
    intro i hi
    obtain ⟨x, hx⟩ : ∃ x, pv[i]? = some x := ⟨_, List.getElem?_eq_getElem (by omega)⟩
    obtain ⟨q, hq, a, xs, n, rfl, hm, hi2⟩ := paired_get hpp i x hx
    refine ⟨a, xs, n, ?_, (N2 _ (List.mem_cons_of_mem _ (List.mem_cons_of_mem _ hm))).1, ?_⟩
    · rw [List.getD_eq_getElem?_getD, hx]; rfl
    · rw [List.getD_eq_getElem?_getD, hq]; exact hi2
  refine kas_kind (T := .type "list") (by omega) ?_ rfl rfl ?_
  · intro v hv'
    obtain ⟨i, hi⟩ := List.getElem?_of_mem hv'
    have hil := (List.getElem?_eq_some_iff.mp hi).1
    obtain ⟨a, xs, n, e2, h3, -⟩ := get i (by omega)
    rw [List.getD_eq_getElem?_getD, hi] at e2
    obtain rfl : v = .ref a := e2
    exact (Looks.ld h3).andThen .now
  rw [hl]
  refine run_wp7 (f := fun i j => lx (((List.range 7).map P).getD i []) (((List.range 7).map P).getD j [])) ?_ (kas_sort 7) hok ?_
  · intro i j C hi hj hC
    show wpAny _ _ (keyLt' oneType' (pv.getD i Value.none) (pv.getD j Value.none)) C (fun _ _ => False) _
    obtain ⟨a1, x1, n1, e1', g1, i1⟩ := get i hi
    obtain ⟨a2, x2, n2, e2', g2, i2⟩ := get j hj
    rw [e1', e2', keyLt'_oneType]
    refine oneLt_lists (by show un + 2 < cLine; omega) g1 g2 i1 i2 ?_
    rw [ltI_lx]
    exact hC
  · refine KatFin.intro F2 N2 (.head hkn) ?_
    intro h3 c3 F3 N3
    have hDn : ∀ q ∈ ((kS, listOf #[] c3) :: news), q.1 ≠ D := by
      intro q hq
      rcases List.mem_cons.mp hq with rfl | hq
      · exact Nat.ne_of_gt l0
      · exact Nat.ne_of_lt (l1 q hq)
    have N3' : News h₀ L h3 ((D, seqObj "list" #[] e1) :: (kS, listOf #[] c3) :: news) := fun q hq => N3 q (by
      simp only [List.mem_cons] at hq ⊢; rcases hq with h | h | h
      · exact .inr (.inl h)
      · exact .inl h
      · exact .inr (.inr h))
    refine KasFin.intro F3 N3' (.head hDn) ?_
    intro h5 c5 F5 N5
    refine ret D _ c5 h5 _ F5 (fun q hq => N5 q (by
      simp only [List.mem_cons] at hq ⊢; rcases hq with h | h
      · exact .inl h
      · exact .inr (.inr h))) l1 ?_
    show IntsAre ((ordOf ((List.range 7).map P)).map fun i => vs.getD i Value.none) _
    have hvg : ∀ d, d < 7 → ∃ t, vs.getD d Value.none = .int ((d : Nat) : Int) t := by
      intro d hd7
      obtain ⟨x, hx⟩ : ∃ x, vs[d]? = some x := ⟨_, List.getElem?_eq_getElem (by omega)⟩
      obtain ⟨t, ht⟩ := hv d x hx
      refine ⟨t, ?_⟩
      rw [List.getD_eq_getElem?_getD, hx, ht]
      simp
    generalize ordOf ((List.range 7).map P) = od at h7
    induction od with
    | nil => exact .nil
    | cons a r ih =>
      obtain ⟨t, ht⟩ := hvg a (h7 a List.mem_cons_self)
      rw [List.map_cons, List.map_cons, ht]
      exact .cons _ t (ih fun d hd => h7 d (List.mem_cons_of_mem _ hd))
end
end Mine
end
section
open PySem PySem.W PyProof.Rows PyProof.V PySem.Spec
namespace Mine
set_option maxHeartbeats 4000000
theorem rf_len {way : Nat} (hw : way < 5) (ns : List Int) (k : Nat) : (rfOf way ns k).length ≤ 10 := by
  have hrl := refs_len way
  have := Int.emod_lt_of_pos (ns.getD (k - 1) 0 / 10 % 10) (show (0 : Int) < (((refL way).length : Nat) : Int) by omega)
  have h0 := Int.emod_nonneg (ns.getD (k - 1) 0 / 10 % 10) (show (((refL way).length : Nat) : Int) ≠ 0 by omega)
  have hs : siOf way ns k < (refL way).length := by unfold siOf; omega
  have hm : (refL way).getD (siOf way ns k) ("", "") ∈ refL way := by
    rw [List.getD_eq_getElem?_getD, List.getElem?_eq_getElem hs]
    exact List.getElem_mem _
  have h := refs_all
  simp only [List.all_eq_true, List.mem_range] at h
  have h := h way hw _ hm
  unfold refB at h
  simp only [Bool.and_eq_true, beq_iff_eq, decide_eq_true_eq] at h
  obtain ⟨⟨⟨⟨⟨⟨⟨h1, h2⟩, h3⟩, h4⟩, h5⟩, h6⟩, h7⟩, h8⟩ := h
  show (rfOf way ns k).cps.size ≤ 10
  unfold rfOf
  have e := congrArg List.length h6
  rw [List.length_cons, Array.length_toList] at e
  omega
theorem spell_len {way : Nat} (hw : way < 5) (ns : List Int) {k n : Nat} (hn : n < 8) : (spell n (rfOf way ns k)).length ≤ 1000 := by
  have h1 := rf_len hw ns k
  have h2 : ∀ n : Nat, n < 8 → (Txt.mul "amp;" (n : Int)).length ≤ 40 := by decide +kernel
  have h3 := h2 n hn
  unfold spell
  rw [str_app_len, str_app_len, one_len]
  by_cases hr : 1 ≤ (rfOf way ns k).cps.toList.length
  · have e := congrArg List.length (slice_from (x := rfOf way ns k) (i := 1) hr)
    rw [List.length_drop, Array.length_toList, Array.length_toList] at e
    have e2 : (Txt.slice (rfOf way ns k) (some ((1 : Nat) : Int)) none).length = (Txt.slice (rfOf way ns k) (some ((1 : Nat) : Int)) none).cps.size := rfl
    have e3 : (rfOf way ns k).length = (rfOf way ns k).cps.size := rfl
    show 1 + (Txt.mul "amp;" (n : Int)).length + (Txt.slice (rfOf way ns k) (some ((1 : Nat) : Int)) none).length ≤ 1000
    omega
  · have e0 : rfOf way ns k = "" := str_ext (by
      have : (rfOf way ns k).cps.toList.length = 0 := by omega
      rw [List.eq_nil_of_length_eq_zero this]; rfl)
    rw [e0]
    have : (Txt.slice "" (some 1) none).length ≤ 1 := by decide +kernel
    omega
theorem sg_size {way : Nat} (hw : way < 5) (ns : List Int) (k : Nat) : (sgOf way ns k).cps.all (· < 128) = true ∧ (sgOf way ns k).cps.size ≤ 1 ∧ ((sgOf way ns k).cps.size = 1 → lookup (.str (sgOf way ns k)) (refD way) = some (.str (rfOf way ns k))) := by
  by_cases hk : k = 0
  · subst hk
    have e : sgOf way ns 0 = "" := rfl
    rw [e]
    exact ⟨by decide +kernel, by decide +kernel, fun h => absurd h (by decide +kernel)⟩
  · obtain ⟨_, _, h3, h4, h5, _⟩ := sg_facts hw ns (show 1 ≤ k by omega)
    exact ⟨h5, by omega, fun _ => h3⟩
end Mine
end
section
open PySem PySem.W PyProof.Rows PyProof.V PySem.Spec
namespace Mine
set_option maxHeartbeats 4000000
def rowD (r : PySem.Str × PySem.Str) : Dat := .tuple [.str r.1, .str r.2]
theorem rows_dat {rest : List (Addr × Obj)} : ∀ {vs : List Value} {rs : List (PySem.Str × PySem.Str)}, RowsAre rest vs rs → DatAll rest vs (rs.map rowD)
  | _, _, .nil => .nil
  | _, _, .cons ⟨T, t1, t2, e, m⟩ tl => by
    subst e
    exact .cons (.tuple (vs := [.str _ t1, .str _ t2]) (n := 0) m (.cons (.str _ _) (.cons (.str _ _) .nil))) (rows_dat tl)
theorem strOk_tx {rT : Nat → List Nat} (hf : Fine rT) {d : Nat} (h : d < 7) : PyData.strOk (txOf rT d) = true := by
  unfold PyData.strOk
  rw [Array.all_eq_true]
  intro i hi
  have hm : (txOf rT d).cps[i] ∈ (txOf rT d).cps.toList := by simp
  have hb : ∀ c ∈ (txOf rT d).cps.toList, c < 128 := by
    intro c hc
    unfold txOf at hc
    split at hc
    · exact absurd hc (by decide +kernel +revert)
    · rcases List.mem_cons.mp (by simpa using hc) with rfl | hc
      · omega
      · have := ((hf d (by omega) h).2 c hc).2.2.2; omega
  have := hb _ hm
  simp only [decide_eq_true_eq]
  omega
theorem rows_ok {rT : Nat → List Nat} (hf : Fine rT) {order : List Nat} (h : ∀ d ∈ order, d < 7) : ∀ x ∈ (order.map (row (txOf rT))).map rowD, kqdOk 8 x = true := by
  intro x hx
  rw [List.map_map] at hx
  obtain ⟨d, hd, rfl⟩ := List.mem_map.mp hx
  have hb : ∀ d, d < 7 → PyData.strOk (big d) = true := by decide +kernel
  have h1 := hb d (h d hd)
  have h2 := strOk_tx hf (h d hd)
  simp [rowD, kqdOk, h1, h2]
theorem ampM_len : ∀ n : Nat, n < 8 → (Txt.mul "amp;" (n : Int)).length ≤ 40 := by decide +kernel
theorem small_len : ∀ k : Nat, k < 7 → (small k).length = 1 := by decide +kernel
theorem sp_len {way : Nat} (hw : way < 5) (ns : List Int) {k n : Nat} (hk : k < 7) (hn : n < 8) : (spOf way ns k n).length ≤ 1000 := by
  have h := congrArg List.length (sp_is hw ns (k := k) hn)
  have hr : ∀ n : Nat, n < 8 → (rpA n).length ≤ 40 := by decide +kernel
  have h1 := hr n hn
  rw [Array.length_toList] at h
  show (spOf way ns k n).cps.size ≤ 1000
  rw [h]
  split
  · simp
  · have := ((fine_of hw ns) k (by omega) hk).1
    rw [List.length_cons, List.length_append]
    omega
theorem due_len {way : Nat} (hw : way < 5) (ns : List Int) {k n : Nat} (hk : k < 7) (hn : n < 8) : (dueOf way ns n k).length ≤ 1100 := by
  have h1 := ampM_len n hn
  have h2 := small_len k hk
  have h3 := sp_len hw ns hk hn
  unfold dueOf
  rw [str_app_len, str_app_len, str_app_len, one_len]
  omega
end Mine
end
section
open PySem PySem.W PyProof.Rows PyProof.V PySem.Spec
namespace Mine
set_option maxHeartbeats 4000000
open PyProof.Rows.LCg (SrcAt NsObj Off3 Off1 lst FinE)

theorem News.swapA {h₀ h : Heap} {L : Addr} {a b : List (Addr × Obj)} (N : News h₀ L h (a ++ b)) : News h₀ L h (b ++ a) :=
  fun q hq => N q (List.mem_append.mpr ((List.mem_append.mp hq).symm))
theorem range_new {h₀ h1 h2 : Heap} {L : Addr} {m : PySem.Str → Option Value} {a b c : Int} {t u v : Tok} (hr : IsRange h2 h1.objs.size a b c t u v) (F : Fr h₀ L h1 m) : h2.get? h1.objs.size = some { cls := .type "range", dict := none, data := .fields #[.int a t, .int b u, .int c v], slots := #[] } ∧ h1.objs.size ≠ L ∧ h₀.get? h1.objs.size = none ∧ L < h1.objs.size :=
  ⟨hr, Ne.symm (Nat.ne_of_lt F.ns.lt), next_is_new F, F.ns.lt⟩
theorem News.law8 {h₀ h : Heap} {L r : Addr} {o : Obj} {a b c d e f t9 t2 : Addr × Obj} {fr : List (Addr × Obj)} (N : News h₀ L h (a :: b :: c :: d :: e :: f :: t9 :: t2 :: fr)) (hr : h.get? r = some o ∧ r ≠ L ∧ h₀.get? r = none) : News h₀ L h (t9 :: t2 :: ((r, o) :: a :: b :: c :: d :: e :: f :: fr)) := by
  intro q hq
  simp only [List.mem_cons] at hq
  rcases hq with rfl | rfl | rfl | rfl | rfl | rfl | rfl | rfl | rfl | hq
  · exact N _ (by simp)
  · exact N _ (by simp)
  · exact hr
  · exact N _ (by simp)
  · exact N _ (by simp)
  · exact N _ (by simp)
  · exact N _ (by simp)
  · exact N _ (by simp)
  · exact N _ (by simp)
  · exact N _ (by simp [hq])
theorem News.tail2 {h₀ h : Heap} {L : Addr} {a b : Addr × Obj} {l : List (Addr × Obj)} (N : News h₀ L h (a :: b :: l)) : ∃ l', l' = l := ⟨_, rfl⟩
theorem News.lead3 {h₀ h : Heap} {L : Addr} {a b c : Addr × Obj} {l : List (Addr × Obj)} (N : News h₀ L h (a :: b :: c :: l)) : News h₀ L h (c :: a :: b :: l) :=
  fun q hq => N q (by walk_at "perm")
theorem News.rot4 {h₀ h : Heap} {L : Addr} {a b c d : Addr × Obj} {l : List (Addr × Obj)} (N : News h₀ L h (a :: b :: c :: d :: l)) : News h₀ L h (b :: c :: d :: a :: l) :=
  fun q hq => N q (by walk_at "perm")
theorem IntsAre.named {vs : List Value} {ns : List Int} (h : IntsAre vs ns) : ∃ vs' ns', vs' = vs ∧ ns' = ns := ⟨_, _, rfl, rfl⟩
theorem fmod5 (x : Int) : ∃ way : Nat, x.fmod 5 = (way : Int) ∧ way < 5 := by
  have h1 := Int.emod_nonneg x (show (5 : Int) ≠ 0 by decide)
  have h2 := Int.emod_lt_of_pos x (show (0 : Int) < 5 by decide)
  rw [Int.fmod_eq_emod_of_nonneg _ (by decide)]
  exact ⟨_, (Int.toNat_of_nonneg h1).symm, by omega⟩
set_option maxRecDepth 100000 in
set_option maxHeartbeats 8000000 in
theorem law_holds : PySem.Challenge.rw_uk0024_01.Holds := by
  k_with_none
  (k_with "ce1" => (refine' code_def ?k1Q9 ?k2Q9 ?k3Q9 ?k4Q9 ?k5Q9 ?kAQ9 ?kFQ9 ?kKQ9 ?k6Q9 ?k7Q9 ?k8Q9 ?k9Q9 ?kBQ9 ?_ ?c2Q9 ?c3Q9 ?c4Q9 ?c5Q9; (case kAQ9 => exact rfl); (case kFQ9 => exact rfl); (case kKQ9 => first | assumption | exact rfl); (case k1Q9 => k_asm); (case k2Q9 => k_asm); (case k3Q9 => k_asm); (case k4Q9 => k_asm); (case k5Q9 => k_asm); (case k6Q9 => k_is); (case k7Q9 => k_is); (case k8Q9 => ktr_room); (case k9Q9 => first | exact BindsTo.of_eq rfl | exact binds_K (by k_in) rfl (by k_is) rfl rfl rfl); (case c5Q9 => decide); (case kBQ9 => exact locs rfl); (case c2Q9 => exact rfl); (case c3Q9 => exact rfl); (case c4Q9 => exact rfl); k_whole))
  (k_with "ce2" => (refine' code_defC ?k1Q9 ?k2Q9 ?k3Q9 ?k4Q9 ?k5Q9 ?kAQ9 ?kFQ9 ?kKQ9 ?k6Q9 ?k7Q9 ?k8Q9 ?k9Q9 ?kBQ9 ?kDQ9 ?_ ?c2Q9 ?c3Q9 ?c4Q9; (case kAQ9 => exact rfl); (case kFQ9 => exact rfl); (case kKQ9 => first | assumption | exact rfl); (case k1Q9 => k_asm); (case k2Q9 => k_asm); (case k3Q9 => k_asm); (case k4Q9 => k_asm); (case k5Q9 => k_asm); (case k6Q9 => k_is); (case k7Q9 => k_is); (case k8Q9 => ktr_room); (case k9Q9 => first | exact BindsTo.of_eq rfl | exact binds_K (by k_in) rfl (by k_is) rfl rfl rfl); (case kBQ9 => exact rfl); (case kDQ9 => decide +kernel); (case c2Q9 => exact rfl); (case c3Q9 => exact rfl); (case c4Q9 => exact rfl); k_whole))
  (k_with "ktr_units" => ((have hcL9 := cLine_is; (simp only [Mine.units_make, PyProof.Rows.units_in1, PyProof.Rows.units_deeper, PySem.Around.mark_units, PyProof.Rows.units_caller, ktrTop] at *); omega)))
  (k_with "ktr_units" => ((simp only [Mine.units_make, PyProof.Rows.units_in1, PyProof.Rows.units_deeper, PySem.Around.mark_units, PyProof.Rows.units_caller]; first | exact Mine.fit2 (by with_reducible assumption) (by decide) | exact Mine.fit3 (by with_reducible assumption) (by decide) | fail "no")))
  (k_with "ktr_units" => (first | exact Mine.fit2 (d := (PySem.W.ktrTop _ _ _ _ _ _ _ _ _ _).units) (by assumption) (by decide) | exact Mine.fit3 (d := (PySem.W.ktrTop _ _ _ _ _ _ _ _ _ _).units) (by assumption) (by decide) | exact Mine.fit1 (d := (PySem.W.ktrTop _ _ _ _ _ _ _ _ _ _).units) (by assumption) (by decide) | fail "no"))
  (k_with "ktr_room" => (first | exact Mine.fit0 (d := (PySem.W.ktrTop _ _ _ _ _ _ _ _ _ _).depth) (by assumption) | exact Mine.fit2 (d := (PySem.W.ktrTop _ _ _ _ _ _ _ _ _ _).depth) (by assumption) (by decide) | exact Mine.fit3 (d := (PySem.W.ktrTop _ _ _ _ _ _ _ _ _ _).depth) (by assumption) (by decide) | exact Mine.fit1 (d := (PySem.W.ktrTop _ _ _ _ _ _ _ _ _ _).depth) (by assumption) (by decide) | fail "no"))
  (k_with "omega" => (first | (lia) | fail "no"))
  (k_with "omega" => (with_reducible first | exact Int.natCast_nonneg _ | exact Mine.le_cl (by decide) | exact Mine.lt_cl (by decide) | fail "no"))
  (k_with "simp" => (with_reducible first | exact List.mem_cons_self | (refine List.mem_cons_of_mem _ ?_; simp; done) | fail "no"))
  (k_with "simph" => (with_reducible first | assumption | exact List.mem_cons_of_mem _ (by assumption) | exact Or.inl (by assumption) | exact List.mem_append_left _ (by assumption) | exact List.mem_append_right _ (by assumption) | (refine List.mem_cons_of_mem _ ?_; k_extra "simph"; done) | (refine Or.inr ?_; k_extra "simph"; done) | fail "no"))
  (k_with "perm" => ((refine (?_ : ∀ q ∈ _, q ∈ _) _ (by assumption); (repeat (with_reducible refine List.forall_mem_cons.mpr ⟨by first | exact List.mem_cons_self | (refine List.mem_cons_of_mem _ ?_; simp; done), ?_⟩)); with_reducible (intro q hq; repeat (first | exact hq | refine List.mem_cons_of_mem _ ?_)))))
  (k_with "m_fru" => (first | (with_reducible refine frU_wrap ?_ (by decide); walk_at "m_fru") | exact rfl))
  (k_with "call builtin:len" => (((with_reducible show wpAny _ _ (call (Value.builtin "len") [Value.ref _]) _ _ _); k_dflt (refine' len_list ?lQ9 ?fQ9 ?_; (case lQ9 => exact News.isList (by k_asm) (by k_mem)); (case fQ9 => (simp only [List.size_toArray]; omega))); (try simp only [List.size_toArray]))))
  (k_with "m_go" => (repeat (
    (fail_if_success (with_reducible show wpAny _ _ (exec (PySem.Stmt.While _ _ _ _) _) _ _ _));
    (fail_if_success (with_reducible show wpAny _ _ (exec (PySem.Stmt.For _ _ _ _ _) _) _ _ _));
    (fail_if_success (with_reducible show wpAny _ _ (exec (PySem.Stmt.Assign _ (PySem.Expr.ListComp _ _ _ _) _) _) _ _ _));
    (fail_if_success (with_reducible show wpAny _ _ (eval (PySem.Expr.ListComp _ _ _ _) _) _ _ _));
    first | walk1 | (dsimp only; walk1))))
  (k_with "eval Name" => ((k_here; k_dflt (refine' nameX_L ?FQ9 ?vQ9 ?_ ?aQ9 ?bQ9; (case aQ9 => rfl); (case bQ9 => rfl); (case FQ9 => k_asm); (case vQ9 => first | exact rfl | assumption)))))
  (k_with "k_mem" => (first | assumption | exact List.Mem.head _ | (refine' List.Mem.tail _ ?_; k_mem)))
  (k_with "m_go8" => (repeat (
    (fail_if_success (with_reducible show wpAny _ _ (exec (PySem.Stmt.For _ _ _ _ _) _) _ _ _));
    (fail_if_success (with_reducible show wpAny _ _ (eval (PySem.Expr.Lambda _ _ _ _) _) _ _ _));
    (fail_if_success (with_reducible show wpAny _ _ (eval (PySem.Expr.ListComp _ _ _ _) _) _ _ _));
    (fail_if_success (with_reducible show wpAny _ _ (exec (PySem.Stmt.Assign _ (PySem.Expr.ListComp _ _ _ _) _) _) _ _ _));
    (fail_if_success (with_reducible show wpAny _ _ (subscriptTail _ _ (Value.ref _) (Value.int _ _)) _ _ _));
    (fail_if_success (with_reducible show wpAny _ _ (call (Value.ref _) _) _ _ _));
    (fail_if_success (with_reducible show wpAny _ _ (call (Value.builtin "len") _) _ _ _));
    (fail_if_success (with_reducible show wpAny _ _ (compareOp _ _ _) _ _ _));
    (fail_if_success (with_reducible show wpAny _ _ (call (Value.builtin "list.append") _) _ _ _));
    first | walk1 | (dsimp only; walk1))))
  (k_with "eval Name" => ((k_dflt (refine' LCgL.ld_own ?NQ9 ?mQ9 ?cQ9 ?eQ9 ?_; (case NQ9 => k_asm); (case mQ9 => k_mem); (case cQ9 => assumption); (case eQ9 => exact rfl)))))
  (k_with "eval Name" => ((k_dflt (refine' comp_free ?zNQ9 ?zmQ9 ?zdQ9 ?_ ?zkQ9 ?zxQ9 ?zcQ9 ?zbQ9 ?znQ9; (case zkQ9 => exact rfl); (case zxQ9 => with_unfolding_all rfl); (case zcQ9 => with_unfolding_all rfl); (case zNQ9 => k_asm); (case zmQ9 => k_mem); (case zdQ9 => assumption); (case zbQ9 => decide); (case znQ9 => decide)))))
  (k_with "binaryOp Add str str" => ((refine PyProof.Rows.add_str (hsz := ?hszQ9) ?_; (case hszQ9 => (simp only [str_app_len, one_len, sizeLine_eq]; omega)); intro _ _; (try dsimp only))))
  (k_with "execs cons" => (refine wpAny_execs_cons ?_; k_fold))
  (k_with "walk1" => (k_unfold; (try dsimp only); (try clear ek); (try clear qk); walk1))
  apply Mine.hd
  k_go0
  walk_at "m_go8"
  rename IntsAre _ _ => hI
  obtain ⟨vs, script, hvs1, hvs2⟩ := IntsAre.named hI
  subst hvs1 hvs2
  rename ¬ ((63 : Nat) : Int) < _ => hlen
  rename Heap.IsList (ghostOf _ _) _ _ => hS
  k_dflt (refine' cells_spec ?aB ?aF ?aX ?aN ?aT ?ak ?ad ?au hS hI (by omega) ?_; (case aB => k_asm); (case aF => k_asm); (case aX => k_asm); (case aN => k_asm); (case aT => k_asm); (case ak => exact rfl); (case ad => ktr_room); (case au => ktr_units))
  intro CE cv ns nC hA tkA FA NA neA hcv hns hnb
  simp only [List.mem_cons, List.not_mem_nil, or_false, forall_eq_or_imp, forall_eq] at neA
  obtain ⟨f1, f2, f3, f4, f5, f6⟩ := neA
  have f1' := f1.symm; have f2' := f2.symm; have f3' := f3.symm; have f4' := f4.symm; have f5' := f5.symm; have f6' := f6.symm
  walk_at "m_go8"
  have hn6 : ((6 : Int)) < ((ns.length : Nat) : Int) := by omega
  k_dflt (refine' item_anyK (News.isList ?zN ?zm) hcv ?z0 hn6 ?z2 ?_ ?z3; (case zN => k_asm); (case zm => k_mem); (case z0 => decide); (case z2 => decide); (case z3 => with_unfolding_all rfl))
  intro tb
  walk_at "m_go8"
  rename Fr _ _ _ _ => F2
  k_dflt (refine' len_list ?l ?f ?_; (case l => exact isList_keep F2 hS); (case f => (have := hI.length; simp only [List.size_toArray]; omega)))
  walk_at "m_go8"
  obtain ⟨way, hwe, hw5⟩ := fmod5 (ns.getD (Int.toNat 6) 0 + (((List.toArray vs).size : Nat) : Int))
  rename Obj.data _ = Data.cell (some (Value.int _ _)) => dW
  rw [hwe] at dW ⊢
  k_dflt (refine' refs_spec ?bB ?bF ?bX ?bN ?bT ?bk ?bd ?bu hw5 ?_; (case bB => k_asm); (case bF => k_asm); (case bX => k_asm); (case bN => k_asm); (case bT => k_asm); (case bk => exact rfl); (case bd => ktr_room); (case bu => ktr_units))
  intro RD oD hB tkB FB NB neB hlo hrf
  simp only [List.mem_cons, List.not_mem_nil, or_false, forall_eq_or_imp, forall_eq] at neB
  obtain ⟨g0, g1, g2, g3, g4, g5, g6⟩ := neB
  have g0' := g0.symm; have g1' := g1.symm; have g2' := g2.symm; have g3' := g3.symm; have g4' := g4.symm
  walk_at "m_go8"
  k_dflt (refine' deeds_spec ?cB ?cF ?cX ?cN ?cT ?ck ?cd ?cu ?cR hlo hrf ?cC hcv hns hnb ?_; (case cB => k_asm); (case cF => k_asm); (case cX => k_asm); (case cN => k_asm); (case cT => k_asm); (case ck => exact rfl); (case cd => ktr_room); (case cu => ktr_units); (case cR => k_mem); (case cC => k_mem))
  intro T LE PA SI lv pv sv n1 n2 n3 fr hC tkC FC NC frl hT hLE hPA hSI hlv hpv hsv
  have NC' := News.swapA NC
  simp only [List.cons_append, List.nil_append] at NC'
  clear NC
  simp only [List.mem_cons, List.not_mem_nil, or_false, forall_eq_or_imp, forall_eq] at frl
  have p1 := fun q hq => Nat.ne_of_gt (frl q hq).1
  have p2 := fun q hq => Nat.ne_of_gt (frl q hq).2.1
  have p3 := fun q hq => Nat.ne_of_gt (frl q hq).2.2.1
  have p4 := fun q hq => Nat.ne_of_gt (frl q hq).2.2.2.1
  have p5 := fun q hq => Nat.ne_of_gt (frl q hq).2.2.2.2.1
  have p6 := fun q hq => Nat.ne_of_gt (frl q hq).2.2.2.2.2.1
  have p7 := fun q hq => Nat.ne_of_gt (frl q hq).2.2.2.2.2.2.1
  have p8 := fun q hq => Nat.ne_of_gt (frl q hq).2.2.2.2.2.2.2
  walk_at "m_go8"
  rename IsRange _ _ 0 7 1 _ _ _ => hr
  obtain ⟨r1, r2, r3, r4⟩ := range_new hr (by assumption)
  rename 289 < _ ∧ 299 < _ => l0
  rename Fr _ _ _ _ => F1
  rename News _ _ _ _ => N1
  rename Obj.data _ = Data.cell (some (Value.ref RD)) => dR
  rename Obj.data _ = Data.cell (some (Value.ref PA)) => dP
  rename Obj.data _ = Data.cell (some (Value.ref SI)) => dS
  obtain ⟨oW, hoW⟩ := Data.named dW
  obtain ⟨oR, hoR⟩ := Data.named dR
  obtain ⟨oP, hoP⟩ := Data.named dP
  obtain ⟨oS, hoS⟩ := Data.named dS
  subst hoW hoR hoP hoS
  have N2 := News.law8 N1 ⟨r1, r2, r3⟩
  obtain ⟨rs0, hrs0⟩ := News.tail2 N2
  rw [← hrs0] at N2
  refine kla_eval rfl ?_
  have hX9 : CodeHd _ 301 299 := hd301 (by k_asm)
  have hn9 : ∀ q ∈ rs0, q.1 ≠ 299 := by
    rw [hrs0]
    intro q hq
    simp only [List.mem_cons] at hq
    rcases hq with rfl | rfl | rfl | rfl | rfl | rfl | rfl | hq
    · exact Ne.symm (Nat.ne_of_lt (Nat.lt_trans l0.2 r4))
    · exact g6.symm
    · exact f6.symm
    · exact Ne.symm (Nat.ne_of_lt (Nat.lt_succ_of_lt (Nat.lt_succ_of_lt (Nat.lt_succ_of_lt (Nat.lt_succ_of_lt l0.2)))))
    · exact Ne.symm (Nat.ne_of_lt (Nat.lt_succ_of_lt (Nat.lt_succ_of_lt (Nat.lt_succ_of_lt l0.2))))
    · exact Ne.symm (Nat.ne_of_lt (Nat.lt_succ_of_lt (Nat.lt_succ_of_lt l0.2)))
    · exact Ne.symm (Nat.ne_of_lt (Nat.lt_succ_of_lt l0.2))
    · exact p8 q hq
  have hn8 : ∀ q ∈ rs0, q.1 ≠ 289 := by
    rw [hrs0]
    intro q hq
    simp only [List.mem_cons] at hq
    rcases hq with rfl | rfl | rfl | rfl | rfl | rfl | rfl | hq
    · exact Ne.symm (Nat.ne_of_lt (Nat.lt_trans l0.1 r4))
    · exact g5.symm
    · exact f5.symm
    · exact Ne.symm (Nat.ne_of_lt (Nat.lt_succ_of_lt (Nat.lt_succ_of_lt (Nat.lt_succ_of_lt (Nat.lt_succ_of_lt l0.1)))))
    · exact Ne.symm (Nat.ne_of_lt (Nat.lt_succ_of_lt (Nat.lt_succ_of_lt (Nat.lt_succ_of_lt l0.1))))
    · exact Ne.symm (Nat.ne_of_lt (Nat.lt_succ_of_lt (Nat.lt_succ_of_lt l0.1)))
    · exact Ne.symm (Nat.ne_of_lt (Nat.lt_succ_of_lt l0.1))
    · exact p7 q hq
  refine lam_mk F1 N2 (by k_asm) hX9 rfl TabOk.nil (by decide) hn9 hn8 (by with_unfolding_all rfl) ?_
  intro f c' ctv ps2 rest2 h2 tk2 F2 N3 ht2 hc2 ho2 n2a n2b sub2
  have hfr2 : ∀ q ∈ fr, q ∈ rest2 := fun q hq => sub2 _ (by rw [hrs0]; simp [hq])
  have hRD2 : (RD, oD) ∈ rest2 := sub2 _ (by rw [hrs0]; simp)
  have hCE2 : (CE, listOf (List.toArray cv) nC) ∈ rest2 := sub2 _ (by rw [hrs0]; simp)
  have hP2 := sub2 _ (by rw [hrs0]; exact List.mem_cons_of_mem _ (List.mem_cons_of_mem _ (List.mem_cons_of_mem _ (List.mem_cons_self))))
  have hS2 := sub2 _ (by rw [hrs0]; exact List.mem_cons_of_mem _ (List.mem_cons_of_mem _ (List.mem_cons_of_mem _ (List.mem_cons_of_mem _ (List.mem_cons_self)))))
  have hR2 := sub2 _ (by rw [hrs0]; exact List.mem_cons_of_mem _ (List.mem_cons_of_mem _ (List.mem_cons_of_mem _ (List.mem_cons_of_mem _ (List.mem_cons_of_mem _ (List.mem_cons_self))))))
  have hW2 := sub2 _ (by rw [hrs0]; exact List.mem_cons_of_mem _ (List.mem_cons_of_mem _ (List.mem_cons_of_mem _ (List.mem_cons_of_mem _ (List.mem_cons_of_mem _ (List.mem_cons_of_mem _ (List.mem_cons_self)))))))
  have hrg2 := (N3 _ (List.mem_cons_of_mem _ (List.mem_cons_of_mem _ (sub2 _ (by rw [hrs0]; exact List.mem_cons_self))))).1
  walk_at "m_go8"
  obtain ⟨hord, hordm, hordl, hok, hblk⟩ := order_good (ways_of ns)
  have up2 : ∀ q ∈ rest2, q ∈ (289, tabObj #[]) :: (299, tabObj ps2) :: rest2 := fun q hq => List.mem_cons_of_mem _ (List.mem_cons_of_mem _ hq)
  k_dflt (refine' sort_spec (P := wayOf (lfOf ns)) (pv := pv) (nP := n2) ?sF ?sN ?sB ?sX ?sT ?sk ?sd ?su hrg2 (up2 _ ho2) (hc2.mono up2) (up2 _ hP2) dP (up2 _ (hfr2 _ hPA)) (Mine.Paired.mono (fun _ _ h => PathIs.mono h fun q hq => up2 _ (hfr2 _ hq)) hpv) hok (fun d hd => (hordm d).mp hd) ?_; (case sF => k_asm); (case sN => k_asm); (case sB => k_asm); (case sX => k_asm); (case sT => k_asm); (case sk => exact rfl); (case sd => ktr_room); (case su => ktr_units))
  intro OR ov no h7 tk7 F7 N7 l7 hov
  walk_at "m_go8"
  rename Fr _ _ _ _ => FW
  refine assign_tail FW rfl (by with_unfolding_all rfl) (by with_unfolding_all rfl) rfl (by decide) rfl rfl ?_ (by intro _; with_unfolding_all rfl)
  have hSI9 : (SI, listOf (List.toArray sv) n3) ∈ ((OR, listOf (List.toArray ov) no) :: (289, tabObj #[]) :: (299, tabObj ps2) :: rest2) := by simp [hfr2 _ hSI]
  have hSl : sv.length = 7 := by rw [hsv.length, List.length_map, List.length_range]
  walk_at "m_go8"
  rename Fr _ _ _ _ => FX
  rename News _ _ _ _ => NX
  refine tail_list (its := List.toArray sv) rfl FX NX (by rw [List.size_toArray, sizeLine_eq]; omega) (by decide) rfl (fun i ys nw => nw = ((OR, listOf (List.toArray ov) no) :: (289, tabObj #[]) :: (299, tabObj ps2) :: rest2) ∧ Paired StrIs ys ((List.range i).map (txOf (rTOf way ns)))) ⟨rfl, .nil⟩ (fun i ys nw h => .inr ⟨_, h.1 ▸ hSI9, rfl, _, rfl⟩) ?_ ?_
  · rintro i v ys nw I oI C oC D m₁ h tk E' hi hv ⟨rfl, hys⟩ hC FB NB off ne hCL hC₀
    (try k_fold)
    have hi7 : i < 7 := by rw [List.size_toArray] at hi; omega
    obtain ⟨x, hx, tx, rfl⟩ := paired_get hsv i v (by simpa using hv)
    rw [List.getElem?_map, List.getElem?_range hi7] at hx
    obtain rfl := Option.some.inj hx
    obtain ⟨xs, hxs⟩ : ∃ x, x = sgOf way ns i := ⟨_, rfl⟩
    rw [← hxs]
    have hwr := written_is hw5 ns i
    rw [← hxs] at hwr
    refine comp_assign FB NB hC off ne hCL hC₀ rfl rfl ?_
    intro h4 tk4 oC4 FD ND hC4
    refine wpAny_tests_nil ?_
    (try dsimp only)
    rw [if_pos rfl]
    walk_at "m_go8"
    k_dflt (refine' handW_spec ?hB ?hF ?hX ?hN ?hT ?hk ?hd ?hu hw5 hwr.1 ?_; (case hB => k_asm); (case hF => k_asm); (case hX => k_asm); (case hN => k_asm); (case hT => k_asm); (case hk => exact rfl); (case hd => ktr_room); (case hu => ktr_units))
    intro th hh tkh FH NH
    rw [hwr.2]
    (repeat k_unfold)
    refine ⟨_, _, _, _, _, rfl, FH, NH, hC4, off, rfl, ?_⟩
    rw [List.range_succ, List.map_append]
    exact hys.snoc ⟨_, rfl⟩
  · rintro ys nw ⟨rfl, hys⟩
    intro WR h tk FB NB off
    (try dsimp only)
    rw [List.size_toArray, hSl] at hys
    walk_at "m_go8"
    have NB' := News.lead3 NB
    rw [show lst ys = listOf (List.toArray ys) ys.length from rfl] at NB'
    have tC : (CE, listOf (List.toArray cv) nC) ∈ ((WR, listOf (List.toArray ys) ys.length) :: (OR, listOf (List.toArray ov) no) :: (299, tabObj ps2) :: rest2) := by simp [hCE2]
    have tL : (LE, listOf (List.toArray lv) n1) ∈ ((WR, listOf (List.toArray ys) ys.length) :: (OR, listOf (List.toArray ov) no) :: (299, tabObj ps2) :: rest2) := by simp [hfr2 _ hLE]
    have tO : (OR, listOf (List.toArray ov) no) ∈ ((WR, listOf (List.toArray ys) ys.length) :: (OR, listOf (List.toArray ov) no) :: (299, tabObj ps2) :: rest2) := by simp
    have tW : (WR, listOf (List.toArray ys) ys.length) ∈ ((WR, listOf (List.toArray ys) ys.length) :: (OR, listOf (List.toArray ov) no) :: (299, tabObj ps2) :: rest2) := by simp
    have hp99 : ∀ q ∈ ((WR, listOf (List.toArray ys) ys.length) :: (OR, listOf (List.toArray ov) no) :: (299, tabObj ps2) :: rest2), q.1 ≠ 289 := by
      have ho9 := off1_ne off
      intro q hq
      simp only [List.mem_cons] at hq
      rcases hq with rfl | rfl | rfl | hq
      · exact fun e => ho9 (289, tabObj #[]) (by simp) e.symm
      · exact Ne.symm (Nat.ne_of_lt (l7 (289, tabObj #[]) (by simp)))
      · exact (by decide : (299 : Nat) ≠ 289)
      · exact n2b q hq
    k_dflt (refine' text_spec (ps := #[]) (rest := ((WR, listOf (List.toArray ys) ys.length) :: (OR, listOf (List.toArray ov) no) :: (299, tabObj ps2) :: rest2)) (cv := cv) (lv := lv) (ov := ov) (wv := ys) (ns := ns) (rT := rTOf way ns) (order := ordOf ((List.range 7).map (wayOf (lfOf ns)))) ?tB ?tF ?tX ?tT ?tk ?td ?tu NB' hp99 TabOk.nil hw5 tC hcv hns hnb tL hlv tO hov tW hys (fine_of hw5 ns) hord hordm hordl ?_; (case tB => k_asm); (case tF => k_asm); (case tX => k_asm); (case tT => k_asm); (case tk => exact rfl); (case td => ktr_room); (case tu => ktr_units))
    intro DI dv nD psT restT hT9 tkT FT NT subT hT99 hDI hdv
    walk_at "m_go8"
    rename Fr _ _ _ _ => FU
    have hOR5 : (OR, listOf (List.toArray ov) no) ∈ ((289, tabObj psT) :: restT) := List.mem_cons_of_mem _ (subT _ tO)
    have hSI5 : (SI, listOf (List.toArray sv) n3) ∈ ((289, tabObj psT) :: restT) := List.mem_cons_of_mem _ (subT _ (by simp [hfr2 _ hSI]))
    have hRD5 : (RD, oD) ∈ ((289, tabObj psT) :: restT) := List.mem_cons_of_mem _ (subT _ (by simp [hRD2]))
    have hS5 := List.mem_cons_of_mem (289, tabObj psT) (subT _ (List.mem_cons_of_mem _ (List.mem_cons_of_mem _ (List.mem_cons_of_mem _ hS2))))
    have hR5 := List.mem_cons_of_mem (289, tabObj psT) (subT _ (List.mem_cons_of_mem _ (List.mem_cons_of_mem _ (List.mem_cons_of_mem _ hR2))))
    have hovl : ov.length = 7 := by rw [hov.length, List.length_map, hordl]
    refine eval_tail FU (by with_unfolding_all rfl) rfl (by decide) ?_ (by intro _; with_unfolding_all rfl)
    walk_at "m_go8"
    rename Fr _ _ _ _ => FV
    rename News _ _ _ _ => NV
    refine tail_list (its := List.toArray ov) rfl FV NV (by rw [List.size_toArray, sizeLine_eq]; omega) (by decide) rfl (fun i ys2 nw => ∃ fr2, nw = fr2 ++ ((289, tabObj psT) :: restT) ∧ Paired (RowIs fr2) ys2 (((ordOf ((List.range 7).map (wayOf (lfOf ns)))).take i).map (row (txOf (rTOf way ns))))) ⟨[], rfl, .nil⟩ (fun i ys2 nw h => by obtain ⟨fr2, e, _⟩ := h; exact .inr ⟨_, e ▸ List.mem_append_right _ hOR5, rfl, _, rfl⟩) ?_ ?_
    · rintro i v ys2 nw I oI C oC D m₁ h tk E' hi hv ⟨fr2, rfl, hys2⟩ hC FB2 NB2 off2 ne2 hCL hC₀
      (try k_fold)
      obtain ⟨d, td, hdq, rfl⟩ := ints_at' hov (by simpa using hv)
      have hd7 : d < 7 := (hordm d).mp (List.mem_of_getElem? hdq)
      have hSI6 := List.mem_append_right fr2 hSI5
      have hRD6 := List.mem_append_right fr2 hRD5
      have hS6 := List.mem_append_right fr2 hS5
      have hR6 := List.mem_append_right fr2 hR5
      refine comp_assign FB2 NB2 hC off2 ne2 hCL hC₀ rfl rfl ?_
      intro h4 tk4 oC4 FD ND hC4
      refine wpAny_tests_nil ?_
      (try dsimp only)
      rw [if_pos rfl]
      walk_at "m_go8"
      obtain ⟨v9, hv9⟩ : ∃ v9, sv[d]? = some v9 := ⟨_, List.getElem?_eq_getElem (by omega)⟩
      obtain ⟨x9, hx9, t9, rfl⟩ := paired_get hsv d v9 hv9
      rw [List.getElem?_map, List.getElem?_range hd7] at hx9
      obtain rfl := Option.some.inj hx9
      k_dflt (refine' item_list ?zl ?za ?zb ?zc ?_; (case zl => exact News.isList (by k_asm) (by k_mem)); (case za => exact Int.natCast_nonneg _); (case zb => omega); (case zc => (rw [Int.toNat_natCast, List.getElem?_toArray]; exact hv9)))
      walk_at "m_go8"
      have hsz9 := sg_size hw5 ns d
      k_dflt (refine' spelled_spec (times := 0) (r := rfOf way ns d) ?qB ?qF ?qX ?qN ?qT ?qk ?qd ?qu ?qR hlo hrf hsz9.1 hsz9.2.1 (by omega) hsz9.2.2 (rf_len hw5 ns d) (spell_len hw5 ns (by omega)) ?_; (case qB => k_asm); (case qF => k_asm); (case qX => k_asm); (case qN => k_asm); (case qT => k_asm); (case qk => exact rfl); (case qd => ktr_room); (case qu => ktr_units); (case qR => k_mem))
      intro ts hs tks FS NS
      walk_at "m_go8"
      rename Fr _ _ _ _ => FT2
      rename News _ _ _ _ => NT2
      have hsp0 := sp_zero hw5 ns d
      unfold spOf at hsp0
      rw [hsp0] at NT2
      obtain ⟨TP, hTP⟩ := News.first NT2
      rw [← hTP] at NT2 ⊢
      refine ⟨_, _, (TP, _) :: (fr2 ++ ((289, tabObj psT) :: restT)), oC4, _, rfl, FT2, News.rot4 NT2, hC4, ?_, (TP, _) :: fr2, rfl, ?_⟩
      · rename _ ∧ _ ∧ _ ∧ AllLt _ _ => lT
        exact ⟨⟨by rw [hTP]; exact Nat.ne_of_gt lT.1, by rw [hTP]; exact Nat.ne_of_gt lT.2.1, by rw [hTP]; exact Nat.ne_of_gt lT.2.2.1⟩, off2⟩
      · rw [List.take_add_one, hdq, List.map_append]
        exact Paired.snoc (Mine.Paired.mono (fun _ _ h => RowIs.mono h fun q hq => List.mem_cons_of_mem _ hq) hys2) ⟨TP, _, _, rfl, List.mem_cons_self⟩
    · rintro ys2 nw ⟨fr2, rfl, hys2⟩
      intro D2 h tk FB2 NB2 off2
      (try dsimp only)
      rw [show (List.toArray ov).size = 7 by rw [List.size_toArray]; exact hovl, List.take_of_length_le (by omega)] at hys2
      have h79 : ∀ d ∈ ordOf ((List.range 7).map (wayOf (lfOf ns))), d < 7 := fun d hd => (hordm d).mp hd
      walk_at "m_go8"
      rename News _ _ _ _ => NE
      have hDI6 : (DI, listOf (List.toArray dv) nD) ∈ ((D2, lst ys2) :: (fr2 ++ ((289, tabObj psT) :: restT))) := List.mem_cons_of_mem _ (List.mem_append_right _ (List.mem_cons_of_mem _ hDI))
      k_dflt (refine' kqd_ne (n₁ := restT) (n₂ := fr2) (ds := ((ordOf ((List.range 7).map (wayOf (lfOf ns)))).map (row (txOf (rTOf way ns)))).map rowD) (es := ((ordOf ((List.range 7).map (wayOf (lfOf ns)))).map (row (txOf (rTOf way ns)))).map rowD) NE ?xa ?xc ?xd (rows_dat hdv) ?sa ?ya ?yc ?yd (rows_dat hys2) ?sb (rows_ok (fine_of hw5 ns) h79) (rows_ok (fine_of hw5 ns) h79) ?zu ?_; (case xa => exact hDI6); (case ya => exact List.mem_cons_self); (case xc => exact rfl); (case xd => exact rfl); (case yc => exact rfl); (case yd => exact rfl); (case sa => (intro q hq; simp [hq])); (case sb => (intro q hq; simp [hq])); (case zu => ktr_units))
      simp only [decide_true, Bool.not_true]
      iterate 3 (first | walk1 | (dsimp only; walk1))
      (try dsimp only)
      walk_at "m_go8"
      rename Fr _ _ _ _ => FY
      refine assign_tail FY rfl (by with_unfolding_all rfl) (by with_unfolding_all rfl) rfl (by decide) rfl rfl ?_ (by intro _; with_unfolding_all rfl)
      walk_at "m_go8"
      rename Fr _ _ _ _ => FZ
      rename News _ _ _ _ => NZ
      have hOR7 : (OR, listOf (List.toArray ov) no) ∈ ((D2, lst ys2) :: (fr2 ++ ((289, tabObj psT) :: restT))) := List.mem_cons_of_mem _ (List.mem_append_right _ hOR5)
      have hSI7 : (SI, listOf (List.toArray sv) n3) ∈ ((D2, lst ys2) :: (fr2 ++ ((289, tabObj psT) :: restT))) := List.mem_cons_of_mem _ (List.mem_append_right _ hSI5)
      have hRD7 : (RD, oD) ∈ ((D2, lst ys2) :: (fr2 ++ ((289, tabObj psT) :: restT))) := List.mem_cons_of_mem _ (List.mem_append_right _ hRD5)
      have up5 : ∀ q ∈ rest2, q ∈ ((D2, lst ys2) :: (fr2 ++ ((289, tabObj psT) :: restT))) := fun q hq => List.mem_cons_of_mem _ (List.mem_append_right _ (List.mem_cons_of_mem _ (subT _ (by simp [hq]))))
      have hS7 := up5 _ hS2
      have hR7 := up5 _ hR2
      have hP7 := up5 _ hP2
      have hW7 := up5 _ hW2
      have hDI7 := hDI6
      have hdv7 : RowsAre ((D2, lst ys2) :: (fr2 ++ ((289, tabObj psT) :: restT))) dv _ := Mine.Paired.mono (fun _ _ h => RowIs.mono h fun q hq => List.mem_cons_of_mem _ (List.mem_append_right _ (List.mem_cons_of_mem _ hq))) hdv
      have h2897 : (289, tabObj psT) ∈ ((D2, lst ys2) :: (fr2 ++ ((289, tabObj psT) :: restT))) := List.mem_cons_of_mem _ (List.mem_append_right _ List.mem_cons_self)
      have h2997 : (299, tabObj ps2) ∈ ((D2, lst ys2) :: (fr2 ++ ((289, tabObj psT) :: restT))) := List.mem_cons_of_mem _ (List.mem_append_right _ (List.mem_cons_of_mem _ (subT _ (by simp))))
      have hPA7 := up5 _ (hfr2 _ hPA)
      have hpv7 := Mine.Paired.mono (fun _ _ h => PathIs.mono h fun q hq => up5 _ (hfr2 _ hq)) hpv
      obtain ⟨NWL, hNWL⟩ : ∃ l, l = ((D2, lst ys2) :: (fr2 ++ ((289, tabObj psT) :: restT))) := ⟨_, rfl⟩
      rw [← hNWL] at hOR7 hSI7 hRD7 hS7 hR7 hP7 hW7 hPA7 hpv7 hDI7 hdv7 h2897 h2997 NZ
      refine tail_list (its := List.toArray ov) rfl FZ NZ (by rw [List.size_toArray, sizeLine_eq]; omega) (by decide) rfl (fun i ys nw => nw = NWL ∧ Paired StrIs ys (((ordOf ((List.range 7).map (wayOf (lfOf ns)))).take i).map fun k => dueOf way ns (wayOf (lfOf ns) k).length k)) ⟨rfl, .nil⟩ (fun i ys nw h => .inr ⟨_, h.1 ▸ hOR7, rfl, _, rfl⟩) ?_ ?_
      · rintro i v ys3 nw I oI C oC D m₁ h tk E' hi hv ⟨rfl, hys3⟩ hC FB3 NB3 off3 ne3 hCL hC₀
        (try k_fold)
        obtain ⟨d, td, hdq, rfl⟩ := ints_at' hov (by simpa using hv)
        have hd7 : d < 7 := (hordm d).mp (List.mem_of_getElem? hdq)
        refine comp_assign FB3 NB3 hC off3 ne3 hCL hC₀ rfl rfl ?_
        intro h4 tk4 oC4 FD ND hC4
        refine wpAny_tests_nil ?_
        (try dsimp only)
        rw [if_pos rfl]
        walk_at "m_go8"
        obtain ⟨v8, hv8⟩ : ∃ v8, pv[d]? = some v8 := ⟨_, List.getElem?_eq_getElem (by rw [hpv.length, List.length_map, List.length_range]; omega)⟩
        obtain ⟨x8, hx8, P8, us8, n8, rfl, hm8, hi8⟩ := paired_get hpv7 d v8 hv8
        rw [List.getElem?_map, List.getElem?_range hd7] at hx8
        obtain rfl := Option.some.inj hx8
        have hwl8 : (wayOf (lfOf ns) d).length < 8 := by have := way_len ns d hd7; omega
        have hus8 : us8.length = (wayOf (lfOf ns) d).length := by rw [hi8.length, List.length_map]
        generalize hwl : (wayOf (lfOf ns) d).length = wl at hwl8 hus8
        k_dflt (refine' item_list ?zl ?za ?zb ?zc ?_; (case zl => exact News.isList (by k_asm) (by k_mem)); (case za => exact Int.natCast_nonneg _); (case zb => omega); (case zc => (rw [Int.toNat_natCast, List.getElem?_toArray]; exact hv8)))
        walk_at "m_go8"
        k_dflt (refine' len_list ?zl ?zf ?_; (case zl => exact News.isList (by k_asm) (by k_mem)); (case zf => (simp only [List.size_toArray]; omega)))
        rw [show (List.toArray us8).size = wl by rw [List.size_toArray, hus8]]
        have ha8 := ampM_len wl hwl8
        have hs8 := small_len d hd7
        walk_at "m_go8"
        obtain ⟨v9, hv9⟩ : ∃ v9, sv[d]? = some v9 := ⟨_, List.getElem?_eq_getElem (by omega)⟩
        obtain ⟨x9, hx9, t9, rfl⟩ := paired_get hsv d v9 hv9
        rw [List.getElem?_map, List.getElem?_range hd7] at hx9
        obtain rfl := Option.some.inj hx9
        k_dflt (refine' item_list ?zl ?za ?zb ?zc ?_; (case zl => exact News.isList (by k_asm) (by k_mem)); (case za => exact Int.natCast_nonneg _); (case zb => omega); (case zc => (rw [Int.toNat_natCast, List.getElem?_toArray]; exact hv9)))
        walk_at "m_go8"
        k_dflt (refine' item_list ?zl ?za ?zb ?zc ?_; (case zl => exact News.isList (by k_asm) (by k_mem)); (case za => exact Int.natCast_nonneg _); (case zb => omega); (case zc => (rw [Int.toNat_natCast, List.getElem?_toArray]; exact hv8)))
        walk_at "m_go8"
        k_dflt (refine' len_list ?zl ?zf ?_; (case zl => exact News.isList (by k_asm) (by k_mem)); (case zf => (simp only [List.size_toArray]; omega)))
        rw [show (List.toArray us8).size = wl by rw [List.size_toArray, hus8]]
        walk_at "m_go8"
        have hsz9 := sg_size hw5 ns d
        k_dflt (refine' spelled_spec (times := wl) (r := rfOf way ns d) ?qB ?qF ?qX ?qN ?qT ?qk ?qd ?qu ?qR hlo hrf hsz9.1 hsz9.2.1 (by omega) hsz9.2.2 (rf_len hw5 ns d) (spell_len hw5 ns hwl8) ?_; (case qB => k_asm); (case qF => k_asm); (case qX => k_asm); (case qN => k_asm); (case qT => k_asm); (case qk => exact rfl); (case qd => ktr_room); (case qu => ktr_units); (case qR => k_mem))
        intro ts hs tks FS NS
        obtain ⟨xsp, hxsp⟩ : ∃ x, x = spOf way ns d wl := ⟨_, rfl⟩
        have hxl : xsp.length ≤ 1000 := hxsp ▸ sp_len hw5 ns hd7 hwl8
        unfold spOf at hxsp
        rw [← hxsp]
        walk_at "m_go8"
        have hdue : ("&" ++ Txt.mul "amp;" ((wl : Nat) : Int) ++ Txt.item "abcdefg" ((d : Nat) : Int) ++ xsp) = dueOf way ns (wayOf (lfOf ns) d).length d := by rw [hwl, hxsp]; rfl
        (repeat k_unfold)
        refine ⟨_, _, _, _, _, rfl, by k_asm, by k_asm, hC4, off3, rfl, ?_⟩
        rw [List.take_add_one, hdq, List.map_append]
        exact hys3.snoc ⟨_, congrArg (fun z => Value.str z _) hdue⟩
      · rintro ys3 nw ⟨rfl, hys3⟩
        intro D3 h tk FB3 NB3 off3
        (try dsimp only)
        rw [show (List.toArray ov).size = 7 by rw [List.size_toArray]; exact hovl, List.take_of_length_le (by omega)] at hys3
        walk_at "m_go8"
        have hdv8 := Mine.Paired.mono (fun _ _ h => RowIs.mono h fun q hq => List.mem_cons_of_mem (D3, lst ys3) hq) hdv7
        k_dflt (refine' nested_spec (deeds := ordOf ((List.range 7).map (wayOf (lfOf ns)))) ?zB ?zF ?zX ?zN ?zT ?zk ?zd ?zu hw5 (fine_of hw5 ns) ?zR hdv8 h79 (by omega) ?_; (case zB => k_asm); (case zF => k_asm); (case zX => k_asm); (case zN => k_asm); (case zT => k_asm); (case zk => exact rfl); (case zd => ktr_room); (case zu => ktr_units); (case zR => k_mem))
        intro te he tke FE NE9
        obtain ⟨xpg, hxpg⟩ : ∃ x, x = rend (rTOf way ns) (blocks (ordOf ((List.range 7).map (wayOf (lfOf ns))))) := ⟨_, rfl⟩
        have hpd := page_due hw5 ns h79 (fun k hk => by have := way_len ns k hk; omega) hblk
        rw [← hxpg] at hpd ⊢
        walk_at "m_go8"
        refine join_list (News.isList NE9 List.mem_cons_self) (ys := (ordOf ((List.range 7).map (wayOf (lfOf ns)))).map fun k => dueOf way ns (wayOf (lfOf ns) k).length k) (strs_of hys3) ?_ ?_
        · have e0 : ("" : PySem.Str).length = 0 := rfl
          rw [e0, List.map_map, Nat.mul_zero, Nat.add_zero]
          have h1 := sum_le (f := PySem.Str.length ∘ fun k => dueOf way ns (wayOf (lfOf ns) k).length k) (c := 1100) (l := ordOf ((List.range 7).map (wayOf (lfOf ns)))) (fun k hk => due_len hw5 ns (h79 k hk) (by have := way_len ns k (h79 k hk); have := h79 k hk; omega))
          rw [hordl] at h1
          exact Nat.le_trans h1 (by decide)
        intro t' k'
        rw [hpd]
        iterate 1 (first | walk1 | (dsimp only; walk1))
        rw [show (xpg == xpg) = true from beq_self_eq_true xpg]
        rename News _ _ _ _ => NL
        refine ⟨?_, GrownAt.of NL (List.mem_cons_of_mem _ h2897), GrownAt.of NL (List.mem_cons_of_mem _ h2997), trivial⟩
        refine goodW_bool (by k_asm) (by assumption) (raisesW_false ?_) ?_
        · wrow_none_raised
        · exact law_post _
end Mine
end
set_option maxRecDepth 100000 in
set_option maxHeartbeats 8000000 in
theorem PySem.Challenge.cw_uk0024_01_holds : PySem.Challenge.rw_uk0024_01.Holds := by
  exact Mine.law_holds
