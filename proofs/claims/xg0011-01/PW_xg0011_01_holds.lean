import PyProof.Rows.All
import Wide.All
import OpenK.AllK
import Wide.FinOn
import PySem.Challenge.RW_xg0011_01
set_option Elab.async false
section
open PySem PySem.W PyProof.Rows
set_option maxRecDepth 100000
set_option maxHeartbeats 8000000
open_top hd for PySem.Challenge.rw_xg0011_01
end
section
open PySem PySem.W PyProof.Rows PySem.Spec PySem.Calls
set_option Elab.async false
namespace Mine
def Con (prog : Program) (w : World) (K : Frag) (p : Program) (loose : List Str) (f : Addr) (vs : List Value) (dx ux : Nat)
    (In : Heap → List (Addr × Obj) → Prop) (Out : List (Addr × Obj) → Value → Prop) : Prop :=
  ∀ (mean : ExcName → Option Value) (mg mb : Str → Option Value) (dp un : Nat) (gd : Option (List Code)) (cn : Str) (cs : Scope) (a : Addr) (ccd : Value) (cl : List (Str × Addr)) (outer : List Env)
    (A₀ : Around) (base h₀ : Heap) (L : Addr) (m : Str → Option Value) (news : List (Addr × Obj)) (s : Shared) (Q E : Value → Shared → Prop),
    Below A₀ base outer h₀ → Fr h₀ L s.heap m → K.In h₀ → News h₀ L s.heap news → Top p loose mean mg mb h₀ → cs.kind = .function →
    In base news → dp + dx < recursionLimit → un + ux < cLine →
    (∀ v own h' tk', Fr h₀ L h' m → News h₀ L h' (own ++ news) → (∀ q ∈ news, ∀ p ∈ own, q.1 < p.1) → Out own v → Q v { s with heap := h', toks := tk' }) →
    wpAny (model prog w) (ktrTop dp un gd cn cs L a ccd cl outer) (call (.ref f) vs) Q E s

abbrev tup2 (x y : Value) (c : Nat) : Obj := { cls := .type "tuple", data := .seq #[x, y] c }
end Mine
open PySem PySem.W PyProof.Rows PySem.Spec PySem.Calls
namespace Mine
def OutT2 (x y : Int) (own : List (Addr × Obj)) (v : Value) : Prop := ∃ (D : Addr) (t u : Tok) (c : Nat), own = [(D, tup2 (.int x t) (.int y u) c)] ∧ v = .ref D
def OutI (x : Int) (own : List (Addr × Obj)) (v : Value) : Prop := ∃ (t : Tok), own = [] ∧ v = .int x t
def OutS (x : Str) (own : List (Addr × Obj)) (v : Value) : Prop := ∃ (t : Tok), own = [] ∧ v = .str x t
def OutB (x : Bool) (own : List (Addr × Obj)) (v : Value) : Prop := own = [] ∧ v = .bool x

section
variable {prog : Program} {w : World} {K : Frag} {p : Program} {loose : List Str} {f : Addr} {vs : List Value} {dx ux : Nat} {In : Heap → List (Addr × Obj) → Prop}
  {mean : ExcName → Option Value} {mg mb : Str → Option Value} {dp un : Nat} {gd : Option (List Code)} {cn : Str} {cs : Scope} {a : Addr} {ccd : Value} {cl : List (Str × Addr)} {outer : List Env}
  {A₀ : Around} {base h₀ : Heap} {L : Addr} {m : Str → Option Value} {news : List (Addr × Obj)} {s : Shared} {Q E : Value → Shared → Prop}
theorem use_T2 {x y : Int} (C : Con prog w K p loose f vs dx ux In (OutT2 x y)) (B : Below A₀ base outer h₀) (F : Fr h₀ L s.heap m) (X : K.In h₀) (N : News h₀ L s.heap news) (T : Top p loose mean mg mb h₀) (hk : cs.kind = .function)
    (hin : In base news) (hd : dp + dx < recursionLimit) (hu : un + ux < cLine)
    (ret : ∀ (D : Addr) (t u : Tok) (c : Nat) h' tk', Fr h₀ L h' m → News h₀ L h' ((D, ({ cls := .type "tuple", data := .seq #[.int x t, .int y u] c } : Obj)) :: news) → (∀ q ∈ news, q.1 < D) → Q (.ref D) { s with heap := h', toks := tk' }) :
    wpAny (model prog w) (ktrTop dp un gd cn cs L a ccd cl outer) (call (.ref f) vs) Q E s := by
  refine C _ _ _ _ _ _ _ _ _ _ _ _ _ _ _ _ _ _ _ _ _ B F X N T hk hin hd hu ?_
  rintro v own h' tk' F' N' hl ⟨D, t, u, c, rfl, rfl⟩
  exact ret D t u c h' tk' F' N' fun q hq => hl q hq _ (List.mem_singleton.mpr rfl)
theorem use_I {x : Int} (C : Con prog w K p loose f vs dx ux In (OutI x)) (B : Below A₀ base outer h₀) (F : Fr h₀ L s.heap m) (X : K.In h₀) (N : News h₀ L s.heap news) (T : Top p loose mean mg mb h₀) (hk : cs.kind = .function)
    (hin : In base news) (hd : dp + dx < recursionLimit) (hu : un + ux < cLine)
    (ret : ∀ (t : Tok) h' tk', Fr h₀ L h' m → News h₀ L h' news → Q (.int x t) { s with heap := h', toks := tk' }) :
    wpAny (model prog w) (ktrTop dp un gd cn cs L a ccd cl outer) (call (.ref f) vs) Q E s := by
  refine C _ _ _ _ _ _ _ _ _ _ _ _ _ _ _ _ _ _ _ _ _ B F X N T hk hin hd hu ?_
  rintro v own h' tk' F' N' hl ⟨t, rfl, rfl⟩
  exact ret t h' tk' F' N'
theorem use_S {x : Str} (C : Con prog w K p loose f vs dx ux In (OutS x)) (B : Below A₀ base outer h₀) (F : Fr h₀ L s.heap m) (X : K.In h₀) (N : News h₀ L s.heap news) (T : Top p loose mean mg mb h₀) (hk : cs.kind = .function)
    (hin : In base news) (hd : dp + dx < recursionLimit) (hu : un + ux < cLine)
    (ret : ∀ (t : Tok) h' tk', Fr h₀ L h' m → News h₀ L h' news → Q (.str x t) { s with heap := h', toks := tk' }) :
    wpAny (model prog w) (ktrTop dp un gd cn cs L a ccd cl outer) (call (.ref f) vs) Q E s := by
  refine C _ _ _ _ _ _ _ _ _ _ _ _ _ _ _ _ _ _ _ _ _ B F X N T hk hin hd hu ?_
  rintro v own h' tk' F' N' hl ⟨t, rfl, rfl⟩
  exact ret t h' tk' F' N'
theorem use_B {x : Bool} (C : Con prog w K p loose f vs dx ux In (OutB x)) (B : Below A₀ base outer h₀) (F : Fr h₀ L s.heap m) (X : K.In h₀) (N : News h₀ L s.heap news) (T : Top p loose mean mg mb h₀) (hk : cs.kind = .function)
    (hin : In base news) (hd : dp + dx < recursionLimit) (hu : un + ux < cLine)
    (ret : ∀ h' tk', Fr h₀ L h' m → News h₀ L h' news → Q (.bool x) { s with heap := h', toks := tk' }) :
    wpAny (model prog w) (ktrTop dp un gd cn cs L a ccd cl outer) (call (.ref f) vs) Q E s := by
  refine C _ _ _ _ _ _ _ _ _ _ _ _ _ _ _ _ _ _ _ _ _ B F X N T hk hin hd hu ?_
  rintro v own h' tk' F' N' hl ⟨rfl, rfl⟩
  exact ret h' tk' F' N'
theorem lt_of_news {h₀ h : Heap} {L : Addr} {news : List (Addr × Obj)} (N : News h₀ L h news) : ∀ q ∈ news, q.1 < h.objs.size := fun q hq => Heap.lt_size (N q hq).1
/-- the end of a contract that hands back a pair of ints -/
theorem end_T2 {x y x' y' : Int} {D : Addr} {t u : Tok} {c : Nat} {h' : Heap} {tk' : Nat} {rest : List (Addr × Obj)}
    (hret : ∀ v own h' tk', Fr h₀ L h' m → News h₀ L h' (own ++ news) → (∀ q ∈ news, ∀ p ∈ own, q.1 < p.1) → OutT2 x y own v → Q v { s with heap := h', toks := tk' })
    (F : Fr h₀ L h' m) (N : News h₀ L h' rest) (h1 : (D, ({ cls := .type "tuple", data := .seq #[.int x' t, .int y' u] c } : Obj)) ∈ rest) (h2 : ∀ p ∈ news, p ∈ rest) (hD : ∀ q ∈ news, q.1 < D) (ex : x' = x) (ey : y' = y) :
    Q (.ref D) { s with heap := h', toks := tk' } := by
  subst ex; subst ey
  refine hret _ [(D, _)] _ _ F (fun p hp => ?_) (fun q hq p hp => ?_) ⟨D, t, u, c, rfl, rfl⟩
  · rcases List.mem_append.mp hp with h | h
    · rw [List.mem_singleton.mp h]; exact N _ h1
    · exact N _ (h2 _ h)
  · rw [List.mem_singleton.mp hp]; exact hD q hq
theorem end_I {x x' : Int} {t : Tok} {h' : Heap} {tk' : Nat} {rest : List (Addr × Obj)}
    (hret : ∀ v own h' tk', Fr h₀ L h' m → News h₀ L h' (own ++ news) → (∀ q ∈ news, ∀ p ∈ own, q.1 < p.1) → OutI x own v → Q v { s with heap := h', toks := tk' })
    (F : Fr h₀ L h' m) (N : News h₀ L h' rest) (h2 : ∀ p ∈ news, p ∈ rest) (ex : x' = x) : Q (.int x' t) { s with heap := h', toks := tk' } := by
  subst ex
  exact hret _ [] _ _ F (fun p hp => N p (h2 p hp)) (fun _ _ _ h => nomatch h) ⟨t, rfl, rfl⟩
theorem end_S {x x' : Str} {t : Tok} {h' : Heap} {tk' : Nat} {rest : List (Addr × Obj)}
    (hret : ∀ v own h' tk', Fr h₀ L h' m → News h₀ L h' (own ++ news) → (∀ q ∈ news, ∀ p ∈ own, q.1 < p.1) → OutS x own v → Q v { s with heap := h', toks := tk' })
    (F : Fr h₀ L h' m) (N : News h₀ L h' rest) (h2 : ∀ p ∈ news, p ∈ rest) (ex : x' = x) : Q (.str x' t) { s with heap := h', toks := tk' } := by
  subst ex
  exact hret _ [] _ _ F (fun p hp => N p (h2 p hp)) (fun _ _ _ h => nomatch h) ⟨t, rfl, rfl⟩
theorem end_B {x x' : Bool} {h' : Heap} {tk' : Nat} {rest : List (Addr × Obj)}
    (hret : ∀ v own h' tk', Fr h₀ L h' m → News h₀ L h' (own ++ news) → (∀ q ∈ news, ∀ p ∈ own, q.1 < p.1) → OutB x own v → Q v { s with heap := h', toks := tk' })
    (F : Fr h₀ L h' m) (N : News h₀ L h' rest) (h2 : ∀ p ∈ news, p ∈ rest) (ex : x' = x) : Q (.bool x') { s with heap := h', toks := tk' } := by
  subst ex
  exact hret _ [] _ _ F (fun p hp => N p (h2 p hp)) (fun _ _ _ h => nomatch h) ⟨rfl, rfl⟩
end
end Mine
end
section
open PySem PySem.W PyProof.Rows PySem.Spec PySem.Calls
set_option Elab.async false
set_option maxRecDepth 100000
namespace Mine
theorem attrs_pat : PlainAttrs "re.Pattern" :=
  ⟨⟨"object.__getattribute__", by rw [typeLookup_type, builtinLookup_eq_fast]; kernel_rfl, by decide +kernel⟩, by rw [typeLookup_type, builtinLookup_eq_fast]; kernel_rfl⟩
theorem attrs_match : PlainAttrs "re.Match" :=
  ⟨⟨"object.__getattribute__", by rw [typeLookup_type, builtinLookup_eq_fast]; kernel_rfl, by decide +kernel⟩, by rw [typeLookup_type, builtinLookup_eq_fast]; kernel_rfl⟩
theorem slot_search : Slot "re.Pattern" "search" "re.Pattern.search" :=
  .of (owner := "re.Pattern") (n := "search") (by rw [typeLookup_type, builtinLookup_eq_fast]; kernel_rfl) (by decide +kernel) (by decide +kernel) (by decide +kernel)
    (by first | exact .inl (by decide +kernel) | exact .inr (by decide +kernel)) (by rw [isSubtype_type]; kernel_rfl)
theorem type_search : typeOf (.builtin "re.Pattern.search") = pure (.type "method_descriptor") := by show builtinType _ = _; rw [builtinType_eq_fast]; kernel_rfl
theorem entry_search : entryFor table "re.Pattern.search" = some Builtin.«re.Pattern.search» := entryFor_of_tree (by kernel_rfl)
theorem owner_pat : Manifest.owners.lookup (String.ofList ['n', 'r', 'e', 't', 't', 'a', 'P', '.', 'e', 'r'].reverse) = some Manifest.sig_re_Pattern := by kernel_rfl
theorem args_search (a b : Value) : argsOk "re.Pattern.search" ⟨[a, b], []⟩ := by
  unfold argsOk; rw [signature?_of (id := "re.Pattern.search") (n := ['h', 'c', 'r', 'a', 'e', 's']) (o := ['n', 'r', 'e', 't', 't', 'a', 'P', '.', 'e', 'r']) (by kernel_rfl) owner_pat]; kernel_rfl
theorem slot_group : Slot "re.Match" "group" "re.Match.group" :=
  .of (owner := "re.Match") (n := "group") (by rw [typeLookup_type, builtinLookup_eq_fast]; kernel_rfl) (by decide +kernel) (by decide +kernel) (by decide +kernel)
    (by first | exact .inl (by decide +kernel) | exact .inr (by decide +kernel)) (by rw [isSubtype_type]; kernel_rfl)
theorem type_group : typeOf (.builtin "re.Match.group") = pure (.type "method_descriptor") := by show builtinType _ = _; rw [builtinType_eq_fast]; kernel_rfl
theorem entry_group : entryFor table "re.Match.group" = some Builtin.«re.Match.group» := entryFor_of_tree (by kernel_rfl)
theorem owner_match : Manifest.owners.lookup (String.ofList ['h', 'c', 't', 'a', 'M', '.', 'e', 'r'].reverse) = some Manifest.sig_re_Match := by kernel_rfl
theorem args_group (a b : Value) : argsOk "re.Match.group" ⟨[a, b], []⟩ := by
  unfold argsOk; rw [signature?_of (id := "re.Match.group") (n := ['p', 'u', 'o', 'r', 'g']) (o := ['h', 'c', 't', 'a', 'M', '.', 'e', 'r']) (by kernel_rfl) owner_match]; kernel_rfl
end Mine
end
section
open PySem PySem.W PyProof.Rows PySem.Spec PySem.Calls
open PySem.Builtin PySem.Builtin.Re
set_option Elab.async false
set_option maxRecDepth 100000
namespace Mine
theorem runFor_done (n : Nat) (m : Sre.M) (h : m.outcome.isSome = true) : m.runFor n = m := by
  cases n with
  | zero => rfl
  | succ n => simp only [Sre.M.runFor, h, if_true]
theorem runFor_add (a b : Nat) : ∀ m : Sre.M, m.runFor (a + b) = (m.runFor a).runFor b := by
  induction a with
  | zero => intro m; rw [Nat.zero_add]; rfl
  | succ a ih =>
    intro m
    rw [Nat.succ_add]
    by_cases h : m.outcome.isSome = true
    · rw [runFor_done _ _ h, runFor_done _ _ h, runFor_done _ _ h]
    · simp only [Sre.M.runFor, h]
      exact ih _
theorem drive_run {M : Model} {A : Around} {E : Value → Shared → Prop} {s : Shared} (n : Nat) : ∀ (k : Nat) (m : Sre.M) {Q : Sre.M → Shared → Prop}, (m.runFor (4 * k)).outcome.isSome = true → Q (m.runFor (4 * k)) s → wpAny M A (reDrive (n + 1 + k) m) Q E s := by
  intro k
  induction k with
  | zero =>
    intro m Q h hq
    have hm : m.runFor reTurnSteps = m := runFor_done _ _ h
    show wpAny M A (reDrive (n + 1) m) Q E s
    unfold reDrive
    simp only [hm]
    have h' : m.outcome.isSome = true := h
    rw [if_pos h']
    exact wpAny_pure hq
  | succ k ih =>
    intro m Q h hq
    have e : m.runFor (4 * (k + 1)) = (m.runFor 4).runFor (4 * k) := by rw [Nat.mul_succ, Nat.add_comm, runFor_add]
    rw [e] at h hq
    show wpAny M A (reDrive (n + 1 + k + 1) m) Q E s
    unfold reDrive
    show wpAny M A (if (m.runFor 4).outcome.isSome = true then pure (m.runFor 4) else do rule "sre.turn"; reDrive (n + 1 + k) (m.runFor 4)) Q E s
    by_cases h4 : (m.runFor 4).outcome.isSome = true
    · rw [if_pos h4]
      rw [runFor_done _ _ h4] at hq
      exact wpAny_pure hq
    · rw [if_neg h4]
      exact wpAny_bind (wpAny_rule (ih _ h hq))
theorem rules_skip {M : Model} {A : Around} {E : Value → Shared → Prop} {s : Shared} {Q : PUnit → Shared → Prop} (c : Nat → Bool) (f : Nat → String) (h : Q () s) : ∀ l : List Nat, wpAny M A (forIn l PUnit.unit fun i _ => if c i = true then do rule (f i); pure (ForInStep.yield PUnit.unit) else pure (ForInStep.yield PUnit.unit)) Q E s := by
  intro l
  induction l with
  | nil => exact wpAny_pure h
  | cons i l ih =>
    rw [List.forIn_cons]
    refine wpAny_bind ?_
    by_cases hc : c i = true
    · rw [if_pos hc]
      exact wpAny_bind (wpAny_rule (wpAny_pure ih))
    · rw [if_neg hc]
      exact wpAny_pure ih
theorem run_matched {M : Model} {A : Around} {E : Value → Shared → Prop} {s : Shared} {Q : Option Sre.M → Shared → Prop} (k : Nat) (hk : k < 2 ^ 64) (m : Sre.M) (h : (m.runFor (4 * k)).outcome = some .matched) (hq : Q (some (m.runFor (4 * k))) s) : wpAny M A (reRunToEnd m) Q E s := by
  unfold reRunToEnd
  refine wpAny_bind ?_
  have e : 2 ^ 64 = (2 ^ 64 - 1 - k) + 1 + k := by omega
  rw [e]
  refine drive_run _ k m (by rw [h]; rfl) ?_
  refine wpAny_bind (rules_skip _ _ ?_ _)
  rw [h]
  exact wpAny_pure hq
/-- what the machine tells of three groups -/
def spanAt (m : Sre.M) (g : Nat) : Int × Int :=
  match if ((2 * g + 1 : Nat) : Int) ≤ m.lastmark then (m.marks.getD (2 * g) none, m.marks.getD (2 * g + 1) none) else (none, none) with
  | (some b, some e) => (b, e)
  | _ => (-1, -1)
def spanBad (m : Sre.M) : Bool := (List.range 3).any fun g => match m.marks.getD (2 * g) none, m.marks.getD (2 * g + 1) none with | some b, some e => ((2 * g + 1 : Nat) : Int) ≤ m.lastmark && e < b | _, _ => false
abbrev raw (i : Int) : Value := .int i 0
def spansOf (m : Sre.M) : List Int := [m.start, m.handed, (spanAt m 0).1, (spanAt m 0).2, (spanAt m 1).1, (spanAt m 1).2, (spanAt m 2).1, (spanAt m 2).2]
abbrev tupObj (l : List Int) : Obj := { cls := .type "tuple", data := .seq (l.map raw).toArray }
abbrev matchObj (x p : Value) (pos lim : Nat) (li : Int) (T : Addr) : Obj := { cls := .type "re.Match", data := .fields #[x, p, raw pos, raw lim, raw li, .ref T] }
def spansL (m : Sre.M) : List Value := (List.range 3).flatMap fun g =>
  match if ((2 * g + 1 : Nat) : Int) ≤ m.lastmark then (m.marks.getD (2 * g) none, m.marks.getD (2 * g + 1) none) else (none, none) with
  | (some b, some e) => [rawInt b, rawInt e]
  | _ => [rawInt (-1), rawInt (-1)]
theorem spansL_eq (m : Sre.M) : spansL m = [raw (spanAt m 0).1, raw (spanAt m 0).2, raw (spanAt m 1).1, raw (spanAt m 1).2, raw (spanAt m 2).1, raw (spanAt m 2).2] := by
  have e3 : List.range 3 = [0, 1, 2] := by decide
  have one : ∀ g, (match if ((2 * g + 1 : Nat) : Int) ≤ m.lastmark then (m.marks.getD (2 * g) none, m.marks.getD (2 * g + 1) none) else (none, none) with
    | (some b, some e) => [rawInt b, rawInt e]
    | _ => [rawInt (-1), rawInt (-1)]) = [raw (spanAt m g).1, raw (spanAt m g).2] := by
    intro g
    unfold spanAt
    split <;> simp_all [rawInt]
  unfold spansL
  rw [e3]
  simp only [List.flatMap_cons, List.flatMap_nil, one]
  rfl
theorem new_match {M : Model} {A : Around} {E : Value → Shared → Prop} {s : Shared} {Q : Value → Shared → Prop} (p x : Value) (pos lim : Nat) (m : Sre.M) (hb : spanBad m = false)
    (h : Q (.ref (s.heap.objs.size + 1)) { s with heap := (s.heap.push (tupObj (spansOf m))).push (matchObj x p pos lim m.lastindex s.heap.objs.size) }) : wpAny M A (reNewMatch p x 3 pos lim m) Q E s := by
  have key : wpAny M A (newTuple (rawInt m.start :: rawInt m.handed :: spansL m) >>= fun t => newFields "re.Match" [x, p, rawInt pos, rawInt lim, rawInt m.lastindex, t]) Q E s := by
    rw [spansL_eq]
    refine wpAny_bind (wpAny_newTuple ?_ (Nat.le_of_ble_eq_true rfl))
    refine wpAny_newObj_type (T := "re.Match") ?_
    have e : (s.heap.push (tupObj (spansOf m))).objs.size = s.heap.objs.size + 1 := by simp [Heap.push]
    show Q (.ref (s.heap.push (tupObj (spansOf m))).objs.size) _
    rw [e]
    exact h
  unfold reNewMatch
  show wpAny M A (if spanBad m = true then _ else (newTuple (rawInt m.start :: rawInt m.handed :: spansL m) >>= fun t => newFields "re.Match" [x, p, rawInt pos, rawInt lim, rawInt m.lastindex, t])) Q E s
  rw [hb]
  exact key
end Mine
end
section
open PySem
set_option Elab.async false
set_option maxRecDepth 100000
namespace Mine
open PySem.Sre
/-- the same machine over another text -/
def ov (c y : Array Nat) (m : Sre.M) : Sre.M := { m with code := c, text := y }
def isFew : Option Sre.Op → Bool
  | none | some .FAILURE | some .SUCCESS | some .ANY | some .ANY_ALL | some .ASSERT | some .ASSERT_NOT | some .AT | some .CATEGORY | some .CHARSET | some .IN | some .INFO | some .LITERAL | some .MARK | some .MAX_UNTIL | some .REPEAT | some .REPEAT_ONE => true
  | _ => false
structure Fits (code x y : Array Nat) : Prop where
  acc : ∀ i p seen, accepts code i (x.getD p 0) seen = accepts code i (y.getD p 0) seen
  at' : ∀ i : Nat, ops[code.getD i 0]? = some .AT → ∀ (m : Sre.M), m.code = code → m.text = x → (ov m.code y m).isAt (code.getD (i + 1) 0) = m.isAt (code.getD (i + 1) 0)
  few : ∀ i, isFew (ops[code.getD i 0]?) = true
  first : (code.getD 2 0 == 4) = false
theorem run_ov {code x y : Array Nat} (h : Fits code x y) : ∀ (n i p found : Nat) (seen : Seen), run code x i n p found seen = run code y i n p found seen := by
  intro n
  induction n with
  | zero => intros; rfl
  | succ n ih =>
    intro i p found seen
    show (do let (yes, seen) ← accepts code i (x.getD p 0) seen; if yes then run code x i n (p + 1) (found + 1) seen else pure (found, seen) : Except String (Nat × Seen)) = _
    rw [h.acc]
    simp only [ih]
    rfl
section
variable {y : Array Nat} {m : Sre.M}
theorem say_ov (b : Bool) : (ov m.code y m).say b = ov m.code y (m.say b) := rfl
theorem stick_ov (w : String) : (ov m.code y m).stick w = ov m.code y (m.stick w) := rfl
theorem attempt_ov (f : Sre.Frame) (t fr : Nat) (o : Bool) : (ov m.code y m).attempt f t fr o = ov m.code y (m.attempt f t fr o) := by
  unfold Sre.M.attempt
  show (if m.weight + 1 + f.kept.marks.size > 16777216 then _ else _) = _
  split <;> rfl
theorem putBack_ov (k : Sre.Kept) : (ov m.code y m).putBack k = ov m.code y (m.putBack k) := rfl
theorem setLoop_ov (i : Nat) (f : Sre.Loop → Sre.Loop) : (ov m.code y m).setLoop i f = ov m.code y (m.setLoop i f) := rfl
theorem mark_ov (i : Nat) : (ov m.code y m).mark i = ov m.code y (m.mark i) := rfl
theorem alternative_ov (a : Nat) (k : Sre.Kept) : (ov m.code y m).alternative a k = ov m.code y (m.alternative a k) := by
  unfold Sre.M.alternative
  show (if m.code.getD a 0 == 0 then _ else _) = _
  split
  · rfl
  · exact attempt_ov _ _ _ _
theorem afterRun_ov (w : Sre.Wait) (c : Int) (k : Sre.Kept) : (ov m.code y m).afterRun w c k = ov m.code y (m.afterRun w c k) := attempt_ov _ _ _ _
theorem afterLoop_ov (w : Sre.Wait) (i : Nat) (c : Int) (wh : Option Nat → Bool) : (ov m.code y m).afterLoop w i c wh = ov m.code y (m.afterLoop w i c wh) := attempt_ov (m := { m with inner := (m.loopAt i).outer }) _ _ _ _
theorem ov_code : (ov m.code y m).code = m.code := rfl
theorem ov_lim : (ov m.code y m).lim = m.lim := rfl
theorem ov_start : (ov m.code y m).start = m.start := rfl
theorem ov_lastStart : (ov m.code y m).lastStart = m.lastStart := rfl
theorem ov_wholeText : (ov m.code y m).wholeText = m.wholeText := rfl
theorem ov_mustAdvance : (ov m.code y m).mustAdvance = m.mustAdvance := rfl
theorem ov_pc : (ov m.code y m).pc = m.pc := rfl
theorem ov_pos : (ov m.code y m).pos = m.pos := rfl
theorem ov_handed : (ov m.code y m).handed = m.handed := rfl
theorem ov_outermost : (ov m.code y m).outermost = m.outermost := rfl
theorem ov_marks : (ov m.code y m).marks = m.marks := rfl
theorem ov_lastmark : (ov m.code y m).lastmark = m.lastmark := rfl
theorem ov_lastindex : (ov m.code y m).lastindex = m.lastindex := rfl
theorem ov_loops : (ov m.code y m).loops = m.loops := rfl
theorem ov_inner : (ov m.code y m).inner = m.inner := rfl
theorem ov_frames : (ov m.code y m).frames = m.frames := rfl
theorem ov_weight : (ov m.code y m).weight = m.weight := rfl
theorem ov_answer : (ov m.code y m).answer = m.answer := rfl
theorem ov_seen : (ov m.code y m).seen = m.seen := rfl
theorem ov_outcome : (ov m.code y m).outcome = m.outcome := rfl
theorem ov_loopAt (i : Nat) : (ov m.code y m).loopAt i = m.loopAt i := rfl
theorem ov_word (i : Nat) : (ov m.code y m).word i = m.word i := rfl
theorem ov_keep (w : Bool) : (ov m.code y m).keep w = m.keep w := rfl
theorem ov_frame (w : Sre.Wait) : (ov m.code y m).frame w = m.frame w := rfl
theorem ov_group (g : Nat) : (ov m.code y m).group? g = m.group? g := rfl
theorem ov_first : (ov m.code y m).hasFirstSet = m.hasFirstSet := rfl
theorem ite_ov {d : Array Nat} {c : Prop} [Decidable c] {a b a' b' : Sre.M} (h1 : c → a = ov d y a') (h2 : ¬ c → b = ov d y b') : (if c then a else b) = ov d y (if c then a' else b') := by
  by_cases h : c
  · rw [if_pos h, if_pos h]; exact h1 h
  · rw [if_neg h, if_neg h]; exact h2 h
theorem round_ov (w : Sre.Wait) (i : Nat) (c : Int) (g : Bool) (k : Sre.Kept) : (ov m.code y m).round w i c g k = ov m.code y (m.round w i c g k) := by
  unfold Sre.M.round
  simp only [ov_loopAt, setLoop_ov]
  exact attempt_ov _ _ _ _
theorem until_ov (g : Bool) : (ov m.code y m).until_ g = ov m.code y (m.until_ g) := by
  unfold Sre.M.until_
  simp only [ov_inner]
  cases m.inner with
  | none => rfl
  | some i =>
    simp only [ov_loopAt, ov_code, ov_pos, ov_keep, round_ov, afterLoop_ov, ← apply_ite (ov m.code y)]
    rfl
theorem possessive_ov (i : Nat) (c : Int) (b : Option Nat) : (ov m.code y m).possessive i c b = ov m.code y (m.possessive i c b) := by
  unfold Sre.M.possessive
  simp only [ov_word]
  refine ite_ov (fun _ => ?_) fun _ => ite_ov (fun _ => ?_) fun _ => ?_
  · exact attempt_ov _ _ _ _
  · exact attempt_ov _ _ _ _
  · rfl
theorem attemptAt_ov (a : Nat) (f : Bool) : (ov m.code y m).attemptAt a f = ov m.code y (m.attemptAt a f) := attempt_ov (m := { m with start := a, pos := a, lastmark := -1, lastindex := -1 }) _ _ _ _
end
section
variable {x y : Array Nat} {m : Sre.M}
theorem noFirst (h : (m.code.getD 2 0 == 4) = false) : m.hasFirstSet = false := by
  unfold Sre.M.hasFirstSet
  rw [h, Bool.and_false]
theorem attemptFrom_ov (h : (m.code.getD 2 0 == 4) = false) (a : Nat) (f : Bool) : (ov m.code y m).attemptFrom a f = ov m.code y (m.attemptFrom a f) := by
  unfold Sre.M.attemptFrom
  simp only [ov_first, noFirst h, Bool.not_false, if_true]
  exact attemptAt_ov _ _
def oneR (m : Sre.M) : Except String (Bool × Seen) → Sre.M
  | .error why => m.stick why
  | .ok (false, seen) => { m with seen }.say false
  | .ok (true, seen) => { m with seen, pc := m.pc + itemWidth m.code m.pc, pos := m.pos + 1 }
theorem oneR_ov (r : Except String (Bool × Seen)) : oneR (ov m.code y m) r = ov m.code y (oneR m r) := by
  cases r with
  | error w => rfl
  | ok p =>
    obtain ⟨b, sn⟩ := p
    cases b <;> rfl
theorem one_ov (h : Fits m.code m.text y) : (if m.pos ≥ m.lim then (ov m.code y m).say false else oneR (ov m.code y m) (accepts m.code m.pc (y.getD m.pos 0) m.seen)) =
    ov m.code y (if m.pos ≥ m.lim then m.say false else oneR m (accepts m.code m.pc (m.text.getD m.pos 0) m.seen)) := by
  refine ite_ov (fun _ => rfl) fun _ => ?_
  rw [h.acc]
  exact oneR_ov _
def atR (m : Sre.M) (k : Nat) : Except String Bool → Sre.M
  | .error why => m.stick why
  | .ok yes => let m := { m with seen := m.seen.add (43 + k) }; if yes then { m with pc := m.pc + 2 } else m.say false
theorem atR_ov (k : Nat) (r : Except String Bool) : atR (ov m.code y m) k r = ov m.code y (atR m k r) := by
  cases r with
  | error w => rfl
  | ok b => cases b <;> rfl
def repR (m : Sre.M) (least : Nat) : Except String (Nat × Seen) → Sre.M
  | .error why => m.stick why
  | .ok (n, seen) =>
    let m := { m with seen }
    if n < least then m.say false else
    let m := { m with pos := m.pos + n }
    m.afterRun .giveBack n (m.keep m.inner.isSome)
theorem repR_ov (k : Nat) (r : Except String (Nat × Seen)) : repR (ov m.code y m) k r = ov m.code y (repR m k r) := by
  cases r with
  | error w => rfl
  | ok p =>
    obtain ⟨n, sn⟩ := p
    exact ite_ov (fun _ => rfl) fun _ => afterRun_ov (m := { m with seen := sn, pos := m.pos + n }) _ _ _
theorem exec_ov (h : Fits m.code m.text y) : (ov m.code y m).exec = ov m.code y m.exec := by
  have hr : isFew (ops[m.word 0]?) = true := h.few m.pc
  unfold Sre.M.exec
  simp only [ov_word, ov_lim, ov_pos, ov_seen]
  cases hop : ops[m.word 0]? with
  | none => rfl
  | some op =>
    rw [hop] at hr
    have ha := h.at' m.pc
    have e1 : m.code.getD m.pc 0 = m.word 0 := rfl
    rw [e1, hop] at ha
    cases op
    case FAILURE => rfl
    case SUCCESS => exact ite_ov (fun _ => rfl) fun _ => rfl
    case ANY => dsimp only; exact one_ov (m := { m with seen := m.seen.add (m.word 0) }) h
    case ANY_ALL => dsimp only; exact one_ov (m := { m with seen := m.seen.add (m.word 0) }) h
    case LITERAL => dsimp only; exact one_ov (m := { m with seen := m.seen.add (m.word 0) }) h
    case IN => dsimp only; exact one_ov (m := { m with seen := m.seen.add (m.word 0) }) h
    case AT =>
      dsimp only
      have e := ha rfl { m with seen := m.seen.add (m.word 0) } rfl rfl
      have e2 := atR_ov (y := y) (m := { m with seen := m.seen.add (m.word 0) }) (m.word 1) (({ m with seen := m.seen.add (m.word 0) } : Sre.M).isAt (m.word 1))
      refine Eq.trans ?_ e2
      have e3 : (ov m.code y { m with seen := m.seen.add (m.word 0) }).isAt (m.word 1) = ({ m with seen := m.seen.add (m.word 0) } : Sre.M).isAt (m.word 1) := e
      rw [← e3]
      rfl
    case JUMP => exact absurd hr (by decide)
    case INFO => rfl
    case MARK => exact mark_ov (m := { m with seen := m.seen.add (m.word 0) }) _
    case MAX_UNTIL => exact until_ov (m := { m with seen := m.seen.add (m.word 0), pc := m.pc + 1 }) _
    case REPEAT =>
      dsimp only
      exact attempt_ov (m := { m with seen := m.seen.add (m.word 0), loops := m.loops.push { pc := m.pc, outer := m.inner }, inner := some m.loops.size }) _ _ _ _
    case REPEAT_ONE =>
      dsimp only
      refine ite_ov (fun _ => rfl) fun _ => ?_
      exact Eq.trans (congrArg (repR (ov m.code y { m with seen := m.seen.add (m.word 0) }) (m.word 2)) (run_ov h _ _ _ _ _).symm) (repR_ov (y := y) (m := { m with seen := m.seen.add (m.word 0) }) _ _)
    case CATEGORY => rfl
    case CHARSET => rfl
    case ASSERT =>
      dsimp only
      refine ite_ov (fun _ => ite_ov (fun _ => rfl) fun _ => rfl) fun _ => ?_
      exact attempt_ov (m := { m with seen := m.seen.add (m.word 0) }) _ _ _ _
    case ASSERT_NOT =>
      dsimp only
      refine ite_ov (fun _ => ite_ov (fun _ => rfl) fun _ => rfl) fun _ => ?_
      exact attempt_ov (m := { m with seen := m.seen.add (m.word 0) }) _ _ _ _
    all_goals exact absurd hr (by decide)
def takeR (m : Sre.M) (f : Sre.Frame) : Except String (Bool × Seen) → Sre.M
  | .error why => m.stick why
  | .ok (false, seen) => { m.putBack f.kept with seen }.say false
  | .ok (true, seen) => { m.putBack f.kept with seen, pos := f.pos + 1 }.afterRun .takeMore (f.count + 1) f.kept
theorem takeR_ov (f : Sre.Frame) (r : Except String (Bool × Seen)) : takeR (ov m.code y m) f r = ov m.code y (takeR m f r) := by
  cases r with
  | error w => rfl
  | ok p =>
    obtain ⟨b, sn⟩ := p
    cases b
    · rfl
    · exact afterRun_ov (m := { m.putBack f.kept with seen := sn, pos := f.pos + 1 }) _ _ _
theorem resume_ov (h : Fits m.code m.text y) (f : Sre.Frame) (b : Bool) : (ov m.code y m).resume f b = ov m.code y (m.resume f b) := by
  unfold Sre.M.resume
  cases f.wait
  all_goals dsimp only
  case nextStart =>
    refine ite_ov (fun _ => rfl) fun _ => ite_ov (fun _ => ?_) fun _ => rfl
    exact attemptFrom_ov (m := { m with mustAdvance := false }) h.first _ _
  case nextBranch =>
    refine ite_ov (fun _ => rfl) fun _ => ?_
    exact alternative_ov (m := m.putBack f.kept) _ _
  case giveBack =>
    refine ite_ov (fun _ => rfl) fun _ => ite_ov (fun _ => rfl) fun _ => ?_
    exact afterRun_ov (m := { m.putBack f.kept with pos := f.pos - 1 }) _ _ _
  case takeMore =>
    refine ite_ov (fun _ => rfl) fun _ => ite_ov (fun _ => rfl) fun _ => ite_ov (fun _ => rfl) fun _ => ?_
    exact Eq.trans (congrArg (takeR (ov m.code y m) f) (h.acc _ _ _).symm) (takeR_ov _ _)
  case closeLoop => rfl
  case maxBelow => exact ite_ov (fun _ => rfl) fun _ => rfl
  case minBelow => exact ite_ov (fun _ => rfl) fun _ => rfl
  case maxMore =>
    refine ite_ov (fun _ => rfl) fun _ => ?_
    exact afterLoop_ov (m := ((m.setLoop f.loop fun l => { l with began := f.began }).putBack f.kept).setLoop f.loop fun l => { l with count := f.count - 1 }) _ _ _ _
  case maxTail => rfl
  case minTail =>
    refine ite_ov (fun _ => rfl) fun _ => ite_ov (fun _ => rfl) fun _ => ?_
    exact round_ov (m := ({ m with inner := some f.loop } : Sre.M).putBack f.kept) _ _ _ _ _
  case minMore => exact ite_ov (fun _ => rfl) fun _ => rfl
  case possBelow =>
    refine ite_ov (fun _ => ?_) fun _ => rfl
    exact possessive_ov _ _ _
  case possMore =>
    refine ite_ov (fun _ => ?_) fun _ => ?_
    · exact possessive_ov _ _ _
    · exact possessive_ov (m := { m.putBack f.kept with handed := f.pos }) _ _ _
  case atomic => exact ite_ov (fun _ => rfl) fun _ => rfl
  case look => exact ite_ov (fun _ => rfl) fun _ => rfl
  case lookNot => exact ite_ov (fun _ => rfl) fun _ => rfl
theorem step_ov (h : Fits m.code m.text y) : (ov m.code y m).step = ov m.code y m.step := by
  unfold Sre.M.step
  simp only [ov_outcome, ov_answer, ov_frames, ov_pc, ov_code]
  refine ite_ov (fun _ => rfl) fun _ => ?_
  cases m.answer with
  | none => exact ite_ov (fun _ => exec_ov h) fun _ => rfl
  | some b =>
    cases m.frames with
    | nil => rfl
    | cons f r => exact resume_ov (m := { m with answer := none, frames := r, weight := m.weight - (1 + f.kept.marks.size), pc := f.pc, pos := f.pos, outermost := f.outermost }) h f b
theorem Fits.self (h : Fits m.code m.text y) : Fits m.code m.text m.text := ⟨fun _ _ _ => rfl, fun _ _ k e1 e2 => by rw [← e2]; rfl, h.few, h.first⟩
theorem step_keeps (h : Fits m.code m.text y) : m.step.code = m.code ∧ m.step.text = m.text := by
  have e : m.step = ov m.code m.text m.step := step_ov h.self
  constructor
  · rw [e]; rfl
  · rw [e]; rfl
theorem runFor_ov (n : Nat) : ∀ {m : Sre.M}, Fits m.code m.text y → (ov m.code y m).runFor n = ov m.code y (m.runFor n) := by
  induction n with
  | zero => intro m _; rfl
  | succ n ih =>
    intro m h
    show (if m.outcome.isSome = true then ov m.code y m else (ov m.code y m).step.runFor n) = ov m.code y (if m.outcome.isSome = true then m else m.step.runFor n)
    refine ite_ov (fun _ => rfl) fun _ => ?_
    obtain ⟨e1, e2⟩ := step_keeps h
    rw [step_ov h]
    have := ih (m := m.step) (by rw [e1, e2]; exact h)
    rw [e1] at this
    exact this
theorem attemptFrom_ov' {code : Array Nat} (e : m.code = code) (h : (code.getD 2 0 == 4) = false) (m' : Sre.M) (e' : m' = ov code y m) (a : Nat) (f : Bool) : m'.attemptFrom a f = ov code y (m.attemptFrom a f) := by
  subst e
  subst e'
  exact attemptFrom_ov h _ _
theorem search_ov {code : Array Nat} (h : Fits code x y) (lim : Nat) : Sre.forSearch code y 3 0 lim false = ov code y (Sre.forSearch code x 3 0 lim false) := by
  unfold Sre.forSearch
  refine ite_ov (fun _ => rfl) fun _ => ?_
  refine attemptFrom_ov' (code := code) ?_ h.first _ ?_ _ _ <;> rfl
end
end Mine
end
section
open PySem PySem.W PyProof.Rows PySem.Spec PySem.Calls
open PySem.Builtin PySem.Builtin.Re
set_option Elab.async false
set_option maxRecDepth 100000
namespace Mine
def zmach (code text : Array Nat) (lim : Nat) : Sre.M := (Sre.forSearch code text 3 0 lim false).runFor (4 * 40)
def zres (m : Sre.M) : Option (List Int) := match m.outcome with
  | some .matched => if spanBad m then none else some (spansOf m)
  | _ => none
def zrun (code text : Array Nat) (lim : Nat) : Option (List Int) := zres (zmach code text lim)
theorem zres_of {m : Sre.M} {l : List Int} (h : zres m = some l) : m.outcome = some .matched ∧ spanBad m = false ∧ spansOf m = l := by
  unfold zres at h
  split at h
  · rename_i e
    cases hb : spanBad m with
    | true => rw [hb] at h; cases h
    | false => rw [hb] at h; exact ⟨e, rfl, Option.some.inj h⟩
  · cases h
theorem drive_search {M : Model} {A : Around} {E : Value → Shared → Prop} {s : Shared} {Q : Fin → Shared → Prop} (t : ReTarget) (ht : t.groups = 3) (hp : t.pos = 0) {l : List Int} (h : zrun t.code t.text t.lim = some l)
    (hq : ∀ li, Q (.done (.ret (.ref (s.heap.objs.size + 1)))) { s with heap := (s.heap.push (tupObj l)).push (matchObj t.string t.pattern 0 t.lim li s.heap.objs.size) }) :
    wpAny M A (reAnswer t (Sre.forSearch t.code t.text t.groups t.pos t.lim false)) Q E s := by
  obtain ⟨h1, h2, h3⟩ := zres_of h
  unfold reAnswer
  rw [ht, hp]
  refine wpAny_bind (run_matched 40 (by decide) _ h1 ?_)
  refine wpAny_bind (new_match _ _ _ _ _ h2 ?_)
  have h3' : spansOf (Sre.M.runFor (4 * 40) (Sre.forSearch t.code t.text 3 0 t.lim false)) = l := h3
  rw [h3']
  exact wpAny_pure (hq _)
theorem search_meets (P C : Addr) (x : Str) (t : Tok) (pt : Value) (fl : Value) (t1 t2 : Tok) (items : Array Value) (n : Nat) (code : Array Nat) (hcode : (items.map reRawOf).map (·.toNat) = code) (hx : x.cps.size < 2 ^ 62) {l : List Int} (h : zrun code x.cps x.cps.size = some l) :
    Meets («re.Pattern.search» ⟨[.ref P, .str x t], []⟩) (fun _ R s => s.heap.get? P = some { cls := .type "re.Pattern", data := .fields #[pt, fl, .int 3 t1, .none, .none, .ref C, .int 0 t2] } ∧ s.heap.get? C = some { cls := .type "tuple", data := .seq items n } ∧
      ∀ li, R (.ok (.ret (.ref (s.heap.objs.size + 1)))) { s with heap := (s.heap.push (tupObj l)).push (matchObj (.str x t) (.ref P) 0 x.cps.size li s.heap.objs.size) }) := by
  intro prog w A R s hs
  obtain ⟨hP, hC, hR⟩ := hs
  unfold «re.Pattern.search»
  refine wpAny_bind ?_
  have hn : reNamed "re.Pattern.search" "search" ["string", "pos", "endpos"] 1 [.str x t] [] = pure [some (.str x t), none, none] := rfl
  unfold reTarget
  refine wpAny_bind (wpAny_of_eq hn ?_)
  refine wpAny_bind (wpAny_pure ?_)
  refine wpAny_bind (wpAny_pure ?_)
  refine wpAny_bind (wpAny_fieldsOf hP rfl ?_)
  refine wpAny_bind (wpAny_of_eq (a := (x.cps, 0)) rfl ?_)
  have hnc : reNoCollectionInside (.str x t) 0 = pure () := rfl
  show wpAny (model prog w) A.in1 (reNoCollectionInside (.str x t) 0 >>= fun _ => (reRawItems (.ref C) >>= fun ws => pure ({ pattern := .ref P, string := .str x t, code := ws.map (·.toNat), text := x.cps, kind := 0, groups := 3, pos := min (0 : Int).toNat x.cps.size, lim := min (2 ^ 63 - 1 : Int).toNat x.cps.size } : ReTarget))) _ _ s
  refine wpAny_bind (wpAny_of_eq hnc ?_)
  refine wpAny_bind ?_
  unfold reRawItems
  refine wpAny_bind (wpAny_seqItems hC rfl (wpAny_pure (wpAny_pure ?_)))
  have hl : min (2 ^ 63 - 1 : Int).toNat x.cps.size = x.cps.size := by
    have : (2 ^ 63 - 1 : Int).toNat = 2 ^ 63 - 1 := by decide
    rw [this]; omega
  refine drive_search _ rfl rfl (l := l) ?_ fun li => ?_
  · show zrun ((items.map reRawOf).map (·.toNat)) x.cps (min (2 ^ 63 - 1 : Int).toNat x.cps.size) = some l
    rw [hl, hcode]; exact h
  · have := hR li
    show R (.ok (.ret _)) _
    show R _ { s with heap := (s.heap.push (tupObj l)).push (matchObj (.str x t) (.ref P) 0 (min (2 ^ 63 - 1 : Int).toNat x.cps.size) li s.heap.objs.size) }
    rw [hl]; exact this
section
variable {prog : Program} {w : World} {A : Around} {E : Value → Shared → Prop} {s : Shared} {K : Frag} {h₀ : Heap} {L : Addr} {m : Str → Option Value} {news : List (Addr × Obj)}
theorem call_search {P C : Addr} {x : Str} {t : Tok} {pt fl : Value} {t1 t2 : Tok} {items : Array Value} {n : Nat} {code : Array Nat} {Q : Value → Shared → Prop} {l : List Int}
    (F : Fr h₀ L s.heap m) (X : K.In h₀) (N : News h₀ L s.heap news) (hP : K.lookup P = some ⟨.type "re.Pattern", none, .fields #[pt, fl, .int 3 t1, .none, .none, .ref C, .int 0 t2], #[]⟩) (hC : K.lookup C = some ⟨.type "tuple", none, .seq items n, #[]⟩)
    (hcode : (items.map reRawOf).map (·.toNat) = code) (hx : x.cps.size < 2 ^ 62) (h : zrun code x.cps x.cps.size = some l)
    (hq : ∀ T D li h', Fr h₀ L h' m → News h₀ L h' ((D, matchObj (.str x t) (.ref P) 0 x.cps.size li T) :: (T, tupObj l) :: news) → T < D → (∀ p ∈ news, p.1 < T) → Q (.ref D) { s with heap := h' }) :
    wpAny (model prog w) A (call (.builtin "re.Pattern.search") [.ref P, .str x t]) Q E s := by
  have X' := X.keeps F.keep
  refine call_meets slot_search ⟨_, X' _ _ hP, rfl⟩ entry_search (args_search _ _) (search_meets P C x t pt fl t1 t2 items n code hcode hx h) ⟨X' _ _ hP, X' _ _ hC, fun li => ?_⟩
  have F1 := F.push (tupObj l)
  have N1 := N.push F (tupObj l)
  have e : (s.heap.push (tupObj l)).objs.size = s.heap.objs.size + 1 := by simp [Heap.push]
  have N2 := N1.push F1 (matchObj (.str x t) (.ref P) 0 x.cps.size li s.heap.objs.size)
  rw [e] at N2
  exact hq _ _ li _ (F1.push _) N2 (Nat.lt_succ_self _) fun p hp => Heap.lt_size (N p hp).1
theorem get_search {P : Addr} {data : Data} {pl : Sem Bool} {Q : Value × List Value → Shared → Prop} (F : Fr h₀ L s.heap m) (X : K.In h₀) (hP : K.lookup P = some ⟨.type "re.Pattern", none, data, #[]⟩) (h : Q (.builtin "re.Pattern.search", [.ref P]) s) :
    wpAny (model prog w) A (getMethod (.ref P) "search" pl) Q E s :=
  have X' := X.keeps F.keep
  getMethod_builtin ⟨_, X' _ _ hP, rfl⟩ attrs_pat slot_search type_search (fun a e => by cases e; exact ⟨_, X' _ _ hP, rfl⟩) h
theorem get_group {D T : Addr} {x p : Value} {pos lim : Nat} {li : Int} {pl : Sem Bool} {Q : Value × List Value → Shared → Prop} (N : News h₀ L s.heap news) (hD : (D, matchObj x p pos lim li T) ∈ news) (h : Q (.builtin "re.Match.group", [.ref D]) s) :
    wpAny (model prog w) A (getMethod (.ref D) "group" pl) Q E s :=
  getMethod_builtin ⟨_, (N _ hD).1, rfl⟩ attrs_match slot_group type_group (fun a e => by cases e; exact ⟨_, (N _ hD).1, rfl⟩) h
end
end Mine
end
section
open PySem PySem.W PyProof.Rows PySem.Spec PySem.Calls
open PySem.Builtin PySem.Builtin.Re
set_option Elab.async false
set_option maxRecDepth 100000
namespace Mine
def grp (x : Str) (b e : Int) : Option Str := if (decide (b < 0) || decide (e < 0)) = true then none else some ⟨x.cps.extract b.toNat e.toNat⟩
theorem group_meets (D T : Addr) (x : Str) (t : Tok) (p : Value) (pos lim : Nat) (li : Int) (l : List Int) (k : Nat) (u : Tok) (b e : Int) (hb : l[2 * k]? = some b) (he : l[2 * k + 1]? = some e) (hx : x.cps.size ≤ 1000) :
    Meets («re.Match.group» ⟨[.ref D, .int (k : Int) u], []⟩) (fun _ R s => s.heap.get? D = some (matchObj (.str x t) p pos lim li T) ∧ s.heap.get? T = some (tupObj l) ∧
      (match grp x b e with | none => R (.ok (.ret .none)) s | some y => R (.ok (.ret (.str y s.toks))) { s with toks := s.toks + 1 })) := by
  intro prog w A R s hs
  obtain ⟨hD, hT, hR⟩ := hs
  unfold «re.Match.group»
  have hn : noKeywords "Match.group" ⟨[.ref D, .int (k : Int) u], []⟩ = pure () := rfl
  refine wpAny_bind (wpAny_of_eq hn ?_)
  show wpAny (model prog w) A.in1 (reFound (.ref D) >>= fun x => reGroupNumber x (.int k u) >>= fun g => reGroupText x g .none >>= ret) _ _ s
  have hsp : ((l.map raw).toArray).map reRawOf = l.toArray := by
    apply Array.ext'
    simp only [Array.toList_map, List.map_map]
    have : (reRawOf ∘ raw) = fun i => i := by funext i; rfl
    rw [this]; simp
  have hk : 2 * k + 1 < l.length := by
    rcases Nat.lt_or_ge (2 * k + 1) l.length with h | h
    · exact h
    · rw [List.getElem?_eq_none h] at he; cases he
  refine wpAny_bind ?_
  unfold reFound
  refine wpAny_bind (wpAny_fieldsOf hD rfl ?_)
  refine wpAny_bind ?_
  unfold reRawItems
  refine wpAny_bind (wpAny_seqItems hT rfl (wpAny_pure ?_))
  show wpAny (model prog w) A.in1 (pure ({ fields := #[.str x t, p, raw pos, raw lim, raw li, .ref T], spans := ((l.map raw).toArray).map reRawOf } : ReFound)) _ _ s
  rw [hsp]
  refine wpAny_pure ?_
  refine wpAny_bind ?_
  unfold reGroupNumber
  refine wpAny_bind (wpAny_of_eq (a := some (k : Int)) rfl ?_)
  show wpAny (model prog w) A.in1 (asIndex (.int (k : Int) u) >>= fun i => if (decide (i < 0) || decide (2 * i ≥ (l.toArray.size : Nat))) = true then _ else pure i.toNat) _ _ s
  refine wpAny_bind (wpAny_of_eq (a := (k : Int)) rfl ?_)
  show wpAny (model prog w) A.in1 (if (decide ((k : Int) < 0) || decide (2 * (k : Int) ≥ (l.toArray.size : Nat))) = true then _ else pure (k : Int).toNat) _ _ s
  rw [if_neg (by simp; omega)]
  refine wpAny_pure ?_
  refine wpAny_bind ?_
  unfold reGroupText
  have e1 : l.toArray.getD (2 * (k : Int).toNat) (-1) = b := by
    have : (k : Int).toNat = k := rfl
    rw [this]
    simp [hb]
  have e2 : l.toArray.getD (2 * (k : Int).toNat + 1) (-1) = e := by
    have : (k : Int).toNat = k := rfl
    rw [this]
    simp [he]
  show wpAny (model prog w) A.in1 (if (decide (l.toArray.getD (2 * (k : Int).toNat) (-1) < 0) || decide (l.toArray.getD (2 * (k : Int).toNat + 1) (-1) < 0)) = true then pure .none else reTextOf (.str x t) >>= fun q => reSlice q.1 q.2 (l.toArray.getD (2 * (k : Int).toNat) (-1)).toNat (l.toArray.getD (2 * (k : Int).toNat + 1) (-1)).toNat) _ _ s
  rw [e1, e2]
  unfold grp at hR
  by_cases hc : (decide (b < 0) || decide (e < 0)) = true
  · rw [if_pos hc] at hR ⊢
    exact wpAny_pure (wpAny_pure hR)
  · rw [if_neg hc] at hR ⊢
    refine wpAny_bind (wpAny_of_eq (a := (x.cps, 0)) rfl ?_)
    show wpAny (model prog w) A.in1 (mkStr ⟨x.cps.extract b.toNat e.toNat⟩) _ _ s
    refine wpAny_mkStr (wpAny_pure hR) ?_
    show (x.cps.extract b.toNat e.toNat).size ≤ sizeLine
    have : (x.cps.extract b.toNat e.toNat).size ≤ x.cps.size := by simp; omega
    exact Nat.le_trans this (Nat.le_trans hx (by decide))
section
variable {prog : Program} {w : World} {A : Around} {E : Value → Shared → Prop} {s : Shared} {K : Frag} {h₀ : Heap} {L : Addr} {m : Str → Option Value} {news : List (Addr × Obj)}
theorem call_group_none {D T : Addr} {x : Str} {t : Tok} {p : Value} {pos lim : Nat} {li : Int} {l : List Int} {k : Nat} {g : Int} {u : Tok} {b e : Int} {Q : Value → Shared → Prop} (N : News h₀ L s.heap news := by k_asm) (hD : (D, matchObj (.str x t) p pos lim li T) ∈ news := by k_mem) (hT : (T, tupObj l) ∈ news := by k_mem)
    (hg : g = (k : Int) := by exact rfl) (hb : l[2 * k]? = some b := by exact rfl) (he : l[2 * k + 1]? = some e := by exact rfl) (hx : x.cps.size ≤ 1000 := by omega) (hv : grp x b e = none := by assumption) (h : Q .none s) : wpAny (model prog w) A (call (.builtin "re.Match.group") [.ref D, .int g u]) Q E s := by
  subst hg
  refine call_meets slot_group ⟨_, (N _ hD).1, rfl⟩ entry_group (args_group _ _) (group_meets D T x t p pos lim li l k u b e hb he hx) ⟨(N _ hD).1, (N _ hT).1, ?_⟩
  rw [hv]; exact h
theorem call_group_some {D T : Addr} {x : Str} {t : Tok} {p : Value} {pos lim : Nat} {li : Int} {l : List Int} {k : Nat} {g : Int} {u : Tok} {b e : Int} {y : Str} {Q : Value → Shared → Prop} (N : News h₀ L s.heap news := by k_asm) (hD : (D, matchObj (.str x t) p pos lim li T) ∈ news := by k_mem) (hT : (T, tupObj l) ∈ news := by k_mem)
    (hg : g = (k : Int) := by exact rfl) (hb : l[2 * k]? = some b := by exact rfl) (he : l[2 * k + 1]? = some e := by exact rfl) (hx : x.cps.size ≤ 1000 := by omega) (hv : grp x b e = some y := by assumption) (h : Q (.str y s.toks) { s with toks := s.toks + 1 }) : wpAny (model prog w) A (call (.builtin "re.Match.group") [.ref D, .int g u]) Q E s := by
  subst hg
  refine call_meets slot_group ⟨_, (N _ hD).1, rfl⟩ entry_group (args_group _ _) (group_meets D T x t p pos lim li l k u b e hb he hx) ⟨(N _ hD).1, (N _ hT).1, ?_⟩
  rw [hv]; exact h
theorem noBool_match : typeLookup (.type "re.Match") "__bool__" = pure none := by rw [typeLookup_type, builtinLookup_eq_fast]; kernel_rfl
theorem noLen_match : typeLookup (.type "re.Match") "__len__" = pure none := by rw [typeLookup_type, builtinLookup_eq_fast]; kernel_rfl
theorem truthy_match {D T : Addr} {x p : Value} {pos lim : Nat} {li : Int} {Q : Bool → Shared → Prop} (N : News h₀ L s.heap news) (hD : (D, matchObj x p pos lim li T) ∈ news) (h : Q true s) : wpAny (model prog w) A (truthy (.ref D)) Q E s := by
  have hT : s.TypeIs (.ref D) "re.Match" := ⟨_, (N _ hD).1, rfl⟩
  unfold truthy
  first
    | refine wpAny_bind (wpAny_callSpecial?_none (name := Str.ofString "__bool__") hT noBool_match ?_)
    | refine wpAny_bind (wpAny_pure (wpAny_bind (wpAny_callSpecial?_none (name := Str.ofString "__bool__") hT noBool_match ?_)))
  first
    | refine wpAny_bind (wpAny_specialOf (name := Str.ofString "__len__") hT noLen_match ?_)
    | refine wpAny_bind (wpAny_pure (wpAny_bind (wpAny_specialOf (name := Str.ofString "__len__") hT noLen_match ?_)))
  exact wpAny_pure h
end
end Mine
end
section
set_option maxHeartbeats 2000000
namespace Mine
open PySem PySem.Spec PySem.Calls PyProof.Rows PyProof.Rows.LCg PyProof.Rows.LCt PySem.W
def TupAt (ax : Addr) (its : Array Value) (k : Nat) (news : List (Addr × Obj)) : Prop := (ax, ({ cls := .type "tuple", data := .seq its k } : Obj)) ∈ news
theorem tup_st {h₀ : Heap} {L ax I : Addr} {its : Array Value} {k : Nat} : ∀ i (h h' : Heap) (o : Obj) (nw : List (Addr × Obj)), (h.IsTupleIter I ax i ∧ h.IsTuple ax its) → h.get? I = some o → h'.get? I = some o → (∀ b o, h₀.get? b = some o → h'.get? b = some o) → News h₀ L h' nw → TupAt ax its k nw → (h'.IsTupleIter I ax i ∧ h'.IsTuple ax its) :=
  fun i h h' o nw st e e' _ N S => ⟨by obtain ⟨o', q, r⟩ := st.1; rw [e] at q; cases q; exact ⟨o, e', r⟩, ⟨_, (N _ S).1, rfl, _, rfl⟩⟩
section
variable {prog : Program} {w : World} {A : Around} {E : Value → Shared → Prop} {s : Shared} {h₀ : Heap} {L : Addr} {m : Str → Option Value} {env : Env}
/-- one turn whose test comes out false -/
def SkipTurn (prog : Program) (w : World) (A : Around) (h₀ : Heap) (L : Addr) (m : Str → Option Value) (env : Env) (ct : Expr) (x : Str) (scope : Scope) (cl : List (Str × Addr)) (s : Shared) (nw : List (Addr × Obj)) : Prop :=
  ∀ (q : Int) (t : Tok) I oI C oC D m₂ h tk (QQ : Bool → Shared → Prop) (E' : Value → Shared → Prop), NsObj oC m₂ → m₂ x = some (.int q t) → Fr h₀ L h m → News h₀ L h ((I, oI) :: (C, oC) :: (D, lst []) :: nw) → Off3 I C D nw → ((@Ne Nat I C) ∧ (@Ne Nat I D) ∧ (@Ne Nat C D)) →
    (∀ h' tk', Fr h₀ L h' m → News h₀ L h' ((I, oI) :: (C, oC) :: (D, lst []) :: nw) → QQ false { s with heap := h', toks := tk' }) →
    wpAny (model prog w) A (isTrue ct (compEnvC scope cl C env) (eval ct (compEnvC scope cl C env))) QQ E' { s with heap := h, toks := tk }
theorem skip_all {ct elt : Expr} {x : Str} {scope : Scope} {cl : List (Str × Addr)} {S : List (Addr × Obj) → Prop} {P : Nat → Value → Prop} {Fin : List Value → List (Addr × Obj) → Prop} {nw : List (Addr × Obj)}
    (hP : ∀ i v, P i v → ∃ q t, v = .int q t) (T : SkipTurn prog w A h₀ L m env ct x scope cl s nw) (hS : S nw) (hF : Fin [] nw) : ∀ n i, CompRestT prog w A h₀ L m env ct elt x scope cl s S P Fin n i [] nw := by
  intro n
  induction n with
  | zero => intro i; exact hF
  | succ n ih =>
    intro i
    refine CompRestT.succ ?_
    intro v I oI C oC D m₂ h tk E' hv hC hx F N off ne
    obtain ⟨q, t, rfl⟩ := hP i v hv
    refine T q t I oI C oC D m₂ h tk _ E' hC hx F N off ne fun h' tk' F' N' => ?_
    rw [if_neg (by decide)]
    exact ⟨h', tk', nw, rfl, F', N', off, hS, ih (i + 1)⟩
def SkipSrc (prog : Program) (w : World) (A : Around) (h₀ : Heap) (L : Addr) (m : Str → Option Value) (env : Env) (ct : Expr) (x : Str) (scope : Scope) (cl : List (Str × Addr)) (Q : Value → Shared → Prop) (xv : Value) (s₁ : Shared) : Prop :=
  ∃ ax its k news, xv = .ref ax ∧ A.handled = none ∧ Fr h₀ L s₁.heap m ∧ News h₀ L s₁.heap news ∧ TupAt ax its k news ∧ its.size ≤ sizeLine ∧ (∀ (i : Nat) v, its[i]? = some v → ∃ q t, v = .int q t) ∧
    (∀ g, SkipTurn prog w A h₀ L m env ct x scope cl { s₁ with heap := g } news) ∧
    (∀ D h tk, Fr h₀ L h m → News h₀ L h ((D, lst []) :: news) → Off1 D news → Q (.ref D) { s₁ with heap := h, toks := tk })
theorem SkipSrc.intro {ct : Expr} {x : Str} {scope : Scope} {cl : List (Str × Addr)} {Q : Value → Shared → Prop} {s₁ : Shared} {ax : Addr} {its : Array Value} {k : Nat} {news : List (Addr × Obj)} (hh : A.handled = none) (F : Fr h₀ L s₁.heap m) (N : News h₀ L s₁.heap news)
    (S : (ax, ({ cls := .type "tuple", data := .seq its k } : Obj)) ∈ news) (hsz : its.size ≤ sizeLine) (hint : ∀ (i : Nat) v, its[i]? = some v → ∃ q t, v = .int q t) (turn : ∀ g, SkipTurn prog w A h₀ L m env ct x scope cl { s₁ with heap := g } news)
    (fin : ∀ D h tk, Fr h₀ L h m → News h₀ L h ((D, PySem.W.listOf #[] 0) :: news) → Off1 D news → Q (.ref D) { s₁ with heap := h, toks := tk }) : SkipSrc prog w A h₀ L m env ct x scope cl Q (.ref ax) s₁ := ⟨ax, its, k, news, rfl, hh, F, N, S, hsz, hint, turn, fin⟩
theorem comp_skip {ct elt iter : Expr} {x : Str} {px : Pos} {scope : Scope} {cl : List (Str × Addr)} {pos : Pos} {Q : Value → Shared → Prop} (_F₀ : Fr h₀ L s.heap m)
    (hclos : closureFor scope env = pure cl) (hcell : ∀ y ∈ scope.names, y.2 ≠ .cell) (hkind : scope.kind = .function)
    (hnames : ∀ y ∈ scope.names, y.2 = .local → scope.names.lookup y.1 = some .local) (hx : scope.names.lookup x = some .local)
    (h : wpAny (model prog w) A (eval iter env) (SkipSrc prog w A h₀ L m env ct x scope cl Q) E s)
    (hs : ∀ x, foldedSetIterable iter env x = pure x := by intro _; rfl) :
    wpAny (model prog w) A (eval (.ListComp elt [⟨.Name x px, iter, [ct], 0⟩] scope pos) env) Q E s := by
  rw [eval_ListComp]
  refine wpAny_comprehension_free (use := none) rfl hs hclos hkind hnames (wpAny_mono h (fun xv s₁ h₁ => ?_) fun _ _ e => e)
  obtain ⟨ax, its, k, news, rfl, hh, F, N, S, hsz, hint, R, fin⟩ := h₁
  have hl : s₁.heap.IsTuple ax its := ⟨_, (N _ S).1, rfl, _, rfl⟩
  have hlt : ax < s₁.heap.objs.size := by obtain ⟨_, e, _⟩ := hl; exact Heap.lt_size e
  refine wpAny_pyIter_tuple hl ?_
  have up : ∀ b o, s₁.heap.get? b = some o → (s₁.heap.push { cls := .type "tuple_iterator", data := .fields #[.ref ax, .int 0 0] }).get? b = some o := fun b o e => Heap.get?_push_of_some _ e
  refine block_T (Walks.tuple hh s₁.heap.objs.size ax (Nat.ne_of_lt hlt) its) hsz (fun i h st => by obtain ⟨o, e, _⟩ := st.1; exact ⟨o, e⟩) (tup_st (k := k)) hcell hkind hx ⟨⟨_, Heap.get?_push_size _ rfl, rfl, rfl⟩, ⟨_, up _ _ (N _ S).1, rfl, _, rfl⟩⟩ (fun b hb => ?_)
    (F.keeps up) (N.grown up) (Nat.ne_of_lt F.ns.lt) (next_is_new F) (fun p hp => Nat.ne_of_lt (Heap.lt_size (N p hp).1)) S (skip_all hint (R _) S (Fin := FinE h₀ L m { s₁ with heap := s₁.heap.push { cls := .type "tuple_iterator", data := .fields #[.ref ax, .int 0 0] } } Q) (fun D h tk F' N' o1 => fin D h tk F' N' o1) _ _) ?_
  · show b < (s₁.heap.push _).objs.size
    rw [Heap.size_push]
    rcases List.mem_cons.mp hb with rfl | hb
    · exact Nat.lt_succ_self _
    · rw [List.mem_singleton.mp hb]; exact Nat.lt_succ_of_lt hlt
  · intro D C h tk m' ys news' F' N' o1 hn hC₀ hD₀ hCL hDL hCD offC fin
    refine ⟨m', hn, fun h'' hs'' => fin D h'' tk (F'.change hs'' hCL hC₀) (fun p hp => ?_) o1⟩
    refine ⟨hs''.extBut _ _ ?_ (N' p hp).1, (N' p hp).2⟩
    rcases List.mem_cons.mp hp with rfl | hp
    · exact Ne.symm hCD
    · exact offC p hp
def ListAt (ax : Addr) (its : Array Value) (k : Nat) (news : List (Addr × Obj)) : Prop := (ax, PySem.W.listOf its k) ∈ news
theorem listAt_st {h₀ : Heap} {L ax I : Addr} {its : Array Value} {k : Nat} : ∀ i (h h' : Heap) (o : Obj) (nw : List (Addr × Obj)), (h.IsListIter I ax i ∧ h.IsList ax its) → h.get? I = some o → h'.get? I = some o → (∀ b o, h₀.get? b = some o → h'.get? b = some o) → News h₀ L h' nw → ListAt ax its k nw → (h'.IsListIter I ax i ∧ h'.IsList ax its) :=
  fun i h h' o nw st e e' _ N S => ⟨by obtain ⟨o', q, r⟩ := st.1; rw [e] at q; cases q; exact ⟨o, e', r⟩, ⟨_, (N _ S).1, rfl, _, rfl⟩⟩
def SkipSrcL (prog : Program) (w : World) (A : Around) (h₀ : Heap) (L : Addr) (m : Str → Option Value) (env : Env) (ct : Expr) (x : Str) (scope : Scope) (cl : List (Str × Addr)) (Q : Value → Shared → Prop) (xv : Value) (s₁ : Shared) : Prop :=
  ∃ ax its k news, xv = .ref ax ∧ A.handled = none ∧ Fr h₀ L s₁.heap m ∧ News h₀ L s₁.heap news ∧ ListAt ax its k news ∧ its.size ≤ sizeLine ∧ (∀ (i : Nat) v, its[i]? = some v → ∃ q t, v = .int q t) ∧
    (∀ g, SkipTurn prog w A h₀ L m env ct x scope cl { s₁ with heap := g } news) ∧
    (∀ D h tk, Fr h₀ L h m → News h₀ L h ((D, lst []) :: news) → Off1 D news → Q (.ref D) { s₁ with heap := h, toks := tk })
theorem ints_at {vs : List Value} {ns : List Int} (h : IntsAre vs ns) : ∀ (i : Nat) v, vs.toArray[i]? = some v → ∃ q t, v = .int q t := by
  have all : ∀ v ∈ vs, ∃ q t, v = .int q t := by
    induction h with
    | nil => intro v hv; cases hv
    | cons n t _ ih =>
      intro v hv
      rcases List.mem_cons.mp hv with rfl | hv
      · exact ⟨_, _, rfl⟩
      · exact ih v hv
  intro i v hv
  refine all v ?_
  rw [List.getElem?_toArray] at hv
  exact List.mem_of_getElem? hv
theorem SkipSrcL.intro {ct : Expr} {x : Str} {scope : Scope} {cl : List (Str × Addr)} {Q : Value → Shared → Prop} {s₁ : Shared} {ax : Addr} {vs : List Value} {ns : List Int} {k : Nat} {news : List (Addr × Obj)} (hh : A.handled = none) (F : Fr h₀ L s₁.heap m) (N : News h₀ L s₁.heap news)
    (S : (ax, PySem.W.listOf vs.toArray k) ∈ news) (hint : IntsAre vs ns) (hsz : ns.length ≤ sizeLine) (turn : ∀ g, SkipTurn prog w A h₀ L m env ct x scope cl { s₁ with heap := g } news)
    (fin : ∀ D h tk, Fr h₀ L h m → News h₀ L h ((D, PySem.W.listOf #[] 0) :: news) → Off1 D news → Q (.ref D) { s₁ with heap := h, toks := tk }) : SkipSrcL prog w A h₀ L m env ct x scope cl Q (.ref ax) s₁ := ⟨ax, vs.toArray, k, news, rfl, hh, F, N, S, by rw [List.size_toArray, hint.length]; exact hsz, ints_at hint, turn, fin⟩
theorem comp_skipL {ct elt iter : Expr} {x : Str} {px : Pos} {scope : Scope} {cl : List (Str × Addr)} {pos : Pos} {Q : Value → Shared → Prop} (_F₀ : Fr h₀ L s.heap m)
    (hclos : closureFor scope env = pure cl) (hcell : ∀ y ∈ scope.names, y.2 ≠ .cell) (hkind : scope.kind = .function)
    (hnames : ∀ y ∈ scope.names, y.2 = .local → scope.names.lookup y.1 = some .local) (hx : scope.names.lookup x = some .local)
    (h : wpAny (model prog w) A (eval iter env) (SkipSrcL prog w A h₀ L m env ct x scope cl Q) E s)
    (hs : ∀ x, foldedSetIterable iter env x = pure x := by intro _; rfl) :
    wpAny (model prog w) A (eval (.ListComp elt [⟨.Name x px, iter, [ct], 0⟩] scope pos) env) Q E s := by
  rw [eval_ListComp]
  refine wpAny_comprehension_free (use := none) rfl hs hclos hkind hnames (wpAny_mono h (fun xv s₁ h₁ => ?_) fun _ _ e => e)
  obtain ⟨ax, its, k, news, rfl, hh, F, N, S, hsz, hint, R, fin⟩ := h₁
  have hl : s₁.heap.IsList ax its := ⟨_, (N _ S).1, rfl, _, rfl⟩
  have hlt : ax < s₁.heap.objs.size := by obtain ⟨_, e, _⟩ := hl; exact Heap.lt_size e
  refine wpAny_pyIter_list hl ?_
  have up : ∀ b o, s₁.heap.get? b = some o → (s₁.heap.push { cls := .type "list_iterator", data := .fields #[.ref ax, .int 0 0] }).get? b = some o := fun b o e => Heap.get?_push_of_some _ e
  refine block_T (Walks.list hh s₁.heap.objs.size ax (Nat.ne_of_lt hlt) its) hsz (fun i h st => by obtain ⟨o, e, _⟩ := st.1; exact ⟨o, e⟩) (listAt_st (k := k)) hcell hkind hx ⟨⟨_, Heap.get?_push_size _ rfl, rfl, rfl⟩, ⟨_, up _ _ (N _ S).1, rfl, _, rfl⟩⟩ (fun b hb => ?_)
    (F.keeps up) (N.grown up) (Nat.ne_of_lt F.ns.lt) (next_is_new F) (fun p hp => Nat.ne_of_lt (Heap.lt_size (N p hp).1)) S (skip_all hint (R _) S (Fin := FinE h₀ L m { s₁ with heap := s₁.heap.push { cls := .type "list_iterator", data := .fields #[.ref ax, .int 0 0] } } Q) (fun D h tk F' N' o1 => fin D h tk F' N' o1) _ _) ?_
  · show b < (s₁.heap.push _).objs.size
    rw [Heap.size_push]
    rcases List.mem_cons.mp hb with rfl | hb
    · exact Nat.lt_succ_self _
    · rw [List.mem_singleton.mp hb]; exact Nat.lt_succ_of_lt hlt
  · intro D C h tk m' ys news' F' N' o1 hn hC₀ hD₀ hCL hDL hCD offC fin
    refine ⟨m', hn, fun h'' hs'' => fin D h'' tk (F'.change hs'' hCL hC₀) (fun p hp => ?_) o1⟩
    refine ⟨hs''.extBut _ _ ?_ (N' p hp).1, (N' p hp).2⟩
    rcases List.mem_cons.mp hp with rfl | hp
    · exact Ne.symm hCD
    · exact offC p hp
end
theorem two_ints {a b : Int} {t u : Tok} : ∀ (i : Nat) v, (#[Value.int a t, Value.int b u] : Array Value)[i]? = some v → ∃ q t, v = .int q t := by
  intro i v h
  match i with
  | 0 => cases h; exact ⟨_, _, rfl⟩
  | 1 => cases h; exact ⟨_, _, rfl⟩
  | n + 2 => simp at h
end Mine
end
section
open PySem
set_option Elab.async false
set_option maxRecDepth 100000
namespace Mine
open PySem.Sre
def dig (c : Nat) : Bool := decide (48 ≤ c) && decide (c ≤ 57)
def can (c : Nat) : Nat := if dig c = true then 48 else c
def canon (x : Array Nat) : Array Nat := x.map can
theorem canon_getD (x : Array Nat) (p : Nat) : (canon x).getD p 0 = can (x.getD p 0) := by
  unfold canon
  by_cases h : p < x.size
  · simp [Array.getD, h]
  · simp [Array.getD, h]; rfl
/-- a word at which a set or a character reads no digit apart from another -/
def safeAt (code : Array Nat) (j : Nat) : Bool :=
  match ops[code.getD j 0]? with
  | some .LITERAL => !dig (code.getD (j + 1) 0)
  | some .CATEGORY => code.getD (j + 1) 0 == 0
  | some .CHARSET => (List.range 10).all fun d => (code.getD (j + (1 + (48 + d) / 32)) 0).testBit ((48 + d) % 32) == (code.getD (j + (1 + 48 / 32)) 0).testBit (48 % 32)
  | some .FAILURE | some .NEGATE | some .ANY | some .ANY_ALL | some .IN => true
  | some .RANGE | some .RANGE_UNI_IGNORE | some .BIGCHARSET | some .NOT_LITERAL | some .LITERAL_IGNORE | some .NOT_LITERAL_IGNORE | some .IN_IGNORE | some .LITERAL_UNI_IGNORE | some .NOT_LITERAL_UNI_IGNORE | some .IN_UNI_IGNORE => false
  | _ => true
theorem dig_spec {c : Nat} (h : dig c = true) : ∃ d, d < 10 ∧ c = 48 + d := by
  unfold dig at h
  simp only [Bool.and_eq_true, decide_eq_true_eq] at h
  exact ⟨c - 48, by omega, by omega⟩
theorem lit_can {c w : Nat} (h : dig w = false) : (c == w) = (can c == w) := by
  unfold can
  by_cases hc : dig c = true
  · rw [if_pos hc]
    have h1 : (c == w) = false := by
      rw [beq_eq_false_iff_ne]; intro e; rw [e, h] at hc; cases hc
    have h2 : (48 == w) = false := by
      rw [beq_eq_false_iff_ne]; intro e; rw [← e] at h; exact absurd h (by decide)
    rw [h1, h2]
  · rw [if_neg hc]
theorem isDigit_can (c : Nat) : isDigit c = isDigit (can c) := by
  unfold can
  by_cases hc : dig c = true
  · rw [if_pos hc]; exact hc
  · rw [if_neg hc]
theorem inSet_can {code : Array Nat} (hs : ∀ j, safeAt code j = true) (c : Nat) : ∀ (fuel i : Nat) (yes : Bool) (seen : Seen), inSet code c fuel i yes seen = inSet code (can c) fuel i yes seen := by
  intro fuel
  induction fuel with
  | zero => intros; rfl
  | succ n ih =>
    intro i yes seen
    have h := hs i
    unfold safeAt at h
    unfold inSet
    simp only [Nat.add_zero]
    cases ho : ops[code.getD i 0]? with
    | none => rfl
    | some op =>
      rw [ho] at h
      cases op
      case LITERAL =>
        dsimp only at h ⊢
        rw [lit_can (by simpa using h), ih]
      case NEGATE => exact ih _ _ _
      case CATEGORY =>
        dsimp only at h ⊢
        rw [beq_iff_eq] at h
        rw [h]
        have e : category 0 c = category 0 (can c) := by
          unfold category
          simp only [isDigit_can c]
        rw [e]
        simp only [ih]
      case CHARSET =>
        dsimp only at h ⊢
        by_cases hc : dig c = true
        · obtain ⟨d, hd, rfl⟩ := dig_spec hc
          have hk := List.all_eq_true.mp h d (List.mem_range.mpr hd)
          rw [beq_iff_eq] at hk
          have e48 : can (48 + d) = 48 := by unfold can; rw [if_pos hc]
          rw [e48, ih, e48]
          have c1 : decide (48 + d < 256) = true := by rw [decide_eq_true_eq]; omega
          have c2 : decide (48 < 256) = true := rfl
          rw [c1, c2, hk]
        · have e : can c = c := by unfold can; rw [if_neg hc]
          rw [ih, e]
      case RANGE => exact absurd (show false = true from h) (by decide)
      case RANGE_UNI_IGNORE => exact absurd (show false = true from h) (by decide)
      case BIGCHARSET => exact absurd (show false = true from h) (by decide)
      all_goals rfl
theorem acc_can {code : Array Nat} (hs : ∀ j, safeAt code j = true) (c i : Nat) (seen : Seen) : accepts code i (can c) seen = accepts code i c seen := by
  have h := hs i
  unfold safeAt at h
  unfold accepts
  cases ho : ops[code.getD i 0]? with
  | none => rfl
  | some op =>
    rw [ho] at h
    cases op
    case LITERAL => dsimp only at h ⊢; rw [← lit_can (by simpa using h)]
    case IN => dsimp only; exact (inSet_can hs c _ _ _ _).symm
    case ANY =>
      dsimp only
      have e : (can c != 10) = (c != 10) := by rw [bne, bne, ← lit_can (c := c) (w := 10) (by decide)]
      rw [e]
    case NOT_LITERAL => exact absurd (show false = true from h) (by decide)
    case LITERAL_IGNORE => exact absurd (show false = true from h) (by decide)
    case NOT_LITERAL_IGNORE => exact absurd (show false = true from h) (by decide)
    case IN_IGNORE => exact absurd (show false = true from h) (by decide)
    case LITERAL_UNI_IGNORE => exact absurd (show false = true from h) (by decide)
    case NOT_LITERAL_UNI_IGNORE => exact absurd (show false = true from h) (by decide)
    case IN_UNI_IGNORE => exact absurd (show false = true from h) (by decide)
    all_goals rfl
def atSafe (code : Array Nat) (i : Nat) : Bool := match ops[code.getD i 0]? with
  | some .AT => !((code.getD (i + 1) 0 == 3) || (code.getD (i + 1) 0 == 4) || (code.getD (i + 1) 0 == 10) || (code.getD (i + 1) 0 == 11))
  | _ => true
theorem fits_can {code x : Array Nat} (hs : ∀ j, safeAt code j = true) (ha : ∀ j, atSafe code j = true) (hf : ∀ j, isFew (ops[code.getD j 0]?) = true) (h2 : (code.getD 2 0 == 4) = false) : Fits code (canon x) x where
  acc := fun i p seen => by rw [canon_getD]; exact acc_can hs _ _ _
  at' := by
    intro i ho m hc hx
    have h := ha i
    unfold atSafe at h
    rw [ho] at h
    generalize code.getD (i + 1) 0 = k at *
    have e10 : ∀ p, ((canon x).getD p 0 == 10) = (x.getD p 0 == 10) := fun p => by rw [canon_getD]; exact (lit_can (by decide)).symm
    unfold Sre.M.isAt
    rw [hx]
    simp only [ov]
    match k, h with
    | 0, _ => rfl
    | 1, _ => simp only [e10]
    | 2, _ => rfl
    | 5, _ => simp only [e10]
    | 6, _ => simp only [e10]
    | 7, _ => rfl
    | 8, _ => rfl
    | 9, _ => rfl
    | k + 12, _ => rfl
  few := hf
  first := h2
theorem of_small {code : Array Nat} {P : Nat → Bool} (h0 : ∀ j, code.size ≤ j → P j = true) (h : (List.range code.size).all P = true) : ∀ j, P j = true := by
  intro j
  by_cases hj : j < code.size
  · exact List.all_eq_true.mp h j (List.mem_range.mpr hj)
  · exact h0 j (by omega)
theorem out_word {code : Array Nat} {j : Nat} (h : code.size ≤ j) : code.getD j 0 = 0 := by
  simp [Array.getD, Nat.not_lt.mpr h]
def codeOk (code : Array Nat) : Bool := (List.range code.size).all (fun j => safeAt code j && atSafe code j && isFew (ops[code.getD j 0]?)) && !(code.getD 2 0 == 4)
theorem fits_ok {code x : Array Nat} (h : codeOk code = true) : Fits code (canon x) x := by
  unfold codeOk at h
  simp only [Bool.and_eq_true, Bool.not_eq_true'] at h
  obtain ⟨h1, h2⟩ := h
  have z : ops[0]? = some Op.FAILURE := rfl
  have all : ∀ j, (safeAt code j && atSafe code j && isFew (ops[code.getD j 0]?)) = true := of_small (P := fun j => safeAt code j && atSafe code j && isFew (ops[code.getD j 0]?)) (fun j hj => by
    have e := out_word hj
    unfold safeAt atSafe
    rw [e, z]; rfl) h1
  have all' : ∀ j, (safeAt code j = true ∧ atSafe code j = true) ∧ isFew (ops[code.getD j 0]?) = true := fun j => by have := all j; simp only [Bool.and_eq_true] at this; exact this
  exact fits_can (fun j => (all' j).1.1) (fun j => (all' j).1.2) (fun j => (all' j).2) h2
theorem zres_ov (c y : Array Nat) (m : Sre.M) : zres (ov c y m) = zres m := rfl
theorem zrun_canon {code x : Array Nat} (h : codeOk code = true) (lim : Nat) : zrun code x lim = zrun code (canon x) lim := by
  have F := fits_ok (x := x) h
  have S : Fits code (canon x) (canon x) := ⟨fun _ _ _ => rfl, fun _ _ k e1 e2 => by rw [← e2]; rfl, F.few, F.first⟩
  have e0 := search_ov S lim
  have e1 := search_ov F lim
  unfold zrun zmach
  rw [e1]
  generalize hm : Sre.forSearch code (canon x) 3 0 lim false = m at *
  have hc : m.code = code := by rw [e0]; rfl
  have ht : m.text = canon x := by rw [e0]; rfl
  have := runFor_ov (y := x) (4 * 40) (m := m) (by rw [hc, ht]; exact F)
  rw [hc] at this
  rw [this, zres_ov]
def tab : List (Array Nat × List Int) := ([[], [43], [45]] : List (List Nat)).flatMap fun s => ([[48], [48, 48]] : List (List Nat)).flatMap fun d => ([[], [58]] : List (List Nat)).flatMap fun c => ([[], [48, 48]] : List (List Nat)).map fun m =>
  ((s ++ d ++ c ++ m).toArray, [0, ((s ++ d ++ c ++ m).length : Int), if s = [] then -1 else 0, if s = [] then -1 else 1, (s.length : Int), ((s ++ d).length : Int), if m = [] then -1 else ((s ++ d ++ c).length : Int), if m = [] then -1 else ((s ++ d ++ c ++ m).length : Int)])
end Mine
end
section
open PySem PySem.W PyProof.Rows PySem.Spec PySem.Calls
set_option Elab.async false
namespace Mine
section
variable {M : Model} {A : Around} {E : Value → Shared → Prop} {s : Shared} {env : Env}
theorem ifexp_int {test : Expr} {i j : Int} {k1 k2 : Nat} {p1 p2 pos : Pos} {Q : Value → Shared → Prop}
    (h : wpAny M A (isTrue test env (eval test env)) (fun c s' => Q (.int (if c = true then i else j) s'.toks) { s' with toks := s'.toks + 1 }) E s) :
    wpAny M A (eval (.IfExp test (.Constant (.int i) k1 p1) (.Constant (.int j) k2 p2) pos) env) Q E s := by
  refine IfExp_ (wpAny_mono h (fun c s' hc => ?_) fun _ _ e => e)
  cases c with
  | true => exact wpAny_Constant_int hc
  | false => exact wpAny_Constant_int hc
def NoGo (b : Bool) (P : Prop) : Prop := b = false ∧ P
theorem NoGo.intro {b : Bool} {P : Prop} (h1 : b = false) (h2 : P) : NoGo b P := ⟨h1, h2⟩
theorem if_nogo {test : Expr} {body : List Stmt} {pos : Pos} {Q : Flow → Shared → Prop}
    (h : wpAny M A (isTrue test env (eval test env)) (fun b s' => NoGo b (Q .next s')) E s) : wpAny M A (exec (.If test body [] pos) env) Q E s := by
  refine wpAny_If (wpAny_mono h (fun b s' hb => ?_) fun _ _ e => e)
  obtain ⟨rfl, hq⟩ := hb
  exact wpAny_execs_nil hq
end
end Mine
end
section
open PySem PySem.W PyProof.Rows PySem.Spec PySem.Calls
set_option Elab.async false
namespace Mine
section
variable {M : Model} {A : Around} {E : Value → Shared → Prop} {s : Shared}
/-- the tokens do not matter: a stored int's, and the state's -/
theorem store_any {env : Env} {x : Str} {e : Int} {t : Tok} {Q : Unit → Shared → Prop} (h : ∀ t tk, wpAny M A (storeName env x (.int e t)) Q E { s with toks := tk }) : wpAny M A (storeName env x (.int e t)) Q E s := h t s.toks
end
end Mine
end
section
set_option maxHeartbeats 2000000
namespace Mine
open PySem PySem.Spec PySem.Calls PyProof.Rows PyProof.Rows.LCg PyProof.Rows.LCt PySem.W
/-- a list comprehension of two clauses, the second with one test -/
abbrev comp2 (elt t1 i1 t2 i2 ct : Expr) (scope : Scope) (pos : Pos) : Expr := .ListComp elt [⟨t1, i1, [], 0⟩, ⟨t2, i2, [ct], 0⟩] scope pos
section
variable {prog : Program} {w : World} {A : Around} {E : Value → Shared → Prop} {R : Result → Shared → Prop} {s : Shared} {elt t1 i1 t2 i2 ct : Expr} {scope : Scope} {pos : Pos} {it acc : Value} {env : Env}
theorem turn_out : compTurn (comp2 elt t1 i1 t2 i2 ct scope pos) 0 it acc env = (do
      standAt i1.pos
      match ← pyNext it with
      | none => pure (.done .next)
      | some v =>
        letOwnedTupleGo t1 it v
        assign t1 env v
        let x ← eval i2 env
        standAt i2.pos
        let x ← foldedSetIterable i2 env x
        let _ ← runOwn (.compStart (comp2 elt t1 i1 t2 i2 ct scope pos) 1 (← holding [x] (pyIter x)) acc env) env
        again (.compLoop (comp2 elt t1 i1 t2 i2 ct scope pos) 0 it acc env)) := by rfl
theorem turn_in : compTurn (comp2 elt t1 i1 t2 i2 ct scope pos) 1 it acc env = (do
      standAt i2.pos
      match ← pyNext it with
      | none => pure (.done .next)
      | some v =>
        letOwnedTupleGo t2 it v
        assign t2 env v
        let mut ok := true
        for c in [ct] do
          if ok then ok ← PySem.isTrue c env (eval c env)
        if ok then
          (do let _ ← call (.builtin "list.append") [acc, ← eval elt env])
        again (.compLoop (comp2 elt t1 i1 t2 i2 ct scope pos) 1 it acc env)) := by
  rfl
theorem inLoop (I : Nat → Shared → Prop)
    (turn : ∀ n s, I n s → wpAny (model prog w) A (pyNext it) (fun r s₁ => match r with
      | none => R (.ok .next) s₁
      | some v => wpAny (model prog w) A (assign t2 env v) (fun _ s₂ =>
          wpAny (model prog w) A (PySem.isTrue ct env (eval ct env)) (fun ok s₃ =>
            if ok = true then wpAny (model prog w) A (eval elt env) (fun x s₄ =>
              wpAny (model prog w) A (call (.builtin "list.append") [acc, x]) (fun _ s₅ => ∃ m, m < n ∧ I m s₅) (notedBy (model prog w) A env fun e s' => R (.error e) s') s₄) (notedBy (model prog w) A env fun e s' => R (.error e) s') s₃
            else ∃ m, m < n ∧ I m s₃) (notedBy (model prog w) A env fun e s' => R (.error e) s') s₂) (notedBy (model prog w) A env fun e s' => R (.error e) s') s₁) (notedBy (model prog w) A env fun e s' => R (.error e) s') s)
    (n : Nat) (h : I n s) (ht : ∀ v, letOwnedTupleGo t2 it v = pure () := by intro _; rfl) :
    codeAny (model prog w) A (.compLoop (comp2 elt t1 i1 t2 i2 ct scope pos) 1 it acc env) R s := by
  refine codeAny_loop rfl I (fun n s hI => ?_) n h
  show wpAny _ A ((compTurn (comp2 elt t1 i1 t2 i2 ct scope pos) 1 it acc env).onRaise (fun x => do noteFrame x env; theTreesLotGoes x)) _ _ s
  refine wpAny_noted ?_
  rw [turn_in]
  refine wpAny_bind (wpAny_standAt (wpAny_bind (wpAny_mono (turn n s hI) (fun r s₁ h₁ => ?_) fun _ _ h' => h')))
  cases r with
  | none => exact wpAny_pure h₁
  | some v =>
    refine wpAny_bind (wpAny_of_eq (ht v) ?_)
    refine wpAny_bind (wpAny_mono h₁ (fun _ s₂ h₂ => wpAny_bind (wpAny_mono (wpAny_tests_one h₂) (fun ok s₃ h₃ => ?_) fun _ _ h' => h')) fun _ _ h' => h')
    cases ok with
    | false => exact wpAny_pure ⟨rfl, h₃⟩
    | true =>
      exact wpAny_bind (wpAny_bind (wpAny_mono h₃ (fun x s₄ h₄ => wpAny_bind (wpAny_mono h₄ (fun _ s₅ h₅ => wpAny_pure (wpAny_pure ⟨rfl, h₅⟩)) fun _ _ h' => h')) fun _ _ h' => h'))
theorem inStart
    (h0 : codeAny (model prog w) A (.compLoop (comp2 elt t1 i1 t2 i2 ct scope pos) 1 it acc env) R s)
    (h : wpAny (model prog w) A (pyIter it) (fun it' s' => codeAny (model prog w) A (.compLoop (comp2 elt t1 i1 t2 i2 ct scope pos) 1 it' acc env) R s')
      (notedBy (model prog w) A env fun x s' => R (.error x) s') s) :
    codeAny (model prog w) A (.compStart (comp2 elt t1 i1 t2 i2 ct scope pos) 1 it acc env) R s := by
  refine codeAny_of_tree ?_
  show wpAny _ _ ((compStart (comp2 elt t1 i1 t2 i2 ct scope pos) 1 it acc env).onRaise (fun x => do noteFrame x env; standAt theWindowsPlace)) _ _ s
  refine wpAny_notedAt ?_
  unfold compStart
  show wpAny _ _ (ask >>= _) _ _ s
  refine wpAny_bind (wpAny_askSetting (wpAny_ite ?_))
  split
  · first
      | exact wpAny_bind (wpAny_pure (wpAny_pure (And.intro rfl h0)))
      | exact wpAny_pure (And.intro rfl h0)
  · first
      | exact wpAny_bind (wpAny_rule (wpAny_bind (wpAny_standAt (wpAny_bind (wpAny_mono h (fun it' s' h' => wpAny_pure (And.intro rfl h')) fun _ _ x => x)))))
      | (refine wpAny_bind (wpAny_rule ?_); show wpAny _ _ (standAt i2.pos >>= _) _ _ s; exact wpAny_bind (wpAny_standAt (wpAny_bind (wpAny_mono h (fun it' s' h' => wpAny_pure (And.intro rfl h')) fun _ _ x => x))))
theorem outLoop (hh : A.handled = none) (I : Nat → Shared → Prop)
    (turn : ∀ n s, I n s → wpAny (model prog w) A (pyNext it) (fun r s₁ => match r with
      | none => R (.ok .next) s₁
      | some v => wpAny (model prog w) A (assign t1 env v) (fun _ s₂ =>
          wpAny (model prog w) A (eval i2 env) (fun x s₃ => foldedSetIterable i2 env x = pure x ∧
            wpAny (model prog w) A (pyIter x) (fun it2 s₄ =>
              codeAny (model prog w) A (.compStart (comp2 elt t1 i1 t2 i2 ct scope pos) 1 it2 acc env) (fun r s₅ => match r with | .ok _ => ∃ m, m < n ∧ I m s₅ | .error _ => False) s₄) (notedBy (model prog w) A env fun e s' => R (.error e) s') s₃) (notedBy (model prog w) A env fun e s' => R (.error e) s') s₂) (notedBy (model prog w) A env fun e s' => R (.error e) s') s₁) (notedBy (model prog w) A env fun e s' => R (.error e) s') s)
    (n : Nat) (h : I n s) (ht : ∀ v, letOwnedTupleGo t1 it v = pure () := by intro _; rfl) :
    codeAny (model prog w) A (.compLoop (comp2 elt t1 i1 t2 i2 ct scope pos) 0 it acc env) R s := by
  refine codeAny_loop rfl I (fun n s hI => ?_) n h
  show wpAny _ A ((compTurn (comp2 elt t1 i1 t2 i2 ct scope pos) 0 it acc env).onRaise (fun x => do noteFrame x env; theTreesLotGoes x)) _ _ s
  refine wpAny_noted ?_
  rw [turn_out]
  refine wpAny_bind (wpAny_standAt (wpAny_bind (wpAny_mono (turn n s hI) (fun r s₁ h₁ => ?_) fun _ _ h' => h')))
  cases r with
  | none => exact wpAny_pure h₁
  | some v =>
    refine wpAny_bind (wpAny_of_eq (ht v) ?_)
    refine wpAny_bind (wpAny_mono h₁ (fun _ s₂ h₂ => wpAny_bind (wpAny_mono h₂ (fun x s₃ h₃ => wpAny_bind (wpAny_standAt (wpAny_bind (wpAny_of_eq h₃.1 (wpAny_bind (wpAny_holding (wpAny_mono h₃.2 (fun it2 s₄ h₄ => ?_) fun _ _ h' => h'))))))) fun _ _ h' => h')) fun _ _ h' => h')
    refine wpAny_bind (wpAny_runOwn ?_)
    have em : A.mark none = A := by
      unfold Around.mark
      rfl
    rw [em]
    refine codeAny_mono h₄ fun r s₅ h₅ => ?_
    cases r with
    | ok f => exact wpAny_pure ⟨rfl, h₅⟩
    | error e => exact h₅.elim
end
end Mine
end
section
set_option maxHeartbeats 2000000
namespace Mine
open PySem PySem.Spec PySem.Calls PyProof.Rows PyProof.Rows.LCg PyProof.Rows.LCt PySem.W
theorem ints_get {vs : List Value} {ns : List Int} (h : IntsAre vs ns) : ∀ (j : Nat) (v : Value), vs[j]? = some v → ∃ o u, ns[j]? = some o ∧ v = .int o u := by
  induction h with
  | nil => intro j v e; simp at e
  | cons n t _ ih =>
    intro j v e
    cases j with
    | zero => simp at e; exact ⟨n, t, by simp, e.symm⟩
    | succ j => simp at e; obtain ⟨o, u, e1, e2⟩ := ih j v e; exact ⟨o, u, by simpa using e1, e2⟩
theorem ints_snoc {vs : List Value} {ns : List Int} (h : IntsAre vs ns) (q : Int) (t : Tok) : IntsAre (vs ++ [.int q t]) (ns ++ [q]) := by
  induction h with
  | nil => exact .cons _ _ .nil
  | cons n u _ ih => exact .cons n u ih
section
variable {prog : Program} {w : World} {A : Around} {E : Value → Shared → Prop} {s : Shared} {h₀ : Heap} {L : Addr} {m : Str → Option Value} {env : Env}
/-- what the second clause walks over -/
def TwoIter (prog : Program) (w : World) (A : Around) (h₀ : Heap) (L : Addr) (m : Str → Option Value) (env : Env) (i2 : Expr) (x : Str) (scope : Scope) (cl : List (Str × Addr)) (s : Shared) (a2 : Addr) (nw : List (Addr × Obj)) : Prop :=
  ∀ (q : Int) (t : Tok) I oI C oC D ys m₂ h tk (QQ : Value → Shared → Prop) (E' : Value → Shared → Prop), NsObj oC m₂ → m₂ x = some (.int q t) → Fr h₀ L h m → News h₀ L h ((I, oI) :: (C, oC) :: (D, lst ys) :: nw) → Off3 I C D nw → ((@Ne Nat I C) ∧ (@Ne Nat I D) ∧ (@Ne Nat C D)) →
    (∀ h' tk', Fr h₀ L h' m → News h₀ L h' ((I, oI) :: (C, oC) :: (D, lst ys) :: nw) → QQ (.ref a2) { s with heap := h', toks := tk' }) →
    wpAny (model prog w) A (eval i2 (compEnvC scope cl C env)) QQ E' { s with heap := h, toks := tk }
/-- the test of the second clause -/
def TwoTest (prog : Program) (w : World) (A : Around) (h₀ : Heap) (L : Addr) (m : Str → Option Value) (env : Env) (ct : Expr) (x y : Str) (scope : Scope) (cl : List (Str × Addr)) (s : Shared) (nw : List (Addr × Obj)) (G : Int → Prop) (ns : List Int) (p : Int → Int → Bool) : Prop :=
  ∀ (q o : Int) (t u : Tok) J oJ I oI C oC D ys m₂ h tk (QQ : Bool → Shared → Prop) (E' : Value → Shared → Prop), NsObj oC m₂ → m₂ x = some (.int q t) → m₂ y = some (.int o u) → G q → o ∈ ns → Fr h₀ L h m → News h₀ L h ((J, oJ) :: (I, oI) :: (C, oC) :: (D, lst ys) :: nw) →
    (p q o = true → ∀ h' tk', Fr h₀ L h' m → News h₀ L h' ((J, oJ) :: (I, oI) :: (C, oC) :: (D, lst ys) :: nw) → QQ true { s with heap := h', toks := tk' }) →
    (p q o = false → ∀ h' tk', Fr h₀ L h' m → News h₀ L h' ((J, oJ) :: (I, oI) :: (C, oC) :: (D, lst ys) :: nw) → QQ false { s with heap := h', toks := tk' }) →
    wpAny (model prog w) A (isTrue ct (compEnvC scope cl C env) (eval ct (compEnvC scope cl C env))) QQ E' { s with heap := h, toks := tk }
theorem two_inner {ct i1 i2 : Expr} {x y : Str} {pe px py : Pos} {scope : Scope} {cl : List (Str × Addr)} {pos : Pos} {I J C D a2 : Addr} {oI : Obj} {q : Int} {t : Tok} {nw : List (Addr × Obj)} {vs : List Value} {ns : List Int} {k : Nat} {p : Int → Int → Bool} {G : Int → Prop}
    {m₂ : Str → Option Value} {h : Heap} {tk : Nat} {ys : List Value} {zs : List Int} {R : Result → Shared → Prop}
    (hh : A.handled = none) (hkind : scope.kind = .function) (hx : scope.names.lookup x = some .local) (hy : scope.names.lookup y = some .local) (hxy : x ≠ y) (hdx : (x == ("__debug__" : Str)) = false)
    (ha : (a2, listOf vs.toArray k) ∈ nw) (hi : IntsAre vs ns) (T : TwoTest prog w A h₀ L m env ct x y scope cl s nw G ns p) (hG : G q)
    (F : Fr h₀ L h m) (hn : h.Ns C m₂) (hq : m₂ x = some (.int q t)) (N : News h₀ L h ((I, oI) :: (D, lst ys) :: nw)) (hC₀ : h₀.get? C = none) (hCL : C ≠ L) (hJ₀ : h₀.get? J = none) (hJL : L ≠ J) (hit : h.IsListIter J a2 0)
    (hJC : J ≠ C) (hJD : J ≠ D) (hJI : J ≠ I) (hCD : C ≠ D) (hIC : I ≠ C) (hID : I ≠ D) (hJa : a2 ≠ J) (off : ∀ p ∈ nw, p.1 ≠ J ∧ p.1 ≠ C ∧ p.1 ≠ D)
    (hz : IntsAre ys zs) (hsz : zs.length + ns.length ≤ sizeLine)
    (done : ∀ h' tk' ys' zs' m', Fr h₀ L h' m → h'.Ns C m' → News h₀ L h' ((I, oI) :: (D, lst ys') :: nw) → IntsAre ys' zs' → zs'.length ≤ zs.length + ns.length → (zs' = [] ↔ zs = [] ∧ ∀ o ∈ ns, p q o = false) → R (.ok .next) { s with heap := h', toks := tk' }) :
    codeAny (model prog w) A (.compLoop (comp2 (.Name x pe) (.Name x px) i1 (.Name y py) i2 ct scope pos) 1 (.ref J) (.ref D) (compEnvC scope cl C env)) R { s with heap := h, toks := tk } := by
  have hlen : vs.toArray.size = ns.length := by rw [List.size_toArray, hi.length]
  have W : Walks prog w A J [J, a2] [J] vs.toArray.size (fun i v => vs.toArray[i]? = some v) (fun i h => h.IsListIter J a2 i ∧ h.IsList a2 vs.toArray) := Walks.list hh J a2 hJa vs.toArray
  have hD₀ : h₀.get? D = none := (N (D, lst ys) (by simp)).2.2
  have hDL : D ≠ L := (N (D, lst ys) (by simp)).2.1
  refine inLoop (fun k s' => ∃ h' tk' j ys' zs' m', s' = { s with heap := h', toks := tk' } ∧ j ≤ ns.length ∧ k = ns.length + 1 - j ∧ IntsAre ys' zs' ∧ zs'.length ≤ zs.length + j ∧ h'.IsListIter J a2 j ∧ Fr h₀ L h' m ∧ h'.Ns C m' ∧ m' x = some (.int q t) ∧
      News h₀ L h' ((I, oI) :: (D, lst ys') :: nw) ∧ (zs' = [] ↔ zs = [] ∧ ∀ (j' : Nat) o, j' < j → ns[j']? = some o → p q o = false)) ?_ (ns.length + 1) ⟨h, tk, 0, ys, zs, m₂, rfl, Nat.zero_le _, rfl, hz, Nat.le_refl _, hit, F, hn, hq, N, by simp⟩
  rintro k' s' ⟨h', tk', j, ys', zs', m', rfl, hj, hk', hz', hl', hit', F', hn', hq', N', hp'⟩
  have hlist : h'.IsList a2 vs.toArray := ⟨_, (N' (a2, listOf vs.toArray k) (by simp [ha])).1, rfl, _, rfl⟩
  by_cases hlt : j < ns.length
  · refine W.item j _ _ _ (by rw [hlen]; exact hlt) ⟨hit', hlist⟩ fun v h₁ tk₁ hv st₁ hk₁ => ?_
    rw [List.getElem?_toArray] at hv
    obtain ⟨o, u, ho, rfl⟩ := ints_get hi j v hv
    have F₁ : Fr h₀ L h₁ m := fr_but F' hk₁ hJL hJ₀
    have N₁ : News h₀ L h₁ ((I, oI) :: (D, lst ys') :: nw) := news_but N' hk₁ fun p hp => by
      rcases List.mem_cons.mp hp with rfl | hp
      · exact Ne.symm hJI
      · rcases List.mem_cons.mp hp with rfl | hp
        · exact Ne.symm hJD
        · exact (off p hp).1
    have hn₁ : h₁.Ns C m' := hn'.at' fun o e => hk₁ _ o (by simpa using Ne.symm hJC) e
    refine wpAny_assign_Name (wpAny_storeName_local (lookup_relabel_local hy) hn₁ (fun h₂ hn₂ hs₂ => ?_) (by simp [compEnvC, relabel, hkind]))
    have F₂ : Fr h₀ L h₂ m := F₁.change hs₂ hCL hC₀
    have N₂ : News h₀ L h₂ ((I, oI) :: (D, lst ys') :: nw) := fun p hp => by
      have z := N₁ p hp
      refine ⟨hs₂.extBut _ _ ?_ z.1, z.2⟩
      rcases List.mem_cons.mp hp with rfl | hp
      · exact hIC
      · rcases List.mem_cons.mp hp with rfl | hp
        · exact Ne.symm hCD
        · exact (off p hp).2.1
    obtain ⟨oJ, heJ, hcJ, hdJ⟩ := st₁.1
    have heJ₂ : h₂.get? J = some oJ := hs₂.extBut _ _ hJC heJ
    obtain ⟨oC, heC, hoC⟩ := ns_obj hn₂
    have NN : News h₀ L h₂ ((J, oJ) :: (I, oI) :: (C, oC) :: (D, lst ys') :: nw) := fun p hp => by
      rcases List.mem_cons.mp hp with rfl | hp
      · exact ⟨heJ₂, Ne.symm hJL, hJ₀⟩
      · rcases List.mem_cons.mp hp with rfl | hp
        · exact N₂ _ (by simp)
        · rcases List.mem_cons.mp hp with rfl | hp
          · exact ⟨heC, hCL, hC₀⟩
          · exact N₂ _ (List.mem_cons_of_mem _ hp)
    have back : ∀ h₃, News h₀ L h₃ ((J, oJ) :: (I, oI) :: (C, oC) :: (D, lst ys') :: nw) → h₃.IsListIter J a2 (j + 1) ∧ h₃.Ns C (fun z => if z = y then some (.int o u) else m' z) ∧ News h₀ L h₃ ((I, oI) :: (D, lst ys') :: nw) := fun h₃ N₃ => by
      refine ⟨⟨oJ, (N₃ (J, oJ) (by simp)).1, hcJ, hdJ⟩, hoC.ns (N₃ (C, oC) (by simp)).1, fun p hp => ?_⟩
      rcases List.mem_cons.mp hp with rfl | hp
      · exact N₃ _ (by simp)
      · exact N₃ _ (List.mem_cons_of_mem _ (List.mem_cons_of_mem _ (List.mem_cons_of_mem _ hp)))
    have hqx : (fun z => if z = y then some (.int o u) else m' z) x = some (.int q t) := by simp [hxy, hq']
    refine T q o t u J oJ I oI C oC D ys' _ h₂ _ _ _ hoC hqx (by simp) hG (List.mem_of_getElem? ho) F₂ NN (fun hpt h₃ tk₃ F₃ N₃ => ?_) (fun hpf h₃ tk₃ F₃ N₃ => ?_)
    · rw [if_pos rfl]
      obtain ⟨it₃, ns₃, n₃⟩ := back h₃ N₃
      rw [eval_Name (hd := hdx)]
      refine wpAny_bind (wpAny_standAt (wpAny_loadName_local (by simp [compEnvC, relabel, hkind]) (lookup_relabel_local hx) ns₃ hqx ?_))
      refine append_at (hsz := by show ys'.toArray.size ≤ sizeLine; rw [List.size_toArray, hz'.length]; omega) (n₃ (D, lst ys') (by simp)).1 fun h₄ hs₄ hD₄ => ?_
      refine ⟨ns.length + 1 - (j + 1), by omega, h₄, tk₃, j + 1, ys' ++ [.int q t], zs' ++ [q], _, rfl, hlt, rfl, ints_snoc hz' q t, by rw [List.length_append, List.length_singleton]; omega,
        ⟨oJ, hs₄.extBut _ _ hJD (N₃ (J, oJ) (by simp)).1, hcJ, hdJ⟩, F₃.change hs₄ hDL hD₀, ns₃.sameBut hs₄ hCD, hqx, fun p hp => ?_, ?_⟩
      · rcases List.mem_cons.mp hp with rfl | hp
        · exact ⟨hs₄.extBut _ _ hID (n₃ _ (by simp)).1, (n₃ (I, oI) (by simp)).2⟩
        · rcases List.mem_cons.mp hp with rfl | hp
          · exact ⟨hD₄.trans (congrArg some (lst_snoc ys' _)), hDL, hD₀⟩
          · have z := n₃ p (by simp [hp])
            exact ⟨hs₄.extBut _ _ (off p hp).2.2 z.1, z.2⟩
      · constructor
        · intro e; simp at e
        · rintro ⟨_, e⟩
          have := e j o (Nat.lt_succ_self _) ho
          rw [hpt] at this; cases this
    · rw [if_neg (by decide)]
      obtain ⟨it₃, ns₃, n₃⟩ := back h₃ N₃
      refine ⟨ns.length + 1 - (j + 1), by omega, h₃, tk₃, j + 1, ys', zs', _, rfl, hlt, rfl, hz', by omega, it₃, F₃, ns₃, hqx, n₃, ?_⟩
      rw [hp']
      constructor
      · rintro ⟨e1, e2⟩
        refine ⟨e1, fun j' o' hj' ho' => ?_⟩
        by_cases hjj : j' < j
        · exact e2 j' o' hjj ho'
        · obtain rfl : j' = j := by omega
          rw [ho] at ho'; cases ho'; exact hpf
      · rintro ⟨e1, e2⟩
        exact ⟨e1, fun j' o' hj' ho' => e2 j' o' (by omega) ho'⟩
  · obtain rfl : j = ns.length := by omega
    refine W.done _ _ _ (by rw [hlen]; exact ⟨hit', hlist⟩) fun h₁ tk₁ hk₁ => ?_
    refine done h₁ tk₁ ys' zs' m' (fr_but F' hk₁ hJL hJ₀) (hn'.at' fun o e => hk₁ _ o (by simpa using Ne.symm hJC) e) (news_but N' hk₁ fun p hp => by
      rcases List.mem_cons.mp hp with rfl | hp
      · exact Ne.symm hJI
      · rcases List.mem_cons.mp hp with rfl | hp
        · exact Ne.symm hJD
        · exact (off p hp).1) hz' hl' ?_
    rw [hp']
    constructor
    · rintro ⟨e1, e2⟩
      refine ⟨e1, fun o ho => ?_⟩
      obtain ⟨j', hj', rfl⟩ := List.getElem_of_mem ho
      exact e2 j' _ hj' (List.getElem?_eq_getElem hj')
    · rintro ⟨e1, e2⟩
      exact ⟨e1, fun j' o hj' ho => e2 o (List.mem_of_getElem? ho)⟩
end
end Mine
end
section
set_option maxHeartbeats 2000000
namespace Mine
open PySem PySem.Spec PySem.Calls PyProof.Rows PyProof.Rows.LCg PyProof.Rows.LCt PySem.W
section
variable {prog : Program} {w : World} {A : Around} {E : Value → Shared → Prop} {s : Shared} {h₀ : Heap} {L : Addr} {m : Str → Option Value} {env : Env}
theorem two_block {ct i1 i2 : Expr} {x y : Str} {pe px py : Pos} {scope : Scope} {cl : List (Str × Addr)} {pos : Pos} {s₂ : Shared} {I a2 : Addr} {n : Nat} {a : Int} {news : List (Addr × Obj)} {vs : List Value} {ns : List Int} {k : Nat} {p : Int → Int → Bool}
    {RR : Value → Addr → Result → Shared → Prop}
    (hh : A.handled = none) (hcell : ∀ y ∈ scope.names, y.2 ≠ .cell) (hkind : scope.kind = .function) (hx : scope.names.lookup x = some .local) (hy : scope.names.lookup y = some .local) (hxy : x ≠ y) (hdx : (x == ("__debug__" : Str)) = false)
    (hs2 : ∀ C x, foldedSetIterable i2 (compEnvC scope cl C env) x = pure x)
    (hst : IsRangeIter s₂.heap I (a + (0 : Nat) * 1) ((n : Int) - (0 : Nat)) 1) (F : Fr h₀ L s₂.heap m) (N : News h₀ L s₂.heap news) (hIL : L ≠ I) (hI₀ : h₀.get? I = none) (off : ∀ p ∈ news, p.1 ≠ I)
    (ha : (a2, listOf vs.toArray k) ∈ news) (hi : IntsAre vs ns) (TI : TwoIter prog w A h₀ L m env i2 x scope cl s₂ a2 news) (TT : TwoTest prog w A h₀ L m env ct x y scope cl s₂ news (fun q => a ≤ q ∧ q < a + n) ns p) (hsz : n * ns.length ≤ sizeLine)
    (hRR : ∀ D C h tk m' ys zs, Fr h₀ L h m → News h₀ L h ((D, lst ys) :: news) → Off1 D news → h.Ns C m' → h₀.get? C = none → C ≠ L → C ≠ D → (∀ p ∈ news, p.1 ≠ C) → IntsAre ys zs → zs.length ≤ n * ns.length →
      (zs = [] ↔ ∀ (i : Nat) o, i < n → o ∈ ns → p (a + i) o = false) → RR (.ref D) C (.ok .next) { s₂ with heap := h, toks := tk }) :
    wpAny (model prog w) A (newList []) (fun acc s₃ => wpAny (model prog w) A (newFunctionEnv scope env.globals cl [] env.qual none .none (some env)) (fun cenv s₄ =>
      codeAny (model prog w) A (.compStart (comp2 (.Name x pe) (.Name x px) i1 (.Name y py) i2 ct scope pos) 0 (.ref I) acc { cenv with scope := relabel scope env }) (RR acc cenv.locals) s₄) E s₃) E s₂ := by
  refine wpAny_newObj_type (wpAny_newFunctionEnv hcell (by intro y hy; simp at hy) (fun h₁ hns₁ hsb₁ => ?_) hkind)
  dsimp only at hns₁ hsb₁ ⊢
  generalize hH2 : s₂.heap.push { cls := .type "list", dict := none, data := .seq ([] : List Value).toArray } = H2 at hns₁ hsb₁ ⊢
  have hC : H2.objs.size = s₂.heap.objs.size + 1 := by rw [← hH2, Heap.size_push]
  have hDC : s₂.heap.objs.size ≠ H2.objs.size := by rw [hC]; exact Nat.ne_of_lt (Nat.lt_succ_self _)
  have below : ∀ b, b < s₂.heap.objs.size → b ≠ H2.objs.size ∧ b ≠ s₂.heap.objs.size := fun b hb => ⟨by rw [hC]; exact Nat.ne_of_lt (Nat.lt_succ_of_lt hb), Nat.ne_of_lt hb⟩
  have hIlt : I < s₂.heap.objs.size := Heap.lt_size hst
  have W : Walks prog w A I [I] [I] n (fun i v => ∃ t, v = .int (a + (i : Int)) t) (fun i h => IsRangeIter h I (a + (i : Nat) * 1) ((n : Int) - (i : Nat)) 1) := range_walks hh a n
  have old : ∀ b o, s₂.heap.get? b = some o → h₁.get? b = some o := fun b o e => hsb₁.extBut b o (below b (Heap.lt_size e)).1 (Heap.get?_push_of_some _ (hH2 ▸ Heap.get?_push_of_some _ e))
  have hacc : h₁.get? s₂.heap.objs.size = some (lst []) := hsb₁.extBut _ _ hDC (Heap.get?_push_of_some _ (hH2 ▸ Heap.get?_push_size _ rfl))
  have hst₁ : IsRangeIter h₁ I (a + (0 : Nat) * 1) ((n : Int) - (0 : Nat)) 1 := old _ _ hst
  have fresh : ∀ a, s₂.heap.objs.size ≤ a → s₂.heap.get? a = none := fun a ha => by
    cases e : s₂.heap.get? a with
    | none => rfl
    | some o' => exact absurd (Heap.lt_size e) (Nat.not_lt.mpr ha)
  have fresh₀ : ∀ a, s₂.heap.objs.size ≤ a → h₀.get? a = none := fun a ha => by
    cases e : h₀.get? a with
    | none => rfl
    | some o' => have := F.keep a o' e; rw [fresh a ha] at this; cases this
  have hD₀ : h₀.get? s₂.heap.objs.size = none := fresh₀ _ (Nat.le_refl _)
  have hC₀ : h₀.get? H2.objs.size = none := fresh₀ _ (by rw [hC]; exact Nat.le_succ _)
  have hLlt : L < s₂.heap.objs.size := F.ns.lt
  have hDL : s₂.heap.objs.size ≠ L := Ne.symm (below L hLlt).2
  have hCL : H2.objs.size ≠ L := Ne.symm (below L hLlt).1
  have hCI : I ≠ H2.objs.size := (below I hIlt).1
  have hDI : I ≠ s₂.heap.objs.size := (below I hIlt).2
  have off₀ : Off3 I H2.objs.size s₂.heap.objs.size news := Off3.of fun p hp => ⟨off p hp, (below _ (Heap.lt_size (N p hp).1)).1, (below _ (Heap.lt_size (N p hp).1)).2⟩
  have offm := off₀.mem
  have N₁ : News h₀ L h₁ ((s₂.heap.objs.size, lst []) :: news) := fun p hp => by
    rcases List.mem_cons.mp hp with rfl | hp
    · exact ⟨hacc, hDL, hD₀⟩
    · exact ⟨old _ _ (N p hp).1, (N p hp).2⟩
  have loop : ∀ s₃ : Shared, s₃ = { s₂ with heap := h₁, toks := s₂.toks + ([] : List (Str × Value)).length } →
      codeAny (model prog w) A (.compLoop (comp2 (.Name x pe) (.Name x px) i1 (.Name y py) i2 ct scope pos) 0 (.ref I) (.ref s₂.heap.objs.size) (compEnvC scope cl H2.objs.size env))
        (RR (.ref s₂.heap.objs.size) H2.objs.size) s₃ := by
    rintro s₃ rfl
    refine outLoop hh
      (fun k s' => ∃ h' tk i ys zs m', s' = { s₂ with heap := h', toks := tk } ∧ i ≤ n ∧ k = n + 1 - i ∧ IntsAre ys zs ∧ zs.length ≤ i * ns.length ∧ IsRangeIter h' I (a + (i : Nat) * 1) ((n : Int) - (i : Nat)) 1 ∧ Fr h₀ L h' m ∧ h'.Ns H2.objs.size m' ∧ News h₀ L h' ((s₂.heap.objs.size, lst ys) :: news) ∧
        (zs = [] ↔ ∀ (i' : Nat) o, i' < i → o ∈ ns → p (a + i') o = false)) ?_ (n + 1)
      ⟨h₁, _, 0, [], [], _, rfl, Nat.zero_le _, rfl, .nil, by simp, hst₁, F.keeps old, hns₁, N₁, by simp⟩
    rintro k' s' ⟨h', tk, i, ys, zs, m', rfl, hi', hk', hz', hl', hst', F', hn', N', hp'⟩
    by_cases hlt : i < n
    · refine W.item i _ _ _ hlt hst' fun v h₂ tk₂ hPv hst₂ hk₂ => ?_
      obtain ⟨t, rfl⟩ := hPv
      refine wpAny_assign_Name (wpAny_storeName_local (lookup_relabel_local hx) (hn'.at' fun o e => hk₂ _ o (by simpa using Ne.symm hCI) e) (fun h₃ hn₃ hs₃ => ?_) (by simp [compEnvC, relabel, hkind]))
      have hst₃ : IsRangeIter h₃ I (a + ((i + 1 : Nat) : Int) * 1) ((n : Int) - (i + 1 : Nat)) 1 := hs₃.extBut _ _ hCI hst₂
      obtain ⟨oI, heI⟩ : ∃ o, h₃.get? I = some o := ⟨_, hst₃⟩
      obtain ⟨oC, heC, hoC⟩ := ns_obj hn₃
      have F₃ : Fr h₀ L h₃ m := (fr_but F' hk₂ hIL hI₀).change hs₃ hCL hC₀
      have N₂ : News h₀ L h₂ ((s₂.heap.objs.size, lst ys) :: news) := news_but N' hk₂ fun p hp => by
        rcases List.mem_cons.mp hp with rfl | hp
        · exact Ne.symm hDI
        · exact (offm p hp).1
      have N₃ : News h₀ L h₃ ((I, oI) :: (H2.objs.size, oC) :: (s₂.heap.objs.size, lst ys) :: news) := fun p hp => by
        rcases List.mem_cons.mp hp with rfl | hp
        · exact ⟨heI, Ne.symm hIL, hI₀⟩
        · rcases List.mem_cons.mp hp with rfl | hp
          · exact ⟨heC, hCL, hC₀⟩
          · have z := N₂ p hp
            refine ⟨hs₃.extBut _ _ ?_ z.1, z.2⟩
            rcases List.mem_cons.mp hp with rfl | hp
            · exact hDC
            · exact (offm p hp).2.1
      refine TI (a + i) t I oI H2.objs.size oC s₂.heap.objs.size ys _ h₃ _ _ _ hoC (by simp) F₃ N₃ off₀ ⟨hCI, hDI, Ne.symm hDC⟩ fun h₄ tk₄ F₄ N₄ => ?_
      refine ⟨hs2 _ _, ?_⟩
      have ha₄ : (a2, listOf vs.toArray k) ∈ ((I, oI) :: (H2.objs.size, oC) :: (s₂.heap.objs.size, lst ys) :: news) := by simp [ha]
      have hl₄ : h₄.IsList a2 vs.toArray := ⟨_, (N₄ _ ha₄).1, rfl, _, rfl⟩
      refine wpAny_pyIter_list hl₄ ?_
      have up : ∀ b o, h₄.get? b = some o → (h₄.push { cls := .type "list_iterator", data := .fields #[.ref a2, .int 0 0] }).get? b = some o := fun b o e => Heap.get?_push_of_some _ e
      have hJ : (h₄.push { cls := .type "list_iterator", data := .fields #[.ref a2, .int 0 0] }).IsListIter h₄.objs.size a2 0 := ⟨_, Heap.get?_push_size _ rfl, rfl, rfl⟩
      have N₅ := N₄.grown up
      have ne : ∀ b o, h₄.get? b = some o → b ≠ h₄.objs.size := fun b o e => Nat.ne_of_lt (Heap.lt_size e)
      have eI := (N₄ (I, oI) (by simp)).1
      have eC := (N₄ (H2.objs.size, oC) (by simp)).1
      have eD := (N₄ (s₂.heap.objs.size, lst ys) (by simp)).1
      have hqx : (fun z => if z = x then some (Value.int (a + i) t) else m' z) x = some (.int (a + i) t) := by simp
      have loop2 := two_inner (prog := prog) (w := w) (A := A) (s := s₂) (h₀ := h₀) (L := L) (m := m) (env := env) (ct := ct) (i1 := i1) (i2 := i2) (x := x) (y := y) (pe := pe) (px := px) (py := py) (scope := scope) (cl := cl) (pos := pos) (I := I) (J := h₄.objs.size) (C := H2.objs.size) (D := s₂.heap.objs.size) (a2 := a2) (oI := oI) (q := a + i) (t := t) (nw := news) (p := p) (tk := tk₄)
        (R := fun r s₅ => match r with | .ok _ => ∃ kk, kk < k' ∧ (fun k s' => ∃ h' tk i ys zs m', s' = { s₂ with heap := h', toks := tk } ∧ i ≤ n ∧ k = n + 1 - i ∧ IntsAre ys zs ∧ zs.length ≤ i * ns.length ∧ IsRangeIter h' I (a + (i : Nat) * 1) ((n : Int) - (i : Nat)) 1 ∧ Fr h₀ L h' m ∧ h'.Ns H2.objs.size m' ∧ News h₀ L h' ((s₂.heap.objs.size, lst ys) :: news) ∧
          (zs = [] ↔ ∀ (i' : Nat) o, i' < i → o ∈ ns → p (a + i') o = false)) kk s₅ | .error _ => False)
        hh hkind hx hy hxy hdx ha hi TT ⟨by omega, by omega⟩ (F₄.keeps up) ((hoC.ns eC).at' (up _)) hqx (fun p hp => N₅ p (by
          rcases List.mem_cons.mp hp with rfl | hp
          · simp
          · exact List.mem_cons_of_mem _ (List.mem_cons_of_mem _ hp))) hC₀ hCL (next_is_new F₄) (Nat.ne_of_lt F₄.ns.lt) hJ (Ne.symm (ne _ _ eC)) (Ne.symm (ne _ _ eD)) (Ne.symm (ne _ _ eI)) (Ne.symm hDC) hCI hDI (ne _ _ (N₄ _ ha₄).1)
        (fun p hp => ⟨ne _ _ (N₄ p (by simp [hp])).1, (offm p hp).2.1, (offm p hp).2.2⟩) hz' (by
          have h9 : (i + 1) * ns.length ≤ n * ns.length := Nat.mul_le_mul_right _ hlt
          rw [Nat.add_mul, Nat.one_mul] at h9
          omega)
        (fun h₆ tk₆ ys₆ zs₆ m₆ F₆ n₆ N₆ hz₆ hl₆ hp₆ => by
          refine ⟨n + 1 - (i + 1), by omega, h₆, tk₆, i + 1, ys₆, zs₆, m₆, rfl, hlt, rfl, hz₆, by rw [Nat.add_mul, Nat.one_mul]; omega, ?_, F₆, n₆, fun p hp => N₆ p (List.mem_cons_of_mem _ hp), ?_⟩
          · have e : some oI = some _ := heI.symm.trans hst₃
            exact (N₆ (I, oI) (by simp)).1.trans e
          · rw [hp₆, hp']
            constructor
            · rintro ⟨e1, e2⟩ i' o hi₇ ho
              by_cases hii : i' < i
              · exact e1 i' o hii ho
              · obtain rfl : i' = i := by omega
                exact e2 o ho
            · intro e
              exact ⟨fun i' o hi₇ ho => e i' o (by omega) ho, fun o ho => e i o (by omega) ho⟩)
      refine inStart loop2 ?_
      refine (Walks.list (prog := prog) (w := w) (A := A) hh h₄.objs.size a2 (ne _ _ (N₄ _ ha₄).1) vs.toArray).self 0 _ _ _ ⟨hJ, hl₄.push _⟩ ?_
      exact loop2
    · obtain rfl : i = n := by omega
      refine W.done _ _ _ hst' fun h₂ tk₂ hk₂ => ?_
      exact hRR _ _ h₂ tk₂ _ ys zs (fr_but F' hk₂ hIL hI₀) (news_but N' hk₂ fun p hp => by
        rcases List.mem_cons.mp hp with rfl | hp
        · exact Ne.symm hDI
        · exact (offm p hp).1) off₀.one (hn'.at' fun o e => hk₂ _ o (by simpa using Ne.symm hCI) e) hC₀ hCL (Ne.symm hDC) (fun p hp => (offm p hp).2.1) hz' hl' hp'
  exact codeAny_compStart_list (loop _ rfl) (W.self 0 _ _ _ hst₁ (loop _ rfl))
end
end Mine
end
section
set_option maxHeartbeats 2000000
namespace Mine
open PySem PySem.Spec PySem.Calls PyProof.Rows PyProof.Rows.LCg PyProof.Rows.LCt PySem.W
section
variable {prog : Program} {w : World} {A : Around} {E : Value → Shared → Prop} {s : Shared} {h₀ : Heap} {L : Addr} {m : Str → Option Value} {env : Env}
def TwoSrc (prog : Program) (w : World) (A : Around) (h₀ : Heap) (L : Addr) (m : Str → Option Value) (env : Env) (ct i2 : Expr) (x y : Str) (scope : Scope) (cl : List (Str × Addr)) (Q : Value → Shared → Prop) (xv : Value) (s₁ : Shared) : Prop :=
  ∃ (r : Addr) (a b : Int) (t u v : Tok) (n : Nat) (news : List (Addr × Obj)) (a2 : Addr) (vs : List Value) (ns : List Int) (k : Nat) (p : Int → Int → Bool), xv = .ref r ∧ A.handled = none ∧ Fr h₀ L s₁.heap m ∧ News h₀ L s₁.heap news ∧ IsRange s₁.heap r a b 1 t u v ∧ Builtin.Range.small a b 1 = true ∧ Builtin.Range.rangeSize a b 1 = ((n : Nat) : Int) ∧ n * ns.length ≤ sizeLine ∧
    (a2, listOf vs.toArray k) ∈ news ∧ IntsAre vs ns ∧ (∀ g, TwoIter prog w A h₀ L m env i2 x scope cl { s₁ with heap := g } a2 news) ∧ (∀ g, TwoTest prog w A h₀ L m env ct x y scope cl { s₁ with heap := g } news (fun q => a ≤ q ∧ q < a + n) ns p) ∧
    (∀ D ys zs h tk, Fr h₀ L h m → News h₀ L h ((D, lst ys) :: news) → Off1 D news → IntsAre ys zs → zs.length ≤ n * ns.length → (zs = [] ↔ ∀ (i : Nat) o, i < n → o ∈ ns → p (a + i) o = false) → Q (.ref D) { s₁ with heap := h, toks := tk })
theorem TwoSrc.intro {ct i2 : Expr} {x y : Str} {scope : Scope} {cl : List (Str × Addr)} {Q : Value → Shared → Prop} {s₁ : Shared} {r a2 : Addr} {a b : Int} {t u v : Tok} {n : Nat} {news : List (Addr × Obj)} {vs : List Value} {ns : List Int} {k : Nat} (p : Int → Int → Bool)
    (hh : A.handled = none) (F : Fr h₀ L s₁.heap m) (N : News h₀ L s₁.heap news) (hr : IsRange s₁.heap r a b 1 t u v) (hsm : Builtin.Range.small a b 1 = true) (hn : Builtin.Range.rangeSize a b 1 = ((n : Nat) : Int))
    (ha : (a2, listOf vs.toArray k) ∈ news) (hi : IntsAre vs ns) (hsz : n * ns.length ≤ sizeLine)
    (hI : ∀ g, TwoIter prog w A h₀ L m env i2 x scope cl { s₁ with heap := g } a2 news) (hT : ∀ g, TwoTest prog w A h₀ L m env ct x y scope cl { s₁ with heap := g } news (fun q => a ≤ q ∧ q < a + n) ns p)
    (fin : ∀ D ys zs h tk, Fr h₀ L h m → News h₀ L h ((D, listOf ys.toArray ys.length) :: news) → Off1 D news → IntsAre ys zs → zs.length ≤ n * ns.length → (zs = [] ↔ ∀ (i : Nat) o, i < n → o ∈ ns → p (a + i) o = false) → Q (.ref D) { s₁ with heap := h, toks := tk }) :
    TwoSrc prog w A h₀ L m env ct i2 x y scope cl Q (.ref r) s₁ := ⟨r, a, b, t, u, v, n, news, a2, vs, ns, k, p, rfl, hh, F, N, hr, hsm, hn, hsz, ha, hi, hI, hT, fin⟩
theorem comp_two {ct i1 i2 : Expr} {x y : Str} {pe px py : Pos} {scope : Scope} {cl : List (Str × Addr)} {pos : Pos} {Q : Value → Shared → Prop} (_F₀ : Fr h₀ L s.heap m)
    (hclos : closureFor scope env = pure cl) (hcell : ∀ y ∈ scope.names, y.2 ≠ .cell) (hkind : scope.kind = .function)
    (hnames : ∀ y ∈ scope.names, y.2 = .local → scope.names.lookup y.1 = some .local) (hx : scope.names.lookup x = some .local) (hy : scope.names.lookup y = some .local) (hxy : x ≠ y) (hdx : (x == ("__debug__" : Str)) = false)
    (hs2 : ∀ C x, foldedSetIterable i2 (compEnvC scope cl C env) x = pure x)
    (h : wpAny (model prog w) A (eval i1 env) (TwoSrc prog w A h₀ L m env ct i2 x y scope cl Q) E s)
    (hs : ∀ x, foldedSetIterable i1 env x = pure x := by intro _; rfl) :
    wpAny (model prog w) A (eval (comp2 (.Name x pe) (.Name x px) i1 (.Name y py) i2 ct scope pos) env) Q E s := by
  rw [eval_ListComp]
  refine wpAny_comprehension_free (use := none) rfl hs hclos hkind hnames (wpAny_mono h (fun xv s₁ h₁ => ?_) fun _ _ e => e)
  obtain ⟨r, a, b, t, u, v, n, news, a2, vs, ns, k, p, rfl, hh, F, N, hr, hsm, hn, hsz, ha, hi, hI, hT, fin⟩ := h₁
  refine wpAny_pyIter_range hr hsm ?_
  refine two_block (n := n) (a := a) hh hcell hkind hx hy hxy hdx hs2 (by show IsRangeIter _ _ _ _ _; rw [hn]; simpa using Heap.get?_push_size _ rfl)
    (F.keeps fun _ _ e => Heap.get?_push_of_some _ e) (N.grown fun _ _ e => Heap.get?_push_of_some _ e) (Nat.ne_of_lt F.ns.lt) (next_is_new F) (fun p hp => Nat.ne_of_lt (Heap.lt_size (N p hp).1)) ha hi (hI _) (hT _) hsz ?_
  intro D C h tk m' ys zs F' N' o1 hn hC₀ hCL hCD offC hz hl hp
  refine ⟨m', hn, fun h'' hs'' => fin D ys zs h'' tk (F'.change hs'' hCL hC₀) (fun p hp => ?_) o1 hz hl hp⟩
  refine ⟨hs''.extBut _ _ ?_ (N' p hp).1, (N' p hp).2⟩
  rcases List.mem_cons.mp hp with rfl | hp
  · exact Ne.symm hCD
  · exact offC p hp
end
end Mine
end
section
open PySem PySem.W PyProof.Rows PySem.Spec PySem.Calls
set_option Elab.async false
namespace Mine
theorem or_low {x a3 : Int} {n : Int} (hx : 0 ≤ x) (h3 : 0 ≤ a3) (h3' : a3 < (2:Int) ^ n.toNat) : Builtin.bitOr (x * 2 ^ n.toNat) a3 = x * 2 ^ n.toNat + a3 := by
  rw [bitOr_and]
  have hp : 0 ≤ x * 2 ^ n.toNat := Int.mul_nonneg hx (Int.le_of_lt (Int.pow_pos (by decide)))
  rw [bitAnd_pp hp h3]
  generalize hk : n.toNat = k at *
  obtain ⟨X, rfl⟩ := Int.eq_ofNat_of_zero_le hx
  obtain ⟨Y, rfl⟩ := Int.eq_ofNat_of_zero_le h3
  have e : ((X : Int) * 2 ^ k).toNat = X <<< k := by
    rw [Nat.shiftLeft_eq]
    have : ((X : Int) * 2 ^ k) = ((X * 2 ^ k : Nat) : Int) := by push_cast; rfl
    rw [this]; rfl
  rw [e]
  have hY : Y < 2 ^ k := by
    have : ((Y : Nat) : Int) < ((2 ^ k : Nat) : Int) := by push_cast; exact h3'
    omega
  have := Nat.shiftLeft_add_eq_or_of_lt hY X
  have h2 := PyProof.Rows.nat_or_add_and (X <<< k) Y
  have h3 : ((Y : Int)).toNat = Y := rfl
  rw [h3]
  have : (X <<< k) &&& Y = 0 := by omega
  rw [this]; simp

theorem d3_s1 {a12 a3 b b1 b2 n M : Int} (hM : (2:Int) ^ n.toNat = M) (hb : b = b1 * M + b2) (hb1 : 0 < b1) (hM0 : 0 < M) (ha' : a12 < b) (h3 : 0 ≤ a3) (h3' : a3 < M) (h : Int.fdiv a12 (2 ^ n.toNat) = b1) :
    (1 * 2 ^ n.toNat - 1) * b + (Builtin.bitOr ((a12 - b1 * 2 ^ n.toNat + b1) * 2 ^ n.toNat) a3 - (1 * 2 ^ n.toNat - 1) * b2) = a12 * M + a3 ∧
    Builtin.bitOr ((a12 - b1 * 2 ^ n.toNat + b1) * 2 ^ n.toNat) a3 - (1 * 2 ^ n.toNat - 1) * b2 < b := by
  have ht : 0 ≤ a12 - b1 * M := by
    rw [hM, Int.fdiv_eq_ediv_of_nonneg _ (Int.le_of_lt hM0)] at h
    have := Int.ediv_mul_le a12 (b := M) (by omega)
    rw [h] at this; omega
  rw [or_low (by rw [hM]; omega) h3 (by rw [hM]; exact h3'), hM]
  generalize hg : a12 - b1 * M = t at *
  have e1 : a12 = b1 * M + t := by omega
  subst e1
  subst hb
  have hlt : t < b2 := by omega
  have hm := Int.mul_le_mul_of_nonneg_right (show t + 1 ≤ b2 by omega) (Int.le_of_lt hM0)
  simp only [Int.add_mul, Int.sub_mul, Int.mul_add, Int.mul_sub, Int.one_mul, Int.mul_one] at hm ⊢
  have c1 : M * b2 = b2 * M := Int.mul_comm _ _
  have c2 : M * (b1 * M) = b1 * M * M := Int.mul_comm _ _
  constructor
  · omega
  · omega
theorem d3_s2 {a12 a3 b b1 b2 n M q r : Int} (hM : (2:Int) ^ n.toNat = M) (hb : b = b1 * M + b2) (hb2 : 0 ≤ b2) (hM0 : 0 < M) (h3 : 0 ≤ a3) (h3' : a3 < M) (hqr : a12 = q * b1 + r) (hr0 : 0 ≤ r) (hr : r < b1) (hq : 0 ≤ q) :
    q * b + (Builtin.bitOr (r * 2 ^ n.toNat) a3 - q * b2) = a12 * M + a3 ∧ Builtin.bitOr (r * 2 ^ n.toNat) a3 - q * b2 < b := by
  rw [or_low hr0 h3 (by rw [hM]; exact h3'), hM]
  subst hqr
  subst hb
  have hm := Int.mul_le_mul_of_nonneg_right (show r + 1 ≤ b1 by omega) (Int.le_of_lt hM0)
  have hn := Int.mul_nonneg hq hb2
  simp only [Int.add_mul, Int.sub_mul, Int.mul_add, Int.mul_sub, Int.one_mul, Int.mul_one, Int.mul_assoc] at hm ⊢
  constructor
  · omega
  · omega
theorem d3_t {A b q r : Int} (h : q * b + r = A) (hr : r < 0) : (q - 1) * b + (r + b) = A ∧ r + b < b := by
  rw [Int.sub_mul, Int.one_mul]
  omega
theorem d3_e {A b q r : Int} (h : q * b + r = A) (hr : ¬ r < 0) (hr' : r < b) : q = A / b ∧ r = A % b := by
  have := (Int.ediv_emod_unique (a := A) (b := b) (r := r) (q := q) (by omega)).mpr ⟨by rw [Int.mul_comm b q]; omega, by omega, hr'⟩
  exact ⟨this.1.symm, this.2.symm⟩
end Mine
end
section
set_option Elab.async false
namespace Mine
def WInv (W big left a h r : Int) : Prop := 0 ≤ a ∧ a ≤ 6 ∧ a % W = 0 ∧ h * big + r = left / 2 ^ a.toNat ∧ 0 ≤ r ∧ r < big ∧ 0 ≤ h ∧ h ≤ left
theorem winv_start {W big left a : Int} (ha : 0 ≤ a) (ha' : a ≤ 6) (hm : a % W = 0) (hl : 0 ≤ left) (hb : left < big * 2 ^ a.toNat) : WInv W big left a 0 (left / 2 ^ a.toNat) := by
  have hp : (0 : Int) < 2 ^ a.toNat := Int.pow_pos (by decide)
  refine ⟨ha, ha', hm, by rw [Int.zero_mul, Int.zero_add], Int.ediv_nonneg hl (by omega), Int.ediv_lt_of_lt_mul hp hb, by omega, by omega⟩
theorem winv_step {W big left a h r q r' M a3 : Int} (hW : 1 ≤ W) (I : WInv W big left a h r) (hM : (2 : Int) ^ W.toNat = M) (h3 : a3 = (left / 2 ^ (a - W).toNat) % M) (hqr : r * M + a3 = q * big + r') (hr0 : 0 ≤ r') (hr1 : r' < big) (hq : 0 ≤ q) (ha : 0 < a) (hl : 0 ≤ left) :
    WInv W big left (a - W) (h * M + q) r' := by
  obtain ⟨i1, i2, i3, i4, i5, i6, i7, i8⟩ := I
  have hWa : W ≤ a := by
    have := Int.emod_lt_of_pos a (b := W) (by omega)
    by_cases hc : a < W
    · rw [Int.emod_eq_of_lt i1 hc] at i3; omega
    · omega
  have hM0 : 0 < M := by rw [← hM]; exact Int.pow_pos (by decide)
  have e : left / 2 ^ a.toNat = left / 2 ^ (a - W).toNat / M := by
    have en : a.toNat = (a - W).toNat + W.toNat := by omega
    rw [en, Int.pow_add, hM, Int.ediv_ediv_of_nonneg (Int.le_of_lt (Int.pow_pos (by decide)))]
  rw [e] at i4
  have hy := Int.mul_ediv_add_emod (left / 2 ^ (a - W).toNat) M
  rw [← h3, ← i4] at hy
  have key : (h * M + q) * big + r' = left / 2 ^ (a - W).toNat := by
    rw [← hy, Int.mul_add, Int.add_mul]
    have c1 : M * (h * big) = h * M * big := by rw [← Int.mul_assoc, Int.mul_comm M h]
    have c2 : M * r = r * M := Int.mul_comm _ _
    omega
  have hbig : 1 ≤ big := by omega
  have hh : 0 ≤ h * M + q := by
    have := Int.mul_nonneg i7 (Int.le_of_lt hM0); omega
  refine ⟨by omega, by omega, ?_, key, hr0, hr1, hh, ?_⟩
  · rw [Int.sub_emod, i3]; simp
  · have h1 : (h * M + q) * 1 ≤ (h * M + q) * big := Int.mul_le_mul_of_nonneg_left hbig hh
    have h2 : left / 2 ^ (a - W).toNat ≤ left := Int.ediv_le_self _ hl
    rw [Int.mul_one] at h1
    omega
theorem winv_end {W big left a h r minutes hour parts S : Int} (I : WInv W big left a h r) (ha : ¬ 0 < a) (hS : 0 < S) (hp : 0 < parts) (hbig : big = hour * parts * S) (hleft : left = (minutes * parts + parts - 1) * S) (hh : 0 < hour) :
    h = minutes / hour ∧ r / S / parts = minutes % hour := by
  obtain ⟨i1, i2, i3, i4, i5, i6, i7, i8⟩ := I
  have ea : a = 0 := by omega
  subst ea
  have e0 : left / 2 ^ (Int.toNat 0) = left := by
    show left / 2 ^ 0 = left
    simp
  rw [e0] at i4
  subst hbig hleft
  have er : r = S * ((minutes - h * hour) * parts + (parts - 1)) := by
    have : r = (minutes * parts + parts - 1) * S - h * (hour * parts * S) := by omega
    rw [this, Int.sub_mul minutes, Int.mul_add, Int.mul_sub, Int.mul_sub]
    have c1 : h * (hour * parts * S) = S * (h * hour * parts) := by
      rw [Int.mul_comm S, ← Int.mul_assoc, ← Int.mul_assoc]
    have c2 : (minutes * parts + parts - 1) * S = S * (minutes * parts) + (S * parts - S * 1) := by
      rw [Int.mul_comm _ S, Int.add_sub_assoc, Int.mul_add, Int.mul_sub]
    rw [c1, c2]; omega
  generalize hμ : minutes - h * hour = μ at *
  have hd : r / S = μ * parts + (parts - 1) := by
    rw [er]; exact Int.mul_ediv_cancel_left _ (by omega)
  have hd2 : (μ * parts + (parts - 1)) / parts = μ := by
    rw [Int.add_comm, Int.add_mul_ediv_right _ _ (by omega), Int.ediv_eq_zero_of_lt (by omega) (by omega), Int.zero_add]
  have hρ0 : 0 ≤ μ * parts + (parts - 1) := by
    rw [← hd]; exact Int.ediv_nonneg i5 (by omega)
  have hρ1 : μ * parts + (parts - 1) < hour * parts := by
    rw [← hd]; exact Int.ediv_lt_of_lt_mul hS i6
  have hμ0 : 0 ≤ μ := by rw [← hd2]; exact Int.ediv_nonneg hρ0 (by omega)
  have hμ1 : μ < hour := by
    rw [← hd2]
    exact Int.ediv_lt_of_lt_mul hp hρ1
  have hm : minutes = hour * h + μ := by rw [Int.mul_comm]; omega
  have := (Int.ediv_emod_unique (a := minutes) (b := hour) (r := μ) (q := h) hh).mpr ⟨by omega, hμ0, hμ1⟩
  exact ⟨this.1.symm, by rw [hd, hd2]; exact this.2.symm⟩
end Mine
end
section
set_option Elab.async false
namespace Mine
def WOk (hp W : Int) : Prop := 1 ≤ W ∧ W ≤ 4 ∧ (2 ≤ W → 4 ≤ hp) ∧ (3 ≤ W → 16 ≤ hp) ∧ (4 ≤ W → 64 ≤ hp)
def WRange (hp W : Int) : Prop := (W = 1 ∧ hp < 4) ∨ (W = 2 ∧ 4 ≤ hp ∧ hp < 16) ∨ (W = 3 ∧ 16 ≤ hp ∧ hp < 64) ∨ (W = 4 ∧ 64 ≤ hp ∧ hp < 256)
theorem wok_start {hp : Int} : WOk hp 1 := ⟨by decide, by decide, by omega, by omega, by omega⟩
theorem four_pow {W : Int} (h1 : 1 ≤ W) (h2 : W ≤ 4) : (W = 1 ∧ (4 : Int) ^ W.toNat = 4) ∨ (W = 2 ∧ (4 : Int) ^ W.toNat = 16) ∨ (W = 3 ∧ (4 : Int) ^ W.toNat = 64) ∨ (W = 4 ∧ (4 : Int) ^ W.toNat = 256) := by
  have : W = 1 ∨ W = 2 ∨ W = 3 ∨ W = 4 := by omega
  rcases this with rfl | rfl | rfl | rfl
  · exact .inl ⟨rfl, by decide⟩
  · exact .inr (.inl ⟨rfl, by decide⟩)
  · exact .inr (.inr (.inl ⟨rfl, by decide⟩))
  · exact .inr (.inr (.inr ⟨rfl, by decide⟩))
theorem wok_next {hp W : Int} (h : WOk hp W) (ht : 4 ^ W.toNat ≤ hp) (hp' : hp < 256) : (1 ≤ W + 1 ∧ W + 1 ≤ 4) ∧ WOk hp (W + 1) := by
  obtain ⟨h1, h2, _⟩ := h
  rcases four_pow h1 h2 with ⟨rfl, e⟩ | ⟨rfl, e⟩ | ⟨rfl, e⟩ | ⟨rfl, e⟩ <;> rw [e] at ht
  · exact ⟨by omega, by omega, by omega, by omega, by omega, by omega⟩
  · exact ⟨by omega, by omega, by omega, by omega, by omega, by omega⟩
  · exact ⟨by omega, by omega, by omega, by omega, by omega, by omega⟩
  · omega
theorem wok_cases {hp W : Int} (h : WOk hp W) (ht : ¬ 4 ^ W.toNat ≤ hp) : WRange hp W := by
  obtain ⟨h1, h2, h3, h4, h5⟩ := h
  unfold WRange
  rcases four_pow h1 h2 with ⟨rfl, e⟩ | ⟨rfl, e⟩ | ⟨rfl, e⟩ | ⟨rfl, e⟩ <;> rw [e] at ht <;> omega
theorem wrange_lits {hp W : Int} (h : WRange hp W) : W = 1 ∨ W = 2 ∨ W = 3 ∨ W = 4 := by
  rcases h with h | h | h | h <;> omega
theorem wok_meas {hp W : Int} (h : WOk hp W) : (5 - (W + 1)).toNat < (5 - W).toNat := by
  obtain ⟨h1, h2, _⟩ := h
  omega
abbrev Loop2 (W big left a h r : Int) : Prop := (0 ≤ a ∧ a ≤ 6 ∧ a % W = 0 ∧ 0 ≤ h ∧ h ≤ 10000 ∧ 0 ≤ r ∧ r < big) ∧ WInv W big left a h r
theorem loop2_of {W big left a h r : Int} (I : WInv W big left a h r) (hl : left ≤ 10000) : Loop2 W big left a h r := ⟨⟨I.1, I.2.1, I.2.2.1, I.2.2.2.2.2.2.1, Int.le_trans I.2.2.2.2.2.2.2 hl, I.2.2.2.2.1, I.2.2.2.2.2.1⟩, I⟩
structure BigOk (W M big : Int) : Prop where
  p2 : 0 < big.fdiv (2 ^ W.toNat) ∧ big.fdiv (2 ^ W.toNat) < M
  p3 : 0 ≤ big.fmod (2 ^ W.toNat) ∧ big.fmod (2 ^ W.toNat) < M
  p4 : big = big.fdiv (2 ^ W.toNat) * M + big.fmod (2 ^ W.toNat)
  p7 : big < 65536
theorem bigOk_of {W M big : Int} (hM : (2 : Int) ^ W.toNat = M) (hM0 : 0 < M) (h1 : M ≤ big) (h2 : big < M * M) (h3 : big < 65536) : BigOk W M big := by
  have e1 : big.fdiv (2 ^ W.toNat) = big / M := by rw [hM, Int.fdiv_eq_ediv_of_nonneg _ (Int.le_of_lt hM0)]
  have e2 : big.fmod (2 ^ W.toNat) = big % M := by rw [hM, Int.fmod_eq_emod_of_nonneg _ (Int.le_of_lt hM0)]
  refine ⟨?_, ?_, ?_, h3⟩
  · rw [e1]; exact ⟨by have := Int.le_ediv_of_mul_le hM0 (show 1 * M ≤ big by omega); omega, Int.ediv_lt_of_lt_mul hM0 h2⟩
  · rw [e2]; exact ⟨Int.emod_nonneg _ (by omega), Int.emod_lt_of_pos _ hM0⟩
  · rw [e1, e2]
    have := Int.mul_ediv_add_emod big M
    rw [Int.mul_comm] at this; omega
section
variable {hour parts minutes W M : Int}
theorem pow_lits (h1 : W = 1 ∨ W = 2 ∨ W = 3 ∨ W = 4) (hM : (2 : Int) ^ W.toNat = M) : 0 < M ∧ (4 : Int) ^ W.toNat = M * M := by
  rcases h1 with rfl | rfl | rfl | rfl <;> subst hM <;> decide
theorem big1 (hr : WRange (hour * parts) W) (hM : (2 : Int) ^ W.toNat = M) (e2 : 2 * hour * parts = 2 * (hour * parts)) (c0 : 2 ≤ hour * parts) (t : 2 * hour * parts < 4 ^ W.toNat) : BigOk W M (hour * parts * 2 ^ (Int.toNat 1)) := by
  have e : (2 : Int) ^ (Int.toNat 1) = 2 := by decide
  rw [e]
  rw [e2] at t
  rcases hr with ⟨rfl, h⟩ | ⟨rfl, h, h'⟩ | ⟨rfl, h, h'⟩ | ⟨rfl, h, h'⟩ <;> subst hM
  · have f : (4 : Int) ^ (Int.toNat 1) = 4 := by decide
    omega
  · have f : (4 : Int) ^ (Int.toNat 2) = 16 := by decide
    exact bigOk_of rfl (by decide) (by show 4 ≤ _; omega) (by show _ < 16; omega) (by omega)
  · have f : (4 : Int) ^ (Int.toNat 3) = 64 := by decide
    exact bigOk_of rfl (by decide) (by show 8 ≤ _; omega) (by show _ < 64; omega) (by omega)
  · have f : (4 : Int) ^ (Int.toNat 4) = 256 := by decide
    exact bigOk_of rfl (by decide) (by show 16 ≤ _; omega) (by show _ < 256; omega) (by omega)
theorem big0 (hr : WRange (hour * parts) W) (hM : (2 : Int) ^ W.toNat = M) (c0 : 2 ≤ hour * parts) : BigOk W M (hour * parts * 2 ^ (Int.toNat 0)) := by
  have e : (2 : Int) ^ (Int.toNat 0) = 1 := by decide
  rw [e, Int.mul_one]
  rcases hr with ⟨rfl, h⟩ | ⟨rfl, h, h'⟩ | ⟨rfl, h, h'⟩ | ⟨rfl, h, h'⟩ <;> subst hM
  · exact bigOk_of rfl (by decide) (by show 2 ≤ _; omega) (by show _ < 4; omega) (by omega)
  · exact bigOk_of rfl (by decide) (by show 4 ≤ _; omega) (by show _ < 16; omega) (by omega)
  · exact bigOk_of rfl (by decide) (by show 8 ≤ _; omega) (by show _ < 64; omega) (by omega)
  · exact bigOk_of rfl (by decide) (by show 16 ≤ _; omega) (by show _ < 256; omega) (by omega)
theorem p7_1 (c1 : hour * parts < 256) : hour * parts * 2 ^ (Int.toNat 1) < 65536 := by
  have e : (2 : Int) ^ (Int.toNat 1) = 2 := by decide
  rw [e]; omega
theorem p7_0 (c1 : hour * parts < 256) : hour * parts * 2 ^ (Int.toNat 0) < 65536 := by
  have e : (2 : Int) ^ (Int.toNat 0) = 1 := by decide
  rw [e]; omega
theorem fm8 {x : Int} (hM : (2 : Int) ^ W.toNat = M) (hM0 : 0 < M) : 0 ≤ x.fmod (2 ^ W.toNat) ∧ x.fmod (2 ^ W.toNat) < M := by
  rw [hM, Int.fmod_eq_emod_of_nonneg _ (Int.le_of_lt hM0)]
  exact ⟨Int.emod_nonneg _ (by omega), Int.emod_lt_of_pos _ hM0⟩
theorem left_bd {S : Int} (hS : S = 1 ∨ S = 2) (mp0 : 0 ≤ minutes * parts) (p0 : 1 ≤ parts) (mp1 : minutes * parts + parts ≤ 16 * (hour * parts)) (c1 : hour * parts < 256) : 0 ≤ (minutes * parts + parts - 1) * S ∧ (minutes * parts + parts - 1) * S ≤ 10000 := by
  rcases hS with rfl | rfl <;> omega
theorem lstart {a S : Int} (hS : S = 1 ∨ S = 2) (ha : 0 ≤ a) (ha' : a ≤ 6) (hm : a % W = 0) (h16 : (16 : Int) ≤ 2 ^ a.toNat) (mp0 : 0 ≤ minutes * parts) (p0 : 1 ≤ parts) (mp1 : minutes * parts + parts ≤ 16 * (hour * parts)) (c0 : 2 ≤ hour * parts) (c1 : hour * parts < 256) :
    Loop2 W (hour * parts * S) ((minutes * parts + parts - 1) * S) a 0 (((minutes * parts + parts - 1) * S).fdiv (2 ^ a.toNat)) := by
  obtain ⟨l0, l1⟩ := left_bd hS mp0 p0 mp1 c1
  rw [Int.fdiv_eq_ediv_of_nonneg _ (by omega)]
  refine loop2_of (winv_start ha ha' hm l0 ?_) l1
  have hS0 : 0 ≤ hour * parts * S := by rcases hS with rfl | rfl <;> omega
  have h1 : hour * parts * S * 16 ≤ hour * parts * S * 2 ^ a.toNat := Int.mul_le_mul_of_nonneg_left h16 hS0
  rcases hS with rfl | rfl <;> omega
theorem lstep {a big left h r q r' : Int} (hS : left ≤ 10000) (l0 : 0 ≤ left) (hW : 1 ≤ W) (I : WInv W big left a h r) (hM : (2 : Int) ^ W.toNat = M) (hM0 : 0 < M) (hqr : r * M + (left.fdiv (2 ^ (a - W).toNat)).fmod (2 ^ W.toNat) = q * big + r') (hr0 : 0 ≤ r') (hr1 : r' < big) (hq : 0 ≤ q) (ha : 0 < a) :
    Loop2 W big left (a - W) (h * 2 ^ W.toNat + q) r' := by
  have hp : (0 : Int) < 2 ^ (a - W).toNat := Int.pow_pos (by decide)
  rw [hM, Int.fmod_eq_emod_of_nonneg _ (Int.le_of_lt hM0), Int.fdiv_eq_ediv_of_nonneg _ (Int.le_of_lt hp)] at hqr
  rw [hM]
  exact loop2_of (winv_step hW I hM rfl hqr hr0 hr1 hq ha l0) hS
theorem lend {a S h r : Int} (I : WInv W (hour * parts * S) ((minutes * parts + parts - 1) * S) a h r) (ha : ¬ 0 < a) (hS : S = 1 ∨ S = 2) (hp : 1 ≤ parts) (hh : 2 ≤ hour) : h = minutes / hour ∧ (r.fdiv S).fdiv parts = minutes % hour := by
  have hS0 : 0 < S := by omega
  have e := winv_end I ha hS0 (by omega : 0 < parts) rfl rfl (by omega)
  rw [Int.fdiv_eq_ediv_of_nonneg _ (by omega : 0 ≤ S), Int.fdiv_eq_ediv_of_nonneg _ (by omega : 0 ≤ parts)]
  exact e
end
end Mine
end
section
set_option Elab.async false
namespace Mine
/-- what _law_walked asks of its arguments -/
structure WPre (minutes hour parts : Int) : Prop where
  h0 : 2 ≤ hour
  h1 : hour ≤ 12
  p0 : 1 ≤ parts
  p1 : parts ≤ 16
  m0 : 0 ≤ minutes
  m1 : minutes < 16 * hour
  e2 : 2 * hour * parts = 2 * (hour * parts)
  c0 : 2 ≤ hour * parts
  c1 : hour * parts < 256
  mp0 : 0 ≤ minutes * parts
  mp1 : minutes * parts + parts ≤ 16 * (hour * parts)
theorem wpre_of {first t hour parts : Int} (h0 : 2 ≤ hour) (h1 : hour ≤ 12) (p0 : 1 ≤ parts) (p1 : parts ≤ 16) (f0 : 0 ≤ first) (f1 : first ≤ 12) (t0 : 0 ≤ t) (t1 : t ≤ hour) : WPre (first * t) hour parts := by
  have a1 : 0 ≤ first * t := Int.mul_nonneg f0 t0
  have a2 : first * t ≤ 12 * hour := by
    have := Int.mul_le_mul f1 t1 t0 (by omega : (0 : Int) ≤ 12)
    exact this
  have b1 : 2 * 1 ≤ hour * parts := Int.mul_le_mul h0 p0 (by omega) (by omega)
  have b2 : hour * parts ≤ 12 * 16 := Int.mul_le_mul h1 p1 (by omega) (by omega)
  have d1 : 0 ≤ first * t * parts := Int.mul_nonneg a1 (by omega)
  have d2 : (first * t + 1) * parts ≤ 16 * hour * parts := Int.mul_le_mul_of_nonneg_right (by omega) (by omega)
  have d3 : 16 * hour * parts = 16 * (hour * parts) := Int.mul_assoc _ _ _
  rw [Int.add_mul, Int.one_mul, d3] at d2
  exact ⟨h0, h1, p0, p1, a1, by omega, Int.mul_assoc _ _ _, by omega, by omega, d1, d2⟩
theorem parts_bd (x : Int) : 1 ≤ 1 + (x.fdiv 8).fmod 16 ∧ 1 + (x.fdiv 8).fmod 16 ≤ 16 := by
  rw [Int.fmod_eq_emod_of_nonneg _ (by decide)]
  omega
theorem look_bd (x : Int) : 0 ≤ x.fmod 8 ∧ x.fmod 8 < 8 := by
  rw [Int.fmod_eq_emod_of_nonneg _ (by decide)]
  omega
theorem walk_bd {first t hour : Int} (h0 : 2 ≤ hour) (h1 : hour ≤ 12) (f0 : 0 ≤ first) (f1 : first ≤ 12) (t0 : 0 ≤ t) (t1 : t ≤ hour) : 0 ≤ first * t / hour ∧ first * t / hour ≤ 12 ∧ 0 ≤ first * t % hour ∧ first * t % hour < hour := by
  have a1 : 0 ≤ first * t := Int.mul_nonneg f0 t0
  have a2 : first * t ≤ 12 * hour := Int.mul_le_mul f1 t1 t0 (by omega : (0 : Int) ≤ 12)
  exact ⟨Int.ediv_nonneg a1 (by omega), Int.ediv_le_of_le_mul (by omega) a2, Int.emod_nonneg _ (by omega), Int.emod_lt_of_pos _ (by omega)⟩
end Mine
end
section
open PySem PySem.W PyProof.Rows PySem.Spec PySem.Calls
set_option Elab.async false
set_option maxRecDepth 100000
set_option maxHeartbeats 8000000
namespace Mine
theorem div2 (w : World) (a b n : Int) (ta tb tn : Tok) (ha : 0 ≤ a) (ha' : a < 65536) (hb : 0 < b) (hb' : b < 65536) (hn : 0 ≤ n) (hn' : n ≤ 8) : Con (RowW.prog (OpenRow.toRowW (OpenLaw.row PySem.Challenge.rw_xg0011_01))) w (hd.heap_39 w.params) hd.view_39 (looseW hd.view_39 [Str.ofString "UTC_ZONES", Str.ofString "TIMEZONE_RE"]) 38 [.int a ta, .int b tb, .int n tn] 1 8 (fun _ _ => True) (OutT2 (a / b) (a % b)) := by
  w_top off
  k_with_none
  k_fill
  unfold Con
  intro mean mg mb dp un gd cn cs aa ccd cl outer A₀ base h₀ L m news s Q E B F X N T hk hin hd hu hret
  have hbl : (Builtin.Int.intBits a : Int) ≤ 64 := by
    have := intBits_le_64 (k := a) (by omega) (by omega)
    omega
  refine wpAny_call ?_
  k_dflt cell_enter
  have hlt := lt_of_news ‹News _ _ _ news›
  k_steps
  refine end_T2 (news := news) hret (by k_asm) (by assumption) (by k_mem) (by intro p hp; k_ownIn) ?_ (Int.fdiv_eq_ediv_of_nonneg a (by omega)) (Int.fmod_eq_emod_of_nonneg a (by omega))
  exact hlt

end Mine
end
section
open PySem PySem.W PyProof.Rows PySem.Spec PySem.Calls
set_option Elab.async false
set_option maxRecDepth 100000
set_option maxHeartbeats 8000000
namespace Mine
theorem call_div2 {w : World} {mean : ExcName → Option Value} {mg mb : Str → Option Value} {dp un : Nat} {gd : Option (List Code)} {cn : Str} {cs : Scope} {aa : Addr} {ccd : Value} {cl : List (Str × Addr)} {outer : List Env}
  {A₀ : Around} {base h₀ : Heap} {L : Addr} {m : Str → Option Value} {news : List (Addr × Obj)} {s : Shared} {Q E : Value → Shared → Prop} {a b n : Int} {ta tb tn : Tok}
  (B : Below A₀ base outer h₀ := by k_asm) (F : Fr h₀ L s.heap m := by k_asm) (X : Frag.In (hd.heap_39 w.params) h₀ := by k_asm) (N : News h₀ L s.heap news := by k_asm) (T : Top hd.view_39 (looseW hd.view_39 [Str.ofString "UTC_ZONES", Str.ofString "TIMEZONE_RE"]) mean mg mb h₀ := by k_asm) (hk : cs.kind = .function := by first | exact rfl | assumption)
  (hpre : 0 ≤ a ∧ a < 65536 ∧ 0 < b ∧ b < 65536 ∧ 0 ≤ n ∧ n ≤ 8) (hd : dp + 1 < recursionLimit := by ktr_room) (hu : un + 8 < cLine := by ktr_units)
  (ret : ∀ (q r : Int), q = a / b → r = a % b → a = q * b + r → 0 ≤ r → r < b → 0 ≤ q → q ≤ a → ∀ (D : Addr) (t u : Tok) (c : Nat) h' tk', Fr h₀ L h' m → News h₀ L h' ((D, ({ cls := .type "tuple", data := .seq #[.int q t, .int r u] c } : Obj)) :: news) → (∀ q ∈ news, q.1 < D) → Q (.ref D) { s with heap := h', toks := tk' }) :
  wpAny (model (RowW.prog (OpenRow.toRowW (OpenLaw.row PySem.Challenge.rw_xg0011_01))) w) (ktrTop dp un gd cn cs L aa ccd cl outer) (call (.ref 38) [.int a ta, .int b tb, .int n tn]) Q E s :=
  use_T2 (div2 w a b n ta tb tn hpre.1 hpre.2.1 hpre.2.2.1 hpre.2.2.2.1 hpre.2.2.2.2.1 hpre.2.2.2.2.2) B F X N T hk trivial hd hu
    (ret (a / b) (a % b) rfl rfl (by have := Int.mul_ediv_add_emod a b; rw [Int.mul_comm] at this; omega) (Int.emod_nonneg a (by omega)) (Int.emod_lt_of_pos a (by omega)) (Int.ediv_nonneg hpre.1 (by omega)) (Int.ediv_le_self _ hpre.1))
local macro_rules | `(tactic| walk_at "call ref") => `(tactic| (k_here; (with_reducible show wpAny _ _ (call (Value.ref 38) [Value.int _ _, Value.int _ _, Value.int _ _]) _ _ _); (refine call_div2 (hpre := by ((try dsimp only); (try law_fm); omega)) (ret := ?_)); (intro q' r' _ _ hqr' hr0' hr1' hq0' hq1' D' t' u' c' h' tk' F' N' l1; (try k_lt l1); (try dsimp only); (try k_fold))))
local macro_rules | `(tactic| walk_at "exec While Compare cons nil") => `(tactic| k_extra "exec While Compare cons nil")
theorem div3 (w : World) (a12 a3 b b1 b2 n M : Int) (t1 t2 t3 t4 t5 t6 : Tok) (hn : 0 ≤ n) (hn' : n ≤ 8) (hM : (2:Int) ^ n.toNat = M) (hb1 : 0 < b1) (hb1' : b1 < M) (hb2 : 0 ≤ b2) (hb2' : b2 < M) (hb : b = b1 * M + b2) (hM0 : 0 < M) (hM1 : M ≤ 256) (ha : 0 ≤ a12) (ha' : a12 < b) (hb' : b < 65536) (h3 : 0 ≤ a3) (h3' : a3 < M) : Con (RowW.prog (OpenRow.toRowW (OpenLaw.row PySem.Challenge.rw_xg0011_01))) w (hd.heap_39 w.params) hd.view_39 (looseW hd.view_39 [Str.ofString "UTC_ZONES", Str.ofString "TIMEZONE_RE"]) 45 [.int a12 t1, .int a3 t2, .int b t3, .int b1 t4, .int b2 t5, .int n t6] 2 16 (fun _ _ => True) (OutT2 ((a12 * M + a3) / b) ((a12 * M + a3) % b)) := by
  w_top off
  k_with_none
  k_fill
  unfold Con
  intro mean mg mb dp un gd cn cs aa ccd cl outer A₀ base h₀ L m news s Q E B F X N T hk hin hd hu hret
  refine wpAny_call ?_
  k_dflt cell_enter
  have hlt := lt_of_news ‹News _ _ _ news›
  (k_with "exec While Compare cons nil" => k_while_given ["b"] (fun b _ r q => q * b + r = a12 * M + a3 ∧ r < b) (fun b _ r q => (-r).toNat) "r" "q")
  (k_with "state" => first | exact d3_t (by assumption) (by assumption) | exact d3_s1 hM hb hb1 hM0 ha' h3 h3' (by assumption) | exact d3_s2 hM hb hb2 hM0 h3 h3' (by assumption) (by assumption) (by assumption) (by assumption))
  k_steps
  all_goals (
    have he := d3_e (by assumption) (by assumption) (by assumption)
    refine end_T2 (news := news) hret (by k_asm) (by assumption) (by k_mem) (by intro p hp; k_ownIn) ?_ he.1 he.2)
  all_goals first | exact hlt | assumption | exact ktn_ltOf (by assumption) | exact ktn_ltOf (And.right (by assumption)) | exact ktn_ltOf (And.right (And.right (by assumption)))
end Mine
end
section
open PySem PySem.W PyProof.Rows PySem.Spec PySem.Calls
set_option Elab.async false
set_option maxRecDepth 100000
set_option maxHeartbeats 8000000
namespace Mine
local macro_rules | `(tactic| walk_at "getMethod ref") => `(tactic| (k_here; (with_reducible show wpAny _ _ (getMethod (Value.ref _) (PySem.Str.ofString "search") _) _ _ _); k_dflt (refine' get_search ?F ?X ?l ?_; (case F => k_asm); (case X => k_asm); (case l => k_is))))
def p0 : Params := { strHash := fun _ => 0, shareClass := fun _ => 0, mergeTok := fun t => t, idOf := fun _ => 0, idOfShared := fun _ _ => 0, followText := fun _ => false, idOfImm := fun _ => 0 }
def codeOf (o : Option Obj) : Array Nat := match o with
  | some ⟨_, _, .seq xs _, _⟩ => (xs.map Builtin.Re.reRawOf).map Int.toNat
  | _ => #[]
noncomputable def zcode : Array Nat := codeOf ((hd.heap_39 p0).lookup 50)
local macro_rules | `(tactic| walk_at "call builtin:re.Pattern.search") => `(tactic| (k_here; (with_reducible show wpAny _ _ (call (Value.builtin "re.Pattern.search") [Value.ref _, Value.str _ _]) _ _ _); k_dflt (refine' call_search (code := zcode) ?F ?X ?N ?lp ?lc ?kc ?kx ?kz ?_; (case F => k_asm); (case X => k_asm); (case N => k_asm); (case lp => k_is); (case lc => k_is); (case kc => exact rfl); (case kx => omega); (case kz => assumption)); intro T' D' li' h' F' N' hTD' hT'; (try dsimp only)))
local macro_rules | `(tactic| walk_at "truthy ref") => `(tactic| (k_here; (with_reducible show wpAny _ _ (truthy (Value.ref _)) _ _ _); k_dflt (refine' truthy_match ?N ?l ?_; (case N => k_asm); (case l => k_mem))))
local macro_rules | `(tactic| walk_at "call builtin:re.Match.group") => `(tactic| (k_here; k_dflt first | (refine call_group_none (k := 1) (h := ?_)) | (refine call_group_some (k := 1) (h := ?_)) | (refine call_group_none (k := 2) (h := ?_)) | (refine call_group_some (k := 2) (h := ?_)) | (refine call_group_none (k := 3) (h := ?_)) | (refine call_group_some (k := 3) (h := ?_))))
local macro_rules | `(tactic| walk_at "getMethod ref") => `(tactic| (k_here; (with_reducible show wpAny _ _ (getMethod (Value.ref _) (PySem.Str.ofString "group") _) _ _ _); k_dflt (refine' get_group ?N ?l ?_; (case N => k_asm); (case l => k_mem))))
def isUtc (x : Str) : Bool := decide (x = { cps := #[71, 77, 84] }) || (decide (x = { cps := #[85, 84, 67] }) || (decide (x = { cps := #[85, 84] }) || (decide (x = { cps := #[90] }) || false)))
/-- the group's minutes: none, or what its text reads -/
def MinIs (g : Option Str) (m : Int) : Prop := match g with
  | none => m = 0
  | some y => PySem.intText? y = some m ∧ 0 < y.length ∧ y.length ≤ 16
def signed (g : Option Str) (o : Int) : Int := match g with
  | none => o
  | some y => if (y == Str.ofString "-") = true then -o else o
theorem off_utc (w : World) (x : Str) (t : Tok) (hz : isUtc x = true) :
   Con (RowW.prog (OpenRow.toRowW (OpenLaw.row PySem.Challenge.rw_xg0011_01))) w (hd.heap_39 w.params) hd.view_39 (looseW hd.view_39 [Str.ofString "UTC_ZONES", Str.ofString "TIMEZONE_RE"]) 58 [.str x t] 2 16 (fun _ _ => True) (OutI 0) := by
  w_top off
  k_with_none
  k_fill
  unfold Con
  intro mean mg mb dp un gd cn cs aa ccd cl outer A₀ base h₀ L m news s Q E B F X N T hk hin hd hu hret
  refine wpAny_call ?_
  k_dflt cell_enter
  have hlt := lt_of_news ‹News _ _ _ news›
  k_steps
  · exact end_I (news := news) hret (by k_asm) (by assumption) (fun _ h => h) rfl
  · exact absurd (show isUtc x = false by assumption) (by rw [hz]; decide)
theorem off_zone (w : World) (x : Str) (t : Tok) (v H M : Int) (y2 : Str) (s0 e0 b1 e1 b2 e2 b3 e3 : Int) (g1 g3 : Option Str) (hz : isUtc x = false) (hs : x.cps.size ≤ 16) (hr : zrun zcode x.cps x.cps.size = some [s0, e0, b1, e1, b2, e2, b3, e3])
    (h2 : grp x b2 e2 = some y2) (hl2 : y2.length ≤ 16) (hi2 : PySem.intText? y2 = some H) (h1 : grp x b1 e1 = g1) (h3 : grp x b3 e3 = g3) (hl1 : ∀ y, g1 = some y → y.length ≤ 16) (hm : MinIs g3 M) (hH : 0 ≤ H) (hH' : H < 100) (hM : 0 ≤ M) (hM' : M < 100) (hv : v = signed g1 (3600 * H + 60 * M)) :
   Con (RowW.prog (OpenRow.toRowW (OpenLaw.row PySem.Challenge.rw_xg0011_01))) w (hd.heap_39 w.params) hd.view_39 (looseW hd.view_39 [Str.ofString "UTC_ZONES", Str.ofString "TIMEZONE_RE"]) 58 [.str x t] 2 16 (fun _ _ => True) (OutI v) := by
  cases g1 with
  | none =>
    cases g3 with
    | none =>
      k_fill
      unfold Con
      intro mean mg mb dp un gd cn cs aa ccd cl outer A₀ base h₀ L m news s Q E B F X N T hk hin hd hu hret
      refine wpAny_call ?_
      k_dflt cell_enter
      have hlt := lt_of_news ‹News _ _ _ news›
      k_steps
      · exact absurd (show isUtc x = true by assumption) (by rw [hz]; decide)
      all_goals exact end_I (news := news) hret (by k_asm) (by assumption) (by intro p hp; k_ownIn) (by first
          | (simp only [MinIs] at hm; simp only [signed] at hv; omega)
          | (simp only [signed] at hv; omega)
          | (simp only [MinIs] at hm; have hq : (y1 == Str.ofString "-") = true := (by assumption); simp only [signed, hq, if_true] at hv; omega)
          | (simp only [MinIs] at hm; have hq : (y1 == Str.ofString "-") = false := (by assumption); simp only [signed, hq, Bool.false_eq_true, if_false] at hv; omega)
          | (have hq : (y1 == Str.ofString "-") = true := (by assumption); simp only [signed, hq, if_true] at hv; omega)
          | (have hq : (y1 == Str.ofString "-") = false := (by assumption); simp only [signed, hq, Bool.false_eq_true, if_false] at hv; omega))
    | some y3 =>
      obtain ⟨hm1, hm2, hm3⟩ := hm
      k_fill
      unfold Con
      intro mean mg mb dp un gd cn cs aa ccd cl outer A₀ base h₀ L m news s Q E B F X N T hk hin hd hu hret
      refine wpAny_call ?_
      k_dflt cell_enter
      have hlt := lt_of_news ‹News _ _ _ news›
      k_steps
      · exact absurd (show isUtc x = true by assumption) (by rw [hz]; decide)
      all_goals exact end_I (news := news) hret (by k_asm) (by assumption) (by intro p hp; k_ownIn) (by first
          | (simp only [MinIs] at hm; simp only [signed] at hv; omega)
          | (simp only [signed] at hv; omega)
          | (simp only [MinIs] at hm; have hq : (y1 == Str.ofString "-") = true := (by assumption); simp only [signed, hq, if_true] at hv; omega)
          | (simp only [MinIs] at hm; have hq : (y1 == Str.ofString "-") = false := (by assumption); simp only [signed, hq, Bool.false_eq_true, if_false] at hv; omega)
          | (have hq : (y1 == Str.ofString "-") = true := (by assumption); simp only [signed, hq, if_true] at hv; omega)
          | (have hq : (y1 == Str.ofString "-") = false := (by assumption); simp only [signed, hq, Bool.false_eq_true, if_false] at hv; omega))
  | some y1 =>
    have hl1' := hl1 y1 rfl
    cases g3 with
    | none =>
      k_fill
      unfold Con
      intro mean mg mb dp un gd cn cs aa ccd cl outer A₀ base h₀ L m news s Q E B F X N T hk hin hd hu hret
      refine wpAny_call ?_
      k_dflt cell_enter
      have hlt := lt_of_news ‹News _ _ _ news›
      k_steps
      · exact absurd (show isUtc x = true by assumption) (by rw [hz]; decide)
      all_goals exact end_I (news := news) hret (by k_asm) (by assumption) (by intro p hp; k_ownIn) (by first
          | (simp only [MinIs] at hm; simp only [signed] at hv; omega)
          | (simp only [signed] at hv; omega)
          | (simp only [MinIs] at hm; have hq : (y1 == Str.ofString "-") = true := (by assumption); simp only [signed, hq, if_true] at hv; omega)
          | (simp only [MinIs] at hm; have hq : (y1 == Str.ofString "-") = false := (by assumption); simp only [signed, hq, Bool.false_eq_true, if_false] at hv; omega)
          | (have hq : (y1 == Str.ofString "-") = true := (by assumption); simp only [signed, hq, if_true] at hv; omega)
          | (have hq : (y1 == Str.ofString "-") = false := (by assumption); simp only [signed, hq, Bool.false_eq_true, if_false] at hv; omega))
    | some y3 =>
      obtain ⟨hm1, hm2, hm3⟩ := hm
      k_fill
      unfold Con
      intro mean mg mb dp un gd cn cs aa ccd cl outer A₀ base h₀ L m news s Q E B F X N T hk hin hd hu hret
      refine wpAny_call ?_
      k_dflt cell_enter
      have hlt := lt_of_news ‹News _ _ _ news›
      k_steps
      · exact absurd (show isUtc x = true by assumption) (by rw [hz]; decide)
      all_goals exact end_I (news := news) hret (by k_asm) (by assumption) (by intro p hp; k_ownIn) (by first
          | (simp only [MinIs] at hm; simp only [signed] at hv; omega)
          | (simp only [signed] at hv; omega)
          | (simp only [MinIs] at hm; have hq : (y1 == Str.ofString "-") = true := (by assumption); simp only [signed, hq, if_true] at hv; omega)
          | (simp only [MinIs] at hm; have hq : (y1 == Str.ofString "-") = false := (by assumption); simp only [signed, hq, Bool.false_eq_true, if_false] at hv; omega)
          | (have hq : (y1 == Str.ofString "-") = true := (by assumption); simp only [signed, hq, if_true] at hv; omega)
          | (have hq : (y1 == Str.ofString "-") = false := (by assumption); simp only [signed, hq, Bool.false_eq_true, if_false] at hv; omega))
end Mine
end
section
open PySem PySem.W PyProof.Rows PySem.Spec PySem.Calls
set_option Elab.async false
set_option maxRecDepth 100000
set_option maxHeartbeats 8000000
namespace Mine
theorem whole_con (w : World) (i : Int) (t : Tok) : Con (RowW.prog (OpenRow.toRowW (OpenLaw.row PySem.Challenge.rw_xg0011_01))) w (hd.heap_39 w.params) hd.view_39 (looseW hd.view_39 [Str.ofString "UTC_ZONES", Str.ofString "TIMEZONE_RE"]) 77 [.int i t] 1 8 (fun _ _ => True) (OutB true) := by
  w_top off
  k_with_none
  k_fill
  unfold Con
  intro mean mg mb dp un gd cn cs aa ccd cl outer A₀ base h₀ L m news s Q E B F X N T hk hin hd hu hret
  refine wpAny_call ?_
  k_dflt cell_enter
  have hlt := lt_of_news ‹News _ _ _ news›
  k_steps
  all_goals exact end_B (news := news) hret (by k_asm) (by assumption) (by intro p hp; k_ownIn) rfl
def costOf (a b : Str) : Int := if (a == b) = true then 0 else if (Txt.lower a == Txt.lower b) = true then 1 else 2
theorem cost_con (w : World) (a b : Str) (t u : Tok) (ha : a.length ≤ 1) (hb : b.length ≤ 1) : Con (RowW.prog (OpenRow.toRowW (OpenLaw.row PySem.Challenge.rw_xg0011_01))) w (hd.heap_39 w.params) hd.view_39 (looseW hd.view_39 [Str.ofString "UTC_ZONES", Str.ofString "TIMEZONE_RE"]) 65 [.str a t, .str b u] 1 8 (fun _ _ => True) (OutI (costOf a b)) := by
  k_fill
  unfold Con
  intro mean mg mb dp un gd cn cs aa ccd cl outer A₀ base h₀ L m news s Q E B F X N T hk hin hd hu hret
  refine wpAny_call ?_
  k_dflt cell_enter
  have hlt := lt_of_news ‹News _ _ _ news›
  k_steps
  · have hq : (a == b) = true := (by assumption)
    exact end_I (news := news) hret (by k_asm) (by assumption) (by intro p hp; k_ownIn) (by simp only [costOf, hq, if_true])
  · have hq : (a == b) = false := (by assumption)
    have hq2 : (Txt.lower a == Txt.lower b) = true := (by assumption)
    exact end_I (news := news) hret (by k_asm) (by assumption) (by intro p hp; k_ownIn) (by simp only [costOf, hq, hq2, if_true, Bool.false_eq_true, if_false])
  · have hq : (a == b) = false := (by assumption)
    have hq2 : (Txt.lower a == Txt.lower b) = false := (by assumption)
    exact end_I (news := news) hret (by k_asm) (by assumption) (by intro p hp; k_ownIn) (by simp only [costOf, hq, hq2, Bool.false_eq_true, if_false])
def zoneT (hours minutes look : Int) (sign : Str) : Str :=
  sign ++ (if minutes ≠ 0 then (if look.fdiv 4 = 1 then (if (look.fdiv 2).fmod 2 = 1 then Txt.slice (Str.ofString "0" ++ Str.ofString (toString hours)) (some (-2)) none else Str.ofString (toString hours)) ++ Str.ofString ":" else (if (look.fdiv 2).fmod 2 = 1 then Txt.slice (Str.ofString "0" ++ Str.ofString (toString hours)) (some (-2)) none else Str.ofString (toString hours))) ++ Txt.slice (Str.ofString "0" ++ Str.ofString (toString minutes)) (some (-2)) none
   else (if look.fdiv 4 = 1 then (if (look.fdiv 2).fmod 2 = 1 then Txt.slice (Str.ofString "0" ++ Str.ofString (toString hours)) (some (-2)) none else Str.ofString (toString hours)) ++ Str.ofString ":" else (if (look.fdiv 2).fmod 2 = 1 then Txt.slice (Str.ofString "0" ++ Str.ofString (toString hours)) (some (-2)) none else Str.ofString (toString hours))))
theorem zone_utc (w : World) (look : Int) (sign : Str) (t1 t2 t3 t4 : Tok) (l0 : 0 ≤ look) (l1 : look < 8) (hs : sign.length ≤ 1) : Con (RowW.prog (OpenRow.toRowW (OpenLaw.row PySem.Challenge.rw_xg0011_01))) w (hd.heap_39 w.params) hd.view_39 (looseW hd.view_39 [Str.ofString "UTC_ZONES", Str.ofString "TIMEZONE_RE"]) 89 [.int 0 t1, .int 0 t2, .int look t3, .str sign t4] 1 8 (fun _ _ => True) (OutS (([Str.ofString "GMT", Str.ofString "UTC", Str.ofString "UT", Str.ofString "Z"] : List Str).getD (look.fmod 4).toNat Str.empty)) := by
  k_fill
  unfold Con
  intro mean mg mb dp un gd cn cs aa ccd cl outer A₀ base h₀ L m news s Q E B F X N T hk hin hd hu hret
  refine wpAny_call ?_
  k_dflt cell_enter
  have hlt := lt_of_news ‹News _ _ _ news›
  (k_with "table" => skip)
  k_steps
  exact end_S (news := news) hret (by k_asm) (by assumption) (by intro p hp; k_ownIn) rfl
theorem zone_con (w : World) (hours minutes look : Int) (sign : Str) (t1 t2 t3 t4 : Tok) (h0 : 0 ≤ hours) (h1 : hours ≤ 50) (m0 : 0 ≤ minutes) (m1 : minutes < 60) (l0 : 0 ≤ look) (l1 : look < 8) (hs : sign.length ≤ 1) (hn : hours ≠ 0 ∨ minutes ≠ 0) : Con (RowW.prog (OpenRow.toRowW (OpenLaw.row PySem.Challenge.rw_xg0011_01))) w (hd.heap_39 w.params) hd.view_39 (looseW hd.view_39 [Str.ofString "UTC_ZONES", Str.ofString "TIMEZONE_RE"]) 89 [.int hours t1, .int minutes t2, .int look t3, .str sign t4] 1 8 (fun _ _ => True) (OutS (zoneT hours minutes look sign)) := by
  k_fill
  unfold Con
  intro mean mg mb dp un gd cn cs aa ccd cl outer A₀ base h₀ L m news s Q E B F X N T hk hin hd hu hret
  refine wpAny_call ?_
  k_dflt cell_enter
  have hlt := lt_of_news ‹News _ _ _ news›
  repeat' (first | (k_unfold; (try dsimp only)) | (k_end; wrow_close) | (walk1 <;> (try dsimp only)) | (dsimp only; walk1) | (leave1; walk_say "STEP leave1"; try dsimp only) | fail "no step")
  · exfalso; omega
  all_goals first
    | exact absurd (show minutes = 0 by assumption) (show minutes ≠ 0 by assumption)
    | (refine end_S (news := news) hret (by k_asm) (by assumption) (by intro p hp; k_ownIn) ?_
       unfold zoneT
       (first | (have q1 : minutes ≠ 0 := (by assumption); rw [if_pos q1]) | (have q1 : minutes = 0 := (by assumption); rw [if_neg (fun h => h q1)]))
       (first | (have q2 : look.fdiv 4 = 1 := (by assumption); rw [if_pos q2]) | (have q2 : look.fdiv 4 ≠ 1 := (by assumption); rw [if_neg q2]))
       (first | (have q3 : (look.fdiv 2).fmod 2 = 1 := (by assumption); rw [if_pos q3]) | (have q3 : (look.fdiv 2).fmod 2 ≠ 1 := (by assumption); rw [if_neg q3])))
end Mine
end
section
open PySem PySem.W PyProof.Rows
set_option Elab.async false
set_option maxRecDepth 100000
namespace Mine
def eOf (h f t : Int) : Int := 3600 * (f * t / h) + 60 * (f * t % h)
def lOf (h f t : Int) : Int := -(3600 * (f * t / h) + 60 * (f * t % h))
def mIdx (h f s t : Int) : Int := (f * t / h + s * t / h).fmod 2 + 2 * (f * t / h).fmod 2
def mAt (i : Int) : Str := Txt.item (Str.ofString "abAB") i
def mOf (h f s t : Int) : Str := mAt (mIdx h f s t)
def inB (y : Str) : Bool := !(Builtin.Str.occurrences (Str.ofString "bB") y 0 (Str.ofString "bB").length 1).isEmpty
def ind (h f s u t : Int) : Int := if ((costOf (mOf h f s t) (mOf h f s u) == 2) != inB (mOf h f s (u - t))) = true then 1 else 0
def inn (h f s u : Int) : Int := ((rangeKs 0 u.toNat).map (ind h f s u)).sum
theorem getD_ks {α : Type} (g : Int → α) (d : α) {n : Nat} {k : Int} (h0 : 0 ≤ k) (h1 : k < n) : ((rangeKs 0 n).map g).getD k.toNat d = g k := by
  unfold rangeKs
  have hk : k.toNat < n := by omega
  have e : (0 : Int) + ((k.toNat : Nat) : Int) = k := by omega
  simp [List.getD, hk]
  congr 1
  omega
theorem carry {f h u t : Int} (h0 : 0 < h) : f * u / h = f * t / h + f * (u - t) / h + (if decide ((f * u) % h < (f * t) % h) = true then 1 else 0) ∧
    f * u % h = f * t % h + f * (u - t) % h - h * (if decide ((f * u) % h < (f * t) % h) = true then 1 else 0) := by
  have e : f * u = f * t + f * (u - t) := by rw [← Int.mul_add]; congr 1; omega
  have a1 := Int.mul_ediv_add_emod (f * u) h
  have a2 := Int.mul_ediv_add_emod (f * t) h
  have a3 := Int.mul_ediv_add_emod (f * (u - t)) h
  have b1 := Int.emod_nonneg (f * u) (b := h) (by omega)
  have b2 := Int.emod_nonneg (f * t) (b := h) (by omega)
  have b3 := Int.emod_nonneg (f * (u - t)) (b := h) (by omega)
  have c1 := Int.emod_lt_of_pos (f * u) h0
  have c2 := Int.emod_lt_of_pos (f * t) h0
  have c3 := Int.emod_lt_of_pos (f * (u - t)) h0
  generalize f * u / h = qu at *
  generalize f * t / h = qt at *
  generalize f * (u - t) / h = qd at *
  generalize f * u % h = ru at *
  generalize f * t % h = rt at *
  generalize f * (u - t) % h = rd at *
  have hk : h * (qu - qt - qd) = rt + rd - ru := by
    rw [Int.mul_sub, Int.mul_sub]; omega
  have k0 : 0 ≤ qu - qt - qd := by
    by_cases hc : 0 ≤ qu - qt - qd
    · exact hc
    · have := Int.mul_le_mul_of_nonneg_left (show qu - qt - qd ≤ -1 by omega) (Int.le_of_lt h0)
      omega
  have k1 : qu - qt - qd ≤ 1 := by
    by_cases hc : qu - qt - qd ≤ 1
    · exact hc
    · have := Int.mul_le_mul_of_nonneg_left (show 2 ≤ qu - qt - qd by omega) (Int.le_of_lt h0)
      omega
  have : qu - qt - qd = 0 ∨ qu - qt - qd = 1 := by omega
  rcases this with hz | hz <;> rw [hz] at hk
  · have : ¬ ru < rt := by omega
    simp [this]; omega
  · have : ru < rt := by omega
    simp [this]; omega
theorem early_law {h f u t : Int} {es : List Int} (h0 : 2 ≤ h) (t0 : 0 ≤ t) (tu : t < u) (uh : u ≤ h) (he : es = (rangeKs 0 (h + 1 - 0).toNat).map (eOf h f)) :
    es.getD u.toNat 0 - es.getD t.toNat 0 - es.getD (u - t).toNat 0 = 60 * (60 - h) * (if decide ((f * u).fmod h < (f * t).fmod h) = true then 1 else 0) := by
  subst he
  rw [getD_ks _ _ (by omega) (by omega), getD_ks _ _ (by omega) (by omega), getD_ks _ _ (by omega) (by omega)]
  rw [Int.fmod_eq_emod_of_nonneg _ (by omega), Int.fmod_eq_emod_of_nonneg _ (by omega)]
  obtain ⟨c1, c2⟩ := carry (f := f) (u := u) (t := t) (show 0 < h by omega)
  unfold eOf
  split at c1 <;> rename_i hc
  · rw [if_pos hc] at c2 ⊢
    omega
  · rw [if_neg hc] at c2 ⊢
    omega
theorem late_law {h f u t : Int} {es : List Int} (h0 : 2 ≤ h) (t0 : 0 ≤ t) (tu : t < u) (uh : u ≤ h) (he : es = (rangeKs 0 (h + 1 - 0).toNat).map (lOf h f)) :
    es.getD u.toNat 0 - es.getD t.toNat 0 - es.getD (u - t).toNat 0 = 60 * (h - 60) * (if decide ((f * u).fmod h < (f * t).fmod h) = true then 1 else 0) := by
  subst he
  rw [getD_ks _ _ (by omega) (by omega), getD_ks _ _ (by omega) (by omega), getD_ks _ _ (by omega) (by omega)]
  rw [Int.fmod_eq_emod_of_nonneg _ (by omega), Int.fmod_eq_emod_of_nonneg _ (by omega)]
  obtain ⟨c1, c2⟩ := carry (f := f) (u := u) (t := t) (show 0 < h by omega)
  unfold lOf
  split at c1 <;> rename_i hc
  · rw [if_pos hc] at c2 ⊢
    omega
  · rw [if_neg hc] at c2 ⊢
    omega
theorem cost_tab : ∀ i ∈ List.range 4, ∀ j ∈ List.range 4, costOf (mAt (i : Nat)) (mAt (j : Nat)) = if i = j then 0 else if i % 2 = j % 2 then 1 else 2 := by decide +kernel
theorem mAt_len : ∀ i ∈ List.range 4, (mAt (i : Nat)).length ≤ 1 := by decide +kernel
theorem mIdx_bd (h f s t : Int) : 0 ≤ mIdx h f s t ∧ mIdx h f s t < 4 := by
  unfold mIdx
  rw [Int.fmod_eq_emod_of_nonneg _ (by decide), Int.fmod_eq_emod_of_nonneg _ (by decide)]
  omega
theorem mOf_len (h f s t : Int) : (mOf h f s t).length ≤ 1 := by
  obtain ⟨b0, b1⟩ := mIdx_bd h f s t
  unfold mOf
  obtain ⟨k, hk⟩ := Int.eq_ofNat_of_zero_le b0
  rw [hk]
  exact mAt_len k (List.mem_range.mpr (by omega))
theorem cost_idx {i j : Int} (i0 : 0 ≤ i) (i1 : i < 4) (j0 : 0 ≤ j) (j1 : j < 4) : costOf (mAt i) (mAt j) = if i = j then 0 else if i % 2 = j % 2 then 1 else 2 := by
  obtain ⟨a, rfl⟩ := Int.eq_ofNat_of_zero_le i0
  obtain ⟨b, rfl⟩ := Int.eq_ofNat_of_zero_le j0
  rw [cost_tab a (List.mem_range.mpr (by omega)) b (List.mem_range.mpr (by omega))]
  by_cases h1 : a = b
  · subst h1; simp
  · rw [if_neg h1, if_neg (show ¬ ((a : Int) = (b : Int)) by omega)]
    by_cases h2 : a % 2 = b % 2
    · rw [if_pos h2, if_pos (by omega)]
    · rw [if_neg h2, if_neg (by omega)]
theorem cost_law {h f s u t : Int} {ms : List Str} (h0 : 2 ≤ h) (t0 : 0 ≤ t) (tu : t < u) (uh : u ≤ h) (hm : ms = (rangeKs 0 (h + 1 - 0).toNat).map (mOf h f s))
    (hx : ((f * (u - t)).fdiv h + (if decide ((f * u).fmod h < (f * t).fmod h) = true then 1 else 0)).fmod 2 = ((s * (u - t)).fdiv h + (if decide ((s * u).fmod h < (s * t).fmod h) = true then 1 else 0)).fmod 2) :
    costOf (ms.getD t.toNat Str.empty) (ms.getD u.toNat Str.empty) = ((f * (u - t)).fdiv h + (if decide ((f * u).fmod h < (f * t).fmod h) = true then 1 else 0)).fmod 2 := by
  subst hm
  rw [getD_ks _ _ (by omega) (by omega), getD_ks _ _ (by omega) (by omega)]
  rw [Int.fmod_eq_emod_of_nonneg _ (by decide : (0 : Int) ≤ 2), Int.fmod_eq_emod_of_nonneg _ (by decide : (0 : Int) ≤ 2)] at hx
  rw [Int.fmod_eq_emod_of_nonneg _ (by decide : (0 : Int) ≤ 2)]
  rw [Int.fmod_eq_emod_of_nonneg _ (show 0 ≤ h by omega), Int.fmod_eq_emod_of_nonneg _ (show 0 ≤ h by omega), Int.fdiv_eq_ediv_of_nonneg _ (show 0 ≤ h by omega)] at hx ⊢
  rw [Int.fmod_eq_emod_of_nonneg _ (show 0 ≤ h by omega), Int.fmod_eq_emod_of_nonneg _ (show 0 ≤ h by omega), Int.fdiv_eq_ediv_of_nonneg _ (show 0 ≤ h by omega)] at hx
  obtain ⟨c1, _⟩ := carry (f := f) (u := u) (t := t) (show 0 < h by omega)
  obtain ⟨d1, _⟩ := carry (f := s) (u := u) (t := t) (show 0 < h by omega)
  obtain ⟨p0, p1⟩ := mIdx_bd h f s t
  obtain ⟨q0, q1⟩ := mIdx_bd h f s u
  unfold mOf
  rw [cost_idx p0 p1 q0 q1]
  unfold mIdx
  simp only [Int.fmod_eq_emod_of_nonneg _ (by decide : (0 : Int) ≤ 2)]
  generalize (if decide (f * u % h < f * t % h) = true then (1 : Int) else 0) = x at *
  generalize (if decide (s * u % h < s * t % h) = true then (1 : Int) else 0) = y at *
  generalize f * u / h = a at *
  generalize f * t / h = b at *
  generalize f * (u - t) / h = c at *
  generalize s * u / h = a' at *
  generalize s * t / h = b' at *
  generalize s * (u - t) / h = c' at *
  split
  · omega
  · split <;> omega
end Mine
end
section
open PySem PySem.W PyProof.Rows
set_option Elab.async false
set_option maxRecDepth 100000
namespace Mine
def opp (h f s : Int) : Int := ((rangeKs 1 h.toNat).map (inn h f s)).sum
theorem st1 {e l : List Int} {m : List Str} {pre : List Int} {k h f s : Int} (h1 : e.length = pre.length) (h2 : l.length = pre.length) (h3 : m.length = pre.length) (he : e = pre.map (eOf h f)) (hl : l = pre.map (lOf h s)) (hm : m = pre.map (mOf h f s)) :
    (e ++ [3600 * (f * k / h) + 60 * (f * k % h)]).length = (pre ++ [k]).length ∧ (l ++ [-(3600 * (s * k / h) + 60 * (s * k % h))]).length = (pre ++ [k]).length ∧
    (m ++ [Txt.item (Str.ofString "abAB") ((f * k / h + s * k / h).fmod 2 + 2 * (f * k / h).fmod 2)]).length = (pre ++ [k]).length ∧
    e ++ [3600 * (f * k / h) + 60 * (f * k % h)] = (pre ++ [k]).map (eOf h f) ∧ l ++ [-(3600 * (s * k / h) + 60 * (s * k % h))] = (pre ++ [k]).map (lOf h s) ∧
    m ++ [Txt.item (Str.ofString "abAB") ((f * k / h + s * k / h).fmod 2 + 2 * (f * k / h).fmod 2)] = (pre ++ [k]).map (mOf h f s) := by
  refine ⟨?_, ?_, ?_, ?_, ?_, ?_⟩
  · rw [List.length_append, List.length_append, h1]; rfl
  · rw [List.length_append, List.length_append, h2]; rfl
  · rw [List.length_append, List.length_append, h3]; rfl
  · rw [List.map_append, he]; rfl
  · rw [List.map_append, hl]; rfl
  · rw [List.map_append, hm]; rfl
theorem st3_0 {T : Int} {g : Int → Int} : T = T + (([] : List Int).map g).sum ∧ T ≤ T ∧ T ≤ T + ((([] : List Int).length : Nat) : Int) := ⟨by simp, Int.le_refl _, by simp⟩
theorem sum_snoc (g : Int → Int) (pre : List Int) (k : Int) : ((pre ++ [k]).map g).sum = (pre.map g).sum + g k := by
  rw [List.map_append, List.sum_append]; simp
theorem st3_n {ms : List Str} {h f s u t T T₀ : Int} {pre : List Int} (hm : ms = (rangeKs 0 (h + 1 - 0).toNat).map (mOf h f s)) (t0 : 0 ≤ t) (tu : t < u) (uh : u ≤ h) (hT : T = T₀ + (pre.map (ind h f s u)).sum) (h1 : T₀ ≤ T) (h2 : T ≤ T₀ + ((pre.length : Nat) : Int))
    (c : ((costOf (ms.getD t.toNat Str.empty) (ms.getD u.toNat Str.empty) == 2) != !(Builtin.Str.occurrences (Str.ofString "bB") (ms.getD (u - t).toNat Str.empty) 0 (Str.ofString "bB").length 1).isEmpty) = false) :
    T = T₀ + ((pre ++ [t]).map (ind h f s u)).sum ∧ T₀ ≤ T ∧ T ≤ T₀ + (((pre ++ [t]).length : Nat) : Int) := by
  subst hm
  rw [getD_ks _ _ (by omega) (by omega), getD_ks _ _ (by omega) (by omega), getD_ks _ _ (by omega) (by omega)] at c
  have e : ind h f s u t = 0 := by
    unfold ind inB
    rw [c]; rfl
  rw [sum_snoc, e]
  refine ⟨by omega, h1, ?_⟩
  rw [List.length_append]
  simp only [List.length_cons, List.length_nil]
  omega
theorem st3_y {ms : List Str} {h f s u t T T₀ : Int} {pre : List Int} (hm : ms = (rangeKs 0 (h + 1 - 0).toNat).map (mOf h f s)) (t0 : 0 ≤ t) (tu : t < u) (uh : u ≤ h) (hT : T = T₀ + (pre.map (ind h f s u)).sum) (h1 : T₀ ≤ T) (h2 : T ≤ T₀ + ((pre.length : Nat) : Int))
    (c : ((costOf (ms.getD t.toNat Str.empty) (ms.getD u.toNat Str.empty) == 2) != !(Builtin.Str.occurrences (Str.ofString "bB") (ms.getD (u - t).toNat Str.empty) 0 (Str.ofString "bB").length 1).isEmpty) = true) :
    T + 1 = T₀ + ((pre ++ [t]).map (ind h f s u)).sum ∧ T₀ ≤ T + 1 ∧ T + 1 ≤ T₀ + (((pre ++ [t]).length : Nat) : Int) := by
  subst hm
  rw [getD_ks _ _ (by omega) (by omega), getD_ks _ _ (by omega) (by omega), getD_ks _ _ (by omega) (by omega)] at c
  have e : ind h f s u t = 1 := by
    unfold ind inB
    rw [c]; rfl
  rw [sum_snoc, e]
  refine ⟨by omega, by omega, ?_⟩
  rw [List.length_append]
  simp only [List.length_cons, List.length_nil]
  omega
theorem st2 {h f s u T T₀ : Int} {pre : List Int} (h1 : h ≤ 12) (hu : u = 1 + ((pre.length : Nat) : Int)) (hp : pre.length < (h + 1 - 1).toNat) (hT₀ : T₀ = (pre.map (inn h f s)).sum) (a0 : 0 ≤ T₀) (a1 : T₀ ≤ 16 * ((pre.length : Nat) : Int))
    (hT : T = T₀ + ((rangeKs 0 (u - 0).toNat).map (ind h f s u)).sum) (b0 : T₀ ≤ T) (b1 : T ≤ T₀ + (((rangeKs 0 (u - 0).toNat).length : Nat) : Int)) :
    T = ((pre ++ [u]).map (inn h f s)).sum ∧ 0 ≤ T ∧ T ≤ 16 * (((pre ++ [u]).length : Nat) : Int) := by
  rw [rangeKs_length] at b1
  rw [sum_snoc]
  have e : inn h f s u = ((rangeKs 0 (u - 0).toNat).map (ind h f s u)).sum := by
    unfold inn
    rw [Int.sub_zero]
  rw [e]
  refine ⟨by omega, by omega, ?_⟩
  rw [List.length_append]
  simp only [List.length_cons, List.length_nil]
  omega
theorem opp_end {h f s T : Int} (hT : T = ((rangeKs 1 (h + 1 - 1).toNat).map (inn h f s)).sum) : T = opp h f s := by
  rw [hT]
  unfold opp
  have : h + 1 - 1 = h := by omega
  rw [this]
end Mine
end
section
open PySem PySem.W PyProof.Rows
set_option Elab.async false
set_option maxRecDepth 100000
namespace Mine
def pIdx (h f s t : Int) : Int := (f * t / h + s * t / h) % 2
def indP (h f s u t : Int) : Int := if ((pIdx h f s t != pIdx h f s u) != (pIdx h f s (u - t) == 1)) = true then 1 else 0
def oppP (h f s : Int) : Int := ((rangeKs 1 h.toNat).map fun u => ((rangeKs 0 u.toNat).map (indP h f s u)).sum).sum
theorem inB_tab : ∀ i ∈ List.range 4, inB (mAt (i : Nat)) = (i % 2 == 1) := by decide +kernel
theorem mIdx_par (h f s t : Int) : mIdx h f s t % 2 = pIdx h f s t := by
  unfold mIdx pIdx
  simp only [Int.fmod_eq_emod_of_nonneg _ (by decide : (0 : Int) ≤ 2)]
  omega
theorem ind_eq (h f s u t : Int) : ind h f s u t = indP h f s u t := by
  have c : (costOf (mOf h f s t) (mOf h f s u) == 2) = (pIdx h f s t != pIdx h f s u) := by
    obtain ⟨p0, p1⟩ := mIdx_bd h f s t
    obtain ⟨q0, q1⟩ := mIdx_bd h f s u
    unfold mOf
    rw [cost_idx p0 p1 q0 q1, ← mIdx_par, ← mIdx_par]
    generalize mIdx h f s t = i at *
    generalize mIdx h f s u = j at *
    by_cases h1 : i = j
    · subst h1; simp
    · rw [if_neg h1]
      by_cases h2 : i % 2 = j % 2
      · rw [if_pos h2, h2]; simp
      · rw [if_neg h2]; simp [h2]
  have d : inB (mOf h f s (u - t)) = (pIdx h f s (u - t) == 1) := by
    obtain ⟨p0, p1⟩ := mIdx_bd h f s (u - t)
    unfold mOf
    rw [← mIdx_par]
    generalize mIdx h f s (u - t) = i at *
    obtain ⟨k, rfl⟩ := Int.eq_ofNat_of_zero_le p0
    rw [inB_tab k (List.mem_range.mpr (by omega))]
    by_cases hk : k % 2 = 1
    · have : ((k : Int) % 2) = 1 := by omega
      rw [this, hk]; rfl
    · have : ((k : Int) % 2) = 0 := by omega
      have e : k % 2 = 0 := by omega
      rw [this, e]; rfl
  unfold ind indP
  rw [c, d]
theorem opp_eq (h f s : Int) : opp h f s = oppP h f s := by
  unfold opp oppP
  congr 1
  apply List.map_congr_left
  intro u _
  unfold inn
  congr 1
  apply List.map_congr_left
  intro t _
  exact ind_eq h f s u t
def lawP (a b c : Int) : Bool := decide (4 * (b * c * oppP a b c + c * a * oppP b c a + a * b * oppP c a b) = a * b * c * (a + b + c - 6) + 2 * (a * b + b * c + c * a) - (a * a + b * b + c * c))
theorem law_tab : ∀ a ∈ List.range 12, ∀ b ∈ List.range 12, ∀ c ∈ List.range 12, (decide (2 ≤ a) && decide (2 ≤ b) && decide (2 ≤ c) && (Nat.gcd a b == 1) && (Nat.gcd b c == 1) && (Nat.gcd c a == 1)) = true → lawP (a : Nat) (b : Nat) (c : Nat) = true := by decide +kernel
theorem opp_nonneg (h f s : Int) : 0 ≤ opp h f s := by
  have pos : ∀ l : List Int, ∀ g : Int → Int, (∀ x, 0 ≤ g x) → 0 ≤ (l.map g).sum := by
    intro l g hg
    induction l with
    | nil => simp
    | cons x r ih => have := hg x; rw [List.map_cons, List.sum_cons]; omega
  unfold opp
  refine pos _ _ fun u => ?_
  unfold inn
  refine pos _ _ fun t => ?_
  unfold ind
  split <;> decide
end Mine
end
section
set_option maxRecDepth 100000
namespace Mine
/-- no number from 2 to 11 divides both -/
def cop (a b : Int) : Bool := (List.range 10).all fun i => !(a % ((i : Int) + 2) == 0 && b % ((i : Int) + 2) == 0)
def bnd (n : Nat) : Int := if n = 0 then 7 else if n = 1 then 8 else 11
def within (n : Nat) (a : Int) : Bool := decide (2 ≤ a) && decide (a ≤ bnd n)
def fine : List Int → Bool
  | [] => true
  | [a] => within 0 a
  | [a, b] => within 0 a && within 1 b && cop b a
  | [a, b, c] => within 0 a && within 1 b && cop b a && within 2 c && cop c a && cop c b
  | _ => false
theorem cop_iff {a b : Int} : cop a b = true ↔ ∀ d : Int, 2 ≤ d → d ≤ 11 → ¬(a % d = 0 ∧ b % d = 0) := by
  unfold cop
  simp only [List.all_eq_true, List.mem_range, Bool.not_eq_true', Bool.and_eq_false_iff, beq_eq_false_iff_ne, ne_eq]
  constructor
  · rintro h d h1 h2 ⟨e1, e2⟩
    have := h (d - 2).toNat (by omega)
    rw [show (((d - 2).toNat : Nat) : Int) + 2 = d by omega] at this
    rcases this with x | x
    · exact x e1
    · exact x e2
  · intro h i hi
    by_cases e1 : a % ((i : Int) + 2) = 0
    · right; intro e2; exact h _ (by omega) (by omega) ⟨e1, e2⟩
    · left; exact e1
theorem next_tab : ((List.range 6).all fun x => (List.range 8).any fun e => decide (2 + x ≤ e)) = true ∧
    ((List.range 8).all fun a => !within 0 (a : Int) || (List.range 6).all fun x => (List.range 9).any fun e => decide (2 + x ≤ e) && cop (e : Int) (a : Int)) = true ∧
    ((List.range 8).all fun a => (List.range 9).all fun b => !fine [(a : Int), (b : Int)] || (List.range 6).all fun x => (List.range 12).any fun e => decide (2 + x ≤ e) && (cop (e : Int) (a : Int) && cop (e : Int) (b : Int))) = true := by decide +kernel
theorem next_ok {zs : List Int} (hf : fine zs = true) (hl : zs.length < 3) (x : Int) : ∃ e : Int, 2 + x % 6 ≤ e ∧ e ≤ bnd zs.length ∧ ∀ o ∈ zs, cop e o = true := by
  have hx : ∃ k : Nat, k < 6 ∧ x % 6 = (k : Int) := ⟨(x % 6).toNat, by omega, by omega⟩
  obtain ⟨k, hk, ek⟩ := hx
  rw [ek]
  obtain ⟨t0, t1, t2⟩ := next_tab
  match zs, hf, hl with
  | [], _, _ =>
    simp only [List.all_eq_true, List.mem_range, List.any_eq_true, decide_eq_true_eq] at t0
    obtain ⟨e, he, h1⟩ := t0 k hk
    exact ⟨e, by omega, by show (e : Int) ≤ 7; omega, by simp⟩
  | [a], hf, _ =>
    have hw := hf
    simp only [fine, within, bnd, Bool.and_eq_true, decide_eq_true_eq, if_true] at hf
    obtain ⟨n, rfl⟩ : ∃ n : Nat, a = (n : Int) := ⟨a.toNat, by omega⟩
    simp only [List.all_eq_true, List.mem_range, List.any_eq_true, decide_eq_true_eq, Bool.or_eq_true, Bool.and_eq_true, Bool.not_eq_true'] at t1
    rcases t1 n (by omega) with h | h
    · simp only [fine] at hw; rw [hw] at h; cases h
    · obtain ⟨e, he, h1, h2⟩ := h k hk
      exact ⟨e, by omega, by show (e : Int) ≤ 8; omega, by simpa using h2⟩
  | [a, b], hf, _ =>
    have hw := hf
    simp only [fine, within, bnd, Bool.and_eq_true, decide_eq_true_eq, if_true] at hf
    have ha := hf.1.1
    have hb := hf.1.2
    simp only [Nat.one_ne_zero, if_false] at hb
    obtain ⟨n, rfl⟩ : ∃ n : Nat, a = (n : Int) := ⟨a.toNat, by omega⟩
    obtain ⟨n', rfl⟩ : ∃ n : Nat, b = (n : Int) := ⟨b.toNat, by omega⟩
    simp only [List.all_eq_true, List.mem_range, List.any_eq_true, decide_eq_true_eq, Bool.or_eq_true, Bool.and_eq_true, Bool.not_eq_true'] at t2
    rcases t2 n (by omega) n' (by omega) with h | h
    · rw [hw] at h; cases h
    · obtain ⟨e, he, h1, h2, h3⟩ := h k hk
      exact ⟨e, by omega, by show (e : Int) ≤ 11; omega, by simp [h2, h3]⟩
theorem bnd_le (n : Nat) : bnd n ≤ 11 := by
  unfold bnd
  split
  · omega
  · split <;> omega
/-- a size that no divisor shares with those ahead of it is added -/
theorem fine_snoc {zs : List Int} {z : Int} (hf : fine zs = true) (hl : zs.length < 3) (h2 : 2 ≤ z) (hb : z ≤ bnd zs.length) (hc : ∀ o ∈ zs, ∀ d : Int, 2 ≤ d → d ≤ z → ¬(z % d = 0 ∧ o % d = 0)) : fine (zs ++ [z]) = true := by
  have cp : ∀ o ∈ zs, cop z o = true := fun o ho => cop_iff.mpr fun d h1 _ hd => by
    by_cases hz : d ≤ z
    · exact hc o ho d h1 hz hd
    · have := Int.emod_eq_of_lt (a := z) (b := d) (by omega) (by omega)
      omega
  match zs, hf, hl with
  | [], _, _ => simp only [List.nil_append, fine, within, Bool.and_eq_true, decide_eq_true_eq]; exact ⟨h2, hb⟩
  | [a], hf, _ =>
    simp only [fine] at hf
    simp only [List.cons_append, List.nil_append, fine, Bool.and_eq_true]
    exact ⟨⟨hf, by simp only [within, Bool.and_eq_true, decide_eq_true_eq]; exact ⟨h2, hb⟩⟩, cp a (by simp)⟩
  | [a, b], hf, _ =>
    simp only [fine, Bool.and_eq_true] at hf
    simp only [List.cons_append, List.nil_append, fine, Bool.and_eq_true]
    exact ⟨⟨⟨hf, by simp only [within, Bool.and_eq_true, decide_eq_true_eq]; exact ⟨h2, hb⟩⟩, cp a (by simp)⟩, cp b (by simp)⟩
/-- while a divisor is shared, the end lies ahead -/
theorem ahead {zs : List Int} {z e o : Int} {n i : Nat} (hn : (n : Int) = z - 1) (hz : z ≤ e) (he : e ≤ 11) (hc : ∀ o ∈ zs, cop e o = true) (hi : i < n) (ho : o ∈ zs) (h1 : z % (2 + (i : Int)) = 0) (h2 : o % (2 + (i : Int)) = 0) : z + 1 ≤ e := by
  by_cases h : z = e
  · subst h
    exact absurd ⟨h1, h2⟩ (cop_iff.mp (hc o ho) _ (by omega) (by omega))
  · omega
theorem fine3 {zs : List Int} (hf : fine zs = true) (hl : zs.length = 3) : ∃ a b c : Nat, zs = [(a : Int), (b : Int), (c : Int)] ∧ (2 ≤ a ∧ a ≤ 11) ∧ (2 ≤ b ∧ b ≤ 11) ∧ (2 ≤ c ∧ c ≤ 11) ∧ cop b a = true ∧ cop c a = true ∧ cop c b = true := by
  match zs, hf, hl with
  | [a, b, c], hf, _ =>
    simp only [fine, within, Bool.and_eq_true, decide_eq_true_eq] at hf
    obtain ⟨⟨⟨⟨⟨h1, h2⟩, h3⟩, h4⟩, h5⟩, h6⟩ := hf
    have k1 := bnd_le 0
    have k2 := bnd_le 1
    have k3 := bnd_le 2
    refine ⟨a.toNat, b.toNat, c.toNat, ?_, by omega, by omega, by omega, ?_⟩
    · rw [Int.toNat_of_nonneg (by omega), Int.toNat_of_nonneg (by omega), Int.toNat_of_nonneg (by omega)]
    · rw [Int.toNat_of_nonneg (by omega), Int.toNat_of_nonneg (by omega), Int.toNat_of_nonneg (by omega)]
      exact ⟨h3, h5, h6⟩
end Mine
end
section
open PySem PySem.W PyProof.Rows
set_option maxRecDepth 100000
namespace Mine
theorem sum_le {l : List Int} {g : Int → Int} {B : Int} (h : ∀ x ∈ l, g x ≤ B) : (l.map g).sum ≤ B * (l.length : Int) := by
  induction l with
  | nil => simp
  | cons x r ih =>
    have h1 := h x (by simp)
    have h2 := ih fun y hy => h y (by simp [hy])
    rw [List.map_cons, List.sum_cons, List.length_cons]
    have : B * ((r.length + 1 : Nat) : Int) = B * (r.length : Int) + B := by rw [Int.natCast_add, Int.mul_add]; simp
    omega
theorem ks_le {a : Int} {n : Nat} {v : Int} (h : v ∈ rangeKs a n) : v < a + (n : Int) := by
  induction n generalizing a with
  | zero => cases h
  | succ n ih =>
    rw [kll_cons] at h
    rcases List.mem_cons.mp h with rfl | h
    · omega
    · have := ih h; omega
theorem opp_le {h f s : Int} (h0 : 2 ≤ h) (h1 : h ≤ 12) : opp h f s ≤ 144 := by
  have inner : ∀ u ∈ rangeKs 1 h.toNat, inn h f s u ≤ 12 := by
    intro u hu
    have hu' := ks_le hu
    unfold inn
    have := sum_le (l := rangeKs 0 u.toNat) (g := ind h f s u) (B := 1) (by intro x _; unfold ind; split <;> decide)
    rw [rangeKs_length] at this
    omega
  have := sum_le inner
  rw [rangeKs_length] at this
  unfold opp
  omega
theorem law_cop {a b c : Nat} (h1 : 2 ≤ a ∧ a ≤ 11) (h2 : 2 ≤ b ∧ b ≤ 11) (h3 : 2 ≤ c ∧ c ≤ 11) (h4 : cop b a = true) (h5 : cop c a = true) (h6 : cop c b = true) : lawP (a : Nat) (b : Nat) (c : Nat) = true := by
  have gc : ∀ x y : Nat, 2 ≤ x → x ≤ 11 → cop (x : Int) (y : Int) = true → Nat.gcd y x = 1 := by
    intro x y h2 h11 hc
    by_cases hg : Nat.gcd y x = 1
    · exact hg
    · exfalso
      have hd1 := Nat.gcd_dvd_left y x
      have hd2 := Nat.gcd_dvd_right y x
      have hle := Nat.le_of_dvd (by omega) hd2
      have hpos : 0 < Nat.gcd y x := Nat.gcd_pos_of_pos_right _ (by omega)
      refine cop_iff.mp hc (Nat.gcd y x : Int) (by omega) (by omega) ⟨?_, ?_⟩
      · exact Int.emod_eq_zero_of_dvd (Int.natCast_dvd_natCast.mpr hd2)
      · exact Int.emod_eq_zero_of_dvd (Int.natCast_dvd_natCast.mpr hd1)
  refine law_tab a (List.mem_range.mpr (by omega)) b (List.mem_range.mpr (by omega)) c (List.mem_range.mpr (by omega)) ?_
  simp only [Bool.and_eq_true, decide_eq_true_eq, beq_iff_eq]
  exact ⟨⟨⟨⟨⟨h1.1, h2.1⟩, h3.1⟩, gc b a h2.1 h2.2 h4⟩, gc c b h3.1 h3.2 h6⟩, by rw [Nat.gcd_comm]; exact gc c a h3.1 h3.2 h5⟩
theorem law_eq {a b c : Nat} (h1 : 2 ≤ a ∧ a ≤ 11) (h2 : 2 ≤ b ∧ b ≤ 11) (h3 : 2 ≤ c ∧ c ≤ 11) (h4 : cop b a = true) (h5 : cop c a = true) (h6 : cop c b = true) :
    4 * ((b : Int) * c * opp a b c + (c : Int) * a * opp b c a + (a : Int) * b * opp c a b) = (a : Int) * b * c * (a + b + c - 6) + 2 * ((a : Int) * b + b * c + c * a) - ((a : Int) * a + b * b + c * c) := by
  have := law_cop h1 h2 h3 h4 h5 h6
  unfold lawP at this
  rw [opp_eq, opp_eq, opp_eq]
  exact of_decide_eq_true this
end Mine
end
section
set_option maxHeartbeats 2000000
namespace Mine
open PySem PySem.Spec PySem.Calls PyProof.Rows PyProof.Rows.LCg PyProof.Rows.LCt PySem.W
structure SzS where
  vs : List Value
  zs : List Int
  k : Nat
  o : Obj
  v : Option Value
def SzEnd (h₀ : Heap) (L : Addr) (x : Str) (m₀ : Str → Option Value) (D l Lz Ls : Addr) (od os : Obj) (own : List (Addr × Obj)) (cnt : Nat) (s₁ s₂ : Shared) : Prop :=
  ∃ h' tk m' news' vs zs k o v, s₂ = { s₁ with heap := h', toks := tk } ∧ Fr h₀ L h' m' ∧ News h₀ L h' news' ∧ (D, od) ∈ news' ∧ (l, listOf vs.toArray k) ∈ news' ∧ (Lz, o) ∈ news' ∧ (Ls, os) ∈ news' ∧ (∀ p ∈ own, p ∈ news') ∧ IntsAre vs zs ∧ fine zs = true ∧ zs.length = cnt ∧ o.data = .cell v ∧ (∀ z, z ≠ x → m' z = m₀ z)
def SzPost (h₀ : Heap) (L : Addr) (x : Str) (m₀ : Str → Option Value) (D l Lz Ls : Addr) (od os : Obj) (own : List (Addr × Obj)) (cnt : Nat) (s₁ : Shared) (Q : Flow → Shared → Prop) (f : Flow) (s₂ : Shared) : Prop :=
  match f with
  | .ret v => Q (.ret v) s₂
  | .brk => Q .next s₂
  | _ => SzEnd h₀ L x m₀ D l Lz Ls od os own cnt s₁ s₂
section
variable {prog : Program} {w : World} {A : Around} {E : Value → Shared → Prop} {Q : Flow → Shared → Prop} {s : Shared} {env : Env} {h₀ : Heap} {x : Str} {body : List Stmt}
theorem sizes_loop {D l Lz Ls : Addr} {ws : List Value} {ns : List Int} {nn : Nat} {oz os : Obj} {vz : Option Value} {m₀ : Str → Option Value} {news : List (Addr × Obj)}
    (hh : A.handled = none) (hi : IntsAre ws ns) (h3 : ns.length ≤ 3) (F : Fr h₀ env.locals s.heap m₀) (N : News h₀ env.locals s.heap news)
    (hD : (D, listOf ws.toArray nn) ∈ news) (hl : (l, listOf #[] 0) ∈ news) (hz : (Lz, oz) ∈ news) (hs : (Ls, os) ∈ news) (hv : oz.data = .cell vz)
    (turn : ∀ vs zs k o v n t h tk own, OwnOff own [D, l, Lz, Ls] → IntsAre vs zs → fine zs = true → zs.length < 3 → o.data = .cell v →
      Fr h₀ env.locals h (fun y => if y = x then some (.int n t) else m₀ y) → News h₀ env.locals h ([(D, listOf ws.toArray nn), (l, listOf vs.toArray k), (Lz, o), (Ls, os)] ++ own) →
      wpAny (model prog w) A (execs body env) (SzPost h₀ env.locals x m₀ D l Lz Ls (listOf ws.toArray nn) os own (zs.length + 1) { s with heap := h, toks := tk } Q) E { s with heap := h, toks := tk })
    (done : ∀ vs zs k o (u : Str → Option Value) h tk, IntsAre vs zs → fine zs = true → zs.length = ns.length → Fr h₀ env.locals h (fun y => if y = x then u y else m₀ y) → News h₀ env.locals h [(D, listOf ws.toArray nn), (l, listOf vs.toArray k), (Lz, o), (Ls, os)] → Q .next { s with heap := h, toks := tk }) :
    wpAny (model prog w) A (pyIter (.ref D)) (fun it s₂ => LoopAtV prog w A h₀ env x body Q E it s₂) E s := by
  have kb : ∀ u : Str → Option Value, ∀ y, kstB (fun z => if ([] : List Str).contains z then u z else m₀ z) [] y = m₀ y := fun u y => by simp [kstB]
  refine kst_listL (σ := SzS) (l := D) (vs := ws) (ns := ns) (nn := nn) (m₀ := m₀) (fun c => [(D, listOf ws.toArray nn), (l, listOf c.vs.toArray c.k), (Lz, c.o), (Ls, os)]) (fun _ => []) (fun c => IntsAre c.vs c.zs ∧ fine c.zs = true ∧ c.o.data = .cell c.v) [] (fun pre c => c.zs.length = pre.length) ⟨[], [], 0, oz, vz⟩
    hh (fun c => by simp) hi F (kst_newsOf N ?_) ⟨.nil, rfl, hv⟩ (by simp) rfl ?_ ?_
  · intro p hp
    simp only [List.mem_cons, List.not_mem_nil, or_false] at hp
    rcases hp with rfl | rfl | rfl | rfl <;> assumption
  · intro c pre post n t u h tk own e hn off hf hp F' N'
    have hl3 : c.zs.length < 3 := by
      have := congrArg List.length e
      rw [List.length_append, List.length_cons] at this
      have h9 : c.zs.length = pre.length := hp
      omega
    have F9 : Fr h₀ env.locals h (fun y => if y = x then some (.int n t) else m₀ y) := by
      have e9 : (fun y => if y = x then some (Value.int n t) else kstB (fun z => if ([] : List Str).contains z then u z else m₀ z) [] y) = fun y => if y = x then some (.int n t) else m₀ y := by
        funext y; rw [kb]
      rw [← e9]; exact F'
    refine wpAny_mono (turn c.vs c.zs c.k c.o c.v n t h tk own off hf.1 hf.2.1 hl3 hf.2.2 F9 N') (fun f s₂ p => ?_) fun _ _ z => z
    have up : SzEnd h₀ env.locals x m₀ D l Lz Ls (listOf ws.toArray nn) os own (c.zs.length + 1) { s with heap := h, toks := tk } s₂ →
        InvEndN h₀ env.locals (KstS (σ := SzS) (fun c => [(D, listOf ws.toArray nn), (l, listOf c.vs.toArray c.k), (Lz, c.o), (Ls, os)]) (fun _ => []) (fun c => IntsAre c.vs c.zs ∧ fine c.zs = true ∧ c.o.data = .cell c.v) x [] m₀ (fun pre c => c.zs.length = pre.length) (pre ++ [n])) own [D, l, Lz, Ls] { s with heap := h, toks := tk } s₂ := by
      rintro ⟨h', tk', m', news', vs', zs', k', o', v', rfl, F2, N2, m1, m2, m3, m4, mo, i2, f2, l2, d2, r2⟩
      refine kst_end ⟨vs', zs', k', o', v'⟩ F2 N2 ?_ mo rfl ⟨i2, f2, d2⟩ (by simp) (fun z hz _ _ => r2 z hz) ?_
      · intro p hp
        simp only [List.mem_cons, List.not_mem_nil, or_false] at hp
        rcases hp with rfl | rfl | rfl | rfl <;> assumption
      · show zs'.length = (pre ++ [n]).length
        have h9 : c.zs.length = pre.length := hp
        rw [List.length_append, List.length_singleton, l2, h9]
    cases f with
    | ret v => exact p
    | brk => exact p
    | next => exact up p
    | cont => exact up p
  · intro c u h tk hf hp F' N'
    refine done c.vs c.zs c.k c.o u h tk hf.1 hf.2.1 hp ?_ N'
    have e9 : (fun y => if y = x then u y else kstB (fun z => if ([] : List Str).contains z then u z else m₀ z) [] y) = fun y => if y = x then u y else m₀ y := by
      funext y; rw [kb]
    rw [← e9]; exact F'
end
end Mine
end
section
set_option maxHeartbeats 2000000
namespace Mine
open PySem PySem.Spec PySem.Calls PyProof.Rows PyProof.Rows.LCg PyProof.Rows.LCt PySem.W
structure WhS where
  z : Int
  t : Tok
  o : Obj
def WhEnd (h₀ : Heap) (L : Addr) (m₀ : Str → Option Value) (D l Lz Ls : Addr) (od ol os : Obj) (own : List (Addr × Obj)) (z e : Int) (s₁ s₂ : Shared) : Prop :=
  ∃ h' tk news' o t, s₂ = { s₁ with heap := h', toks := tk } ∧ Fr h₀ L h' m₀ ∧ News h₀ L h' news' ∧ (D, od) ∈ news' ∧ (l, ol) ∈ news' ∧ (Lz, o) ∈ news' ∧ (Ls, os) ∈ news' ∧ (∀ p ∈ own, p ∈ news') ∧ o.data = .cell (some (.int (z + 1) t)) ∧ z + 1 ≤ e
def WhPost (h₀ : Heap) (L : Addr) (m₀ : Str → Option Value) (D l Lz Ls : Addr) (od ol os : Obj) (own : List (Addr × Obj)) (z e : Int) (s₁ : Shared) (Q : Flow → Shared → Prop) (f : Flow) (s₂ : Shared) : Prop :=
  match f with
  | .ret v => Q (.ret v) s₂
  | .brk => Q .next s₂
  | _ => WhEnd h₀ L m₀ D l Lz Ls od ol os own z e s₁ s₂
section
variable {prog : Program} {w : World} {A : Around} {E : Value → Shared → Prop} {Q : Flow → Shared → Prop} {s : Shared} {env : Env} {h₀ : Heap} {L : Addr}
theorem sizes_while {D l Lz Ls : Addr} {od ol oz os : Obj} {own : List (Addr × Obj)} {m₀ : Str → Option Value} {news : List (Addr × Obj)} {test : Expr} {body : List Stmt} {pos : Pos} {z₀ : Int} {t₀ : Tok} (e : Int)
    (F : Fr h₀ L s.heap m₀) (N : News h₀ L s.heap news)
    (hD : (D, od) ∈ news) (hl : (l, ol) ∈ news) (hz : (Lz, oz) ∈ news) (hs : (Ls, os) ∈ news) (ho : ∀ p ∈ own, p ∈ news) (hv : oz.data = .cell (some (.int z₀ t₀))) (h2 : 2 ≤ z₀) (he : z₀ ≤ e)
    (turn : ∀ z t o h tk, o.data = .cell (some (.int z t)) → 2 ≤ z → z ≤ e → Fr h₀ L h m₀ → News h₀ L h ([(D, od), (l, ol), (Lz, o), (Ls, os)] ++ own) →
      wpAny (model prog w) A (isTrue test env (eval test env)) (fun b s₂ =>
        if b = true then wpAny (model prog w) A (execs body env) (WhPost h₀ L m₀ D l Lz Ls od ol os own z e s Q) E s₂ else Q .next s₂) E { s with heap := h, toks := tk })
    (hE : PassesOwn (model prog w) A env E := by passes_own) :
    wpAny (model prog w) A (exec (.While test body [] pos) env) Q E s := by
  have kb : ∀ u : Str → Option Value, kstB (fun z => if ([] : List Str).contains z then u z else m₀ z) [] = m₀ := fun u => by funext y; simp [kstB]
  refine ksw_while (σ := WhS) (m₀ := m₀) (fun c => [(D, od), (l, ol), (Lz, c.o), (Ls, os)] ++ own) (fun _ => []) (fun c => c.o.data = .cell (some (.int c.z c.t))) [] (fun c => 2 ≤ c.z ∧ c.z ≤ e) (fun c => (e - c.z).toNat) ⟨z₀, t₀, oz⟩
    F (kst_newsOf N ?_) hv (by simp) ⟨h2, he⟩ ?_ hE
  · intro p hp
    simp only [List.cons_append, List.nil_append, List.mem_cons] at hp
    rcases hp with rfl | rfl | rfl | rfl | hp
    · exact hD
    · exact hl
    · exact hz
    · exact hs
    · exact ho p hp
  · intro c u h tk hf hp F' N'
    rw [kb] at F'
    refine wpAny_mono (turn c.z c.t c.o h tk hf hp.1 hp.2 F' N') (fun b s₂ p => ?_) fun _ _ x => x
    cases b with
    | false => exact p
    | true =>
      rw [if_pos rfl] at p ⊢
      refine wpAny_mono p (fun f s₃ q => ?_) fun _ _ x => x
      have up : WhEnd h₀ L m₀ D l Lz Ls od ol os own c.z e s s₃ → KswEnd h₀ L s (σ := WhS) (fun c => [(D, od), (l, ol), (Lz, c.o), (Ls, os)] ++ own) (fun _ => []) (fun c => c.o.data = .cell (some (.int c.z c.t))) [] m₀ (fun c => 2 ≤ c.z ∧ c.z ≤ e) (fun c => (e - c.z).toNat) c s₃ := by
        rintro ⟨h', tk', news', o', t', rfl, F2, N2, m1, m2, m3, m4, mo, d2, le2⟩
        refine ksw_end ⟨c.z + 1, t', o'⟩ F2 N2 ?_ d2 (by simp) (fun z _ _ => rfl) ⟨by have := hp.1; show 2 ≤ c.z + 1; omega, le2⟩ (by show (e - (c.z + 1)).toNat < (e - c.z).toNat; omega)
        intro p hp
        simp only [List.cons_append, List.nil_append, List.mem_cons] at hp
        rcases hp with rfl | rfl | rfl | rfl | hp
        · exact m1
        · exact m2
        · exact m3
        · exact m4
        · exact mo p hp
      cases f with
      | ret v => exact q
      | brk => exact q
      | next => exact up q
      | cont => exact up q
end
end Mine
end
section
set_option maxRecDepth 100000
namespace Mine
open PySem PySem.Spec PySem.Calls PyProof.Rows PySem.W
theorem fmod_up {z : Int} (i : Nat) : z.fmod (2 + (i : Int)) = z % (2 + (i : Int)) := Int.fmod_eq_emod_of_nonneg _ (by omega)
theorem two_hit {z e : Int} {zs zs4 : List Int} (hz : zs4 = [] ↔ ∀ (i : Nat) (o : Int), i < (z - 1).toNat → o ∈ zs → (decide (z.fmod (2 + (i : Int)) = 0) && decide (o.fmod (2 + (i : Int)) = 0)) = false)
    (hd : decide (zs4 = []) = false) (h2 : 2 ≤ z) (hze : z ≤ e) (he : e ≤ 11) (hc : ∀ o ∈ zs, cop e o = true) : z + 1 ≤ e := by
  by_cases h : z + 1 ≤ e
  · exact h
  · exfalso
    refine (decide_eq_false_iff_not.mp hd) (hz.mpr fun i o hi ho => ?_)
    cases hq : (decide (z.fmod (2 + (i : Int)) = 0) && decide (o.fmod (2 + (i : Int)) = 0)) with
    | false => rfl
    | true =>
      simp only [Bool.and_eq_true, decide_eq_true_eq, fmod_up] at hq
      exact absurd (ahead (n := (z - 1).toNat) (by omega) hze he hc hi ho hq.1 hq.2) h
theorem two_miss {z : Int} {zs zs4 : List Int} (hz : zs4 = [] ↔ ∀ (i : Nat) (o : Int), i < (z - 1).toNat → o ∈ zs → (decide (z.fmod (2 + (i : Int)) = 0) && decide (o.fmod (2 + (i : Int)) = 0)) = false)
    (hd : decide (zs4 = []) = true) : ∀ o ∈ zs, ∀ d : Int, 2 ≤ d → d ≤ z → ¬(z % d = 0 ∧ o % d = 0) := by
  rintro o ho d h1 h2 ⟨e1, e2⟩
  have := hz.mp (decide_eq_true_eq.mp hd) (d - 2).toNat o (by omega) ho
  have hd : (2 + (((d - 2).toNat : Nat) : Int)) = d := by omega
  rw [fmod_up, fmod_up, hd] at this
  simp [e1, e2] at this
theorem size3 {vs : List Value} {zs : List Int} (h : IntsAre vs zs) (hl : zs.length < 3) : vs.toArray.size ≤ sizeLine := by
  rw [List.size_toArray, h.length]
  exact Nat.le_trans (show _ ≤ 3 by omega) (by decide)
theorem push_list {vs : List Value} {x : Value} {k : Nat} : listOf (vs.toArray.push x) (k + 1) = listOf (vs ++ [x]).toArray (k + 1) := by
  rw [List.push_toArray]
end Mine
end
section
open PySem PySem.W PyProof.Rows PySem.Spec PySem.Calls
set_option Elab.async false
set_option maxRecDepth 100000
set_option maxHeartbeats 8000000
namespace Mine
theorem div3_q {a12 a3 b M : Int} (hM0 : 0 < M) (ha : 0 ≤ a12) (ha' : a12 < b) (h3 : 0 ≤ a3) (h3' : a3 < M) :
    a12 * M + a3 = (a12 * M + a3) / b * b + (a12 * M + a3) % b ∧ 0 ≤ (a12 * M + a3) % b ∧ (a12 * M + a3) % b < b ∧ 0 ≤ (a12 * M + a3) / b ∧ (a12 * M + a3) / b < M := by
  have hb : 0 < b := by omega
  have hp : 0 ≤ a12 * M := Int.mul_nonneg ha (by omega)
  refine ⟨?_, Int.emod_nonneg _ (by omega), Int.emod_lt_of_pos _ hb, Int.ediv_nonneg (by omega) (by omega), ?_⟩
  · have := Int.mul_ediv_add_emod (a12 * M + a3) b
    rw [Int.mul_comm] at this; omega
  · refine Int.ediv_lt_of_lt_mul hb ?_
    have : (a12 + 1) * M ≤ b * M := Int.mul_le_mul_of_nonneg_right (by omega) (by omega)
    rw [Int.add_mul, Int.one_mul] at this
    rw [Int.mul_comm M b]; omega
theorem call_div3 {w : World} {mean : ExcName → Option Value} {mg mb : Str → Option Value} {dp un : Nat} {gd : Option (List Code)} {cn : Str} {cs : Scope} {aa : Addr} {ccd : Value} {cl : List (Str × Addr)} {outer : List Env}
  {A₀ : Around} {base h₀ : Heap} {L : Addr} {m : Str → Option Value} {news : List (Addr × Obj)} {s : Shared} {Q E : Value → Shared → Prop} {a12 a3 b b1 b2 n : Int} {t1 t2 t3 t4 t5 t6 : Tok} (M : Int)
  (B : Below A₀ base outer h₀ := by k_asm) (F : Fr h₀ L s.heap m := by k_asm) (X : Frag.In (hd.heap_39 w.params) h₀ := by k_asm) (N : News h₀ L s.heap news := by k_asm) (T : Top hd.view_39 (looseW hd.view_39 [Str.ofString "UTC_ZONES", Str.ofString "TIMEZONE_RE"]) mean mg mb h₀ := by k_asm) (hk : cs.kind = .function := by first | exact rfl | assumption)
  (hn : 0 ≤ n ∧ n ≤ 8 ∧ (2:Int) ^ n.toNat = M) (hb1 : 0 < b1 ∧ b1 < M) (hb2 : 0 ≤ b2 ∧ b2 < M) (hb : b = b1 * M + b2) (hM : 0 < M ∧ M ≤ 256) (ha : 0 ≤ a12 ∧ a12 < b) (hb' : b < 65536) (h3 : 0 ≤ a3 ∧ a3 < M) (hd : dp + 2 < recursionLimit := by ktr_room) (hu : un + 16 < cLine := by ktr_units)
  (ret : ∀ (q r : Int), a12 * M + a3 = q * b + r → 0 ≤ r → r < b → 0 ≤ q → q < M → ∀ (D : Addr) (t u : Tok) (c : Nat) h' tk', Fr h₀ L h' m → News h₀ L h' ((D, ({ cls := .type "tuple", data := .seq #[.int q t, .int r u] c } : Obj)) :: news) → (∀ q ∈ news, q.1 < D) → Q (.ref D) { s with heap := h', toks := tk' }) :
  wpAny (model (RowW.prog (OpenRow.toRowW (OpenLaw.row PySem.Challenge.rw_xg0011_01))) w) (ktrTop dp un gd cn cs L aa ccd cl outer) (call (.ref 45) [.int a12 t1, .int a3 t2, .int b t3, .int b1 t4, .int b2 t5, .int n t6]) Q E s :=
  have f := div3_q hM.1 ha.1 ha.2 h3.1 h3.2
  use_T2 (div3 w a12 a3 b b1 b2 n M t1 t2 t3 t4 t5 t6 hn.1 hn.2.1 hn.2.2 hb1.1 hb1.2 hb2.1 hb2.2 hb hM.1 hM.2 ha.1 ha.2 hb' h3.1 h3.2) B F X N T hk trivial hd hu
    (ret _ _ f.1 f.2.1 f.2.2.1 f.2.2.2.1 f.2.2.2.2)
theorem call_whole {w : World} {mean : ExcName → Option Value} {mg mb : Str → Option Value} {dp un : Nat} {gd : Option (List Code)} {cn : Str} {cs : Scope} {aa : Addr} {ccd : Value} {cl : List (Str × Addr)} {outer : List Env}
  {A₀ : Around} {base h₀ : Heap} {L : Addr} {m : Str → Option Value} {news : List (Addr × Obj)} {s : Shared} {Q E : Value → Shared → Prop} {i : Int} {t : Tok}
  (B : Below A₀ base outer h₀ := by k_asm) (F : Fr h₀ L s.heap m := by k_asm) (X : Frag.In (hd.heap_39 w.params) h₀ := by k_asm) (N : News h₀ L s.heap news := by k_asm) (T : Top hd.view_39 (looseW hd.view_39 [Str.ofString "UTC_ZONES", Str.ofString "TIMEZONE_RE"]) mean mg mb h₀ := by k_asm) (hk : cs.kind = .function := by first | exact rfl | assumption)
  (hd : dp + 1 < recursionLimit := by ktr_room) (hu : un + 8 < cLine := by ktr_units)
  (ret : ∀ h' tk', Fr h₀ L h' m → News h₀ L h' news → Q (.bool true) { s with heap := h', toks := tk' }) :
  wpAny (model (RowW.prog (OpenRow.toRowW (OpenLaw.row PySem.Challenge.rw_xg0011_01))) w) (ktrTop dp un gd cn cs L aa ccd cl outer) (call (.ref 77) [.int i t]) Q E s :=
  use_B (whole_con w i t) B F X N T hk trivial hd hu ret
structure AtOk (W a : Int) : Prop where
  a0 : 0 ≤ a
  a6 : a ≤ 6
  am : a % W = 0
  ah : (16 : Int) ≤ 2 ^ a.toNat
theorem at_ok {hp W : Int} (h : WOk hp W) : AtOk W ((W + 3).fdiv W * W) := by
  have h1 : 1 ≤ W := h.1
  have h2 : W ≤ 4 := h.2.1
  have : W = 1 ∨ W = 2 ∨ W = 3 ∨ W = 4 := by omega
  rcases this with rfl | rfl | rfl | rfl <;> exact ⟨by decide, by decide, by decide, by decide⟩
theorem store_at {prog : Program} {w : World} {A : Around} {E : Value → Shared → Prop} {s : Shared} {env : Env} {x : Str} {t : Tok} {Q : Unit → Shared → Prop} {W e : Int} (hf : AtOk W e)
    (h : ∀ a, AtOk W a → 0 ≤ a → a ≤ 6 → wpAny (model prog w) A (storeName env x (.int a t)) Q E s) : wpAny (model prog w) A (storeName env x (.int e t)) Q E s := h e hf hf.a0 hf.a6
def ShOk (hour parts W sh : Int) : Prop := (sh = 1 ∧ 2 * hour * parts < 4 ^ W.toNat) ∨ (sh = 0 ∧ ¬ 2 * hour * parts < 4 ^ W.toNat)
theorem sh_ok {hour parts W : Int} : ShOk hour parts W (if decide (2 * hour * parts < 4 ^ W.toNat) = true then 1 else 0) := by
  unfold ShOk
  by_cases h : 2 * hour * parts < 4 ^ W.toNat
  · simp [h]
  · simp [h]
theorem store_sh {prog : Program} {w : World} {A : Around} {E : Value → Shared → Prop} {s : Shared} {env : Env} {x : Str} {t : Tok} {Q : Unit → Shared → Prop} {hour parts W e : Int} (hf : ShOk hour parts W e)
    (h : ∀ a, ShOk hour parts W a → 0 ≤ a → a ≤ 1 → wpAny (model prog w) A (storeName env x (.int a t)) Q E s) : wpAny (model prog w) A (storeName env x (.int e t)) Q E s := h e hf (by rcases hf with ⟨rfl, _⟩ | ⟨rfl, _⟩ <;> decide) (by rcases hf with ⟨rfl, _⟩ | ⟨rfl, _⟩ <;> decide)
theorem shS {hour parts W sh : Int} (h : ShOk hour parts W sh) : (2 : Int) ^ sh.toNat = 1 ∨ (2 : Int) ^ sh.toNat = 2 := by
  rcases h with ⟨rfl, _⟩ | ⟨rfl, _⟩
  · exact .inr (by decide)
  · exact .inl (by decide)
theorem powW {hp W : Int} (h : WOk hp W) : 0 < (2 : Int) ^ W.toNat ∧ (2 : Int) ^ W.toNat ≤ 256 := by
  have h1 : 1 ≤ W := h.1
  have h2 : W ≤ 4 := h.2.1
  have : W = 1 ∨ W = 2 ∨ W = 3 ∨ W = 4 := by omega
  rcases this with rfl | rfl | rfl | rfl <;> decide
theorem bigS {hour parts W sh : Int} (h : ShOk hour parts W sh) (hr : WRange (hour * parts) W) (e2 : 2 * hour * parts = 2 * (hour * parts)) (c0 : 2 ≤ hour * parts) : BigOk W (2 ^ W.toNat) (hour * parts * 2 ^ sh.toNat) := by
  rcases h with ⟨rfl, h⟩ | ⟨rfl, h⟩
  · exact big1 hr rfl e2 c0 h
  · exact big0 hr rfl c0
theorem call_div3W {w : World} {mean : ExcName → Option Value} {mg mb : Str → Option Value} {dp un : Nat} {gd : Option (List Code)} {cn : Str} {cs : Scope} {aa : Addr} {ccd : Value} {cl : List (Str × Addr)} {outer : List Env}
  {A₀ : Around} {base h₀ : Heap} {L : Addr} {m : Str → Option Value} {news : List (Addr × Obj)} {s : Shared} {Q E : Value → Shared → Prop} {a12 x hp b n : Int} {t1 t2 t3 t4 t5 t6 : Tok}
  (B : Below A₀ base outer h₀ := by k_asm) (F : Fr h₀ L s.heap m := by k_asm) (X : Frag.In (hd.heap_39 w.params) h₀ := by k_asm) (N : News h₀ L s.heap news := by k_asm) (T : Top hd.view_39 (looseW hd.view_39 [Str.ofString "UTC_ZONES", Str.ofString "TIMEZONE_RE"]) mean mg mb h₀ := by k_asm) (hk : cs.kind = .function := by first | exact rfl | assumption)
  (hW : WOk hp n) (hb : BigOk n (2 ^ n.toNat) b) (ha : 0 ≤ a12 ∧ a12 < b) (hd : dp + 2 < recursionLimit := by ktr_room) (hu : un + 16 < cLine := by ktr_units)
  (ret : ∀ (q r : Int), a12 * 2 ^ n.toNat + x.fmod (2 ^ n.toNat) = q * b + r → 0 ≤ r → r < b → 0 ≤ q → q < 2 ^ n.toNat → ∀ (D : Addr) (t u : Tok) (c : Nat) h' tk', Fr h₀ L h' m → News h₀ L h' ((D, ({ cls := .type "tuple", data := .seq #[.int q t, .int r u] c } : Obj)) :: news) → (∀ q ∈ news, q.1 < D) → Q (.ref D) { s with heap := h', toks := tk' }) :
  wpAny (model (RowW.prog (OpenRow.toRowW (OpenLaw.row PySem.Challenge.rw_xg0011_01))) w) (ktrTop dp un gd cn cs L aa ccd cl outer) (call (.ref 45) [.int a12 t1, .int (x.fmod (2 ^ n.toNat)) t2, .int b t3, .int (b.fdiv (2 ^ n.toNat)) t4, .int (b.fmod (2 ^ n.toNat)) t5, .int n t6]) Q E s :=
  call_div3 (2 ^ n.toNat) B F X N T hk ⟨by have := hW.1; omega, by have := hW.2.1; omega, rfl⟩ hb.p2 hb.p3 hb.p4 (powW hW) ha hb.p7 (fm8 rfl (powW hW).1) hd hu ret
/-- between the turns of the second loop -/
abbrev Loop3 (W big left a h r : Int) : Prop := (0 ≤ a ∧ a ≤ 6 ∧ (a = 0 ∨ W ≤ a) ∧ 0 ≤ h ∧ h ≤ 10000 ∧ 0 ≤ r ∧ r < big) ∧ WInv W big left a h r
theorem loop3_of {W big left a h r : Int} (hW : 1 ≤ W) (I : Loop2 W big left a h r) : Loop3 W big left a h r := by
  refine ⟨⟨I.1.1, I.1.2.1, ?_, I.1.2.2.2⟩, I.2⟩
  have h0 := I.1.1
  have hm := I.1.2.2.1
  by_cases hc : a < W
  · rw [Int.emod_eq_of_lt h0 hc] at hm
    exact .inl hm
  · exact .inr (by omega)
theorem lstart3 {hour parts minutes W sh a : Int} (hW : WOk (hour * parts) W) (h : ShOk hour parts W sh) (ha : AtOk W a) (mp0 : 0 ≤ minutes * parts) (p0 : 1 ≤ parts) (mp1 : minutes * parts + parts ≤ 16 * (hour * parts)) (c0 : 2 ≤ hour * parts) (c1 : hour * parts < 256) :
    Loop3 W (hour * parts * 2 ^ sh.toNat) ((minutes * parts + parts - 1) * 2 ^ sh.toNat) a 0 (((minutes * parts + parts - 1) * 2 ^ sh.toNat).fdiv (2 ^ a.toNat)) :=
  loop3_of hW.1 (lstart (shS h) ha.a0 ha.a6 ha.am ha.ah mp0 p0 mp1 c0 c1)
theorem lstep3 {hour parts minutes W sh a h r q r' : Int} (hW : WOk (hour * parts) W) (hs : ShOk hour parts W sh) (mp0 : 0 ≤ minutes * parts) (p0 : 1 ≤ parts) (mp1 : minutes * parts + parts ≤ 16 * (hour * parts)) (c1 : hour * parts < 256)
    (I : WInv W (hour * parts * 2 ^ sh.toNat) ((minutes * parts + parts - 1) * 2 ^ sh.toNat) a h r)
    (hqr : r * 2 ^ W.toNat + (((minutes * parts + parts - 1) * 2 ^ sh.toNat).fdiv (2 ^ (a - W).toNat)).fmod (2 ^ W.toNat) = q * (hour * parts * 2 ^ sh.toNat) + r') (hr0 : 0 ≤ r') (hr1 : r' < hour * parts * 2 ^ sh.toNat) (hq : 0 ≤ q) (ha : 0 < a) :
    Loop3 W (hour * parts * 2 ^ sh.toNat) ((minutes * parts + parts - 1) * 2 ^ sh.toNat) (a - W) (h * 2 ^ W.toNat + q) r' :=
  loop3_of hW.1 (lstep (left_bd (shS hs) mp0 p0 mp1 c1).2 (left_bd (shS hs) mp0 p0 mp1 c1).1 hW.1 I rfl (powW hW).1 hqr hr0 hr1 hq ha)
local macro_rules | `(tactic| walk_at "storeName") => `(tactic| (k_here; (with_reducible show wpAny _ _ (storeName _ _ (Value.int _ (_ + 1))) _ _ _); (refine store_any (fun _ _ => ?_)); (try dsimp only)))
local macro_rules | `(tactic| walk_at "storeName") => `(tactic| (k_here; (with_reducible show wpAny _ _ (storeName _ (PySem.Str.ofString "at") (Value.int (Int.fdiv _ _ * _) _)) _ _ _); (rename WOk _ _ => hWk); (refine store_at (at_ok hWk) ?_); (intro a' ha' a1' a2')))
local macro_rules | `(tactic| walk_at "storeName") => `(tactic| (k_here; (with_reducible show wpAny _ _ (storeName _ (PySem.Str.ofString "shift") (Value.int (ite _ _ _) _)) _ _ _); (refine store_sh sh_ok ?_); (intro a' ha' a1' a2')))
local macro_rules | `(tactic| walk_at "call ref") => `(tactic| (k_here; (with_reducible show wpAny _ _ (call (Value.ref 77) [Value.int _ _]) _ _ _); (refine call_whole (ret := ?_)); (intro h' tk' F' N'; (try dsimp only); (try k_fold))))
local macro_rules | `(tactic| walk_at "call ref") => `(tactic| (k_here; (with_reducible show wpAny _ _ (call (Value.ref 45) [Value.int _ _, Value.int _ _, Value.int _ _, Value.int _ _, Value.int _ _, Value.int _ _]) _ _ _); (rename ShOk _ _ _ _ => hSh); (rename WOk _ _ => hWk); (refine call_div3W (hW := hWk) (hb := bigS hSh (wok_cases hWk (by assumption)) (by assumption) (by assumption)) (ha := ⟨by assumption, by assumption⟩) (ret := ?_)); (intro q' r' hqr' hr0' hr1' hq0' hq1' D' t' u' c' h' tk' F' N' l1; (try k_lt l1); (try dsimp only); (try k_fold))))
local macro_rules | `(tactic| walk_at "eval ListComp") => `(tactic| (k_here; (with_reducible show wpAny _ _ (eval (Expr.ListComp _ [⟨Expr.Name _ _, Expr.Name (PySem.Str.ofString "told") _, [Expr.UnaryOp _ (Expr.Call (Expr.Name (PySem.Str.ofString "_law_whole") _) _ _ _) _], 0⟩] _ _) _) _ _ _); k_dflt (refine comp_skip (_F₀ := by k_asm) (by with_unfolding_all rfl) (by decide) (by rfl) (by decide) (by rfl) ?_)))
local macro_rules | `(tactic| walk_at "SkipSrc") => `(tactic| (k_here; k_dflt (refine' SkipSrc.intro ?kh ?kF ?kN ?tm ?ts ?ti ?tt ?_; (case kh => exact rfl); (case kF => k_asm); (case kN => k_asm); (case tm => k_mem); (case ti => exact two_ints); (case ts => exact Nat.le_of_ble_eq_true rfl); (case tt => (intro g' q' t' I' oI' C' oC' D' m' h' tk' QQ' E' hC' hx' F' N' off' ne' hQQ'; (try simp only [LCg.Off3, and_true] at off'); (try dsimp only at *); k_steps; exact hQQ' _ _ (by assumption) (by assumption)))); (intro D' h' tk' F' N' o1'; (try simp only [LCg.Off1, and_true] at o1'); (try dsimp only))))
local macro_rules | `(tactic| walk_at "eval IfExp") => `(tactic| (k_here; (with_reducible show wpAny _ _ (eval (Expr.IfExp _ (Expr.Constant (Const.int _) _ _) (Expr.Constant (Const.int _) _ _) _) _) _ _ _); (refine ifexp_int ?_)))
local macro_rules | `(tactic| walk_at "exec While Compare cons nil") => `(tactic| k_extra "exec While Compare cons nil")
theorem walked (w : World) (minutes hour parts : Int) (t1 t2 t3 : Tok) (h0 : 2 ≤ hour) (h1 : hour ≤ 12) (p0 : 1 ≤ parts) (p1 : parts ≤ 16) (m0 : 0 ≤ minutes) (m1 : minutes < 16 * hour) (e2 : 2 * hour * parts = 2 * (hour * parts)) (c0 : 2 ≤ hour * parts) (c1 : hour * parts < 256)
   (mp0 : 0 ≤ minutes * parts) (mp1 : minutes * parts + parts ≤ 16 * (hour * parts)) : Con (RowW.prog (OpenRow.toRowW (OpenLaw.row PySem.Challenge.rw_xg0011_01))) w (hd.heap_39 w.params) hd.view_39 (looseW hd.view_39 [Str.ofString "UTC_ZONES", Str.ofString "TIMEZONE_RE"]) 82 [.int minutes t1, .int hour t2, .int parts t3] 3 128 (fun _ _ => True) (OutT2 (minutes / hour) (minutes % hour)) := by
  w_top off
  k_with_none
  k_fill
  unfold Con
  intro mean mg mb dp un gd cn cs aa ccd cl outer A₀ base h₀ L m news s Q E B F X N T hk hin hd hu hret
  refine wpAny_call ?_
  k_dflt cell_enter
  have hlt := lt_of_news ‹News _ _ _ news›
  (k_with "exec While Compare cons nil" => k_while_given ["hour", "parts"] (fun hour parts _ W => (1 ≤ W ∧ W ≤ 4) ∧ WOk (hour * parts) W) (fun _ _ _ W => (5 - W).toNat) "width")
  (k_with "exec While Compare cons nil" => k_while_given ["width", "big", "left"] (fun W big left _ a h r => Loop3 W big left a h r) (fun _ _ _ _ a _ _ => a.toNat) "at" "hours" "rest")
  (k_with "state" => first | exact ⟨⟨by decide, by decide⟩, wok_start⟩ | exact wok_next (by assumption) (by assumption) (by assumption) | exact lstart3 (by assumption) (by assumption) (by assumption) mp0 p0 mp1 c0 c1 | exact lstep3 (by assumption) (by assumption) mp0 p0 mp1 c1 (by assumption) (by assumption) (by assumption) (by assumption) (by assumption) (by assumption))
  (k_with "measure" => first | exact wok_meas (by assumption) | omega)
  k_steps
  all_goals (
    have he := lend (by assumption) (by assumption) (shS (by assumption)) (by assumption) (by assumption)
    refine end_T2 (news := news) hret (by k_asm) (by assumption) (by k_mem) (by intro p hp; k_ownIn) ?_ he.1 he.2)
  all_goals first | exact hlt | assumption | exact ktn_ltOf (by assumption) | exact ktn_ltOf (And.right (by assumption)) | exact ktn_ltOf (And.right (And.right (by assumption)))
end Mine
end
section
open PySem PySem.W PyProof.Rows PySem.Spec PySem.Calls
set_option Elab.async false
set_option maxRecDepth 100000
set_option maxHeartbeats 8000000
namespace Mine
theorem code_ok : codeOk zcode = true := by decide +kernel
theorem tab_ok : ∀ p ∈ tab, zrun zcode p.1 p.1.size = some p.2 := by decide +kernel
/-- what the groups' texts read, upon the text's own spans -/
def zval (x : Str) (l : List Int) (v : Int) : Bool := match l with
  | [_, _, b1, e1, b2, e2, b3, e3] => (match grp x b1 e1 with | some y => decide (y.length ≤ 16) | none => true) && (match grp x b2 e2 with
    | some y2 => decide (y2.length ≤ 16) && (match PySem.intText? y2 with
      | some H => decide (0 ≤ H) && decide (H < 100) && (match grp x b3 e3 with
        | none => decide (v = signed (grp x b1 e1) (3600 * H + 60 * 0))
        | some y3 => decide (0 < y3.length) && decide (y3.length ≤ 16) && (match PySem.intText? y3 with
          | some M => decide (0 ≤ M) && decide (M < 100) && decide (v = signed (grp x b1 e1) (3600 * H + 60 * M))
          | none => false))
      | none => false)
    | none => false)
  | _ => false
def zchk (x : Str) (v : Int) : Bool := !isUtc x && decide (x.cps.size ≤ 16) && (match tab.lookup (canon x.cps) with | some l => zval x l v | none => false)
theorem mem_of_lookup {α β : Type} [BEq α] [LawfulBEq α] {k : α} {v : β} : ∀ {l : List (α × β)}, l.lookup k = some v → (k, v) ∈ l := by
  intro l
  induction l with
  | nil => intro h; cases h
  | cons p r ih =>
    intro h
    obtain ⟨a, b⟩ := p
    rw [List.lookup_cons] at h
    by_cases e : (k == a) = true
    · rw [e] at h
      cases h
      rw [eq_of_beq e]
      exact List.mem_cons_self
    · simp only [Bool.not_eq_true] at e
      rw [e] at h
      exact List.mem_cons_of_mem _ (ih h)
theorem off_of_chk (w : World) (x : Str) (t : Tok) (v : Int) (h : zchk x v = true) :
   Con (RowW.prog (OpenRow.toRowW (OpenLaw.row PySem.Challenge.rw_xg0011_01))) w (hd.heap_39 w.params) hd.view_39 (looseW hd.view_39 [Str.ofString "UTC_ZONES", Str.ofString "TIMEZONE_RE"]) 58 [.str x t] 2 16 (fun _ _ => True) (OutI v) := by
  unfold zchk at h
  simp only [Bool.and_eq_true, Bool.not_eq_true', decide_eq_true_eq] at h
  obtain ⟨⟨hz, hs⟩, h⟩ := h
  cases hl : tab.lookup (canon x.cps) with
  | none => rw [hl] at h; cases h
  | some l =>
    rw [hl] at h
    dsimp only at h
    have hr : zrun zcode x.cps x.cps.size = some l := by
      rw [zrun_canon code_ok]
      have e := tab_ok _ (mem_of_lookup hl)
      have es : (canon x.cps).size = x.cps.size := by unfold canon; exact Array.size_map
      dsimp only at e
      rw [es] at e
      exact e
    unfold zval at h
    split at h
    · rename_i s0 e0 b1 e1 b2 e2 b3 e3
      simp only [Bool.and_eq_true] at h
      obtain ⟨h1, h2⟩ := h
      cases hg2 : grp x b2 e2 with
      | none => rw [hg2] at h2; cases h2
      | some y2 =>
        rw [hg2] at h2
        simp only [Bool.and_eq_true, decide_eq_true_eq] at h2
        obtain ⟨hl2, h2⟩ := h2
        cases hi : PySem.intText? y2 with
        | none => rw [hi] at h2; cases h2
        | some H =>
          rw [hi] at h2
          simp only [Bool.and_eq_true, decide_eq_true_eq] at h2
          obtain ⟨⟨hH, hH'⟩, h2⟩ := h2
          have hl1 : ∀ y, grp x b1 e1 = some y → y.length ≤ 16 := by
            intro y hy
            rw [hy] at h1
            simpa using h1
          cases hg3 : grp x b3 e3 with
          | none =>
            rw [hg3] at h2
            simp only [decide_eq_true_eq] at h2
            exact off_zone w x t v H 0 y2 s0 e0 b1 e1 b2 e2 b3 e3 _ _ hz hs hr hg2 hl2 hi rfl hg3 hl1 rfl hH hH' (by decide) (by decide) h2
          | some y3 =>
            rw [hg3] at h2
            simp only [Bool.and_eq_true, decide_eq_true_eq] at h2
            obtain ⟨⟨h31, h32⟩, h2⟩ := h2
            cases hi3 : PySem.intText? y3 with
            | none => rw [hi3] at h2; cases h2
            | some M =>
              rw [hi3] at h2
              simp only [Bool.and_eq_true, decide_eq_true_eq] at h2
              obtain ⟨⟨hM, hM'⟩, h2⟩ := h2
              exact off_zone w x t v H M y2 s0 e0 b1 e1 b2 e2 b3 e3 _ _ hz hs hr hg2 hl2 hi rfl hg3 hl1 ⟨hi3, h31, h32⟩ hH hH' hM hM' h2
    · cases h
theorem zone_00 : ∀ h ∈ List.range 13, ∀ m ∈ List.range 12, (h == 0 && m == 0 || zchk (zoneT (h : Nat) (m : Nat) ((2 * 0 : Nat) : Int) (Str.ofString "")) (3600 * (h : Nat) + 60 * (m : Nat))) = true := by decide +kernel
theorem zone_01 : ∀ h ∈ List.range 13, ∀ m ∈ List.range 12, (h == 0 && m == 0 || zchk (zoneT (h : Nat) (m : Nat) ((2 * 1 : Nat) : Int) (Str.ofString "")) (3600 * (h : Nat) + 60 * (m : Nat))) = true := by decide +kernel
theorem zone_02 : ∀ h ∈ List.range 13, ∀ m ∈ List.range 12, (h == 0 && m == 0 || zchk (zoneT (h : Nat) (m : Nat) ((2 * 2 : Nat) : Int) (Str.ofString "")) (3600 * (h : Nat) + 60 * (m : Nat))) = true := by decide +kernel
theorem zone_03 : ∀ h ∈ List.range 13, ∀ m ∈ List.range 12, (h == 0 && m == 0 || zchk (zoneT (h : Nat) (m : Nat) ((2 * 3 : Nat) : Int) (Str.ofString "")) (3600 * (h : Nat) + 60 * (m : Nat))) = true := by decide +kernel
theorem zone_0 : ∀ h ∈ List.range 13, ∀ m ∈ List.range 12, ∀ k ∈ List.range 4, (h == 0 && m == 0 || zchk (zoneT (h : Nat) (m : Nat) ((2 * k : Nat) : Int) (Str.ofString "")) (3600 * (h : Nat) + 60 * (m : Nat))) = true := by
  intro h hh m hm k hk
  have hk := List.mem_range.mp hk
  obtain e | e | e | e : k = 0 ∨ k = 1 ∨ k = 2 ∨ k = 3 := by omega
  · subst e; exact zone_00 h hh m hm
  · subst e; exact zone_01 h hh m hm
  · subst e; exact zone_02 h hh m hm
  · subst e; exact zone_03 h hh m hm
theorem zone_10 : ∀ h ∈ List.range 13, ∀ m ∈ List.range 12, (h == 0 && m == 0 || zchk (zoneT (h : Nat) (m : Nat) ((2 * 0 : Nat) : Int) (Str.ofString "+")) (3600 * (h : Nat) + 60 * (m : Nat))) = true := by decide +kernel
theorem zone_11 : ∀ h ∈ List.range 13, ∀ m ∈ List.range 12, (h == 0 && m == 0 || zchk (zoneT (h : Nat) (m : Nat) ((2 * 1 : Nat) : Int) (Str.ofString "+")) (3600 * (h : Nat) + 60 * (m : Nat))) = true := by decide +kernel
theorem zone_12 : ∀ h ∈ List.range 13, ∀ m ∈ List.range 12, (h == 0 && m == 0 || zchk (zoneT (h : Nat) (m : Nat) ((2 * 2 : Nat) : Int) (Str.ofString "+")) (3600 * (h : Nat) + 60 * (m : Nat))) = true := by decide +kernel
theorem zone_13 : ∀ h ∈ List.range 13, ∀ m ∈ List.range 12, (h == 0 && m == 0 || zchk (zoneT (h : Nat) (m : Nat) ((2 * 3 : Nat) : Int) (Str.ofString "+")) (3600 * (h : Nat) + 60 * (m : Nat))) = true := by decide +kernel
theorem zone_1 : ∀ h ∈ List.range 13, ∀ m ∈ List.range 12, ∀ k ∈ List.range 4, (h == 0 && m == 0 || zchk (zoneT (h : Nat) (m : Nat) ((2 * k : Nat) : Int) (Str.ofString "+")) (3600 * (h : Nat) + 60 * (m : Nat))) = true := by
  intro h hh m hm k hk
  have hk := List.mem_range.mp hk
  obtain e | e | e | e : k = 0 ∨ k = 1 ∨ k = 2 ∨ k = 3 := by omega
  · subst e; exact zone_10 h hh m hm
  · subst e; exact zone_11 h hh m hm
  · subst e; exact zone_12 h hh m hm
  · subst e; exact zone_13 h hh m hm
theorem zone_20 : ∀ h ∈ List.range 13, ∀ m ∈ List.range 12, (h == 0 && m == 0 || zchk (zoneT (h : Nat) (m : Nat) ((2 * 0 : Nat) : Int) (Str.ofString "-")) (-(3600 * (h : Nat) + 60 * (m : Nat)))) = true := by decide +kernel
theorem zone_21 : ∀ h ∈ List.range 13, ∀ m ∈ List.range 12, (h == 0 && m == 0 || zchk (zoneT (h : Nat) (m : Nat) ((2 * 1 : Nat) : Int) (Str.ofString "-")) (-(3600 * (h : Nat) + 60 * (m : Nat)))) = true := by decide +kernel
theorem zone_22 : ∀ h ∈ List.range 13, ∀ m ∈ List.range 12, (h == 0 && m == 0 || zchk (zoneT (h : Nat) (m : Nat) ((2 * 2 : Nat) : Int) (Str.ofString "-")) (-(3600 * (h : Nat) + 60 * (m : Nat)))) = true := by decide +kernel
theorem zone_23 : ∀ h ∈ List.range 13, ∀ m ∈ List.range 12, (h == 0 && m == 0 || zchk (zoneT (h : Nat) (m : Nat) ((2 * 3 : Nat) : Int) (Str.ofString "-")) (-(3600 * (h : Nat) + 60 * (m : Nat)))) = true := by decide +kernel
theorem zone_2 : ∀ h ∈ List.range 13, ∀ m ∈ List.range 12, ∀ k ∈ List.range 4, (h == 0 && m == 0 || zchk (zoneT (h : Nat) (m : Nat) ((2 * k : Nat) : Int) (Str.ofString "-")) (-(3600 * (h : Nat) + 60 * (m : Nat)))) = true := by
  intro h hh m hm k hk
  have hk := List.mem_range.mp hk
  obtain e | e | e | e : k = 0 ∨ k = 1 ∨ k = 2 ∨ k = 3 := by omega
  · subst e; exact zone_20 h hh m hm
  · subst e; exact zone_21 h hh m hm
  · subst e; exact zone_22 h hh m hm
  · subst e; exact zone_23 h hh m hm
end Mine
end
section
open PySem PySem.W PyProof.Rows PySem.Spec PySem.Calls
set_option Elab.async false
set_option maxRecDepth 100000
set_option maxHeartbeats 8000000
namespace Mine
def zoneV (hours minutes look : Int) (sign : Str) : Str := if hours = 0 ∧ minutes = 0 then ([Str.ofString "GMT", Str.ofString "UTC", Str.ofString "UT", Str.ofString "Z"] : List Str).getD (look.fmod 4).toNat Str.empty else zoneT hours minutes look sign
def OffOk (x : Str) (v : Int) : Prop := (isUtc x = true ∧ v = 0) ∨ zchk x v = true
theorem zoneV_con (w : World) (hours minutes look : Int) (sign : Str) (t1 t2 t3 t4 : Tok) (h0 : 0 ≤ hours) (h1 : hours ≤ 50) (m0 : 0 ≤ minutes) (m1 : minutes < 60) (l0 : 0 ≤ look) (l1 : look < 8) (hs : sign.length ≤ 1) :
    Con (RowW.prog (OpenRow.toRowW (OpenLaw.row PySem.Challenge.rw_xg0011_01))) w (hd.heap_39 w.params) hd.view_39 (looseW hd.view_39 [Str.ofString "UTC_ZONES", Str.ofString "TIMEZONE_RE"]) 89 [.int hours t1, .int minutes t2, .int look t3, .str sign t4] 1 8 (fun _ _ => True) (OutS (zoneV hours minutes look sign)) := by
  unfold zoneV
  by_cases h : hours = 0 ∧ minutes = 0
  · obtain ⟨rfl, rfl⟩ := h
    rw [if_pos ⟨rfl, rfl⟩]
    exact zone_utc w look sign t1 t2 t3 t4 l0 l1 hs
  · rw [if_neg h]
    exact zone_con w hours minutes look sign t1 t2 t3 t4 h0 h1 m0 m1 l0 l1 hs (by omega)
theorem offOk_con (w : World) (x : Str) (t : Tok) (v : Int) (h : OffOk x v) :
   Con (RowW.prog (OpenRow.toRowW (OpenLaw.row PySem.Challenge.rw_xg0011_01))) w (hd.heap_39 w.params) hd.view_39 (looseW hd.view_39 [Str.ofString "UTC_ZONES", Str.ofString "TIMEZONE_RE"]) 58 [.str x t] 2 16 (fun _ _ => True) (OutI v) := by
  rcases h with ⟨h, rfl⟩ | h
  · exact off_utc w x t h
  · exact off_of_chk w x t v h
theorem utc_menu : ∀ k ∈ List.range 8, isUtc (([Str.ofString "GMT", Str.ofString "UTC", Str.ofString "UT", Str.ofString "Z"] : List Str).getD (((k : Nat) : Int).fmod 4).toNat Str.empty) = true := by decide +kernel
theorem look_tab : ∀ k ∈ List.range 8, (decide (((k : Nat) : Int).fdiv 4 = ((2 * (k / 2) : Nat) : Int).fdiv 4) && decide (((k : Nat) : Int).fdiv 2 = ((2 * (k / 2) : Nat) : Int).fdiv 2)) = true := by decide +kernel
theorem zoneT_look {h m : Int} {k : Nat} {s : Str} (hk : k ∈ List.range 8) : zoneT h m (k : Nat) s = zoneT h m ((2 * (k / 2) : Nat) : Int) s := by
  have := look_tab k hk
  simp only [Bool.and_eq_true, decide_eq_true_eq] at this
  unfold zoneT
  rw [this.1, this.2]
/-- the text of a time tells the time, in seconds -/
theorem zone_ok {hours minutes look v : Int} {sign : Str} (h0 : 0 ≤ hours) (h1 : hours ≤ 12) (m0 : 0 ≤ minutes) (m1 : minutes < 12) (l0 : 0 ≤ look) (l1 : look < 8)
    (hs : ((sign = Str.ofString "" ∨ sign = Str.ofString "+") ∧ v = 3600 * hours + 60 * minutes) ∨ (sign = Str.ofString "-" ∧ v = -(3600 * hours + 60 * minutes))) : OffOk (zoneV hours minutes look sign) v := by
  obtain ⟨h, rfl⟩ := Int.eq_ofNat_of_zero_le h0
  obtain ⟨m, rfl⟩ := Int.eq_ofNat_of_zero_le m0
  obtain ⟨k, rfl⟩ := Int.eq_ofNat_of_zero_le l0
  have hh : h ∈ List.range 13 := List.mem_range.mpr (by omega)
  have hm : m ∈ List.range 12 := List.mem_range.mpr (by omega)
  have hk : k ∈ List.range 8 := List.mem_range.mpr (by omega)
  have hk2 : k / 2 ∈ List.range 4 := List.mem_range.mpr (by omega)
  unfold zoneV
  by_cases hz : (h : Int) = 0 ∧ (m : Int) = 0
  · rw [if_pos hz]
    refine .inl ⟨utc_menu k hk, ?_⟩
    omega
  · rw [if_neg hz]
    have hz' : (h == 0 && m == 0) = false := by
      rw [Bool.and_eq_false_iff, beq_eq_false_iff_ne, beq_eq_false_iff_ne]
      omega
    refine .inr ?_
    rcases hs with ⟨rfl | rfl, rfl⟩ | ⟨rfl, rfl⟩
    · have := zone_0 h hh m hm (k / 2) hk2
      rw [hz', Bool.false_or] at this
      rw [zoneT_look hk]
      exact this
    · have := zone_1 h hh m hm (k / 2) hk2
      rw [hz', Bool.false_or] at this
      rw [zoneT_look hk]
      exact this
    · have := zone_2 h hh m hm (k / 2) hk2
      rw [hz', Bool.false_or] at this
      rw [zoneT_look hk]
      exact this
section
variable {w : World} {mean : ExcName → Option Value} {mg mb : Str → Option Value} {dp un : Nat} {gd : Option (List Code)} {cn : Str} {cs : Scope} {aa : Addr} {ccd : Value} {cl : List (Str × Addr)} {outer : List Env}
  {A₀ : Around} {base h₀ : Heap} {L : Addr} {m : Str → Option Value} {news : List (Addr × Obj)} {s : Shared} {Q E : Value → Shared → Prop}
theorem call_walked {minutes hour parts : Int} {t1 t2 t3 : Tok}
  (B : Below A₀ base outer h₀ := by k_asm) (F : Fr h₀ L s.heap m := by k_asm) (X : Frag.In (hd.heap_39 w.params) h₀ := by k_asm) (N : News h₀ L s.heap news := by k_asm) (T : Top hd.view_39 (looseW hd.view_39 [Str.ofString "UTC_ZONES", Str.ofString "TIMEZONE_RE"]) mean mg mb h₀ := by k_asm) (hk : cs.kind = .function := by first | exact rfl | assumption)
  (hp : WPre minutes hour parts) (hd : dp + 3 < recursionLimit := by ktr_room) (hu : un + 128 < cLine := by ktr_units)
  (ret : ∀ (D : Addr) (t u : Tok) (c : Nat) h' tk', Fr h₀ L h' m → News h₀ L h' ((D, ({ cls := .type "tuple", data := .seq #[.int (minutes / hour) t, .int (minutes % hour) u] c } : Obj)) :: news) → (∀ q ∈ news, q.1 < D) → Q (.ref D) { s with heap := h', toks := tk' }) :
  wpAny (model (RowW.prog (OpenRow.toRowW (OpenLaw.row PySem.Challenge.rw_xg0011_01))) w) (ktrTop dp un gd cn cs L aa ccd cl outer) (call (.ref 82) [.int minutes t1, .int hour t2, .int parts t3]) Q E s :=
  use_T2 (walked w minutes hour parts t1 t2 t3 hp.h0 hp.h1 hp.p0 hp.p1 hp.m0 hp.m1 hp.e2 hp.c0 hp.c1 hp.mp0 hp.mp1) B F X N T hk trivial hd hu ret
theorem call_zone {hours minutes look : Int} {sign : Str} {t1 t2 t3 t4 : Tok}
  (B : Below A₀ base outer h₀ := by k_asm) (F : Fr h₀ L s.heap m := by k_asm) (X : Frag.In (hd.heap_39 w.params) h₀ := by k_asm) (N : News h₀ L s.heap news := by k_asm) (T : Top hd.view_39 (looseW hd.view_39 [Str.ofString "UTC_ZONES", Str.ofString "TIMEZONE_RE"]) mean mg mb h₀ := by k_asm) (hk : cs.kind = .function := by first | exact rfl | assumption)
  (hp : 0 ≤ hours ∧ hours ≤ 12 ∧ 0 ≤ minutes ∧ minutes < 12 ∧ 0 ≤ look ∧ look < 8) (hs : sign.length ≤ 1) (hd : dp + 1 < recursionLimit := by ktr_room) (hu : un + 8 < cLine := by ktr_units)
  (ret : ∀ t h' tk', Fr h₀ L h' m → News h₀ L h' news → Q (.str (zoneV hours minutes look sign) t) { s with heap := h', toks := tk' }) :
  wpAny (model (RowW.prog (OpenRow.toRowW (OpenLaw.row PySem.Challenge.rw_xg0011_01))) w) (ktrTop dp un gd cn cs L aa ccd cl outer) (call (.ref 89) [.int hours t1, .int minutes t2, .int look t3, .str sign t4]) Q E s :=
  use_S (zoneV_con w hours minutes look sign t1 t2 t3 t4 hp.1 (by omega) hp.2.2.1 (by omega) hp.2.2.2.2.1 hp.2.2.2.2.2 hs) B F X N T hk trivial hd hu ret
theorem call_off {x : Str} {v : Int} {t : Tok}
  (B : Below A₀ base outer h₀ := by k_asm) (F : Fr h₀ L s.heap m := by k_asm) (X : Frag.In (hd.heap_39 w.params) h₀ := by k_asm) (N : News h₀ L s.heap news := by k_asm) (T : Top hd.view_39 (looseW hd.view_39 [Str.ofString "UTC_ZONES", Str.ofString "TIMEZONE_RE"]) mean mg mb h₀ := by k_asm) (hk : cs.kind = .function := by first | exact rfl | assumption)
  (hp : OffOk x v) (hd : dp + 2 < recursionLimit := by ktr_room) (hu : un + 16 < cLine := by ktr_units)
  (ret : ∀ t h' tk', Fr h₀ L h' m → News h₀ L h' news → Q (.int v t) { s with heap := h', toks := tk' }) :
  wpAny (model (RowW.prog (OpenRow.toRowW (OpenLaw.row PySem.Challenge.rw_xg0011_01))) w) (ktrTop dp un gd cn cs L aa ccd cl outer) (call (.ref 58) [.str x t]) Q E s :=
  use_I (offOk_con w x t v hp) B F X N T hk trivial hd hu ret
theorem call_cost {a b : Str} {t u : Tok}
  (B : Below A₀ base outer h₀ := by k_asm) (F : Fr h₀ L s.heap m := by k_asm) (X : Frag.In (hd.heap_39 w.params) h₀ := by k_asm) (N : News h₀ L s.heap news := by k_asm) (T : Top hd.view_39 (looseW hd.view_39 [Str.ofString "UTC_ZONES", Str.ofString "TIMEZONE_RE"]) mean mg mb h₀ := by k_asm) (hk : cs.kind = .function := by first | exact rfl | assumption)
  (hp : a.length ≤ 1 ∧ b.length ≤ 1) (hd : dp + 1 < recursionLimit := by ktr_room) (hu : un + 8 < cLine := by ktr_units)
  (ret : ∀ t h' tk', Fr h₀ L h' m → News h₀ L h' news → Q (.int (costOf a b) t) { s with heap := h', toks := tk' }) :
  wpAny (model (RowW.prog (OpenRow.toRowW (OpenLaw.row PySem.Challenge.rw_xg0011_01))) w) (ktrTop dp un gd cn cs L aa ccd cl outer) (call (.ref 65) [.str a t, .str b u]) Q E s :=
  use_I (cost_con w a b t u hp.1 hp.2) B F X N T hk trivial hd hu ret
end
end Mine
end
section
open PySem PySem.W PyProof.Rows PySem.Spec PySem.Calls
set_option Elab.async false
set_option maxRecDepth 100000
set_option maxHeartbeats 8000000
namespace Mine
theorem marks_len {h f s u t : Int} {ms : List Str} (hm : ms = (rangeKs 0 (h + 1 - 0).toNat).map (mOf h f s)) (t0 : 0 ≤ t) (tu : t < u) (uh : u ≤ h) : (ms.getD t.toNat Str.empty).length ≤ 1 ∧ (ms.getD u.toNat Str.empty).length ≤ 1 := by
  subst hm
  rw [getD_ks _ _ (by omega) (by omega), getD_ks _ _ (by omega) (by omega)]
  exact ⟨mOf_len _ _ _ _, mOf_len _ _ _ _⟩
theorem sgn_or (x : Int) : ([Str.ofString "", Str.ofString "+"] : List Str).getD (x.fmod 2).toNat Str.empty = Str.ofString "" ∨ ([Str.ofString "", Str.ofString "+"] : List Str).getD (x.fmod 2).toNat Str.empty = Str.ofString "+" := by
  have : x.fmod 2 = 0 ∨ x.fmod 2 = 1 := by
    rw [Int.fmod_eq_emod_of_nonneg _ (by decide)]
    omega
  rcases this with e | e <;> rw [e]
  · exact .inl rfl
  · exact .inr rfl
theorem sgn_len (x : Int) : (([Str.ofString "", Str.ofString "+"] : List Str).getD (x.fmod 2).toNat Str.empty).length ≤ 1 := by
  rcases sgn_or x with e | e <;> rw [e] <;> decide
theorem zp {first t hour x : Int} (h0 : 2 ≤ hour) (h1 : hour ≤ 12) (f0 : 0 ≤ first) (f1 : first ≤ 12) (t0 : 0 ≤ t) (t1 : t ≤ hour) : 0 ≤ first * t / hour ∧ first * t / hour ≤ 12 ∧ 0 ≤ first * t % hour ∧ first * t % hour < 12 ∧ 0 ≤ x.fmod 8 ∧ x.fmod 8 < 8 := by
  have b := walk_bd h0 h1 f0 f1 t0 t1
  exact ⟨b.1, b.2.1, b.2.2.1, Int.lt_of_lt_of_le b.2.2.2 h1, (look_bd x).1, (look_bd x).2⟩
theorem zo_p {first t hour x y : Int} (h0 : 2 ≤ hour) (h1 : hour ≤ 12) (f0 : 0 ≤ first) (f1 : first ≤ 12) (t0 : 0 ≤ t) (t1 : t ≤ hour) :
    OffOk (zoneV (first * t / hour) (first * t % hour) (x.fmod 8) (([Str.ofString "", Str.ofString "+"] : List Str).getD (y.fmod 2).toNat Str.empty)) (3600 * (first * t / hour) + 60 * (first * t % hour)) := by
  have b := zp (x := x) h0 h1 f0 f1 t0 t1
  exact zone_ok b.1 b.2.1 b.2.2.1 b.2.2.2.1 b.2.2.2.2.1 b.2.2.2.2.2 (.inl ⟨sgn_or _, rfl⟩)
theorem zo_n {first t hour x : Int} (h0 : 2 ≤ hour) (h1 : hour ≤ 12) (f0 : 0 ≤ first) (f1 : first ≤ 12) (t0 : 0 ≤ t) (t1 : t ≤ hour) :
    OffOk (zoneV (first * t / hour) (first * t % hour) (x.fmod 8) (Str.ofString "-")) (-(3600 * (first * t / hour) + 60 * (first * t % hour))) := by
  have b := zp (x := x) h0 h1 f0 f1 t0 t1
  exact zone_ok b.1 b.2.1 b.2.2.1 b.2.2.2.1 b.2.2.2.2.1 b.2.2.2.2.2 (.inr ⟨rfl, rfl⟩)
local macro_rules | `(tactic| walk_at "storeName") => `(tactic| (k_here; (with_reducible show wpAny _ _ (storeName _ _ (Value.int _ (_ + 1))) _ _ _); (refine store_any (fun _ _ => ?_)); (try dsimp only)))
local macro_rules | `(tactic| walk_at "call ref") => `(tactic| (k_here; (refine call_whole (ret := ?_)); (intro h' tk' F' N'; (try dsimp only); (try k_fold))))
local macro_rules | `(tactic| walk_at "call ref") => `(tactic| (k_here; (refine call_cost (hp := marks_len (by assumption) (by omega) (by omega) (by omega)) (ret := ?_)); (intro t' h' tk' F' N'; (try dsimp only); (try k_fold))))
local macro_rules | `(tactic| walk_at "call ref") => `(tactic| (k_here; (with_reducible show wpAny _ _ (call (Value.ref 58) [Value.str (zoneV _ _ _ _) _]) _ _ _); (refine call_off (hp := by first | exact zo_p (by assumption) (by assumption) (by omega) (by omega) (by omega) (by omega) | exact zo_n (by assumption) (by assumption) (by omega) (by omega) (by omega) (by omega)) (ret := ?_)); (intro t' h' tk' F' N'; (try dsimp only); (try k_fold))))
local macro_rules | `(tactic| walk_at "call ref") => `(tactic| (k_here; (refine call_zone (hp := zp (by assumption) (by assumption) (by omega) (by omega) (by omega) (by omega)) (hs := by first | exact sgn_len _ | decide) (ret := ?_)); (intro t' h' tk' F' N'; (try dsimp only); (try k_fold))))
local macro_rules | `(tactic| walk_at "call ref") => `(tactic| (k_here; (refine call_walked (hp := wpre_of (by assumption) (by assumption) (parts_bd _).1 (parts_bd _).2 (by omega) (by omega) (by omega) (by omega)) (ret := ?_)); (intro D' t' u' c' h' tk' F' N' l1; (try k_lt l1); (try dsimp only); (try k_fold))))
local macro_rules | `(tactic| walk_at "eval ListComp") => `(tactic| (k_here; (with_reducible show wpAny _ _ (eval (Expr.ListComp _ [⟨Expr.Name _ _, Expr.BinOp _ _ _ _, [Expr.UnaryOp _ (Expr.Call (Expr.Name (PySem.Str.ofString "_law_whole") _) _ _ _) _], 0⟩] _ _) _) _ _ _); k_dflt (refine comp_skipL (_F₀ := by k_asm) (by with_unfolding_all rfl) (by decide) (by rfl) (by decide) (by rfl) ?_)))
local macro_rules | `(tactic| walk_at "SkipSrcL") => `(tactic| (k_here; k_dflt (refine' SkipSrcL.intro ?kh ?kF ?kN ?tm ?ti ?ts ?tt ?_; (case kh => exact rfl); (case kF => k_asm); (case kN => k_asm); (case tm => k_mem); (case ti => l_ints); (case ts => ((simp only [List.length_append]); (simp only [rangeKs_length] at *); exact Nat.le_trans (show _ ≤ 100 by omega) (by decide))); (case tt => (intro g' q' t' I' oI' C' oC' D' m' h' tk' QQ' E' hC' hx' F' N' off' ne' hQQ'; (try simp only [LCg.Off3, and_true] at off'); (try dsimp only at *); k_steps; exact hQQ' _ _ (by assumption) (by assumption)))); (intro D' h' tk' F' N' o1'; (try simp only [LCg.Off1, and_true] at o1'); (rename (List.length _ = List.length (rangeKs _ _)) => hA1; rw [rangeKs_length] at hA1); (rename (List.length _ = List.length (rangeKs _ _)) => hA2; rw [rangeKs_length] at hA2); (rename (List.length _ = List.length (rangeKs _ _)) => hA3; rw [rangeKs_length] at hA3); (try dsimp only))))
local macro_rules | `(tactic| walk_at "eval IfExp") => `(tactic| (k_here; (with_reducible show wpAny _ _ (eval (Expr.IfExp _ (Expr.Constant (Const.int _) _ _) (Expr.Constant (Const.int _) _ _) _) _) _ _ _); (refine ifexp_int ?_)))
local macro_rules | `(tactic| walk_at "exec If") => `(tactic| (k_here; (with_reducible show wpAny _ _ (exec (Stmt.If _ [Stmt.Return (some (Expr.UnaryOp _ _ _)) _] [] _) _) _ _ _); (refine if_nogo ?_)))
theorem bne_of {a b : Int} (h : a = b) : (a != b) = false := by subst h; simp
local macro_rules | `(tactic| walk_at "NoGo") => `(tactic| (first | (rename (costOf _ _ ≠ _) => hne9; exact False.elim (hne9 (cost_law (by assumption) (by omega) (by omega) (by omega) (by assumption) (by assumption)))) | ((refine NoGo.intro ?nb ?_); (case nb => first | rfl | exact bne_of (early_law (by assumption) (by omega) (by omega) (by omega) (by assumption)) | exact bne_of (late_law (by assumption) (by omega) (by omega) (by omega) (by assumption)) | exact bne_of (cost_law (by assumption) (by omega) (by omega) (by omega) (by assumption) (by assumption))))))
theorem opposed (w : World) (hour first second : Int) (l : Addr) (ds : List Int) (vs : List Value) (t1 t2 t3 : Tok) (h0 : 2 ≤ hour) (h1 : hour ≤ 12) (f0 : 2 ≤ first) (f1 : first ≤ 12) (s0 : 2 ≤ second) (s1 : second ≤ 12) (d0 : 0 < ds.length) (d1 : ds.length ≤ 16) (di : IntsAre vs ds) :
    Con (RowW.prog (OpenRow.toRowW (OpenLaw.row PySem.Challenge.rw_xg0011_01))) w (hd.heap_39 w.params) hd.view_39 (looseW hd.view_39 [Str.ofString "UTC_ZONES", Str.ofString "TIMEZONE_RE"]) 94 [.int hour t1, .int first t2, .int second t3, .ref l] 5 256 (fun b nw => ∃ n, (l, listOf vs.toArray n) ∈ nw) (OutI (opp hour first second)) := by
  w_top off
  k_with_none
  k_fill
  unfold Con
  intro mean mg mb dp un gd cn cs aa ccd cl outer A₀ base h₀ L m news s Q E B F X N T hk hin hd hu hret
  obtain ⟨n, hin⟩ := hin
  have N2 : News h₀ L s.heap ((l, listOf vs.toArray n) :: news) := fun p hp => by
    rcases List.mem_cons.mp hp with rfl | hp
    · exact N _ hin
    · exact N p hp
  clear N
  refine wpAny_call ?_
  k_dflt cell_enter
  have hlt := lt_of_news ‹News _ _ _ ((l, _) :: news)›
  (k_with "table" => skip)
  (k_with "pyIter ref" => k_of "t" => k_state_given ["hour", "first", "second"] (fun hour first second pre early late marks => early.length = pre.length ∧ late.length = pre.length ∧ marks.length = pre.length ∧ early = pre.map (eOf hour first) ∧ late = pre.map (lOf hour second) ∧ marks = pre.map (mOf hour first second)) "early" "late" "marks$")
  (k_with "pyIter ref" => k_of "u" => k_state_given ["hour", "first", "second"] (fun hour first second pre told => told = (pre.map (inn hour first second)).sum ∧ 0 ≤ told ∧ told ≤ 16 * (pre.length : Int)) "told")
  (k_with "pyIter ref" => k_of "t" => k_state_given ["hour", "first", "second", "u", "told!"] (fun hour first second u told₀ pre told => told = told₀ + (pre.map (ind hour first second u)).sum ∧ told₀ ≤ told ∧ told ≤ told₀ + (pre.length : Int)) "told")
  (k_with "state" => first | exact ⟨rfl, rfl, rfl, rfl, rfl, rfl⟩ | exact ⟨rfl, by decide, by decide⟩ | exact st3_0 | exact st1 (by assumption) (by assumption) (by assumption) (by assumption) (by assumption) (by assumption) | exact st3_n (by assumption) (by omega) (by omega) (by omega) (by assumption) (by assumption) (by assumption) (by assumption) | exact st3_y (by assumption) (by omega) (by omega) (by omega) (by assumption) (by assumption) (by assumption) (by assumption) | exact st2 (by assumption) (by assumption) (by assumption) (by assumption) (by assumption) (by assumption) (by assumption) (by assumption) (by assumption))
  k_steps
  all_goals exact end_I (news := news) hret (by k_asm) (by assumption) (by intro p hp; k_ownIn) (opp_end (by assumption))
end Mine
end
section
open PySem PySem.W PyProof.Rows PySem.Spec PySem.Calls
set_option Elab.async false
set_option maxRecDepth 100000
set_option maxHeartbeats 8000000
namespace Mine
local macro_rules | `(tactic| walk_at "exec For Name Subscript cons nil") => `(tactic| (k_here; (rename Fr _ _ _ _ => lF'); (with_unfolding_all refine' For_invVF lF' ?k1 ?k2 ?_; (case k1 => exact rfl); (case k2 => exact rfl); k_whole)))
def Halt (P : Prop) : Prop := P
local macro_rules | `(tactic| walk_at "exec While Compare cons nil") => `(tactic| (k_here; (with_reducible show wpAny _ _ (exec (Stmt.While _ _ _ _) _) _ _ _); (refine (id : Halt _ → _) ?_)))
local macro_rules | `(tactic| walk_at "eval ListComp") => `(tactic| (k_here; (with_reducible show wpAny _ _ (eval (Expr.ListComp _ [⟨Expr.Name _ _, _, [], 0⟩, ⟨Expr.Name _ _, _, [_], 0⟩] _ _) _) _ _ _); k_dflt (refine comp_two (_F₀ := by k_asm) (by with_unfolding_all rfl) (by decide) (by rfl) (by decide) (by rfl) (by rfl) (by decide) (by rfl) (by intro _ _; rfl) ?_)))
local macro_rules | `(tactic| walk_at "loadName") => `(tactic| (k_here; k_dflt (refine' loadX_C ?N ?c ?m ?d ?_ ?a ?b; (case a => rfl); (case b => rfl); (case N => k_asm); (case c => rfl); (case m => k_mem); (case d => k_asm); k_whole)))
local macro_rules | `(tactic| walk_at "call builtin:list.append") => `(tactic| (k_here; (with_reducible show wpAny _ _ (call (Value.builtin _) [Value.ref _, _]) _ _ _); k_dflt (refine' append_K ?k1 ?k2 ?k3 ?_ ?z; (case k1 => k_asm); (case k2 => k_asm); (case k3 => k_upd); (case z => exact size3 (by assumption) (by assumption)); k_whole); intro h' F' N'; (try k_sweep)))
def OutL3 (own : List (Addr × Obj)) (v : Value) : Prop := ∃ (D : Addr) (a b c : Nat) (t u w : Tok) (n : Nat), own = [(D, listOf #[.int (a : Int) t, .int (b : Int) u, .int (c : Int) w] n)] ∧ v = .ref D ∧ (2 ≤ a ∧ a ≤ 11) ∧ (2 ≤ b ∧ b ≤ 11) ∧ (2 ≤ c ∧ c ≤ 11) ∧ cop b a = true ∧ cop c a = true ∧ cop c b = true
theorem outL3_of {D : Addr} {vs : List Value} {zs : List Int} {n : Nat} (h : IntsAre vs zs) (hf : fine zs = true) (hl : zs.length = 3) : OutL3 [(D, listOf vs.toArray n)] (.ref D) := by
  obtain ⟨a, b, c, rfl, h1, h2, h3, h4, h5, h6⟩ := fine3 hf hl
  cases h with
  | cons _ t h => cases h with
    | cons _ u h => cases h with
      | cons _ w h => cases h; exact ⟨D, a, b, c, t, u, w, n, rfl, rfl, h1, h2, h3, h4, h5, h6⟩
theorem end_L3 {h₀ h' : Heap} {L D : Addr} {m : Str → Option Value} {s : Shared} {Q : Value → Shared → Prop} {vs : List Value} {zs : List Int} {n : Nat} {tk' : Nat} {rest news : List (Addr × Obj)}
    (hret : ∀ v own h' tk', Fr h₀ L h' m → News h₀ L h' (own ++ news) → (∀ q ∈ news, ∀ p ∈ own, q.1 < p.1) → OutL3 own v → Q v { s with heap := h', toks := tk' })
    (F : Fr h₀ L h' m) (N : News h₀ L h' rest) (h1 : (D, listOf vs.toArray n) ∈ rest) (h2 : ∀ p ∈ news, p ∈ rest) (hD : ∀ q ∈ news, q.1 < D) (h : IntsAre vs zs) (hf : fine zs = true) (hl : zs.length = 3) :
    Q (.ref D) { s with heap := h', toks := tk' } := by
  refine hret _ [(D, _)] _ _ F (fun p hp => ?_) (fun q hq p hp => ?_) (outL3_of (n := n) h hf hl)
  · rcases List.mem_append.mp hp with h | h
    · rw [List.mem_singleton.mp h]; exact N _ h1
    · exact N _ (h2 _ h)
  · rw [List.mem_singleton.mp hp]; exact hD q hq
theorem take3 (ns : List Int) : (List.take 3 (ns ++ List.drop ((ns.length : Int)).toNat [1, 2, 3])).length = 3 := by
  simp only [List.length_take, List.length_append, List.length_drop, List.length_cons, List.length_nil, Int.toNat_natCast]
  omega
theorem sizes3 (w : World) (l : Addr) (vs : List Value) (ns : List Int) (hi : IntsAre vs ns) (hn : ns.length ≤ 63) :
    Con (RowW.prog (OpenRow.toRowW (OpenLaw.row PySem.Challenge.rw_xg0011_01))) w (hd.heap_39 w.params) hd.view_39 (looseW hd.view_39 [Str.ofString "UTC_ZONES", Str.ofString "TIMEZONE_RE"]) 70 [.ref l] 5 256 (fun b nw => nw = [] ∧ b.IsList l vs.toArray) OutL3 := by
  w_top off
  k_with_none
  k_fill
  unfold Con
  intro mean mg mb dp un gd cn cs aa ccd cl outer A₀ base h₀ L m news s Q E B F X N T hk hin hd hu hret
  obtain ⟨hnw, hl⟩ := hin
  subst hnw
  refine wpAny_call ?_
  k_dflt (refine' code_defC ?k1 ?k2 ?k3 ?k4 ?k5 ?kA ?kF ?kK ?k6 ?k7 ?k8 ?k9 ?kB ?kD ?_ ?c2 ?c3 ?c4; (case kA => exact rfl); (case kF => exact rfl); (case kK => assumption); (case k1 => k_asm); (case k2 => k_asm); (case k3 => k_asm); (case k4 => k_asm); (case k5 => k_asm); (case k6 => k_is); (case k7 => k_is); (case k8 => ktr_room); (case k9 => exact BindsTo.of_eq rfl); (case kB => exact rfl); (case kD => decide +kernel); (case c2 => exact rfl); (case c3 => exact rfl); (case c4 => exact rfl); k_whole; intro g' L' h' tk' cells' FG' F' N' Y' B' X' T' l1; (try k_lt l1); k_cells Y'; (try simp only [List.cons_append, List.nil_append] at N'); (try dsimp only); (try k_lift B'); (try k_fold))
  k_steps
  all_goals (try k_fold)
  (rename News _ _ _ _ => nE)
  (rename Fr _ _ _ _ => fE)
  (rename _ = Data.cell (some _) => hcs)
  (rename IntsAre _ (List.take 3 _) => hws)
  with_unfolding_all refine sizes_loop (by rfl) hws (by rw [List.length_take]; exact Nat.min_le_left _ _) fE nE (.head _) (.tail _ (.tail _ (.tail _ (.tail _ (.head _))))) (.tail _ (.tail _ (.tail _ (.tail _ (.tail _ (.head _)))))) (.tail _ (.tail _ (.tail _ (.tail _ (.tail _ (.tail _ (.head _))))))) (by assumption) ?_ ?_
  case refine_2 =>
    intro vs2 zs2 k2 o2 u2 h2 tk2 hi2 hf2 hl2 F2 N2
    rw [take3] at hl2
    k_steps
    exact end_L3 (news := []) (vs := vs2) (n := k2) hret (by k_asm) (by assumption) (by k_mem) (fun _ hq => nomatch hq) (fun _ hq => nomatch hq) hi2 hf2 hl2
  intro vs2 zs2 k2 o2 v2 n2 t2 h2 tk2 own2 hoff2 hivs2 hfine2 hlt2 hov2 F2 N2
  (try simp only [List.cons_append, List.nil_append] at N2)
  k_steps
  unfold Halt
  (rename News _ _ _ _ => nE2)
  (rename Fr _ _ _ _ => fE2)
  (rename _ = Data.cell (some (Value.int _ _)) => hcz2)
  obtain ⟨e2, he1, he2, he3⟩ := next_ok hfine2 hlt2 n2
  refine sizes_while e2 fE2 nE2 (.head _) (.tail _ (.head _)) (.tail _ (.tail _ (.head _))) (.tail _ (.tail _ (.tail _ (.head _)))) (fun p hp => .tail _ (.tail _ (.tail _ (.tail _ hp)))) hcz2 ?_ ?_ ?_
  · rw [Int.fmod_eq_emod_of_nonneg _ (by decide)]; omega
  · rw [Int.fmod_eq_emod_of_nonneg _ (by decide)]; omega
  intro z3 t3 o3 h3 tk3 hov3 h23 hze3 F3 N3
  (try simp only [List.cons_append, List.nil_append] at N3)
  k_steps
  (rename IsRange _ _ _ _ _ _ _ _ => hR3)
  have hb3 := bnd_le zs2.length
  have hn3 : (((z3 - 1).toNat : Nat) : Int) = z3 - 1 := by omega
  refine TwoSrc.intro (n := (z3 - 1).toNat) (fun q o => decide (z3.fmod q = 0) && decide (o.fmod q = 0)) (by exact rfl) (by k_asm) (by assumption) hR3 (small_one (by omega) (by omega) (by omega) (by omega)) ((rangeSize_nat _ _).trans (by omega)) (.tail _ (.head _)) hivs2 ?_ ?_ ?_ ?_
  · have : (z3 - 1).toNat * zs2.length ≤ 10 * 3 := Nat.mul_le_mul (by omega) (by omega)
    exact Nat.le_trans this (by decide)
  · intro g4 q4 t4 I4 oI4 C4 oC4 D4 ys4 m4 h4 tk4 QQ4 E4 hC4 hx4 F4 N4 off4 ne4 hQQ4
    (try dsimp only at *)
    k_steps
    exact hQQ4 _ _ (by assumption) (by assumption)
  · intro g4 q4 o4 t4 u4 J4 oJ4 I4 oI4 C4 oC4 D4 ys4 m4 h4 tk4 QQ4 E4 hC4 hx4 hy4 hG4 ho4 F4 N4 ht4 hf4
    obtain ⟨hG41, hG42⟩ := hG4
    (try dsimp only at *)
    k_steps
    all_goals first
      | exact ht4 (by simp only [Bool.and_eq_true, decide_eq_true_eq]; exact ⟨by assumption, by assumption⟩) _ _ (by assumption) (by assumption)
      | exact hf4 (by simp only [Bool.and_eq_false_iff, decide_eq_false_iff_not]; exact .inl (by assumption)) _ _ (by assumption) (by assumption)
      | exact hf4 (by simp only [Bool.and_eq_false_iff, decide_eq_false_iff_not]; exact .inr (by assumption)) _ _ (by assumption) (by assumption)
  · intro D4 ys4 zs4 h4 tk4 F4 N4 off4 hi4 hl4 hz4
    (try simp only [LCg.Off1] at off4)
    (try dsimp only)
    k_steps
    · refine ⟨_, _, _, _, vs2 ++ [.int z3 t3], zs2 ++ [z3], k2 + 1, o3, _, rfl, (by assumption), (by assumption), .tail _ (.tail _ (.head _)), ?_, .tail _ (.tail _ (.tail _ (.tail _ (.head _)))), .tail _ (.tail _ (.tail _ (.tail _ (.tail _ (.head _))))), (fun p hp => .tail _ (.tail _ (.tail _ (.tail _ (.tail _ (.tail _ hp)))))), ints_snoc hivs2 _ _, fine_snoc hfine2 hlt2 h23 (by omega) (two_miss hz4 (by assumption)), by rw [List.length_append, List.length_singleton], hov3, ?_⟩
      · rw [push_list]; exact .tail _ (.tail _ (.tail _ (.head _)))
      · intro z hz; exact if_neg hz
    · exact ⟨_, _, _, _, _, rfl, (by assumption), (by assumption), .tail _ (.tail _ (.head _)), .tail _ (.tail _ (.tail _ (.head _))), .tail _ (.tail _ (.tail _ (.tail _ (.head _)))), .tail _ (.tail _ (.tail _ (.tail _ (.tail _ (.head _))))), (fun p hp => .tail _ (.tail _ (.tail _ (.tail _ (.tail _ (.tail _ hp)))))), (by assumption), two_hit hz4 (by assumption) h23 hze3 (by omega) he3⟩
end Mine
end
section
open PySem PySem.W PyProof.Rows PySem.Spec PySem.Calls
set_option Elab.async false
set_option maxRecDepth 100000
set_option maxHeartbeats 8000000
namespace Mine
section
variable {w : World} {mean : ExcName → Option Value} {mg mb : Str → Option Value} {dp un : Nat} {gd : Option (List Code)} {cn : Str} {cs : Scope} {aa : Addr} {ccd : Value} {cl : List (Str × Addr)} {outer : List Env}
  {A₀ : Around} {base h₀ : Heap} {L : Addr} {m : Str → Option Value} {news : List (Addr × Obj)} {s : Shared} {Q E : Value → Shared → Prop}
theorem call_sizes {l : Addr} {vs : List Value} {ns : List Int}
  (B : Below A₀ base outer h₀ := by k_asm) (F : Fr h₀ L s.heap m := by k_asm) (X : Frag.In (hd.heap_39 w.params) h₀ := by k_asm) (N : News h₀ L s.heap news := by k_asm) (T : Top hd.view_39 (looseW hd.view_39 [Str.ofString "UTC_ZONES", Str.ofString "TIMEZONE_RE"]) mean mg mb h₀ := by k_asm) (hk : cs.kind = .function := by first | exact rfl | assumption)
  (hl : base.IsList l vs.toArray) (hi : IntsAre vs ns) (hn : ns.length ≤ 63) (hw : news = []) (hd : dp + 5 < recursionLimit := by ktr_room) (hu : un + 256 < cLine := by ktr_units)
  (ret : ∀ (D : Addr) (a b c : Nat) (t u v : Tok) (n : Nat), (2 ≤ a ∧ a ≤ 11) → (2 ≤ b ∧ b ≤ 11) → (2 ≤ c ∧ c ≤ 11) → cop b a = true → cop c a = true → cop c b = true → ∀ h' tk', Fr h₀ L h' m → News h₀ L h' ((D, listOf #[.int (a : Int) t, .int (b : Int) u, .int (c : Int) v] n) :: news) → (∀ q ∈ news, q.1 < D) → Q (.ref D) { s with heap := h', toks := tk' }) :
  wpAny (model (RowW.prog (OpenRow.toRowW (OpenLaw.row PySem.Challenge.rw_xg0011_01))) w) (ktrTop dp un gd cn cs L aa ccd cl outer) (call (.ref 70) [.ref l]) Q E s := by
  refine sizes3 w l vs ns hi hn _ _ _ _ _ _ _ _ _ _ _ _ _ _ _ _ _ _ _ _ _ B F X N T hk ⟨hw, hl⟩ hd hu ?_
  rintro v own h' tk' F' N' hl ⟨D, a, b, c, t, u, w', n, rfl, rfl, h1, h2, h3, h4, h5, h6⟩
  exact ret D a b c t u w' n h1 h2 h3 h4 h5 h6 h' tk' F' N' fun q hq => hl q hq _ (List.mem_singleton.mpr rfl)
theorem call_opposed {hour first second : Int} {l : Addr} {ds : List Int} {vs : List Value} {n : Nat} {t1 t2 t3 : Tok}
  (B : Below A₀ base outer h₀ := by k_asm) (F : Fr h₀ L s.heap m := by k_asm) (X : Frag.In (hd.heap_39 w.params) h₀ := by k_asm) (N : News h₀ L s.heap news := by k_asm) (T : Top hd.view_39 (looseW hd.view_39 [Str.ofString "UTC_ZONES", Str.ofString "TIMEZONE_RE"]) mean mg mb h₀ := by k_asm) (hk : cs.kind = .function := by first | exact rfl | assumption)
  (hb : (2 ≤ hour ∧ hour ≤ 12) ∧ (2 ≤ first ∧ first ≤ 12) ∧ (2 ≤ second ∧ second ≤ 12)) (hl : (l, listOf vs.toArray n) ∈ news) (hi : IntsAre vs ds) (d0 : 0 < ds.length ∧ ds.length ≤ 16) (hd : dp + 5 < recursionLimit := by ktr_room) (hu : un + 256 < cLine := by ktr_units)
  (ret : ∀ v t h' tk', v = opp hour first second → 0 ≤ v → v ≤ 144 → Fr h₀ L h' m → News h₀ L h' news → Q (.int v t) { s with heap := h', toks := tk' }) :
  wpAny (model (RowW.prog (OpenRow.toRowW (OpenLaw.row PySem.Challenge.rw_xg0011_01))) w) (ktrTop dp un gd cn cs L aa ccd cl outer) (call (.ref 94) [.int hour t1, .int first t2, .int second t3, .ref l]) Q E s :=
  use_I (opposed w hour first second l ds vs t1 t2 t3 hb.1.1 hb.1.2 hb.2.1.1 hb.2.1.2 hb.2.2.1 hb.2.2.2 d0.1 d0.2 hi) B F X N T hk ⟨n, hl⟩ hd hu fun t h' tk' F' N' => ret _ t h' tk' rfl (opp_nonneg _ _ _) (opp_le hb.1.1 hb.1.2) F' N'
end
end Mine
end
section
open PySem PySem.W PyProof.Rows PySem.Spec PySem.Calls
set_option Elab.async false
namespace Mine
section
variable {M : Model} {A : Around} {E : Value → Shared → Prop} {s : Shared} {h₀ : Heap} {L : Addr} {m : Str → Option Value} {rest : List (Addr × Obj)}
/-- two ways that meet: they leave a list of ints of the call's own, newer than all else -/
def JoinL (h₀ : Heap) (L : Addr) (m : Str → Option Value) (rest : List (Addr × Obj)) (s : Shared) (v : Value) (s' : Shared) : Prop :=
  ∃ D vs ds n h' tk', v = .ref D ∧ IntsAre vs ds ∧ (0 < ds.length ∧ ds.length ≤ 16) ∧ Fr h₀ L h' m ∧ News h₀ L h' ((D, listOf vs.toArray n) :: rest) ∧ AllLt D rest ∧ s' = { s with heap := h', toks := tk' }
theorem JoinL.intro {D : Addr} {vs : List Value} {ds : List Int} {n : Nat} {h' : Heap} {tk' : Nat} {nw : List (Addr × Obj)} (F : Fr h₀ L h' m) (N : News h₀ L h' nw) (h2 : (D, listOf vs.toArray n) ∈ nw) (h3 : ∀ p ∈ rest, p ∈ nw) (h4 : AllLt D rest) (hi : IntsAre vs ds) (h1 : 0 < ds.length ∧ ds.length ≤ 16) :
    JoinL h₀ L m rest s (.ref D) { s with heap := h', toks := tk' } :=
  ⟨D, vs, ds, n, h', tk', rfl, hi, h1, F, fun p hp => by rcases List.mem_cons.mp hp with rfl | hp; exact N _ h2; exact N _ (h3 p hp), h4, rfl⟩
theorem join_list {t : Sem Value} {Q : Value → Shared → Prop} (F : Fr h₀ L s.heap m) (N : News h₀ L s.heap rest) (h1 : wpAny M A t (JoinL h₀ L m rest s) E s)
    (h2 : ∀ D vs ds n h' tk', IntsAre vs ds → 0 < ds.length → ds.length ≤ 16 → Fr h₀ L h' m → News h₀ L h' ((D, listOf vs.toArray n) :: rest) → AllLt D rest → Q (.ref D) { s with heap := h', toks := tk' }) : wpAny M A t Q E s := by
  refine wpAny_mono h1 (fun v s' h => ?_) fun _ _ e => e
  obtain ⟨D, vs, ds, n, h', tk', rfl, hi, h3, F', N', h4, rfl⟩ := h
  exact h2 D vs ds n h' tk' hi h3.1 h3.2 F' N' h4
end
end Mine
end
section
open PySem PySem.W PyProof.Rows PySem.Spec PySem.Calls
set_option Elab.async false
set_option maxRecDepth 100000
set_option maxHeartbeats 8000000
namespace Mine
local macro_rules | `(tactic| walk_at "call ref") => `(tactic| (k_here; (with_reducible show wpAny _ _ (call (Value.ref 70) [Value.ref _]) _ _ _); k_dflt (refine call_sizes (hl := by assumption) (hi := by assumption) (hn := by omega) (hw := rfl) (ret := ?_)); (intro D' a' b' c' t' u' v' n' h1' h2' h3' h4' h5' h6' h' tk' F' N' l1; (try k_lt l1); (try dsimp only); (try k_fold))))
local macro_rules | `(tactic| walk_at "call ref") => `(tactic| (k_here; (with_reducible show wpAny _ _ (call (Value.ref 94) [Value.int _ _, Value.int _ _, Value.int _ _, Value.ref _]) _ _ _); k_dflt (refine call_opposed (hb := by omega) (hl := by k_mem) (hi := by l_ints) (d0 := by first | omega | (constructor <;> simp <;> done) | (simp; done) | (simp; omega)) (ret := ?_)); (intro v' t' h' tk' he' h0' h1' F' N'; (try dsimp only); (try k_fold))))
theorem eq_int_yes {prog : Program} {w : World} {A : Around} {E : Value → Shared → Prop} {s : Shared} {a b : Int} {t u : Tok} {Q : Value → Shared → Prop} (e : a = b) (h : Q (.bool true) s) : wpAny (model prog w) A (compareOp .Eq (.int a t) (.int b u)) Q E s := by
  subst e
  exact eq_int (by rw [beq_self_eq_true]; exact h)
theorem law_all {a b c : Nat} {x y z : Int} (h1 : 2 ≤ a ∧ a ≤ 11) (h2 : 2 ≤ b ∧ b ≤ 11) (h3 : 2 ≤ c ∧ c ≤ 11) (h4 : cop b a = true) (h5 : cop c a = true) (h6 : cop c b = true) (hx : x = opp a b c) (hy : y = opp b c a) (hz : z = opp c a b) :
    4 * ((b : Int) * c * x + (c : Int) * a * y + (a : Int) * b * z) = (a : Int) * b * c * (a + b + c - 6) + 2 * ((a : Int) * b + b * c + c * a) - ((a : Int) * a + b * b + c * c) := by
  subst hx hy hz
  exact law_eq h1 h2 h3 h4 h5 h6
theorem bool_yes {a b : Int} (e : a = b) : ((a == b) == true) = true := by subst e; simp
local macro_rules | `(tactic| walk_at "compareOp Eq int int") => `(tactic| (k_here; (with_reducible show wpAny _ _ (compareOp _ (Value.int (4 * _) _) (Value.int _ _)) _ _ _); (refine eq_int_yes ?e ?_; (case e => exact law_all (by assumption) (by assumption) (by assumption) (by assumption) (by assumption) (by assumption) (by assumption) (by assumption) (by assumption)))))
local macro_rules | `(tactic| walk_at "eval BoolOp") => `(tactic| (k_here; (with_reducible show wpAny _ _ (eval (Expr.BoolOp _ [Expr.Subscript _ _ _, Expr.List _ _] _) _) _ _ _); (fail_if_success (with_reducible show wpAny _ _ _ (JoinL _ _ _ _ _) _ _)); (refine join_list (by k_asm) (by k_asm) ?_ ?_); (case' refine_2 => (intro D' vs' ds' n' h' tk' hi' h1' h2' F' N' l1; (try dsimp only)))))
local macro_rules | `(tactic| walk_at "JoinL") => `(tactic| (refine JoinL.intro (by k_asm) (by k_asm) (by k_mem) (by intro p hp; k_ownIn) ⟨by omega, trivial⟩ (by l_ints) (by first | omega | (constructor <;> simp <;> done) | (simp; done) | (simp; omega))))
theorem law_holds : PySem.Challenge.rw_xg0011_01.Holds := by
  refine hd ?_
  w_top off
  k_with_none
  k_go0
  all_goals (try k_fold)
  repeat' (first | (k_unfold; (try dsimp only)) | walk1 | (dsimp only; walk1) | (leave1; walk_say "STEP leave1"; try dsimp only))
  all_goals (
    dsimp only
    (show GoodW _ _ _ _ _ (.ok (.ret (.bool _))) _)
    refine' goodW_bool ?ka ?kb (raisesW_false ?kc) ?kd
    case ka => assumption
    case kb => assumption
    case kc => exact allW_false_nil
    case kd => exact postW_of (by wrow_shape) (by wtm_val) (by first | (with_reducible exact beq_self_eq_true _) | exact bool_yes (law_all (by assumption) (by assumption) (by assumption) (by assumption) (by assumption) (by assumption) (by assumption) (by assumption) (by assumption)) | exact same_self _ | rfl | decide))
end Mine
end
theorem PySem.Challenge.cw_xg0011_01_holds : PySem.Challenge.rw_xg0011_01.Holds :=
  Mine.law_holds
