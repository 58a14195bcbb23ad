import PyProof.Rows.All
import Wide.All
import OpenK.AllK
import Wide.FinOn
import PySem.Challenge.RW_xg0011_02
set_option Elab.async false
section
open PySem PySem.W PyProof.Rows
set_option maxRecDepth 100000
set_option maxHeartbeats 8000000
open_top hd for PySem.Challenge.rw_xg0011_02
end
section
open PySem PySem.W PyProof.Rows PySem.Spec PySem.Calls
set_option Elab.async false
namespace Mine
def Con (prog : Program) (w : World) (K : Frag) (p : Program) (loose : List Str) (f : Addr) (vs : List Value) (dx ux : Nat)
    (In : Heap → List (Addr × Obj) → Prop) (Out : List (Addr × Obj) → Value → Prop) : Prop :=
  ∀ (mean : ExcName → Option Value) (mg mb : Str → Option Value) (dp un : Nat) (gd : Option (List Code)) (cn : Str) (cs : Scope) (a : Addr) (ccd : Value) (cl : List (Str × Addr)) (outer : List Env)
    (A₀ : Around) (base h₀ : Heap) (L : Addr) (m : Str → Option Value) (news : List (Addr × Obj)) (s : Shared) (Q E : Value → Shared → Prop),
    Below A₀ base outer h₀ → Fr h₀ L s.heap m → K.In h₀ → News h₀ L s.heap news → Top p loose mean mg mb h₀ → cs.kind = .function →
    In base news → dp + dx < recursionLimit → un + ux < cLine →
    (∀ v own h' tk', Fr h₀ L h' m → News h₀ L h' (own ++ news) → (∀ q ∈ news, ∀ p ∈ own, q.1 < p.1) → Out own v → Q v { s with heap := h', toks := tk' }) →
    wpAny (model prog w) (ktrTop dp un gd cn cs L a ccd cl outer) (call (.ref f) vs) Q E s

abbrev tup2 (x y : Value) (c : Nat) : Obj := { cls := .type "tuple", data := .seq #[x, y] c }
end Mine
open PySem PySem.W PyProof.Rows PySem.Spec PySem.Calls
namespace Mine
def OutT2 (x y : Int) (own : List (Addr × Obj)) (v : Value) : Prop := ∃ (D : Addr) (t u : Tok) (c : Nat), own = [(D, tup2 (.int x t) (.int y u) c)] ∧ v = .ref D
def OutI (x : Int) (own : List (Addr × Obj)) (v : Value) : Prop := ∃ (t : Tok), own = [] ∧ v = .int x t
def OutS (x : Str) (own : List (Addr × Obj)) (v : Value) : Prop := ∃ (t : Tok), own = [] ∧ v = .str x t
def OutB (x : Bool) (own : List (Addr × Obj)) (v : Value) : Prop := own = [] ∧ v = .bool x

section
variable {prog : Program} {w : World} {K : Frag} {p : Program} {loose : List Str} {f : Addr} {vs : List Value} {dx ux : Nat} {In : Heap → List (Addr × Obj) → Prop}
  {mean : ExcName → Option Value} {mg mb : Str → Option Value} {dp un : Nat} {gd : Option (List Code)} {cn : Str} {cs : Scope} {a : Addr} {ccd : Value} {cl : List (Str × Addr)} {outer : List Env}
  {A₀ : Around} {base h₀ : Heap} {L : Addr} {m : Str → Option Value} {news : List (Addr × Obj)} {s : Shared} {Q E : Value → Shared → Prop}
theorem use_T2 {x y : Int} (C : Con prog w K p loose f vs dx ux In (OutT2 x y)) (B : Below A₀ base outer h₀) (F : Fr h₀ L s.heap m) (X : K.In h₀) (N : News h₀ L s.heap news) (T : Top p loose mean mg mb h₀) (hk : cs.kind = .function)
    (hin : In base news) (hd : dp + dx < recursionLimit) (hu : un + ux < cLine)
    (ret : ∀ (D : Addr) (t u : Tok) (c : Nat) h' tk', Fr h₀ L h' m → News h₀ L h' ((D, ({ cls := .type "tuple", data := .seq #[.int x t, .int y u] c } : Obj)) :: news) → (∀ q ∈ news, q.1 < D) → Q (.ref D) { s with heap := h', toks := tk' }) :
    wpAny (model prog w) (ktrTop dp un gd cn cs L a ccd cl outer) (call (.ref f) vs) Q E s := by
  refine C _ _ _ _ _ _ _ _ _ _ _ _ _ _ _ _ _ _ _ _ _ B F X N T hk hin hd hu ?_
  rintro v own h' tk' F' N' hl ⟨D, t, u, c, rfl, rfl⟩
  exact ret D t u c h' tk' F' N' fun q hq => hl q hq _ (List.mem_singleton.mpr rfl)
theorem use_I {x : Int} (C : Con prog w K p loose f vs dx ux In (OutI x)) (B : Below A₀ base outer h₀) (F : Fr h₀ L s.heap m) (X : K.In h₀) (N : News h₀ L s.heap news) (T : Top p loose mean mg mb h₀) (hk : cs.kind = .function)
    (hin : In base news) (hd : dp + dx < recursionLimit) (hu : un + ux < cLine)
    (ret : ∀ (t : Tok) h' tk', Fr h₀ L h' m → News h₀ L h' news → Q (.int x t) { s with heap := h', toks := tk' }) :
    wpAny (model prog w) (ktrTop dp un gd cn cs L a ccd cl outer) (call (.ref f) vs) Q E s := by
  refine C _ _ _ _ _ _ _ _ _ _ _ _ _ _ _ _ _ _ _ _ _ B F X N T hk hin hd hu ?_
  rintro v own h' tk' F' N' hl ⟨t, rfl, rfl⟩
  exact ret t h' tk' F' N'
theorem use_S {x : Str} (C : Con prog w K p loose f vs dx ux In (OutS x)) (B : Below A₀ base outer h₀) (F : Fr h₀ L s.heap m) (X : K.In h₀) (N : News h₀ L s.heap news) (T : Top p loose mean mg mb h₀) (hk : cs.kind = .function)
    (hin : In base news) (hd : dp + dx < recursionLimit) (hu : un + ux < cLine)
    (ret : ∀ (t : Tok) h' tk', Fr h₀ L h' m → News h₀ L h' news → Q (.str x t) { s with heap := h', toks := tk' }) :
    wpAny (model prog w) (ktrTop dp un gd cn cs L a ccd cl outer) (call (.ref f) vs) Q E s := by
  refine C _ _ _ _ _ _ _ _ _ _ _ _ _ _ _ _ _ _ _ _ _ B F X N T hk hin hd hu ?_
  rintro v own h' tk' F' N' hl ⟨t, rfl, rfl⟩
  exact ret t h' tk' F' N'
theorem use_B {x : Bool} (C : Con prog w K p loose f vs dx ux In (OutB x)) (B : Below A₀ base outer h₀) (F : Fr h₀ L s.heap m) (X : K.In h₀) (N : News h₀ L s.heap news) (T : Top p loose mean mg mb h₀) (hk : cs.kind = .function)
    (hin : In base news) (hd : dp + dx < recursionLimit) (hu : un + ux < cLine)
    (ret : ∀ h' tk', Fr h₀ L h' m → News h₀ L h' news → Q (.bool x) { s with heap := h', toks := tk' }) :
    wpAny (model prog w) (ktrTop dp un gd cn cs L a ccd cl outer) (call (.ref f) vs) Q E s := by
  refine C _ _ _ _ _ _ _ _ _ _ _ _ _ _ _ _ _ _ _ _ _ B F X N T hk hin hd hu ?_
  rintro v own h' tk' F' N' hl ⟨rfl, rfl⟩
  exact ret h' tk' F' N'
theorem lt_of_news {h₀ h : Heap} {L : Addr} {news : List (Addr × Obj)} (N : News h₀ L h news) : ∀ q ∈ news, q.1 < h.objs.size := fun q hq => Heap.lt_size (N q hq).1
/-- the end of a contract that hands back a pair of ints -/
theorem end_T2 {x y x' y' : Int} {D : Addr} {t u : Tok} {c : Nat} {h' : Heap} {tk' : Nat} {rest : List (Addr × Obj)}
    (hret : ∀ v own h' tk', Fr h₀ L h' m → News h₀ L h' (own ++ news) → (∀ q ∈ news, ∀ p ∈ own, q.1 < p.1) → OutT2 x y own v → Q v { s with heap := h', toks := tk' })
    (F : Fr h₀ L h' m) (N : News h₀ L h' rest) (h1 : (D, ({ cls := .type "tuple", data := .seq #[.int x' t, .int y' u] c } : Obj)) ∈ rest) (h2 : ∀ p ∈ news, p ∈ rest) (hD : ∀ q ∈ news, q.1 < D) (ex : x' = x) (ey : y' = y) :
    Q (.ref D) { s with heap := h', toks := tk' } := by
  subst ex; subst ey
  refine hret _ [(D, _)] _ _ F (fun p hp => ?_) (fun q hq p hp => ?_) ⟨D, t, u, c, rfl, rfl⟩
  · rcases List.mem_append.mp hp with h | h
    · rw [List.mem_singleton.mp h]; exact N _ h1
    · exact N _ (h2 _ h)
  · rw [List.mem_singleton.mp hp]; exact hD q hq
theorem end_I {x x' : Int} {t : Tok} {h' : Heap} {tk' : Nat} {rest : List (Addr × Obj)}
    (hret : ∀ v own h' tk', Fr h₀ L h' m → News h₀ L h' (own ++ news) → (∀ q ∈ news, ∀ p ∈ own, q.1 < p.1) → OutI x own v → Q v { s with heap := h', toks := tk' })
    (F : Fr h₀ L h' m) (N : News h₀ L h' rest) (h2 : ∀ p ∈ news, p ∈ rest) (ex : x' = x) : Q (.int x' t) { s with heap := h', toks := tk' } := by
  subst ex
  exact hret _ [] _ _ F (fun p hp => N p (h2 p hp)) (fun _ _ _ h => nomatch h) ⟨t, rfl, rfl⟩
theorem end_S {x x' : Str} {t : Tok} {h' : Heap} {tk' : Nat} {rest : List (Addr × Obj)}
    (hret : ∀ v own h' tk', Fr h₀ L h' m → News h₀ L h' (own ++ news) → (∀ q ∈ news, ∀ p ∈ own, q.1 < p.1) → OutS x own v → Q v { s with heap := h', toks := tk' })
    (F : Fr h₀ L h' m) (N : News h₀ L h' rest) (h2 : ∀ p ∈ news, p ∈ rest) (ex : x' = x) : Q (.str x' t) { s with heap := h', toks := tk' } := by
  subst ex
  exact hret _ [] _ _ F (fun p hp => N p (h2 p hp)) (fun _ _ _ h => nomatch h) ⟨t, rfl, rfl⟩
theorem end_B {x x' : Bool} {h' : Heap} {tk' : Nat} {rest : List (Addr × Obj)}
    (hret : ∀ v own h' tk', Fr h₀ L h' m → News h₀ L h' (own ++ news) → (∀ q ∈ news, ∀ p ∈ own, q.1 < p.1) → OutB x own v → Q v { s with heap := h', toks := tk' })
    (F : Fr h₀ L h' m) (N : News h₀ L h' rest) (h2 : ∀ p ∈ news, p ∈ rest) (ex : x' = x) : Q (.bool x') { s with heap := h', toks := tk' } := by
  subst ex
  exact hret _ [] _ _ F (fun p hp => N p (h2 p hp)) (fun _ _ _ h => nomatch h) ⟨rfl, rfl⟩
end
end Mine
end
section
open PySem PySem.W PyProof.Rows PySem.Spec PySem.Calls
set_option Elab.async false
set_option maxRecDepth 100000
set_option maxHeartbeats 8000000
namespace Mine
theorem div2 (w : World) (a b n : Int) (ta tb tn : Tok) (ha : 0 ≤ a) (ha' : a < 65536) (hb : 0 < b) (hb' : b < 65536) (hn : 0 ≤ n) (hn' : n ≤ 8) : Con (RowW.prog (OpenRow.toRowW (OpenLaw.row PySem.Challenge.rw_xg0011_02))) w (hd.heap_39 w.params) hd.view_39 (looseW hd.view_39 [Str.ofString "UTC_ZONES", Str.ofString "TIMEZONE_RE"]) 51 [.int a ta, .int b tb, .int n tn] 1 8 (fun _ _ => True) (OutT2 (a / b) (a % b)) := by
  w_top off
  k_with_none
  k_fill
  unfold Con
  intro mean mg mb dp un gd cn cs aa ccd cl outer A₀ base h₀ L m news s Q E B F X N T hk hin hd hu hret
  have hbl : (Builtin.Int.intBits a : Int) ≤ 64 := by
    have := intBits_le_64 (k := a) (by omega) (by omega)
    omega
  refine wpAny_call ?_
  k_dflt cell_enter
  have hlt := lt_of_news ‹News _ _ _ news›
  k_steps
  refine end_T2 (news := news) hret (by k_asm) (by assumption) (by k_mem) (by intro p hp; k_ownIn) ?_ (Int.fdiv_eq_ediv_of_nonneg a (by omega)) (Int.fmod_eq_emod_of_nonneg a (by omega))
  exact hlt

end Mine
end
section
open PySem PySem.W PyProof.Rows PySem.Spec PySem.Calls
set_option Elab.async false
namespace Mine
theorem or_low {x a3 : Int} {n : Int} (hx : 0 ≤ x) (h3 : 0 ≤ a3) (h3' : a3 < (2:Int) ^ n.toNat) : Builtin.bitOr (x * 2 ^ n.toNat) a3 = x * 2 ^ n.toNat + a3 := by
  rw [bitOr_and]
  have hp : 0 ≤ x * 2 ^ n.toNat := Int.mul_nonneg hx (Int.le_of_lt (Int.pow_pos (by decide)))
  rw [bitAnd_pp hp h3]
  generalize hk : n.toNat = k at *
  obtain ⟨X, rfl⟩ := Int.eq_ofNat_of_zero_le hx
  obtain ⟨Y, rfl⟩ := Int.eq_ofNat_of_zero_le h3
  have e : ((X : Int) * 2 ^ k).toNat = X <<< k := by
    rw [Nat.shiftLeft_eq]
    have : ((X : Int) * 2 ^ k) = ((X * 2 ^ k : Nat) : Int) := by push_cast; rfl
    rw [this]; rfl
  rw [e]
  have hY : Y < 2 ^ k := by
    have : ((Y : Nat) : Int) < ((2 ^ k : Nat) : Int) := by push_cast; exact h3'
    omega
  have := Nat.shiftLeft_add_eq_or_of_lt hY X
  have h2 := PyProof.Rows.nat_or_add_and (X <<< k) Y
  have h3 : ((Y : Int)).toNat = Y := rfl
  rw [h3]
  have : (X <<< k) &&& Y = 0 := by omega
  rw [this]; simp

theorem d3_s1 {a12 a3 b b1 b2 n M : Int} (hM : (2:Int) ^ n.toNat = M) (hb : b = b1 * M + b2) (hb1 : 0 < b1) (hM0 : 0 < M) (ha' : a12 < b) (h3 : 0 ≤ a3) (h3' : a3 < M) (h : Int.fdiv a12 (2 ^ n.toNat) = b1) :
    (1 * 2 ^ n.toNat - 1) * b + (Builtin.bitOr ((a12 - b1 * 2 ^ n.toNat + b1) * 2 ^ n.toNat) a3 - (1 * 2 ^ n.toNat - 1) * b2) = a12 * M + a3 ∧
    Builtin.bitOr ((a12 - b1 * 2 ^ n.toNat + b1) * 2 ^ n.toNat) a3 - (1 * 2 ^ n.toNat - 1) * b2 < b := by
  have ht : 0 ≤ a12 - b1 * M := by
    rw [hM, Int.fdiv_eq_ediv_of_nonneg _ (Int.le_of_lt hM0)] at h
    have := Int.ediv_mul_le a12 (b := M) (by omega)
    rw [h] at this; omega
  rw [or_low (by rw [hM]; omega) h3 (by rw [hM]; exact h3'), hM]
  generalize hg : a12 - b1 * M = t at *
  have e1 : a12 = b1 * M + t := by omega
  subst e1
  subst hb
  have hlt : t < b2 := by omega
  have hm := Int.mul_le_mul_of_nonneg_right (show t + 1 ≤ b2 by omega) (Int.le_of_lt hM0)
  simp only [Int.add_mul, Int.sub_mul, Int.mul_add, Int.mul_sub, Int.one_mul, Int.mul_one] at hm ⊢
  have c1 : M * b2 = b2 * M := Int.mul_comm _ _
  have c2 : M * (b1 * M) = b1 * M * M := Int.mul_comm _ _
  constructor
  · omega
  · omega
theorem d3_s2 {a12 a3 b b1 b2 n M q r : Int} (hM : (2:Int) ^ n.toNat = M) (hb : b = b1 * M + b2) (hb2 : 0 ≤ b2) (hM0 : 0 < M) (h3 : 0 ≤ a3) (h3' : a3 < M) (hqr : a12 = q * b1 + r) (hr0 : 0 ≤ r) (hr : r < b1) (hq : 0 ≤ q) :
    q * b + (Builtin.bitOr (r * 2 ^ n.toNat) a3 - q * b2) = a12 * M + a3 ∧ Builtin.bitOr (r * 2 ^ n.toNat) a3 - q * b2 < b := by
  rw [or_low hr0 h3 (by rw [hM]; exact h3'), hM]
  subst hqr
  subst hb
  have hm := Int.mul_le_mul_of_nonneg_right (show r + 1 ≤ b1 by omega) (Int.le_of_lt hM0)
  have hn := Int.mul_nonneg hq hb2
  simp only [Int.add_mul, Int.sub_mul, Int.mul_add, Int.mul_sub, Int.one_mul, Int.mul_one, Int.mul_assoc] at hm ⊢
  constructor
  · omega
  · omega
theorem d3_t {A b q r : Int} (h : q * b + r = A) (hr : r < 0) : (q - 1) * b + (r + b) = A ∧ r + b < b := by
  rw [Int.sub_mul, Int.one_mul]
  omega
theorem d3_e {A b q r : Int} (h : q * b + r = A) (hr : ¬ r < 0) (hr' : r < b) : q = A / b ∧ r = A % b := by
  have := (Int.ediv_emod_unique (a := A) (b := b) (r := r) (q := q) (by omega)).mpr ⟨by rw [Int.mul_comm b q]; omega, by omega, hr'⟩
  exact ⟨this.1.symm, this.2.symm⟩
end Mine
end
section
open PySem PySem.W PyProof.Rows PySem.Spec PySem.Calls
set_option Elab.async false
set_option maxRecDepth 100000
set_option maxHeartbeats 8000000
namespace Mine
theorem call_div2 {w : World} {mean : ExcName → Option Value} {mg mb : Str → Option Value} {dp un : Nat} {gd : Option (List Code)} {cn : Str} {cs : Scope} {aa : Addr} {ccd : Value} {cl : List (Str × Addr)} {outer : List Env}
  {A₀ : Around} {base h₀ : Heap} {L : Addr} {m : Str → Option Value} {news : List (Addr × Obj)} {s : Shared} {Q E : Value → Shared → Prop} {a b n : Int} {ta tb tn : Tok}
  (B : Below A₀ base outer h₀) (F : Fr h₀ L s.heap m) (X : Frag.In (hd.heap_39 w.params) h₀) (N : News h₀ L s.heap news) (T : Top hd.view_39 (looseW hd.view_39 [Str.ofString "UTC_ZONES", Str.ofString "TIMEZONE_RE"]) mean mg mb h₀) (hk : cs.kind = .function)
  (hpre : 0 ≤ a ∧ a < 65536 ∧ 0 < b ∧ b < 65536 ∧ 0 ≤ n ∧ n ≤ 8) (hd : dp + 1 < recursionLimit) (hu : un + 8 < cLine)
  (ret : ∀ (q r : Int), q = a / b → r = a % b → a = q * b + r → 0 ≤ r → r < b → 0 ≤ q → q ≤ a → ∀ (D : Addr) (t u : Tok) (c : Nat) h' tk', Fr h₀ L h' m → News h₀ L h' ((D, ({ cls := .type "tuple", data := .seq #[.int q t, .int r u] c } : Obj)) :: news) → (∀ q ∈ news, q.1 < D) → Q (.ref D) { s with heap := h', toks := tk' }) :
  wpAny (model (RowW.prog (OpenRow.toRowW (OpenLaw.row PySem.Challenge.rw_xg0011_02))) w) (ktrTop dp un gd cn cs L aa ccd cl outer) (call (.ref 51) [.int a ta, .int b tb, .int n tn]) Q E s :=
  use_T2 (div2 w a b n ta tb tn hpre.1 hpre.2.1 hpre.2.2.1 hpre.2.2.2.1 hpre.2.2.2.2.1 hpre.2.2.2.2.2) B F X N T hk trivial hd hu
    (ret (a / b) (a % b) rfl rfl (by have := Int.mul_ediv_add_emod a b; rw [Int.mul_comm] at this; omega) (Int.emod_nonneg a (by omega)) (Int.emod_lt_of_pos a (by omega)) (Int.ediv_nonneg hpre.1 (by omega)) (Int.ediv_le_self _ hpre.1))
local macro_rules | `(tactic| walk_at "exec While Compare cons nil") => `(tactic| k_extra "exec While Compare cons nil")
theorem div3 (w : World) (a12 a3 b b1 b2 n M : Int) (t1 t2 t3 t4 t5 t6 : Tok) (hn : 0 ≤ n) (hn' : n ≤ 8) (hM : (2:Int) ^ n.toNat = M) (hb1 : 0 < b1) (hb1' : b1 < M) (hb2 : 0 ≤ b2) (hb2' : b2 < M) (hb : b = b1 * M + b2) (hM0 : 0 < M) (hM1 : M ≤ 256) (ha : 0 ≤ a12) (ha' : a12 < b) (hb' : b < 65536) (h3 : 0 ≤ a3) (h3' : a3 < M) : Con (RowW.prog (OpenRow.toRowW (OpenLaw.row PySem.Challenge.rw_xg0011_02))) w (hd.heap_39 w.params) hd.view_39 (looseW hd.view_39 [Str.ofString "UTC_ZONES", Str.ofString "TIMEZONE_RE"]) 58 [.int a12 t1, .int a3 t2, .int b t3, .int b1 t4, .int b2 t5, .int n t6] 2 16 (fun _ _ => True) (OutT2 ((a12 * M + a3) / b) ((a12 * M + a3) % b)) := by
  w_top off
  k_with_none
  k_fill
  unfold Con
  intro mean mg mb dp un gd cn cs aa ccd cl outer A₀ base h₀ L m news s Q E B F X N T hk hin hd hu hret
  refine wpAny_call ?_
  k_dflt cell_enter
  have hlt := lt_of_news ‹News _ _ _ news›
  (k_with "exec While Compare cons nil" => k_while_given ["b"] (fun b _ r q => q * b + r = a12 * M + a3 ∧ r < b) (fun b _ r q => (-r).toNat) "r" "q")
  (k_with "state" => first | exact d3_t (by assumption) (by assumption) | exact d3_s1 hM hb hb1 hM0 ha' h3 h3' (by assumption) | exact d3_s2 hM hb hb2 hM0 h3 h3' (by assumption) (by assumption) (by assumption) (by assumption))
  repeat' (first
    | (k_unfold; (try dsimp only))
    | (k_end; wrow_close)
    | ((k_here; (with_reducible show wpAny _ _ (call (Value.ref 51) [Value.int _ _, Value.int _ _, Value.int _ _]) _ _ _); (refine' call_div2 ?k1 ?k2 ?k3 ?k4 ?k5 ?kK ?kp ?kd ?ku ?_); (case k1 => k_asm); (case k2 => k_asm); (case k3 => k_asm); (case k4 => k_asm); (case k5 => k_asm); (case kK => first | exact rfl | assumption); (case kd => ktr_room); (case ku => ktr_units); (case kp => ((try dsimp only); (try law_fm); omega)); (intro q' r' _ _ hqr' hr0' hr1' hq0' hq1' D' t' u' c' h' tk' F' N' l1; (try k_lt l1); (try dsimp only); (try k_fold))))
    | (walk1 <;> (try dsimp only))
    | (dsimp only; walk1)
    | (leave1; walk_say "STEP leave1"; try dsimp only))
  all_goals (
    have he := d3_e (by assumption) (by assumption) (by assumption)
    refine end_T2 (news := news) hret (by k_asm) (by assumption) (by k_mem) (by intro p hp; k_ownIn) ?_ he.1 he.2)
  all_goals first | exact hlt | assumption | exact ktn_ltOf (by assumption) | exact ktn_ltOf (And.right (by assumption)) | exact ktn_ltOf (And.right (And.right (by assumption)))
end Mine
end
section
open PySem PySem.W PyProof.Rows PySem.Spec PySem.Calls
set_option Elab.async false
set_option maxRecDepth 100000
set_option maxHeartbeats 8000000
namespace Mine
theorem whole_con (w : World) (i : Int) (t : Tok) : Con (RowW.prog (OpenRow.toRowW (OpenLaw.row PySem.Challenge.rw_xg0011_02))) w (hd.heap_39 w.params) hd.view_39 (looseW hd.view_39 [Str.ofString "UTC_ZONES", Str.ofString "TIMEZONE_RE"]) 79 [.int i t] 1 8 (fun _ _ => True) (OutB true) := by
  w_top off
  k_with_none
  k_fill
  unfold Con
  intro mean mg mb dp un gd cn cs aa ccd cl outer A₀ base h₀ L m news s Q E B F X N T hk hin hd hu hret
  refine wpAny_call ?_
  k_dflt cell_enter
  have hlt := lt_of_news ‹News _ _ _ news›
  k_steps
  all_goals exact end_B (news := news) hret (by k_asm) (by assumption) (by intro p hp; k_ownIn) rfl
def costOf (a b : Str) : Int := if (a == b) = true then 0 else if (Txt.lower a == Txt.lower b) = true then 1 else 2
theorem cost_con (w : World) (a b : Str) (t u : Tok) (ha : a.length ≤ 1) (hb : b.length ≤ 1) : Con (RowW.prog (OpenRow.toRowW (OpenLaw.row PySem.Challenge.rw_xg0011_02))) w (hd.heap_39 w.params) hd.view_39 (looseW hd.view_39 [Str.ofString "UTC_ZONES", Str.ofString "TIMEZONE_RE"]) 65 [.str a t, .str b u] 1 8 (fun _ _ => True) (OutI (costOf a b)) := by
  k_fill
  unfold Con
  intro mean mg mb dp un gd cn cs aa ccd cl outer A₀ base h₀ L m news s Q E B F X N T hk hin hd hu hret
  refine wpAny_call ?_
  k_dflt cell_enter
  have hlt := lt_of_news ‹News _ _ _ news›
  k_steps
  · have hq : (a == b) = true := (by assumption)
    exact end_I (news := news) hret (by k_asm) (by assumption) (by intro p hp; k_ownIn) (by simp only [costOf, hq, if_true])
  · have hq : (a == b) = false := (by assumption)
    have hq2 : (Txt.lower a == Txt.lower b) = true := (by assumption)
    exact end_I (news := news) hret (by k_asm) (by assumption) (by intro p hp; k_ownIn) (by simp only [costOf, hq, hq2, if_true, Bool.false_eq_true, if_false])
  · have hq : (a == b) = false := (by assumption)
    have hq2 : (Txt.lower a == Txt.lower b) = false := (by assumption)
    exact end_I (news := news) hret (by k_asm) (by assumption) (by intro p hp; k_ownIn) (by simp only [costOf, hq, hq2, Bool.false_eq_true, if_false])
end Mine
end
section
set_option Elab.async false
namespace Mine
def WInv (W big left a h r : Int) : Prop := 0 ≤ a ∧ a ≤ 8 ∧ a % W = 0 ∧ h * big + r = left / 2 ^ a.toNat ∧ 0 ≤ r ∧ r < big ∧ 0 ≤ h ∧ h ≤ left
theorem winv_start {W big left a : Int} (ha : 0 ≤ a) (ha' : a ≤ 8) (hm : a % W = 0) (hl : 0 ≤ left) (hb : left < big * 2 ^ a.toNat) : WInv W big left a 0 (left / 2 ^ a.toNat) := by
  have hp : (0 : Int) < 2 ^ a.toNat := Int.pow_pos (by decide)
  refine ⟨ha, ha', hm, by rw [Int.zero_mul, Int.zero_add], Int.ediv_nonneg hl (by omega), Int.ediv_lt_of_lt_mul hp hb, by omega, by omega⟩
theorem winv_step {W big left a h r q r' M a3 : Int} (hW : 1 ≤ W) (I : WInv W big left a h r) (hM : (2 : Int) ^ W.toNat = M) (h3 : a3 = (left / 2 ^ (a - W).toNat) % M) (hqr : r * M + a3 = q * big + r') (hr0 : 0 ≤ r') (hr1 : r' < big) (hq : 0 ≤ q) (ha : 0 < a) (hl : 0 ≤ left) :
    WInv W big left (a - W) (h * M + q) r' := by
  obtain ⟨i1, i2, i3, i4, i5, i6, i7, i8⟩ := I
  have hWa : W ≤ a := by
    have := Int.emod_lt_of_pos a (b := W) (by omega)
    by_cases hc : a < W
    · rw [Int.emod_eq_of_lt i1 hc] at i3; omega
    · omega
  have hM0 : 0 < M := by rw [← hM]; exact Int.pow_pos (by decide)
  have e : left / 2 ^ a.toNat = left / 2 ^ (a - W).toNat / M := by
    have en : a.toNat = (a - W).toNat + W.toNat := by omega
    rw [en, Int.pow_add, hM, Int.ediv_ediv_of_nonneg (Int.le_of_lt (Int.pow_pos (by decide)))]
  rw [e] at i4
  have hy := Int.mul_ediv_add_emod (left / 2 ^ (a - W).toNat) M
  rw [← h3, ← i4] at hy
  have key : (h * M + q) * big + r' = left / 2 ^ (a - W).toNat := by
    rw [← hy, Int.mul_add, Int.add_mul]
    have c1 : M * (h * big) = h * M * big := by rw [← Int.mul_assoc, Int.mul_comm M h]
    have c2 : M * r = r * M := Int.mul_comm _ _
    omega
  have hbig : 1 ≤ big := by omega
  have hh : 0 ≤ h * M + q := by
    have := Int.mul_nonneg i7 (Int.le_of_lt hM0); omega
  refine ⟨by omega, by omega, ?_, key, hr0, hr1, hh, ?_⟩
  · rw [Int.sub_emod, i3]; simp
  · have h1 : (h * M + q) * 1 ≤ (h * M + q) * big := Int.mul_le_mul_of_nonneg_left hbig hh
    have h2 : left / 2 ^ (a - W).toNat ≤ left := Int.ediv_le_self _ hl
    rw [Int.mul_one] at h1
    omega
theorem winv_end {W big left a h r minutes hour parts S : Int} (I : WInv W big left a h r) (ha : ¬ 0 < a) (hS : 0 < S) (hp : 0 < parts) (hbig : big = hour * parts * S) (hleft : left = (minutes * parts + parts - 1) * S) (hh : 0 < hour) :
    h = minutes / hour ∧ r / S / parts = minutes % hour := by
  obtain ⟨i1, i2, i3, i4, i5, i6, i7, i8⟩ := I
  have ea : a = 0 := by omega
  subst ea
  have e0 : left / 2 ^ (Int.toNat 0) = left := by
    show left / 2 ^ 0 = left
    simp
  rw [e0] at i4
  subst hbig hleft
  have er : r = S * ((minutes - h * hour) * parts + (parts - 1)) := by
    have : r = (minutes * parts + parts - 1) * S - h * (hour * parts * S) := by omega
    rw [this, Int.sub_mul minutes, Int.mul_add, Int.mul_sub, Int.mul_sub]
    have c1 : h * (hour * parts * S) = S * (h * hour * parts) := by
      rw [Int.mul_comm S, ← Int.mul_assoc, ← Int.mul_assoc]
    have c2 : (minutes * parts + parts - 1) * S = S * (minutes * parts) + (S * parts - S * 1) := by
      rw [Int.mul_comm _ S, Int.add_sub_assoc, Int.mul_add, Int.mul_sub]
    rw [c1, c2]; omega
  generalize hμ : minutes - h * hour = μ at *
  have hd : r / S = μ * parts + (parts - 1) := by
    rw [er]; exact Int.mul_ediv_cancel_left _ (by omega)
  have hd2 : (μ * parts + (parts - 1)) / parts = μ := by
    rw [Int.add_comm, Int.add_mul_ediv_right _ _ (by omega), Int.ediv_eq_zero_of_lt (by omega) (by omega), Int.zero_add]
  have hρ0 : 0 ≤ μ * parts + (parts - 1) := by
    rw [← hd]; exact Int.ediv_nonneg i5 (by omega)
  have hρ1 : μ * parts + (parts - 1) < hour * parts := by
    rw [← hd]; exact Int.ediv_lt_of_lt_mul hS i6
  have hμ0 : 0 ≤ μ := by rw [← hd2]; exact Int.ediv_nonneg hρ0 (by omega)
  have hμ1 : μ < hour := by
    rw [← hd2]
    exact Int.ediv_lt_of_lt_mul hp hρ1
  have hm : minutes = hour * h + μ := by rw [Int.mul_comm]; omega
  have := (Int.ediv_emod_unique (a := minutes) (b := hour) (r := μ) (q := h) hh).mpr ⟨by omega, hμ0, hμ1⟩
  exact ⟨this.1.symm, by rw [hd, hd2]; exact this.2.symm⟩
end Mine
end
section
set_option Elab.async false
namespace Mine
def WOk (hp W : Int) : Prop := 1 ≤ W ∧ W ≤ 5 ∧ (2 ≤ W → 4 ≤ hp) ∧ (3 ≤ W → 16 ≤ hp) ∧ (4 ≤ W → 64 ≤ hp) ∧ (5 ≤ W → 256 ≤ hp)
def WRange (hp W : Int) : Prop := (W = 1 ∧ hp < 4) ∨ (W = 2 ∧ 4 ≤ hp ∧ hp < 16) ∨ (W = 3 ∧ 16 ≤ hp ∧ hp < 64) ∨ (W = 4 ∧ 64 ≤ hp ∧ hp < 256) ∨ (W = 5 ∧ 256 ≤ hp ∧ hp < 1024)
theorem wok_start {hp : Int} : WOk hp 1 := ⟨by decide, by decide, by omega, by omega, by omega, by omega⟩
theorem four_pow {W : Int} (h1 : 1 ≤ W) (h2 : W ≤ 5) : (W = 1 ∧ (4 : Int) ^ W.toNat = 4) ∨ (W = 2 ∧ (4 : Int) ^ W.toNat = 16) ∨ (W = 3 ∧ (4 : Int) ^ W.toNat = 64) ∨ (W = 4 ∧ (4 : Int) ^ W.toNat = 256) ∨ (W = 5 ∧ (4 : Int) ^ W.toNat = 1024) := by
  have : W = 1 ∨ W = 2 ∨ W = 3 ∨ W = 4 ∨ W = 5 := by omega
  rcases this with rfl | rfl | rfl | rfl | rfl
  · exact .inl ⟨rfl, by decide⟩
  · exact .inr (.inl ⟨rfl, by decide⟩)
  · exact .inr (.inr (.inl ⟨rfl, by decide⟩))
  · exact .inr (.inr (.inr (.inl ⟨rfl, by decide⟩)))
  · exact .inr (.inr (.inr (.inr ⟨rfl, by decide⟩)))
theorem wok_next {hp W : Int} (h : WOk hp W) (ht : 4 ^ W.toNat ≤ hp) (hp' : hp < 512) : (1 ≤ W + 1 ∧ W + 1 ≤ 5) ∧ WOk hp (W + 1) := by
  obtain ⟨h1, h2, _⟩ := h
  rcases four_pow h1 h2 with ⟨rfl, e⟩ | ⟨rfl, e⟩ | ⟨rfl, e⟩ | ⟨rfl, e⟩ | ⟨rfl, e⟩ <;> rw [e] at ht
  · exact ⟨by omega, by omega, by omega, by omega, by omega, by omega, by omega⟩
  · exact ⟨by omega, by omega, by omega, by omega, by omega, by omega, by omega⟩
  · exact ⟨by omega, by omega, by omega, by omega, by omega, by omega, by omega⟩
  · exact ⟨by omega, by omega, by omega, by omega, by omega, by omega, by omega⟩
  · omega
theorem wok_cases {hp W : Int} (h : WOk hp W) (ht : ¬ 4 ^ W.toNat ≤ hp) : WRange hp W := by
  obtain ⟨h1, h2, h3, h4, h5, h6⟩ := h
  unfold WRange
  rcases four_pow h1 h2 with ⟨rfl, e⟩ | ⟨rfl, e⟩ | ⟨rfl, e⟩ | ⟨rfl, e⟩ | ⟨rfl, e⟩ <;> rw [e] at ht <;> omega
theorem wok_meas {hp W : Int} (h : WOk hp W) : (6 - (W + 1)).toNat < (6 - W).toNat := by
  obtain ⟨h1, h2, _⟩ := h
  omega
abbrev Loop2 (W big left a h r : Int) : Prop := (0 ≤ a ∧ a ≤ 8 ∧ a % W = 0 ∧ 0 ≤ h ∧ h ≤ 40000 ∧ 0 ≤ r ∧ r < big) ∧ WInv W big left a h r
theorem loop2_of {W big left a h r : Int} (I : WInv W big left a h r) (hl : left ≤ 40000) : Loop2 W big left a h r := ⟨⟨I.1, I.2.1, I.2.2.1, I.2.2.2.2.2.2.1, Int.le_trans I.2.2.2.2.2.2.2 hl, I.2.2.2.2.1, I.2.2.2.2.2.1⟩, I⟩
structure BigOk (W M big : Int) : Prop where
  p2 : 0 < big.fdiv (2 ^ W.toNat) ∧ big.fdiv (2 ^ W.toNat) < M
  p3 : 0 ≤ big.fmod (2 ^ W.toNat) ∧ big.fmod (2 ^ W.toNat) < M
  p4 : big = big.fdiv (2 ^ W.toNat) * M + big.fmod (2 ^ W.toNat)
  p7 : big < 65536
theorem bigOk_of {W M big : Int} (hM : (2 : Int) ^ W.toNat = M) (hM0 : 0 < M) (h1 : M ≤ big) (h2 : big < M * M) (h3 : big < 65536) : BigOk W M big := by
  have e1 : big.fdiv (2 ^ W.toNat) = big / M := by rw [hM, Int.fdiv_eq_ediv_of_nonneg _ (Int.le_of_lt hM0)]
  have e2 : big.fmod (2 ^ W.toNat) = big % M := by rw [hM, Int.fmod_eq_emod_of_nonneg _ (Int.le_of_lt hM0)]
  refine ⟨?_, ?_, ?_, h3⟩
  · rw [e1]; exact ⟨by have := Int.le_ediv_of_mul_le hM0 (show 1 * M ≤ big by omega); omega, Int.ediv_lt_of_lt_mul hM0 h2⟩
  · rw [e2]; exact ⟨Int.emod_nonneg _ (by omega), Int.emod_lt_of_pos _ hM0⟩
  · rw [e1, e2]
    have := Int.mul_ediv_add_emod big M
    rw [Int.mul_comm] at this; omega
section
variable {hour parts minutes W M : Int}
theorem big1 (hr : WRange (hour * parts) W) (hM : (2 : Int) ^ W.toNat = M) (e2 : 2 * hour * parts = 2 * (hour * parts)) (c0 : 1 ≤ hour * parts) (t : 2 * hour * parts < 4 ^ W.toNat) : BigOk W M (hour * parts * 2 ^ (Int.toNat 1)) := by
  have e : (2 : Int) ^ (Int.toNat 1) = 2 := by decide
  rw [e]
  rw [e2] at t
  rcases hr with ⟨rfl, h⟩ | ⟨rfl, h, h'⟩ | ⟨rfl, h, h'⟩ | ⟨rfl, h, h'⟩ | ⟨rfl, h, h'⟩ <;> subst hM
  · have f : (4 : Int) ^ (Int.toNat 1) = 4 := by decide
    exact bigOk_of rfl (by decide) (by show 2 ≤ _; omega) (by show _ < 4; omega) (by omega)
  · have f : (4 : Int) ^ (Int.toNat 2) = 16 := by decide
    exact bigOk_of rfl (by decide) (by show 4 ≤ _; omega) (by show _ < 16; omega) (by omega)
  · have f : (4 : Int) ^ (Int.toNat 3) = 64 := by decide
    exact bigOk_of rfl (by decide) (by show 8 ≤ _; omega) (by show _ < 64; omega) (by omega)
  · have f : (4 : Int) ^ (Int.toNat 4) = 256 := by decide
    exact bigOk_of rfl (by decide) (by show 16 ≤ _; omega) (by show _ < 256; omega) (by omega)
  · have f : (4 : Int) ^ (Int.toNat 5) = 1024 := by decide
    exact bigOk_of rfl (by decide) (by show 32 ≤ _; omega) (by show _ < 1024; omega) (by omega)
theorem big0 (hr : WRange (hour * parts) W) (hM : (2 : Int) ^ W.toNat = M) (e2 : 2 * hour * parts = 2 * (hour * parts)) (c0 : 1 ≤ hour * parts) (t : ¬ 2 * hour * parts < 4 ^ W.toNat) : BigOk W M (hour * parts * 2 ^ (Int.toNat 0)) := by
  have e : (2 : Int) ^ (Int.toNat 0) = 1 := by decide
  rw [e, Int.mul_one]
  rw [e2] at t
  rcases hr with ⟨rfl, h⟩ | ⟨rfl, h, h'⟩ | ⟨rfl, h, h'⟩ | ⟨rfl, h, h'⟩ | ⟨rfl, h, h'⟩ <;> subst hM
  · have f : (4 : Int) ^ (Int.toNat 1) = 4 := by decide
    exact bigOk_of rfl (by decide) (by show 2 ≤ _; omega) (by show _ < 4; omega) (by omega)
  · exact bigOk_of rfl (by decide) (by show 4 ≤ _; omega) (by show _ < 16; omega) (by omega)
  · exact bigOk_of rfl (by decide) (by show 8 ≤ _; omega) (by show _ < 64; omega) (by omega)
  · exact bigOk_of rfl (by decide) (by show 16 ≤ _; omega) (by show _ < 256; omega) (by omega)
  · exact bigOk_of rfl (by decide) (by show 32 ≤ _; omega) (by show _ < 1024; omega) (by omega)
theorem fm8 {x : Int} (hM : (2 : Int) ^ W.toNat = M) (hM0 : 0 < M) : 0 ≤ x.fmod (2 ^ W.toNat) ∧ x.fmod (2 ^ W.toNat) < M := by
  rw [hM, Int.fmod_eq_emod_of_nonneg _ (Int.le_of_lt hM0)]
  exact ⟨Int.emod_nonneg _ (by omega), Int.emod_lt_of_pos _ hM0⟩
theorem left_bd {S : Int} (hS : S = 1 ∨ S = 2) (mp0 : 0 ≤ minutes * parts) (p0 : 1 ≤ parts) (mp1 : minutes * parts + parts ≤ 32 * (hour * parts)) (c1 : hour * parts < 512) : 0 ≤ (minutes * parts + parts - 1) * S ∧ (minutes * parts + parts - 1) * S ≤ 40000 := by
  rcases hS with rfl | rfl <;> omega
theorem lstart {a S : Int} (hS : S = 1 ∨ S = 2) (ha : 0 ≤ a) (ha' : a ≤ 8) (hm : a % W = 0) (h16 : (32 : Int) ≤ 2 ^ a.toNat) (mp0 : 0 ≤ minutes * parts) (p0 : 1 ≤ parts) (mp1 : minutes * parts + parts ≤ 32 * (hour * parts)) (c0 : 1 ≤ hour * parts) (c1 : hour * parts < 512) :
    Loop2 W (hour * parts * S) ((minutes * parts + parts - 1) * S) a 0 (((minutes * parts + parts - 1) * S).fdiv (2 ^ a.toNat)) := by
  obtain ⟨l0, l1⟩ := left_bd hS mp0 p0 mp1 c1
  rw [Int.fdiv_eq_ediv_of_nonneg _ (by omega)]
  refine loop2_of (winv_start ha ha' hm l0 ?_) l1
  have hS0 : 0 ≤ hour * parts * S := by rcases hS with rfl | rfl <;> omega
  have h1 : hour * parts * S * 32 ≤ hour * parts * S * 2 ^ a.toNat := Int.mul_le_mul_of_nonneg_left h16 hS0
  rcases hS with rfl | rfl <;> omega
theorem lstep {a big left h r q r' : Int} (hS : left ≤ 40000) (l0 : 0 ≤ left) (hW : 1 ≤ W) (I : WInv W big left a h r) (hM : (2 : Int) ^ W.toNat = M) (hM0 : 0 < M) (hqr : r * M + (left.fdiv (2 ^ (a - W).toNat)).fmod (2 ^ W.toNat) = q * big + r') (hr0 : 0 ≤ r') (hr1 : r' < big) (hq : 0 ≤ q) (ha : 0 < a) :
    Loop2 W big left (a - W) (h * 2 ^ W.toNat + q) r' := by
  have hp : (0 : Int) < 2 ^ (a - W).toNat := Int.pow_pos (by decide)
  rw [hM, Int.fmod_eq_emod_of_nonneg _ (Int.le_of_lt hM0), Int.fdiv_eq_ediv_of_nonneg _ (Int.le_of_lt hp)] at hqr
  rw [hM]
  exact loop2_of (winv_step hW I hM rfl hqr hr0 hr1 hq ha l0) hS
theorem lend {a S h r : Int} (I : WInv W (hour * parts * S) ((minutes * parts + parts - 1) * S) a h r) (ha : ¬ 0 < a) (hS : S = 1 ∨ S = 2) (hp : 1 ≤ parts) (hh : 1 ≤ hour) : h = minutes / hour ∧ (r.fdiv S).fdiv parts = minutes % hour := by
  have hS0 : 0 < S := by omega
  have e := winv_end I ha hS0 (by omega : 0 < parts) rfl rfl (by omega)
  rw [Int.fdiv_eq_ediv_of_nonneg _ (by omega : 0 ≤ S), Int.fdiv_eq_ediv_of_nonneg _ (by omega : 0 ≤ parts)]
  exact e
end
end Mine
end
section
set_option maxHeartbeats 2000000
namespace Mine
open PySem PySem.Spec PySem.Calls PyProof.Rows PyProof.Rows.LCg PyProof.Rows.LCt PySem.W
def TupAt (ax : Addr) (its : Array Value) (k : Nat) (news : List (Addr × Obj)) : Prop := (ax, ({ cls := .type "tuple", data := .seq its k } : Obj)) ∈ news
theorem tup_st {h₀ : Heap} {L ax I : Addr} {its : Array Value} {k : Nat} : ∀ i (h h' : Heap) (o : Obj) (nw : List (Addr × Obj)), (h.IsTupleIter I ax i ∧ h.IsTuple ax its) → h.get? I = some o → h'.get? I = some o → (∀ b o, h₀.get? b = some o → h'.get? b = some o) → News h₀ L h' nw → TupAt ax its k nw → (h'.IsTupleIter I ax i ∧ h'.IsTuple ax its) :=
  fun i h h' o nw st e e' _ N S => ⟨by obtain ⟨o', q, r⟩ := st.1; rw [e] at q; cases q; exact ⟨o, e', r⟩, ⟨_, (N _ S).1, rfl, _, rfl⟩⟩
section
variable {prog : Program} {w : World} {A : Around} {E : Value → Shared → Prop} {s : Shared} {h₀ : Heap} {L : Addr} {m : Str → Option Value} {env : Env}
/-- one turn whose test comes out false -/
def SkipTurn (prog : Program) (w : World) (A : Around) (h₀ : Heap) (L : Addr) (m : Str → Option Value) (env : Env) (ct : Expr) (x : Str) (scope : Scope) (cl : List (Str × Addr)) (s : Shared) (nw : List (Addr × Obj)) : Prop :=
  ∀ (q : Int) (t : Tok) I oI C oC D m₂ h tk (QQ : Bool → Shared → Prop) (E' : Value → Shared → Prop), NsObj oC m₂ → m₂ x = some (.int q t) → Fr h₀ L h m → News h₀ L h ((I, oI) :: (C, oC) :: (D, lst []) :: nw) → Off3 I C D nw → ((@Ne Nat I C) ∧ (@Ne Nat I D) ∧ (@Ne Nat C D)) →
    (∀ h' tk', Fr h₀ L h' m → News h₀ L h' ((I, oI) :: (C, oC) :: (D, lst []) :: nw) → QQ false { s with heap := h', toks := tk' }) →
    wpAny (model prog w) A (isTrue ct (compEnvC scope cl C env) (eval ct (compEnvC scope cl C env))) QQ E' { s with heap := h, toks := tk }
theorem skip_all {ct elt : Expr} {x : Str} {scope : Scope} {cl : List (Str × Addr)} {S : List (Addr × Obj) → Prop} {P : Nat → Value → Prop} {Fin : List Value → List (Addr × Obj) → Prop} {nw : List (Addr × Obj)}
    (hP : ∀ i v, P i v → ∃ q t, v = .int q t) (T : SkipTurn prog w A h₀ L m env ct x scope cl s nw) (hS : S nw) (hF : Fin [] nw) : ∀ n i, CompRestT prog w A h₀ L m env ct elt x scope cl s S P Fin n i [] nw := by
  intro n
  induction n with
  | zero => intro i; exact hF
  | succ n ih =>
    intro i
    refine CompRestT.succ ?_
    intro v I oI C oC D m₂ h tk E' hv hC hx F N off ne
    obtain ⟨q, t, rfl⟩ := hP i v hv
    refine T q t I oI C oC D m₂ h tk _ E' hC hx F N off ne fun h' tk' F' N' => ?_
    rw [if_neg (by decide)]
    exact ⟨h', tk', nw, rfl, F', N', off, hS, ih (i + 1)⟩
def SkipSrc (prog : Program) (w : World) (A : Around) (h₀ : Heap) (L : Addr) (m : Str → Option Value) (env : Env) (ct : Expr) (x : Str) (scope : Scope) (cl : List (Str × Addr)) (Q : Value → Shared → Prop) (xv : Value) (s₁ : Shared) : Prop :=
  ∃ ax its k news, xv = .ref ax ∧ A.handled = none ∧ Fr h₀ L s₁.heap m ∧ News h₀ L s₁.heap news ∧ TupAt ax its k news ∧ its.size ≤ sizeLine ∧ (∀ (i : Nat) v, its[i]? = some v → ∃ q t, v = .int q t) ∧
    (∀ g, SkipTurn prog w A h₀ L m env ct x scope cl { s₁ with heap := g } news) ∧
    (∀ D h tk, Fr h₀ L h m → News h₀ L h ((D, lst []) :: news) → Off1 D news → Q (.ref D) { s₁ with heap := h, toks := tk })
theorem SkipSrc.intro {ct : Expr} {x : Str} {scope : Scope} {cl : List (Str × Addr)} {Q : Value → Shared → Prop} {s₁ : Shared} {ax : Addr} {its : Array Value} {k : Nat} {news : List (Addr × Obj)} (hh : A.handled = none) (F : Fr h₀ L s₁.heap m) (N : News h₀ L s₁.heap news)
    (S : (ax, ({ cls := .type "tuple", data := .seq its k } : Obj)) ∈ news) (hsz : its.size ≤ sizeLine) (hint : ∀ (i : Nat) v, its[i]? = some v → ∃ q t, v = .int q t) (turn : ∀ g, SkipTurn prog w A h₀ L m env ct x scope cl { s₁ with heap := g } news)
    (fin : ∀ D h tk, Fr h₀ L h m → News h₀ L h ((D, PySem.W.listOf #[] 0) :: news) → Off1 D news → Q (.ref D) { s₁ with heap := h, toks := tk }) : SkipSrc prog w A h₀ L m env ct x scope cl Q (.ref ax) s₁ := ⟨ax, its, k, news, rfl, hh, F, N, S, hsz, hint, turn, fin⟩
theorem comp_skip {ct elt iter : Expr} {x : Str} {px : Pos} {scope : Scope} {cl : List (Str × Addr)} {pos : Pos} {Q : Value → Shared → Prop} (_F₀ : Fr h₀ L s.heap m)
    (hclos : closureFor scope env = pure cl) (hcell : ∀ y ∈ scope.names, y.2 ≠ .cell) (hkind : scope.kind = .function)
    (hnames : ∀ y ∈ scope.names, y.2 = .local → scope.names.lookup y.1 = some .local) (hx : scope.names.lookup x = some .local)
    (h : wpAny (model prog w) A (eval iter env) (SkipSrc prog w A h₀ L m env ct x scope cl Q) E s)
    (hs : ∀ x, foldedSetIterable iter env x = pure x := by intro _; rfl) :
    wpAny (model prog w) A (eval (.ListComp elt [⟨.Name x px, iter, [ct], 0⟩] scope pos) env) Q E s := by
  rw [eval_ListComp]
  refine wpAny_comprehension_free (use := none) rfl hs hclos hkind hnames (wpAny_mono h (fun xv s₁ h₁ => ?_) fun _ _ e => e)
  obtain ⟨ax, its, k, news, rfl, hh, F, N, S, hsz, hint, R, fin⟩ := h₁
  have hl : s₁.heap.IsTuple ax its := ⟨_, (N _ S).1, rfl, _, rfl⟩
  have hlt : ax < s₁.heap.objs.size := by obtain ⟨_, e, _⟩ := hl; exact Heap.lt_size e
  refine wpAny_pyIter_tuple hl ?_
  have up : ∀ b o, s₁.heap.get? b = some o → (s₁.heap.push { cls := .type "tuple_iterator", data := .fields #[.ref ax, .int 0 0] }).get? b = some o := fun b o e => Heap.get?_push_of_some _ e
  refine block_T (Walks.tuple hh s₁.heap.objs.size ax (Nat.ne_of_lt hlt) its) hsz (fun i h st => by obtain ⟨o, e, _⟩ := st.1; exact ⟨o, e⟩) (tup_st (k := k)) hcell hkind hx ⟨⟨_, Heap.get?_push_size _ rfl, rfl, rfl⟩, ⟨_, up _ _ (N _ S).1, rfl, _, rfl⟩⟩ (fun b hb => ?_)
    (F.keeps up) (N.grown up) (Nat.ne_of_lt F.ns.lt) (next_is_new F) (fun p hp => Nat.ne_of_lt (Heap.lt_size (N p hp).1)) S (skip_all hint (R _) S (Fin := FinE h₀ L m { s₁ with heap := s₁.heap.push { cls := .type "tuple_iterator", data := .fields #[.ref ax, .int 0 0] } } Q) (fun D h tk F' N' o1 => fin D h tk F' N' o1) _ _) ?_
  · show b < (s₁.heap.push _).objs.size
    rw [Heap.size_push]
    rcases List.mem_cons.mp hb with rfl | hb
    · exact Nat.lt_succ_self _
    · rw [List.mem_singleton.mp hb]; exact Nat.lt_succ_of_lt hlt
  · intro D C h tk m' ys news' F' N' o1 hn hC₀ hD₀ hCL hDL hCD offC fin
    refine ⟨m', hn, fun h'' hs'' => fin D h'' tk (F'.change hs'' hCL hC₀) (fun p hp => ?_) o1⟩
    refine ⟨hs''.extBut _ _ ?_ (N' p hp).1, (N' p hp).2⟩
    rcases List.mem_cons.mp hp with rfl | hp
    · exact Ne.symm hCD
    · exact offC p hp
end
theorem two_ints {a b : Int} {t u : Tok} : ∀ (i : Nat) v, (#[Value.int a t, Value.int b u] : Array Value)[i]? = some v → ∃ q t, v = .int q t := by
  intro i v h
  match i with
  | 0 => cases h; exact ⟨_, _, rfl⟩
  | 1 => cases h; exact ⟨_, _, rfl⟩
  | n + 2 => simp at h
end Mine
end
section
open PySem PySem.W PyProof.Rows PySem.Spec PySem.Calls
set_option Elab.async false
namespace Mine
section
variable {M : Model} {A : Around} {E : Value → Shared → Prop} {s : Shared} {env : Env}
theorem ifexp_int {test : Expr} {i j : Int} {k1 k2 : Nat} {p1 p2 pos : Pos} {Q : Value → Shared → Prop}
    (h : wpAny M A (isTrue test env (eval test env)) (fun c s' => Q (.int (if c = true then i else j) s'.toks) { s' with toks := s'.toks + 1 }) E s) :
    wpAny M A (eval (.IfExp test (.Constant (.int i) k1 p1) (.Constant (.int j) k2 p2) pos) env) Q E s := by
  refine IfExp_ (wpAny_mono h (fun c s' hc => ?_) fun _ _ e => e)
  cases c with
  | true => exact wpAny_Constant_int hc
  | false => exact wpAny_Constant_int hc
def NoGo (b : Bool) (P : Prop) : Prop := b = false ∧ P
theorem NoGo.intro {b : Bool} {P : Prop} (h1 : b = false) (h2 : P) : NoGo b P := ⟨h1, h2⟩
theorem if_nogo {test : Expr} {body : List Stmt} {pos : Pos} {Q : Flow → Shared → Prop}
    (h : wpAny M A (isTrue test env (eval test env)) (fun b s' => NoGo b (Q .next s')) E s) : wpAny M A (exec (.If test body [] pos) env) Q E s := by
  refine wpAny_If (wpAny_mono h (fun b s' hb => ?_) fun _ _ e => e)
  obtain ⟨rfl, hq⟩ := hb
  exact wpAny_execs_nil hq
end
end Mine
end
section
open PySem PySem.W PyProof.Rows PySem.Spec PySem.Calls
set_option Elab.async false
namespace Mine
section
variable {M : Model} {A : Around} {E : Value → Shared → Prop} {s : Shared}
/-- the tokens do not matter: a stored int's, and the state's -/
theorem store_any {env : Env} {x : Str} {e : Int} {t : Tok} {Q : Unit → Shared → Prop} (h : ∀ t tk, wpAny M A (storeName env x (.int e t)) Q E { s with toks := tk }) : wpAny M A (storeName env x (.int e t)) Q E s := h t s.toks
end
end Mine
end
section
open PySem PySem.W PyProof.Rows PySem.Spec PySem.Calls
set_option Elab.async false
set_option maxRecDepth 100000
set_option maxHeartbeats 8000000
namespace Mine
theorem div3_q {a12 a3 b M : Int} (hM0 : 0 < M) (ha : 0 ≤ a12) (ha' : a12 < b) (h3 : 0 ≤ a3) (h3' : a3 < M) :
    a12 * M + a3 = (a12 * M + a3) / b * b + (a12 * M + a3) % b ∧ 0 ≤ (a12 * M + a3) % b ∧ (a12 * M + a3) % b < b ∧ 0 ≤ (a12 * M + a3) / b ∧ (a12 * M + a3) / b < M := by
  have hb : 0 < b := by omega
  have hp : 0 ≤ a12 * M := Int.mul_nonneg ha (by omega)
  refine ⟨?_, Int.emod_nonneg _ (by omega), Int.emod_lt_of_pos _ hb, Int.ediv_nonneg (by omega) (by omega), ?_⟩
  · have := Int.mul_ediv_add_emod (a12 * M + a3) b
    rw [Int.mul_comm] at this; omega
  · refine Int.ediv_lt_of_lt_mul hb ?_
    have : (a12 + 1) * M ≤ b * M := Int.mul_le_mul_of_nonneg_right (by omega) (by omega)
    rw [Int.add_mul, Int.one_mul] at this
    rw [Int.mul_comm M b]; omega
theorem call_div3 {w : World} {mean : ExcName → Option Value} {mg mb : Str → Option Value} {dp un : Nat} {gd : Option (List Code)} {cn : Str} {cs : Scope} {aa : Addr} {ccd : Value} {cl : List (Str × Addr)} {outer : List Env}
  {A₀ : Around} {base h₀ : Heap} {L : Addr} {m : Str → Option Value} {news : List (Addr × Obj)} {s : Shared} {Q E : Value → Shared → Prop} {a12 a3 b b1 b2 n : Int} {t1 t2 t3 t4 t5 t6 : Tok} (M : Int)
  (B : Below A₀ base outer h₀ := by k_asm) (F : Fr h₀ L s.heap m := by k_asm) (X : Frag.In (hd.heap_39 w.params) h₀ := by k_asm) (N : News h₀ L s.heap news := by k_asm) (T : Top hd.view_39 (looseW hd.view_39 [Str.ofString "UTC_ZONES", Str.ofString "TIMEZONE_RE"]) mean mg mb h₀ := by k_asm) (hk : cs.kind = .function := by first | exact rfl | assumption)
  (hn : 0 ≤ n ∧ n ≤ 8 ∧ (2:Int) ^ n.toNat = M) (hb1 : 0 < b1 ∧ b1 < M) (hb2 : 0 ≤ b2 ∧ b2 < M) (hb : b = b1 * M + b2) (hM : 0 < M ∧ M ≤ 256) (ha : 0 ≤ a12 ∧ a12 < b) (hb' : b < 65536) (h3 : 0 ≤ a3 ∧ a3 < M) (hd : dp + 2 < recursionLimit := by ktr_room) (hu : un + 16 < cLine := by ktr_units)
  (ret : ∀ (q r : Int), a12 * M + a3 = q * b + r → 0 ≤ r → r < b → 0 ≤ q → q < M → ∀ (D : Addr) (t u : Tok) (c : Nat) h' tk', Fr h₀ L h' m → News h₀ L h' ((D, ({ cls := .type "tuple", data := .seq #[.int q t, .int r u] c } : Obj)) :: news) → (∀ q ∈ news, q.1 < D) → Q (.ref D) { s with heap := h', toks := tk' }) :
  wpAny (model (RowW.prog (OpenRow.toRowW (OpenLaw.row PySem.Challenge.rw_xg0011_02))) w) (ktrTop dp un gd cn cs L aa ccd cl outer) (call (.ref 58) [.int a12 t1, .int a3 t2, .int b t3, .int b1 t4, .int b2 t5, .int n t6]) Q E s :=
  have f := div3_q hM.1 ha.1 ha.2 h3.1 h3.2
  use_T2 (div3 w a12 a3 b b1 b2 n M t1 t2 t3 t4 t5 t6 hn.1 hn.2.1 hn.2.2 hb1.1 hb1.2 hb2.1 hb2.2 hb hM.1 hM.2 ha.1 ha.2 hb' h3.1 h3.2) B F X N T hk trivial hd hu
    (ret _ _ f.1 f.2.1 f.2.2.1 f.2.2.2.1 f.2.2.2.2)
theorem call_whole {w : World} {mean : ExcName → Option Value} {mg mb : Str → Option Value} {dp un : Nat} {gd : Option (List Code)} {cn : Str} {cs : Scope} {aa : Addr} {ccd : Value} {cl : List (Str × Addr)} {outer : List Env}
  {A₀ : Around} {base h₀ : Heap} {L : Addr} {m : Str → Option Value} {news : List (Addr × Obj)} {s : Shared} {Q E : Value → Shared → Prop} {i : Int} {t : Tok}
  (B : Below A₀ base outer h₀ := by k_asm) (F : Fr h₀ L s.heap m := by k_asm) (X : Frag.In (hd.heap_39 w.params) h₀ := by k_asm) (N : News h₀ L s.heap news := by k_asm) (T : Top hd.view_39 (looseW hd.view_39 [Str.ofString "UTC_ZONES", Str.ofString "TIMEZONE_RE"]) mean mg mb h₀ := by k_asm) (hk : cs.kind = .function := by first | exact rfl | assumption)
  (hd : dp + 1 < recursionLimit := by ktr_room) (hu : un + 8 < cLine := by ktr_units)
  (ret : ∀ h' tk', Fr h₀ L h' m → News h₀ L h' news → Q (.bool true) { s with heap := h', toks := tk' }) :
  wpAny (model (RowW.prog (OpenRow.toRowW (OpenLaw.row PySem.Challenge.rw_xg0011_02))) w) (ktrTop dp un gd cn cs L aa ccd cl outer) (call (.ref 79) [.int i t]) Q E s :=
  use_B (whole_con w i t) B F X N T hk trivial hd hu ret
structure AtOk (W a : Int) : Prop where
  a0 : 0 ≤ a
  a6 : a ≤ 8
  am : a % W = 0
  ah : (32 : Int) ≤ 2 ^ a.toNat
theorem at_ok {hp W : Int} (h : WOk hp W) : AtOk W ((W + 4).fdiv W * W) := by
  have h1 : 1 ≤ W := h.1
  have h2 : W ≤ 5 := h.2.1
  have : W = 1 ∨ W = 2 ∨ W = 3 ∨ W = 4 ∨ W = 5 := by omega
  rcases this with rfl | rfl | rfl | rfl | rfl <;> exact ⟨by decide, by decide, by decide, by decide⟩
theorem store_at {prog : Program} {w : World} {A : Around} {E : Value → Shared → Prop} {s : Shared} {env : Env} {x : Str} {t : Tok} {Q : Unit → Shared → Prop} {W e : Int} (hf : AtOk W e)
    (h : ∀ a, AtOk W a → 0 ≤ a → a ≤ 8 → wpAny (model prog w) A (storeName env x (.int a t)) Q E s) : wpAny (model prog w) A (storeName env x (.int e t)) Q E s := h e hf hf.a0 hf.a6
def ShOk (hour parts W sh : Int) : Prop := (sh = 1 ∧ 2 * hour * parts < 4 ^ W.toNat) ∨ (sh = 0 ∧ ¬ 2 * hour * parts < 4 ^ W.toNat)
theorem sh_ok {hour parts W : Int} : ShOk hour parts W (if decide (2 * hour * parts < 4 ^ W.toNat) = true then 1 else 0) := by
  unfold ShOk
  by_cases h : 2 * hour * parts < 4 ^ W.toNat
  · simp [h]
  · simp [h]
theorem store_sh {prog : Program} {w : World} {A : Around} {E : Value → Shared → Prop} {s : Shared} {env : Env} {x : Str} {t : Tok} {Q : Unit → Shared → Prop} {hour parts W e : Int} (hf : ShOk hour parts W e)
    (h : ∀ a, ShOk hour parts W a → 0 ≤ a → a ≤ 1 → wpAny (model prog w) A (storeName env x (.int a t)) Q E s) : wpAny (model prog w) A (storeName env x (.int e t)) Q E s := h e hf (by rcases hf with ⟨rfl, _⟩ | ⟨rfl, _⟩ <;> decide) (by rcases hf with ⟨rfl, _⟩ | ⟨rfl, _⟩ <;> decide)
theorem shS {hour parts W sh : Int} (h : ShOk hour parts W sh) : (2 : Int) ^ sh.toNat = 1 ∨ (2 : Int) ^ sh.toNat = 2 := by
  rcases h with ⟨rfl, _⟩ | ⟨rfl, _⟩
  · exact .inr (by decide)
  · exact .inl (by decide)
theorem powW {hp W : Int} (h : WOk hp W) : 0 < (2 : Int) ^ W.toNat ∧ (2 : Int) ^ W.toNat ≤ 256 := by
  have h1 : 1 ≤ W := h.1
  have h2 : W ≤ 5 := h.2.1
  have : W = 1 ∨ W = 2 ∨ W = 3 ∨ W = 4 ∨ W = 5 := by omega
  rcases this with rfl | rfl | rfl | rfl | rfl <;> decide
theorem bigS {hour parts W sh : Int} (h : ShOk hour parts W sh) (hr : WRange (hour * parts) W) (e2 : 2 * hour * parts = 2 * (hour * parts)) (c0 : 1 ≤ hour * parts) : BigOk W (2 ^ W.toNat) (hour * parts * 2 ^ sh.toNat) := by
  rcases h with ⟨rfl, h⟩ | ⟨rfl, h⟩
  · exact big1 hr rfl e2 c0 h
  · exact big0 hr rfl e2 c0 h
theorem call_div3W {w : World} {mean : ExcName → Option Value} {mg mb : Str → Option Value} {dp un : Nat} {gd : Option (List Code)} {cn : Str} {cs : Scope} {aa : Addr} {ccd : Value} {cl : List (Str × Addr)} {outer : List Env}
  {A₀ : Around} {base h₀ : Heap} {L : Addr} {m : Str → Option Value} {news : List (Addr × Obj)} {s : Shared} {Q E : Value → Shared → Prop} {a12 x hp b n : Int} {t1 t2 t3 t4 t5 t6 : Tok}
  (B : Below A₀ base outer h₀ := by k_asm) (F : Fr h₀ L s.heap m := by k_asm) (X : Frag.In (hd.heap_39 w.params) h₀ := by k_asm) (N : News h₀ L s.heap news := by k_asm) (T : Top hd.view_39 (looseW hd.view_39 [Str.ofString "UTC_ZONES", Str.ofString "TIMEZONE_RE"]) mean mg mb h₀ := by k_asm) (hk : cs.kind = .function := by first | exact rfl | assumption)
  (hW : WOk hp n) (hb : BigOk n (2 ^ n.toNat) b) (ha : 0 ≤ a12 ∧ a12 < b) (hd : dp + 2 < recursionLimit := by ktr_room) (hu : un + 16 < cLine := by ktr_units)
  (ret : ∀ (q r : Int), a12 * 2 ^ n.toNat + x.fmod (2 ^ n.toNat) = q * b + r → 0 ≤ r → r < b → 0 ≤ q → q < 2 ^ n.toNat → ∀ (D : Addr) (t u : Tok) (c : Nat) h' tk', Fr h₀ L h' m → News h₀ L h' ((D, ({ cls := .type "tuple", data := .seq #[.int q t, .int r u] c } : Obj)) :: news) → (∀ q ∈ news, q.1 < D) → Q (.ref D) { s with heap := h', toks := tk' }) :
  wpAny (model (RowW.prog (OpenRow.toRowW (OpenLaw.row PySem.Challenge.rw_xg0011_02))) w) (ktrTop dp un gd cn cs L aa ccd cl outer) (call (.ref 58) [.int a12 t1, .int (x.fmod (2 ^ n.toNat)) t2, .int b t3, .int (b.fdiv (2 ^ n.toNat)) t4, .int (b.fmod (2 ^ n.toNat)) t5, .int n t6]) Q E s :=
  call_div3 (2 ^ n.toNat) B F X N T hk ⟨by have := hW.1; omega, by have := hW.2.1; omega, rfl⟩ hb.p2 hb.p3 hb.p4 (powW hW) ha hb.p7 (fm8 rfl (powW hW).1) hd hu ret
/-- between the turns of the second loop -/
abbrev Loop3 (W big left a h r : Int) : Prop := (0 ≤ a ∧ a ≤ 8 ∧ (a = 0 ∨ W ≤ a) ∧ 0 ≤ h ∧ h ≤ 40000 ∧ 0 ≤ r ∧ r < big) ∧ WInv W big left a h r
theorem loop3_of {W big left a h r : Int} (hW : 1 ≤ W) (I : Loop2 W big left a h r) : Loop3 W big left a h r := by
  refine ⟨⟨I.1.1, I.1.2.1, ?_, I.1.2.2.2⟩, I.2⟩
  have h0 := I.1.1
  have hm := I.1.2.2.1
  by_cases hc : a < W
  · rw [Int.emod_eq_of_lt h0 hc] at hm
    exact .inl hm
  · exact .inr (by omega)
theorem lstart3 {hour parts minutes W sh a : Int} (hW : WOk (hour * parts) W) (h : ShOk hour parts W sh) (ha : AtOk W a) (mp0 : 0 ≤ minutes * parts) (p0 : 1 ≤ parts) (mp1 : minutes * parts + parts ≤ 32 * (hour * parts)) (c0 : 1 ≤ hour * parts) (c1 : hour * parts < 512) :
    Loop3 W (hour * parts * 2 ^ sh.toNat) ((minutes * parts + parts - 1) * 2 ^ sh.toNat) a 0 (((minutes * parts + parts - 1) * 2 ^ sh.toNat).fdiv (2 ^ a.toNat)) :=
  loop3_of hW.1 (lstart (shS h) ha.a0 ha.a6 ha.am ha.ah mp0 p0 mp1 c0 c1)
theorem lstep3 {hour parts minutes W sh a h r q r' : Int} (hW : WOk (hour * parts) W) (hs : ShOk hour parts W sh) (mp0 : 0 ≤ minutes * parts) (p0 : 1 ≤ parts) (mp1 : minutes * parts + parts ≤ 32 * (hour * parts)) (c1 : hour * parts < 512)
    (I : WInv W (hour * parts * 2 ^ sh.toNat) ((minutes * parts + parts - 1) * 2 ^ sh.toNat) a h r)
    (hqr : r * 2 ^ W.toNat + (((minutes * parts + parts - 1) * 2 ^ sh.toNat).fdiv (2 ^ (a - W).toNat)).fmod (2 ^ W.toNat) = q * (hour * parts * 2 ^ sh.toNat) + r') (hr0 : 0 ≤ r') (hr1 : r' < hour * parts * 2 ^ sh.toNat) (hq : 0 ≤ q) (ha : 0 < a) :
    Loop3 W (hour * parts * 2 ^ sh.toNat) ((minutes * parts + parts - 1) * 2 ^ sh.toNat) (a - W) (h * 2 ^ W.toNat + q) r' :=
  loop3_of hW.1 (lstep (left_bd (shS hs) mp0 p0 mp1 c1).2 (left_bd (shS hs) mp0 p0 mp1 c1).1 hW.1 I rfl (powW hW).1 hqr hr0 hr1 hq ha)
local macro_rules | `(tactic| walk_at "exec While Compare cons nil") => `(tactic| k_extra "exec While Compare cons nil")
theorem parted (w : World) (minutes hour parts : Int) (t1 t2 t3 : Tok) (h0 : 1 ≤ hour) (h1 : hour ≤ 31) (p0 : 1 ≤ parts) (p1 : parts ≤ 16) (m0 : 0 ≤ minutes) (m1 : minutes < 32 * hour) (e2 : 2 * hour * parts = 2 * (hour * parts)) (c0 : 1 ≤ hour * parts) (c1 : hour * parts < 512)
   (mp0 : 0 ≤ minutes * parts) (mp1 : minutes * parts + parts ≤ 32 * (hour * parts)) : Con (RowW.prog (OpenRow.toRowW (OpenLaw.row PySem.Challenge.rw_xg0011_02))) w (hd.heap_39 w.params) hd.view_39 (looseW hd.view_39 [Str.ofString "UTC_ZONES", Str.ofString "TIMEZONE_RE"]) 84 [.int minutes t1, .int hour t2, .int parts t3] 3 128 (fun _ _ => True) (OutT2 (minutes / hour) (minutes % hour)) := by
  w_top off
  k_with_none
  k_fill
  unfold Con
  intro mean mg mb dp un gd cn cs aa ccd cl outer A₀ base h₀ L m news s Q E B F X N T hk hin hd hu hret
  refine wpAny_call ?_
  k_dflt cell_enter
  have hlt := lt_of_news ‹News _ _ _ news›
  (k_with "exec While Compare cons nil" => k_while_given ["part", "parts"] (fun hour parts _ W => (1 ≤ W ∧ W ≤ 5) ∧ WOk (hour * parts) W) (fun _ _ _ W => (6 - W).toNat) "width")
  (k_with "exec While Compare cons nil" => k_while_given ["width", "big", "left"] (fun W big left _ a h r => Loop3 W big left a h r) (fun _ _ _ _ a _ _ => a.toNat) "at" "often" "rest")
  (k_with "state" => first | exact ⟨⟨by decide, by decide⟩, wok_start⟩ | exact wok_next (by assumption) (by assumption) (by assumption) | exact lstart3 (by assumption) (by assumption) (by assumption) mp0 p0 mp1 c0 c1 | exact lstep3 (by assumption) (by assumption) mp0 p0 mp1 c1 (by assumption) (by assumption) (by assumption) (by assumption) (by assumption) (by assumption))
  (k_with "measure" => first | exact wok_meas (by assumption) | omega)
  repeat' (first
    | (k_unfold; (try dsimp only))
    | (k_end; wrow_close)
    | ((k_here; (with_reducible show wpAny _ _ (eval (Expr.IfExp _ (Expr.Constant (Const.int _) _ _) (Expr.Constant (Const.int _) _ _) _) _) _ _ _); (refine ifexp_int ?_)))
    | ((with_reducible show SkipSrc _ _ _ _ _ _ _ _ _ _ _ _ _ _); (refine' SkipSrc.intro ?kh ?kF ?kN ?tm ?ts ?ti ?tt ?_; (case kh => exact rfl); (case kF => k_asm); (case kN => k_asm); (case tm => k_mem); (case ti => exact two_ints); (case ts => exact Nat.le_of_ble_eq_true rfl); (case' tt => (intro g' q' t' I' oI' C' oC' D' m' h' tk' QQ' E' hC' hx' F' N' off' ne' hQQ'; (try simp only [LCg.Off3, and_true] at off'); (try dsimp only at *)))); (rotate_left; intro D' h' tk' F' N' o1'; (try simp only [LCg.Off1, and_true] at o1'); (try dsimp only)))
    | ((k_here; (with_reducible show wpAny _ _ (eval (Expr.ListComp _ [⟨Expr.Name _ _, Expr.Name (PySem.Str.ofString "told") _, [Expr.UnaryOp _ (Expr.Call (Expr.Name (PySem.Str.ofString "_law_whole") _) _ _ _) _], 0⟩] _ _) _) _ _ _); k_dflt (refine comp_skip (_F₀ := by k_asm) (by with_unfolding_all rfl) (by decide) (by rfl) (by decide) (by rfl) ?_)))
    | ((k_here; (with_reducible show wpAny _ _ (call (Value.ref 58) [Value.int _ _, Value.int _ _, Value.int _ _, Value.int _ _, Value.int _ _, Value.int _ _]) _ _ _); (rename ShOk _ _ _ _ => hSh); (rename WOk _ _ => hWk); (refine call_div3W (hW := hWk) (hb := bigS hSh (wok_cases hWk (by assumption)) (by assumption) (by assumption)) (ha := ⟨by assumption, by assumption⟩) (ret := ?_)); (intro q' r' hqr' hr0' hr1' hq0' hq1' D' t' u' c' h' tk' F' N' l1; (try k_lt l1); (try dsimp only); (try k_fold))))
    | ((k_here; (with_reducible show wpAny _ _ (call (Value.ref 79) [Value.int _ _]) _ _ _); (refine call_whole (ret := ?_)); (intro h' tk' F' N'; (try dsimp only); (try k_fold))))
    | ((k_here; (with_reducible show wpAny _ _ (storeName _ (PySem.Str.ofString "shift") (Value.int (ite _ _ _) _)) _ _ _); (refine store_sh sh_ok ?_); (intro a' ha' a1' a2')))
    | ((k_here; (with_reducible show wpAny _ _ (storeName _ (PySem.Str.ofString "at") (Value.int (Int.fdiv _ _ * _) _)) _ _ _); (rename WOk _ _ => hWk); (refine store_at (at_ok hWk) ?_); (intro a' ha' a1' a2')))
    | ((k_here; (with_reducible show wpAny _ _ (storeName _ _ (Value.int _ (_ + 1))) _ _ _); (refine store_any (fun _ _ => ?_)); (try dsimp only)))
    | (exact hQQ' _ _ (by assumption) (by assumption))
    | (walk1 <;> (try dsimp only))
    | (dsimp only; walk1)
    | (leave1; walk_say "STEP leave1"; try dsimp only))
  all_goals (
    have he := lend (by assumption) (by assumption) (shS (by assumption)) (by assumption) (by assumption)
    refine end_T2 (news := news) hret (by k_asm) (by assumption) (by k_mem) (by intro p hp; k_ownIn) ?_ he.1 he.2)
  all_goals first | exact hlt | assumption | exact ktn_ltOf (by assumption) | exact ktn_ltOf (And.right (by assumption)) | exact ktn_ltOf (And.right (And.right (by assumption)))
end Mine
end
section
open PySem PySem.W PyProof.Rows PySem.Spec PySem.Calls
set_option Elab.async false
set_option maxRecDepth 100000
namespace Mine
theorem attrs_pat : PlainAttrs "re.Pattern" :=
  ⟨⟨"object.__getattribute__", by rw [typeLookup_type, builtinLookup_eq_fast]; kernel_rfl, by decide +kernel⟩, by rw [typeLookup_type, builtinLookup_eq_fast]; kernel_rfl⟩
theorem attrs_match : PlainAttrs "re.Match" :=
  ⟨⟨"object.__getattribute__", by rw [typeLookup_type, builtinLookup_eq_fast]; kernel_rfl, by decide +kernel⟩, by rw [typeLookup_type, builtinLookup_eq_fast]; kernel_rfl⟩
theorem slot_search : Slot "re.Pattern" "search" "re.Pattern.search" :=
  .of (owner := "re.Pattern") (n := "search") (by rw [typeLookup_type, builtinLookup_eq_fast]; kernel_rfl) (by decide +kernel) (by decide +kernel) (by decide +kernel)
    (by first | exact .inl (by decide +kernel) | exact .inr (by decide +kernel)) (by rw [isSubtype_type]; kernel_rfl)
theorem type_search : typeOf (.builtin "re.Pattern.search") = pure (.type "method_descriptor") := by show builtinType _ = _; rw [builtinType_eq_fast]; kernel_rfl
theorem entry_search : entryFor table "re.Pattern.search" = some Builtin.«re.Pattern.search» := entryFor_of_tree (by kernel_rfl)
theorem owner_pat : Manifest.owners.lookup (String.ofList ['n', 'r', 'e', 't', 't', 'a', 'P', '.', 'e', 'r'].reverse) = some Manifest.sig_re_Pattern := by kernel_rfl
theorem args_search (a b : Value) : argsOk "re.Pattern.search" ⟨[a, b], []⟩ := by
  unfold argsOk; rw [signature?_of (id := "re.Pattern.search") (n := ['h', 'c', 'r', 'a', 'e', 's']) (o := ['n', 'r', 'e', 't', 't', 'a', 'P', '.', 'e', 'r']) (by kernel_rfl) owner_pat]; kernel_rfl
theorem slot_group : Slot "re.Match" "group" "re.Match.group" :=
  .of (owner := "re.Match") (n := "group") (by rw [typeLookup_type, builtinLookup_eq_fast]; kernel_rfl) (by decide +kernel) (by decide +kernel) (by decide +kernel)
    (by first | exact .inl (by decide +kernel) | exact .inr (by decide +kernel)) (by rw [isSubtype_type]; kernel_rfl)
theorem type_group : typeOf (.builtin "re.Match.group") = pure (.type "method_descriptor") := by show builtinType _ = _; rw [builtinType_eq_fast]; kernel_rfl
theorem entry_group : entryFor table "re.Match.group" = some Builtin.«re.Match.group» := entryFor_of_tree (by kernel_rfl)
theorem owner_match : Manifest.owners.lookup (String.ofList ['h', 'c', 't', 'a', 'M', '.', 'e', 'r'].reverse) = some Manifest.sig_re_Match := by kernel_rfl
theorem args_group (a b : Value) : argsOk "re.Match.group" ⟨[a, b], []⟩ := by
  unfold argsOk; rw [signature?_of (id := "re.Match.group") (n := ['p', 'u', 'o', 'r', 'g']) (o := ['h', 'c', 't', 'a', 'M', '.', 'e', 'r']) (by kernel_rfl) owner_match]; kernel_rfl
end Mine
end
section
open PySem PySem.W PyProof.Rows PySem.Spec PySem.Calls
open PySem.Builtin PySem.Builtin.Re
set_option Elab.async false
set_option maxRecDepth 100000
namespace Mine
theorem runFor_done (n : Nat) (m : Sre.M) (h : m.outcome.isSome = true) : m.runFor n = m := by
  cases n with
  | zero => rfl
  | succ n => simp only [Sre.M.runFor, h, if_true]
theorem runFor_add (a b : Nat) : ∀ m : Sre.M, m.runFor (a + b) = (m.runFor a).runFor b := by
  induction a with
  | zero => intro m; rw [Nat.zero_add]; rfl
  | succ a ih =>
    intro m
    rw [Nat.succ_add]
    by_cases h : m.outcome.isSome = true
    · rw [runFor_done _ _ h, runFor_done _ _ h, runFor_done _ _ h]
    · simp only [Sre.M.runFor, h]
      exact ih _
theorem drive_run {M : Model} {A : Around} {E : Value → Shared → Prop} {s : Shared} (n : Nat) : ∀ (k : Nat) (m : Sre.M) {Q : Sre.M → Shared → Prop}, (m.runFor (4 * k)).outcome.isSome = true → Q (m.runFor (4 * k)) s → wpAny M A (reDrive (n + 1 + k) m) Q E s := by
  intro k
  induction k with
  | zero =>
    intro m Q h hq
    have hm : m.runFor reTurnSteps = m := runFor_done _ _ h
    show wpAny M A (reDrive (n + 1) m) Q E s
    unfold reDrive
    simp only [hm]
    have h' : m.outcome.isSome = true := h
    rw [if_pos h']
    exact wpAny_pure hq
  | succ k ih =>
    intro m Q h hq
    have e : m.runFor (4 * (k + 1)) = (m.runFor 4).runFor (4 * k) := by rw [Nat.mul_succ, Nat.add_comm, runFor_add]
    rw [e] at h hq
    show wpAny M A (reDrive (n + 1 + k + 1) m) Q E s
    unfold reDrive
    show wpAny M A (if (m.runFor 4).outcome.isSome = true then pure (m.runFor 4) else do rule "sre.turn"; reDrive (n + 1 + k) (m.runFor 4)) Q E s
    by_cases h4 : (m.runFor 4).outcome.isSome = true
    · rw [if_pos h4]
      rw [runFor_done _ _ h4] at hq
      exact wpAny_pure hq
    · rw [if_neg h4]
      exact wpAny_bind (wpAny_rule (ih _ h hq))
theorem rules_skip {M : Model} {A : Around} {E : Value → Shared → Prop} {s : Shared} {Q : PUnit → Shared → Prop} (c : Nat → Bool) (f : Nat → String) (h : Q () s) : ∀ l : List Nat, wpAny M A (forIn l PUnit.unit fun i _ => if c i = true then do rule (f i); pure (ForInStep.yield PUnit.unit) else pure (ForInStep.yield PUnit.unit)) Q E s := by
  intro l
  induction l with
  | nil => exact wpAny_pure h
  | cons i l ih =>
    rw [List.forIn_cons]
    refine wpAny_bind ?_
    by_cases hc : c i = true
    · rw [if_pos hc]
      exact wpAny_bind (wpAny_rule (wpAny_pure ih))
    · rw [if_neg hc]
      exact wpAny_pure ih
theorem run_matched {M : Model} {A : Around} {E : Value → Shared → Prop} {s : Shared} {Q : Option Sre.M → Shared → Prop} (k : Nat) (hk : k < 2 ^ 64) (m : Sre.M) (h : (m.runFor (4 * k)).outcome = some .matched) (hq : Q (some (m.runFor (4 * k))) s) : wpAny M A (reRunToEnd m) Q E s := by
  unfold reRunToEnd
  refine wpAny_bind ?_
  have e : 2 ^ 64 = (2 ^ 64 - 1 - k) + 1 + k := by omega
  rw [e]
  refine drive_run _ k m (by rw [h]; rfl) ?_
  refine wpAny_bind (rules_skip _ _ ?_ _)
  rw [h]
  exact wpAny_pure hq
/-- what the machine tells of three groups -/
def spanAt (m : Sre.M) (g : Nat) : Int × Int :=
  match if ((2 * g + 1 : Nat) : Int) ≤ m.lastmark then (m.marks.getD (2 * g) none, m.marks.getD (2 * g + 1) none) else (none, none) with
  | (some b, some e) => (b, e)
  | _ => (-1, -1)
def spanBad (m : Sre.M) : Bool := (List.range 3).any fun g => match m.marks.getD (2 * g) none, m.marks.getD (2 * g + 1) none with | some b, some e => ((2 * g + 1 : Nat) : Int) ≤ m.lastmark && e < b | _, _ => false
abbrev raw (i : Int) : Value := .int i 0
def spansOf (m : Sre.M) : List Int := [m.start, m.handed, (spanAt m 0).1, (spanAt m 0).2, (spanAt m 1).1, (spanAt m 1).2, (spanAt m 2).1, (spanAt m 2).2]
abbrev tupObj (l : List Int) : Obj := { cls := .type "tuple", data := .seq (l.map raw).toArray }
abbrev matchObj (x p : Value) (pos lim : Nat) (li : Int) (T : Addr) : Obj := { cls := .type "re.Match", data := .fields #[x, p, raw pos, raw lim, raw li, .ref T] }
def spansL (m : Sre.M) : List Value := (List.range 3).flatMap fun g =>
  match if ((2 * g + 1 : Nat) : Int) ≤ m.lastmark then (m.marks.getD (2 * g) none, m.marks.getD (2 * g + 1) none) else (none, none) with
  | (some b, some e) => [rawInt b, rawInt e]
  | _ => [rawInt (-1), rawInt (-1)]
theorem spansL_eq (m : Sre.M) : spansL m = [raw (spanAt m 0).1, raw (spanAt m 0).2, raw (spanAt m 1).1, raw (spanAt m 1).2, raw (spanAt m 2).1, raw (spanAt m 2).2] := by
  have e3 : List.range 3 = [0, 1, 2] := by decide
  have one : ∀ g, (match if ((2 * g + 1 : Nat) : Int) ≤ m.lastmark then (m.marks.getD (2 * g) none, m.marks.getD (2 * g + 1) none) else (none, none) with
    | (some b, some e) => [rawInt b, rawInt e]
    | _ => [rawInt (-1), rawInt (-1)]) = [raw (spanAt m g).1, raw (spanAt m g).2] := by
    intro g
    unfold spanAt
    split <;> simp_all [rawInt]
  unfold spansL
  rw [e3]
  simp only [List.flatMap_cons, List.flatMap_nil, one]
  rfl
theorem new_match {M : Model} {A : Around} {E : Value → Shared → Prop} {s : Shared} {Q : Value → Shared → Prop} (p x : Value) (pos lim : Nat) (m : Sre.M) (hb : spanBad m = false)
    (h : Q (.ref (s.heap.objs.size + 1)) { s with heap := (s.heap.push (tupObj (spansOf m))).push (matchObj x p pos lim m.lastindex s.heap.objs.size) }) : wpAny M A (reNewMatch p x 3 pos lim m) Q E s := by
  have key : wpAny M A (newTuple (rawInt m.start :: rawInt m.handed :: spansL m) >>= fun t => newFields "re.Match" [x, p, rawInt pos, rawInt lim, rawInt m.lastindex, t]) Q E s := by
    rw [spansL_eq]
    refine wpAny_bind (wpAny_newTuple ?_ (Nat.le_of_ble_eq_true rfl))
    refine wpAny_newObj_type (T := "re.Match") ?_
    have e : (s.heap.push (tupObj (spansOf m))).objs.size = s.heap.objs.size + 1 := by simp [Heap.push]
    show Q (.ref (s.heap.push (tupObj (spansOf m))).objs.size) _
    rw [e]
    exact h
  unfold reNewMatch
  show wpAny M A (if spanBad m = true then _ else (newTuple (rawInt m.start :: rawInt m.handed :: spansL m) >>= fun t => newFields "re.Match" [x, p, rawInt pos, rawInt lim, rawInt m.lastindex, t])) Q E s
  rw [hb]
  exact key
end Mine
end
section
open PySem
set_option Elab.async false
set_option maxRecDepth 100000
namespace Mine
open PySem.Sre
/-- the same machine over another text -/
def ov (c y : Array Nat) (m : Sre.M) : Sre.M := { m with code := c, text := y }
def isFew : Option Sre.Op → Bool
  | none | some .FAILURE | some .SUCCESS | some .ANY | some .ANY_ALL | some .ASSERT | some .ASSERT_NOT | some .AT | some .CATEGORY | some .CHARSET | some .IN | some .INFO | some .LITERAL | some .MARK | some .MAX_UNTIL | some .REPEAT | some .REPEAT_ONE => true
  | _ => false
structure Fits (code x y : Array Nat) : Prop where
  acc : ∀ i p seen, accepts code i (x.getD p 0) seen = accepts code i (y.getD p 0) seen
  at' : ∀ i : Nat, ops[code.getD i 0]? = some .AT → ∀ (m : Sre.M), m.code = code → m.text = x → (ov m.code y m).isAt (code.getD (i + 1) 0) = m.isAt (code.getD (i + 1) 0)
  few : ∀ i, isFew (ops[code.getD i 0]?) = true
  first : (code.getD 2 0 == 4) = false
theorem run_ov {code x y : Array Nat} (h : Fits code x y) : ∀ (n i p found : Nat) (seen : Seen), run code x i n p found seen = run code y i n p found seen := by
  intro n
  induction n with
  | zero => intros; rfl
  | succ n ih =>
    intro i p found seen
    show (do let (yes, seen) ← accepts code i (x.getD p 0) seen; if yes then run code x i n (p + 1) (found + 1) seen else pure (found, seen) : Except String (Nat × Seen)) = _
    rw [h.acc]
    simp only [ih]
    rfl
section
variable {y : Array Nat} {m : Sre.M}
theorem say_ov (b : Bool) : (ov m.code y m).say b = ov m.code y (m.say b) := rfl
theorem stick_ov (w : String) : (ov m.code y m).stick w = ov m.code y (m.stick w) := rfl
theorem attempt_ov (f : Sre.Frame) (t fr : Nat) (o : Bool) : (ov m.code y m).attempt f t fr o = ov m.code y (m.attempt f t fr o) := by
  unfold Sre.M.attempt
  show (if m.weight + 1 + f.kept.marks.size > 16777216 then _ else _) = _
  split <;> rfl
theorem putBack_ov (k : Sre.Kept) : (ov m.code y m).putBack k = ov m.code y (m.putBack k) := rfl
theorem setLoop_ov (i : Nat) (f : Sre.Loop → Sre.Loop) : (ov m.code y m).setLoop i f = ov m.code y (m.setLoop i f) := rfl
theorem mark_ov (i : Nat) : (ov m.code y m).mark i = ov m.code y (m.mark i) := rfl
theorem alternative_ov (a : Nat) (k : Sre.Kept) : (ov m.code y m).alternative a k = ov m.code y (m.alternative a k) := by
  unfold Sre.M.alternative
  show (if m.code.getD a 0 == 0 then _ else _) = _
  split
  · rfl
  · exact attempt_ov _ _ _ _
theorem afterRun_ov (w : Sre.Wait) (c : Int) (k : Sre.Kept) : (ov m.code y m).afterRun w c k = ov m.code y (m.afterRun w c k) := attempt_ov _ _ _ _
theorem afterLoop_ov (w : Sre.Wait) (i : Nat) (c : Int) (wh : Option Nat → Bool) : (ov m.code y m).afterLoop w i c wh = ov m.code y (m.afterLoop w i c wh) := attempt_ov (m := { m with inner := (m.loopAt i).outer }) _ _ _ _
theorem ov_code : (ov m.code y m).code = m.code := rfl
theorem ov_lim : (ov m.code y m).lim = m.lim := rfl
theorem ov_start : (ov m.code y m).start = m.start := rfl
theorem ov_lastStart : (ov m.code y m).lastStart = m.lastStart := rfl
theorem ov_wholeText : (ov m.code y m).wholeText = m.wholeText := rfl
theorem ov_mustAdvance : (ov m.code y m).mustAdvance = m.mustAdvance := rfl
theorem ov_pc : (ov m.code y m).pc = m.pc := rfl
theorem ov_pos : (ov m.code y m).pos = m.pos := rfl
theorem ov_handed : (ov m.code y m).handed = m.handed := rfl
theorem ov_outermost : (ov m.code y m).outermost = m.outermost := rfl
theorem ov_marks : (ov m.code y m).marks = m.marks := rfl
theorem ov_lastmark : (ov m.code y m).lastmark = m.lastmark := rfl
theorem ov_lastindex : (ov m.code y m).lastindex = m.lastindex := rfl
theorem ov_loops : (ov m.code y m).loops = m.loops := rfl
theorem ov_inner : (ov m.code y m).inner = m.inner := rfl
theorem ov_frames : (ov m.code y m).frames = m.frames := rfl
theorem ov_weight : (ov m.code y m).weight = m.weight := rfl
theorem ov_answer : (ov m.code y m).answer = m.answer := rfl
theorem ov_seen : (ov m.code y m).seen = m.seen := rfl
theorem ov_outcome : (ov m.code y m).outcome = m.outcome := rfl
theorem ov_loopAt (i : Nat) : (ov m.code y m).loopAt i = m.loopAt i := rfl
theorem ov_word (i : Nat) : (ov m.code y m).word i = m.word i := rfl
theorem ov_keep (w : Bool) : (ov m.code y m).keep w = m.keep w := rfl
theorem ov_frame (w : Sre.Wait) : (ov m.code y m).frame w = m.frame w := rfl
theorem ov_group (g : Nat) : (ov m.code y m).group? g = m.group? g := rfl
theorem ov_first : (ov m.code y m).hasFirstSet = m.hasFirstSet := rfl
theorem ite_ov {d : Array Nat} {c : Prop} [Decidable c] {a b a' b' : Sre.M} (h1 : c → a = ov d y a') (h2 : ¬ c → b = ov d y b') : (if c then a else b) = ov d y (if c then a' else b') := by
  by_cases h : c
  · rw [if_pos h, if_pos h]; exact h1 h
  · rw [if_neg h, if_neg h]; exact h2 h
theorem round_ov (w : Sre.Wait) (i : Nat) (c : Int) (g : Bool) (k : Sre.Kept) : (ov m.code y m).round w i c g k = ov m.code y (m.round w i c g k) := by
  unfold Sre.M.round
  simp only [ov_loopAt, setLoop_ov]
  exact attempt_ov _ _ _ _
theorem until_ov (g : Bool) : (ov m.code y m).until_ g = ov m.code y (m.until_ g) := by
  unfold Sre.M.until_
  simp only [ov_inner]
  cases m.inner with
  | none => rfl
  | some i =>
    simp only [ov_loopAt, ov_code, ov_pos, ov_keep, round_ov, afterLoop_ov, ← apply_ite (ov m.code y)]
    rfl
theorem possessive_ov (i : Nat) (c : Int) (b : Option Nat) : (ov m.code y m).possessive i c b = ov m.code y (m.possessive i c b) := by
  unfold Sre.M.possessive
  simp only [ov_word]
  refine ite_ov (fun _ => ?_) fun _ => ite_ov (fun _ => ?_) fun _ => ?_
  · exact attempt_ov _ _ _ _
  · exact attempt_ov _ _ _ _
  · rfl
theorem attemptAt_ov (a : Nat) (f : Bool) : (ov m.code y m).attemptAt a f = ov m.code y (m.attemptAt a f) := attempt_ov (m := { m with start := a, pos := a, lastmark := -1, lastindex := -1 }) _ _ _ _
end
section
variable {x y : Array Nat} {m : Sre.M}
theorem noFirst (h : (m.code.getD 2 0 == 4) = false) : m.hasFirstSet = false := by
  unfold Sre.M.hasFirstSet
  rw [h, Bool.and_false]
theorem attemptFrom_ov (h : (m.code.getD 2 0 == 4) = false) (a : Nat) (f : Bool) : (ov m.code y m).attemptFrom a f = ov m.code y (m.attemptFrom a f) := by
  unfold Sre.M.attemptFrom
  simp only [ov_first, noFirst h, Bool.not_false, if_true]
  exact attemptAt_ov _ _
def oneR (m : Sre.M) : Except String (Bool × Seen) → Sre.M
  | .error why => m.stick why
  | .ok (false, seen) => { m with seen }.say false
  | .ok (true, seen) => { m with seen, pc := m.pc + itemWidth m.code m.pc, pos := m.pos + 1 }
theorem oneR_ov (r : Except String (Bool × Seen)) : oneR (ov m.code y m) r = ov m.code y (oneR m r) := by
  cases r with
  | error w => rfl
  | ok p =>
    obtain ⟨b, sn⟩ := p
    cases b <;> rfl
theorem one_ov (h : Fits m.code m.text y) : (if m.pos ≥ m.lim then (ov m.code y m).say false else oneR (ov m.code y m) (accepts m.code m.pc (y.getD m.pos 0) m.seen)) =
    ov m.code y (if m.pos ≥ m.lim then m.say false else oneR m (accepts m.code m.pc (m.text.getD m.pos 0) m.seen)) := by
  refine ite_ov (fun _ => rfl) fun _ => ?_
  rw [h.acc]
  exact oneR_ov _
def atR (m : Sre.M) (k : Nat) : Except String Bool → Sre.M
  | .error why => m.stick why
  | .ok yes => let m := { m with seen := m.seen.add (43 + k) }; if yes then { m with pc := m.pc + 2 } else m.say false
theorem atR_ov (k : Nat) (r : Except String Bool) : atR (ov m.code y m) k r = ov m.code y (atR m k r) := by
  cases r with
  | error w => rfl
  | ok b => cases b <;> rfl
def repR (m : Sre.M) (least : Nat) : Except String (Nat × Seen) → Sre.M
  | .error why => m.stick why
  | .ok (n, seen) =>
    let m := { m with seen }
    if n < least then m.say false else
    let m := { m with pos := m.pos + n }
    m.afterRun .giveBack n (m.keep m.inner.isSome)
theorem repR_ov (k : Nat) (r : Except String (Nat × Seen)) : repR (ov m.code y m) k r = ov m.code y (repR m k r) := by
  cases r with
  | error w => rfl
  | ok p =>
    obtain ⟨n, sn⟩ := p
    exact ite_ov (fun _ => rfl) fun _ => afterRun_ov (m := { m with seen := sn, pos := m.pos + n }) _ _ _
theorem exec_ov (h : Fits m.code m.text y) : (ov m.code y m).exec = ov m.code y m.exec := by
  have hr : isFew (ops[m.word 0]?) = true := h.few m.pc
  unfold Sre.M.exec
  rw [ov_word]
  cases hop : ops[m.word 0]? with
  | none => rfl
  | some op =>
    rw [hop] at hr
    have ha := h.at' m.pc
    have e1 : m.code.getD m.pc 0 = m.word 0 := rfl
    rw [e1, hop] at ha
    cases op
    case FAILURE => rfl
    case SUCCESS => exact ite_ov (fun _ => rfl) fun _ => rfl
    case ANY => dsimp only; exact one_ov (m := { m with seen := m.seen.add (m.word 0) }) h
    case ANY_ALL => dsimp only; exact one_ov (m := { m with seen := m.seen.add (m.word 0) }) h
    case LITERAL => dsimp only; exact one_ov (m := { m with seen := m.seen.add (m.word 0) }) h
    case IN => dsimp only; exact one_ov (m := { m with seen := m.seen.add (m.word 0) }) h
    case AT =>
      dsimp only
      have e := ha rfl { m with seen := m.seen.add (m.word 0) } rfl rfl
      have e2 := atR_ov (y := y) (m := { m with seen := m.seen.add (m.word 0) }) (m.word 1) (({ m with seen := m.seen.add (m.word 0) } : Sre.M).isAt (m.word 1))
      refine Eq.trans ?_ e2
      have e3 : (ov m.code y { m with seen := m.seen.add (m.word 0) }).isAt (m.word 1) = ({ m with seen := m.seen.add (m.word 0) } : Sre.M).isAt (m.word 1) := e
      rw [← e3]
      rfl
    case JUMP => exact absurd hr (by decide)
    case INFO => rfl
    case MARK => exact mark_ov (m := { m with seen := m.seen.add (m.word 0) }) _
    case MAX_UNTIL => exact until_ov (m := { m with seen := m.seen.add (m.word 0), pc := m.pc + 1 }) _
    case REPEAT =>
      dsimp only
      exact attempt_ov (m := { m with seen := m.seen.add (m.word 0), loops := m.loops.push { pc := m.pc, outer := m.inner }, inner := some m.loops.size }) _ _ _ _
    case REPEAT_ONE =>
      dsimp only
      refine ite_ov (fun _ => rfl) fun _ => ?_
      exact Eq.trans (congrArg (repR (ov m.code y { m with seen := m.seen.add (m.word 0) }) (m.word 2)) (run_ov h _ _ _ _ _).symm) (repR_ov (y := y) (m := { m with seen := m.seen.add (m.word 0) }) _ _)
    case CATEGORY => rfl
    case CHARSET => rfl
    case ASSERT =>
      dsimp only
      refine ite_ov (fun _ => ite_ov (fun _ => rfl) fun _ => rfl) fun _ => ?_
      exact attempt_ov (m := { m with seen := m.seen.add (m.word 0) }) _ _ _ _
    case ASSERT_NOT =>
      dsimp only
      refine ite_ov (fun _ => ite_ov (fun _ => rfl) fun _ => rfl) fun _ => ?_
      exact attempt_ov (m := { m with seen := m.seen.add (m.word 0) }) _ _ _ _
    all_goals exact absurd hr (by decide)
def takeR (m : Sre.M) (f : Sre.Frame) : Except String (Bool × Seen) → Sre.M
  | .error why => m.stick why
  | .ok (false, seen) => { m.putBack f.kept with seen }.say false
  | .ok (true, seen) => { m.putBack f.kept with seen, pos := f.pos + 1 }.afterRun .takeMore (f.count + 1) f.kept
theorem takeR_ov (f : Sre.Frame) (r : Except String (Bool × Seen)) : takeR (ov m.code y m) f r = ov m.code y (takeR m f r) := by
  cases r with
  | error w => rfl
  | ok p =>
    obtain ⟨b, sn⟩ := p
    cases b
    · rfl
    · exact afterRun_ov (m := { m.putBack f.kept with seen := sn, pos := f.pos + 1 }) _ _ _
theorem resume_ov (h : Fits m.code m.text y) (f : Sre.Frame) (b : Bool) : (ov m.code y m).resume f b = ov m.code y (m.resume f b) := by
  unfold Sre.M.resume
  cases f.wait
  all_goals dsimp only
  case nextStart =>
    refine ite_ov (fun _ => rfl) fun _ => ite_ov (fun _ => ?_) fun _ => rfl
    exact attemptFrom_ov (m := { m with mustAdvance := false }) h.first _ _
  case nextBranch =>
    refine ite_ov (fun _ => rfl) fun _ => ?_
    exact alternative_ov (m := m.putBack f.kept) _ _
  case giveBack =>
    refine ite_ov (fun _ => rfl) fun _ => ite_ov (fun _ => rfl) fun _ => ?_
    exact afterRun_ov (m := { m.putBack f.kept with pos := f.pos - 1 }) _ _ _
  case takeMore =>
    refine ite_ov (fun _ => rfl) fun _ => ite_ov (fun _ => rfl) fun _ => ite_ov (fun _ => rfl) fun _ => ?_
    exact Eq.trans (congrArg (takeR (ov m.code y m) f) (h.acc _ _ _).symm) (takeR_ov _ _)
  case closeLoop => rfl
  case maxBelow => exact ite_ov (fun _ => rfl) fun _ => rfl
  case minBelow => exact ite_ov (fun _ => rfl) fun _ => rfl
  case maxMore =>
    refine ite_ov (fun _ => rfl) fun _ => ?_
    exact afterLoop_ov (m := ((m.setLoop f.loop fun l => { l with began := f.began }).putBack f.kept).setLoop f.loop fun l => { l with count := f.count - 1 }) _ _ _ _
  case maxTail => rfl
  case minTail =>
    refine ite_ov (fun _ => rfl) fun _ => ite_ov (fun _ => rfl) fun _ => ?_
    exact round_ov (m := ({ m with inner := some f.loop } : Sre.M).putBack f.kept) _ _ _ _ _
  case minMore => exact ite_ov (fun _ => rfl) fun _ => rfl
  case possBelow =>
    refine ite_ov (fun _ => ?_) fun _ => rfl
    exact possessive_ov _ _ _
  case possMore =>
    refine ite_ov (fun _ => ?_) fun _ => ?_
    · exact possessive_ov _ _ _
    · exact possessive_ov (m := { m.putBack f.kept with handed := f.pos }) _ _ _
  case atomic => exact ite_ov (fun _ => rfl) fun _ => rfl
  case look => exact ite_ov (fun _ => rfl) fun _ => rfl
  case lookNot => exact ite_ov (fun _ => rfl) fun _ => rfl
theorem step_ov (h : Fits m.code m.text y) : (ov m.code y m).step = ov m.code y m.step := by
  unfold Sre.M.step
  simp only [ov_outcome, ov_answer, ov_frames, ov_pc, ov_code]
  refine ite_ov (fun _ => rfl) fun _ => ?_
  cases m.answer with
  | none => exact ite_ov (fun _ => exec_ov h) fun _ => rfl
  | some b =>
    cases m.frames with
    | nil => rfl
    | cons f r => exact resume_ov (m := { m with answer := none, frames := r, weight := m.weight - (1 + f.kept.marks.size), pc := f.pc, pos := f.pos, outermost := f.outermost }) h f b
theorem Fits.self (h : Fits m.code m.text y) : Fits m.code m.text m.text := ⟨fun _ _ _ => rfl, fun _ _ k e1 e2 => by rw [← e2]; rfl, h.few, h.first⟩
theorem step_keeps (h : Fits m.code m.text y) : m.step.code = m.code ∧ m.step.text = m.text := by
  have e : m.step = ov m.code m.text m.step := step_ov h.self
  constructor
  · rw [e]; rfl
  · rw [e]; rfl
theorem runFor_ov (n : Nat) : ∀ {m : Sre.M}, Fits m.code m.text y → (ov m.code y m).runFor n = ov m.code y (m.runFor n) := by
  induction n with
  | zero => intro m _; rfl
  | succ n ih =>
    intro m h
    show (if m.outcome.isSome = true then ov m.code y m else (ov m.code y m).step.runFor n) = ov m.code y (if m.outcome.isSome = true then m else m.step.runFor n)
    refine ite_ov (fun _ => rfl) fun _ => ?_
    obtain ⟨e1, e2⟩ := step_keeps h
    rw [step_ov h]
    have := ih (m := m.step) (by rw [e1, e2]; exact h)
    rw [e1] at this
    exact this
theorem attemptFrom_ov' {code : Array Nat} (e : m.code = code) (h : (code.getD 2 0 == 4) = false) (m' : Sre.M) (e' : m' = ov code y m) (a : Nat) (f : Bool) : m'.attemptFrom a f = ov code y (m.attemptFrom a f) := by
  subst e
  subst e'
  exact attemptFrom_ov h _ _
theorem search_ov {code : Array Nat} (h : Fits code x y) (lim : Nat) : Sre.forSearch code y 3 0 lim false = ov code y (Sre.forSearch code x 3 0 lim false) := by
  unfold Sre.forSearch
  refine ite_ov (fun _ => rfl) fun _ => ?_
  refine attemptFrom_ov' (code := code) ?_ h.first _ ?_ _ _ <;> rfl
end
end Mine
end
section
open PySem PySem.W PyProof.Rows PySem.Spec PySem.Calls
open PySem.Builtin PySem.Builtin.Re
set_option Elab.async false
set_option maxRecDepth 100000
namespace Mine
def zmach (code text : Array Nat) (lim : Nat) : Sre.M := (Sre.forSearch code text 3 0 lim false).runFor (4 * 40)
def zres (m : Sre.M) : Option (List Int) := match m.outcome with
  | some .matched => if spanBad m then none else some (spansOf m)
  | _ => none
def zrun (code text : Array Nat) (lim : Nat) : Option (List Int) := zres (zmach code text lim)
theorem zres_of {m : Sre.M} {l : List Int} (h : zres m = some l) : m.outcome = some .matched ∧ spanBad m = false ∧ spansOf m = l := by
  unfold zres at h
  split at h
  · rename_i e
    cases hb : spanBad m with
    | true => rw [hb] at h; cases h
    | false => rw [hb] at h; exact ⟨e, rfl, Option.some.inj h⟩
  · cases h
theorem drive_search {M : Model} {A : Around} {E : Value → Shared → Prop} {s : Shared} {Q : Fin → Shared → Prop} (t : ReTarget) (ht : t.groups = 3) (hp : t.pos = 0) {l : List Int} (h : zrun t.code t.text t.lim = some l)
    (hq : ∀ li, Q (.done (.ret (.ref (s.heap.objs.size + 1)))) { s with heap := (s.heap.push (tupObj l)).push (matchObj t.string t.pattern 0 t.lim li s.heap.objs.size) }) :
    wpAny M A (reAnswer t (Sre.forSearch t.code t.text t.groups t.pos t.lim false)) Q E s := by
  obtain ⟨h1, h2, h3⟩ := zres_of h
  unfold reAnswer
  rw [ht, hp]
  refine wpAny_bind (run_matched 40 (by decide) _ h1 ?_)
  refine wpAny_bind (new_match _ _ _ _ _ h2 ?_)
  have h3' : spansOf (Sre.M.runFor (4 * 40) (Sre.forSearch t.code t.text 3 0 t.lim false)) = l := h3
  rw [h3']
  exact wpAny_pure (hq _)
theorem search_meets (P C : Addr) (x : Str) (t : Tok) (pt : Value) (fl : Value) (t1 t2 : Tok) (items : Array Value) (n : Nat) (code : Array Nat) (hcode : (items.map reRawOf).map (·.toNat) = code) (hx : x.cps.size < 2 ^ 62) {l : List Int} (h : zrun code x.cps x.cps.size = some l) :
    Meets («re.Pattern.search» ⟨[.ref P, .str x t], []⟩) (fun _ R s => s.heap.get? P = some { cls := .type "re.Pattern", data := .fields #[pt, fl, .int 3 t1, .none, .none, .ref C, .int 0 t2] } ∧ s.heap.get? C = some { cls := .type "tuple", data := .seq items n } ∧
      ∀ li, R (.ok (.ret (.ref (s.heap.objs.size + 1)))) { s with heap := (s.heap.push (tupObj l)).push (matchObj (.str x t) (.ref P) 0 x.cps.size li s.heap.objs.size) }) := by
  intro prog w A R s hs
  obtain ⟨hP, hC, hR⟩ := hs
  unfold «re.Pattern.search»
  refine wpAny_bind ?_
  have hn : reNamed "re.Pattern.search" "search" ["string", "pos", "endpos"] 1 [.str x t] [] = pure [some (.str x t), none, none] := rfl
  unfold reTarget
  refine wpAny_bind (wpAny_of_eq hn ?_)
  refine wpAny_bind (wpAny_pure ?_)
  refine wpAny_bind (wpAny_pure ?_)
  refine wpAny_bind (wpAny_fieldsOf hP rfl ?_)
  refine wpAny_bind (wpAny_of_eq (a := (x.cps, 0)) rfl ?_)
  have hnc : reNoCollectionInside (.str x t) 0 = pure () := rfl
  show wpAny (model prog w) A.in1 (reNoCollectionInside (.str x t) 0 >>= fun _ => (reRawItems (.ref C) >>= fun ws => pure ({ pattern := .ref P, string := .str x t, code := ws.map (·.toNat), text := x.cps, kind := 0, groups := 3, pos := min (0 : Int).toNat x.cps.size, lim := min (2 ^ 63 - 1 : Int).toNat x.cps.size } : ReTarget))) _ _ s
  refine wpAny_bind (wpAny_of_eq hnc ?_)
  refine wpAny_bind ?_
  unfold reRawItems
  refine wpAny_bind (wpAny_seqItems hC rfl (wpAny_pure (wpAny_pure ?_)))
  have hl : min (2 ^ 63 - 1 : Int).toNat x.cps.size = x.cps.size := by
    have : (2 ^ 63 - 1 : Int).toNat = 2 ^ 63 - 1 := by decide
    rw [this]; omega
  refine drive_search _ rfl rfl (l := l) ?_ fun li => ?_
  · show zrun ((items.map reRawOf).map (·.toNat)) x.cps (min (2 ^ 63 - 1 : Int).toNat x.cps.size) = some l
    rw [hl, hcode]; exact h
  · have := hR li
    show R (.ok (.ret _)) _
    show R _ { s with heap := (s.heap.push (tupObj l)).push (matchObj (.str x t) (.ref P) 0 (min (2 ^ 63 - 1 : Int).toNat x.cps.size) li s.heap.objs.size) }
    rw [hl]; exact this
section
variable {prog : Program} {w : World} {A : Around} {E : Value → Shared → Prop} {s : Shared} {K : Frag} {h₀ : Heap} {L : Addr} {m : Str → Option Value} {news : List (Addr × Obj)}
theorem call_search {P C : Addr} {x : Str} {t : Tok} {pt fl : Value} {t1 t2 : Tok} {items : Array Value} {n : Nat} {code : Array Nat} {Q : Value → Shared → Prop} {l : List Int}
    (F : Fr h₀ L s.heap m) (X : K.In h₀) (N : News h₀ L s.heap news) (hP : K.lookup P = some ⟨.type "re.Pattern", none, .fields #[pt, fl, .int 3 t1, .none, .none, .ref C, .int 0 t2], #[]⟩) (hC : K.lookup C = some ⟨.type "tuple", none, .seq items n, #[]⟩)
    (hcode : (items.map reRawOf).map (·.toNat) = code) (hx : x.cps.size < 2 ^ 62) (h : zrun code x.cps x.cps.size = some l)
    (hq : ∀ T D li h', Fr h₀ L h' m → News h₀ L h' ((D, matchObj (.str x t) (.ref P) 0 x.cps.size li T) :: (T, tupObj l) :: news) → T < D → (∀ p ∈ news, p.1 < T) → Q (.ref D) { s with heap := h' }) :
    wpAny (model prog w) A (call (.builtin "re.Pattern.search") [.ref P, .str x t]) Q E s := by
  have X' := X.keeps F.keep
  refine call_meets slot_search ⟨_, X' _ _ hP, rfl⟩ entry_search (args_search _ _) (search_meets P C x t pt fl t1 t2 items n code hcode hx h) ⟨X' _ _ hP, X' _ _ hC, fun li => ?_⟩
  have F1 := F.push (tupObj l)
  have N1 := N.push F (tupObj l)
  have e : (s.heap.push (tupObj l)).objs.size = s.heap.objs.size + 1 := by simp [Heap.push]
  have N2 := N1.push F1 (matchObj (.str x t) (.ref P) 0 x.cps.size li s.heap.objs.size)
  rw [e] at N2
  exact hq _ _ li _ (F1.push _) N2 (Nat.lt_succ_self _) fun p hp => Heap.lt_size (N p hp).1
theorem get_search {P : Addr} {data : Data} {pl : Sem Bool} {Q : Value × List Value → Shared → Prop} (F : Fr h₀ L s.heap m) (X : K.In h₀) (hP : K.lookup P = some ⟨.type "re.Pattern", none, data, #[]⟩) (h : Q (.builtin "re.Pattern.search", [.ref P]) s) :
    wpAny (model prog w) A (getMethod (.ref P) "search" pl) Q E s :=
  have X' := X.keeps F.keep
  getMethod_builtin ⟨_, X' _ _ hP, rfl⟩ attrs_pat slot_search type_search (fun a e => by cases e; exact ⟨_, X' _ _ hP, rfl⟩) h
theorem get_group {D T : Addr} {x p : Value} {pos lim : Nat} {li : Int} {pl : Sem Bool} {Q : Value × List Value → Shared → Prop} (N : News h₀ L s.heap news) (hD : (D, matchObj x p pos lim li T) ∈ news) (h : Q (.builtin "re.Match.group", [.ref D]) s) :
    wpAny (model prog w) A (getMethod (.ref D) "group" pl) Q E s :=
  getMethod_builtin ⟨_, (N _ hD).1, rfl⟩ attrs_match slot_group type_group (fun a e => by cases e; exact ⟨_, (N _ hD).1, rfl⟩) h
end
end Mine
end
section
open PySem PySem.W PyProof.Rows PySem.Spec PySem.Calls
open PySem.Builtin PySem.Builtin.Re
set_option Elab.async false
set_option maxRecDepth 100000
namespace Mine
def grp (x : Str) (b e : Int) : Option Str := if (decide (b < 0) || decide (e < 0)) = true then none else some ⟨x.cps.extract b.toNat e.toNat⟩
theorem group_meets (D T : Addr) (x : Str) (t : Tok) (p : Value) (pos lim : Nat) (li : Int) (l : List Int) (k : Nat) (u : Tok) (b e : Int) (hb : l[2 * k]? = some b) (he : l[2 * k + 1]? = some e) (hx : x.cps.size ≤ 1000) :
    Meets («re.Match.group» ⟨[.ref D, .int (k : Int) u], []⟩) (fun _ R s => s.heap.get? D = some (matchObj (.str x t) p pos lim li T) ∧ s.heap.get? T = some (tupObj l) ∧
      (match grp x b e with | none => R (.ok (.ret .none)) s | some y => R (.ok (.ret (.str y s.toks))) { s with toks := s.toks + 1 })) := by
  intro prog w A R s hs
  obtain ⟨hD, hT, hR⟩ := hs
  unfold «re.Match.group»
  have hn : noKeywords "Match.group" ⟨[.ref D, .int (k : Int) u], []⟩ = pure () := rfl
  refine wpAny_bind (wpAny_of_eq hn ?_)
  show wpAny (model prog w) A.in1 (reFound (.ref D) >>= fun x => reGroupNumber x (.int k u) >>= fun g => reGroupText x g .none >>= ret) _ _ s
  have hsp : ((l.map raw).toArray).map reRawOf = l.toArray := by
    apply Array.ext'
    simp only [Array.toList_map, List.map_map]
    have : (reRawOf ∘ raw) = fun i => i := by funext i; rfl
    rw [this]; simp
  have hk : 2 * k + 1 < l.length := by
    rcases Nat.lt_or_ge (2 * k + 1) l.length with h | h
    · exact h
    · rw [List.getElem?_eq_none h] at he; cases he
  refine wpAny_bind ?_
  unfold reFound
  refine wpAny_bind (wpAny_fieldsOf hD rfl ?_)
  refine wpAny_bind ?_
  unfold reRawItems
  refine wpAny_bind (wpAny_seqItems hT rfl (wpAny_pure ?_))
  show wpAny (model prog w) A.in1 (pure ({ fields := #[.str x t, p, raw pos, raw lim, raw li, .ref T], spans := ((l.map raw).toArray).map reRawOf } : ReFound)) _ _ s
  rw [hsp]
  refine wpAny_pure ?_
  refine wpAny_bind ?_
  unfold reGroupNumber
  refine wpAny_bind (wpAny_of_eq (a := some (k : Int)) rfl ?_)
  show wpAny (model prog w) A.in1 (asIndex (.int (k : Int) u) >>= fun i => if (decide (i < 0) || decide (2 * i ≥ (l.toArray.size : Nat))) = true then _ else pure i.toNat) _ _ s
  refine wpAny_bind (wpAny_of_eq (a := (k : Int)) rfl ?_)
  show wpAny (model prog w) A.in1 (if (decide ((k : Int) < 0) || decide (2 * (k : Int) ≥ (l.toArray.size : Nat))) = true then _ else pure (k : Int).toNat) _ _ s
  rw [if_neg (by simp; omega)]
  refine wpAny_pure ?_
  refine wpAny_bind ?_
  unfold reGroupText
  have e1 : l.toArray.getD (2 * (k : Int).toNat) (-1) = b := by
    have : (k : Int).toNat = k := rfl
    rw [this]
    simp [hb]
  have e2 : l.toArray.getD (2 * (k : Int).toNat + 1) (-1) = e := by
    have : (k : Int).toNat = k := rfl
    rw [this]
    simp [he]
  show wpAny (model prog w) A.in1 (if (decide (l.toArray.getD (2 * (k : Int).toNat) (-1) < 0) || decide (l.toArray.getD (2 * (k : Int).toNat + 1) (-1) < 0)) = true then pure .none else reTextOf (.str x t) >>= fun q => reSlice q.1 q.2 (l.toArray.getD (2 * (k : Int).toNat) (-1)).toNat (l.toArray.getD (2 * (k : Int).toNat + 1) (-1)).toNat) _ _ s
  rw [e1, e2]
  unfold grp at hR
  by_cases hc : (decide (b < 0) || decide (e < 0)) = true
  · rw [if_pos hc] at hR ⊢
    exact wpAny_pure (wpAny_pure hR)
  · rw [if_neg hc] at hR ⊢
    refine wpAny_bind (wpAny_of_eq (a := (x.cps, 0)) rfl ?_)
    show wpAny (model prog w) A.in1 (mkStr ⟨x.cps.extract b.toNat e.toNat⟩) _ _ s
    refine wpAny_mkStr (wpAny_pure hR) ?_
    show (x.cps.extract b.toNat e.toNat).size ≤ sizeLine
    have : (x.cps.extract b.toNat e.toNat).size ≤ x.cps.size := by simp; omega
    exact Nat.le_trans this (Nat.le_trans hx (by decide))
section
variable {prog : Program} {w : World} {A : Around} {E : Value → Shared → Prop} {s : Shared} {K : Frag} {h₀ : Heap} {L : Addr} {m : Str → Option Value} {news : List (Addr × Obj)}
theorem call_group_none {D T : Addr} {x : Str} {t : Tok} {p : Value} {pos lim : Nat} {li : Int} {l : List Int} {k : Nat} {g : Int} {u : Tok} {b e : Int} {Q : Value → Shared → Prop} (N : News h₀ L s.heap news := by k_asm) (hD : (D, matchObj (.str x t) p pos lim li T) ∈ news := by k_mem) (hT : (T, tupObj l) ∈ news := by k_mem)
    (hg : g = (k : Int) := by exact rfl) (hb : l[2 * k]? = some b := by exact rfl) (he : l[2 * k + 1]? = some e := by exact rfl) (hx : x.cps.size ≤ 1000 := by omega) (hv : grp x b e = none := by assumption) (h : Q .none s) : wpAny (model prog w) A (call (.builtin "re.Match.group") [.ref D, .int g u]) Q E s := by
  subst hg
  refine call_meets slot_group ⟨_, (N _ hD).1, rfl⟩ entry_group (args_group _ _) (group_meets D T x t p pos lim li l k u b e hb he hx) ⟨(N _ hD).1, (N _ hT).1, ?_⟩
  rw [hv]; exact h
theorem call_group_some {D T : Addr} {x : Str} {t : Tok} {p : Value} {pos lim : Nat} {li : Int} {l : List Int} {k : Nat} {g : Int} {u : Tok} {b e : Int} {y : Str} {Q : Value → Shared → Prop} (N : News h₀ L s.heap news := by k_asm) (hD : (D, matchObj (.str x t) p pos lim li T) ∈ news := by k_mem) (hT : (T, tupObj l) ∈ news := by k_mem)
    (hg : g = (k : Int) := by exact rfl) (hb : l[2 * k]? = some b := by exact rfl) (he : l[2 * k + 1]? = some e := by exact rfl) (hx : x.cps.size ≤ 1000 := by omega) (hv : grp x b e = some y := by assumption) (h : Q (.str y s.toks) { s with toks := s.toks + 1 }) : wpAny (model prog w) A (call (.builtin "re.Match.group") [.ref D, .int g u]) Q E s := by
  subst hg
  refine call_meets slot_group ⟨_, (N _ hD).1, rfl⟩ entry_group (args_group _ _) (group_meets D T x t p pos lim li l k u b e hb he hx) ⟨(N _ hD).1, (N _ hT).1, ?_⟩
  rw [hv]; exact h
theorem noBool_match : typeLookup (.type "re.Match") "__bool__" = pure none := by rw [typeLookup_type, builtinLookup_eq_fast]; kernel_rfl
theorem noLen_match : typeLookup (.type "re.Match") "__len__" = pure none := by rw [typeLookup_type, builtinLookup_eq_fast]; kernel_rfl
theorem truthy_match {D T : Addr} {x p : Value} {pos lim : Nat} {li : Int} {Q : Bool → Shared → Prop} (N : News h₀ L s.heap news) (hD : (D, matchObj x p pos lim li T) ∈ news) (h : Q true s) : wpAny (model prog w) A (truthy (.ref D)) Q E s := by
  have hT : s.TypeIs (.ref D) "re.Match" := ⟨_, (N _ hD).1, rfl⟩
  unfold truthy
  first
    | refine wpAny_bind (wpAny_callSpecial?_none (name := Str.ofString "__bool__") hT noBool_match ?_)
    | refine wpAny_bind (wpAny_pure (wpAny_bind (wpAny_callSpecial?_none (name := Str.ofString "__bool__") hT noBool_match ?_)))
  first
    | refine wpAny_bind (wpAny_specialOf (name := Str.ofString "__len__") hT noLen_match ?_)
    | refine wpAny_bind (wpAny_pure (wpAny_bind (wpAny_specialOf (name := Str.ofString "__len__") hT noLen_match ?_)))
  exact wpAny_pure h
end
end Mine
end
section
open PySem PySem.W PyProof.Rows PySem.Spec PySem.Calls
set_option Elab.async false
set_option maxRecDepth 100000
set_option maxHeartbeats 8000000
namespace Mine
def p0 : Params := { strHash := fun _ => 0, shareClass := fun _ => 0, mergeTok := fun t => t, idOf := fun _ => 0, idOfShared := fun _ _ => 0, followText := fun _ => false, idOfImm := fun _ => 0 }
def codeOf (o : Option Obj) : Array Nat := match o with
  | some ⟨_, _, .seq xs _, _⟩ => (xs.map Builtin.Re.reRawOf).map Int.toNat
  | _ => #[]
noncomputable def zcode : Array Nat := codeOf ((hd.heap_39 p0).lookup 36)
def isUtc (x : Str) : Bool := decide (x = { cps := #[71, 77, 84] }) || (decide (x = { cps := #[85, 84, 67] }) || (decide (x = { cps := #[85, 84] }) || (decide (x = { cps := #[90] }) || false)))
/-- the group's minutes: none, or what its text reads -/
def MinIs (g : Option Str) (m : Int) : Prop := match g with
  | none => m = 0
  | some y => PySem.intText? y = some m ∧ 0 < y.length ∧ y.length ≤ 16
def signed (g : Option Str) (o : Int) : Int := match g with
  | none => o
  | some y => if (y == Str.ofString "-") = true then -o else o
theorem off_zone (w : World) (x : Str) (t : Tok) (v H M : Int) (y2 : Str) (s0 e0 b1 e1 b2 e2 b3 e3 : Int) (g1 g3 : Option Str) (hz : isUtc x = false) (hs : x.cps.size ≤ 16) (hr : zrun zcode x.cps x.cps.size = some [s0, e0, b1, e1, b2, e2, b3, e3])
    (h2 : grp x b2 e2 = some y2) (hl2 : y2.length ≤ 16) (hi2 : PySem.intText? y2 = some H) (h1 : grp x b1 e1 = g1) (h3 : grp x b3 e3 = g3) (hl1 : ∀ y, g1 = some y → y.length ≤ 16) (hm : MinIs g3 M) (hH : 0 ≤ H) (hH' : H < 100) (hM : 0 ≤ M) (hM' : M < 100) (hv : v = signed g1 (3600 * H + 60 * M)) :
   Con (RowW.prog (OpenRow.toRowW (OpenLaw.row PySem.Challenge.rw_xg0011_02))) w (hd.heap_39 w.params) hd.view_39 (looseW hd.view_39 [Str.ofString "UTC_ZONES", Str.ofString "TIMEZONE_RE"]) 44 [.str x t] 2 16 (fun _ _ => True) (OutI v) := by
  cases g1 with
  | none =>
    cases g3 with
    | none =>
      w_top off
      k_with_none
      k_fill
      unfold Con
      intro mean mg mb dp un gd cn cs aa ccd cl outer A₀ base h₀ L m news s Q E B F X N T hk hin hd hu hret
      refine wpAny_call ?_
      k_dflt cell_enter
      have hlt := lt_of_news ‹News _ _ _ news›
      repeat' (first
        | (k_unfold; (try dsimp only))
        | (k_end; wrow_close)
        | ((k_here; (with_reducible show wpAny _ _ (getMethod (Value.ref _) (PySem.Str.ofString "group") _) _ _ _); k_dflt (refine' get_group ?N ?l ?_; (case N => k_asm); (case l => k_mem))))
        | ((k_here; (with_reducible show wpAny _ _ (call (Value.builtin "re.Match.group") [Value.ref _, Value.int _ _]) _ _ _); k_dflt first | (refine' call_group_none (k := 1) ?N ?lD ?lT ?kg ?kb ?ke ?kx ?kv ?_; (case N => k_asm); (case lD => k_mem); (case lT => k_mem); (case kg => exact rfl); (case kb => exact rfl); (case ke => exact rfl); (case kx => omega); (case kv => assumption)) | (refine' call_group_some (k := 1) ?N ?lD ?lT ?kg ?kb ?ke ?kx ?kv ?_; (case N => k_asm); (case lD => k_mem); (case lT => k_mem); (case kg => exact rfl); (case kb => exact rfl); (case ke => exact rfl); (case kx => omega); (case kv => assumption)) | (refine' call_group_none (k := 2) ?N ?lD ?lT ?kg ?kb ?ke ?kx ?kv ?_; (case N => k_asm); (case lD => k_mem); (case lT => k_mem); (case kg => exact rfl); (case kb => exact rfl); (case ke => exact rfl); (case kx => omega); (case kv => assumption)) | (refine' call_group_some (k := 2) ?N ?lD ?lT ?kg ?kb ?ke ?kx ?kv ?_; (case N => k_asm); (case lD => k_mem); (case lT => k_mem); (case kg => exact rfl); (case kb => exact rfl); (case ke => exact rfl); (case kx => omega); (case kv => assumption)) | (refine' call_group_none (k := 3) ?N ?lD ?lT ?kg ?kb ?ke ?kx ?kv ?_; (case N => k_asm); (case lD => k_mem); (case lT => k_mem); (case kg => exact rfl); (case kb => exact rfl); (case ke => exact rfl); (case kx => omega); (case kv => assumption)) | (refine' call_group_some (k := 3) ?N ?lD ?lT ?kg ?kb ?ke ?kx ?kv ?_; (case N => k_asm); (case lD => k_mem); (case lT => k_mem); (case kg => exact rfl); (case kb => exact rfl); (case ke => exact rfl); (case kx => omega); (case kv => assumption))))
        | ((k_here; (with_reducible show wpAny _ _ (truthy (Value.ref _)) _ _ _); k_dflt (refine' truthy_match ?N ?l ?_; (case N => k_asm); (case l => k_mem))))
        | ((k_here; (with_reducible show wpAny _ _ (call (Value.builtin "re.Pattern.search") [Value.ref _, Value.str _ _]) _ _ _); k_dflt (refine' call_search (code := zcode) ?F ?X ?N ?lp ?lc ?kc ?kx ?kz ?_; (case F => k_asm); (case X => k_asm); (case N => k_asm); (case lp => k_is); (case lc => k_is); (case kc => exact rfl); (case kx => omega); (case kz => assumption)); intro T' D' li' h' F' N' hTD' hT'; (try dsimp only)))
        | ((k_here; (with_reducible show wpAny _ _ (getMethod (Value.ref _) (PySem.Str.ofString "search") _) _ _ _); k_dflt (refine' get_search ?F ?X ?l ?_; (case F => k_asm); (case X => k_asm); (case l => k_is))))
        | (walk1 <;> (try dsimp only))
        | (dsimp only; walk1)
        | (leave1; walk_say "STEP leave1"; try dsimp only))
      · exact absurd (show isUtc x = true by assumption) (by rw [hz]; decide)
      all_goals exact end_I (news := news) hret (by k_asm) (by assumption) (by intro p hp; k_ownIn) (by first
          | (simp only [MinIs] at hm; simp only [signed] at hv; omega)
          | (simp only [signed] at hv; omega)
          | (simp only [MinIs] at hm; have hq : (y1 == Str.ofString "-") = true := (by assumption); simp only [signed, hq, if_true] at hv; omega)
          | (simp only [MinIs] at hm; have hq : (y1 == Str.ofString "-") = false := (by assumption); simp only [signed, hq, Bool.false_eq_true, if_false] at hv; omega)
          | (have hq : (y1 == Str.ofString "-") = true := (by assumption); simp only [signed, hq, if_true] at hv; omega)
          | (have hq : (y1 == Str.ofString "-") = false := (by assumption); simp only [signed, hq, Bool.false_eq_true, if_false] at hv; omega))
    | some y3 =>
      obtain ⟨hm1, hm2, hm3⟩ := hm
      k_fill
      unfold Con
      intro mean mg mb dp un gd cn cs aa ccd cl outer A₀ base h₀ L m news s Q E B F X N T hk hin hd hu hret
      refine wpAny_call ?_
      k_dflt cell_enter
      have hlt := lt_of_news ‹News _ _ _ news›
      repeat' (first
        | (k_unfold; (try dsimp only))
        | (k_end; wrow_close)
        | ((k_here; (with_reducible show wpAny _ _ (getMethod (Value.ref _) (PySem.Str.ofString "group") _) _ _ _); k_dflt (refine' get_group ?N ?l ?_; (case N => k_asm); (case l => k_mem))))
        | ((k_here; (with_reducible show wpAny _ _ (call (Value.builtin "re.Match.group") [Value.ref _, Value.int _ _]) _ _ _); k_dflt first | (refine' call_group_none (k := 1) ?N ?lD ?lT ?kg ?kb ?ke ?kx ?kv ?_; (case N => k_asm); (case lD => k_mem); (case lT => k_mem); (case kg => exact rfl); (case kb => exact rfl); (case ke => exact rfl); (case kx => omega); (case kv => assumption)) | (refine' call_group_some (k := 1) ?N ?lD ?lT ?kg ?kb ?ke ?kx ?kv ?_; (case N => k_asm); (case lD => k_mem); (case lT => k_mem); (case kg => exact rfl); (case kb => exact rfl); (case ke => exact rfl); (case kx => omega); (case kv => assumption)) | (refine' call_group_none (k := 2) ?N ?lD ?lT ?kg ?kb ?ke ?kx ?kv ?_; (case N => k_asm); (case lD => k_mem); (case lT => k_mem); (case kg => exact rfl); (case kb => exact rfl); (case ke => exact rfl); (case kx => omega); (case kv => assumption)) | (refine' call_group_some (k := 2) ?N ?lD ?lT ?kg ?kb ?ke ?kx ?kv ?_; (case N => k_asm); (case lD => k_mem); (case lT => k_mem); (case kg => exact rfl); (case kb => exact rfl); (case ke => exact rfl); (case kx => omega); (case kv => assumption)) | (refine' call_group_none (k := 3) ?N ?lD ?lT ?kg ?kb ?ke ?kx ?kv ?_; (case N => k_asm); (case lD => k_mem); (case lT => k_mem); (case kg => exact rfl); (case kb => exact rfl); (case ke => exact rfl); (case kx => omega); (case kv => assumption)) | (refine' call_group_some (k := 3) ?N ?lD ?lT ?kg ?kb ?ke ?kx ?kv ?_; (case N => k_asm); (case lD => k_mem); (case lT => k_mem); (case kg => exact rfl); (case kb => exact rfl); (case ke => exact rfl); (case kx => omega); (case kv => assumption))))
        | ((k_here; (with_reducible show wpAny _ _ (truthy (Value.ref _)) _ _ _); k_dflt (refine' truthy_match ?N ?l ?_; (case N => k_asm); (case l => k_mem))))
        | ((k_here; (with_reducible show wpAny _ _ (call (Value.builtin "re.Pattern.search") [Value.ref _, Value.str _ _]) _ _ _); k_dflt (refine' call_search (code := zcode) ?F ?X ?N ?lp ?lc ?kc ?kx ?kz ?_; (case F => k_asm); (case X => k_asm); (case N => k_asm); (case lp => k_is); (case lc => k_is); (case kc => exact rfl); (case kx => omega); (case kz => assumption)); intro T' D' li' h' F' N' hTD' hT'; (try dsimp only)))
        | ((k_here; (with_reducible show wpAny _ _ (getMethod (Value.ref _) (PySem.Str.ofString "search") _) _ _ _); k_dflt (refine' get_search ?F ?X ?l ?_; (case F => k_asm); (case X => k_asm); (case l => k_is))))
        | (walk1 <;> (try dsimp only))
        | (dsimp only; walk1)
        | (leave1; walk_say "STEP leave1"; try dsimp only))
      · exact absurd (show isUtc x = true by assumption) (by rw [hz]; decide)
      all_goals exact end_I (news := news) hret (by k_asm) (by assumption) (by intro p hp; k_ownIn) (by first
          | (simp only [MinIs] at hm; simp only [signed] at hv; omega)
          | (simp only [signed] at hv; omega)
          | (simp only [MinIs] at hm; have hq : (y1 == Str.ofString "-") = true := (by assumption); simp only [signed, hq, if_true] at hv; omega)
          | (simp only [MinIs] at hm; have hq : (y1 == Str.ofString "-") = false := (by assumption); simp only [signed, hq, Bool.false_eq_true, if_false] at hv; omega)
          | (have hq : (y1 == Str.ofString "-") = true := (by assumption); simp only [signed, hq, if_true] at hv; omega)
          | (have hq : (y1 == Str.ofString "-") = false := (by assumption); simp only [signed, hq, Bool.false_eq_true, if_false] at hv; omega))
  | some y1 =>
    have hl1' := hl1 y1 rfl
    cases g3 with
    | none =>
      k_fill
      unfold Con
      intro mean mg mb dp un gd cn cs aa ccd cl outer A₀ base h₀ L m news s Q E B F X N T hk hin hd hu hret
      refine wpAny_call ?_
      k_dflt cell_enter
      have hlt := lt_of_news ‹News _ _ _ news›
      repeat' (first
        | (k_unfold; (try dsimp only))
        | (k_end; wrow_close)
        | ((k_here; (with_reducible show wpAny _ _ (getMethod (Value.ref _) (PySem.Str.ofString "group") _) _ _ _); k_dflt (refine' get_group ?N ?l ?_; (case N => k_asm); (case l => k_mem))))
        | ((k_here; (with_reducible show wpAny _ _ (call (Value.builtin "re.Match.group") [Value.ref _, Value.int _ _]) _ _ _); k_dflt first | (refine' call_group_none (k := 1) ?N ?lD ?lT ?kg ?kb ?ke ?kx ?kv ?_; (case N => k_asm); (case lD => k_mem); (case lT => k_mem); (case kg => exact rfl); (case kb => exact rfl); (case ke => exact rfl); (case kx => omega); (case kv => assumption)) | (refine' call_group_some (k := 1) ?N ?lD ?lT ?kg ?kb ?ke ?kx ?kv ?_; (case N => k_asm); (case lD => k_mem); (case lT => k_mem); (case kg => exact rfl); (case kb => exact rfl); (case ke => exact rfl); (case kx => omega); (case kv => assumption)) | (refine' call_group_none (k := 2) ?N ?lD ?lT ?kg ?kb ?ke ?kx ?kv ?_; (case N => k_asm); (case lD => k_mem); (case lT => k_mem); (case kg => exact rfl); (case kb => exact rfl); (case ke => exact rfl); (case kx => omega); (case kv => assumption)) | (refine' call_group_some (k := 2) ?N ?lD ?lT ?kg ?kb ?ke ?kx ?kv ?_; (case N => k_asm); (case lD => k_mem); (case lT => k_mem); (case kg => exact rfl); (case kb => exact rfl); (case ke => exact rfl); (case kx => omega); (case kv => assumption)) | (refine' call_group_none (k := 3) ?N ?lD ?lT ?kg ?kb ?ke ?kx ?kv ?_; (case N => k_asm); (case lD => k_mem); (case lT => k_mem); (case kg => exact rfl); (case kb => exact rfl); (case ke => exact rfl); (case kx => omega); (case kv => assumption)) | (refine' call_group_some (k := 3) ?N ?lD ?lT ?kg ?kb ?ke ?kx ?kv ?_; (case N => k_asm); (case lD => k_mem); (case lT => k_mem); (case kg => exact rfl); (case kb => exact rfl); (case ke => exact rfl); (case kx => omega); (case kv => assumption))))
        | ((k_here; (with_reducible show wpAny _ _ (truthy (Value.ref _)) _ _ _); k_dflt (refine' truthy_match ?N ?l ?_; (case N => k_asm); (case l => k_mem))))
        | ((k_here; (with_reducible show wpAny _ _ (call (Value.builtin "re.Pattern.search") [Value.ref _, Value.str _ _]) _ _ _); k_dflt (refine' call_search (code := zcode) ?F ?X ?N ?lp ?lc ?kc ?kx ?kz ?_; (case F => k_asm); (case X => k_asm); (case N => k_asm); (case lp => k_is); (case lc => k_is); (case kc => exact rfl); (case kx => omega); (case kz => assumption)); intro T' D' li' h' F' N' hTD' hT'; (try dsimp only)))
        | ((k_here; (with_reducible show wpAny _ _ (getMethod (Value.ref _) (PySem.Str.ofString "search") _) _ _ _); k_dflt (refine' get_search ?F ?X ?l ?_; (case F => k_asm); (case X => k_asm); (case l => k_is))))
        | (walk1 <;> (try dsimp only))
        | (dsimp only; walk1)
        | (leave1; walk_say "STEP leave1"; try dsimp only))
      · exact absurd (show isUtc x = true by assumption) (by rw [hz]; decide)
      all_goals exact end_I (news := news) hret (by k_asm) (by assumption) (by intro p hp; k_ownIn) (by first
          | (simp only [MinIs] at hm; simp only [signed] at hv; omega)
          | (simp only [signed] at hv; omega)
          | (simp only [MinIs] at hm; have hq : (y1 == Str.ofString "-") = true := (by assumption); simp only [signed, hq, if_true] at hv; omega)
          | (simp only [MinIs] at hm; have hq : (y1 == Str.ofString "-") = false := (by assumption); simp only [signed, hq, Bool.false_eq_true, if_false] at hv; omega)
          | (have hq : (y1 == Str.ofString "-") = true := (by assumption); simp only [signed, hq, if_true] at hv; omega)
          | (have hq : (y1 == Str.ofString "-") = false := (by assumption); simp only [signed, hq, Bool.false_eq_true, if_false] at hv; omega))
    | some y3 =>
      obtain ⟨hm1, hm2, hm3⟩ := hm
      k_fill
      unfold Con
      intro mean mg mb dp un gd cn cs aa ccd cl outer A₀ base h₀ L m news s Q E B F X N T hk hin hd hu hret
      refine wpAny_call ?_
      k_dflt cell_enter
      have hlt := lt_of_news ‹News _ _ _ news›
      repeat' (first
        | (k_unfold; (try dsimp only))
        | (k_end; wrow_close)
        | ((k_here; (with_reducible show wpAny _ _ (getMethod (Value.ref _) (PySem.Str.ofString "group") _) _ _ _); k_dflt (refine' get_group ?N ?l ?_; (case N => k_asm); (case l => k_mem))))
        | ((k_here; (with_reducible show wpAny _ _ (call (Value.builtin "re.Match.group") [Value.ref _, Value.int _ _]) _ _ _); k_dflt first | (refine' call_group_none (k := 1) ?N ?lD ?lT ?kg ?kb ?ke ?kx ?kv ?_; (case N => k_asm); (case lD => k_mem); (case lT => k_mem); (case kg => exact rfl); (case kb => exact rfl); (case ke => exact rfl); (case kx => omega); (case kv => assumption)) | (refine' call_group_some (k := 1) ?N ?lD ?lT ?kg ?kb ?ke ?kx ?kv ?_; (case N => k_asm); (case lD => k_mem); (case lT => k_mem); (case kg => exact rfl); (case kb => exact rfl); (case ke => exact rfl); (case kx => omega); (case kv => assumption)) | (refine' call_group_none (k := 2) ?N ?lD ?lT ?kg ?kb ?ke ?kx ?kv ?_; (case N => k_asm); (case lD => k_mem); (case lT => k_mem); (case kg => exact rfl); (case kb => exact rfl); (case ke => exact rfl); (case kx => omega); (case kv => assumption)) | (refine' call_group_some (k := 2) ?N ?lD ?lT ?kg ?kb ?ke ?kx ?kv ?_; (case N => k_asm); (case lD => k_mem); (case lT => k_mem); (case kg => exact rfl); (case kb => exact rfl); (case ke => exact rfl); (case kx => omega); (case kv => assumption)) | (refine' call_group_none (k := 3) ?N ?lD ?lT ?kg ?kb ?ke ?kx ?kv ?_; (case N => k_asm); (case lD => k_mem); (case lT => k_mem); (case kg => exact rfl); (case kb => exact rfl); (case ke => exact rfl); (case kx => omega); (case kv => assumption)) | (refine' call_group_some (k := 3) ?N ?lD ?lT ?kg ?kb ?ke ?kx ?kv ?_; (case N => k_asm); (case lD => k_mem); (case lT => k_mem); (case kg => exact rfl); (case kb => exact rfl); (case ke => exact rfl); (case kx => omega); (case kv => assumption))))
        | ((k_here; (with_reducible show wpAny _ _ (truthy (Value.ref _)) _ _ _); k_dflt (refine' truthy_match ?N ?l ?_; (case N => k_asm); (case l => k_mem))))
        | ((k_here; (with_reducible show wpAny _ _ (call (Value.builtin "re.Pattern.search") [Value.ref _, Value.str _ _]) _ _ _); k_dflt (refine' call_search (code := zcode) ?F ?X ?N ?lp ?lc ?kc ?kx ?kz ?_; (case F => k_asm); (case X => k_asm); (case N => k_asm); (case lp => k_is); (case lc => k_is); (case kc => exact rfl); (case kx => omega); (case kz => assumption)); intro T' D' li' h' F' N' hTD' hT'; (try dsimp only)))
        | ((k_here; (with_reducible show wpAny _ _ (getMethod (Value.ref _) (PySem.Str.ofString "search") _) _ _ _); k_dflt (refine' get_search ?F ?X ?l ?_; (case F => k_asm); (case X => k_asm); (case l => k_is))))
        | (walk1 <;> (try dsimp only))
        | (dsimp only; walk1)
        | (leave1; walk_say "STEP leave1"; try dsimp only))
      · exact absurd (show isUtc x = true by assumption) (by rw [hz]; decide)
      all_goals exact end_I (news := news) hret (by k_asm) (by assumption) (by intro p hp; k_ownIn) (by first
          | (simp only [MinIs] at hm; simp only [signed] at hv; omega)
          | (simp only [signed] at hv; omega)
          | (simp only [MinIs] at hm; have hq : (y1 == Str.ofString "-") = true := (by assumption); simp only [signed, hq, if_true] at hv; omega)
          | (simp only [MinIs] at hm; have hq : (y1 == Str.ofString "-") = false := (by assumption); simp only [signed, hq, Bool.false_eq_true, if_false] at hv; omega)
          | (have hq : (y1 == Str.ofString "-") = true := (by assumption); simp only [signed, hq, if_true] at hv; omega)
          | (have hq : (y1 == Str.ofString "-") = false := (by assumption); simp only [signed, hq, Bool.false_eq_true, if_false] at hv; omega))
end Mine
end
section
open PySem PySem.W PyProof.Rows PySem.Spec PySem.Calls
set_option Elab.async false
set_option maxRecDepth 100000
set_option maxHeartbeats 8000000
namespace Mine
theorem root_next {n r : Int} (h : 0 ≤ r) (h1 : r ≤ 12) (hn : n ≤ 168) (ht : (r + 1) * (r + 1) ≤ n) : r + 1 ≤ 12 := by
  by_cases e : r = 12
  · subst e
    have : ((12 : Int) + 1) * (12 + 1) = 169 := by decide
    omega
  · omega
def rootOf (n : Int) : Int := (((List.range 14).filter fun r => decide (((r : Nat) : Int) * ((r : Nat) : Int) ≤ n)).length : Int) - 1
theorem root_tab : ∀ n ∈ List.range 169, ∀ r ∈ List.range 13, (!(decide (((r : Nat) : Int) * (r : Nat) ≤ ((n : Nat) : Int)) && decide (((n : Nat) : Int) < (((r : Nat) : Int) + 1) * (((r : Nat) : Int) + 1))) || decide (rootOf ((n : Nat) : Int) = ((r : Nat) : Int))) = true := by decide +kernel
theorem root_eq {n r : Int} (h : 0 ≤ r) (h1 : r ≤ 12) (hn0 : 0 ≤ n) (hn : n ≤ 168) (hl : r * r ≤ n) (hu : ¬ (r + 1) * (r + 1) ≤ n) : r = rootOf n := by
  obtain ⟨a, rfl⟩ := Int.eq_ofNat_of_zero_le h
  obtain ⟨b, rfl⟩ := Int.eq_ofNat_of_zero_le hn0
  have := root_tab b (List.mem_range.mpr (by omega)) a (List.mem_range.mpr (by omega))
  rw [decide_eq_true hl, decide_eq_true (show (b : Int) < ((a : Int) + 1) * ((a : Int) + 1) by omega)] at this
  have h9 : rootOf (b : Int) = (a : Int) := by simpa using this
  exact h9.symm
local macro_rules | `(tactic| walk_at "exec While Compare cons nil") => `(tactic| k_extra "exec While Compare cons nil")
theorem root_con (w : World) (n : Int) (t : Tok) (h0 : 0 ≤ n) (h1 : n ≤ 168) : Con (RowW.prog (OpenRow.toRowW (OpenLaw.row PySem.Challenge.rw_xg0011_02))) w (hd.heap_39 w.params) hd.view_39 (looseW hd.view_39 [Str.ofString "UTC_ZONES", Str.ofString "TIMEZONE_RE"]) 72 [.int n t] 1 32 (fun _ _ => True) (OutI (rootOf n)) := by
  w_top off
  k_with_none
  k_fill
  unfold Con
  intro mean mg mb dp un gd cn cs aa ccd cl outer A₀ base h₀ L m news s Q E B F X N T hk hin hd hu hret
  refine wpAny_call ?_
  k_dflt cell_enter
  have hlt := lt_of_news ‹News _ _ _ news›
  (k_with "exec While Compare cons nil" => k_while_given ["number"] (fun number _ r => 0 ≤ r ∧ r ≤ 12 ∧ r * r ≤ number) (fun _ _ r => (13 - r).toNat) "root")
  (k_with "state" => first | exact ⟨by decide, by decide, by omega⟩ | exact ⟨by omega, root_next (by assumption) (by assumption) h1 (by assumption), by assumption⟩)
  repeat' (first | (k_unfold; (try dsimp only)) | (k_end; wrow_close) | (walk1 <;> (try dsimp only)) | (dsimp only; walk1) | (leave1; walk_say "STEP leave1"; try dsimp only))
  all_goals exact end_I (news := news) hret (by k_asm) (by assumption) (by intro p hp; k_ownIn) (root_eq (by assumption) (by assumption) h0 h1 (by assumption) (by assumption))
def textT (hours minutes look : Int) (sign : Str) : Str :=
  sign ++ (if look.fdiv 4 = 1 then (if (look.fdiv 2).fmod 2 = 1 then Txt.slice (Str.ofString "0" ++ Str.ofString (toString hours)) (some (-2)) none else Str.ofString (toString hours)) ++ Str.ofString ":" else (if (look.fdiv 2).fmod 2 = 1 then Txt.slice (Str.ofString "0" ++ Str.ofString (toString hours)) (some (-2)) none else Str.ofString (toString hours))) ++ Txt.slice (Str.ofString "0" ++ Str.ofString (toString minutes)) (some (-2)) none
theorem text_con (w : World) (hours minutes look : Int) (sign : Str) (t1 t2 t3 t4 : Tok) (h0 : 0 ≤ hours) (h1 : hours ≤ 50) (m0 : 0 ≤ minutes) (m1 : minutes < 60) (l0 : 0 ≤ look) (l1 : look < 8) (hs : sign.length ≤ 1) : Con (RowW.prog (OpenRow.toRowW (OpenLaw.row PySem.Challenge.rw_xg0011_02))) w (hd.heap_39 w.params) hd.view_39 (looseW hd.view_39 [Str.ofString "UTC_ZONES", Str.ofString "TIMEZONE_RE"]) 91 [.int hours t1, .int minutes t2, .int look t3, .str sign t4] 1 8 (fun _ _ => True) (OutS (textT hours minutes look sign)) := by
  k_fill
  unfold Con
  intro mean mg mb dp un gd cn cs aa ccd cl outer A₀ base h₀ L m news s Q E B F X N T hk hin hd hu hret
  refine wpAny_call ?_
  k_dflt cell_enter
  have hlt := lt_of_news ‹News _ _ _ news›
  repeat' (first | (k_unfold; (try dsimp only)) | (k_end; wrow_close) | (walk1 <;> (try dsimp only)) | (dsimp only; walk1) | (leave1; walk_say "STEP leave1"; try dsimp only))
  all_goals (
    refine end_S (news := news) hret (by k_asm) (by assumption) (by intro p hp; k_ownIn) ?_
    unfold textT
    (first | (have q2 : look.fdiv 4 = 1 := (by assumption); rw [if_pos q2]) | (have q2 : look.fdiv 4 ≠ 1 := (by assumption); rw [if_neg q2]))
    (first | (have q3 : (look.fdiv 2).fmod 2 = 1 := (by assumption); rw [if_pos q3]) | (have q3 : (look.fdiv 2).fmod 2 ≠ 1 := (by assumption); rw [if_neg q3])))
theorem gcd_step {a b : Int} (a0 : 0 ≤ a) (b0 : 0 ≤ b) : Int.gcd b (a.fmod b) = Int.gcd a b := by
  rw [Int.fmod_eq_emod_of_nonneg _ b0]
  obtain ⟨x, rfl⟩ := Int.eq_ofNat_of_zero_le a0
  obtain ⟨y, rfl⟩ := Int.eq_ofNat_of_zero_le b0
  show Nat.gcd y (x % y) = Nat.gcd x y
  rw [Nat.gcd_comm x y, Nat.gcd_rec y x, Nat.gcd_comm]
def GInv (a b x y : Int) : Prop := Int.gcd x y = Int.gcd a b
theorem g_next {a b x y : Int} (x0 : 0 ≤ x) (y0 : 0 ≤ y) (y1 : y ≤ 100000) (hy : y ≠ 0) (h : GInv a b x y) : 0 ≤ y ∧ y ≤ 100000 ∧ 0 ≤ x.fmod y ∧ x.fmod y ≤ 100000 ∧ GInv a b y (x.fmod y) := by
  have e : x.fmod y = x % y := Int.fmod_eq_emod_of_nonneg _ y0
  have h1 := Int.emod_nonneg x hy
  have h2 := Int.emod_lt_of_pos x (show 0 < y by omega)
  exact ⟨y0, y1, by omega, by omega, (gcd_step x0 y0).trans h⟩
theorem g_meas {x y : Int} (y0 : 0 ≤ y) (hy : y ≠ 0) : (x.fmod y).toNat < y.toNat := by
  have e : x.fmod y = x % y := Int.fmod_eq_emod_of_nonneg _ y0
  have h1 := Int.emod_nonneg x hy
  have h2 := Int.emod_lt_of_pos x (show 0 < y by omega)
  omega
theorem g_end {a b x y : Int} (x0 : 0 ≤ x) (hy : y = 0) (h : GInv a b x y) : (x == 1) = decide (Int.gcd a b = 1) := by
  subst hy
  unfold GInv at h
  rw [Int.gcd_zero_right] at h
  rw [← h]
  by_cases e : x = 1
  · subst e; rfl
  · have : ¬ x.natAbs = 1 := by omega
    rw [decide_eq_false this]
    simpa using e
theorem strangers_con (w : World) (a b : Int) (t u : Tok) (a0 : 0 ≤ a) (a1 : a ≤ 100000) (b0 : 0 ≤ b) (b1 : b ≤ 100000) : Con (RowW.prog (OpenRow.toRowW (OpenLaw.row PySem.Challenge.rw_xg0011_02))) w (hd.heap_39 w.params) hd.view_39 (looseW hd.view_39 [Str.ofString "UTC_ZONES", Str.ofString "TIMEZONE_RE"]) 105 [.int a t, .int b u] 1 32 (fun _ _ => True) (OutB (decide (Int.gcd a b = 1))) := by
  k_fill
  unfold Con
  intro mean mg mb dp un gd cn cs aa ccd cl outer A₀ base h₀ L m news s Q E B F X N T hk hin hd hu hret
  refine wpAny_call ?_
  k_dflt cell_enter
  have hlt := lt_of_news ‹News _ _ _ news›
  (k_with "exec While Compare cons nil" => k_while (fun _ x y => 0 ≤ x ∧ x ≤ 100000 ∧ 0 ≤ y ∧ y ≤ 100000 ∧ GInv a b x y) (fun _ _ y => y.toNat) "a" "b")
  (k_with "state" => first | exact ⟨a0, a1, b0, b1, rfl⟩ | exact g_next (by assumption) (by assumption) (by assumption) (by assumption) (by assumption))
  (k_with "measure" => exact g_meas (by assumption) (by assumption))
  repeat' (first | (k_unfold; (try dsimp only)) | (k_end; wrow_close) | (walk1 <;> (try dsimp only)) | (dsimp only; walk1) | (leave1; walk_say "STEP leave1"; try dsimp only))
  all_goals exact end_B (news := news) hret (by k_asm) (by assumption) (by intro p hp; k_ownIn) (g_end (by assumption) (by assumption) (by assumption))
end Mine
end
section
open PySem
set_option Elab.async false
set_option maxRecDepth 100000
namespace Mine
open PySem.Sre
def dig (c : Nat) : Bool := decide (48 ≤ c) && decide (c ≤ 57)
def can (c : Nat) : Nat := if dig c = true then 48 else c
def canon (x : Array Nat) : Array Nat := x.map can
theorem canon_getD (x : Array Nat) (p : Nat) : (canon x).getD p 0 = can (x.getD p 0) := by
  unfold canon
  by_cases h : p < x.size
  · simp [Array.getD, h]
  · simp [Array.getD, h]; rfl
/-- a word at which a set or a character reads no digit apart from another -/
def safeAt (code : Array Nat) (j : Nat) : Bool :=
  match ops[code.getD j 0]? with
  | some .LITERAL => !dig (code.getD (j + 1) 0)
  | some .CATEGORY => code.getD (j + 1) 0 == 0
  | some .CHARSET => (List.range 10).all fun d => (code.getD (j + (1 + (48 + d) / 32)) 0).testBit ((48 + d) % 32) == (code.getD (j + (1 + 48 / 32)) 0).testBit (48 % 32)
  | some .FAILURE | some .NEGATE | some .ANY | some .ANY_ALL | some .IN => true
  | some .RANGE | some .RANGE_UNI_IGNORE | some .BIGCHARSET | some .NOT_LITERAL | some .LITERAL_IGNORE | some .NOT_LITERAL_IGNORE | some .IN_IGNORE | some .LITERAL_UNI_IGNORE | some .NOT_LITERAL_UNI_IGNORE | some .IN_UNI_IGNORE => false
  | _ => true
theorem dig_spec {c : Nat} (h : dig c = true) : ∃ d, d < 10 ∧ c = 48 + d := by
  unfold dig at h
  simp only [Bool.and_eq_true, decide_eq_true_eq] at h
  exact ⟨c - 48, by omega, by omega⟩
theorem lit_can {c w : Nat} (h : dig w = false) : (c == w) = (can c == w) := by
  unfold can
  by_cases hc : dig c = true
  · rw [if_pos hc]
    have h1 : (c == w) = false := by
      rw [beq_eq_false_iff_ne]; intro e; rw [e, h] at hc; cases hc
    have h2 : (48 == w) = false := by
      rw [beq_eq_false_iff_ne]; intro e; rw [← e] at h; exact absurd h (by decide)
    rw [h1, h2]
  · rw [if_neg hc]
theorem isDigit_can (c : Nat) : isDigit c = isDigit (can c) := by
  unfold can
  by_cases hc : dig c = true
  · rw [if_pos hc]; exact hc
  · rw [if_neg hc]
theorem inSet_can {code : Array Nat} (hs : ∀ j, safeAt code j = true) (c : Nat) : ∀ (fuel i : Nat) (yes : Bool) (seen : Seen), inSet code c fuel i yes seen = inSet code (can c) fuel i yes seen := by
  intro fuel
  induction fuel with
  | zero => intros; rfl
  | succ n ih =>
    intro i yes seen
    have h := hs i
    unfold safeAt at h
    conv => lhs; whnf
    conv => rhs; whnf
    dsimp only [Nat.add_zero]
    cases ho : ops[code.getD i 0]? with
    | none => rfl
    | some op =>
      rw [ho] at h
      cases op
      case LITERAL =>
        dsimp only at h ⊢
        rw [lit_can (by simpa using h), ih]
      case NEGATE => exact ih _ _ _
      case CATEGORY =>
        dsimp only at h ⊢
        rw [beq_iff_eq] at h
        rw [h]
        have e : category 0 c = category 0 (can c) := congrArg (fun b => Except.map (fun x => x != (0 % 2 == 1)) (Except.ok b)) (isDigit_can c)
        rw [e]
        have r := ih (i + 2) yes
        rw [show inSet code c n (i + 2) yes = inSet code (can c) n (i + 2) yes from funext r]
      case CHARSET =>
        dsimp only at h ⊢
        by_cases hc : dig c = true
        · obtain ⟨d, hd, rfl⟩ := dig_spec hc
          have hk := List.all_eq_true.mp h d (List.mem_range.mpr hd)
          rw [beq_iff_eq] at hk
          have e48 : can (48 + d) = 48 := by unfold can; rw [if_pos hc]
          rw [e48, ih, e48]
          have c1 : decide (48 + d < 256) = true := by rw [decide_eq_true_eq]; omega
          have c2 : decide (48 < 256) = true := rfl
          rw [c1, c2, hk]
        · have e : can c = c := by unfold can; rw [if_neg hc]
          rw [ih, e]
      case RANGE => exact absurd (show false = true from h) (by decide)
      case RANGE_UNI_IGNORE => exact absurd (show false = true from h) (by decide)
      case BIGCHARSET => exact absurd (show false = true from h) (by decide)
      all_goals rfl
theorem acc_can {code : Array Nat} (hs : ∀ j, safeAt code j = true) (c i : Nat) (seen : Seen) : accepts code i (can c) seen = accepts code i c seen := by
  have h := hs i
  unfold safeAt at h
  unfold accepts
  cases ho : ops[code.getD i 0]? with
  | none => rfl
  | some op =>
    rw [ho] at h
    cases op
    case LITERAL => dsimp only at h ⊢; rw [← lit_can (by simpa using h)]
    case IN => dsimp only; exact (inSet_can hs c _ _ _ _).symm
    case ANY =>
      dsimp only
      have e : (can c != 10) = (c != 10) := by rw [bne, bne, ← lit_can (c := c) (w := 10) (by decide)]
      rw [e]
    case NOT_LITERAL => exact absurd (show false = true from h) (by decide)
    case LITERAL_IGNORE => exact absurd (show false = true from h) (by decide)
    case NOT_LITERAL_IGNORE => exact absurd (show false = true from h) (by decide)
    case IN_IGNORE => exact absurd (show false = true from h) (by decide)
    case LITERAL_UNI_IGNORE => exact absurd (show false = true from h) (by decide)
    case NOT_LITERAL_UNI_IGNORE => exact absurd (show false = true from h) (by decide)
    case IN_UNI_IGNORE => exact absurd (show false = true from h) (by decide)
    all_goals rfl
def atSafe (code : Array Nat) (i : Nat) : Bool := match ops[code.getD i 0]? with
  | some .AT => !((code.getD (i + 1) 0 == 3) || (code.getD (i + 1) 0 == 4) || (code.getD (i + 1) 0 == 10) || (code.getD (i + 1) 0 == 11))
  | _ => true
theorem fits_can {code x : Array Nat} (hs : ∀ j, safeAt code j = true) (ha : ∀ j, atSafe code j = true) (hf : ∀ j, isFew (ops[code.getD j 0]?) = true) (h2 : (code.getD 2 0 == 4) = false) : Fits code (canon x) x where
  acc := fun i p seen => by rw [canon_getD]; exact acc_can hs _ _ _
  at' := by
    intro i ho m hc hx
    have h := ha i
    unfold atSafe at h
    rw [ho] at h
    generalize code.getD (i + 1) 0 = k at *
    have e10 : ∀ p, ((canon x).getD p 0 == 10) = (x.getD p 0 == 10) := fun p => by rw [canon_getD]; exact (lit_can (by decide)).symm
    unfold Sre.M.isAt
    rw [hx]
    delta ov
    dsimp only
    match k, h with
    | 0, _ => rfl
    | 1, _ => rw [e10]; rfl
    | 2, _ => rfl
    | 5, _ => rw [e10 m.pos]; rfl
    | 6, _ => rw [e10 m.pos]; rfl
    | 7, _ => rfl
    | 8, _ => rfl
    | 9, _ => rfl
    | k + 12, _ => rfl
  few := hf
  first := h2
theorem of_small {code : Array Nat} {P : Nat → Bool} (h0 : ∀ j, code.size ≤ j → P j = true) (h : (List.range code.size).all P = true) : ∀ j, P j = true := by
  intro j
  by_cases hj : j < code.size
  · exact List.all_eq_true.mp h j (List.mem_range.mpr hj)
  · exact h0 j (by omega)
theorem out_word {code : Array Nat} {j : Nat} (h : code.size ≤ j) : code.getD j 0 = 0 := by
  simp [Array.getD, Nat.not_lt.mpr h]
def codeOk (code : Array Nat) : Bool := (List.range code.size).all (fun j => safeAt code j && atSafe code j && isFew (ops[code.getD j 0]?)) && !(code.getD 2 0 == 4)
theorem fits_ok {code x : Array Nat} (h : codeOk code = true) : Fits code (canon x) x := by
  unfold codeOk at h
  simp only [Bool.and_eq_true, Bool.not_eq_true'] at h
  obtain ⟨h1, h2⟩ := h
  have z : ops[0]? = some Op.FAILURE := rfl
  have all : ∀ j, (safeAt code j && atSafe code j && isFew (ops[code.getD j 0]?)) = true := of_small (P := fun j => safeAt code j && atSafe code j && isFew (ops[code.getD j 0]?)) (fun j hj => by
    have e := out_word hj
    unfold safeAt atSafe
    rw [e, z]; rfl) h1
  have all' : ∀ j, (safeAt code j = true ∧ atSafe code j = true) ∧ isFew (ops[code.getD j 0]?) = true := fun j => by have := all j; simp only [Bool.and_eq_true] at this; exact this
  exact fits_can (fun j => (all' j).1.1) (fun j => (all' j).1.2) (fun j => (all' j).2) h2
theorem zres_ov (c y : Array Nat) (m : Sre.M) : zres (ov c y m) = zres m := rfl
theorem zrun_canon {code x : Array Nat} (h : codeOk code = true) (lim : Nat) : zrun code x lim = zrun code (canon x) lim := by
  have F := fits_ok (x := x) h
  have S : Fits code (canon x) (canon x) := ⟨fun _ _ _ => rfl, fun _ _ k e1 e2 => by rw [← e2]; rfl, F.few, F.first⟩
  have e0 := search_ov S lim
  have e1 := search_ov F lim
  unfold zrun zmach
  rw [e1]
  generalize hm : Sre.forSearch code (canon x) 3 0 lim false = m at *
  have hc : m.code = code := by rw [e0]; rfl
  have ht : m.text = canon x := by rw [e0]; rfl
  have := runFor_ov (y := x) (4 * 40) (m := m) (by rw [hc, ht]; exact F)
  rw [hc] at this
  rw [this, zres_ov]
def tab : List (Array Nat × List Int) := ([[], [43], [45]] : List (List Nat)).flatMap fun s => ([[48], [48, 48]] : List (List Nat)).flatMap fun d => ([[], [58]] : List (List Nat)).flatMap fun c => ([[], [48, 48]] : List (List Nat)).map fun m =>
  ((s ++ d ++ c ++ m).toArray, [0, ((s ++ d ++ c ++ m).length : Int), if s = [] then -1 else 0, if s = [] then -1 else 1, (s.length : Int), ((s ++ d).length : Int), if m = [] then -1 else ((s ++ d ++ c).length : Int), if m = [] then -1 else ((s ++ d ++ c ++ m).length : Int)])
end Mine
end
section
open PySem PySem.W PyProof.Rows PySem.Spec PySem.Calls
set_option Elab.async false
set_option linter.unusedSimpArgs false
set_option linter.unusedVariables false
set_option maxRecDepth 100000
set_option maxHeartbeats 8000000
namespace Mine
theorem code_ok : codeOk zcode = true := by decide +kernel
theorem tab_ok : ∀ p ∈ tab, zrun zcode p.1 p.1.size = some p.2 := by decide +kernel
theorem dig_can {a : Nat} (h : dig a = true) : can a = 48 := by unfold can; rw [if_pos h]
theorem dig_range {a : Nat} (h : dig a = true) : 48 ≤ a ∧ a ≤ 57 := by
  unfold dig at h
  simpa using h
theorem can43 : can 43 = 43 := rfl
theorem can45 : can 45 = 45 := rfl
theorem can58 : can 58 = 58 := rfl
theorem utc_first {x : Str} (h : x.cps.getD 0 0 ≠ 71 ∧ x.cps.getD 0 0 ≠ 85 ∧ x.cps.getD 0 0 ≠ 90) : isUtc x = false := by
  obtain ⟨h1, h2, h3⟩ := h
  unfold isUtc
  rw [decide_eq_false (fun e => h1 (by rw [e]; rfl)), decide_eq_false (fun e => h2 (by rw [e]; rfl)), decide_eq_false (fun e => h2 (by rw [e]; rfl)), decide_eq_false (fun e => h3 (by rw [e]; rfl))]
  rfl
def HasH (H : List Nat) : Prop := (∃ a, H = [a] ∧ dig a = true) ∨ (∃ a b, H = [a, b] ∧ dig a = true ∧ dig b = true)
def HasM (M : List Nat) : Prop := ∃ a b, M = [a, b] ∧ dig a = true ∧ dig b = true
theorem off_shape (w : World) (x : Str) (t : Tok) (S H C M : List Nat) (h m v : Int) (hS : S = [] ∨ S = [43] ∨ S = [45]) (hH : HasH H) (hC : C = [] ∨ C = [58]) (hM : HasM M) (hx : x = ⟨(S ++ (H ++ (C ++ M))).toArray⟩)
    (iH : PySem.intText? ⟨H.toArray⟩ = some h) (iM : PySem.intText? ⟨M.toArray⟩ = some m) (h0 : 0 ≤ h) (h1 : h < 100) (m0 : 0 ≤ m) (m1 : m < 100) (hv : v = if S = [45] then -(3600 * h + 60 * m) else 3600 * h + 60 * m) :
    Con (RowW.prog (OpenRow.toRowW (OpenLaw.row PySem.Challenge.rw_xg0011_02))) w (hd.heap_39 w.params) hd.view_39 (looseW hd.view_39 [Str.ofString "UTC_ZONES", Str.ofString "TIMEZONE_RE"]) 44 [.str x t] 2 16 (fun _ _ => True) (OutI v) := by
  have run : ∀ (y z : Array Nat) (r : List Int), canon y = z → (z, r) ∈ tab → zrun zcode y y.size = some r := by
    intro y z r e hm
    have es : y.size = z.size := by rw [← e]; unfold canon; exact Array.size_map.symm
    rw [zrun_canon code_ok, e, es]
    exact tab_ok _ hm
  obtain ⟨c, d, rfl, hc, hd'⟩ := hM
  have hcr := dig_range hc
  have hdr := dig_range hd'
  subst hx
  rcases hH with ⟨a, rfl, ha⟩ | ⟨a, b, rfl, ha, hb⟩ <;> rcases hC with rfl | rfl <;> rcases hS with rfl | rfl | rfl
  all_goals have har := dig_range ha
  all_goals try have hbr := dig_range hb
  · exact off_zone w ⟨#[a, c, d]⟩ t v h m ⟨#[a]⟩ 0 3 (-1) (-1) 0 1 1 3 none (some ⟨#[c, d]⟩) (utc_first ⟨by show a ≠ 71; omega, by show a ≠ 85; omega, by show a ≠ 90; omega⟩) (show 3 ≤ 16 by decide) (run _ #[48, 48, 48] _ (by simp only [canon, List.map_toArray, List.map_cons, List.map_nil, dig_can ha, dig_can hc, dig_can hd', can43, can45, can58]) (by decide +kernel)) (by simp [grp]) (show 1 ≤ 16 by decide) iH (by simp [grp]) (by simp [grp]) (by intro y e; cases e) ⟨iM, show 0 < 2 by decide, show 2 ≤ 16 by decide⟩ h0 h1 m0 m1 (hv.trans (by rfl))
  · exact off_zone w ⟨#[43, a, c, d]⟩ t v h m ⟨#[a]⟩ 0 4 (0) (1) 1 2 2 4 (some ⟨#[43]⟩) (some ⟨#[c, d]⟩) (utc_first ⟨by show 43 ≠ 71; omega, by show 43 ≠ 85; omega, by show 43 ≠ 90; omega⟩) (show 4 ≤ 16 by decide) (run _ #[43, 48, 48, 48] _ (by simp only [canon, List.map_toArray, List.map_cons, List.map_nil, dig_can ha, dig_can hc, dig_can hd', can43, can45, can58]) (by decide +kernel)) (by simp [grp]) (show 1 ≤ 16 by decide) iH (by simp [grp]) (by simp [grp]) (by intro y e; cases e; decide) ⟨iM, show 0 < 2 by decide, show 2 ≤ 16 by decide⟩ h0 h1 m0 m1 (hv.trans (by rfl))
  · exact off_zone w ⟨#[45, a, c, d]⟩ t v h m ⟨#[a]⟩ 0 4 (0) (1) 1 2 2 4 (some ⟨#[45]⟩) (some ⟨#[c, d]⟩) (utc_first ⟨by show 45 ≠ 71; omega, by show 45 ≠ 85; omega, by show 45 ≠ 90; omega⟩) (show 4 ≤ 16 by decide) (run _ #[45, 48, 48, 48] _ (by simp only [canon, List.map_toArray, List.map_cons, List.map_nil, dig_can ha, dig_can hc, dig_can hd', can43, can45, can58]) (by decide +kernel)) (by simp [grp]) (show 1 ≤ 16 by decide) iH (by simp [grp]) (by simp [grp]) (by intro y e; cases e; decide) ⟨iM, show 0 < 2 by decide, show 2 ≤ 16 by decide⟩ h0 h1 m0 m1 (hv.trans (by rfl))
  · exact off_zone w ⟨#[a, 58, c, d]⟩ t v h m ⟨#[a]⟩ 0 4 (-1) (-1) 0 1 2 4 none (some ⟨#[c, d]⟩) (utc_first ⟨by show a ≠ 71; omega, by show a ≠ 85; omega, by show a ≠ 90; omega⟩) (show 4 ≤ 16 by decide) (run _ #[48, 58, 48, 48] _ (by simp only [canon, List.map_toArray, List.map_cons, List.map_nil, dig_can ha, dig_can hc, dig_can hd', can43, can45, can58]) (by decide +kernel)) (by simp [grp]) (show 1 ≤ 16 by decide) iH (by simp [grp]) (by simp [grp]) (by intro y e; cases e) ⟨iM, show 0 < 2 by decide, show 2 ≤ 16 by decide⟩ h0 h1 m0 m1 (hv.trans (by rfl))
  · exact off_zone w ⟨#[43, a, 58, c, d]⟩ t v h m ⟨#[a]⟩ 0 5 (0) (1) 1 2 3 5 (some ⟨#[43]⟩) (some ⟨#[c, d]⟩) (utc_first ⟨by show 43 ≠ 71; omega, by show 43 ≠ 85; omega, by show 43 ≠ 90; omega⟩) (show 5 ≤ 16 by decide) (run _ #[43, 48, 58, 48, 48] _ (by simp only [canon, List.map_toArray, List.map_cons, List.map_nil, dig_can ha, dig_can hc, dig_can hd', can43, can45, can58]) (by decide +kernel)) (by simp [grp]) (show 1 ≤ 16 by decide) iH (by simp [grp]) (by simp [grp]) (by intro y e; cases e; decide) ⟨iM, show 0 < 2 by decide, show 2 ≤ 16 by decide⟩ h0 h1 m0 m1 (hv.trans (by rfl))
  · exact off_zone w ⟨#[45, a, 58, c, d]⟩ t v h m ⟨#[a]⟩ 0 5 (0) (1) 1 2 3 5 (some ⟨#[45]⟩) (some ⟨#[c, d]⟩) (utc_first ⟨by show 45 ≠ 71; omega, by show 45 ≠ 85; omega, by show 45 ≠ 90; omega⟩) (show 5 ≤ 16 by decide) (run _ #[45, 48, 58, 48, 48] _ (by simp only [canon, List.map_toArray, List.map_cons, List.map_nil, dig_can ha, dig_can hc, dig_can hd', can43, can45, can58]) (by decide +kernel)) (by simp [grp]) (show 1 ≤ 16 by decide) iH (by simp [grp]) (by simp [grp]) (by intro y e; cases e; decide) ⟨iM, show 0 < 2 by decide, show 2 ≤ 16 by decide⟩ h0 h1 m0 m1 (hv.trans (by rfl))
  · exact off_zone w ⟨#[a, b, c, d]⟩ t v h m ⟨#[a, b]⟩ 0 4 (-1) (-1) 0 2 2 4 none (some ⟨#[c, d]⟩) (utc_first ⟨by show a ≠ 71; omega, by show a ≠ 85; omega, by show a ≠ 90; omega⟩) (show 4 ≤ 16 by decide) (run _ #[48, 48, 48, 48] _ (by simp only [canon, List.map_toArray, List.map_cons, List.map_nil, dig_can ha, dig_can hb, dig_can hc, dig_can hd', can43, can45, can58]) (by decide +kernel)) (by simp [grp]) (show 2 ≤ 16 by decide) iH (by simp [grp]) (by simp [grp]) (by intro y e; cases e) ⟨iM, show 0 < 2 by decide, show 2 ≤ 16 by decide⟩ h0 h1 m0 m1 (hv.trans (by rfl))
  · exact off_zone w ⟨#[43, a, b, c, d]⟩ t v h m ⟨#[a, b]⟩ 0 5 (0) (1) 1 3 3 5 (some ⟨#[43]⟩) (some ⟨#[c, d]⟩) (utc_first ⟨by show 43 ≠ 71; omega, by show 43 ≠ 85; omega, by show 43 ≠ 90; omega⟩) (show 5 ≤ 16 by decide) (run _ #[43, 48, 48, 48, 48] _ (by simp only [canon, List.map_toArray, List.map_cons, List.map_nil, dig_can ha, dig_can hb, dig_can hc, dig_can hd', can43, can45, can58]) (by decide +kernel)) (by simp [grp]) (show 2 ≤ 16 by decide) iH (by simp [grp]) (by simp [grp]) (by intro y e; cases e; decide) ⟨iM, show 0 < 2 by decide, show 2 ≤ 16 by decide⟩ h0 h1 m0 m1 (hv.trans (by rfl))
  · exact off_zone w ⟨#[45, a, b, c, d]⟩ t v h m ⟨#[a, b]⟩ 0 5 (0) (1) 1 3 3 5 (some ⟨#[45]⟩) (some ⟨#[c, d]⟩) (utc_first ⟨by show 45 ≠ 71; omega, by show 45 ≠ 85; omega, by show 45 ≠ 90; omega⟩) (show 5 ≤ 16 by decide) (run _ #[45, 48, 48, 48, 48] _ (by simp only [canon, List.map_toArray, List.map_cons, List.map_nil, dig_can ha, dig_can hb, dig_can hc, dig_can hd', can43, can45, can58]) (by decide +kernel)) (by simp [grp]) (show 2 ≤ 16 by decide) iH (by simp [grp]) (by simp [grp]) (by intro y e; cases e; decide) ⟨iM, show 0 < 2 by decide, show 2 ≤ 16 by decide⟩ h0 h1 m0 m1 (hv.trans (by rfl))
  · exact off_zone w ⟨#[a, b, 58, c, d]⟩ t v h m ⟨#[a, b]⟩ 0 5 (-1) (-1) 0 2 3 5 none (some ⟨#[c, d]⟩) (utc_first ⟨by show a ≠ 71; omega, by show a ≠ 85; omega, by show a ≠ 90; omega⟩) (show 5 ≤ 16 by decide) (run _ #[48, 48, 58, 48, 48] _ (by simp only [canon, List.map_toArray, List.map_cons, List.map_nil, dig_can ha, dig_can hb, dig_can hc, dig_can hd', can43, can45, can58]) (by decide +kernel)) (by simp [grp]) (show 2 ≤ 16 by decide) iH (by simp [grp]) (by simp [grp]) (by intro y e; cases e) ⟨iM, show 0 < 2 by decide, show 2 ≤ 16 by decide⟩ h0 h1 m0 m1 (hv.trans (by rfl))
  · exact off_zone w ⟨#[43, a, b, 58, c, d]⟩ t v h m ⟨#[a, b]⟩ 0 6 (0) (1) 1 3 4 6 (some ⟨#[43]⟩) (some ⟨#[c, d]⟩) (utc_first ⟨by show 43 ≠ 71; omega, by show 43 ≠ 85; omega, by show 43 ≠ 90; omega⟩) (show 6 ≤ 16 by decide) (run _ #[43, 48, 48, 58, 48, 48] _ (by simp only [canon, List.map_toArray, List.map_cons, List.map_nil, dig_can ha, dig_can hb, dig_can hc, dig_can hd', can43, can45, can58]) (by decide +kernel)) (by simp [grp]) (show 2 ≤ 16 by decide) iH (by simp [grp]) (by simp [grp]) (by intro y e; cases e; decide) ⟨iM, show 0 < 2 by decide, show 2 ≤ 16 by decide⟩ h0 h1 m0 m1 (hv.trans (by rfl))
  · exact off_zone w ⟨#[45, a, b, 58, c, d]⟩ t v h m ⟨#[a, b]⟩ 0 6 (0) (1) 1 3 4 6 (some ⟨#[45]⟩) (some ⟨#[c, d]⟩) (utc_first ⟨by show 45 ≠ 71; omega, by show 45 ≠ 85; omega, by show 45 ≠ 90; omega⟩) (show 6 ≤ 16 by decide) (run _ #[45, 48, 48, 58, 48, 48] _ (by simp only [canon, List.map_toArray, List.map_cons, List.map_nil, dig_can ha, dig_can hb, dig_can hc, dig_can hd', can43, can45, can58]) (by decide +kernel)) (by simp [grp]) (show 2 ≤ 16 by decide) iH (by simp [grp]) (by simp [grp]) (by intro y e; cases e; decide) ⟨iM, show 0 < 2 by decide, show 2 ≤ 16 by decide⟩ h0 h1 m0 m1 (hv.trans (by rfl))
def hT (h : Int) (p : Bool) : Str := if p = true then Txt.slice (Str.ofString "0" ++ Str.ofString (toString h)) (some (-2)) none else Str.ofString (toString h)
def mT (m : Int) : Str := Txt.slice (Str.ofString "0" ++ Str.ofString (toString m)) (some (-2)) none
def okH (y : Str) (h : Int) : Bool := (y.cps.size == 1 || y.cps.size == 2) && y.cps.toList.all dig && decide (PySem.intText? y = some h)
def okM (y : Str) (h : Int) : Bool := y.cps.size == 2 && y.cps.toList.all dig && decide (PySem.intText? y = some h)
theorem hTab : ∀ h ∈ List.range 13, (okH (hT (h : Nat) true) (h : Nat) && okH (hT (h : Nat) false) (h : Nat)) = true := by decide +kernel
theorem mTab : ∀ m ∈ List.range 60, okM (mT (m : Nat)) (m : Nat) = true := by decide +kernel
theorem list_one {l : List Nat} (h : l.length = 1) : ∃ a, l = [a] := by
  cases l with
  | nil => cases h
  | cons a r => cases r with
    | nil => exact ⟨a, rfl⟩
    | cons _ _ => cases h
theorem list_two {l : List Nat} (h : l.length = 2) : ∃ a b, l = [a, b] := by
  cases l with
  | nil => cases h
  | cons a r =>
    obtain ⟨b, rfl⟩ := list_one (l := r) (by simpa using h)
    exact ⟨a, b, rfl⟩
theorem okM_has {y : Str} {h : Int} (e : okM y h = true) : HasM y.cps.toList ∧ PySem.intText? y = some h := by
  unfold okM at e
  simp only [Bool.and_eq_true, beq_iff_eq, decide_eq_true_eq] at e
  obtain ⟨⟨e1, e2⟩, e3⟩ := e
  refine ⟨?_, e3⟩
  obtain ⟨a, b, e⟩ := list_two (l := y.cps.toList) (by simpa using e1)
  rw [e] at e2
  simp only [List.all_cons, List.all_nil, Bool.and_true, Bool.and_eq_true] at e2
  exact ⟨a, b, e, e2.1, e2.2⟩
theorem okH_has {y : Str} {h : Int} (e : okH y h = true) : HasH y.cps.toList ∧ PySem.intText? y = some h := by
  unfold okH at e
  simp only [Bool.and_eq_true, Bool.or_eq_true, beq_iff_eq, decide_eq_true_eq] at e
  obtain ⟨⟨e1, e2⟩, e3⟩ := e
  refine ⟨?_, e3⟩
  rcases e1 with e1 | e1
  · obtain ⟨a, e⟩ := list_one (l := y.cps.toList) (by simpa using e1)
    rw [e] at e2
    simp only [List.all_cons, List.all_nil, Bool.and_true] at e2
    exact .inl ⟨a, e, e2⟩
  · obtain ⟨a, b, e⟩ := list_two (l := y.cps.toList) (by simpa using e1)
    rw [e] at e2
    simp only [List.all_cons, List.all_nil, Bool.and_true, Bool.and_eq_true] at e2
    exact .inr ⟨a, b, e, e2.1, e2.2⟩
theorem str_app (a b : Str) : (a ++ b : Str) = ⟨a.cps ++ b.cps⟩ := rfl
theorem str_eta (a : Str) : (⟨a.cps.toList.toArray⟩ : Str) = a := by cases a; simp
theorem sgn_codes {sign : Str} {v h m : Int} (hs : ((sign = Str.ofString "" ∨ sign = Str.ofString "+") ∧ v = 3600 * h + 60 * m) ∨ (sign = Str.ofString "-" ∧ v = -(3600 * h + 60 * m))) :
    (sign.cps.toList = [] ∨ sign.cps.toList = [43] ∨ sign.cps.toList = [45]) ∧ v = if sign.cps.toList = [45] then -(3600 * h + 60 * m) else 3600 * h + 60 * m := by
  rcases hs with ⟨rfl | rfl, rfl⟩ | ⟨rfl, rfl⟩
  · have e : (Str.ofString "").cps.toList = [] := by decide +kernel
    rw [e]; exact ⟨.inl rfl, rfl⟩
  · have e : (Str.ofString "+").cps.toList = [43] := by decide +kernel
    rw [e]; exact ⟨.inr (.inl rfl), rfl⟩
  · have e : (Str.ofString "-").cps.toList = [45] := by decide +kernel
    rw [e]; exact ⟨.inr (.inr rfl), rfl⟩
theorem colon_codes : (Str.ofString ":").cps = #[58] := by decide +kernel
theorem off_text (w : World) (hours minutes look v : Int) (sign : Str) (t : Tok) (h0 : 0 ≤ hours) (h1 : hours ≤ 12) (m0 : 0 ≤ minutes) (m1 : minutes < 60)
    (hs : ((sign = Str.ofString "" ∨ sign = Str.ofString "+") ∧ v = 3600 * hours + 60 * minutes) ∨ (sign = Str.ofString "-" ∧ v = -(3600 * hours + 60 * minutes))) :
    Con (RowW.prog (OpenRow.toRowW (OpenLaw.row PySem.Challenge.rw_xg0011_02))) w (hd.heap_39 w.params) hd.view_39 (looseW hd.view_39 [Str.ofString "UTC_ZONES", Str.ofString "TIMEZONE_RE"]) 44 [.str (textT hours minutes look sign) t] 2 16 (fun _ _ => True) (OutI v) := by
  obtain ⟨h, rfl⟩ := Int.eq_ofNat_of_zero_le h0
  obtain ⟨m, rfl⟩ := Int.eq_ofNat_of_zero_le m0
  have hh := hTab h (List.mem_range.mpr (by omega))
  simp only [Bool.and_eq_true] at hh
  have hm := okM_has (mTab m (List.mem_range.mpr (by omega)))
  obtain ⟨s1, s2⟩ := sgn_codes hs
  have key : ∀ p : Bool, HasH (hT (h : Nat) p).cps.toList ∧ PySem.intText? (hT (h : Nat) p) = some (h : Int) := fun p => by cases p; exact okH_has hh.2; exact okH_has hh.1
  have e1 : ∃ p C, (C = [] ∨ C = [58]) ∧ textT (h : Int) (m : Int) look sign = ⟨(sign.cps.toList ++ ((hT (h : Nat) p).cps.toList ++ (C ++ (mT (m : Nat)).cps.toList))).toArray⟩ := by
    unfold textT
    by_cases q1 : look.fdiv 4 = 1 <;> by_cases q2 : (look.fdiv 2).fmod 2 = 1
    · rw [if_pos q1, if_pos q2]
      refine ⟨true, [58], .inr rfl, ?_⟩
      simp only [str_app, colon_codes, hT, mT, if_true]; simp
    · rw [if_pos q1, if_neg q2]
      refine ⟨false, [58], .inr rfl, ?_⟩
      simp only [str_app, colon_codes, hT, mT, Bool.false_eq_true, if_false]; simp
    · rw [if_neg q1, if_pos q2]
      refine ⟨true, [], .inl rfl, ?_⟩
      simp only [str_app, hT, mT, if_true]; simp
    · rw [if_neg q1, if_neg q2]
      refine ⟨false, [], .inl rfl, ?_⟩
      simp only [str_app, hT, mT, Bool.false_eq_true, if_false]; simp
  obtain ⟨p, C, hC, hx⟩ := e1
  exact off_shape w _ t _ _ C _ (h : Int) (m : Int) v s1 (key p).1 hC hm.1 hx (by rw [str_eta]; exact (key p).2) (by rw [str_eta]; exact hm.2) (by omega) (by omega) (by omega) (by omega) s2
end Mine
end
section
set_option Elab.async false
set_option maxRecDepth 100000
set_option linter.unusedVariables false
open PySem.W
namespace Mine
/-- a step of the root's walk: its number, whether it was at one minute before, hours, minutes, the minutes before; upper and lower number, those before -/
structure St where
  i : Nat
  c : Bool
  h : Int
  m : Int
  b : Int
  p : Int
  q : Int
  pb : Int
  qb : Int
deriving DecidableEq
def clo (s : St) : Bool := s.c || (decide (0 < s.i) && decide (s.m = 1))
def nx (root : Int) (s : St) : St :=
  ⟨s.i + 1, clo s, root - (root + s.h) % s.m, s.b + (root + s.h) / s.m * (s.h - root + (root + s.h) % s.m), s.m, (root + s.h) / s.m * s.p + s.pb, (root + s.h) / s.m * s.q + s.qb, s.p, s.q⟩
def halt (s : St) : Bool := clo s && decide (24 < s.q)
def runF (root : Int) : Nat → St → List St
  | 0, _ => []
  | f + 1, s => s :: (if halt s = true then [] else runF root f (nx root s))
def run (n : Int) : List St := runF (rootOf n) 60 ⟨0, false, 0, 1, n, 1, 0, 0, 1⟩
theorem runF_next {root : Int} : ∀ {f : Nat} {s t : St} {k : Nat}, (runF root f s)[k]? = some t → k + 1 < f → halt t = false → (runF root f s)[k + 1]? = some (nx root t) := by
  intro f
  induction f with
  | zero => intro s t k h hk; omega
  | succ f ih =>
    intro s t k h hk ht
    unfold runF at h ⊢
    cases k with
    | zero =>
      rw [List.getElem?_cons_zero] at h
      cases h
      rw [if_neg (by rw [ht]; decide), List.getElem?_cons_succ]
      cases f with
      | zero => omega
      | succ f => unfold runF; rw [List.getElem?_cons_zero]
    | succ k =>
      rw [List.getElem?_cons_succ] at h ⊢
      by_cases hs : halt s = true
      · rw [if_pos hs] at h; cases h
      · rw [if_neg hs] at h ⊢
        exact ih h (by omega) ht
def okS (s : St) : Bool := decide (0 ≤ s.h) && decide (s.h ≤ 12) && decide (1 ≤ s.m) && decide (s.m ≤ 24) && decide (0 ≤ s.b) && decide (s.b ≤ 168) && decide (0 ≤ s.p) && decide (s.p ≤ 2000000000) && decide (0 ≤ s.q) && decide (s.q ≤ 2000000000) && decide (0 ≤ s.pb) && decide (s.pb ≤ 2000000000) && decide (0 ≤ s.qb) && decide (s.qb ≤ 2000000000)
def sq (n : Int) : Bool := decide (rootOf n * rootOf n = n)
theorem run_tab : ∀ n ∈ List.range 169, (sq (n : Nat) || decide (n < 2) || ((run (n : Nat)).all okS && decide ((run (n : Nat)).length ≤ 59))) = true := by decide +kernel
theorem run_fact {n : Int} (h2 : 2 ≤ n) (h1 : n ≤ 168) (hs : sq n = false) : (run n).all okS = true ∧ (run n).length ≤ 59 := by
  obtain ⟨a, rfl⟩ := Int.eq_ofNat_of_zero_le (show 0 ≤ n by omega)
  have := run_tab a (List.mem_range.mpr (by omega))
  rw [hs, Bool.false_or, decide_eq_false (show ¬ a < 2 by omega), Bool.false_or] at this
  simpa using this
def dat (s : St) : Dat := Dat.tuple [.int s.p, .int s.q, .int s.h, .int (if s.i % 2 = 0 then s.m else -s.m)]
def dats (n : Int) (k : Nat) : List Dat := ((run n).take k).map dat
structure Inv (n : Int) (k : Nat) (s : St) (steps : List Dat) : Prop where
  at_ : (run n)[k]? = some s
  num : s.i = k
  out : steps = dats n k
theorem inv_start (n : Int) : Inv n 0 ⟨0, false, 0, 1, n, 1, 0, 0, 1⟩ [] := ⟨rfl, rfl, rfl⟩
theorem inv_ok {n : Int} {k : Nat} {s : St} {st : List Dat} (I : Inv n k s st) (h2 : 2 ≤ n) (h1 : n ≤ 168) (hs : sq n = false) : okS s = true ∧ k < 59 := by
  have f := run_fact h2 h1 hs
  have hm := List.mem_of_getElem? I.at_
  have hk := (List.getElem?_eq_some_iff.mp I.at_).1
  exact ⟨List.all_eq_true.mp f.1 s hm, by omega⟩
theorem inv_out {n : Int} {k : Nat} {s : St} {st : List Dat} (I : Inv n k s st) : st ++ [dat s] = dats n (k + 1) := by
  rw [I.out]
  unfold dats
  rw [List.take_add_one, I.at_]
  simp
theorem inv_next {n B : Int} {k : Nat} {s : St} {st : List Dat} (I : Inv n k s st) (h2 : 2 ≤ n) (h1 : n ≤ 168) (hs : sq n = false) (hB : B ≤ 24) (hgo : ¬(clo s = true ∧ B < s.q)) :
    Inv n (k + 1) (nx (rootOf n) s) (st ++ [dat s]) := by
  have hk := (inv_ok I h2 h1 hs).2
  have hh : halt s = false := by
    unfold halt
    rw [Bool.and_eq_false_iff, decide_eq_false_iff_not]
    by_cases hc : clo s = true
    · right; intro hq; exact hgo ⟨hc, by omega⟩
    · left; simpa using hc
  refine ⟨runF_next I.at_ (by omega) hh, ?_, inv_out I⟩
  show s.i + 1 = k + 1
  rw [I.num]
/-- what holds between the turns of _law_steps -/
def SInv (n : Int) (k : Nat) (h m b p q pb qb : Int) (c : Bool) (steps : List Dat) : Prop :=
  Inv n k ⟨k, c, h, m, b, p, q, pb, qb⟩ steps
def SBd (h m b p q pb qb : Int) : Prop := (0 ≤ h ∧ h ≤ 12) ∧ (1 ≤ m ∧ m ≤ 24) ∧ (0 ≤ b ∧ b ≤ 168) ∧ (0 ≤ p ∧ p ≤ 2000000000) ∧ (0 ≤ q ∧ q ≤ 2000000000) ∧ (0 ≤ pb ∧ pb ≤ 2000000000) ∧ (0 ≤ qb ∧ qb ≤ 2000000000)
theorem okS_bd {s : St} (h : okS s = true) : SBd s.h s.m s.b s.p s.q s.pb s.qb := by
  unfold okS at h
  simp only [Bool.and_eq_true, decide_eq_true_eq] at h
  unfold SBd
  omega
theorem sinv_bd {n : Int} {k : Nat} {h m b p q pb qb : Int} {c : Bool} {st : List Dat} (I : SInv n k h m b p q pb qb c st) (h2 : 2 ≤ n) (h1 : n ≤ 168) (hs : sq n = false) : SBd h m b p q pb qb := okS_bd (inv_ok I h2 h1 hs).1
theorem sinv_next {n B : Int} {k : Nat} {h m b p q pb qb o r : Int} {c c' : Bool} {st : List Dat} {v : Int} (I : SInv n k h m b p q pb qb c st) (h2 : 2 ≤ n) (h1 : n ≤ 168) (hs : sq n = false) (hB : B ≤ 24)
    (hc : c' = (c || (decide (0 < k) && decide (m = 1)))) (hgo : ¬(c' = true ∧ B < q)) (ho : o = (rootOf n + h) / m) (hr : r = (rootOf n + h) % m) (hv : v = if k % 2 = 0 then m else -m) :
    SInv n (k + 1) (rootOf n - r) (b + o * (h - rootOf n + r)) m (o * p + pb) (o * q + qb) p q c' (st ++ [Dat.tuple [.int p, .int q, .int h, .int v]]) := by
  subst ho hr hc hv
  exact inv_next I h2 h1 hs hB hgo
/-- what _law_steps hands back -/
def StepsAre (n B : Int) (ds : List Dat) : Prop := ∃ (k : Nat) (s : St), (run n)[k]? = some s ∧ s.i = k ∧ clo s = true ∧ B < s.q ∧ ds = dats n (k + 1)
theorem sinv_end {n B : Int} {k : Nat} {h m b p q pb qb : Int} {c c' : Bool} {st : List Dat} {v : Int} (I : SInv n k h m b p q pb qb c st)
    (hc : c' = (c || (decide (0 < k) && decide (m = 1)))) (h1 : c' = true) (h2 : B < q) (hv : v = if k % 2 = 0 then m else -m) : StepsAre n B (st ++ [Dat.tuple [.int p, .int q, .int h, .int v]]) := by
  subst hc hv
  exact ⟨k, _, I.at_, rfl, h1, h2, inv_out I⟩
theorem sinv_out {n : Int} {k : Nat} {h m b p q pb qb : Int} {c : Bool} {st : List Dat} (I : SInv n k h m b p q pb qb c st) (h2 : 2 ≤ n) (h1 : n ≤ 168) (hs : sq n = false) : k < 59 := (inv_ok I h2 h1 hs).2
theorem s_start {n : Int} (h2 : 2 ≤ n) (h1 : n ≤ 168) : SInv n ([] : List Int).length 0 1 n 1 0 0 1 false [] ∧ (((0 : Int) ≤ 0 ∧ (0 : Int) ≤ 12) ∧ ((1 : Int) ≤ 1 ∧ (1 : Int) ≤ 24) ∧ (0 ≤ n ∧ n ≤ 168) ∧ ((0 : Int) ≤ 1 ∧ (1 : Int) ≤ 2000000000) ∧ ((0 : Int) ≤ 0 ∧ (0 : Int) ≤ 2000000000) ∧ ((0 : Int) ≤ 0 ∧ (0 : Int) ≤ 2000000000) ∧ ((0 : Int) ≤ 1 ∧ (1 : Int) ≤ 2000000000)) ∧ ([] : List Dat).length = ([] : List Int).length ∧ ([] : List Int).length < 59 := by
  refine ⟨inv_start n, ?_, rfl, by decide⟩
  omega
theorem s_next {n B : Int} {pre : List Int} {x : Int} {h m b p q pb qb o r : Int} {c c' : Bool} {st : List Dat} {v : Int} (I : SInv n pre.length h m b p q pb qb c st) (h2 : 2 ≤ n) (h1 : n ≤ 168) (hs : sq n = false) (hB : B ≤ 24) (hl : st.length = pre.length)
    (hc : c' = (c || (decide (0 < pre.length) && decide (m = 1)))) (hgo : ¬(c' = true ∧ B < q)) (ho : o = (rootOf n + h) / m) (hr : r = (rootOf n + h) % m) (hv : v = if pre.length % 2 = 0 then m else -m) :
    SInv n (pre ++ [x]).length (rootOf n - r) (b + o * (h - rootOf n + r)) m (o * p + pb) (o * q + qb) p q c' (st ++ [Dat.tuple [.int p, .int q, .int h, .int v]]) ∧ ((0 ≤ rootOf n - r ∧ rootOf n - r ≤ 12) ∧ (1 ≤ b + o * (h - rootOf n + r) ∧ b + o * (h - rootOf n + r) ≤ 24) ∧ (0 ≤ m ∧ m ≤ 168) ∧ (0 ≤ o * p + pb ∧ o * p + pb ≤ 2000000000) ∧ (0 ≤ o * q + qb ∧ o * q + qb ≤ 2000000000) ∧ (0 ≤ p ∧ p ≤ 2000000000) ∧ (0 ≤ q ∧ q ≤ 2000000000)) ∧ (st ++ [Dat.tuple [.int p, .int q, .int h, .int v]]).length = (pre ++ [x]).length ∧ (pre ++ [x]).length < 59 := by
  have J := sinv_next I h2 h1 hs hB hc hgo ho hr hv
  have hb := sinv_bd J h2 h1 hs
  have ho := sinv_out J h2 h1 hs
  have e : (pre ++ [x]).length = pre.length + 1 := by simp
  rw [e]
  refine ⟨J, hb, ?_, ho⟩
  simp [hl]
end Mine
end
section
open PySem PySem.W PyProof.Rows PySem.Spec PySem.Calls
set_option Elab.async false
set_option maxRecDepth 100000
set_option maxHeartbeats 8000000
namespace Mine
/-- what _law_parted asks of its arguments -/
structure WPre (minutes hour parts : Int) : Prop where
  h0 : 1 ≤ hour
  h1 : hour ≤ 31
  p0 : 1 ≤ parts
  p1 : parts ≤ 16
  m0 : 0 ≤ minutes
  m1 : minutes < 32 * hour
  e2 : 2 * hour * parts = 2 * (hour * parts)
  c0 : 1 ≤ hour * parts
  c1 : hour * parts < 512
  mp0 : 0 ≤ minutes * parts
  mp1 : minutes * parts + parts ≤ 32 * (hour * parts)
theorem wpre_of {a hour parts : Int} (h0 : 1 ≤ hour) (h1 : hour ≤ 24) (p0 : 1 ≤ parts) (p1 : parts ≤ 16) (a0 : 0 ≤ a) (a1 : a ≤ 24) : WPre a hour parts := by
  have b1 : 1 * 1 ≤ hour * parts := Int.mul_le_mul h0 p0 (by omega) (by omega)
  have b2 : hour * parts ≤ 24 * 16 := Int.mul_le_mul h1 p1 (by omega) (by omega)
  have d1 : 0 ≤ a * parts := Int.mul_nonneg a0 (by omega)
  have d2 : (a + 1) * parts ≤ 32 * hour * parts := Int.mul_le_mul_of_nonneg_right (by omega) (by omega)
  have d3 : 32 * hour * parts = 32 * (hour * parts) := Int.mul_assoc _ _ _
  rw [Int.add_mul, Int.one_mul, d3] at d2
  exact ⟨h0, by omega, p0, p1, a0, by omega, Int.mul_assoc _ _ _, by omega, by omega, d1, d2⟩
theorem parts_bd (x : Int) : 1 ≤ 1 + (x.fdiv 8).fmod 16 ∧ 1 + (x.fdiv 8).fmod 16 ≤ 16 := by
  rw [Int.fmod_eq_emod_of_nonneg _ (by decide)]
  omega
theorem look_bd (x : Int) : 0 ≤ x.fmod 8 ∧ x.fmod 8 < 8 := by
  rw [Int.fmod_eq_emod_of_nonneg _ (by decide)]
  omega
theorem sgn_or (x : Int) : ([Str.ofString "", Str.ofString "+"] : List Str).getD (x.fmod 2).toNat Str.empty = Str.ofString "" ∨ ([Str.ofString "", Str.ofString "+"] : List Str).getD (x.fmod 2).toNat Str.empty = Str.ofString "+" := by
  have : x.fmod 2 = 0 ∨ x.fmod 2 = 1 := by
    rw [Int.fmod_eq_emod_of_nonneg _ (by decide)]
    omega
  rcases this with e | e <;> rw [e]
  · exact .inl rfl
  · exact .inr rfl
theorem sgn_len (x : Int) : (([Str.ofString "", Str.ofString "+"] : List Str).getD (x.fmod 2).toNat Str.empty).length ≤ 1 := by
  rcases sgn_or x with e | e <;> rw [e] <;> decide
theorem rootOf_tab : ∀ n ∈ List.range 169, (decide (0 ≤ rootOf (n : Nat)) && decide (rootOf (n : Nat) ≤ 12)) = true := by decide +kernel
theorem rootOf_bd {n : Int} (h0 : 0 ≤ n) (h1 : n ≤ 168) : 0 ≤ rootOf n ∧ rootOf n ≤ 12 := by
  obtain ⟨a, rfl⟩ := Int.eq_ofNat_of_zero_le h0
  have := rootOf_tab a (List.mem_range.mpr (by omega))
  simpa using this
section
variable {w : World} {mean : ExcName → Option Value} {mg mb : Str → Option Value} {dp un : Nat} {gd : Option (List Code)} {cn : Str} {cs : Scope} {aa : Addr} {ccd : Value} {cl : List (Str × Addr)} {outer : List Env}
  {A₀ : Around} {base h₀ : Heap} {L : Addr} {m : Str → Option Value} {news : List (Addr × Obj)} {s : Shared} {Q E : Value → Shared → Prop}
theorem call_root {n : Int} {t : Tok}
  (B : Below A₀ base outer h₀) (F : Fr h₀ L s.heap m) (X : Frag.In (hd.heap_39 w.params) h₀) (N : News h₀ L s.heap news) (T : Top hd.view_39 (looseW hd.view_39 [Str.ofString "UTC_ZONES", Str.ofString "TIMEZONE_RE"]) mean mg mb h₀) (hk : cs.kind = .function)
  (hp : 0 ≤ n ∧ n ≤ 168) (hd : dp + 1 < recursionLimit) (hu : un + 32 < cLine)
  (ret : ∀ (t : Tok) h' tk', 0 ≤ rootOf n → rootOf n ≤ 12 → Fr h₀ L h' m → News h₀ L h' news → Q (.int (rootOf n) t) { s with heap := h', toks := tk' }) :
  wpAny (model (RowW.prog (OpenRow.toRowW (OpenLaw.row PySem.Challenge.rw_xg0011_02))) w) (ktrTop dp un gd cn cs L aa ccd cl outer) (call (.ref 72) [.int n t]) Q E s :=
  use_I (root_con w n t hp.1 hp.2) B F X N T hk trivial hd hu fun t h' tk' => ret t h' tk' (rootOf_bd hp.1 hp.2).1 (rootOf_bd hp.1 hp.2).2
theorem call_parted {minutes hour parts : Int} {t1 t2 t3 : Tok}
  (B : Below A₀ base outer h₀) (F : Fr h₀ L s.heap m) (X : Frag.In (hd.heap_39 w.params) h₀) (N : News h₀ L s.heap news) (T : Top hd.view_39 (looseW hd.view_39 [Str.ofString "UTC_ZONES", Str.ofString "TIMEZONE_RE"]) mean mg mb h₀) (hk : cs.kind = .function)
  (hp : WPre minutes hour parts) (hd : dp + 3 < recursionLimit) (hu : un + 128 < cLine)
  (ret : ∀ (o r : Int), o = minutes / hour → r = minutes % hour → 0 ≤ o → o ≤ minutes → 0 ≤ r → r < hour → ∀ (D : Addr) (t u : Tok) (c : Nat) h' tk', Fr h₀ L h' m → News h₀ L h' ((D, ({ cls := .type "tuple", data := .seq #[.int o t, .int r u] c } : Obj)) :: news) → (∀ q ∈ news, q.1 < D) → Q (.ref D) { s with heap := h', toks := tk' }) :
  wpAny (model (RowW.prog (OpenRow.toRowW (OpenLaw.row PySem.Challenge.rw_xg0011_02))) w) (ktrTop dp un gd cn cs L aa ccd cl outer) (call (.ref 84) [.int minutes t1, .int hour t2, .int parts t3]) Q E s :=
  use_T2 (parted w minutes hour parts t1 t2 t3 hp.h0 hp.h1 hp.p0 hp.p1 hp.m0 hp.m1 hp.e2 hp.c0 hp.c1 hp.mp0 hp.mp1) B F X N T hk trivial hd hu
    (ret _ _ rfl rfl (Int.ediv_nonneg hp.m0 (by have := hp.h0; omega)) (Int.ediv_le_self _ hp.m0) (Int.emod_nonneg _ (by have := hp.h0; omega)) (Int.emod_lt_of_pos _ (by have := hp.h0; omega)))
theorem call_text {hours minutes look : Int} {sign : Str} {t1 t2 t3 t4 : Tok}
  (B : Below A₀ base outer h₀) (F : Fr h₀ L s.heap m) (X : Frag.In (hd.heap_39 w.params) h₀) (N : News h₀ L s.heap news) (T : Top hd.view_39 (looseW hd.view_39 [Str.ofString "UTC_ZONES", Str.ofString "TIMEZONE_RE"]) mean mg mb h₀) (hk : cs.kind = .function)
  (hp : 0 ≤ hours ∧ hours ≤ 12 ∧ 0 ≤ minutes ∧ minutes < 60) (hl : 0 ≤ look ∧ look < 8) (hs : sign.length ≤ 1) (hd : dp + 1 < recursionLimit) (hu : un + 8 < cLine)
  (ret : ∀ t h' tk', Fr h₀ L h' m → News h₀ L h' news → Q (.str (textT hours minutes look sign) t) { s with heap := h', toks := tk' }) :
  wpAny (model (RowW.prog (OpenRow.toRowW (OpenLaw.row PySem.Challenge.rw_xg0011_02))) w) (ktrTop dp un gd cn cs L aa ccd cl outer) (call (.ref 91) [.int hours t1, .int minutes t2, .int look t3, .str sign t4]) Q E s :=
  use_S (text_con w hours minutes look sign t1 t2 t3 t4 hp.1 (by omega) hp.2.2.1 hp.2.2.2 hl.1 hl.2 hs) B F X N T hk trivial hd hu ret
theorem call_off {hours minutes look v : Int} {sign : Str} {t : Tok}
  (B : Below A₀ base outer h₀) (F : Fr h₀ L s.heap m) (X : Frag.In (hd.heap_39 w.params) h₀) (N : News h₀ L s.heap news) (T : Top hd.view_39 (looseW hd.view_39 [Str.ofString "UTC_ZONES", Str.ofString "TIMEZONE_RE"]) mean mg mb h₀) (hk : cs.kind = .function)
  (hp : 0 ≤ hours ∧ hours ≤ 12 ∧ 0 ≤ minutes ∧ minutes < 60) (hs : ((sign = Str.ofString "" ∨ sign = Str.ofString "+") ∧ v = 3600 * hours + 60 * minutes) ∨ (sign = Str.ofString "-" ∧ v = -(3600 * hours + 60 * minutes)))
  (hd : dp + 2 < recursionLimit) (hu : un + 16 < cLine)
  (ret : ∀ t h' tk', Fr h₀ L h' m → News h₀ L h' news → Q (.int v t) { s with heap := h', toks := tk' }) :
  wpAny (model (RowW.prog (OpenRow.toRowW (OpenLaw.row PySem.Challenge.rw_xg0011_02))) w) (ktrTop dp un gd cn cs L aa ccd cl outer) (call (.ref 44) [.str (textT hours minutes look sign) t]) Q E s :=
  use_I (off_text w hours minutes look v sign t hp.1 hp.2.1 hp.2.2.1 hp.2.2.2 hs) B F X N T hk trivial hd hu ret
theorem call_cost {a b : Str} {t u : Tok}
  (B : Below A₀ base outer h₀) (F : Fr h₀ L s.heap m) (X : Frag.In (hd.heap_39 w.params) h₀) (N : News h₀ L s.heap news) (T : Top hd.view_39 (looseW hd.view_39 [Str.ofString "UTC_ZONES", Str.ofString "TIMEZONE_RE"]) mean mg mb h₀) (hk : cs.kind = .function)
  (hp : a.length ≤ 1 ∧ b.length ≤ 1) (hd : dp + 1 < recursionLimit) (hu : un + 8 < cLine)
  (ret : ∀ t h' tk', Fr h₀ L h' m → News h₀ L h' news → Q (.int (costOf a b) t) { s with heap := h', toks := tk' }) :
  wpAny (model (RowW.prog (OpenRow.toRowW (OpenLaw.row PySem.Challenge.rw_xg0011_02))) w) (ktrTop dp un gd cn cs L aa ccd cl outer) (call (.ref 65) [.str a t, .str b u]) Q E s :=
  use_I (cost_con w a b t u hp.1 hp.2) B F X N T hk trivial hd hu ret
theorem call_strangers {a b : Int} {t u : Tok}
  (B : Below A₀ base outer h₀) (F : Fr h₀ L s.heap m) (X : Frag.In (hd.heap_39 w.params) h₀) (N : News h₀ L s.heap news) (T : Top hd.view_39 (looseW hd.view_39 [Str.ofString "UTC_ZONES", Str.ofString "TIMEZONE_RE"]) mean mg mb h₀) (hk : cs.kind = .function)
  (hp : 0 ≤ a ∧ a ≤ 100000 ∧ 0 ≤ b ∧ b ≤ 100000) (hd : dp + 1 < recursionLimit) (hu : un + 32 < cLine)
  (ret : ∀ h' tk', Fr h₀ L h' m → News h₀ L h' news → Q (.bool (decide (Int.gcd a b = 1))) { s with heap := h', toks := tk' }) :
  wpAny (model (RowW.prog (OpenRow.toRowW (OpenLaw.row PySem.Challenge.rw_xg0011_02))) w) (ktrTop dp un gd cn cs L aa ccd cl outer) (call (.ref 105) [.int a t, .int b u]) Q E s :=
  use_B (strangers_con w a b t u hp.1 hp.2.1 hp.2.2.1 hp.2.2.2) B F X N T hk trivial hd hu ret
end
end Mine
end
section
set_option Elab.async false
set_option maxRecDepth 100000
set_option linter.unusedVariables false
open PySem.W
namespace Mine
def isqS (m r b : Int) : Int := if (r + b) * (r + b) ≤ m then r + b else r
def isq (m : Int) : Int := [256, 128, 64, 32, 16, 8, 4, 2, 1].foldl (isqS m) 0
theorem isqS_ok {m r b c : Int} (hc : c = 2 * b) (hb : 0 ≤ b) (h : 0 ≤ r ∧ r * r ≤ m ∧ m < (r + c) * (r + c)) : 0 ≤ isqS m r b ∧ isqS m r b * isqS m r b ≤ m ∧ m < (isqS m r b + b) * (isqS m r b + b) := by
  subst hc
  unfold isqS
  by_cases hh : (r + b) * (r + b) ≤ m
  · rw [if_pos hh]
    refine ⟨by omega, hh, ?_⟩
    have e : r + 2 * b = r + b + b := by omega
    rw [← e]; exact h.2.2
  · rw [if_neg hh]
    exact ⟨h.1, h.2.1, by omega⟩
theorem isq_ok {m : Int} (h0 : 0 ≤ m) (h1 : m < 262144) : 0 ≤ isq m ∧ isq m * isq m ≤ m ∧ m < (isq m + 1) * (isq m + 1) := by
  unfold isq
  simp only [List.foldl_cons, List.foldl_nil]
  refine isqS_ok (c := 2) (by decide) (by decide) (isqS_ok (c := 4) (by decide) (by decide) (isqS_ok (c := 8) (by decide) (by decide) (isqS_ok (c := 16) (by decide) (by decide) (isqS_ok (c := 32) (by decide) (by decide) (isqS_ok (c := 64) (by decide) (by decide) (isqS_ok (c := 128) (by decide) (by decide) (isqS_ok (c := 256) (by decide) (by decide) (isqS_ok (c := 512) (by decide) (by decide) ⟨by decide, by simpa using h0, ?_⟩))))))))
  have : ((0 : Int) + 512) * (0 + 512) = 262144 := by decide
  omega
theorem sq_lt {a b : Int} (ha : 0 ≤ a) (hb : 0 ≤ b) (h : a * a < b * b) : a < b := by
  by_cases hh : a < b
  · exact hh
  · exfalso
    have h1 := Int.mul_le_mul (show b ≤ a by omega) (show b ≤ a by omega) hb ha
    omega
theorem isq_eq {m a : Int} (h0 : 0 ≤ m) (h1 : m < 262144) (ha : 0 ≤ a) (hl : a * a ≤ m) (hu : ¬ (a + 1) * (a + 1) ≤ m) : a = isq m := by
  obtain ⟨g0, g1, g2⟩ := isq_ok h0 h1
  have c1 : a < isq m + 1 := sq_lt ha (by omega) (by omega)
  have c2 : isq m < a + 1 := sq_lt g0 (by omega) (by omega)
  omega
def okP (n q p : Int) : Bool := decide ((p * p - n * q * q) * (p * p - n * q * q) < n) && decide (Int.gcd p q = 1)
def dat3 (n q p : Int) : Dat := Dat.tuple [.int p, .int q, .int (p * p - n * q * q)]
def one (n q p : Int) : List Dat := if okP n q p = true then [dat3 n q p] else []
def items (n q : Int) : List Dat := one n q (isq (n * q * q)) ++ one n q (isq (n * q * q) + 1)
def small (n B : Int) : List Dat := (rangeKs 1 (B + 1 - 1).toNat).flatMap (items n)
theorem one_y {n q p : Int} (h1 : (p * p - n * q * q) * (p * p - n * q * q) < n) (h2 : decide (Int.gcd p q = 1) = true) : one n q p = [dat3 n q p] := by
  unfold one okP; rw [h2, decide_eq_true h1]; rfl
theorem one_n {n q p : Int} (h1 : ¬ (p * p - n * q * q) * (p * p - n * q * q) < n) : one n q p = [] := by
  unfold one okP; rw [decide_eq_false h1]; rfl
theorem one_m {n q p : Int} (h2 : decide (Int.gcd p q = 1) = false) : one n q p = [] := by
  unfold one okP; rw [h2, Bool.and_false]; rfl
theorem nqq_bd {n q : Int} (n0 : 2 ≤ n) (n1 : n ≤ 168) (q0 : 1 ≤ q) (q1 : q ≤ 24) : 0 ≤ n * q * q ∧ n * q * q ≤ 96768 := by
  have a1 : 0 ≤ n * q := Int.mul_nonneg (by omega) (by omega)
  have a2 : n * q ≤ 168 * 24 := Int.mul_le_mul n1 q1 (by omega) (by omega)
  refine ⟨Int.mul_nonneg a1 (by omega), ?_⟩
  have := Int.mul_le_mul a2 q1 (by omega) (by decide)
  omega
/-- between the turns: the square's place for the q at hand -/
def BInv (n : Int) (k : Nat) (b : Int) : Prop := b * b ≤ n * (k : Int) * (k : Int)
theorem binv_0 {n : Int} : BInv n ([] : List Int).length 0 := by unfold BInv; simp
/-- in the while: still below -/
def WB (n q b : Int) : Prop := b * b ≤ n * q * q
theorem wb_start {n q b : Int} {k : Nat} (h : BInv n k b) (hq : q = 1 + (k : Int)) (n0 : 2 ≤ n) : WB n q b := by
  subst hq
  unfold BInv at h
  unfold WB
  have h1 : n * (k : Int) * (k : Int) ≤ n * (1 + (k : Int)) * (1 + (k : Int)) := by
    have e1 : n * (k : Int) ≤ n * (1 + (k : Int)) := Int.mul_le_mul_of_nonneg_left (by omega) (by omega)
    exact Int.mul_le_mul e1 (by omega) (by omega) (Int.mul_nonneg (by omega) (by omega))
  omega
theorem wb_bd {n q b : Int} (n0 : 2 ≤ n) (n1 : n ≤ 168) (q0 : 1 ≤ q) (q1 : q ≤ 24) (h : (b + 1) * (b + 1) ≤ n * q * q) (b0 : 0 ≤ b) : b + 1 ≤ 320 := by
  have := (nqq_bd n0 n1 q0 q1).2
  have h1 : (b + 1) * (b + 1) < 320 * 320 := by omega
  have := sq_lt (by omega) (by decide) h1
  omega
theorem binv_next {n q b : Int} {k : Nat} {pre : List Int} {x : Int} (hk : k = pre.length) (h : WB n q b) (hq : q = 1 + (k : Int)) : BInv n (pre ++ [x]).length b := by
  subst hk hq
  unfold WB at h
  unfold BInv
  have e : (((pre ++ [x]).length : Nat) : Int) = 1 + (pre.length : Int) := by simp; omega
  rw [e]; exact h
theorem sm_eq {n q b : Int} (n0 : 2 ≤ n) (n1 : n ≤ 168) (q0 : 1 ≤ q) (q1 : q ≤ 24) (b0 : 0 ≤ b) (h : WB n q b) (hu : ¬ (b + 1) * (b + 1) ≤ n * q * q) : isq (n * q * q) = b := by
  have := nqq_bd n0 n1 q0 q1
  exact (isq_eq this.1 (by omega) b0 h hu).symm
theorem items_eq {n q b : Int} {l1 l2 : List Dat} (e : isq (n * q * q) = b) (e1 : one n q b = l1) (e2 : one n q (b + 1) = l2) : items n q = l1 ++ l2 := by
  unfold items; rw [e, e1, e2]
theorem out_next {n q : Int} {pre : List Int} {out l : List Dat} (h : out = pre.flatMap (items n)) (e : items n q = l) : out ++ l = (pre ++ [q]).flatMap (items n) := by
  rw [h, List.flatMap_append, ← e]; simp
theorem wb_of {n q b : Int} (h : (b + 1) * (b + 1) ≤ n * q * q) : WB n q (b + 1) := h
theorem sm_start {n : Int} : (0 : Int) ≤ 0 ∧ (0 : Int) ≤ 320 ∧ BInv n ([] : List Int).length 0 ∧ ([] : List Dat) = ([] : List Int).flatMap (items n) ∧ ([] : List Dat).length ≤ 2 * ([] : List Int).length := ⟨by decide, by decide, binv_0, rfl, by decide⟩
theorem sm_next {n q b : Int} {pre : List Int} {out l1 l2 l : List Dat} (n0 : 2 ≤ n) (n1 : n ≤ 168) (hl : l = out ++ (l1 ++ l2)) (hq : q = 1 + (pre.length : Int)) (q1 : q ≤ 24) (b0 : 0 ≤ b) (b1 : b ≤ 320) (h : WB n q b) (hu : ¬ (b + 1) * (b + 1) ≤ n * q * q) (ho : out = pre.flatMap (items n)) (hn : out.length ≤ 2 * pre.length)
    (e1 : one n q b = l1) (e2 : one n q (b + 1) = l2) : 0 ≤ b ∧ b ≤ 320 ∧ BInv n (pre ++ [q]).length b ∧ l = (pre ++ [q]).flatMap (items n) ∧ l.length ≤ 2 * (pre ++ [q]).length := by
  subst hl
  have hk : ∀ p, (one n q p).length ≤ 1 := fun p => by unfold one; split <;> simp
  refine ⟨b0, b1, binv_next rfl h hq, out_next ho (items_eq (sm_eq n0 n1 (by omega) q1 b0 h hu) e1 e2), ?_⟩
  have h1 := hk b
  have h2 := hk (b + 1)
  rw [e1] at h1
  rw [e2] at h2
  simp only [List.length_append, List.length_cons, List.length_nil]
  omega
theorem app0 {o : List Dat} : o = o ++ ([] ++ []) := by simp
theorem app1 {o : List Dat} {d : Dat} : o ++ [d] = o ++ ([d] ++ []) := by simp
theorem app2 {o : List Dat} {d : Dat} : o ++ [d] = o ++ ([] ++ [d]) := by simp
theorem app3 {o : List Dat} {d e : Dat} : o ++ [d] ++ [e] = o ++ ([d] ++ [e]) := by simp
theorem sm_while {n q b : Int} (h : (b + 1) * (b + 1) ≤ n * q * q) (b0 : 0 ≤ b) (n0 : 2 ≤ n) (n1 : n ≤ 168) (q0 : 1 ≤ q) (q1 : q ≤ 24) : 0 ≤ b + 1 ∧ b + 1 ≤ 320 ∧ WB n q (b + 1) := ⟨by omega, wb_bd n0 n1 q0 q1 h b0, h⟩
theorem one_yg {n q p : Int} (h1 : (p * p - n * q * q) * (p * p - n * q * q) < n) (h2 : Int.gcd p q = 1) : one n q p = [dat3 n q p] := one_y h1 (decide_eq_true h2)
theorem one_mg {n q p : Int} (h2 : ¬ Int.gcd p q = 1) : one n q p = [] := one_m (decide_eq_false h2)
theorem app4 {o : List Dat} {d e : Dat} : o ++ [d, e] = o ++ ([d] ++ [e]) := rfl
end Mine
end
section
set_option Elab.async false
set_option maxRecDepth 100000
set_option linter.unusedVariables false
open PySem PySem.W
namespace Mine
/-- the text of a step's mark -/
def mkS (m : Int) : Str := if 0 < m then ⟨#[(96 + m).toNat]⟩ else ⟨#[(64 - m).toNat]⟩
def costZ (a b : Int) : Int := if a = b then 0 else if a = -b then 1 else 2
theorem cost_tab : ∀ a ∈ List.range 49, ∀ b ∈ List.range 49, (decide (a = 24) || decide (b = 24) || decide (costOf (mkS ((a : Int) - 24)) (mkS ((b : Int) - 24)) = costZ ((a : Int) - 24) ((b : Int) - 24))) = true := by decide +kernel
theorem cost_mk {a b : Int} (ha : (1 ≤ a ∧ a ≤ 24) ∨ (-24 ≤ a ∧ a ≤ -1)) (hb : (1 ≤ b ∧ b ≤ 24) ∨ (-24 ≤ b ∧ b ≤ -1)) : costOf (mkS a) (mkS b) = costZ a b := by
  obtain ⟨x, hx⟩ := Int.eq_ofNat_of_zero_le (show 0 ≤ a + 24 by omega)
  obtain ⟨y, hy⟩ := Int.eq_ofNat_of_zero_le (show 0 ≤ b + 24 by omega)
  have h := cost_tab x (List.mem_range.mpr (by omega)) y (List.mem_range.mpr (by omega))
  rw [decide_eq_false (show ¬ x = 24 by omega), decide_eq_false (show ¬ y = 24 by omega), Bool.false_or, Bool.false_or, decide_eq_true_eq] at h
  have ex : (x : Int) - 24 = a := by omega
  have ey : (y : Int) - 24 = b := by omega
  rwa [ex, ey] at h
def sgn (s : St) : Int := if s.i % 2 = 0 then s.m else -s.m
/-- the end of the first round: the first step but one at one minute -/
def lastOf : Nat → List St → Nat
  | _, [] => 0
  | k, s :: r => if 0 < k ∧ s.m = 1 then k else lastOf (k + 1) r
def rnd (n : Int) : Nat := lastOf 0 (run n)
def tripT (B : Int) (n : Int) (s : St) : List (Int × Int × Int) := if 0 < s.q ∧ s.q ≤ B ∧ sgn s * sgn s < n then [(s.p, s.q, sgn s)] else []
def trip (n q p : Int) : List (Int × Int × Int) := if okP n q p = true then [(p, q, p * p - n * q * q)] else []
def smallT (n : Int) (B : Nat) : List (Int × Int × Int) := (rangeKs 1 B).flatMap fun q => trip n q (isq (n * q * q)) ++ trip n q (isq (n * q * q) + 1)
def at? (R : List St) (i : Nat) (f : St → Bool) : Bool := match R[i]? with | some s => f s | none => false
def chkEnd (n : Int) (R : List St) (J : Nat) : Bool :=
  decide (1 ≤ J) && at? R J (fun s => decide (s.m = 1)) && (List.range J).all (fun i => at? R i fun s => decide (s.i = i) && (decide (i = 0) || decide (1 < s.m))) && (R.zipIdx.all fun x => decide (x.1.i = x.2) && (!(clo x.1) || decide (J ≤ x.2)))
def chkPell (n : Int) (R : List St) (J : Nat) : Bool := (R.take ((J + 1) / 2)).all fun s => decide (s.p * s.p - n * s.q * s.q = sgn s)
def chkMono (R : List St) : Bool := R.zipIdx.all fun x => (R.drop (x.2 + 1)).all fun t => decide (x.1.q ≤ t.q)
def chkTold (n : Int) (R : List St) : Bool := decide (R.flatMap (tripT 24 n) = smallT n 24)
def chkMid (n : Int) (R : List St) (J : Nat) : Bool := at? R ((J + 1) / 2) fun s => if J % 2 = 1 then decide (s.h * s.h + s.m * s.m = n) else decide (2 * n % s.m = 0)
def chkCost (R : List St) (J : Nat) : Bool := (List.range (J + 1)).all fun i => at? R i fun s => at? R (J - i) fun t => decide (costZ (sgn s) (sgn t) = (J : Int) % 2)
def chkPal (R : List St) (J : Nat) : Bool := decide ((((R.take (J + 1)).drop 1).map (·.h)).reverse = ((R.take (J + 1)).drop 1).map (·.h))
def chkAll (n : Int) : Bool := let R := run n; let J := lastOf 0 R; chkEnd n R J && chkPell n R J && chkMono R && chkTold n R && chkMid n R J && chkCost R J && chkPal R J
def tabN (n : Nat) : Bool := sq n || decide ((n : Int) < 2) || chkAll n
theorem tab_0 : ∀ d ∈ List.range 40, tabN (0 + d) = true := by decide +kernel
theorem tab_1 : ∀ d ∈ List.range 30, tabN (40 + d) = true := by decide +kernel
theorem tab_2 : ∀ d ∈ List.range 25, tabN (70 + d) = true := by decide +kernel
theorem tab_3 : ∀ d ∈ List.range 20, tabN (95 + d) = true := by decide +kernel
theorem tab_4 : ∀ d ∈ List.range 15, tabN (115 + d) = true := by decide +kernel
theorem tab_5 : ∀ d ∈ List.range 15, tabN (130 + d) = true := by decide +kernel
theorem tab_6 : ∀ d ∈ List.range 13, tabN (145 + d) = true := by decide +kernel
theorem tab_7 : ∀ d ∈ List.range 11, tabN (158 + d) = true := by decide +kernel
theorem law_tab : ∀ n ∈ List.range 169, (sq (n : Nat) || decide (n < 2) || chkAll (n : Nat)) = true := by
  intro n hn
  have h := List.mem_range.mp hn
  have e : tabN n = true := by
    by_cases h0 : n < 40
    · have := tab_0 (n - 0) (List.mem_range.mpr (by omega)); rwa [show 0 + (n - 0) = n by omega] at this
    by_cases h1 : n < 70
    · have := tab_1 (n - 40) (List.mem_range.mpr (by omega)); rwa [show 40 + (n - 40) = n by omega] at this
    by_cases h2 : n < 95
    · have := tab_2 (n - 70) (List.mem_range.mpr (by omega)); rwa [show 70 + (n - 70) = n by omega] at this
    by_cases h3 : n < 115
    · have := tab_3 (n - 95) (List.mem_range.mpr (by omega)); rwa [show 95 + (n - 95) = n by omega] at this
    by_cases h4 : n < 130
    · have := tab_4 (n - 115) (List.mem_range.mpr (by omega)); rwa [show 115 + (n - 115) = n by omega] at this
    by_cases h5 : n < 145
    · have := tab_5 (n - 130) (List.mem_range.mpr (by omega)); rwa [show 130 + (n - 130) = n by omega] at this
    by_cases h6 : n < 158
    · have := tab_6 (n - 145) (List.mem_range.mpr (by omega)); rwa [show 145 + (n - 145) = n by omega] at this
    have := tab_7 (n - 158) (List.mem_range.mpr (by omega)); rwa [show 158 + (n - 158) = n by omega] at this
  unfold tabN at e
  rw [← e]
  congr 2
  exact decide_eq_decide.mpr (by omega)
end Mine
end
section
set_option Elab.async false
set_option maxRecDepth 100000
set_option linter.unusedVariables false
open PySem PySem.W
namespace Mine
def markD : Dat → Dat
  | .tuple [_, _, _, .int m] => .str (mkS m)
  | _ => .none
def hourD : Dat → Int
  | .tuple [_, _, .int h, _] => h
  | _ => 0
abbrev tup4 (p q h m : Int) : Dat := Dat.tuple [.int p, .int q, .int h, .int m]
structure RoundOk (n : Int) (ds ms : List Dat) : Prop where
  len0 : 2 ≤ ds.length
  len1 : ds.length ≤ 59
  eq : ms = ds.map markD
  shape : ∀ d ∈ ds, ∃ p q h m, d = Dat.tuple [.int p, .int q, .int h, .int m] ∧ ((0 ≤ h ∧ h ≤ 12) ∧ (-24 ≤ m ∧ m ≤ 24))
  mshape : ∀ d ∈ ms, ∃ x, d = Dat.str x ∧ x.length ≤ 1
  mid1 : ∀ p q h m, ds[ds.length / 2]? = some (tup4 p q h m) → (ds.length - 1) % 2 = 1 → h * h + m * m = n
  mid0 : ∀ p q h m, ds[ds.length / 2]? = some (tup4 p q h m) → (ds.length - 1) % 2 = 0 → 2 * n % (m.natAbs : Int) = 0
  midz : ∀ p q h m, ds[ds.length / 2]? = some (tup4 p q h m) → m ≠ 0
  cost1 : ∀ (i : Nat) x y, i < ds.length → ms[i]? = some (.str x) → ms[ds.length - 1 - i]? = some (.str y) → costOf x y = (((ds.length - 1) % 2 : Nat) : Int)
  cost2 : ∀ (i j : Nat) x y p q h m p' q' h' m', ms[j]? = some (.str x) → ms[i]? = some (.str y) → ds[j]? = some (tup4 p q h m) → ds[i]? = some (tup4 p' q' h' m') → costOf x y = costZ m m'
  pal : ((ds.drop 1).map hourD).reverse = (ds.drop 1).map hourD
theorem mid_no1 {n : Int} {ds ms : List Dat} {p q h m : Int} (R : RoundOk n ds ms) (hk : ds[(((ds.length : Int) - 1 + 1).fdiv 2).toNat]? = some (Dat.tuple [.int p, .int q, .int h, .int m])) (hf : ((ds.length : Int) - 1).fmod 2 = 1) (hn : h ^ Int.toNat 2 + m ^ Int.toNat 2 ≠ n) : False := by
  rw [Int.fmod_eq_emod_of_nonneg _ (by decide)] at hf
  rw [show (((ds.length : Int) - 1 + 1).fdiv 2).toNat = ds.length / 2 by rw [Int.fdiv_eq_ediv_of_nonneg _ (by decide)]; omega] at hk
  refine hn ?_
  have := R.mid1 p q h m hk (by have := R.len0; omega)
  show h ^ 2 + m ^ 2 = n
  rw [Int.pow_succ, Int.pow_succ, Int.pow_succ, Int.pow_succ, Int.pow_zero, Int.pow_zero, Int.one_mul, Int.one_mul]
  exact this
theorem mid_no0 {n a : Int} {ds ms : List Dat} {p q h m : Int} (R : RoundOk n ds ms) (hk : ds[(((ds.length : Int) - 1 + 1).fdiv 2).toNat]? = some (Dat.tuple [.int p, .int q, .int h, .int m])) (hf : ((ds.length : Int) - 1).fmod 2 = 0) (hn : (2 * n).fmod a ≠ 0) (ha : a = if m < 0 then -m else m) : False := by
  rw [Int.fmod_eq_emod_of_nonneg _ (by decide)] at hf
  rw [show (((ds.length : Int) - 1 + 1).fdiv 2).toNat = ds.length / 2 by rw [Int.fdiv_eq_ediv_of_nonneg _ (by decide)]; omega] at hk
  have := R.mid0 p q h m hk (by have := R.len0; omega)
  refine hn ?_
  have e : a = (m.natAbs : Int) := by rw [ha]; split <;> omega
  rw [e, Int.fmod_eq_emod_of_nonneg _ (by omega)]
  exact this
theorem nogo1 {n k : Int} {ds ms : List Dat} {j : Nat} {x y : Str} (R : RoundOk n ds ms) (h1 : ms[k.toNat]? = some (Dat.str x)) (h2 : ms[((ds.length : Int) - 1 - k).toNat]? = some (Dat.str y)) (e : k = 0 + (j : Int)) (hl : j < ((ds.length : Int) - 1 + 1 - 0).toNat) : costOf x y = ((ds.length : Int) - 1).fmod 2 := by
  have h0 := R.len0
  have h3 : ((ds.length : Int) - 1 - k).toNat = ds.length - 1 - k.toNat := by omega
  rw [h3] at h2
  have := R.cost1 k.toNat x y (by omega) h1 h2
  rw [this, Int.fmod_eq_emod_of_nonneg _ (by decide)]
  omega
theorem costS {n : Int} {i j : Int} {ds ms : List Dat} {x y : Str} {p q h m p' q' h' m' : Int} (R : RoundOk n ds ms) (h1 : ms[j.toNat]? = some (Dat.str x)) (h2 : ms[i.toNat]? = some (Dat.str y)) (h3 : ds[j.toNat]? = some (Dat.tuple [.int p, .int q, .int h, .int m])) (h4 : ds[i.toNat]? = some (Dat.tuple [.int p', .int q', .int h', .int m'])) : costOf x y = costZ m m' :=
  R.cost2 i.toNat j.toNat x y p q h m p' q' h' m' h1 h2 h3 h4
theorem cz0 {m m' : Int} (h : m = m') : costZ m m' = 0 := if_pos h
theorem cz1 {m m' : Int} (h : ¬ m = m') (h2 : m = -m') : costZ m m' = 1 := by unfold costZ; rw [if_neg h, if_pos h2]
theorem cz2 {m m' : Int} (h : ¬ m = m') (h2 : ¬ m = -m') : costZ m m' = 2 := by unfold costZ; rw [if_neg h, if_neg h2]
theorem nog0 {n i j : Int} {ds ms : List Dat} {x y : Str} {p q h m p' q' h' m' : Int} (hn : costOf x y ≠ 0) (R : RoundOk n ds ms) (h1 : ms[j.toNat]? = some (Dat.str x)) (h2 : ms[i.toNat]? = some (Dat.str y)) (h3 : ds[j.toNat]? = some (Dat.tuple [.int p, .int q, .int h, .int m])) (h4 : ds[i.toNat]? = some (Dat.tuple [.int p', .int q', .int h', .int m'])) (e : m = m') : False :=
  hn ((costS R h1 h2 h3 h4).trans (cz0 e))
theorem nog1 {n i j : Int} {ds ms : List Dat} {x y : Str} {p q h m p' q' h' m' : Int} (hn : costOf x y ≠ 1) (R : RoundOk n ds ms) (h1 : ms[j.toNat]? = some (Dat.str x)) (h2 : ms[i.toNat]? = some (Dat.str y)) (h3 : ds[j.toNat]? = some (Dat.tuple [.int p, .int q, .int h, .int m])) (h4 : ds[i.toNat]? = some (Dat.tuple [.int p', .int q', .int h', .int m'])) (e : ¬ m = m') (e2 : m = -m') : False :=
  hn ((costS R h1 h2 h3 h4).trans (cz1 e e2))
theorem nog2 {n i j : Int} {ds ms : List Dat} {x y : Str} {p q h m p' q' h' m' : Int} (hn : costOf x y ≠ 2) (R : RoundOk n ds ms) (h1 : ms[j.toNat]? = some (Dat.str x)) (h2 : ms[i.toNat]? = some (Dat.str y)) (h3 : ds[j.toNat]? = some (Dat.tuple [.int p, .int q, .int h, .int m])) (h4 : ds[i.toNat]? = some (Dat.tuple [.int p', .int q', .int h', .int m'])) (e : ¬ m = m') (e2 : ¬ m = -m') : False :=
  hn ((costS R h1 h2 h3 h4).trans (cz2 e e2))
theorem mid_nz {n : Int} {ds ms : List Dat} {p q h m : Int} (R : RoundOk n ds ms) (hk : ds[(((ds.length : Int) - 1 + 1).fdiv 2).toNat]? = some (Dat.tuple [.int p, .int q, .int h, .int m])) (hz : (if m < 0 then -m else m) = 0) : False := by
  rw [show (((ds.length : Int) - 1 + 1).fdiv 2).toNat = ds.length / 2 by rw [Int.fdiv_eq_ediv_of_nonneg _ (by decide)]; omega] at hk
  have := R.midz p q h m hk
  split at hz <;> omega
theorem size59 {vs : List Value} {pre : List Dat} (h : vs.length = pre.length) (hl : pre.length < 59) : vs.toArray.size ≤ sizeLine := by
  rw [List.size_toArray, h]; exact Nat.le_trans (Nat.le_of_lt hl) (by decide)
theorem mark_pos {p q h m : Int} (hm : 0 < m) : markD (Dat.tuple [.int p, .int q, .int h, .int m]) = .str ⟨#[(96 + m).toNat]⟩ := by show Dat.str (mkS m) = _; unfold mkS; rw [if_pos hm]
theorem mark_neg {p q h m : Int} (hm : ¬ 0 < m) : markD (Dat.tuple [.int p, .int q, .int h, .int m]) = .str ⟨#[(64 - m).toNat]⟩ := by show Dat.str (mkS m) = _; unfold mkS; rw [if_neg hm]
theorem marks_snoc {news : List (Addr × Obj)} {vs : List Value} {pre : List Dat} {d : Dat} {x : Str} {t : Tok} (h : DatAll news vs (pre.map markD)) (e : markD d = .str x) : DatAll news (vs ++ [.str x t]) ((pre ++ [d]).map markD) := by
  rw [List.map_append]
  refine h.append ?_
  show DatAll news [.str x t] [markD d]
  rw [e]; exact .one (.str _ _)
end Mine
end
section
open PySem PySem.W PyProof.Rows PySem.Spec PySem.Calls
set_option Elab.async false
namespace Mine
theorem allObj_mono : ∀ {ws : List (Addr × String)} {k k' : List (Addr × Obj) → Prop}, (∀ its, k its → k' its) → AllObj ws k → AllObj ws k'
  | [], _, _, h, x => h _ x
  | _ :: _, _, _, h, x => fun o ho => allObj_mono (fun its => h (_ :: its)) (x o ho)
section
variable {prog : Program} {w : World} {A : Around} {E : Value → Shared → Prop} {s : Shared} {env : Env} {h₀ : Heap} {target : Expr} {body : List Stmt} {Q : Flow → Shared → Prop}
/-- the frame between the turns: what the turn stores is forgotten -/
def frS (stored : List Str) (u m₀ : Str → Option Value) : Str → Option Value := fun z => if stored.contains z = true then u z else m₀ z
/-- one turn over a list of data; c: the state between the turns -/
def DatTurn (prog : Program) (w : World) (A : Around) (E : Value → Shared → Prop) (h₀ : Heap) (env : Env) (target : Expr) (body : List Stmt) (Q : Flow → Shared → Prop) (s : Shared) (ws : List (Addr × String)) (keep cst : List (Addr × Obj)) (stored : List Str) (m₀ : Str → Option Value) {σ : Type} (Led : σ → List (Addr × Obj)) (P : List Dat → σ → Prop) (ds : List Dat) : Prop :=
  ∀ (c : σ) pre d post v u h tk, ds = pre ++ d :: post → d ∈ ds → DatIn cst v d → P pre c → Fr h₀ env.locals h (frS stored u m₀) → AllObj ws (fun its => News h₀ env.locals h (its ++ Led c) →
    wpAny (model prog w) A (assign target env v) (fun _ s₂ => wpAny (model prog w) A (execs body env) (UnrPostW h₀ env.locals { s with heap := h, toks := tk } its (fun m' n' => SubL keep n' ∧ ∃ c', (∀ z, stored.contains z = false → m' z = m₀ z) ∧ n' = Led c' ∧ P (pre ++ [d]) c') Q) E s₂) E { s with heap := h, toks := tk })
theorem rest_dat {σ : Type} {ws : List (Addr × String)} {keep cst : List (Addr × Obj)} {stored : List Str} {m₀ : Str → Option Value} {Led : σ → List (Addr × Obj)} {P : List Dat → σ → Prop} {ds : List Dat}
    (turn : DatTurn prog w A E h₀ env target body Q s ws keep cst stored m₀ Led P ds)
    (done : ∀ (c : σ) u h tk, P ds c → Fr h₀ env.locals h (frS stored u m₀) → News h₀ env.locals h (Led c) → Q .next { s with heap := h, toks := tk }) :
    ∀ (post : List Dat) (vs : List Value) (pre : List Dat) (c : σ) (m : Str → Option Value), DatAll cst vs post → ds = pre ++ post → P pre c → (∀ z, stored.contains z = false → m z = m₀ z) →
      ItemsRest prog w A E h₀ env target body Q s ws keep (vs.map .val) m (Led c) := by
  have fr : ∀ {m : Str → Option Value}, (∀ z, stored.contains z = false → m z = m₀ z) → m = frS stored m m₀ := by
    intro m hm
    funext z
    unfold frS
    by_cases hz : stored.contains z = true
    · rw [if_pos hz]
    · rw [if_neg hz]; exact hm z (by simpa using hz)
  intro post
  induction post with
  | nil =>
    intro vs pre c m hd e hp hm
    cases hd
    rw [List.append_nil] at e
    subst e
    intro h tk F N
    rw [fr hm] at F
    exact done c _ h tk hp F N
  | cons d post ih =>
    intro vs pre c m hd e hp hm
    cases hd with
    | cons hv hr =>
      rename_i v' vs'
      refine ItemsRest.val ?_
      intro h tk F
      rw [fr hm] at F
      have T := turn c pre d post _ _ h tk e (by rw [e]; simp) hv hp F
      refine allObj_mono (fun its hT N => ?_) T
      refine wpAny_mono (hT N) (fun _ s₂ h₂ => wpAny_mono h₂ (fun f s₃ h₃ => ?_) fun _ _ e => e) fun _ _ e => e
      have go : UnrEndW h₀ env.locals { s with heap := h, toks := tk } its (fun m' n' => SubL keep n' ∧ ∃ c', (∀ z, stored.contains z = false → m' z = m₀ z) ∧ n' = Led c' ∧ P (pre ++ [d]) c') s₃ →
          UnrEndW h₀ env.locals { s with heap := h, toks := tk } its (fun m' n' => SubL keep n' ∧ ItemsRest prog w A E h₀ env target body Q s ws keep (vs'.map .val) m' n') s₃ := by
        rintro ⟨h', tk', m', n', e1, F', N', off, sb, c', hm', rfl, hp'⟩
        exact ⟨h', tk', m', _, e1, F', N', off, sb, ih _ (pre ++ [d]) c' m' hr (by rw [e, List.append_assoc]; rfl) hp' hm'⟩
      cases f with
      | ret v => exact h₃
      | brk => exact h₃
      | next => exact go h₃
      | cont => exact go h₃
/-- an If whose test comes out false on every way: the ways meet -/
def JoinF (s : Shared) (b : Bool) (s' : Shared) : Prop := b = false ∧ ∃ tk, s' = { s with toks := tk }
theorem JoinF.intro {s : Shared} {tk : Nat} : JoinF s false { s with toks := tk } := ⟨rfl, tk, rfl⟩
theorem JoinF.no {s s' : Shared} {b : Bool} (h : False) : JoinF s b s' := h.elim
theorem if_join {M : Model} {A : Around} {E : Value → Shared → Prop} {s : Shared} {env : Env} {test : Expr} {body : List Stmt} {pos : Pos} {Q : Flow → Shared → Prop}
    (h1 : wpAny M A (isTrue test env (eval test env)) (JoinF s) E s) (h2 : ∀ tk, Q .next { s with toks := tk }) : wpAny M A (exec (.If test body [] pos) env) Q E s := by
  refine wpAny_If (wpAny_mono h1 (fun b s' hb => ?_) fun _ _ e => e)
  obtain ⟨rfl, tk, rfl⟩ := hb
  exact wpAny_execs_nil (h2 tk)
theorem em4 {u m₀ : Str → Option Value} {a b c d : Str} {v1 v2 v3 v4 : Option Value} {z : Str} (h : [a, b, c, d].contains z = false) : (if z = d then v4 else if z = c then v3 else if z = b then v2 else if z = a then v1 else frS [a, b, c, d] u m₀ z) = m₀ z := by
  have h' := h
  simp only [List.contains_cons, List.contains_nil, Bool.or_false, Bool.or_eq_false_iff, beq_eq_false_iff_ne, ne_eq] at h'
  rw [if_neg h'.2.2.2, if_neg h'.2.2.1, if_neg h'.2.1, if_neg h'.1]
  unfold frS
  rw [if_neg (by rw [h]; decide)]
/-- between the turns of the marks' loop -/
def MarkRest (M l : Addr) (us : List Value) (n : Nat) (news : List (Addr × Obj)) (stored : List Str) (m₀ : Str → Option Value) (f : Dat → Dat) (pre : List Dat) (m' : Str → Option Value) (n' : List (Addr × Obj)) : Prop :=
  ∃ c' : List Value × Nat, (∀ z, stored.contains z = false → m' z = m₀ z) ∧ n' = (M, listOf c'.1.toArray c'.2) :: (l, listOf us.toArray n) :: news ∧ DatAll news c'.1 (pre.map f)
theorem marks_loop {prog : Program} {w : World} {A : Around} {E : Value → Shared → Prop} {s : Shared} {env : Env} {h₀ : Heap} {target : Expr} {body : List Stmt} {Q : Flow → Shared → Prop} {M l : Addr} {us : List Value} {n : Nat} {news : List (Addr × Obj)} {ds : List Dat} {m₀ : Str → Option Value} (stored : List Str) (f : Dat → Dat)
    (hh : A.handled = none) (F : Fr h₀ env.locals s.heap m₀) (N : News h₀ env.locals s.heap ((M, listOf #[] 0) :: (l, listOf us.toArray n) :: news)) (hd : DatAll news us ds)
    (turn : ∀ vs k pre d post v u h tk I oI, ds = pre ++ d :: post → d ∈ ds → DatIn news v d → DatAll news vs (pre.map f) → vs.length = pre.length → @LT.lt Nat _ M I → @LT.lt Nat _ l I → AllLt I news → oI.cls = .type "list_iterator" → Fr h₀ env.locals h (frS stored u m₀) → News h₀ env.locals h ((I, oI) :: (M, listOf vs.toArray k) :: (l, listOf us.toArray n) :: news) →
      wpAny (model prog w) A (assign target env v) (fun _ s₂ => wpAny (model prog w) A (execs body env) (UnrPostW h₀ env.locals { s with heap := h, toks := tk } [(I, oI)] (fun m' n' => SubL [(l, listOf us.toArray n)] n' ∧ MarkRest M l us n news stored m₀ f (pre ++ [d]) m' n') Q) E s₂) E { s with heap := h, toks := tk })
    (done : ∀ vs k u h tk, DatAll news vs (ds.map f) → Fr h₀ env.locals h (frS stored u m₀) → News h₀ env.locals h ((M, listOf vs.toArray k) :: (l, listOf us.toArray n) :: news) → Q .next { s with heap := h, toks := tk }) :
    wpAny (model prog w) A (pyIter (.ref l)) (fun it s₂ => TurnsAt prog w A h₀ env target body Q E it s₂) E s := by
  refine iter_listTurns (vs := us) hh F N (.tail _ (.head _)) rfl rfl fun I hI => ?_
  refine rest_dat (σ := List Value × Nat) (Led := fun c => (M, listOf c.1.toArray c.2) :: (l, listOf us.toArray n) :: news) (P := fun pre c => DatAll news c.1 (pre.map f)) (cst := news) (stored := stored) (ds := ds) ?_ ?_ ds us [] ([], 0) m₀ hd rfl .nil (fun _ _ => rfl)
  · intro c pre d post v u h tk e hm hv hp F'
    refine AllObj.cons fun oI hc => AllObj.nil fun N' => ?_
    have hI' : ∀ p ∈ (M, listOf c.1.toArray c.2) :: (l, listOf us.toArray n) :: news, p.1 < I := by
      intro p hp
      rcases List.mem_cons.mp hp with rfl | hp
      · exact hI (M, listOf #[] 0) (by simp)
      · exact hI p (List.mem_cons_of_mem _ hp)
    exact turn c.1 c.2 pre d post v u h tk I oI e hm hv hp (by rw [hp.length, List.length_map]) (hI' _ (.head _)) (hI' _ (.tail _ (.head _))) (allLt_of fun q hq => hI' q (.tail _ (.tail _ hq))) hc F' N'
  · intro c u h tk hp F' N'
    exact done c.1 c.2 u h tk hp F' N'
theorem mark_end {h₀ h' : Heap} {L M l I : Addr} {us vs' : List Value} {n k' tk : Nat} {news all : List (Addr × Obj)} {m₀ m' : Str → Option Value} {stored : List Str} {f : Dat → Dat} {pre : List Dat} {s₁ : Shared} {oI : Obj} (F : Fr h₀ L h' m') (N : News h₀ L h' all) (h1 : (I, oI) ∈ all) (h2 : (M, listOf vs'.toArray k') ∈ all) (h3 : (l, listOf us.toArray n) ∈ all) (h4 : ∀ p ∈ news, p ∈ all)
    (off : ∀ p ∈ (M, listOf vs'.toArray k') :: (l, listOf us.toArray n) :: news, p.1 ≠ I) (hm : ∀ z, stored.contains z = false → m' z = m₀ z) (hd : DatAll news vs' (pre.map f)) :
    UnrEndW h₀ L s₁ [(I, oI)] (fun m' n' => SubL [(l, listOf us.toArray n)] n' ∧ MarkRest M l us n news stored m₀ f pre m' n') { s₁ with heap := h', toks := tk } := by
  refine ⟨h', tk, m', (M, listOf vs'.toArray k') :: (l, listOf us.toArray n) :: news, rfl, F, fun p hp => ?_, fun p hp q hq => ?_, ⟨by simp, trivial⟩, ⟨vs', k'⟩, hm, rfl, hd⟩
  · rcases List.mem_cons.mp hp with rfl | hp
    · exact N _ h1
    · rcases List.mem_cons.mp hp with rfl | hp
      · exact N _ h2
      · rcases List.mem_cons.mp hp with rfl | hp
        · exact N _ h3
        · exact N _ (h4 p hp)
  · rw [List.mem_singleton.mp hq]; exact off p hp
theorem mark_fin {h₀ h' : Heap} {L M l I : Addr} {us vs' : List Value} {n k' tk : Nat} {news : List (Addr × Obj)} {m₀ m' : Str → Option Value} {stored : List Str} {f : Dat → Dat} {pre : List Dat} {s₁ : Shared} {oI : Obj} (F : Fr h₀ L h' m') (N : News h₀ L h' ((I, oI) :: (M, listOf vs'.toArray k') :: (l, listOf us.toArray n) :: news))
    (hMI : @LT.lt Nat _ M I) (hlI : @LT.lt Nat _ l I) (hIn : AllLt I news) (hm : ∀ z, stored.contains z = false → m' z = m₀ z) (hd : DatAll news vs' (pre.map f)) :
    UnrEndW h₀ L s₁ [(I, oI)] (fun m' n' => SubL [(l, listOf us.toArray n)] n' ∧ MarkRest M l us n news stored m₀ f pre m' n') { s₁ with heap := h', toks := tk } := by
  refine mark_end F N (.head _) (.tail _ (.head _)) (.tail _ (.tail _ (.head _))) (fun p hp => .tail _ (.tail _ (.tail _ hp))) (fun p hp => ?_) hm hd
  rcases List.mem_cons.mp hp with rfl | hp
  · exact Nat.ne_of_lt hMI
  · rcases List.mem_cons.mp hp with rfl | hp
    · exact Nat.ne_of_lt hlI
    · exact Nat.ne_of_lt (tb_ltOf hIn p hp)
end
end Mine
end
section
set_option maxHeartbeats 2000000
set_option Elab.async false
namespace Mine
open PySem PySem.Spec PySem.Calls PyProof.Rows PyProof.Rows.LCg PyProof.Rows.LCt PySem.W
def Halt (P : Prop) : Prop := P
theorem pick_from {us : List Value} {x : Int} (h : 0 ≤ x) : (slicePick us.toArray (some x) none none).toList = us.drop x.toNat := by
  have e : sliceBounds (some x) none none us.toArray.size = (((min x.toNat us.toArray.size : Nat) : Int), ((us.toArray.size : Nat) : Int), 1) := by
    simp only [sliceBounds, Option.getD_none, show (1 : Int) > 0 by decide, if_true, if_neg (show ¬ (x < 0) by omega)]
    congr 1
    omega
  rw [kmk_pick_nat _ e]
  show ((us.drop (min x.toNat us.toArray.size)).take (us.toArray.size - min x.toNat us.toArray.size)) = _
  rw [List.size_toArray, kmk_drop_min, List.take_of_length_le (by rw [List.length_drop]; omega)]
theorem pick_upto {us : List Value} {y : Int} (h : 0 ≤ y) : (slicePick us.toArray none (some y) none).toList = us.take y.toNat := by
  have e : sliceBounds none (some y) none us.toArray.size = (((0 : Nat) : Int), ((min y.toNat us.toArray.size : Nat) : Int), 1) := by
    simp only [sliceBounds, Option.getD_none, show (1 : Int) > 0 by decide, if_true, if_neg (show ¬ (y < 0) by omega)]
    congr 1
    congr 1
    omega
  rw [kmk_pick_nat _ e]
  show ((us.drop 0).take (min y.toNat us.toArray.size - 0)) = _
  rw [List.drop_zero, Nat.sub_zero, List.size_toArray, kmk_take_min]
theorem datAll_drop {nw : List (Addr × Obj)} {us : List Value} {ds : List Dat} (h : DatAll nw us ds) : ∀ n, DatAll nw (us.drop n) (ds.drop n) := by
  intro n
  induction n generalizing us ds with
  | zero => exact h
  | succ n ih =>
    cases h with
    | nil => exact .nil
    | cons hv hr => exact ih hr
theorem datAll_take {nw : List (Addr × Obj)} {us : List Value} {ds : List Dat} (h : DatAll nw us ds) : ∀ n, DatAll nw (us.take n) (ds.take n) := by
  intro n
  induction n generalizing us ds with
  | zero => exact .nil
  | succ n ih =>
    cases h with
    | nil => exact .nil
    | cons hv hr => exact .cons hv (ih hr)
theorem datAll_at {nw : List (Addr × Obj)} {us : List Value} {ds : List Dat} (h : DatAll nw us ds) {i : Nat} {v : Value} (hv : us[i]? = some v) : ∃ d, ds[i]? = some d ∧ DatIn nw v d := by
  have hi : i < ds.length := by rw [← h.length]; exact (List.getElem?_eq_some_iff.mp hv).1
  obtain ⟨v', hv', hD⟩ := h.get hi
  rw [hv] at hv'
  cases hv'
  exact ⟨_, List.getElem?_eq_getElem hi, hD⟩
/-- the end of a turn of a search: nothing that stands is changed -/
theorem search_fin {h₀ h' : Heap} {L : Addr} {a b : Addr × Obj} {nw own : List (Addr × Obj)} {x : Str} {stored : List Str} {m₀ m' : Str → Option Value} {pre : List Int} {s₁ : Shared} {tk : Nat} (F : Fr h₀ L h' m') (N : News h₀ L h' (a :: b :: (nw ++ own)))
    (hr : ∀ z, z ≠ x → stored.contains z = false → m' z = m₀ z) :
    InvEndN h₀ L (KstS (fun _ : Unit => a :: b :: nw) (fun _ => []) (fun _ => True) x stored m₀ (fun _ _ => True) pre) own ((a :: b :: nw).map (·.1)) s₁ { s₁ with heap := h', toks := tk } := by
  refine kst_end () F N (fun p hp => ?_) (fun p hp => .tail _ (.tail _ (List.mem_append.mpr (.inr hp)))) rfl trivial (List.forall_mem_nil _) (fun z h1 _ h3 => hr z h1 h3) trivial
  rcases List.mem_cons.mp hp with rfl | hp
  · exact .head _
  · rcases List.mem_cons.mp hp with rfl | hp
    · exact .tail _ (.head _)
    · exact .tail _ (.tail _ (List.mem_append.mpr (.inl hp)))
theorem ne_st {st : List Str} {z c : Str} (h : st.contains z = false) (e : st.contains c = true) : ¬ z = c := fun h' => by rw [h', e] at h; cases h
theorem not_sub {st : List Str} {z : Str} (st' : List Str) (h : st.contains z = false) (e : ∀ c ∈ st', st.contains c = true) : ¬ st'.contains z = true := fun h' => by
  have := e z (by simpa using h')
  rw [h] at this; cases this
theorem not_st {st : List Str} {z : Str} (h : st.contains z = false) : ¬ st.contains z = true := by rw [h]; decide
theorem fr_known {h₀ h : Heap} {L : Addr} {m : Str → Option Value} {a b c : Str} {va vc : Value} {n : Int} {t : Tok} (F : Fr h₀ L h m) (ha : m a = some va) (hb : m b = some (.int n t)) (hc : m c = some vc) :
    ∃ (u : Str → Option Value) (t : Tok), Fr h₀ L h (fun y => if y = a then some va else if y = b then some (.int n t) else if y = c then some vc else u y) := by
  refine ⟨m, t, ?_⟩
  have e : (fun y => if y = a then some va else if y = b then some (.int n t) else if y = c then some vc else m y) = m := by
    funext y
    by_cases h1 : y = a
    · rw [if_pos h1, h1, ha]
    · rw [if_neg h1]
      by_cases h2 : y = b
      · rw [if_pos h2, h2, hb]
      · rw [if_neg h2]
        by_cases h3 : y = c
        · rw [if_pos h3, h3, hc]
        · rw [if_neg h3]
  rw [e]; exact F
theorem ints_end {vs : List Value} {ns : List Int} (h : IntsAre vs ns) (q : Int) (t : Tok) : IntsAre (vs ++ [.int q t]) (ns ++ [q]) := by
  induction h with
  | nil => exact .cons _ _ .nil
  | cons n u _ ih => exact .cons n u ih
section
variable {prog : Program} {w : World} {A : Around} {E : Value → Shared → Prop} {s : Shared} {h₀ : Heap} {L : Addr} {m : Str → Option Value} {env : Env}
/-- a turn of a comprehension over data that makes an int of each -/
def IntTurn (prog : Program) (w : World) (A : Around) (h₀ : Heap) (L : Addr) (m : Str → Option Value) (env : Env) (elt : Expr) (x : Str) (scope : Scope) (cl : List (Str × Addr)) (s : Shared) (nw : List (Addr × Obj)) (ds : List Dat) (f : Dat → Int) : Prop :=
  ∀ (v : Value) (d : Dat) I oI C oC D ys m₂ h tk (QQ : Value → Shared → Prop) (E' : Value → Shared → Prop), d ∈ ds → DatIn nw v d → NsObj oC m₂ → m₂ x = some v → Fr h₀ L h m → News h₀ L h ((I, oI) :: (C, oC) :: (D, lst ys) :: nw) →
    (∀ t h' tk', Fr h₀ L h' m → News h₀ L h' ((I, oI) :: (C, oC) :: (D, lst ys) :: nw) → QQ (.int (f d) t) { s with heap := h', toks := tk' }) →
    wpAny (model prog w) A (eval elt (compEnvC scope cl C env)) QQ E' { s with heap := h, toks := tk }
theorem rest_ints {elt : Expr} {x : Str} {scope : Scope} {cl : List (Str × Addr)} {S : List (Addr × Obj) → Prop} {Fin : List Value → List (Addr × Obj) → Prop} {nw : List (Addr × Obj)} {us : List Value} {ds : List Dat} {f : Dat → Int}
    (hd : DatAll nw us ds) (T : IntTurn prog w A h₀ L m env elt x scope cl s nw ds f) (hS : S nw) (hF : ∀ ys, IntsAre ys (ds.map f) → Fin ys nw) :
    ∀ k i ys, i + k = us.length → IntsAre ys ((ds.take i).map f) → CompRest prog w A h₀ L m env elt x scope cl s S (fun i v => us.toArray[i]? = some v) Fin k i ys nw := by
  intro k
  induction k with
  | zero =>
    intro i ys e hy
    refine CompRest.zero (hF ys ?_)
    rwa [List.take_of_length_le (by rw [← hd.length]; omega)] at hy
  | succ k ih =>
    intro i ys e hy
    refine CompRest.succ ?_
    intro v I oI C oC D m₂ h tk E' hv hC hx F N off ne
    rw [List.getElem?_toArray] at hv
    obtain ⟨d, hdi, hD⟩ := datAll_at hd hv
    refine T v d I oI C oC D ys m₂ h tk _ E' (List.mem_of_getElem? hdi) hD hC hx F N fun t h' tk' F' N' => ?_
    refine ⟨h', tk', nw, rfl, F', N', off, hS, ih (i + 1) _ (by omega) ?_⟩
    rw [List.take_add_one, hdi, List.map_append]
    exact ints_end hy _ t
end
theorem dat_four {nw : List (Addr × Obj)} {v : Value} {p q g a : Int} (h : DatIn nw v (Dat.tuple [.int p, .int q, .int g, .int a])) : ∃ T t1 t2 t3 t4 n, v = .ref T ∧ (T, ({ cls := .type "tuple", data := .seq #[.int p t1, .int q t2, .int g t3, .int a t4] n } : Obj)) ∈ nw := by
  cases h with
  | tuple hm ha =>
    cases ha with
    | cons h1 ha => cases h1; cases ha with
      | cons h2 ha => cases h2; cases ha with
        | cons h3 ha => cases h3; cases ha with
          | cons h4 ha => cases h4; cases ha; exact ⟨_, _, _, _, _, _, rfl, hm⟩
section
variable {prog : Program} {w : World} {A : Around} {E : Value → Shared → Prop} {s : Shared} {h₀ : Heap} {L l : Addr} {value slice : PySem.Expr} {news L9 : List (Addr × Obj)} {us : List Value} {ds : List Dat} {n : Nat} {k : Int} {u : Tok} {Q : Value → Shared → Prop}
/-- an item of a list of four ints each -/
theorem item_four {B : Int → Int → Int → Int → Prop} (N : News h₀ L s.heap news) (hm : (l, listOf us.toArray n) ∈ news) (hd : DatAll L9 us ds) (hsh : ∀ d ∈ ds, ∃ p q g a, d = Dat.tuple [.int p, .int q, .int g, .int a] ∧ B p q g a) (h0 : 0 ≤ k) (h1 : k < (ds.length : Int)) (hfit : k < 2 ^ 63)
    (hs : subscripted slice false (.ref l) (.int k u) = operate [.ref l, .int k u] (getItem (.ref l) (.int k u)))
    (h : ∀ T p q g a t1 t2 t3 t4 c, ds[k.toNat]? = some (Dat.tuple [.int p, .int q, .int g, .int a]) → B p q g a → (T, ({ cls := .type "tuple", data := .seq #[.int p t1, .int q t2, .int g t3, .int a t4] c } : Obj)) ∈ L9 → Q (.ref T) s) :
    wpAny (model prog w) A (subscriptTail value slice (.ref l) (.int k u)) Q E s := by
  refine kd_item N hm hd h0 h1 hfit (fun v d hk hdm hD => ?_) hs
  obtain ⟨p, q, g, a, rfl, hB⟩ := hsh d hdm
  obtain ⟨T, t1, t2, t3, t4, c, rfl, hT⟩ := dat_four hD
  exact h T p q g a t1 t2 t3 t4 c hk hB hT
/-- an item of a list of texts -/
theorem item_text {B : Str → Prop} (N : News h₀ L s.heap news) (hm : (l, listOf us.toArray n) ∈ news) (hd : DatAll L9 us ds) (hsh : ∀ d ∈ ds, ∃ x, d = Dat.str x ∧ B x) (h0 : 0 ≤ k) (h1 : k < (ds.length : Int)) (hfit : k < 2 ^ 63)
    (hs : subscripted slice false (.ref l) (.int k u) = operate [.ref l, .int k u] (getItem (.ref l) (.int k u)))
    (h : ∀ x t, ds[k.toNat]? = some (Dat.str x) → B x → Q (.str x t) s) :
    wpAny (model prog w) A (subscriptTail value slice (.ref l) (.int k u)) Q E s := by
  refine kd_item N hm hd h0 h1 hfit (fun v d hk hdm hD => ?_) hs
  obtain ⟨x, rfl, hB⟩ := hsh d hdm
  cases hD with
  | str _ t => exact h x t hk hB
end
end Mine
end
section
open PySem PySem.W PyProof.Rows PySem.Spec PySem.Calls
set_option Elab.async false
namespace Mine
/-- a contract whose answer is a list of data -/
def ConD (prog : Program) (w : World) (K : Frag) (p : Program) (loose : List Str) (f : Addr) (vs : List Value) (dx ux : Nat)
    (In : Heap → List (Addr × Obj) → Prop) (P : List Dat → Prop) : Prop :=
  ∀ (mean : ExcName → Option Value) (mg mb : Str → Option Value) (dp un : Nat) (gd : Option (List Code)) (cn : Str) (cs : Scope) (a : Addr) (ccd : Value) (cl : List (Str × Addr)) (outer : List Env)
    (A₀ : Around) (base h₀ : Heap) (L : Addr) (m : Str → Option Value) (news : List (Addr × Obj)) (s : Shared) (Q E : Value → Shared → Prop),
    Below A₀ base outer h₀ → Fr h₀ L s.heap m → K.In h₀ → News h₀ L s.heap news → Top p loose mean mg mb h₀ → cs.kind = .function →
    In base news → dp + dx < recursionLimit → un + ux < cLine →
    (∀ (D : Addr) (us : List Value) (n : Nat) (ds : List Dat) (tl : List (Addr × Obj)) h' tk', Fr h₀ L h' m → News h₀ L h' ((D, listOf us.toArray n) :: (news ++ tl)) → (∀ q ∈ news, q.1 < D) → OwnOff tl (D :: news.map (·.1)) → DatAll (news ++ tl) us ds → P ds → Q (.ref D) { s with heap := h', toks := tk' }) →
    wpAny (model prog w) (ktrTop dp un gd cn cs L a ccd cl outer) (call (.ref f) vs) Q E s
theorem end_D {h₀ h' : Heap} {L D : Addr} {m : Str → Option Value} {s : Shared} {Q : Value → Shared → Prop} {us : List Value} {ds : List Dat} {n : Nat} {tk' : Nat} {rest news tl : List (Addr × Obj)} {P : List Dat → Prop}
    (hret : ∀ (D : Addr) (us : List Value) (n : Nat) (ds : List Dat) (tl : List (Addr × Obj)) h' tk', Fr h₀ L h' m → News h₀ L h' ((D, listOf us.toArray n) :: (news ++ tl)) → (∀ q ∈ news, q.1 < D) → OwnOff tl (D :: news.map (·.1)) → DatAll (news ++ tl) us ds → P ds → Q (.ref D) { s with heap := h', toks := tk' })
    (F : Fr h₀ L h' m) (N : News h₀ L h' rest) (h1 : (D, listOf us.toArray n) ∈ rest) (h2 : ∀ p ∈ news, p ∈ rest) (h3 : ∀ p ∈ tl, p ∈ rest) (hD : ∀ q ∈ news, q.1 < D) (ho : OwnOff tl (D :: news.map (·.1))) (hd : DatAll (news ++ tl) us ds) (hp : P ds) :
    Q (.ref D) { s with heap := h', toks := tk' } := by
  refine hret D us n ds tl _ _ F (fun p hp => ?_) hD ho hd hp
  rcases List.mem_cons.mp hp with rfl | hp
  · exact N _ h1
  · rcases List.mem_append.mp hp with hp | hp
    · exact N _ (h2 _ hp)
    · exact N _ (h3 _ hp)
end Mine
end
section
open PySem PySem.W PyProof.Rows PySem.Spec PySem.Calls
set_option Elab.async false
namespace Mine
section
variable {prog : Program} {w : World} {A : Around} {E : Value → Shared → Prop} {s : Shared} {a b c : Int} {t u : Tok}
theorem abs_as {Q : Value → Shared → Prop} (e : (if a < 0 then -a else a) = c) (h : ∀ u tk, Q (.int c u) { s with toks := tk }) : wpAny (model prog w) A (call (.builtin "abs") [.int a t]) Q E s := by
  subst e; exact call_abs_int h
theorem fdiv_as {Q : Value → Shared → Prop} (hb : b ≠ 0) (hl : b.natAbs.log2 < 9000) (e : a.fdiv b = c) (h : Q (.int c s.toks) { s with toks := s.toks + 1 }) : wpAny (model prog w) A (binaryOp .FloorDiv (.int a t) (.int b u)) Q E s := by
  subst e; exact floordiv_int hb h (Or.inl (PyProof.noPylong_of_log2 hl))
theorem mod_as {Q : Value → Shared → Prop} (hb : b ≠ 0) (e : a.fmod b = c) (h : Q (.int c s.toks) { s with toks := s.toks + 1 }) : wpAny (model prog w) A (binaryOp .Mod (.int a t) (.int b u)) Q E s := by
  subst e; exact mod_int' hb h
theorem d3600 (hb : 0 ≤ b) (hb' : b < 60) : (3600 * a + 60 * b).fdiv 3600 = a := by rw [Int.fdiv_eq_ediv_of_nonneg _ (by decide)]; omega
theorem d60 : (3600 * a + 60 * b).fdiv 60 = 60 * a + b := by rw [Int.fdiv_eq_ediv_of_nonneg _ (by decide)]; omega
theorem m60 (hb : 0 ≤ b) (hb' : b < 60) : (60 * a + b).fmod 60 = b := by rw [Int.fmod_eq_emod_of_nonneg _ (by decide)]; omega
end
section
variable {M : Model} {A : Around} {E : Value → Shared → Prop} {s : Shared}
/-- two ways that meet: they leave the same bool, and the state but for the counter -/
def JoinB (x : Bool) (s : Shared) (v : Value) (s' : Shared) : Prop := ∃ b tk, v = .bool b ∧ b = x ∧ s' = { s with toks := tk }
theorem join_bool {x : Bool} {t : Sem Value} {Q : Value → Shared → Prop} (h1 : wpAny M A t (JoinB x s) E s) (h2 : ∀ tk, Q (.bool x) { s with toks := tk }) : wpAny M A t Q E s := by
  refine wpAny_mono h1 (fun v s' h => ?_) fun _ _ e => e
  obtain ⟨b, tk, rfl, rfl, rfl⟩ := h
  exact h2 tk
end
end Mine
end
section
open PySem PySem.W PyProof.Rows PySem.Spec PySem.Calls
set_option Elab.async false
set_option maxRecDepth 100000
set_option maxHeartbeats 8000000
set_option linter.unusedVariables false
namespace Mine
theorem us_size {us : List Value} {ds : List Dat} (h : us.length = ds.length) (hl : ds.length ≤ 59) : us.toArray.size ≤ sizeLine := by
  rw [List.size_toArray, h]; exact Nat.le_trans hl (by decide)
theorem round_con (w : World) (number : Int) (l : Addr) (us : List Value) (ds ms : List Dat) (t : Tok) (n0 : 2 ≤ number) (n1 : number ≤ 168) (R : RoundOk number ds ms) :
    Con (RowW.prog (OpenRow.toRowW (OpenLaw.row PySem.Challenge.rw_xg0011_02))) w (hd.heap_39 w.params) hd.view_39 (looseW hd.view_39 [Str.ofString "UTC_ZONES", Str.ofString "TIMEZONE_RE"]) 117 [.int number t, .ref l] 4 256 (fun b nw => ∃ n, (l, listOf us.toArray n) ∈ nw ∧ DatAll nw us ds) (OutB true) := by
  w_top off
  k_with_none
  k_fill
  unfold Con
  intro mean mg mb dp un gd cn cs aa ccd cl outer A₀ base h₀ L m news s Q E B F X N T hk hin hd hu hret
  obtain ⟨n, hin, hda⟩ := hin
  have N2 : News h₀ L s.heap ((l, listOf us.toArray n) :: news) := fun p hp => by
    rcases List.mem_cons.mp hp with rfl | hp
    · exact N _ hin
    · exact N p hp
  clear N
  have hlen := hda.length
  have hl0 := R.len0
  have hl1 := R.len1
  have hsh := R.shape
  have kMk : KdMark := kdMark
  refine wpAny_call ?_
  k_dflt cell_enter
  have hlt := lt_of_news ‹News _ _ _ ((l, _) :: news)›
  repeat' (first
    | (k_unfold; (try dsimp only))
    | (k_end; wrow_close)
    | ((with_reducible show wpAny _ _ (exec (Stmt.For (Expr.Tuple _ _ _) (Expr.Name _ _) _ [] _) _) _ _ _); (k_here; (rename Fr _ _ _ _ => lF'); (with_unfolding_all refine' For_turns lF' ?_); k_whole))
    | ((with_reducible show InvEndN _ _ _ _ _ _ _); ((rename News _ _ _ _ => nE'); k_dflt ((first | (refine search_fin (by k_asm) nE' ?_) | (refine search_fin (by k_asm) (fun p hp => nE' p (List.Mem.tail _ hp)) ?_)); (intro z h1 h3); first | rw [if_neg (ne_st (c := PySem.Str.ofString "j") h3 (by rfl)), if_neg (not_sub [PySem.Str.ofString "one", PySem.Str.ofString "other", PySem.Str.ofString "due", PySem.Str.ofString "cost"] h3 (by decide)), if_neg h1, if_neg (not_st h3)] | rw [if_neg (ne_st (c := PySem.Str.ofString "cost") h3 (by rfl)), if_neg (ne_st (c := PySem.Str.ofString "due") h3 (by rfl)), if_neg (ne_st (c := PySem.Str.ofString "one") h3 (by rfl)), if_neg (ne_st (c := PySem.Str.ofString "other") h3 (by rfl)), if_neg h1, if_neg (not_st h3)])))
    | (((with_reducible show NoGo (@bne _ _ _ _) _); k_dflt (refine NoGo.intro (bne_eq_false_iff_eq.mpr (nogo1 (by with_reducible assumption) (by with_reducible assumption) (by with_reducible assumption) (by with_reducible assumption) (by with_reducible assumption))) ?_)))
    | (((with_reducible show NoGo false _); (refine NoGo.intro rfl ?_)))
    | (((with_reducible show NoGo true _); first | exact (nog0 (by with_reducible assumption) (by with_reducible assumption) (by with_reducible assumption) (by with_reducible assumption) (by with_reducible assumption) (by with_reducible assumption) (by with_reducible assumption)).elim | exact (nog1 (by with_reducible assumption) (by with_reducible assumption) (by with_reducible assumption) (by with_reducible assumption) (by with_reducible assumption) (by with_reducible assumption) (by with_reducible assumption) (by with_reducible assumption)).elim | exact (nog2 (by with_reducible assumption) (by with_reducible assumption) (by with_reducible assumption) (by with_reducible assumption) (by with_reducible assumption) (by with_reducible assumption) (by with_reducible assumption) (by with_reducible assumption)).elim))
    | ((with_reducible show LCg.CompSrc _ _ _ _ _ _ _ _ _ _ _ _ _ _); (k_here; k_dflt (refine (id : Halt (LCg.CompSrc _ _ _ _ _ _ _ _ _ _ _ _ _ _) → _) ?_)))
    | ((with_reducible show wpAny _ _ (exec (Stmt.Assign _ (Expr.ListComp _ _ _ _) _) _) _ _ _); (k_here; k_dflt (refine LCg.Assign_ListComp_U (F₀ := by k_asm) (by rfl) (by with_unfolding_all rfl) (by with_unfolding_all rfl) (by decide) (by rfl) (by decide) (by rfl) (by rfl) (by rfl) ?_)))
    | ((k_here; (with_reducible show wpAny _ _ (subscriptTail (Expr.Name _ _) (PySem.Expr.Slice _ _ none _) (Value.ref _) (Value.ref _)) _ _ _); k_dflt (refine (id : Halt (wpAny _ _ _ _ _ _) → _) ?_)))
    | ((with_reducible show wpAny _ _ (subscriptTail (Expr.Name _ _) (Expr.BinOp _ _ _ _) (Value.ref _) (Value.int _ _)) _ _ _); first | ((refine' item_text ?i1 ?i2 ?i3 ?i4 ?i5 ?i6 ?i7 ?i8 ?_; (case i1 => k_asm); (case i2 => k_memK); (case i3 => assumption); (case i4 => assumption); (case i5 => kd_idx); (case i6 => kd_idx); (case i7 => kd_idx); (case i8 => with_unfolding_all rfl)); intro x' t' hk' hB'; (try dsimp only at hB')) | ((refine' item_four ?i1 ?i2 ?i3 ?i4 ?i5 ?i6 ?i7 ?i8 ?_; (case i1 => k_asm); (case i2 => k_memK); (case i3 => assumption); (case i4 => assumption); (case i5 => kd_idx); (case i6 => kd_idx); (case i7 => kd_idx); (case i8 => with_unfolding_all rfl)); intro T' p' q' g' a' t1' t2' t3' t4' c' hk' hB' hT'; (try dsimp only at hB')))
    | ((with_reducible show wpAny _ _ (subscriptTail (Expr.Name _ _) (Expr.Name _ _) (Value.ref _) (Value.int _ _)) _ _ _); first | ((refine' item_text ?i1 ?i2 ?i3 ?i4 ?i5 ?i6 ?i7 ?i8 ?_; (case i1 => k_asm); (case i2 => k_memK); (case i3 => assumption); (case i4 => assumption); (case i5 => kd_idx); (case i6 => kd_idx); (case i7 => kd_idx); (case i8 => with_unfolding_all rfl)); intro x' t' hk' hB'; (try dsimp only at hB')) | ((refine' item_four ?i1 ?i2 ?i3 ?i4 ?i5 ?i6 ?i7 ?i8 ?_; (case i1 => k_asm); (case i2 => k_memK); (case i3 => assumption); (case i4 => assumption); (case i5 => kd_idx); (case i6 => kd_idx); (case i7 => kd_idx); (case i8 => with_unfolding_all rfl)); intro T' p' q' g' a' t1' t2' t3' t4' c' hk' hB' hT'; (try dsimp only at hB')))
    | ((with_reducible show wpAny _ _ (binaryOp .Pow (Value.int _ _) (Value.int _ _)) _ _ _); (k_here; k_dflt (refine pow_int_small (by decide) (by decide) (by omega) ?_)))
    | ((k_here; (with_reducible show wpAny _ _ (call (Value.ref 79) [Value.int _ _]) _ _ _); (refine' call_whole ?k1 ?k2 ?k3 ?k4 ?k5 ?kK ?kd ?ku ?_); (case k1 => k_asm); (case k2 => k_asm); (case k3 => k_asm); (case k4 => k_asm); (case k5 => k_asm); (case kK => first | exact rfl | assumption); (case kd => ktr_room); (case ku => ktr_units); (intro h' tk' F' N'; (try dsimp only); (try k_fold))))
    | ((k_here; (with_reducible show wpAny _ _ (call (Value.ref 65) [Value.str _ _, Value.str _ _]) _ _ _); (refine' call_cost ?k1 ?k2 ?k3 ?k4 ?k5 ?kK ?kp ?kd ?ku ?_); (case k1 => k_asm); (case k2 => k_asm); (case k3 => k_asm); (case k4 => k_asm); (case k5 => k_asm); (case kK => first | exact rfl | assumption); (case kp => exact ⟨by assumption, by assumption⟩); (case kd => ktr_room); (case ku => ktr_units); (intro t' h' tk' F' N'; (try dsimp only); (try k_fold))))
    | ((k_here; (with_reducible show wpAny _ _ (call (Value.builtin _) [Value.ref _, Value.str _ _]) _ _ _); k_dflt (refine' append_K ?k1 ?k2 ?k3 ?_ ?z; (case k1 => k_asm); (case k2 => k_asm); (case k3 => k_upd); (case z => exact size59 (by assumption) (by omega)); k_whole); intro h' F' N'; (try k_sweep)))
    | ((with_reducible show JoinF _ _ _); (first | exact JoinF.intro | exact JoinF.no (mid_no1 (by assumption) (by assumption) (by assumption) (by assumption)) | exact JoinF.no (mid_no0 (by assumption) (by assumption) (by assumption) (by assumption) rfl)))
    | ((k_here; (with_reducible show wpAny _ _ (exec (Stmt.If (Expr.BoolOp BoolOp.And _ _) [Stmt.Return _ _] [] _) _) _ _ _); (refine if_join ?_ ?_); (case' refine_2 => intro _)))
    | ((k_here; (with_reducible show wpAny _ _ (exec (Stmt.If _ [Stmt.Return _ _] [] _) _) _ _ _); (refine if_nogo ?_)))
    | walk1
    | (dsimp only; walk1)
    | (leave1; walk_say "STEP leave1"; try dsimp only))
  (rename News _ _ _ _ => nE)
  (rename Fr _ _ _ _ => fE)
  with_unfolding_all refine marks_loop [Str.ofString "p", Str.ofString "q", Str.ofString "hours", Str.ofString "minutes"] markD (by rfl) fE nE hda ?_ ?_
  case refine_1 =>
    clear fE nE
    intro vs k pre d post v u h tk I oI he hm hv hvs hlv hMI hlI hIn hc F N
    have hlp := congrArg List.length he
    rw [List.length_append, List.length_cons] at hlp
    clear he
    obtain ⟨p1, q1, g1, a1, rfl, hB1⟩ := hsh _ hm
    obtain ⟨T1, t1, t2, t3, t4, c1, rfl, hT1⟩ := dat_four hv
    (try dsimp only [frS] at F)
    repeat' (first
      | (k_unfold; (try dsimp only))
      | (k_end; wrow_close)
      | ((with_reducible show wpAny _ _ (exec (Stmt.For (Expr.Tuple _ _ _) (Expr.Name _ _) _ [] _) _) _ _ _); (k_here; (rename Fr _ _ _ _ => lF'); (with_unfolding_all refine' For_turns lF' ?_); k_whole))
      | ((with_reducible show InvEndN _ _ _ _ _ _ _); ((rename News _ _ _ _ => nE'); k_dflt ((first | (refine search_fin (by k_asm) nE' ?_) | (refine search_fin (by k_asm) (fun p hp => nE' p (List.Mem.tail _ hp)) ?_)); (intro z h1 h3); first | rw [if_neg (ne_st (c := PySem.Str.ofString "j") h3 (by rfl)), if_neg (not_sub [PySem.Str.ofString "one", PySem.Str.ofString "other", PySem.Str.ofString "due", PySem.Str.ofString "cost"] h3 (by decide)), if_neg h1, if_neg (not_st h3)] | rw [if_neg (ne_st (c := PySem.Str.ofString "cost") h3 (by rfl)), if_neg (ne_st (c := PySem.Str.ofString "due") h3 (by rfl)), if_neg (ne_st (c := PySem.Str.ofString "one") h3 (by rfl)), if_neg (ne_st (c := PySem.Str.ofString "other") h3 (by rfl)), if_neg h1, if_neg (not_st h3)])))
      | (((with_reducible show NoGo (@bne _ _ _ _) _); k_dflt (refine NoGo.intro (bne_eq_false_iff_eq.mpr (nogo1 (by with_reducible assumption) (by with_reducible assumption) (by with_reducible assumption) (by with_reducible assumption) (by with_reducible assumption))) ?_)))
      | (((with_reducible show NoGo false _); (refine NoGo.intro rfl ?_)))
      | (((with_reducible show NoGo true _); first | exact (nog0 (by with_reducible assumption) (by with_reducible assumption) (by with_reducible assumption) (by with_reducible assumption) (by with_reducible assumption) (by with_reducible assumption) (by with_reducible assumption)).elim | exact (nog1 (by with_reducible assumption) (by with_reducible assumption) (by with_reducible assumption) (by with_reducible assumption) (by with_reducible assumption) (by with_reducible assumption) (by with_reducible assumption) (by with_reducible assumption)).elim | exact (nog2 (by with_reducible assumption) (by with_reducible assumption) (by with_reducible assumption) (by with_reducible assumption) (by with_reducible assumption) (by with_reducible assumption) (by with_reducible assumption) (by with_reducible assumption)).elim))
      | ((with_reducible show LCg.CompSrc _ _ _ _ _ _ _ _ _ _ _ _ _ _); (k_here; k_dflt (refine (id : Halt (LCg.CompSrc _ _ _ _ _ _ _ _ _ _ _ _ _ _) → _) ?_)))
      | ((with_reducible show wpAny _ _ (exec (Stmt.Assign _ (Expr.ListComp _ _ _ _) _) _) _ _ _); (k_here; k_dflt (refine LCg.Assign_ListComp_U (F₀ := by k_asm) (by rfl) (by with_unfolding_all rfl) (by with_unfolding_all rfl) (by decide) (by rfl) (by decide) (by rfl) (by rfl) (by rfl) ?_)))
      | ((k_here; (with_reducible show wpAny _ _ (subscriptTail (Expr.Name _ _) (PySem.Expr.Slice _ _ none _) (Value.ref _) (Value.ref _)) _ _ _); k_dflt (refine (id : Halt (wpAny _ _ _ _ _ _) → _) ?_)))
      | ((with_reducible show wpAny _ _ (subscriptTail (Expr.Name _ _) (Expr.BinOp _ _ _ _) (Value.ref _) (Value.int _ _)) _ _ _); first | ((refine' item_text ?i1 ?i2 ?i3 ?i4 ?i5 ?i6 ?i7 ?i8 ?_; (case i1 => k_asm); (case i2 => k_memK); (case i3 => assumption); (case i4 => assumption); (case i5 => kd_idx); (case i6 => kd_idx); (case i7 => kd_idx); (case i8 => with_unfolding_all rfl)); intro x' t' hk' hB'; (try dsimp only at hB')) | ((refine' item_four ?i1 ?i2 ?i3 ?i4 ?i5 ?i6 ?i7 ?i8 ?_; (case i1 => k_asm); (case i2 => k_memK); (case i3 => assumption); (case i4 => assumption); (case i5 => kd_idx); (case i6 => kd_idx); (case i7 => kd_idx); (case i8 => with_unfolding_all rfl)); intro T' p' q' g' a' t1' t2' t3' t4' c' hk' hB' hT'; (try dsimp only at hB')))
      | ((with_reducible show wpAny _ _ (subscriptTail (Expr.Name _ _) (Expr.Name _ _) (Value.ref _) (Value.int _ _)) _ _ _); first | ((refine' item_text ?i1 ?i2 ?i3 ?i4 ?i5 ?i6 ?i7 ?i8 ?_; (case i1 => k_asm); (case i2 => k_memK); (case i3 => assumption); (case i4 => assumption); (case i5 => kd_idx); (case i6 => kd_idx); (case i7 => kd_idx); (case i8 => with_unfolding_all rfl)); intro x' t' hk' hB'; (try dsimp only at hB')) | ((refine' item_four ?i1 ?i2 ?i3 ?i4 ?i5 ?i6 ?i7 ?i8 ?_; (case i1 => k_asm); (case i2 => k_memK); (case i3 => assumption); (case i4 => assumption); (case i5 => kd_idx); (case i6 => kd_idx); (case i7 => kd_idx); (case i8 => with_unfolding_all rfl)); intro T' p' q' g' a' t1' t2' t3' t4' c' hk' hB' hT'; (try dsimp only at hB')))
      | ((with_reducible show wpAny _ _ (binaryOp .Pow (Value.int _ _) (Value.int _ _)) _ _ _); (k_here; k_dflt (refine pow_int_small (by decide) (by decide) (by omega) ?_)))
      | ((k_here; (with_reducible show wpAny _ _ (call (Value.ref 79) [Value.int _ _]) _ _ _); (refine' call_whole ?k1 ?k2 ?k3 ?k4 ?k5 ?kK ?kd ?ku ?_); (case k1 => k_asm); (case k2 => k_asm); (case k3 => k_asm); (case k4 => k_asm); (case k5 => k_asm); (case kK => first | exact rfl | assumption); (case kd => ktr_room); (case ku => ktr_units); (intro h' tk' F' N'; (try dsimp only); (try k_fold))))
      | ((k_here; (with_reducible show wpAny _ _ (call (Value.ref 65) [Value.str _ _, Value.str _ _]) _ _ _); (refine' call_cost ?k1 ?k2 ?k3 ?k4 ?k5 ?kK ?kp ?kd ?ku ?_); (case k1 => k_asm); (case k2 => k_asm); (case k3 => k_asm); (case k4 => k_asm); (case k5 => k_asm); (case kK => first | exact rfl | assumption); (case kp => exact ⟨by assumption, by assumption⟩); (case kd => ktr_room); (case ku => ktr_units); (intro t' h' tk' F' N'; (try dsimp only); (try k_fold))))
      | ((k_here; (with_reducible show wpAny _ _ (call (Value.builtin _) [Value.ref _, Value.str _ _]) _ _ _); k_dflt (refine' append_K ?k1 ?k2 ?k3 ?_ ?z; (case k1 => k_asm); (case k2 => k_asm); (case k3 => k_upd); (case z => exact size59 (by assumption) (by omega)); k_whole); intro h' F' N'; (try k_sweep)))
      | ((with_reducible show JoinF _ _ _); (first | exact JoinF.intro | exact JoinF.no (mid_no1 (by assumption) (by assumption) (by assumption) (by assumption)) | exact JoinF.no (mid_no0 (by assumption) (by assumption) (by assumption) (by assumption) rfl)))
      | ((k_here; (with_reducible show wpAny _ _ (exec (Stmt.If (Expr.BoolOp BoolOp.And _ _) [Stmt.Return _ _] [] _) _) _ _ _); (refine if_join ?_ ?_); (case' refine_2 => intro _)))
      | ((k_here; (with_reducible show wpAny _ _ (exec (Stmt.If _ [Stmt.Return _ _] [] _) _) _ _ _); (refine if_nogo ?_)))
      | walk1
      | (dsimp only; walk1)
      | (leave1; walk_say "STEP leave1"; try dsimp only))
    · (rename News _ _ _ _ => nE)
      (simp only [List.push_toArray] at nE)
      exact mark_fin (by k_asm) nE hMI hlI hIn (fun z h3 => em4 h3) (marks_snoc hvs (mark_pos (by assumption)))
    · (rename News _ _ _ _ => nE)
      (simp only [List.push_toArray] at nE)
      exact mark_fin (by k_asm) nE hMI hlI hIn (fun z h3 => em4 h3) (marks_snoc hvs (mark_neg (by assumption)))
  case refine_2 =>
    clear fE nE
    intro vs k u h tk hms F N
    rw [← R.eq] at hms
    have hml : ms.length = ds.length := by rw [R.eq, List.length_map]
    have hmsh := R.mshape
    obtain ⟨u2, tL, F2⟩ := fr_known (a := Str.ofString "turn") (b := Str.ofString "last") (c := Str.ofString "marks") F (by rfl) (by rfl) (by rfl)
    clear F
    (k_with "pyIter ref" => k_search (fun _ => True))
    repeat' (first
      | (k_unfold; (try dsimp only))
      | (k_end; wrow_close)
      | ((with_reducible show wpAny _ _ (exec (Stmt.For (Expr.Tuple _ _ _) (Expr.Name _ _) _ [] _) _) _ _ _); (k_here; (rename Fr _ _ _ _ => lF'); (with_unfolding_all refine' For_turns lF' ?_); k_whole))
      | ((with_reducible show InvEndN _ _ _ _ _ _ _); ((rename News _ _ _ _ => nE'); k_dflt ((first | (refine search_fin (by k_asm) nE' ?_) | (refine search_fin (by k_asm) (fun p hp => nE' p (List.Mem.tail _ hp)) ?_)); (intro z h1 h3); first | rw [if_neg (ne_st (c := PySem.Str.ofString "j") h3 (by rfl)), if_neg (not_sub [PySem.Str.ofString "one", PySem.Str.ofString "other", PySem.Str.ofString "due", PySem.Str.ofString "cost"] h3 (by decide)), if_neg h1, if_neg (not_st h3)] | rw [if_neg (ne_st (c := PySem.Str.ofString "cost") h3 (by rfl)), if_neg (ne_st (c := PySem.Str.ofString "due") h3 (by rfl)), if_neg (ne_st (c := PySem.Str.ofString "one") h3 (by rfl)), if_neg (ne_st (c := PySem.Str.ofString "other") h3 (by rfl)), if_neg h1, if_neg (not_st h3)])))
      | (((with_reducible show NoGo (@bne _ _ _ _) _); k_dflt (refine NoGo.intro (bne_eq_false_iff_eq.mpr (nogo1 (by with_reducible assumption) (by with_reducible assumption) (by with_reducible assumption) (by with_reducible assumption) (by with_reducible assumption))) ?_)))
      | (((with_reducible show NoGo false _); (refine NoGo.intro rfl ?_)))
      | (((with_reducible show NoGo true _); first | exact (nog0 (by with_reducible assumption) (by with_reducible assumption) (by with_reducible assumption) (by with_reducible assumption) (by with_reducible assumption) (by with_reducible assumption) (by with_reducible assumption)).elim | exact (nog1 (by with_reducible assumption) (by with_reducible assumption) (by with_reducible assumption) (by with_reducible assumption) (by with_reducible assumption) (by with_reducible assumption) (by with_reducible assumption) (by with_reducible assumption)).elim | exact (nog2 (by with_reducible assumption) (by with_reducible assumption) (by with_reducible assumption) (by with_reducible assumption) (by with_reducible assumption) (by with_reducible assumption) (by with_reducible assumption) (by with_reducible assumption)).elim))
      | ((with_reducible show LCg.CompSrc _ _ _ _ _ _ _ _ _ _ _ _ _ _); (k_here; k_dflt (refine (id : Halt (LCg.CompSrc _ _ _ _ _ _ _ _ _ _ _ _ _ _) → _) ?_)))
      | ((with_reducible show wpAny _ _ (exec (Stmt.Assign _ (Expr.ListComp _ _ _ _) _) _) _ _ _); (k_here; k_dflt (refine LCg.Assign_ListComp_U (F₀ := by k_asm) (by rfl) (by with_unfolding_all rfl) (by with_unfolding_all rfl) (by decide) (by rfl) (by decide) (by rfl) (by rfl) (by rfl) ?_)))
      | ((k_here; (with_reducible show wpAny _ _ (subscriptTail (Expr.Name _ _) (PySem.Expr.Slice _ _ none _) (Value.ref _) (Value.ref _)) _ _ _); k_dflt (refine (id : Halt (wpAny _ _ _ _ _ _) → _) ?_)))
      | ((with_reducible show wpAny _ _ (subscriptTail (Expr.Name _ _) (Expr.BinOp _ _ _ _) (Value.ref _) (Value.int _ _)) _ _ _); first | ((refine' item_text ?i1 ?i2 ?i3 ?i4 ?i5 ?i6 ?i7 ?i8 ?_; (case i1 => k_asm); (case i2 => k_memK); (case i3 => assumption); (case i4 => assumption); (case i5 => kd_idx); (case i6 => kd_idx); (case i7 => kd_idx); (case i8 => with_unfolding_all rfl)); intro x' t' hk' hB'; (try dsimp only at hB')) | ((refine' item_four ?i1 ?i2 ?i3 ?i4 ?i5 ?i6 ?i7 ?i8 ?_; (case i1 => k_asm); (case i2 => k_memK); (case i3 => assumption); (case i4 => assumption); (case i5 => kd_idx); (case i6 => kd_idx); (case i7 => kd_idx); (case i8 => with_unfolding_all rfl)); intro T' p' q' g' a' t1' t2' t3' t4' c' hk' hB' hT'; (try dsimp only at hB')))
      | ((with_reducible show wpAny _ _ (subscriptTail (Expr.Name _ _) (Expr.Name _ _) (Value.ref _) (Value.int _ _)) _ _ _); first | ((refine' item_text ?i1 ?i2 ?i3 ?i4 ?i5 ?i6 ?i7 ?i8 ?_; (case i1 => k_asm); (case i2 => k_memK); (case i3 => assumption); (case i4 => assumption); (case i5 => kd_idx); (case i6 => kd_idx); (case i7 => kd_idx); (case i8 => with_unfolding_all rfl)); intro x' t' hk' hB'; (try dsimp only at hB')) | ((refine' item_four ?i1 ?i2 ?i3 ?i4 ?i5 ?i6 ?i7 ?i8 ?_; (case i1 => k_asm); (case i2 => k_memK); (case i3 => assumption); (case i4 => assumption); (case i5 => kd_idx); (case i6 => kd_idx); (case i7 => kd_idx); (case i8 => with_unfolding_all rfl)); intro T' p' q' g' a' t1' t2' t3' t4' c' hk' hB' hT'; (try dsimp only at hB')))
      | ((with_reducible show wpAny _ _ (binaryOp .Pow (Value.int _ _) (Value.int _ _)) _ _ _); (k_here; k_dflt (refine pow_int_small (by decide) (by decide) (by omega) ?_)))
      | ((k_here; (with_reducible show wpAny _ _ (call (Value.ref 79) [Value.int _ _]) _ _ _); (refine' call_whole ?k1 ?k2 ?k3 ?k4 ?k5 ?kK ?kd ?ku ?_); (case k1 => k_asm); (case k2 => k_asm); (case k3 => k_asm); (case k4 => k_asm); (case k5 => k_asm); (case kK => first | exact rfl | assumption); (case kd => ktr_room); (case ku => ktr_units); (intro h' tk' F' N'; (try dsimp only); (try k_fold))))
      | ((k_here; (with_reducible show wpAny _ _ (call (Value.ref 65) [Value.str _ _, Value.str _ _]) _ _ _); (refine' call_cost ?k1 ?k2 ?k3 ?k4 ?k5 ?kK ?kp ?kd ?ku ?_); (case k1 => k_asm); (case k2 => k_asm); (case k3 => k_asm); (case k4 => k_asm); (case k5 => k_asm); (case kK => first | exact rfl | assumption); (case kp => exact ⟨by assumption, by assumption⟩); (case kd => ktr_room); (case ku => ktr_units); (intro t' h' tk' F' N'; (try dsimp only); (try k_fold))))
      | ((k_here; (with_reducible show wpAny _ _ (call (Value.builtin _) [Value.ref _, Value.str _ _]) _ _ _); k_dflt (refine' append_K ?k1 ?k2 ?k3 ?_ ?z; (case k1 => k_asm); (case k2 => k_asm); (case k3 => k_upd); (case z => exact size59 (by assumption) (by omega)); k_whole); intro h' F' N'; (try k_sweep)))
      | ((with_reducible show JoinF _ _ _); (first | exact JoinF.intro | exact JoinF.no (mid_no1 (by assumption) (by assumption) (by assumption) (by assumption)) | exact JoinF.no (mid_no0 (by assumption) (by assumption) (by assumption) (by assumption) rfl)))
      | ((k_here; (with_reducible show wpAny _ _ (exec (Stmt.If (Expr.BoolOp BoolOp.And _ _) [Stmt.Return _ _] [] _) _) _ _ _); (refine if_join ?_ ?_); (case' refine_2 => intro _)))
      | ((k_here; (with_reducible show wpAny _ _ (exec (Stmt.If _ [Stmt.Return _ _] [] _) _) _ _ _); (refine if_nogo ?_)))
      | walk1
      | (dsimp only; walk1)
      | (leave1; walk_say "STEP leave1"; try dsimp only))
    · unfold Halt
      refine' kmk_slice_lit ?s9F ?s9N ?s9l ?s9p ?s9q ?s9e ?_ ?s9s ?s9t ?s9z
      case s9F => k_asm
      case s9N => k_asm
      case s9l => exact News.isList (by k_asm) (by k_mem)
      case s9p => kmk_part
      case s9q => kmk_part
      case s9e => exact pick_from (by decide)
      case s9s => with_unfolding_all rfl
      case s9t => kmk_pure
      case s9z => exact us_size (by assumption) (by assumption)
      intro D' h' F' N' l1
      (try k_lt l1)
      (try dsimp only)
      repeat' (first
        | (k_unfold; (try dsimp only))
        | (k_end; wrow_close)
        | ((with_reducible show wpAny _ _ (exec (Stmt.For (Expr.Tuple _ _ _) (Expr.Name _ _) _ [] _) _) _ _ _); (k_here; (rename Fr _ _ _ _ => lF'); (with_unfolding_all refine' For_turns lF' ?_); k_whole))
        | ((with_reducible show InvEndN _ _ _ _ _ _ _); ((rename News _ _ _ _ => nE'); k_dflt ((first | (refine search_fin (by k_asm) nE' ?_) | (refine search_fin (by k_asm) (fun p hp => nE' p (List.Mem.tail _ hp)) ?_)); (intro z h1 h3); first | rw [if_neg (ne_st (c := PySem.Str.ofString "j") h3 (by rfl)), if_neg (not_sub [PySem.Str.ofString "one", PySem.Str.ofString "other", PySem.Str.ofString "due", PySem.Str.ofString "cost"] h3 (by decide)), if_neg h1, if_neg (not_st h3)] | rw [if_neg (ne_st (c := PySem.Str.ofString "cost") h3 (by rfl)), if_neg (ne_st (c := PySem.Str.ofString "due") h3 (by rfl)), if_neg (ne_st (c := PySem.Str.ofString "one") h3 (by rfl)), if_neg (ne_st (c := PySem.Str.ofString "other") h3 (by rfl)), if_neg h1, if_neg (not_st h3)])))
        | (((with_reducible show NoGo (@bne _ _ _ _) _); k_dflt (refine NoGo.intro (bne_eq_false_iff_eq.mpr (nogo1 (by with_reducible assumption) (by with_reducible assumption) (by with_reducible assumption) (by with_reducible assumption) (by with_reducible assumption))) ?_)))
        | (((with_reducible show NoGo false _); (refine NoGo.intro rfl ?_)))
        | (((with_reducible show NoGo true _); first | exact (nog0 (by with_reducible assumption) (by with_reducible assumption) (by with_reducible assumption) (by with_reducible assumption) (by with_reducible assumption) (by with_reducible assumption) (by with_reducible assumption)).elim | exact (nog1 (by with_reducible assumption) (by with_reducible assumption) (by with_reducible assumption) (by with_reducible assumption) (by with_reducible assumption) (by with_reducible assumption) (by with_reducible assumption) (by with_reducible assumption)).elim | exact (nog2 (by with_reducible assumption) (by with_reducible assumption) (by with_reducible assumption) (by with_reducible assumption) (by with_reducible assumption) (by with_reducible assumption) (by with_reducible assumption) (by with_reducible assumption)).elim))
        | ((with_reducible show LCg.CompSrc _ _ _ _ _ _ _ _ _ _ _ _ _ _); (k_here; k_dflt (refine (id : Halt (LCg.CompSrc _ _ _ _ _ _ _ _ _ _ _ _ _ _) → _) ?_)))
        | ((with_reducible show wpAny _ _ (exec (Stmt.Assign _ (Expr.ListComp _ _ _ _) _) _) _ _ _); (k_here; k_dflt (refine LCg.Assign_ListComp_U (F₀ := by k_asm) (by rfl) (by with_unfolding_all rfl) (by with_unfolding_all rfl) (by decide) (by rfl) (by decide) (by rfl) (by rfl) (by rfl) ?_)))
        | ((k_here; (with_reducible show wpAny _ _ (subscriptTail (Expr.Name _ _) (PySem.Expr.Slice _ _ none _) (Value.ref _) (Value.ref _)) _ _ _); k_dflt (refine (id : Halt (wpAny _ _ _ _ _ _) → _) ?_)))
        | ((with_reducible show wpAny _ _ (subscriptTail (Expr.Name _ _) (Expr.BinOp _ _ _ _) (Value.ref _) (Value.int _ _)) _ _ _); first | ((refine' item_text ?i1 ?i2 ?i3 ?i4 ?i5 ?i6 ?i7 ?i8 ?_; (case i1 => k_asm); (case i2 => k_memK); (case i3 => assumption); (case i4 => assumption); (case i5 => kd_idx); (case i6 => kd_idx); (case i7 => kd_idx); (case i8 => with_unfolding_all rfl)); intro x' t' hk' hB'; (try dsimp only at hB')) | ((refine' item_four ?i1 ?i2 ?i3 ?i4 ?i5 ?i6 ?i7 ?i8 ?_; (case i1 => k_asm); (case i2 => k_memK); (case i3 => assumption); (case i4 => assumption); (case i5 => kd_idx); (case i6 => kd_idx); (case i7 => kd_idx); (case i8 => with_unfolding_all rfl)); intro T' p' q' g' a' t1' t2' t3' t4' c' hk' hB' hT'; (try dsimp only at hB')))
        | ((with_reducible show wpAny _ _ (subscriptTail (Expr.Name _ _) (Expr.Name _ _) (Value.ref _) (Value.int _ _)) _ _ _); first | ((refine' item_text ?i1 ?i2 ?i3 ?i4 ?i5 ?i6 ?i7 ?i8 ?_; (case i1 => k_asm); (case i2 => k_memK); (case i3 => assumption); (case i4 => assumption); (case i5 => kd_idx); (case i6 => kd_idx); (case i7 => kd_idx); (case i8 => with_unfolding_all rfl)); intro x' t' hk' hB'; (try dsimp only at hB')) | ((refine' item_four ?i1 ?i2 ?i3 ?i4 ?i5 ?i6 ?i7 ?i8 ?_; (case i1 => k_asm); (case i2 => k_memK); (case i3 => assumption); (case i4 => assumption); (case i5 => kd_idx); (case i6 => kd_idx); (case i7 => kd_idx); (case i8 => with_unfolding_all rfl)); intro T' p' q' g' a' t1' t2' t3' t4' c' hk' hB' hT'; (try dsimp only at hB')))
        | ((with_reducible show wpAny _ _ (binaryOp .Pow (Value.int _ _) (Value.int _ _)) _ _ _); (k_here; k_dflt (refine pow_int_small (by decide) (by decide) (by omega) ?_)))
        | ((k_here; (with_reducible show wpAny _ _ (call (Value.ref 79) [Value.int _ _]) _ _ _); (refine' call_whole ?k1 ?k2 ?k3 ?k4 ?k5 ?kK ?kd ?ku ?_); (case k1 => k_asm); (case k2 => k_asm); (case k3 => k_asm); (case k4 => k_asm); (case k5 => k_asm); (case kK => first | exact rfl | assumption); (case kd => ktr_room); (case ku => ktr_units); (intro h' tk' F' N'; (try dsimp only); (try k_fold))))
        | ((k_here; (with_reducible show wpAny _ _ (call (Value.ref 65) [Value.str _ _, Value.str _ _]) _ _ _); (refine' call_cost ?k1 ?k2 ?k3 ?k4 ?k5 ?kK ?kp ?kd ?ku ?_); (case k1 => k_asm); (case k2 => k_asm); (case k3 => k_asm); (case k4 => k_asm); (case k5 => k_asm); (case kK => first | exact rfl | assumption); (case kp => exact ⟨by assumption, by assumption⟩); (case kd => ktr_room); (case ku => ktr_units); (intro t' h' tk' F' N'; (try dsimp only); (try k_fold))))
        | ((k_here; (with_reducible show wpAny _ _ (call (Value.builtin _) [Value.ref _, Value.str _ _]) _ _ _); k_dflt (refine' append_K ?k1 ?k2 ?k3 ?_ ?z; (case k1 => k_asm); (case k2 => k_asm); (case k3 => k_upd); (case z => exact size59 (by assumption) (by omega)); k_whole); intro h' F' N'; (try k_sweep)))
        | ((with_reducible show JoinF _ _ _); (first | exact JoinF.intro | exact JoinF.no (mid_no1 (by assumption) (by assumption) (by assumption) (by assumption)) | exact JoinF.no (mid_no0 (by assumption) (by assumption) (by assumption) (by assumption) rfl)))
        | ((k_here; (with_reducible show wpAny _ _ (exec (Stmt.If (Expr.BoolOp BoolOp.And _ _) [Stmt.Return _ _] [] _) _) _ _ _); (refine if_join ?_ ?_); (case' refine_2 => intro _)))
        | ((k_here; (with_reducible show wpAny _ _ (exec (Stmt.If _ [Stmt.Return _ _] [] _) _) _ _ _); (refine if_nogo ?_)))
        | walk1
        | (dsimp only; walk1)
        | (leave1; walk_say "STEP leave1"; try dsimp only))
      unfold Halt
      refine LCg.CompSrc.ledger (k := 0) (by rfl) (by k_asm) (by k_asm) (by k_mem) ?_ ?_
      · rw [List.size_toArray, List.length_drop]
        exact Nat.le_trans (show us.length - (1 : Int).toNat ≤ 59 by omega) (by decide)
      · intro g
        refine rest_ints (f := hourD) (ds := ds.drop 1) (DatAll.mono ?_ (datAll_drop hda 1)) ?_ ?_ ?_ _ 0 [] ?_ .nil
        · intro p hp
          exact .tail _ (.tail _ (.tail _ hp))
        · intro v d I oI C oC D ys m2 h2 tk2 QQ E2 hdm hv hC hx F N hQ
          have hdm2 := List.mem_of_mem_drop hdm
          obtain ⟨p1, q1, g1, a1, rfl, hB1⟩ := hsh _ hdm2
          obtain ⟨T1, t1, t2, t3, t4, c1, rfl, hT1⟩ := dat_four hv
          (try dsimp only at *)
          repeat' (first
            | (k_unfold; (try dsimp only))
            | (k_end; wrow_close)
            | ((with_reducible show wpAny _ _ (exec (Stmt.For (Expr.Tuple _ _ _) (Expr.Name _ _) _ [] _) _) _ _ _); (k_here; (rename Fr _ _ _ _ => lF'); (with_unfolding_all refine' For_turns lF' ?_); k_whole))
            | ((with_reducible show InvEndN _ _ _ _ _ _ _); ((rename News _ _ _ _ => nE'); k_dflt ((first | (refine search_fin (by k_asm) nE' ?_) | (refine search_fin (by k_asm) (fun p hp => nE' p (List.Mem.tail _ hp)) ?_)); (intro z h1 h3); first | rw [if_neg (ne_st (c := PySem.Str.ofString "j") h3 (by rfl)), if_neg (not_sub [PySem.Str.ofString "one", PySem.Str.ofString "other", PySem.Str.ofString "due", PySem.Str.ofString "cost"] h3 (by decide)), if_neg h1, if_neg (not_st h3)] | rw [if_neg (ne_st (c := PySem.Str.ofString "cost") h3 (by rfl)), if_neg (ne_st (c := PySem.Str.ofString "due") h3 (by rfl)), if_neg (ne_st (c := PySem.Str.ofString "one") h3 (by rfl)), if_neg (ne_st (c := PySem.Str.ofString "other") h3 (by rfl)), if_neg h1, if_neg (not_st h3)])))
            | (((with_reducible show NoGo (@bne _ _ _ _) _); k_dflt (refine NoGo.intro (bne_eq_false_iff_eq.mpr (nogo1 (by with_reducible assumption) (by with_reducible assumption) (by with_reducible assumption) (by with_reducible assumption) (by with_reducible assumption))) ?_)))
            | (((with_reducible show NoGo false _); (refine NoGo.intro rfl ?_)))
            | (((with_reducible show NoGo true _); first | exact (nog0 (by with_reducible assumption) (by with_reducible assumption) (by with_reducible assumption) (by with_reducible assumption) (by with_reducible assumption) (by with_reducible assumption) (by with_reducible assumption)).elim | exact (nog1 (by with_reducible assumption) (by with_reducible assumption) (by with_reducible assumption) (by with_reducible assumption) (by with_reducible assumption) (by with_reducible assumption) (by with_reducible assumption) (by with_reducible assumption)).elim | exact (nog2 (by with_reducible assumption) (by with_reducible assumption) (by with_reducible assumption) (by with_reducible assumption) (by with_reducible assumption) (by with_reducible assumption) (by with_reducible assumption) (by with_reducible assumption)).elim))
            | ((with_reducible show LCg.CompSrc _ _ _ _ _ _ _ _ _ _ _ _ _ _); (k_here; k_dflt (refine (id : Halt (LCg.CompSrc _ _ _ _ _ _ _ _ _ _ _ _ _ _) → _) ?_)))
            | ((with_reducible show wpAny _ _ (exec (Stmt.Assign _ (Expr.ListComp _ _ _ _) _) _) _ _ _); (k_here; k_dflt (refine LCg.Assign_ListComp_U (F₀ := by k_asm) (by rfl) (by with_unfolding_all rfl) (by with_unfolding_all rfl) (by decide) (by rfl) (by decide) (by rfl) (by rfl) (by rfl) ?_)))
            | ((k_here; (with_reducible show wpAny _ _ (subscriptTail (Expr.Name _ _) (PySem.Expr.Slice _ _ none _) (Value.ref _) (Value.ref _)) _ _ _); k_dflt (refine (id : Halt (wpAny _ _ _ _ _ _) → _) ?_)))
            | ((with_reducible show wpAny _ _ (subscriptTail (Expr.Name _ _) (Expr.BinOp _ _ _ _) (Value.ref _) (Value.int _ _)) _ _ _); first | ((refine' item_text ?i1 ?i2 ?i3 ?i4 ?i5 ?i6 ?i7 ?i8 ?_; (case i1 => k_asm); (case i2 => k_memK); (case i3 => assumption); (case i4 => assumption); (case i5 => kd_idx); (case i6 => kd_idx); (case i7 => kd_idx); (case i8 => with_unfolding_all rfl)); intro x' t' hk' hB'; (try dsimp only at hB')) | ((refine' item_four ?i1 ?i2 ?i3 ?i4 ?i5 ?i6 ?i7 ?i8 ?_; (case i1 => k_asm); (case i2 => k_memK); (case i3 => assumption); (case i4 => assumption); (case i5 => kd_idx); (case i6 => kd_idx); (case i7 => kd_idx); (case i8 => with_unfolding_all rfl)); intro T' p' q' g' a' t1' t2' t3' t4' c' hk' hB' hT'; (try dsimp only at hB')))
            | ((with_reducible show wpAny _ _ (subscriptTail (Expr.Name _ _) (Expr.Name _ _) (Value.ref _) (Value.int _ _)) _ _ _); first | ((refine' item_text ?i1 ?i2 ?i3 ?i4 ?i5 ?i6 ?i7 ?i8 ?_; (case i1 => k_asm); (case i2 => k_memK); (case i3 => assumption); (case i4 => assumption); (case i5 => kd_idx); (case i6 => kd_idx); (case i7 => kd_idx); (case i8 => with_unfolding_all rfl)); intro x' t' hk' hB'; (try dsimp only at hB')) | ((refine' item_four ?i1 ?i2 ?i3 ?i4 ?i5 ?i6 ?i7 ?i8 ?_; (case i1 => k_asm); (case i2 => k_memK); (case i3 => assumption); (case i4 => assumption); (case i5 => kd_idx); (case i6 => kd_idx); (case i7 => kd_idx); (case i8 => with_unfolding_all rfl)); intro T' p' q' g' a' t1' t2' t3' t4' c' hk' hB' hT'; (try dsimp only at hB')))
            | ((with_reducible show wpAny _ _ (binaryOp .Pow (Value.int _ _) (Value.int _ _)) _ _ _); (k_here; k_dflt (refine pow_int_small (by decide) (by decide) (by omega) ?_)))
            | ((k_here; (with_reducible show wpAny _ _ (call (Value.ref 79) [Value.int _ _]) _ _ _); (refine' call_whole ?k1 ?k2 ?k3 ?k4 ?k5 ?kK ?kd ?ku ?_); (case k1 => k_asm); (case k2 => k_asm); (case k3 => k_asm); (case k4 => k_asm); (case k5 => k_asm); (case kK => first | exact rfl | assumption); (case kd => ktr_room); (case ku => ktr_units); (intro h' tk' F' N'; (try dsimp only); (try k_fold))))
            | ((k_here; (with_reducible show wpAny _ _ (call (Value.ref 65) [Value.str _ _, Value.str _ _]) _ _ _); (refine' call_cost ?k1 ?k2 ?k3 ?k4 ?k5 ?kK ?kp ?kd ?ku ?_); (case k1 => k_asm); (case k2 => k_asm); (case k3 => k_asm); (case k4 => k_asm); (case k5 => k_asm); (case kK => first | exact rfl | assumption); (case kp => exact ⟨by assumption, by assumption⟩); (case kd => ktr_room); (case ku => ktr_units); (intro t' h' tk' F' N'; (try dsimp only); (try k_fold))))
            | ((k_here; (with_reducible show wpAny _ _ (call (Value.builtin _) [Value.ref _, Value.str _ _]) _ _ _); k_dflt (refine' append_K ?k1 ?k2 ?k3 ?_ ?z; (case k1 => k_asm); (case k2 => k_asm); (case k3 => k_upd); (case z => exact size59 (by assumption) (by omega)); k_whole); intro h' F' N'; (try k_sweep)))
            | ((with_reducible show JoinF _ _ _); (first | exact JoinF.intro | exact JoinF.no (mid_no1 (by assumption) (by assumption) (by assumption) (by assumption)) | exact JoinF.no (mid_no0 (by assumption) (by assumption) (by assumption) (by assumption) rfl)))
            | ((k_here; (with_reducible show wpAny _ _ (exec (Stmt.If (Expr.BoolOp BoolOp.And _ _) [Stmt.Return _ _] [] _) _) _ _ _); (refine if_join ?_ ?_); (case' refine_2 => intro _)))
            | ((k_here; (with_reducible show wpAny _ _ (exec (Stmt.If _ [Stmt.Return _ _] [] _) _) _ _ _); (refine if_nogo ?_)))
            | walk1
            | (dsimp only; walk1)
            | (leave1; walk_say "STEP leave1"; try dsimp only))
          exact hQ _ _ _ (by k_asm) (by k_asm)
        · exact .inr ⟨_, by k_mem, rfl, _, rfl⟩
        · intro ys hy D h tk F N o1
          (try simp only [LCg.Off1] at o1)
          (try dsimp only)
          repeat' (first
            | (k_unfold; (try dsimp only))
            | (k_end; wrow_close)
            | ((with_reducible show wpAny _ _ (exec (Stmt.For (Expr.Tuple _ _ _) (Expr.Name _ _) _ [] _) _) _ _ _); (k_here; (rename Fr _ _ _ _ => lF'); (with_unfolding_all refine' For_turns lF' ?_); k_whole))
            | ((with_reducible show InvEndN _ _ _ _ _ _ _); ((rename News _ _ _ _ => nE'); k_dflt ((first | (refine search_fin (by k_asm) nE' ?_) | (refine search_fin (by k_asm) (fun p hp => nE' p (List.Mem.tail _ hp)) ?_)); (intro z h1 h3); first | rw [if_neg (ne_st (c := PySem.Str.ofString "j") h3 (by rfl)), if_neg (not_sub [PySem.Str.ofString "one", PySem.Str.ofString "other", PySem.Str.ofString "due", PySem.Str.ofString "cost"] h3 (by decide)), if_neg h1, if_neg (not_st h3)] | rw [if_neg (ne_st (c := PySem.Str.ofString "cost") h3 (by rfl)), if_neg (ne_st (c := PySem.Str.ofString "due") h3 (by rfl)), if_neg (ne_st (c := PySem.Str.ofString "one") h3 (by rfl)), if_neg (ne_st (c := PySem.Str.ofString "other") h3 (by rfl)), if_neg h1, if_neg (not_st h3)])))
            | (((with_reducible show NoGo (@bne _ _ _ _) _); k_dflt (refine NoGo.intro (bne_eq_false_iff_eq.mpr (nogo1 (by with_reducible assumption) (by with_reducible assumption) (by with_reducible assumption) (by with_reducible assumption) (by with_reducible assumption))) ?_)))
            | (((with_reducible show NoGo false _); (refine NoGo.intro rfl ?_)))
            | (((with_reducible show NoGo true _); first | exact (nog0 (by with_reducible assumption) (by with_reducible assumption) (by with_reducible assumption) (by with_reducible assumption) (by with_reducible assumption) (by with_reducible assumption) (by with_reducible assumption)).elim | exact (nog1 (by with_reducible assumption) (by with_reducible assumption) (by with_reducible assumption) (by with_reducible assumption) (by with_reducible assumption) (by with_reducible assumption) (by with_reducible assumption) (by with_reducible assumption)).elim | exact (nog2 (by with_reducible assumption) (by with_reducible assumption) (by with_reducible assumption) (by with_reducible assumption) (by with_reducible assumption) (by with_reducible assumption) (by with_reducible assumption) (by with_reducible assumption)).elim))
            | ((with_reducible show LCg.CompSrc _ _ _ _ _ _ _ _ _ _ _ _ _ _); (k_here; k_dflt (refine (id : Halt (LCg.CompSrc _ _ _ _ _ _ _ _ _ _ _ _ _ _) → _) ?_)))
            | ((with_reducible show wpAny _ _ (exec (Stmt.Assign _ (Expr.ListComp _ _ _ _) _) _) _ _ _); (k_here; k_dflt (refine LCg.Assign_ListComp_U (F₀ := by k_asm) (by rfl) (by with_unfolding_all rfl) (by with_unfolding_all rfl) (by decide) (by rfl) (by decide) (by rfl) (by rfl) (by rfl) ?_)))
            | ((k_here; (with_reducible show wpAny _ _ (subscriptTail (Expr.Name _ _) (PySem.Expr.Slice _ _ none _) (Value.ref _) (Value.ref _)) _ _ _); k_dflt (refine (id : Halt (wpAny _ _ _ _ _ _) → _) ?_)))
            | ((with_reducible show wpAny _ _ (subscriptTail (Expr.Name _ _) (Expr.BinOp _ _ _ _) (Value.ref _) (Value.int _ _)) _ _ _); first | ((refine' item_text ?i1 ?i2 ?i3 ?i4 ?i5 ?i6 ?i7 ?i8 ?_; (case i1 => k_asm); (case i2 => k_memK); (case i3 => assumption); (case i4 => assumption); (case i5 => kd_idx); (case i6 => kd_idx); (case i7 => kd_idx); (case i8 => with_unfolding_all rfl)); intro x' t' hk' hB'; (try dsimp only at hB')) | ((refine' item_four ?i1 ?i2 ?i3 ?i4 ?i5 ?i6 ?i7 ?i8 ?_; (case i1 => k_asm); (case i2 => k_memK); (case i3 => assumption); (case i4 => assumption); (case i5 => kd_idx); (case i6 => kd_idx); (case i7 => kd_idx); (case i8 => with_unfolding_all rfl)); intro T' p' q' g' a' t1' t2' t3' t4' c' hk' hB' hT'; (try dsimp only at hB')))
            | ((with_reducible show wpAny _ _ (subscriptTail (Expr.Name _ _) (Expr.Name _ _) (Value.ref _) (Value.int _ _)) _ _ _); first | ((refine' item_text ?i1 ?i2 ?i3 ?i4 ?i5 ?i6 ?i7 ?i8 ?_; (case i1 => k_asm); (case i2 => k_memK); (case i3 => assumption); (case i4 => assumption); (case i5 => kd_idx); (case i6 => kd_idx); (case i7 => kd_idx); (case i8 => with_unfolding_all rfl)); intro x' t' hk' hB'; (try dsimp only at hB')) | ((refine' item_four ?i1 ?i2 ?i3 ?i4 ?i5 ?i6 ?i7 ?i8 ?_; (case i1 => k_asm); (case i2 => k_memK); (case i3 => assumption); (case i4 => assumption); (case i5 => kd_idx); (case i6 => kd_idx); (case i7 => kd_idx); (case i8 => with_unfolding_all rfl)); intro T' p' q' g' a' t1' t2' t3' t4' c' hk' hB' hT'; (try dsimp only at hB')))
            | ((with_reducible show wpAny _ _ (binaryOp .Pow (Value.int _ _) (Value.int _ _)) _ _ _); (k_here; k_dflt (refine pow_int_small (by decide) (by decide) (by omega) ?_)))
            | ((k_here; (with_reducible show wpAny _ _ (call (Value.ref 79) [Value.int _ _]) _ _ _); (refine' call_whole ?k1 ?k2 ?k3 ?k4 ?k5 ?kK ?kd ?ku ?_); (case k1 => k_asm); (case k2 => k_asm); (case k3 => k_asm); (case k4 => k_asm); (case k5 => k_asm); (case kK => first | exact rfl | assumption); (case kd => ktr_room); (case ku => ktr_units); (intro h' tk' F' N'; (try dsimp only); (try k_fold))))
            | ((k_here; (with_reducible show wpAny _ _ (call (Value.ref 65) [Value.str _ _, Value.str _ _]) _ _ _); (refine' call_cost ?k1 ?k2 ?k3 ?k4 ?k5 ?kK ?kp ?kd ?ku ?_); (case k1 => k_asm); (case k2 => k_asm); (case k3 => k_asm); (case k4 => k_asm); (case k5 => k_asm); (case kK => first | exact rfl | assumption); (case kp => exact ⟨by assumption, by assumption⟩); (case kd => ktr_room); (case ku => ktr_units); (intro t' h' tk' F' N'; (try dsimp only); (try k_fold))))
            | ((k_here; (with_reducible show wpAny _ _ (call (Value.builtin _) [Value.ref _, Value.str _ _]) _ _ _); k_dflt (refine' append_K ?k1 ?k2 ?k3 ?_ ?z; (case k1 => k_asm); (case k2 => k_asm); (case k3 => k_upd); (case z => exact size59 (by assumption) (by omega)); k_whole); intro h' F' N'; (try k_sweep)))
            | ((with_reducible show JoinF _ _ _); (first | exact JoinF.intro | exact JoinF.no (mid_no1 (by assumption) (by assumption) (by assumption) (by assumption)) | exact JoinF.no (mid_no0 (by assumption) (by assumption) (by assumption) (by assumption) rfl)))
            | ((k_here; (with_reducible show wpAny _ _ (exec (Stmt.If (Expr.BoolOp BoolOp.And _ _) [Stmt.Return _ _] [] _) _) _ _ _); (refine if_join ?_ ?_); (case' refine_2 => intro _)))
            | ((k_here; (with_reducible show wpAny _ _ (exec (Stmt.If _ [Stmt.Return _ _] [] _) _) _ _ _); (refine if_nogo ?_)))
            | walk1
            | (dsimp only; walk1)
            | (leave1; walk_say "STEP leave1"; try dsimp only))
          exact end_B (news := news) hret (by k_asm) (by assumption) (by intro p hp; k_ownIn) (by rw [R.pal]; exact decide_eq_true rfl)
        · rw [List.size_toArray, Nat.zero_add]; rfl
  · exact (mid_nz R (by assumption) (by assumption)).elim
end Mine
end
section
open PySem PySem.W PyProof.Rows PySem.Spec PySem.Calls
set_option Elab.async false
set_option maxRecDepth 100000
set_option maxHeartbeats 8000000
set_option linter.unusedVariables false
namespace Mine
theorem join_closed {M : Model} {A : Around} {E : Value → Shared → Prop} {s : Shared} {n : Int} {k : Nat} {h m b p q pb qb : Int} {c : Bool} {st : List Dat} {t : Sem Value} {Q : Value → Shared → Prop} (I : SInv n k h m b p q pb qb c st)
    (h1 : wpAny M A t (JoinB (c || (decide (0 < k) && decide (m = 1))) s) E s) (h2 : ∀ tk, Q (.bool (c || (decide (0 < k) && decide (m = 1)))) { s with toks := tk }) : wpAny M A t Q E s := join_bool h1 h2
theorem jb1 {c x : Bool} (h : c = true) : c = (c || x) := by rw [h]; rfl
theorem jb2 {c : Bool} {m k : Int} {pre : List Int} (h : c = false) (e : k = 0 + (pre.length : Int)) (hk : 0 < k) : (m == 1) = (c || (decide (0 < pre.length) && decide (m = 1))) := by
  rw [h, decide_eq_true (show 0 < pre.length by omega), Bool.true_and, Bool.false_or]
  by_cases e : m = 1 <;> simp [e]
theorem jb3 {c : Bool} {m k : Int} {pre : List Int} (h : c = false) (e : k = 0 + (pre.length : Int)) (hk : ¬ 0 < k) : decide (0 < k) = (c || (decide (0 < pre.length) && decide (m = 1))) := by
  rw [h, decide_eq_false hk, decide_eq_false (show ¬ 0 < pre.length by omega), Bool.false_and, Bool.false_or]
theorem hv_if {k m : Int} {pre : List Int} (e : k = 0 + (pre.length : Int)) : (if k.fmod 2 = 1 then -m else m) = if pre.length % 2 = 0 then m else -m := by
  rw [Int.fmod_eq_emod_of_nonneg _ (by decide)]
  by_cases h : pre.length % 2 = 0
  · rw [if_pos h, if_neg (by omega)]
  · rw [if_neg h, if_pos (by omega)]
/-- the sign of the step's text -/
def SgnOk (k : Int) (x : Str) : Prop := (k.fmod 2 = 1 ∧ x = Str.ofString "-") ∨ (¬ k.fmod 2 = 1 ∧ (x = Str.ofString "" ∨ x = Str.ofString "+"))
def sgv (k v : Int) : Int := if k.fmod 2 = 1 then -v else v
theorem sgn_le {k : Int} {x : Str} (h : SgnOk k x) : x.length ≤ 1 := by
  rcases h with ⟨_, rfl⟩ | ⟨_, rfl | rfl⟩ <;> decide
theorem sgn_off {k v : Int} {x : Str} (h : SgnOk k x) : ((x = Str.ofString "" ∨ x = Str.ofString "+") ∧ sgv k v = v) ∨ (x = Str.ofString "-" ∧ sgv k v = -v) := by
  rcases h with ⟨h, e⟩ | ⟨h, e⟩
  · exact .inr ⟨e, if_pos h⟩
  · exact .inl ⟨e, if_neg h⟩
theorem abs_sgv {k v : Int} (h : 0 ≤ v) : (if sgv k v < 0 then -(sgv k v) else sgv k v) = v := by
  unfold sgv; split <;> split <;> omega
theorem sg_yes {k v m : Int} (h : 0 < sgv k v) (hv : 0 ≤ v) : m = if k.fmod 2 = 1 then -m else m := by
  unfold sgv at h; split at h
  · omega
  · rw [if_neg (by assumption)]
theorem sg_no {k v m : Int} (h : ¬ 0 < sgv k v) (hv : 0 < v) : -m = if k.fmod 2 = 1 then -m else m := by
  unfold sgv at h; split at h
  · rw [if_pos (by assumption)]
  · omega
def stopB (k : Nat) (m q : Int) (c : Bool) (B : Int) : Bool := (c || (decide (0 < k) && decide (m = 1))) && decide (B < q)
section
variable {M : Model} {A : Around} {E : Value → Shared → Prop} {s : Shared} {h₀ : Heap} {L : Addr} {mm : Str → Option Value} {rest : List (Addr × Obj)}
def JoinS (h₀ : Heap) (L : Addr) (mm : Str → Option Value) (rest : List (Addr × Obj)) (k : Int) (s : Shared) (v : Value) (s' : Shared) : Prop := ∃ x t h' tk, v = .str x t ∧ SgnOk k x ∧ Fr h₀ L h' mm ∧ News h₀ L h' rest ∧ s' = { s with heap := h', toks := tk }
theorem JoinS.intro {k : Int} {x : Str} {t : Tok} {h' : Heap} {tk : Nat} {nw : List (Addr × Obj)} (F : Fr h₀ L h' mm) (N : News h₀ L h' nw) (hs : SgnOk k x) (h : ∀ p ∈ rest, p ∈ nw) : JoinS h₀ L mm rest k s (.str x t) { s with heap := h', toks := tk } :=
  ⟨x, t, h', tk, rfl, hs, F, fun p hp => N p (h p hp), rfl⟩
theorem join_sign {k : Int} {pre : List Int} (_e : k = 0 + (pre.length : Int)) (F : Fr h₀ L s.heap mm) (N : News h₀ L s.heap rest) {t : Sem Value} {Q : Value → Shared → Prop} (h1 : wpAny M A t (JoinS h₀ L mm rest k s) E s)
    (h2 : ∀ x t h' tk', SgnOk k x → Fr h₀ L h' mm → News h₀ L h' rest → Q (.str x t) { s with heap := h', toks := tk' }) : wpAny M A t Q E s := by
  refine wpAny_mono h1 (fun v s' h => ?_) fun _ _ e => e
  obtain ⟨x, t, h', tk, rfl, hs, F', N', rfl⟩ := h
  exact h2 x t h' tk hs F' N'
def JoinI (x : Int) (s : Shared) (v : Value) (s' : Shared) : Prop := ∃ t tk, v = .int x t ∧ s' = { s with toks := tk }
theorem JoinI.intro {x y : Int} {t : Tok} {tk : Nat} (e : y = x) : JoinI x s (.int y t) { s with toks := tk } := by subst e; exact ⟨t, tk, rfl, rfl⟩
theorem join_val {k m : Int} {pre : List Int} {n : Int} {kk : Nat} {h b p q pb qb : Int} {c : Bool} {st : List Dat} (_I : SInv n kk h m b p q pb qb c st) (_e : k = 0 + (pre.length : Int)) {t : Sem Value} {Q : Value → Shared → Prop} (h1 : wpAny M A t (JoinI (if k.fmod 2 = 1 then -m else m) s) E s)
    (h2 : ∀ t tk, Q (.int (if k.fmod 2 = 1 then -m else m) t) { s with toks := tk }) : wpAny M A t Q E s := by
  refine wpAny_mono h1 (fun v s' h => ?_) fun _ _ e => e
  obtain ⟨t, tk, rfl, rfl⟩ := h
  exact h2 t tk
def JoinT (x : Bool) (s : Shared) (b : Bool) (s' : Shared) : Prop := b = x ∧ ∃ tk, s' = { s with toks := tk }
theorem JoinT.no {x b : Bool} {tk : Nat} (e : b = x) : JoinT x s b { s with toks := tk } := ⟨e, tk, rfl⟩
theorem if_stop {n : Int} {k : Nat} {h m b p q pb qb : Int} {c : Bool} {st : List Dat} (_I : SInv n k h m b p q pb qb c st) (B : Int) {env : Env} {test : Expr} {body : List Stmt} {pos : Pos} {Q : Flow → Shared → Prop}
    (h1 : wpAny M A (isTrue test env (eval test env)) (JoinT (stopB k m q c B) s) E s) (hy : stopB k m q c B = true → ∀ tk, wpAny M A (execs body env) Q E { s with toks := tk }) (hn : stopB k m q c B = false → ∀ tk, Q .next { s with toks := tk }) :
    wpAny M A (exec (.If test body [] pos) env) Q E s := by
  refine wpAny_If (wpAny_mono h1 (fun x s' hb => ?_) fun _ _ e => e)
  obtain ⟨rfl, tk, rfl⟩ := hb
  by_cases hx : stopB k m q c B = true
  · rw [if_pos hx]; exact hy hx tk
  · rw [if_neg hx]; exact wpAny_execs_nil (hn (by simpa using hx) tk)
end
theorem jt_c {k : Nat} {m q B : Int} {c : Bool} (h : (c || (decide (0 < k) && decide (m = 1))) = false) : false = stopB k m q c B := by unfold stopB; rw [h]; rfl
theorem jt_y {k : Nat} {m q B : Int} {c b : Bool} (h : (c || (decide (0 < k) && decide (m = 1))) = true) (e : b = decide (B < q)) : b = stopB k m q c B := by unfold stopB; rw [h, e]; rfl
theorem stop_y {k : Nat} {m q B : Int} {c : Bool} (h : stopB k m q c B = true) : (c || (decide (0 < k) && decide (m = 1))) = true ∧ B < q := by
  unfold stopB at h; rw [Bool.and_eq_true, decide_eq_true_eq] at h; exact h
theorem hgo_x {k : Nat} {m q B : Int} {c c' : Bool} (hc : c' = (c || (decide (0 < k) && decide (m = 1)))) (h : stopB k m q c B = false) : ¬(c' = true ∧ B < q) := by
  rintro ⟨h1, h2⟩
  unfold stopB at h; rw [← hc, h1, decide_eq_true h2] at h; cases h
theorem steps_end {h₀ h' : Heap} {L D Dt g1 g2 l : Addr} {m : Str → Option Value} {s : Shared} {Q : Value → Shared → Prop} {us : List Value} {ds : List Dat} {d : Dat} {n tk' : Nat} {rest news kTl X : List (Addr × Obj)} {P : List Dat → Prop} {o1 o2 ol tup : Obj}
    (hret : ∀ (D : Addr) (us : List Value) (n : Nat) (ds : List Dat) (tl : List (Addr × Obj)) h' tk', Fr h₀ L h' m → News h₀ L h' ((D, listOf us.toArray n) :: (news ++ tl)) → (∀ q ∈ news, q.1 < D) → OwnOff tl (D :: news.map (·.1)) → DatAll (news ++ tl) us ds → P ds → Q (.ref D) { s with heap := h', toks := tk' })
    (F : Fr h₀ L h' m) (N : News h₀ L h' rest) (hd : DatAll ((g1, o1) :: (g2, o2) :: (l, ol) :: (news ++ kTl)) us ds) (h1 : (D, listOf (us ++ [Value.ref Dt]).toArray n) ∈ rest) (ht : (Dt, tup) ∈ rest) (hg1 : (g1, o1) ∈ rest) (hg2 : (g2, o2) ∈ rest)
    (h2 : ∀ p ∈ news, p ∈ rest) (h3 : ∀ p ∈ kTl, p ∈ rest) (hl : (l, ol) ∈ news) (aD : AllLt D news) (aT : AllLt Dt (news ++ X)) (a1 : AllLt g1 news) (a2 : AllLt g2 news) (nT : @LT.lt Nat _ D Dt) (n1 : @LT.lt Nat _ D g1) (n2 : @LT.lt Nat _ D g2)
    (ho : OwnOff kTl (D :: g1 :: g2 :: l :: news.map (·.1))) (hp : P (ds ++ [d])) (hdd : DatIn [(Dt, tup)] (Value.ref Dt) d) : Q (.ref D) { s with heap := h', toks := tk' } := by
  refine end_D (tl := (Dt, tup) :: (g1, o1) :: (g2, o2) :: kTl) hret F N h1 h2 ?_ (tb_ltOf aD) ?_ ?_ hp
  · intro p hp
    simp only [List.mem_cons] at hp
    rcases hp with rfl | rfl | rfl | hp
    · exact ht
    · exact hg1
    · exact hg2
    · exact h3 p hp
  · have new : ∀ {a : Addr}, @LT.lt Nat _ D a → AllLt a news → ∀ b ∈ D :: news.map (·.1), a ≠ b := by
      intro a h4 h5 b hb
      rcases List.mem_cons.mp hb with rfl | hb
      · exact Nat.ne_of_gt h4
      · obtain ⟨q, hq, rfl⟩ := List.mem_map.mp hb
        exact Nat.ne_of_gt (tb_ltOf h5 q hq)
    have aT' : AllLt Dt news := allLt_of fun q hq => tb_ltOf aT q (List.mem_append.mpr (.inl hq))
    intro p hp
    simp only [List.mem_cons] at hp
    rcases hp with rfl | rfl | rfl | hp
    · exact new nT aT'
    · exact new n1 a1
    · exact new n2 a2
    · intro b hb
      refine ho p hp b ?_
      rcases List.mem_cons.mp hb with rfl | hb
      · exact .head _
      · exact .tail _ (.tail _ (.tail _ (.tail _ hb)))
  · refine DatAll.append (DatAll.mono ?_ hd) (.one (DatIn.mono ?_ hdd))
    · intro p hp
      simp only [List.mem_cons, List.mem_append] at hp ⊢
      rcases hp with rfl | rfl | rfl | hp | hp
      · exact .inr (.inr (.inl rfl))
      · exact .inr (.inr (.inr (.inl rfl)))
      · exact .inl hl
      · exact .inl hp
      · exact .inr (.inr (.inr (.inr hp)))
    · intro p hp
      rw [List.mem_singleton.mp hp]
      exact List.mem_append.mpr (.inr (.head _))
theorem steps_con (w : World) (number bound : Int) (l : Addr) (ds : List Int) (vs : List Value) (t1 t2 : Tok) (n0 : 2 ≤ number) (n1 : number ≤ 168) (hs : sq number = false) (b0 : 8 ≤ bound) (b1 : bound ≤ 24) (d0 : 0 < ds.length) (d1 : ds.length ≤ 16) (di : IntsAre vs ds) :
    ConD (RowW.prog (OpenRow.toRowW (OpenLaw.row PySem.Challenge.rw_xg0011_02))) w (hd.heap_39 w.params) hd.view_39 (looseW hd.view_39 [Str.ofString "UTC_ZONES", Str.ofString "TIMEZONE_RE"]) 98 [.int number t1, .int bound t2, .ref l] 5 256 (fun b nw => ∃ n, (l, listOf vs.toArray n) ∈ nw) (StepsAre number bound) := by
  w_top off
  k_with_none
  k_fill
  unfold ConD
  intro mean mg mb dp un gd cn cs aa ccd cl outer A₀ base h₀ L m news s Q E B F X N T hk hin hd hu hret
  obtain ⟨n, hin⟩ := hin
  have N2 : News h₀ L s.heap ((l, listOf vs.toArray n) :: news) := fun p hp => by
    rcases List.mem_cons.mp hp with rfl | hp
    · exact N _ hin
    · exact N p hp
  clear N
  refine wpAny_call ?_
  k_dflt cell_enter
  have hlt := lt_of_news ‹News _ _ _ ((l, _) :: news)›
  (k_with "table" => skip)
  (k_with "pyIter ref" => k_dat (fun pre h m b p q pb qb c steps => SInv number pre.length h m b p q pb qb c steps ∧ ((0 ≤ h ∧ h ≤ 12) ∧ (1 ≤ m ∧ m ≤ 24) ∧ (0 ≤ b ∧ b ≤ 168) ∧ (0 ≤ p ∧ p ≤ 2000000000) ∧ (0 ≤ q ∧ q ≤ 2000000000) ∧ (0 ≤ pb ∧ pb ≤ 2000000000) ∧ (0 ≤ qb ∧ qb ≤ 2000000000)) ∧ steps.length = pre.length ∧ pre.length < 59) "hours" "minutes" "before" "p" "q" "p_before" "q_before" "closed" "steps*")
  (k_with "state" => first | exact s_start n0 n1 | exact s_next (B := bound) (by assumption) n0 n1 hs b1 (by assumption) rfl (hgo_x rfl (by assumption)) (by assumption) (by assumption) (hv_if (by assumption)))
  repeat' (first
    | (k_unfold; (try dsimp only))
    | (k_end; wrow_close)
    | (k_here; (with_reducible show wpAny _ _ (eval (Expr.IfExp _ (Expr.Constant (Const.str _) _ _) _ _) _) _ _ _); (fail_if_success (with_reducible show wpAny _ _ _ (JoinS _ _ _ _ _ _) _ _)); (refine join_sign (by assumption) (by k_asm) (by k_asm) ?_ ?_); (case' refine_2 => intro x' t' h' tk' hsg' F' N'; (try dsimp only)))
    | ((with_reducible show JoinS _ _ _ _ _ _ _ _); (refine JoinS.intro (by k_asm) (by k_asm) ?sg ?sb); (case sg => first | exact .inl ⟨by assumption, rfl⟩ | exact .inr ⟨by assumption, sgn_or _⟩); (case sb => intro p hp; repeat (first | exact hp | refine List.Mem.tail _ ?_)))
    | (k_here; (with_reducible show wpAny _ _ (eval (Expr.IfExp _ (Expr.Name _ _) (Expr.UnaryOp _ _ _) _) _) _ _ _); (fail_if_success (with_reducible show wpAny _ _ _ (JoinI _ _) _ _)); (refine join_val (by assumption) (by assumption) ?_ ?_); (case' refine_2 => intro t' tk'; (try dsimp only)))
    | ((with_reducible show JoinI _ _ _ _); (refine JoinI.intro ?e); (case e => first | exact sg_yes (by assumption) (by omega) | exact sg_no (by assumption) (by omega)))
    | (k_here; (with_reducible show wpAny _ _ (exec (Stmt.If (Expr.BoolOp _ _ _) [Stmt.Return _ _] [] _) _) _ _ _); (rename SInv _ _ _ _ _ _ _ _ _ _ _ => hSI); (refine if_stop hSI bound ?_ ?_ ?_); (case' refine_2 => intro hst tk'; (try dsimp only)); (case' refine_3 => intro hst tk'; (try dsimp only)))
    | ((with_reducible show JoinT _ _ _ _); (refine JoinT.no ?e); (case e => first | exact jt_c (by assumption) | exact jt_y (by assumption) rfl | exact jt_y (by assumption) (decide_eq_true (by assumption)).symm | exact jt_y (by assumption) (decide_eq_false (by assumption)).symm))
    | (k_here; (with_reducible show wpAny _ _ (call (Value.ref 72) [Value.int _ _]) _ _ _); (refine' call_root ?k1 ?k2 ?k3 ?k4 ?k5 ?kK ?kp ?kd ?ku ?_); (case k1 => k_asm); (case k2 => k_asm); (case k3 => k_asm); (case k4 => k_asm); (case k5 => k_asm); (case kK => first | exact rfl | assumption); (case kp => omega); (case kd => ktr_room); (case ku => ktr_units); (intro t' h' tk' hr0' hr1' F' N'; (try dsimp only); (try k_fold)))
    | (k_here; (with_reducible show wpAny _ _ (call (Value.ref 84) [Value.int _ _, Value.int _ _, Value.int _ _]) _ _ _); (refine' call_parted ?k1 ?k2 ?k3 ?k4 ?k5 ?kK ?kp ?kd ?ku ?_); (case k1 => k_asm); (case k2 => k_asm); (case k3 => k_asm); (case k4 => k_asm); (case k5 => k_asm); (case kK => first | exact rfl | assumption); (case kp => exact wpre_of (by omega) (by omega) (parts_bd _).1 (parts_bd _).2 (by omega) (by omega)); (case kd => ktr_room); (case ku => ktr_units); (intro o' r' ho' hr' ho0' ho1' hr0' hr1' D' t' u' c' h' tk' F' N' l1; (try k_lt l1); (try dsimp only); (try k_fold)))
    | (k_here; (with_reducible show wpAny _ _ (call (Value.ref 91) [Value.int _ _, Value.int _ _, Value.int _ _, Value.str _ _]) _ _ _); (refine' call_text ?k1 ?k2 ?k3 ?k4 ?k5 ?kK ?kp ?kl ?ks ?kd ?ku ?_); (case k1 => k_asm); (case k2 => k_asm); (case k3 => k_asm); (case k4 => k_asm); (case k5 => k_asm); (case kK => first | exact rfl | assumption); (case kp => omega); (case kl => exact look_bd _); (case ks => exact sgn_le (by assumption)); (case kd => ktr_room); (case ku => ktr_units); (intro t' h' tk' F' N'; (try dsimp only); (try k_fold)))
    | (k_here; (with_reducible show wpAny _ _ (call (Value.ref 44) [Value.str (textT _ _ _ _) _]) _ _ _); (refine' call_off ?k1 ?k2 ?k3 ?k4 ?k5 ?kK ?kp ?ks ?kd ?ku ?_); (case k1 => k_asm); (case k2 => k_asm); (case k3 => k_asm); (case k4 => k_asm); (case k5 => k_asm); (case kK => first | exact rfl | assumption); (case kp => omega); (case ks => exact sgn_off (by assumption)); (case kd => ktr_room); (case ku => ktr_units); (intro t' h' tk' F' N'; (try dsimp only); (try k_fold)))
    | (k_here; (with_reducible show wpAny _ _ (call (Value.builtin "abs") [Value.int (sgv _ _) _]) _ _ _); (refine abs_as (abs_sgv (by omega)) ?_); intro _ _)
    | (k_here; (with_reducible show wpAny _ _ (binaryOp .FloorDiv (Value.int (3600 * _ + 60 * _) _) (Value.int _ _)) _ _ _); (first | (refine fdiv_as (by decide) (by decide) (d3600 (by omega) (by omega)) ?_) | (refine fdiv_as (by decide) (by decide) d60 ?_)))
    | (k_here; (with_reducible show wpAny _ _ (binaryOp .Mod (Value.int (60 * _ + _) _) (Value.int 60 _)) _ _ _); (refine mod_as (by decide) (m60 (by omega) (by omega)) ?_))
    | (k_here; (with_reducible show wpAny _ _ (exec (Stmt.Assign [Expr.Name (PySem.Str.ofString "closed") _] (Expr.BoolOp _ _ _) _) _) _ _ _); (rename SInv _ _ _ _ _ _ _ _ _ _ _ => hSI); (refine wpAny_Assign_Name (join_closed hSI ?_ ?_)); (case' refine_2 => intro _))
    | ((with_reducible show JoinB _ _ _ _); first | exact ⟨_, _, rfl, jb1 (by assumption), rfl⟩ | exact ⟨_, _, rfl, jb2 (by assumption) (by assumption) (by assumption), rfl⟩ | exact ⟨_, _, rfl, jb3 (by assumption) (by assumption) (by assumption), rfl⟩)
    | (k_here; (with_reducible show wpAny _ _ (exec (Stmt.If _ [Stmt.Return (some (Expr.List [] _)) _] [] _) _) _ _ _); (refine if_nogo ?_))
    | ((with_reducible show NoGo _ _); ((refine NoGo.intro ?nb ?_); (case nb => first | rfl | exact beq_eq_false_iff_ne.mpr (by omega))))
    | (walk1 <;> (try dsimp only))
    | (dsimp only; walk1)
    | (leave1; walk_say "STEP leave1"; try dsimp only))
  all_goals first
    | exact absurd (show (rangeKs 0 _).length < 59 by assumption) (by rw [rangeKs_length]; decide)
    | ((rename News _ _ _ _ => nE)
       (simp only [List.push_toArray] at nE)
       refine' steps_end hret ?eF nE ?ed ?e1 ?et ?eg1 ?eg2 ?e2 ?e3 hin ?aD ?aT ?a1 ?a2 ?nT ?n1 ?n2 ?eo ?ep ?edd
       case eF => k_asm
       case ed => assumption
       case e1 => k_mem
       case et => k_mem
       case eg1 => k_mem
       case eg2 => k_mem
       case e2 => intro p hp; repeat first | exact List.mem_append.mpr (.inl hp) | exact List.mem_append.mpr (.inr (List.mem_append.mpr (.inl hp))) | refine List.Mem.tail _ ?_
       case e3 => intro p hp; repeat first | exact List.mem_append.mpr (.inl hp) | exact List.mem_append.mpr (.inr (List.mem_append.mpr (.inl hp))) | refine List.Mem.tail _ ?_
       case aD => first | assumption | exact And.right (by assumption) | exact And.right (And.right (by assumption)) | exact And.right (And.right (And.right (by assumption)))
       case aT => first | assumption | exact And.right (by assumption) | exact And.right (And.right (by assumption)) | exact And.right (And.right (And.right (by assumption))) | exact And.right (And.right (And.right (And.right (by assumption)))) | exact And.right (And.right (And.right (And.right (And.right (by assumption))))) | exact And.right (And.right (And.right (And.right (And.right (And.right (by assumption)))))) | exact And.right (And.right (And.right (And.right (And.right (And.right (And.right (by assumption)))))))
       case a1 => first | assumption | exact And.right (by assumption) | exact And.right (And.right (by assumption)) | exact And.right (And.right (And.right (by assumption)))
       case a2 => first | assumption | exact And.right (by assumption) | exact And.right (And.right (by assumption)) | exact And.right (And.right (And.right (by assumption)))
       case nT => omega
       case n1 => omega
       case n2 => omega
       case eo => exact KdSep.three (by assumption)
       case ep => exact sinv_end (by assumption) rfl (stop_y (by assumption)).1 (stop_y (by assumption)).2 (hv_if (by assumption))
       case edd => exact DatIn.tuple (.head _) (.cons (.int _ _) (.cons (.int _ _) (.cons (.int _ _) (.cons (.int _ _) .nil)))))
end Mine
end
section
open PySem PySem.W PyProof.Rows PySem.Spec PySem.Calls
set_option Elab.async false
set_option maxRecDepth 100000
set_option maxHeartbeats 8000000
set_option linter.unusedVariables false
namespace Mine
local macro_rules | `(tactic| walk_at "exec While Compare cons nil") => `(tactic| k_extra "exec While Compare cons nil")
section
variable {h₀ h' : Heap} {L i : Addr} {s₁ : Shared} {m' : Str → Option Value} {tk : Nat} {o : Obj} {a : Addr × Obj} {r : List (Addr × Obj)} {rest : (Str → Option Value) → List (Addr × Obj) → Prop}
theorem unrA (F : Fr h₀ L h' m') (N : News h₀ L h' ((i, o) :: r)) (hne : ∀ p ∈ r, p.1 ≠ i) (h : rest m' r) : UnrEndW h₀ L s₁ [(i, o)] rest { s₁ with heap := h', toks := tk } :=
  ⟨h', tk, m', r, rfl, F, N, fun p hp q hq => by rw [List.mem_singleton.mp hq]; exact hne p hp, h⟩
theorem unrB (F : Fr h₀ L h' m') (N : News h₀ L h' (a :: (i, o) :: r)) (ha : a.1 ≠ i) (hne : ∀ p ∈ r, p.1 ≠ i) (h : rest m' (a :: r)) : UnrEndW h₀ L s₁ [(i, o)] rest { s₁ with heap := h', toks := tk } := by
  refine ⟨h', tk, m', a :: r, rfl, F, fun p hp => N p ?_, fun p hp q hq => ?_, h⟩
  · simp only [List.cons_append, List.nil_append, List.mem_cons] at hp ⊢
    rcases hp with hp | hp | hp
    · exact .inr (.inl hp)
    · exact .inl hp
    · exact .inr (.inr hp)
  · rw [List.mem_singleton.mp hq]
    rcases List.mem_cons.mp hp with rfl | hp
    · exact ha
    · exact hne p hp
end
theorem ne_conj {a i : Addr} {P : Prop} (h : @LT.lt Nat _ i a ∧ P) : a ≠ i := Nat.ne_of_gt h.1
theorem ne_all {i : Addr} {r : List (Addr × Obj)} (h : AllLt i r) : ∀ p ∈ r, p.1 ≠ i := fun p hp => Nat.ne_of_lt (tb_ltOf h p hp)
theorem one_end {h₀ h' : Heap} {L D g1 : Addr} {m : Str → Option Value} {s : Shared} {Q : Value → Shared → Prop} {us : List Value} {ds : List Dat} {n tk' : Nat} {rest news kTl : List (Addr × Obj)} {P : List Dat → Prop} {o1 : Obj}
    (hret : ∀ (D : Addr) (us : List Value) (n : Nat) (ds : List Dat) (tl : List (Addr × Obj)) h' tk', Fr h₀ L h' m → News h₀ L h' ((D, listOf us.toArray n) :: (news ++ tl)) → (∀ q ∈ news, q.1 < D) → OwnOff tl (D :: news.map (·.1)) → DatAll (news ++ tl) us ds → P ds → Q (.ref D) { s with heap := h', toks := tk' })
    (F : Fr h₀ L h' m) (N : News h₀ L h' rest) (hd : DatAll ((g1, o1) :: (news ++ kTl)) us ds) (h1 : (D, listOf us.toArray n) ∈ rest) (hg1 : (g1, o1) ∈ rest)
    (h2 : ∀ p ∈ news, p ∈ rest) (h3 : ∀ p ∈ kTl, p ∈ rest) (aD : ∀ q ∈ news, q.1 < D) (a1 : AllLt g1 news) (n1 : @LT.lt Nat _ D g1)
    (ho : OwnOff kTl (D :: g1 :: news.map (·.1))) (hp : P ds) : Q (.ref D) { s with heap := h', toks := tk' } := by
  refine end_D (tl := (g1, o1) :: kTl) hret F N h1 h2 ?_ aD ?_ ?_ hp
  · intro p hp
    rcases List.mem_cons.mp hp with rfl | hp
    · exact hg1
    · exact h3 p hp
  · intro p hp
    rcases List.mem_cons.mp hp with rfl | hp
    · intro b hb
      rcases List.mem_cons.mp hb with rfl | hb
      · exact Nat.ne_of_gt n1
      · obtain ⟨q, hq, rfl⟩ := List.mem_map.mp hb
        exact Nat.ne_of_gt (tb_ltOf a1 q hq)
    · intro b hb
      refine ho p hp b ?_
      rcases List.mem_cons.mp hb with rfl | hb
      · exact .head _
      · exact .tail _ (.tail _ hb)
  · refine DatAll.mono ?_ hd
    intro p hp
    simp only [List.mem_cons, List.mem_append] at hp ⊢
    rcases hp with rfl | hp | hp
    · exact .inr (.inl rfl)
    · exact .inl hp
    · exact .inr (.inr hp)
theorem small_con (w : World) (number bound : Int) (t1 t2 : Tok) (n0 : 2 ≤ number) (n1 : number ≤ 168) (b0 : 8 ≤ bound) (b1 : bound ≤ 24) :
    ConD (RowW.prog (OpenRow.toRowW (OpenLaw.row PySem.Challenge.rw_xg0011_02))) w (hd.heap_39 w.params) hd.view_39 (looseW hd.view_39 [Str.ofString "UTC_ZONES", Str.ofString "TIMEZONE_RE"]) 112 [.int number t1, .int bound t2] 5 256 (fun _ _ => True) (fun ds => ds = small number bound) := by
  w_top off
  k_with_none
  k_fill
  unfold ConD
  intro mean mg mb dp un gd cn cs aa ccd cl outer A₀ base h₀ L m news s Q E B F X N T hk hin hd hu hret
  refine wpAny_call ?_
  k_dflt cell_enter
  have hlt := lt_of_news ‹News _ _ _ news›
  (k_with "pyIter ref" => k_of "q" => k_dat (fun pre b out => 0 ≤ b ∧ b ≤ 320 ∧ BInv number pre.length b ∧ out = pre.flatMap (items number) ∧ out.length ≤ 2 * pre.length) "below" "small*")
  (k_with "exec While Compare cons nil" => k_while_given ["number", "q"] (fun number q _ b => 0 ≤ b ∧ b ≤ 320 ∧ WB number q b) (fun _ _ _ b => (400 - b).toNat) "below")
  (k_with "state" => first | exact sm_start | exact ⟨by assumption, by assumption, wb_start (by assumption) (by assumption) n0⟩ | exact sm_while (by assumption) (by assumption) n0 n1 (by omega) (by omega) | exact sm_next n0 n1 app4 (by assumption) (by omega) (by assumption) (by assumption) (by assumption) (by assumption) (by first | assumption | rfl) (by assumption) (by first | exact one_yg (by assumption) (by assumption) | exact one_n (by assumption) | exact one_mg (by assumption)) (by first | exact one_yg (by assumption) (by assumption) | exact one_n (by assumption) | exact one_mg (by assumption)) | exact sm_next n0 n1 app1 (by assumption) (by omega) (by assumption) (by assumption) (by assumption) (by assumption) (by first | assumption | rfl) (by assumption) (by first | exact one_yg (by assumption) (by assumption) | exact one_n (by assumption) | exact one_mg (by assumption)) (by first | exact one_yg (by assumption) (by assumption) | exact one_n (by assumption) | exact one_mg (by assumption)) | exact sm_next n0 n1 app2 (by assumption) (by omega) (by assumption) (by assumption) (by assumption) (by assumption) (by first | assumption | rfl) (by assumption) (by first | exact one_yg (by assumption) (by assumption) | exact one_n (by assumption) | exact one_mg (by assumption)) (by first | exact one_yg (by assumption) (by assumption) | exact one_n (by assumption) | exact one_mg (by assumption)) | exact sm_next n0 n1 app0 (by assumption) (by omega) (by assumption) (by assumption) (by assumption) (by assumption) (by first | assumption | rfl) (by assumption) (by first | exact one_yg (by assumption) (by assumption) | exact one_n (by assumption) | exact one_mg (by assumption)) (by first | exact one_yg (by assumption) (by assumption) | exact one_n (by assumption) | exact one_mg (by assumption)))
  (k_with "measure" => omega)
  repeat' (first
    | (k_unfold; (try dsimp only))
    | (k_end; wrow_close)
    | ((with_reducible show UnrEndW _ _ _ _ _ _); ((rename News _ _ _ _ => nE); first | (refine unrB (by assumption) nE (ne_conj ?u1) (ne_all ?u2) ⟨by k_subL, ?_⟩; (case u1 => assumption); (case u2 => assumption)) | (refine unrA (by assumption) nE (ne_all ?u2) ⟨by k_subL, ?_⟩; (case u2 => assumption)) | (refine unrB (by assumption) nE (by (refine neN ?_; omega)) (by k_all) ⟨by k_subL, ?_⟩) | (refine unrA (by assumption) nE (by k_all) ⟨by k_subL, ?_⟩)))
    | ((k_here; (with_reducible show wpAny _ _ (pyIter (Value.ref _)) (fun it s₂ => TurnsAt _ _ _ _ _ _ _ _ _ it s₂) _ _); (rename Fr _ _ _ _ => lF'); (with_unfolding_all refine iter_tupTurns (by rfl) lF' (by k_asm) (by k_mem) (by rfl) (by rfl) ?_); clear lF'; intro i' l1; (try k_lt l1)))
    | ((k_here; (with_reducible show wpAny _ _ (call (Value.ref 105) [Value.int _ _, Value.int _ _]) _ _ _); (refine' call_strangers ?k1 ?k2 ?k3 ?k4 ?k5 ?kK ?kp ?kd ?ku ?_); (case k1 => k_asm); (case k2 => k_asm); (case k3 => k_asm); (case k4 => k_asm); (case k5 => k_asm); (case kK => first | exact rfl | assumption); (case kp => omega); (case kd => ktr_room); (case ku => ktr_units); (intro h' tk' F' N'; (try dsimp only); (try k_fold))))
    | (walk1 <;> (try dsimp only))
    | (dsimp only; walk1)
    | (leave1; walk_say "STEP leave1"; try dsimp only))
  (rename News _ _ _ _ => nE)
  refine' one_end hret ?eF nE ?ed ?e1 ?eg1 ?e2 ?e3 ?aD ?a1 ?n1 ?eo ?ep
  case eF => k_asm
  case ed => assumption
  case e1 => k_mem
  case eg1 => k_mem
  case e2 => intro p hp; repeat first | exact List.mem_append.mpr (.inl hp) | exact List.mem_append.mpr (.inr hp) | refine List.Mem.tail _ ?_
  case e3 => intro p hp; repeat first | exact List.mem_append.mpr (.inr hp) | refine List.Mem.tail _ ?_
  case aD => assumption
  case a1 => first | assumption | exact And.right (by assumption) | exact And.right (And.right (by assumption))
  case n1 => omega
  case eo => assumption
  case ep => rfl
end Mine
end
section
set_option Elab.async false
set_option maxRecDepth 100000
set_option linter.unusedVariables false
open PySem PySem.W
namespace Mine
theorem chk_of {n : Int} (h2 : 2 ≤ n) (h1 : n ≤ 168) (hs : sq n = false) : chkAll n = true := by
  obtain ⟨a, rfl⟩ := Int.eq_ofNat_of_zero_le (show 0 ≤ n by omega)
  have := law_tab a (List.mem_range.mpr (by omega))
  rw [hs, decide_eq_false (show ¬ a < 2 by omega), Bool.false_or, Bool.false_or] at this
  exact this
theorem at_get {R : List St} {i : Nat} {f : St → Bool} (h : at? R i f = true) : ∃ s, R[i]? = some s ∧ f s = true := by
  unfold at? at h
  cases e : R[i]? with
  | none => rw [e] at h; cases h
  | some s => rw [e] at h; exact ⟨s, rfl, h⟩
structure Chk (n : Int) : Prop where
  e : chkEnd n (run n) (rnd n) = true
  p : chkPell n (run n) (rnd n) = true
  m : chkMono (run n) = true
  t : chkTold n (run n) = true
  d : chkMid n (run n) (rnd n) = true
  c : chkCost (run n) (rnd n) = true
  l : chkPal (run n) (rnd n) = true
theorem chk {n : Int} (h2 : 2 ≤ n) (h1 : n ≤ 168) (hs : sq n = false) : Chk n := by
  have h := chk_of h2 h1 hs
  unfold chkAll at h
  simp only [Bool.and_eq_true] at h
  exact ⟨h.1.1.1.1.1.1, h.1.1.1.1.1.2, h.1.1.1.1.2, h.1.1.1.2, h.1.1.2, h.1.2, h.2⟩
theorem end_1 {n : Int} (C : Chk n) : 1 ≤ rnd n ∧ ∃ s, (run n)[rnd n]? = some s ∧ s.m = 1 := by
  have h := C.e
  unfold chkEnd at h
  simp only [Bool.and_eq_true, decide_eq_true_eq] at h
  obtain ⟨s, hs, hm⟩ := at_get h.1.1.2
  exact ⟨h.1.1.1, s, hs, by simpa using hm⟩
theorem end_i {n : Int} (C : Chk n) {i : Nat} (hi : i < rnd n) : ∃ s, (run n)[i]? = some s ∧ s.i = i ∧ (i = 0 ∨ 1 < s.m) := by
  have h := C.e
  unfold chkEnd at h
  simp only [Bool.and_eq_true, decide_eq_true_eq] at h
  obtain ⟨s, hs, hm⟩ := at_get (List.all_eq_true.mp h.1.2 i (List.mem_range.mpr hi))
  simp only [Bool.and_eq_true, Bool.or_eq_true, decide_eq_true_eq] at hm
  exact ⟨s, hs, hm.1, hm.2⟩
theorem num_i {n : Int} (C : Chk n) {i : Nat} {s : St} (hi : (run n)[i]? = some s) : s.i = i ∧ (clo s = true → rnd n ≤ i) := by
  have h := C.e
  unfold chkEnd at h
  simp only [Bool.and_eq_true] at h
  have hm : (s, i) ∈ (run n).zipIdx := by
    rw [List.mem_zipIdx_iff_getElem?]; exact hi
  have := List.all_eq_true.mp h.2 _ hm
  simp only [Bool.and_eq_true, decide_eq_true_eq, Bool.or_eq_true, Bool.not_eq_true'] at this
  refine ⟨this.1, fun hc => ?_⟩
  rcases this.2 with h | h
  · rw [hc] at h; cases h
  · exact h
theorem dat_eq (s : St) : dat s = Dat.tuple [.int s.p, .int s.q, .int s.h, .int (sgn s)] := rfl
theorem dats_get {n : Int} {k i : Nat} (hi : i < k) : (dats n k)[i]? = ((run n)[i]?).map dat := by
  unfold dats
  rw [List.getElem?_map, List.getElem?_take_of_lt hi]
theorem dats_at {n : Int} {k i : Nat} {p q h m : Int} (hi : i < k) (e : (dats n k)[i]? = some (tup4 p q h m)) : ∃ s, (run n)[i]? = some s ∧ s.p = p ∧ s.q = q ∧ s.h = h ∧ sgn s = m := by
  rw [dats_get hi] at e
  cases hs : (run n)[i]? with
  | none => rw [hs] at e; cases e
  | some s =>
    rw [hs] at e
    have e' := Option.some.inj e
    rw [dat_eq] at e'
    simp only [tup4, Dat.tuple.injEq, List.cons.injEq, Dat.int.injEq] at e'
    exact ⟨s, rfl, e'.1, e'.2.1, e'.2.2.1, e'.2.2.2.1⟩
theorem dats_len {n : Int} {k : Nat} (h : k ≤ (run n).length) : (dats n k).length = k := by
  unfold dats
  rw [List.length_map, List.length_take]; omega
theorem dats_mem {n : Int} {k : Nat} {d : Dat} (h : d ∈ dats n k) : ∃ s ∈ run n, d = dat s := by
  unfold dats at h
  obtain ⟨s, hs, rfl⟩ := List.mem_map.mp h
  exact ⟨s, List.mem_of_mem_take hs, rfl⟩
theorem ok_of {n : Int} (h2 : 2 ≤ n) (h1 : n ≤ 168) (hs : sq n = false) {s : St} (hm : s ∈ run n) : (0 ≤ s.h ∧ s.h ≤ 12) ∧ (1 ≤ s.m ∧ s.m ≤ 24) := by
  have := okS_bd (List.all_eq_true.mp (run_fact h2 h1 hs).1 s hm)
  unfold SBd at this
  exact ⟨this.1, this.2.1⟩
theorem sgn_bd {s : St} (h : 1 ≤ s.m ∧ s.m ≤ 24) : (1 ≤ sgn s ∧ sgn s ≤ 24) ∨ (-24 ≤ sgn s ∧ sgn s ≤ -1) := by
  unfold sgn; split <;> omega
theorem run_len {n : Int} (C : Chk n) : rnd n + 1 ≤ (run n).length := by
  obtain ⟨_, s, hs, _⟩ := end_1 C
  exact (List.getElem?_eq_some_iff.mp hs).1
theorem mark_get {ds : List Dat} {i : Nat} {x : Str} (h : (ds.map markD)[i]? = some (Dat.str x)) : ∃ d, ds[i]? = some d ∧ markD d = Dat.str x := by
  rw [List.getElem?_map] at h
  cases hd : ds[i]? with
  | none => rw [hd] at h; cases h
  | some d => rw [hd] at h; exact ⟨d, rfl, Option.some.inj h⟩
theorem mark_dat {s : St} : markD (dat s) = Dat.str (mkS (sgn s)) := rfl
theorem mks_len (m : Int) : (mkS m).length ≤ 1 := by unfold mkS; split <;> exact Nat.le_refl 1
theorem round_ok {n : Int} (h2 : 2 ≤ n) (h1 : n ≤ 168) (hs : sq n = false) : RoundOk n (dats n (rnd n + 1)) ((dats n (rnd n + 1)).map markD) := by
  have C := chk h2 h1 hs
  have hl := run_len C
  have hlen : (dats n (rnd n + 1)).length = rnd n + 1 := dats_len hl
  have hJ := (end_1 C).1
  have hL := (run_fact h2 h1 hs).2
  have mk : ∀ {i : Nat} {x : Str}, ((dats n (rnd n + 1)).map markD)[i]? = some (Dat.str x) → i < rnd n + 1 ∧ ∃ s, (run n)[i]? = some s ∧ x = mkS (sgn s) := by
    intro i x h
    obtain ⟨d, hd, e⟩ := mark_get h
    have hi : i < rnd n + 1 := by rw [← hlen]; exact (List.getElem?_eq_some_iff.mp hd).1
    rw [dats_get hi] at hd
    cases hr : (run n)[i]? with
    | none => rw [hr] at hd; cases hd
    | some s =>
      rw [hr] at hd
      have := Option.some.inj hd
      subst this
      rw [mark_dat] at e
      exact ⟨hi, s, rfl, (Dat.str.inj e).symm⟩
  have sb : ∀ {i : Nat} {s : St}, (run n)[i]? = some s → (1 ≤ sgn s ∧ sgn s ≤ 24) ∨ (-24 ≤ sgn s ∧ sgn s ≤ -1) := fun h => sgn_bd (ok_of h2 h1 hs (List.mem_of_getElem? h)).2
  have mid : ∀ {p q h m : Int}, (dats n (rnd n + 1))[(dats n (rnd n + 1)).length / 2]? = some (tup4 p q h m) → ∃ s, (run n)[(rnd n + 1) / 2]? = some s ∧ s.h = h ∧ sgn s = m := by
    intro p q h m e
    rw [hlen] at e
    obtain ⟨s, a, _, _, b, c⟩ := dats_at (by omega) e
    exact ⟨s, a, b, c⟩
  have cm := C.d
  unfold chkMid at cm
  obtain ⟨sm, hsm, hmid⟩ := at_get cm
  refine ⟨by omega, by omega, rfl, ?_, ?_, ?_, ?_, ?_, ?_, ?_, ?_⟩
  · intro d hd
    obtain ⟨s, hm, rfl⟩ := dats_mem hd
    have o := ok_of h2 h1 hs hm
    have b := sgn_bd o.2
    exact ⟨_, _, _, _, rfl, o.1, by omega⟩
  · intro d hd
    obtain ⟨e, he, rfl⟩ := List.mem_map.mp hd
    obtain ⟨s, hm, rfl⟩ := dats_mem he
    exact ⟨_, mark_dat, mks_len _⟩
  · intro p q h m e ho
    obtain ⟨s, a, b, c⟩ := mid e
    rw [hsm] at a; cases a
    rw [hlen] at ho
    rw [if_pos (by omega)] at hmid
    have := of_decide_eq_true hmid
    rw [← b, ← c]
    have e2 : sgn sm * sgn sm = sm.m * sm.m := by
      unfold sgn
      split
      · rfl
      · exact Int.neg_mul_neg _ _
    rw [e2]; exact this
  · intro p q h m e ho
    obtain ⟨s, a, b, c⟩ := mid e
    rw [hsm] at a; cases a
    rw [hlen] at ho
    rw [if_neg (by omega)] at hmid
    have := of_decide_eq_true hmid
    have o := (ok_of h2 h1 hs (List.mem_of_getElem? hsm)).2
    rw [← c]
    have e2 : ((sgn sm).natAbs : Int) = sm.m := by unfold sgn; split <;> omega
    rw [e2]; exact this
  · intro p q h m e
    obtain ⟨s, a, b, c⟩ := mid e
    have := sb a
    omega
  · intro i x y hi hx hy
    obtain ⟨_, s, hs1, rfl⟩ := mk hx
    obtain ⟨_, s', hs2, rfl⟩ := mk hy
    rw [cost_mk (sb hs1) (sb hs2), hlen]
    have c := C.c
    unfold chkCost at c
    obtain ⟨s1, a1, c1⟩ := at_get (List.all_eq_true.mp c i (List.mem_range.mpr (by omega)))
    obtain ⟨s2, a2, c2⟩ := at_get c1
    rw [hs1] at a1; cases a1
    rw [hlen, Nat.add_sub_cancel] at hs2
    rw [hs2] at a2; cases a2
    have := of_decide_eq_true c2
    rw [this, Nat.add_sub_cancel]; omega
  · intro i j x y p q h m p' q' h' m' hx hy hd hd'
    obtain ⟨hj, s, hs1, rfl⟩ := mk hx
    obtain ⟨hi, s', hs2, rfl⟩ := mk hy
    obtain ⟨t, a, _, _, _, b⟩ := dats_at hj hd
    obtain ⟨t', a', _, _, _, b'⟩ := dats_at hi hd'
    rw [hs1] at a; cases a
    rw [hs2] at a'; cases a'
    rw [cost_mk (sb hs1) (sb hs2), b, b']
  · have l := of_decide_eq_true C.l
    have e : ((dats n (rnd n + 1)).drop 1).map hourD = (((run n).take (rnd n + 1)).drop 1).map (·.h) := by
      unfold dats
      rw [← List.map_drop, List.map_map]
      rfl
    rw [e]; exact l
end Mine
end
section
set_option Elab.async false
set_option maxRecDepth 100000
set_option linter.unusedVariables false
open PySem PySem.W
namespace Mine
def tripD (x : Int × Int × Int) : Dat := Dat.tuple [.int x.1, .int x.2.1, .int x.2.2]
def toldD (n B : Int) : Dat → List Dat
  | .tuple [.int p, .int q, .int _, .int a] => if 0 < q ∧ q ≤ B ∧ a * a < n then [Dat.tuple [.int p, .int q, .int a]] else []
  | _ => []
theorem told_dat (n B : Int) (s : St) : toldD n B (dat s) = (tripT B n s).map tripD := by
  show (if 0 < s.q ∧ s.q ≤ B ∧ sgn s * sgn s < n then [Dat.tuple [.int s.p, .int s.q, .int (sgn s)]] else []) = _
  unfold tripT
  split <;> rfl
theorem told_map (n B : Int) (R : List St) : (R.map dat).flatMap (toldD n B) = (R.flatMap (tripT B n)).map tripD := by
  induction R with
  | nil => rfl
  | cons s R ih => simp only [List.map_cons, List.flatMap_cons, List.map_append, ih, told_dat]
theorem one_trip (n q p : Int) : one n q p = (trip n q p).map tripD := by
  unfold one trip
  split <;> rfl
theorem small_map (n B : Int) : small n B = (smallT n (B + 1 - 1).toNat).map tripD := by
  unfold small smallT
  generalize rangeKs 1 (B + 1 - 1).toNat = L
  induction L with
  | nil => rfl
  | cons q L ih => simp only [List.flatMap_cons, List.map_append, ih, items, one_trip]
theorem filt_trip {n B : Int} (hB : B ≤ 24) (s : St) : (tripT 24 n s).filter (fun x => decide (x.2.1 ≤ B)) = tripT B n s := by
  unfold tripT
  by_cases h : 0 < s.q ∧ s.q ≤ B ∧ sgn s * sgn s < n
  · rw [if_pos h, if_pos ⟨h.1, by omega, h.2.2⟩]
    simp [h.2.1]
  · rw [if_neg h]
    by_cases h' : 0 < s.q ∧ s.q ≤ 24 ∧ sgn s * sgn s < n
    · rw [if_pos h']
      have : ¬ s.q ≤ B := fun hq => h ⟨h'.1, hq, h'.2.2⟩
      simp [this]
    · rw [if_neg h']; rfl
theorem filt_run {n B : Int} (hB : B ≤ 24) (R : List St) : (R.flatMap (tripT 24 n)).filter (fun x => decide (x.2.1 ≤ B)) = R.flatMap (tripT B n) := by
  induction R with
  | nil => rfl
  | cons s R ih => simp only [List.flatMap_cons, List.filter_append, ih, filt_trip hB]
theorem rk_tab : ∀ b ∈ List.range 25, (rangeKs 1 24).filter (fun q => decide (q ≤ ((b : Nat) : Int))) = rangeKs 1 b := by decide +kernel
theorem trip_q {n q p : Int} {x : Int × Int × Int} (h : x ∈ trip n q p) : x.2.1 = q := by
  unfold trip at h
  split at h
  · rw [List.mem_singleton.mp h]
  · cases h
theorem filt_items {B : Int} {f : Int → List (Int × Int × Int)} (hf : ∀ q, ∀ x ∈ f q, x.2.1 = q) (L : List Int) : (L.flatMap f).filter (fun x => decide (x.2.1 ≤ B)) = (L.filter (fun q => decide (q ≤ B))).flatMap f := by
  induction L with
  | nil => rfl
  | cons q L ih =>
    rw [List.flatMap_cons, List.filter_append, ih]
    by_cases h : q ≤ B
    · rw [List.filter_cons_of_pos (by simpa using h), List.flatMap_cons]
      congr 1
      refine List.filter_eq_self.mpr fun x hx => ?_
      rw [hf q x hx]; simpa using h
    · rw [List.filter_cons_of_neg (by simpa using h)]
      rw [List.filter_eq_nil_iff.mpr fun x hx => by rw [hf q x hx]; simpa using h]
      rfl
theorem small_filt {n B : Int} (h0 : 0 ≤ B) (hB : B ≤ 24) : (smallT n 24).filter (fun x => decide (x.2.1 ≤ B)) = smallT n B.toNat := by
  obtain ⟨b, rfl⟩ := Int.eq_ofNat_of_zero_le h0
  unfold smallT
  rw [filt_items, rk_tab b (List.mem_range.mpr (by omega))]
  · rfl
  · intro q x hx
    rcases List.mem_append.mp hx with h | h
    · exact trip_q h
    · exact trip_q h
theorem tail_nil {n B : Int} {R : List St} {k : Nat} {s : St} (hm : chkMono R = true) (hs : R[k]? = some s) (hq : B < s.q) : (R.drop (k + 1)).flatMap (tripT B n) = [] := by
  refine List.flatMap_eq_nil_iff.mpr fun t ht => ?_
  have hm2 : (s, k) ∈ R.zipIdx := by rw [List.mem_zipIdx_iff_getElem?]; exact hs
  have := List.all_eq_true.mp (List.all_eq_true.mp hm _ hm2) t ht
  have : s.q ≤ t.q := of_decide_eq_true this
  unfold tripT
  exact if_neg (fun h => by have := h.2.1; omega)
theorem told_small {n B : Int} {ds : List Dat} (h2 : 2 ≤ n) (h1 : n ≤ 168) (hsq : sq n = false) (b0 : 0 ≤ B) (b1 : B ≤ 24) (h : StepsAre n B ds) : ds.flatMap (toldD n B) = small n B := by
  obtain ⟨k, s, hs, _, _, hq, rfl⟩ := h
  have C := chk h2 h1 hsq
  have ht := of_decide_eq_true C.t
  rw [small_map, show B + 1 - 1 = B by omega, ← small_filt b0 b1, ← ht, filt_run b1]
  unfold dats
  rw [told_map]
  congr 1
  have e : (run n).flatMap (tripT B n) = (((run n).take (k + 1)) ++ ((run n).drop (k + 1))).flatMap (tripT B n) := by rw [List.take_append_drop]
  rw [e, List.flatMap_append, tail_nil C.m hs hq, List.append_nil]
end Mine
end
section
set_option Elab.async false
set_option maxRecDepth 100000
set_option linter.unusedVariables false
open PySem PySem.W
namespace Mine
def minD : Dat → Int
  | .tuple [_, _, _, .int m] => m
  | _ => 0
/-- what the law asks of the steps -/
structure LawOk (n B : Int) (ds : List Dat) : Prop where
  len0 : rnd n + 1 ≤ ds.length
  len1 : ds.length ≤ 59
  j0 : 1 ≤ rnd n
  shape : ∀ d ∈ ds, ∃ p q h m, d = Dat.tuple [.int p, .int q, .int h, .int m] ∧ ((0 ≤ p ∧ p ≤ 2000000000) ∧ (0 ≤ q ∧ q ≤ 2000000000) ∧ (0 ≤ h ∧ h ≤ 12) ∧ (-24 ≤ m ∧ m ≤ 24))
  lastY : ∀ d, ds[rnd n]? = some d → (minD d).natAbs = 1
  lastN : ∀ (i : Nat) d, 1 ≤ i → i < rnd n → ds[i]? = some d → (minD d).natAbs ≠ 1
  pell : ∀ p q h m, Dat.tuple [.int p, .int q, .int h, .int m] ∈ ds.take ((rnd n + 1) / 2) → p * p - n * q * q = m
  told : ds.flatMap (toldD n B) = small n B
  take : ds.take (rnd n + 1) = dats n (rnd n + 1)
theorem law_ok {n B : Int} {ds : List Dat} (h2 : 2 ≤ n) (h1 : n ≤ 168) (hsq : sq n = false) (b0 : 0 ≤ B) (b1 : B ≤ 24) (h : StepsAre n B ds) : LawOk n B ds := by
  have ht := told_small h2 h1 hsq b0 b1 h
  obtain ⟨k, s, hs, hi, hc, hq, rfl⟩ := h
  have C := chk h2 h1 hsq
  have hk : rnd n ≤ k := (num_i C hs).2 hc
  have hkl : k < (run n).length := (List.getElem?_eq_some_iff.mp hs).1
  have hlen : (dats n (k + 1)).length = k + 1 := dats_len (by omega)
  have hL := (run_fact h2 h1 hsq).2
  refine ⟨by omega, by omega, (end_1 C).1, ?_, ?_, ?_, ?_, ht, ?_⟩
  · intro d hd
    obtain ⟨s, hm, rfl⟩ := dats_mem hd
    have o := okS_bd (List.all_eq_true.mp (run_fact h2 h1 hsq).1 s hm)
    unfold SBd at o
    have b := sgn_bd o.2.1
    exact ⟨_, _, _, _, rfl, o.2.2.2.1, o.2.2.2.2.1, o.1, by omega⟩
  · intro d hd
    rw [dats_get (by omega)] at hd
    obtain ⟨t, ht, hm⟩ := (end_1 C).2
    rw [ht] at hd
    have := Option.some.inj hd
    subst this
    show (sgn t).natAbs = 1
    unfold sgn; split <;> omega
  · intro i d i0 i1 hd
    rw [dats_get (by omega)] at hd
    obtain ⟨t, ht, hm, hm2⟩ := end_i C i1
    rw [ht] at hd
    have := Option.some.inj hd
    subst this
    show (sgn t).natAbs ≠ 1
    unfold sgn; split <;> omega
  · intro p q h m hm
    have e : (dats n (k + 1)).take ((rnd n + 1) / 2) = ((run n).take ((rnd n + 1) / 2)).map dat := by
      unfold dats
      rw [← List.map_take, List.take_take, Nat.min_eq_left (by omega)]
    rw [e] at hm
    obtain ⟨t, ht, he⟩ := List.mem_map.mp hm
    rw [dat_eq] at he
    simp only [Dat.tuple.injEq, List.cons.injEq, Dat.int.injEq] at he
    have := of_decide_eq_true (List.all_eq_true.mp C.p t ht)
    rw [← he.1, ← he.2.1, ← he.2.2.2.1]
    exact this
  · unfold dats
    rw [← List.map_take, List.take_take, Nat.min_eq_left (by omega)]
end Mine
end
section
open PySem PySem.W PyProof.Rows PySem.Spec PySem.Calls
set_option Elab.async false
set_option maxRecDepth 100000
set_option maxHeartbeats 8000000
namespace Mine
section
variable {w : World} {mean : ExcName → Option Value} {mg mb : Str → Option Value} {dp un : Nat} {gd : Option (List Code)} {cn : Str} {cs : Scope} {aa : Addr} {ccd : Value} {cl : List (Str × Addr)} {outer : List Env}
  {A₀ : Around} {base h₀ : Heap} {L : Addr} {m : Str → Option Value} {news : List (Addr × Obj)} {s : Shared} {Q E : Value → Shared → Prop}
theorem call_small {n bd : Int} {t u : Tok}
  (B : Below A₀ base outer h₀) (F : Fr h₀ L s.heap m) (X : Frag.In (hd.heap_39 w.params) h₀) (N : News h₀ L s.heap news) (T : Top hd.view_39 (looseW hd.view_39 [Str.ofString "UTC_ZONES", Str.ofString "TIMEZONE_RE"]) mean mg mb h₀) (hk : cs.kind = .function)
  (hp : (2 ≤ n ∧ n ≤ 168) ∧ (8 ≤ bd ∧ bd ≤ 24)) (hd : dp + 5 < recursionLimit) (hu : un + 256 < cLine)
  (ret : ∀ (D : Addr) (us : List Value) (k : Nat) (tl : List (Addr × Obj)) h' tk', Fr h₀ L h' m → News h₀ L h' ((D, listOf us.toArray k) :: (news ++ tl)) → (∀ q ∈ news, q.1 < D) → OwnOff tl (D :: news.map (·.1)) → DatAll (news ++ tl) us (small n bd) → Q (.ref D) { s with heap := h', toks := tk' }) :
  wpAny (model (RowW.prog (OpenRow.toRowW (OpenLaw.row PySem.Challenge.rw_xg0011_02))) w) (ktrTop dp un gd cn cs L aa ccd cl outer) (call (.ref 112) [.int n t, .int bd u]) Q E s := by
  refine small_con w n bd t u hp.1.1 hp.1.2 hp.2.1 hp.2.2 _ _ _ _ _ _ _ _ _ _ _ _ _ _ _ _ _ _ _ _ _ B F X N T hk trivial hd hu ?_
  rintro D us k ds tl h' tk' F' N' h1 h2 h3 rfl
  exact ret D us k tl h' tk' F' N' h1 h2 h3
theorem call_steps {n bd : Int} {l : Addr} {zs : List Int} {vs : List Value} {k : Nat} {t u : Tok}
  (B : Below A₀ base outer h₀) (F : Fr h₀ L s.heap m) (X : Frag.In (hd.heap_39 w.params) h₀) (N : News h₀ L s.heap news) (T : Top hd.view_39 (looseW hd.view_39 [Str.ofString "UTC_ZONES", Str.ofString "TIMEZONE_RE"]) mean mg mb h₀) (hk : cs.kind = .function)
  (hp : (2 ≤ n ∧ n ≤ 168) ∧ (8 ≤ bd ∧ bd ≤ 24)) (hs : sq n = false) (hl : (l, listOf vs.toArray k) ∈ news) (hi : IntsAre vs zs) (d0 : 0 < zs.length ∧ zs.length ≤ 16) (hd : dp + 5 < recursionLimit) (hu : un + 256 < cLine)
  (ret : ∀ (D : Addr) (us : List Value) (k : Nat) (ds : List Dat) (tl : List (Addr × Obj)) h' tk', Fr h₀ L h' m → News h₀ L h' ((D, listOf us.toArray k) :: (news ++ tl)) → (∀ q ∈ news, q.1 < D) → OwnOff tl (D :: news.map (·.1)) → DatAll (news ++ tl) us ds → LawOk n bd ds → Q (.ref D) { s with heap := h', toks := tk' }) :
  wpAny (model (RowW.prog (OpenRow.toRowW (OpenLaw.row PySem.Challenge.rw_xg0011_02))) w) (ktrTop dp un gd cn cs L aa ccd cl outer) (call (.ref 98) [.int n t, .int bd u, .ref l]) Q E s := by
  refine steps_con w n bd l zs vs t u hp.1.1 hp.1.2 hs hp.2.1 hp.2.2 d0.1 d0.2 hi _ _ _ _ _ _ _ _ _ _ _ _ _ _ _ _ _ _ _ _ _ B F X N T hk ⟨k, hl⟩ hd hu ?_
  intro D us k ds tl h' tk' F' N' h1 h2 h3 h4
  exact ret D us k ds tl h' tk' F' N' h1 h2 h3 (law_ok hp.1.1 hp.1.2 hs (by omega) hp.2.2 h4)
theorem call_round {n : Int} {l : Addr} {us : List Value} {ds : List Dat} {k : Nat} {t : Tok}
  (B : Below A₀ base outer h₀) (F : Fr h₀ L s.heap m) (X : Frag.In (hd.heap_39 w.params) h₀) (N : News h₀ L s.heap news) (T : Top hd.view_39 (looseW hd.view_39 [Str.ofString "UTC_ZONES", Str.ofString "TIMEZONE_RE"]) mean mg mb h₀) (hk : cs.kind = .function)
  (hp : 2 ≤ n ∧ n ≤ 168) (hs : sq n = false) (hl : (l, listOf us.toArray k) ∈ news) (hda : DatAll news us ds) (he : ds = dats n (rnd n + 1)) (hd : dp + 4 < recursionLimit) (hu : un + 256 < cLine)
  (ret : ∀ h' tk', Fr h₀ L h' m → News h₀ L h' news → Q (.bool true) { s with heap := h', toks := tk' }) :
  wpAny (model (RowW.prog (OpenRow.toRowW (OpenLaw.row PySem.Challenge.rw_xg0011_02))) w) (ktrTop dp un gd cn cs L aa ccd cl outer) (call (.ref 117) [.int n t, .ref l]) Q E s := by
  subst he
  exact use_B (round_con w n l us _ _ t hp.1 hp.2 (round_ok hp.1 hp.2 hs)) B F X N T hk ⟨k, hl, hda⟩ hd hu ret
end
end Mine
end
section
open PySem PySem.W PyProof.Rows PySem.Spec PySem.Calls
set_option Elab.async false
namespace Mine
section
variable {M : Model} {A : Around} {E : Value → Shared → Prop} {s : Shared} {h₀ : Heap} {L : Addr} {m : Str → Option Value} {rest : List (Addr × Obj)}
/-- two ways that meet: they leave a list of ints of the call's own, newer than all else -/
def JoinL (h₀ : Heap) (L : Addr) (m : Str → Option Value) (rest : List (Addr × Obj)) (s : Shared) (v : Value) (s' : Shared) : Prop :=
  ∃ D vs ds n h' tk', v = .ref D ∧ IntsAre vs ds ∧ (0 < ds.length ∧ ds.length ≤ 16) ∧ Fr h₀ L h' m ∧ News h₀ L h' ((D, listOf vs.toArray n) :: rest) ∧ AllLt D rest ∧ s' = { s with heap := h', toks := tk' }
theorem JoinL.intro {D : Addr} {vs : List Value} {ds : List Int} {n : Nat} {h' : Heap} {tk' : Nat} {nw : List (Addr × Obj)} (F : Fr h₀ L h' m) (N : News h₀ L h' nw) (h2 : (D, listOf vs.toArray n) ∈ nw) (h3 : ∀ p ∈ rest, p ∈ nw) (h4 : AllLt D rest) (hi : IntsAre vs ds) (h1 : 0 < ds.length ∧ ds.length ≤ 16) :
    JoinL h₀ L m rest s (.ref D) { s with heap := h', toks := tk' } :=
  ⟨D, vs, ds, n, h', tk', rfl, hi, h1, F, fun p hp => by rcases List.mem_cons.mp hp with rfl | hp; exact N _ h2; exact N _ (h3 p hp), h4, rfl⟩
theorem join_list {t : Sem Value} {Q : Value → Shared → Prop} (F : Fr h₀ L s.heap m) (N : News h₀ L s.heap rest) (h1 : wpAny M A t (JoinL h₀ L m rest s) E s)
    (h2 : ∀ D vs ds n h' tk', IntsAre vs ds → 0 < ds.length → ds.length ≤ 16 → Fr h₀ L h' m → News h₀ L h' ((D, listOf vs.toArray n) :: rest) → AllLt D rest → Q (.ref D) { s with heap := h', toks := tk' }) : wpAny M A t Q E s := by
  refine wpAny_mono h1 (fun v s' h => ?_) fun _ _ e => e
  obtain ⟨D, vs, ds, n, h', tk', rfl, hi, h3, F', N', h4, rfl⟩ := h
  exact h2 D vs ds n h' tk' hi h3.1 h3.2 F' N' h4
end
end Mine
end
section
set_option maxHeartbeats 2000000
set_option Elab.async false
namespace Mine
open PySem PySem.Spec PySem.Calls PyProof.Rows PyProof.Rows.LCg PyProof.Rows.LCt PySem.W
/-- [elt for a, b, c, d in iter if ct] -/
abbrev comp4 (elt : Expr) (a b c d : Str) (pa pb pc pd pt : Pos) (tk : Nat) (iter ct : Expr) (scope : Scope) (pos : Pos) : Expr := .ListComp elt [⟨.Tuple [.Name a pa, .Name b pb, .Name c pc, .Name d pd] tk pt, iter, [ct], 0⟩] scope pos
section
variable {prog : Program} {w : World} {A : Around} {E : Value → Shared → Prop} {s : Shared} {h₀ : Heap} {L : Addr} {m : Str → Option Value} {env : Env}
theorem loop_four {elt iter ct target : Expr} {scope : Scope} {pos : Pos} {it acc : Value} {R : Result → Shared → Prop} (I : Nat → Shared → Prop)
    (turn : ∀ n s, I n s → wpAny (model prog w) A (pyNext it) (fun r s₁ => match r with
      | none => R (.ok .next) s₁
      | some v => wpAny (model prog w) A (letOwnedTupleGo target it v) (fun _ s₂ => wpAny (model prog w) A (assign target env v) (fun _ s₃ =>
          wpAny (model prog w) A (isTrue ct env (eval ct env)) (fun ok s₄ =>
            if ok = true then wpAny (model prog w) A (eval elt env) (fun x s₅ =>
              wpAny (model prog w) A (call (.builtin "list.append") [acc, x]) (fun _ s₆ => ∃ m, m < n ∧ I m s₆) (notedBy (model prog w) A env fun e s' => R (.error e) s') s₅) (notedBy (model prog w) A env fun e s' => R (.error e) s') s₄
            else ∃ m, m < n ∧ I m s₄) (notedBy (model prog w) A env fun e s' => R (.error e) s') s₃) (notedBy (model prog w) A env fun e s' => R (.error e) s') s₂) (notedBy (model prog w) A env fun e s' => R (.error e) s') s₁) (notedBy (model prog w) A env fun e s' => R (.error e) s') s)
    (n : Nat) (h : I n s) : codeAny (model prog w) A (.compLoop (.ListComp elt [⟨target, iter, [ct], 0⟩] scope pos) 0 it acc env) R s := by
  refine codeAny_loop rfl I (fun n s hI => ?_) n h
  show wpAny _ A ((compTurn (.ListComp elt [⟨target, iter, [ct], 0⟩] scope pos) 0 it acc env).onRaise (fun x => do noteFrame x env; theTreesLotGoes x)) _ _ s
  refine wpAny_noted ?_
  rw [compTurn_list]
  refine wpAny_bind (wpAny_standAt (wpAny_bind (wpAny_mono (turn n s hI) (fun r s₁ h₁ => ?_) fun _ _ h' => h')))
  cases r with
  | none => exact wpAny_pure h₁
  | some v =>
    refine wpAny_bind (wpAny_mono h₁ (fun _ s₂ h₂ => ?_) fun _ _ h' => h')
    refine wpAny_bind (wpAny_mono h₂ (fun _ s₃ h₃ => wpAny_bind (wpAny_mono (wpAny_tests_one h₃) (fun ok s₄ h₄ => ?_) fun _ _ h' => h')) fun _ _ h' => h')
    cases ok with
    | false => exact wpAny_pure ⟨rfl, h₄⟩
    | true => exact wpAny_bind (wpAny_bind (wpAny_mono h₄ (fun x s₅ h₅ => wpAny_bind (wpAny_mono h₅ (fun _ s₆ h₆ => wpAny_pure (wpAny_pure ⟨rfl, h₆⟩)) fun _ _ h' => h')) fun _ _ h' => h'))
/-- what a turn finds in its own frame -/
structure FourIn (x1 x2 x3 x4 : Str) (p q g a : Int) (t1 t2 t3 t4 : Tok) (m₂ : Str → Option Value) : Prop where
  e1 : m₂ x1 = some (.int p t1)
  e2 : m₂ x2 = some (.int q t2)
  e3 : m₂ x3 = some (.int g t3)
  e4 : m₂ x4 = some (.int a t4)
def FourTest (prog : Program) (w : World) (A : Around) (h₀ : Heap) (L : Addr) (m : Str → Option Value) (env : Env) (ct : Expr) (x1 x2 x3 x4 : Str) (scope : Scope) (cl : List (Str × Addr)) (s : Shared) (nw : List (Addr × Obj)) (ds : List Dat) (P : Int → Int → Int → Int → Prop) : Prop :=
  ∀ (p q g a : Int) (t1 t2 t3 t4 : Tok) I oI C oC D ys tl m₂ h tk (QQ : Bool → Shared → Prop) (E' : Value → Shared → Prop), Dat.tuple [.int p, .int q, .int g, .int a] ∈ ds → NsObj oC m₂ → FourIn x1 x2 x3 x4 p q g a t1 t2 t3 t4 m₂ → Fr h₀ L h m → News h₀ L h ((I, oI) :: (C, oC) :: (D, lst ys) :: (nw ++ tl)) →
    (P p q g a → ∀ h' tk', Fr h₀ L h' m → News h₀ L h' ((I, oI) :: (C, oC) :: (D, lst ys) :: (nw ++ tl)) → QQ true { s with heap := h', toks := tk' }) →
    (¬ P p q g a → ∀ h' tk', Fr h₀ L h' m → News h₀ L h' ((I, oI) :: (C, oC) :: (D, lst ys) :: (nw ++ tl)) → QQ false { s with heap := h', toks := tk' }) →
    wpAny (model prog w) A (isTrue ct (compEnvC scope cl C env) (eval ct (compEnvC scope cl C env))) QQ E' { s with heap := h, toks := tk }
def FourElt (prog : Program) (w : World) (A : Around) (h₀ : Heap) (L : Addr) (m : Str → Option Value) (env : Env) (elt : Expr) (x1 x2 x3 x4 : Str) (scope : Scope) (cl : List (Str × Addr)) (s : Shared) (nw : List (Addr × Obj)) (ds : List Dat) : Prop :=
  ∀ (p q g a : Int) (t1 t2 t3 t4 : Tok) I oI C oC D ys tl m₂ h tk (QQ : Value → Shared → Prop) (E' : Value → Shared → Prop), Dat.tuple [.int p, .int q, .int g, .int a] ∈ ds → NsObj oC m₂ → FourIn x1 x2 x3 x4 p q g a t1 t2 t3 t4 m₂ → Fr h₀ L h m → News h₀ L h ((I, oI) :: (C, oC) :: (D, lst ys) :: (nw ++ tl)) →
    (∀ B u1 u2 u3 c h' tk', Fr h₀ L h' m → News h₀ L h' ((B, ({ cls := .type "tuple", data := .seq #[.int p u1, .int q u2, .int a u3] c } : Obj)) :: (I, oI) :: (C, oC) :: (D, lst ys) :: (nw ++ tl)) → (∀ z ∈ (I, oI) :: (C, oC) :: (D, lst ys) :: (nw ++ tl), z.1 ≠ B) → QQ (.ref B) { s with heap := h', toks := tk' }) →
    wpAny (model prog w) A (eval elt (compEnvC scope cl C env)) QQ E' { s with heap := h, toks := tk }
theorem four_block {elt iter ct : Expr} {x1 x2 x3 x4 : Str} {p1 p2 p3 p4 pt : Pos} {kt : Nat} {scope : Scope} {cl : List (Str × Addr)} {pos : Pos} {s₂ : Shared} {I ax : Addr} {us : List Value} {ds : List Dat} {k : Nat} {nw : List (Addr × Obj)} {P : Int → Int → Int → Int → Prop} {f : Dat → List Dat}
    {RR : Value → Addr → Result → Shared → Prop}
    (hh : A.handled = none) (hcell : ∀ y ∈ scope.names, y.2 ≠ .cell) (hkind : scope.kind = .function) (hx1 : scope.names.lookup x1 = some .local) (hx2 : scope.names.lookup x2 = some .local) (hx3 : scope.names.lookup x3 = some .local) (hx4 : scope.names.lookup x4 = some .local) (hd : [x1, x2, x3, x4].Nodup)
    (hIs : s₂.heap.IsListIter I ax 0) (F : Fr h₀ L s₂.heap m) (N : News h₀ L s₂.heap nw) (hIL : L ≠ I) (hI₀ : h₀.get? I = none) (off : ∀ p ∈ nw, p.1 ≠ I)
    (ha : (ax, listOf us.toArray k) ∈ nw) (hda : DatAll nw us ds) (hsh : ∀ d ∈ ds, ∃ p q g a, d = Dat.tuple [.int p, .int q, .int g, .int a]) (hsz : ds.length ≤ sizeLine)
    (fy : ∀ p q g a, P p q g a → f (Dat.tuple [.int p, .int q, .int g, .int a]) = [Dat.tuple [.int p, .int q, .int a]]) (fn : ∀ p q g a, ¬ P p q g a → f (Dat.tuple [.int p, .int q, .int g, .int a]) = [])
    (TT : FourTest prog w A h₀ L m env ct x1 x2 x3 x4 scope cl s₂ nw ds P) (TE : FourElt prog w A h₀ L m env elt x1 x2 x3 x4 scope cl s₂ nw ds)
    (hRR : ∀ D C h tk m' ys tl, Fr h₀ L h m → News h₀ L h ((D, lst ys) :: (nw ++ tl)) → (∀ q ∈ nw, q.1 < D) → OwnOff tl (D :: nw.map (·.1)) → h.Ns C m' → h₀.get? C = none → C ≠ L → C ≠ D → (∀ p ∈ nw ++ tl, p.1 ≠ C) → DatAll (nw ++ tl) ys (ds.flatMap f) → RR (.ref D) C (.ok .next) { s₂ with heap := h, toks := tk }) :
    wpAny (model prog w) A (newList []) (fun acc s₃ => wpAny (model prog w) A (newFunctionEnv scope env.globals cl [] env.qual none .none (some env)) (fun cenv s₄ =>
      codeAny (model prog w) A (.compStart (comp4 elt x1 x2 x3 x4 p1 p2 p3 p4 pt kt iter ct scope pos) 0 (.ref I) acc { cenv with scope := relabel scope env }) (RR acc cenv.locals) s₄) E s₃) E s₂ := by
  refine wpAny_newObj_type (wpAny_newFunctionEnv hcell (by intro y hy; simp at hy) (fun h₁ hns₁ hsb₁ => ?_) hkind)
  dsimp only at hns₁ hsb₁ ⊢
  generalize hH2 : s₂.heap.push { cls := .type "list", dict := none, data := .seq ([] : List Value).toArray } = H2 at hns₁ hsb₁ ⊢
  have hC : H2.objs.size = s₂.heap.objs.size + 1 := by rw [← hH2, Heap.size_push]
  have hDC : s₂.heap.objs.size ≠ H2.objs.size := by rw [hC]; exact Nat.ne_of_lt (Nat.lt_succ_self _)
  have below : ∀ b, b < s₂.heap.objs.size → b ≠ H2.objs.size ∧ b ≠ s₂.heap.objs.size := fun b hb => ⟨by rw [hC]; exact Nat.ne_of_lt (Nat.lt_succ_of_lt hb), Nat.ne_of_lt hb⟩
  have hIlt : I < s₂.heap.objs.size := by obtain ⟨o, e, _⟩ := hIs; exact Heap.lt_size e
  have hlen : us.toArray.size = ds.length := by rw [List.size_toArray, hda.length]
  have W : Walks prog w A I [I, ax] [I] us.toArray.size (fun i v => us.toArray[i]? = some v) (fun i h => h.IsListIter I ax i ∧ h.IsList ax us.toArray) := Walks.list hh I ax (off _ ha) us.toArray
  have old : ∀ b o, s₂.heap.get? b = some o → h₁.get? b = some o := fun b o e => hsb₁.extBut b o (below b (Heap.lt_size e)).1 (Heap.get?_push_of_some _ (hH2 ▸ Heap.get?_push_of_some _ e))
  have hacc : h₁.get? s₂.heap.objs.size = some (lst []) := hsb₁.extBut _ _ hDC (Heap.get?_push_of_some _ (hH2 ▸ Heap.get?_push_size _ rfl))
  have hIs₁ : h₁.IsListIter I ax 0 := by obtain ⟨o, e, r⟩ := hIs; exact ⟨o, old _ _ e, r⟩
  have fresh : ∀ a, s₂.heap.objs.size ≤ a → s₂.heap.get? a = none := fun a ha => by
    cases e : s₂.heap.get? a with
    | none => rfl
    | some o' => exact absurd (Heap.lt_size e) (Nat.not_lt.mpr ha)
  have fresh₀ : ∀ a, s₂.heap.objs.size ≤ a → h₀.get? a = none := fun a ha => by
    cases e : h₀.get? a with
    | none => rfl
    | some o' => have := F.keep a o' e; rw [fresh a ha] at this; cases this
  have hD₀ : h₀.get? s₂.heap.objs.size = none := fresh₀ _ (Nat.le_refl _)
  have hC₀ : h₀.get? H2.objs.size = none := fresh₀ _ (by rw [hC]; exact Nat.le_succ _)
  have hLlt : L < s₂.heap.objs.size := F.ns.lt
  have hDL : s₂.heap.objs.size ≠ L := Ne.symm (below L hLlt).2
  have hCL : H2.objs.size ≠ L := Ne.symm (below L hLlt).1
  have hCI : I ≠ H2.objs.size := (below I hIlt).1
  have hDI : I ≠ s₂.heap.objs.size := (below I hIlt).2
  have nlt : ∀ q ∈ nw, q.1 < s₂.heap.objs.size := fun q hq => Heap.lt_size (N q hq).1
  have N₁ : News h₀ L h₁ ((s₂.heap.objs.size, lst []) :: (nw ++ [])) := fun p hp => by
    rw [List.append_nil] at hp
    rcases List.mem_cons.mp hp with rfl | hp
    · exact ⟨hacc, hDL, hD₀⟩
    · exact ⟨old _ _ (N p hp).1, (N p hp).2⟩
  have loop : ∀ s₃ : Shared, s₃ = { s₂ with heap := h₁, toks := s₂.toks + ([] : List (Str × Value)).length } →
      codeAny (model prog w) A (.compLoop (comp4 elt x1 x2 x3 x4 p1 p2 p3 p4 pt kt iter ct scope pos) 0 (.ref I) (.ref s₂.heap.objs.size) (compEnvC scope cl H2.objs.size env))
        (RR (.ref s₂.heap.objs.size) H2.objs.size) s₃ := by
    rintro s₃ rfl
    refine loop_four
      (fun k s' => ∃ h' tk i ys tl m', s' = { s₂ with heap := h', toks := tk } ∧ i ≤ ds.length ∧ k = ds.length + 1 - i ∧ ys.length ≤ i ∧ DatAll (nw ++ tl) ys ((ds.take i).flatMap f) ∧ h'.IsListIter I ax i ∧ Fr h₀ L h' m ∧ h'.Ns H2.objs.size m' ∧ News h₀ L h' ((s₂.heap.objs.size, lst ys) :: (nw ++ tl)) ∧
        OwnOff tl (I :: H2.objs.size :: s₂.heap.objs.size :: nw.map (·.1))) ?_ (ds.length + 1)
      ⟨h₁, _, 0, [], [], _, rfl, Nat.zero_le _, rfl, Nat.zero_le _, .nil, hIs₁, F.keeps old, hns₁, N₁, fun _ hp => nomatch hp⟩
    rintro k' s' ⟨h', tk, i, ys, tl, m', rfl, hi', hk', hyl, hz', hit', F', hn', N', ho'⟩
    have hlist : h'.IsList ax us.toArray := ⟨_, (N' (ax, listOf us.toArray k) (.tail _ (List.mem_append.mpr (.inl ha)))).1, rfl, _, rfl⟩
    have offm : ∀ p ∈ nw ++ tl, p.1 ≠ I ∧ p.1 ≠ H2.objs.size ∧ p.1 ≠ s₂.heap.objs.size := fun p hp => by
      rcases List.mem_append.mp hp with hp | hp
      · exact ⟨off p hp, below _ (nlt p hp)⟩
      · exact ⟨ho' p hp _ (.head _), ho' p hp _ (.tail _ (.head _)), ho' p hp _ (.tail _ (.tail _ (.head _)))⟩
    by_cases hlt : i < ds.length
    · refine W.item i _ _ _ (by rw [hlen]; exact hlt) ⟨hit', hlist⟩ fun v h₂ tk₂ hv st₂ hk₂ => ?_
      rw [List.getElem?_toArray] at hv
      obtain ⟨d, hdi, hD⟩ := datAll_at hda hv
      have hdm := List.mem_of_getElem? hdi
      obtain ⟨p, q, g, a, rfl⟩ := hsh d hdm
      obtain ⟨T, t1, t2, t3, t4, nT, rfl, hT⟩ := dat_four hD
      have N₂ : News h₀ L h₂ ((s₂.heap.objs.size, lst ys) :: (nw ++ tl)) := news_but N' hk₂ fun p hp => by
        rcases List.mem_cons.mp hp with rfl | hp
        · exact Ne.symm hDI
        · exact (offm p hp).1
      have ht : IsTup h₂ T #[.int p t1, .int q t2, .int g t3, .int a t4] := ⟨_, (N₂ _ (List.mem_cons_of_mem _ (List.mem_append.mpr (.inl hT)))).1, rfl, _, rfl⟩
      refine wpAny_letOwnedTupleGo_listiter st₂.1 ?_
      refine assign_Tuple_tuple hh ht rfl rfl fun h₅ he => ?_
      have he' : ∀ b o, h₂.get? b = some o → h₅.get? b = some o := fun b o e => he b o (Nat.ne_of_lt (Heap.lt_size e)) e
      have hn₅ : h₅.Ns H2.objs.size m' := (hn'.at' fun o e => hk₂ _ o (by simpa using Ne.symm hCI) e).at' fun o e => he' _ o e
      refine assignInOrder_cons (wpAny_assign_Name (wpAny_storeName_local (lookup_relabel_local hx1) hn₅ (fun g₁ hm₁ hs₁ => ?_) (by simp [compEnvC, relabel, hkind])))
      refine assignInOrder_cons (wpAny_assign_Name (wpAny_storeName_local (lookup_relabel_local hx2) hm₁ (fun g₂ hm₂ hs₂ => ?_) (by simp [compEnvC, relabel, hkind])))
      refine assignInOrder_cons (wpAny_assign_Name (wpAny_storeName_local (lookup_relabel_local hx3) hm₂ (fun g₃ hm₃ hs₃ => ?_) (by simp [compEnvC, relabel, hkind])))
      refine assignInOrder_cons (wpAny_assign_Name (wpAny_storeName_local (lookup_relabel_local hx4) hm₃ (fun g₄ hm₄ hs₄ => ?_) (by simp [compEnvC, relabel, hkind])))
      refine assignInOrder_nil ?_
      have hd1 : x1 ≠ x2 ∧ x1 ≠ x3 ∧ x1 ≠ x4 ∧ x2 ≠ x3 ∧ x2 ≠ x4 ∧ x3 ≠ x4 := by
        simp only [List.nodup_cons, List.mem_cons, List.not_mem_nil, or_false, not_or] at hd
        exact ⟨hd.1.1, hd.1.2.1, hd.1.2.2, hd.2.1.1, hd.2.1.2, hd.2.2.1⟩
      have old4 : ∀ b o, b ≠ H2.objs.size → h₂.get? b = some o → g₄.get? b = some o := fun b o hb e => hs₄.extBut b o hb (hs₃.extBut b o hb (hs₂.extBut b o hb (hs₁.extBut b o hb (he' b o e))))
      have F₄ : Fr h₀ L g₄ m := ((((((fr_but F' hk₂ hIL hI₀).keeps he').change hs₁ hCL hC₀).change hs₂ hCL hC₀).change hs₃ hCL hC₀).change hs₄ hCL hC₀)
      obtain ⟨oC, heC, hoC⟩ := ns_obj hm₄
      obtain ⟨oI, heI₂, hcI, hdI⟩ := st₂.1
      have heI : g₄.get? I = some oI := old4 _ _ hCI heI₂
      have N₄ : News h₀ L g₄ ((I, oI) :: (H2.objs.size, oC) :: (s₂.heap.objs.size, lst ys) :: (nw ++ tl)) := fun z hz => by
        rcases List.mem_cons.mp hz with rfl | hz
        · exact ⟨heI, Ne.symm hIL, hI₀⟩
        · rcases List.mem_cons.mp hz with rfl | hz
          · exact ⟨heC, hCL, hC₀⟩
          · have y := N₂ z hz
            refine ⟨old4 _ _ ?_ y.1, y.2⟩
            rcases List.mem_cons.mp hz with rfl | hz
            · exact hDC
            · exact (offm z hz).2.1
      have hin : FourIn x1 x2 x3 x4 p q g a t1 t2 t3 t4 (fun z => if z = x4 then some (.int a t4) else if z = x3 then some (.int g t3) else if z = x2 then some (.int q t2) else if z = x1 then some (.int p t1) else m' z) :=
        ⟨by simp [hd1.1, hd1.2.1, hd1.2.2.1], by simp [hd1.2.2.2.1, hd1.2.2.2.2.1], by simp [hd1.2.2.2.2.2], by simp⟩
      have tk1 : ds.take (i + 1) = ds.take i ++ [Dat.tuple [.int p, .int q, .int g, .int a]] := by rw [List.take_add_one, hdi]; rfl
      refine TT p q g a t1 t2 t3 t4 I oI H2.objs.size oC s₂.heap.objs.size ys tl _ g₄ _ _ _ hdm hoC hin F₄ N₄ (fun hP h₆ tk₆ F₆ N₆ => ?_) (fun hP h₆ tk₆ F₆ N₆ => ?_)
      · rw [if_pos rfl]
        refine TE p q g a t1 t2 t3 t4 I oI H2.objs.size oC s₂.heap.objs.size ys tl _ h₆ _ _ _ hdm hoC hin F₆ N₆ fun B u1 u2 u3 c h₇ tk₇ F₇ N₇ hB => ?_
        have eD := (N₇ (s₂.heap.objs.size, lst ys) (.tail _ (.tail _ (.tail _ (.head _))))).1
        have eC := (N₇ (H2.objs.size, oC) (.tail _ (.tail _ (.head _)))).1
        have eI := (N₇ (I, oI) (.tail _ (.head _))).1
        have bD : s₂.heap.objs.size ≠ B := hB (s₂.heap.objs.size, lst ys) (.tail _ (.tail _ (.head _)))
        refine append_at (hsz := by show ys.toArray.size ≤ sizeLine; rw [List.size_toArray]; omega) eD fun h₈ hs₈ hD₈ => ?_
        refine ⟨ds.length + 1 - (i + 1), by omega, h₈, tk₇, i + 1, ys ++ [.ref B], tl ++ [(B, ({ cls := .type "tuple", data := .seq #[.int p u1, .int q u2, .int a u3] c } : Obj))], _, rfl, hlt, rfl, by rw [List.length_append, List.length_singleton]; omega, ?_,
          ⟨oI, hs₈.extBut _ _ hDI eI, hcI, hdI⟩, F₇.change hs₈ hDL hD₀, (hoC.ns eC).sameBut hs₈ (Ne.symm hDC), fun z hz => ?_, fun z hz b hb => ?_⟩
        · rw [tk1, List.flatMap_append, List.flatMap_singleton, fy _ _ _ _ hP, ← List.append_assoc]
          refine (hz'.mono fun z hz => List.mem_append.mpr (.inl hz)).append (.one (.tuple (a := B) (vs := [.int p u1, .int q u2, .int a u3]) (n := c) (List.mem_append.mpr (.inr (.head _))) (.cons (.int _ _) (.cons (.int _ _) (.cons (.int _ _) .nil)))))
        · rcases List.mem_cons.mp hz with rfl | hz
          · exact ⟨hD₈.trans (congrArg some (lst_snoc ys _)), hDL, hD₀⟩
          · rw [← List.append_assoc] at hz
            rcases List.mem_append.mp hz with hz | hz
            · have y := N₇ z (.tail _ (.tail _ (.tail _ (.tail _ hz))))
              exact ⟨hs₈.extBut _ _ (offm z hz).2.2 y.1, y.2⟩
            · rw [List.mem_singleton.mp hz]
              have y := N₇ _ (.head _)
              exact ⟨hs₈.extBut _ _ (Ne.symm bD) y.1, y.2⟩
        · rcases List.mem_append.mp hz with hz | hz
          · exact ho' z hz b hb
          · rw [List.mem_singleton.mp hz]
            rcases List.mem_cons.mp hb with e | hb
            · rw [e]; exact Ne.symm (hB (I, oI) (.head _))
            · rcases List.mem_cons.mp hb with rfl | hb
              · exact Ne.symm (hB (H2.objs.size, oC) (.tail _ (.head _)))
              · rcases List.mem_cons.mp hb with rfl | hb
                · exact Ne.symm bD
                · obtain ⟨y, hy, rfl⟩ := List.mem_map.mp hb
                  exact Ne.symm (hB y (.tail _ (.tail _ (.tail _ (List.mem_append.mpr (.inl hy))))))
      · rw [if_neg (by decide)]
        refine ⟨ds.length + 1 - (i + 1), by omega, h₆, tk₆, i + 1, ys, tl, _, rfl, hlt, rfl, by omega, ?_, ⟨oI, (N₆ (I, oI) (.head _)).1, hcI, hdI⟩, F₆, hoC.ns (N₆ (H2.objs.size, oC) (.tail _ (.head _))).1, fun z hz => N₆ z (List.mem_cons_of_mem _ (List.mem_cons_of_mem _ hz)), ho'⟩
        rw [tk1, List.flatMap_append, List.flatMap_singleton, fn _ _ _ _ hP, List.append_nil]
        exact hz'
    · obtain rfl : i = ds.length := by omega
      refine W.done _ _ _ ⟨by rw [hlen]; exact hit', hlist⟩ fun h₂ tk₂ hk₂ => ?_
      rw [List.take_length] at hz'
      exact hRR _ _ h₂ tk₂ _ ys tl (fr_but F' hk₂ hIL hI₀) (news_but N' hk₂ fun p hp => by
        rcases List.mem_cons.mp hp with rfl | hp
        · exact Ne.symm hDI
        · exact (offm p hp).1) nlt (fun z hz b hb => ho' z hz b (.tail _ (.tail _ hb))) (hn'.at' fun o e => hk₂ _ o (by simpa using Ne.symm hCI) e) hC₀ hCL (Ne.symm hDC) (fun p hp => (offm p hp).2.1) hz'
  refine codeAny_compStart_list (loop _ rfl) ?_
  exact W.self 0 _ _ _ ⟨hIs₁, ⟨_, (N₁ (ax, listOf us.toArray k) (.tail _ (List.mem_append.mpr (.inl ha)))).1, rfl, _, rfl⟩⟩ (loop _ rfl)
end
end Mine
end
section
set_option maxHeartbeats 2000000
set_option Elab.async false
namespace Mine
open PySem PySem.Spec PySem.Calls PyProof.Rows PyProof.Rows.LCg PyProof.Rows.LCt PySem.W
section
variable {prog : Program} {w : World} {A : Around} {E : Value → Shared → Prop} {s : Shared} {h₀ : Heap} {L : Addr} {m : Str → Option Value} {env : Env}
def FourSrc (prog : Program) (w : World) (A : Around) (h₀ : Heap) (L : Addr) (m : Str → Option Value) (env : Env) (ct elt : Expr) (x1 x2 x3 x4 : Str) (scope : Scope) (cl : List (Str × Addr)) (y : Str) (Q : Flow → Shared → Prop) (xv : Value) (s₁ : Shared) : Prop :=
  ∃ (ax : Addr) (us : List Value) (ds : List Dat) (k : Nat) (nw : List (Addr × Obj)) (P : Int → Int → Int → Int → Prop) (f : Dat → List Dat), xv = .ref ax ∧ A.handled = none ∧ Fr h₀ L s₁.heap m ∧ News h₀ L s₁.heap nw ∧ (ax, listOf us.toArray k) ∈ nw ∧ DatAll nw us ds ∧
    (∀ d ∈ ds, ∃ p q g a, d = Dat.tuple [.int p, .int q, .int g, .int a]) ∧ ds.length ≤ sizeLine ∧ (∀ p q g a, P p q g a → f (Dat.tuple [.int p, .int q, .int g, .int a]) = [Dat.tuple [.int p, .int q, .int a]]) ∧ (∀ p q g a, ¬ P p q g a → f (Dat.tuple [.int p, .int q, .int g, .int a]) = []) ∧
    (∀ g, FourTest prog w A h₀ L m env ct x1 x2 x3 x4 scope cl { s₁ with heap := g } nw ds P) ∧ (∀ g, FourElt prog w A h₀ L m env elt x1 x2 x3 x4 scope cl { s₁ with heap := g } nw ds) ∧
    (∀ D ys tl h tk, Fr h₀ L h (fun z => if z = y then some (.ref D) else m z) → News h₀ L h ((D, lst ys) :: (nw ++ tl)) → (∀ q ∈ nw, q.1 < D) → OwnOff tl (D :: nw.map (·.1)) → DatAll (nw ++ tl) ys (ds.flatMap f) → Q .next { s₁ with heap := h, toks := tk })
theorem FourSrc.intro {ct elt : Expr} {x1 x2 x3 x4 y : Str} {scope : Scope} {cl : List (Str × Addr)} {Q : Flow → Shared → Prop} {s₁ : Shared} {ax : Addr} {us : List Value} {ds : List Dat} {k : Nat} {nw : List (Addr × Obj)} (P : Int → Int → Int → Int → Prop) (f : Dat → List Dat)
    (hh : A.handled = none) (F : Fr h₀ L s₁.heap m) (N : News h₀ L s₁.heap nw) (ha : (ax, listOf us.toArray k) ∈ nw) (hda : DatAll nw us ds) (hsh : ∀ d ∈ ds, ∃ p q g a, d = Dat.tuple [.int p, .int q, .int g, .int a]) (hsz : ds.length ≤ sizeLine)
    (fy : ∀ p q g a, P p q g a → f (Dat.tuple [.int p, .int q, .int g, .int a]) = [Dat.tuple [.int p, .int q, .int a]]) (fn : ∀ p q g a, ¬ P p q g a → f (Dat.tuple [.int p, .int q, .int g, .int a]) = [])
    (TT : ∀ g, FourTest prog w A h₀ L m env ct x1 x2 x3 x4 scope cl { s₁ with heap := g } nw ds P) (TE : ∀ g, FourElt prog w A h₀ L m env elt x1 x2 x3 x4 scope cl { s₁ with heap := g } nw ds)
    (fin : ∀ D ys tl h tk, Fr h₀ L h (fun z => if z = y then some (.ref D) else m z) → News h₀ L h ((D, listOf ys.toArray ys.length) :: (nw ++ tl)) → (∀ q ∈ nw, q.1 < D) → OwnOff tl (D :: nw.map (·.1)) → DatAll (nw ++ tl) ys (ds.flatMap f) → Q .next { s₁ with heap := h, toks := tk }) :
    FourSrc prog w A h₀ L m env ct elt x1 x2 x3 x4 scope cl y Q (.ref ax) s₁ := ⟨ax, us, ds, k, nw, P, f, rfl, hh, F, N, ha, hda, hsh, hsz, fy, fn, TT, TE, fin⟩
theorem assign_four {elt iter ct : Expr} {x1 x2 x3 x4 y : Str} {p1 p2 p3 p4 pt py : Pos} {kt : Nat} {scope : Scope} {cl : List (Str × Addr)} {pos spos : Pos} {Q : Flow → Shared → Prop} (_F₀ : Fr h₀ L s.heap m) (hLe : env.locals = L)
    (hsw : swapsWith (comp4 elt x1 x2 x3 x4 p1 p2 p3 p4 pt kt iter ct scope pos) (some (.Name y py)) spos.line env = pure true)
    (hclos : closureFor scope env = pure cl) (hcell : ∀ z ∈ scope.names, z.2 ≠ .cell) (hkind : scope.kind = .function)
    (hnames : ∀ z ∈ scope.names, z.2 = .local → scope.names.lookup z.1 = some .local) (hx1 : scope.names.lookup x1 = some .local) (hx2 : scope.names.lookup x2 = some .local) (hx3 : scope.names.lookup x3 = some .local) (hx4 : scope.names.lookup x4 = some .local) (hd : [x1, x2, x3, x4].Nodup)
    (hy : env.kindOf y = some .local) (hp : (env.scope.kind == .class || (env.scope.kind == .module && env.locals != env.globals)) = false)
    (h : wpAny (model prog w) A (eval iter env) (FourSrc prog w A h₀ L m env ct elt x1 x2 x3 x4 scope cl y Q) E s)
    (hs : ∀ x, foldedSetIterable iter env x = pure x := by intro _; rfl) :
    wpAny (model prog w) A (exec (.Assign [.Name y py] (comp4 elt x1 x2 x3 x4 p1 p2 p3 p4 pt kt iter ct scope pos) spos) env) Q E s := by
  subst hLe
  rw [exec_Assign_Name_used _ _ _ _ hsw]
  refine wpAny_bind (wpAny_standAt (wpAny_bind ?_))
  show wpAny _ A (do let _ ← comprehension (comp4 elt x1 x2 x3 x4 p1 p2 p3 p4 pt kt iter ct scope pos) scope env _ (newList []) false (eval iter env) (some (assign (.Name y py) env))) _ _ s
  refine wpAny_bind (wpAny_mono (wpAny_comprehension_free (use := some (assign (.Name y py) env)) (Q := fun _ s' => Q .next s') rfl hs hclos hkind hnames
    (wpAny_mono h (fun xv s₁ h₁ => ?_) fun _ _ e => e)) (fun _ s' hq => wpAny_pure (wpAny_pure hq)) fun _ _ e => e)
  obtain ⟨ax, us, ds, k, nw, P, f, rfl, hh, F, N, ha, hda, hsh, hsz, fy, fn, TT, TE, fin⟩ := h₁
  have hl : s₁.heap.IsList ax us.toArray := ⟨_, (N _ ha).1, rfl, _, rfl⟩
  refine wpAny_pyIter_list hl ?_
  have up : ∀ b o, s₁.heap.get? b = some o → (s₁.heap.push { cls := .type "list_iterator", data := .fields #[.ref ax, .int 0 0] }).get? b = some o := fun b o e => Heap.get?_push_of_some _ e
  refine four_block (k := k) (ax := ax) hh hcell hkind hx1 hx2 hx3 hx4 hd ⟨_, Heap.get?_push_size _ rfl, rfl, rfl⟩ (F.keeps up) (N.grown up) (Nat.ne_of_lt F.ns.lt) (next_is_new F) (fun p hp => Nat.ne_of_lt (Heap.lt_size (N p hp).1)) ha hda hsh hsz fy fn (TT _) (TE _) ?_
  intro D C h' tk m' ys tl F' N' hlt ho hn hC₀ hCL hCD offC hda'
  show wpAny _ A (assign (.Name y py) env (.ref D)) _ _ _
  refine wpAny_assign_Name (wpAny_storeName_local hy F'.ns (fun h₂ hn₂ hs₂ => ?_) hp)
  have hL₀ : h₀.get? env.locals = none := Heap.get?_none_of_le F'.above
  have F₂ : Fr h₀ env.locals h₂ (fun z => if z = y then some (.ref D) else m z) := ⟨hn₂, fun b o e => hs₂.extBut b o (fun q => by rw [q, hL₀] at e; cases e) (F'.keep b o e), F'.above⟩
  refine ⟨m', hn.sameBut hs₂ hCL, fun h'' hs'' => fin D ys tl h'' _ (F₂.change hs'' hCL hC₀) (fun p hp => ?_) hlt ho hda'⟩
  have z : h₂.get? p.1 = some p.2 := hs₂.extBut _ _ (N' p hp).2.1 (N' p hp).1
  refine ⟨hs''.extBut _ _ ?_ z, (N' p hp).2⟩
  rcases List.mem_cons.mp hp with rfl | hp
  · exact Ne.symm hCD
  · exact offC p hp
end
end Mine
end
section
set_option maxHeartbeats 2000000
set_option Elab.async false
namespace Mine
open PySem PySem.Spec PySem.Calls PyProof.Rows PyProof.Rows.LCg PyProof.Rows.LCt PySem.W
theorem ints_drop {vs : List Value} {ns : List Int} (h : IntsAre vs ns) : ∀ k, IntsAre (vs.drop k) (ns.drop k) := by
  intro k
  induction k generalizing vs ns with
  | zero => exact h
  | succ k ih =>
    cases h with
    | nil => exact .nil
    | cons _ _ h => exact ih h
theorem ints_take {vs : List Value} {ns : List Int} (h : IntsAre vs ns) : ∀ k, IntsAre (vs.take k) (ns.take k) := by
  intro k
  induction k generalizing vs ns with
  | zero => exact .nil
  | succ k ih =>
    cases h with
    | nil => exact .nil
    | cons _ _ h => exact .cons _ _ (ih h)
section
variable {prog : Program} {w : World} {A : Around} {E : Value → Shared → Prop} {h₀ h : Heap} {L l : Addr} {m : Str → Option Value} {news : List (Addr × Obj)} {value slice : PySem.Expr} {us : List Value} {x : Int} {t : Tok} {Q : Value → Shared → Prop} {g : Array GenState} {dr : Drawn} {tk : Nat} {os : OsState}
theorem slice_from_at {ns : List Int} (F : Fr h₀ L h m) (N : News h₀ L h news) (hl : h.IsList l us.toArray) (hi : IntsAre us ns) (hx : 0 ≤ x) (hz : us.toArray.size ≤ sizeLine)
    (hs : subscripted slice false (.ref l) (.ref h.objs.size) = operate [.ref h.objs.size, .ref l] (getItem (.ref l) (.ref h.objs.size)))
    (ret : ∀ D ws h', Fr h₀ L h' m → News h₀ L h' ((D, listOf (List.toArray ws) 0) :: news) → (∀ p ∈ news, p.1 < D) → IntsAre ws (ns.drop x.toNat) → Q (.ref D) ⟨h', g, dr, tk, os⟩) :
    wpAny (model prog w) A (subscriptTail value slice (.ref l) (.ref h.objs.size)) Q E ⟨h.push { cls := .type "slice", data := .fields #[.int x t, .none, .none] }, g, dr, tk, os⟩ :=
  kba_turn (value' := PySem.Expr.Name (PySem.Str.ofString "_") ⟨0, 0, 0, 0⟩) (fun _ => rfl) (kmk_slice_lit (s := ⟨h, g, dr, tk, os⟩) F N hl (IsPart.int _ _) IsPart.none (pick_from hx) (fun D h' F' N' l1 => ret D _ h' F' N' l1 (ints_drop hi _)) hs (fun _ => rfl) hz)
theorem slice_upto_at {ns : List Int} (F : Fr h₀ L h m) (N : News h₀ L h news) (hl : h.IsList l us.toArray) (hi : IntsAre us ns) (hx : 0 ≤ x) (hz : us.toArray.size ≤ sizeLine)
    (hs : subscripted slice false (.ref l) (.ref h.objs.size) = operate [.ref h.objs.size, .ref l] (getItem (.ref l) (.ref h.objs.size)))
    (ret : ∀ D ws h', Fr h₀ L h' m → News h₀ L h' ((D, listOf (List.toArray ws) 0) :: news) → (∀ p ∈ news, p.1 < D) → IntsAre ws (ns.take x.toNat) → Q (.ref D) ⟨h', g, dr, tk, os⟩) :
    wpAny (model prog w) A (subscriptTail value slice (.ref l) (.ref h.objs.size)) Q E ⟨h.push { cls := .type "slice", data := .fields #[.none, .int x t, .none] }, g, dr, tk, os⟩ :=
  kba_turn (value' := PySem.Expr.Name (PySem.Str.ofString "_") ⟨0, 0, 0, 0⟩) (fun _ => rfl) (kmk_slice_lit (s := ⟨h, g, dr, tk, os⟩) F N hl IsPart.none (IsPart.int _ _) (pick_upto hx) (fun D h' F' N' l1 => ret D _ h' F' N' l1 (ints_take hi _)) hs (fun _ => rfl) hz)
theorem slice_run_at {ns : List Int} {y : Int} {u : Tok} (F : Fr h₀ L h m) (N : News h₀ L h news) (hl : h.IsList l us.toArray) (hi : IntsAre us ns) (hx : 0 ≤ x) (hy : 0 ≤ y) (hz : us.toArray.size ≤ sizeLine)
    (hs : subscripted slice false (.ref l) (.ref h.objs.size) = operate [.ref h.objs.size, .ref l] (getItem (.ref l) (.ref h.objs.size)))
    (ret : ∀ D ws zs h', Fr h₀ L h' m → News h₀ L h' ((D, listOf (List.toArray ws) 0) :: news) → (∀ p ∈ news, p.1 < D) → IntsAre ws zs → zs.length ≤ y.toNat → Q (.ref D) ⟨h', g, dr, tk, os⟩) :
    wpAny (model prog w) A (subscriptTail value slice (.ref l) (.ref h.objs.size)) Q E ⟨h.push { cls := .type "slice", data := .fields #[.int x t, .int y u, .none] }, g, dr, tk, os⟩ :=
  kba_turn (value' := PySem.Expr.Name (PySem.Str.ofString "_") ⟨0, 0, 0, 0⟩) (fun _ => rfl) (kmk_slice_ints (s := ⟨h, g, dr, tk, os⟩) F N hl (IsPart.int _ _) (IsPart.int _ _) hi (kmk_run hi hx hy) rfl (fun D ws h' F' N' l1 hI' _ _ => ret D ws _ h' F' N' l1 hI' (by rw [List.length_take]; omega)) hs (fun _ => rfl) hz)
/-- the slice of a list of data, from the front on -/
theorem slice_data_at {nw : List (Addr × Obj)} {ds : List Dat} {n : Nat} (F : Fr h₀ L h m) (N : News h₀ L h news) (hm : (l, listOf us.toArray n) ∈ news) (hd : DatAll nw us ds) (hx : 0 ≤ x) (hz : ds.length ≤ 59)
    (hs : subscripted slice false (.ref l) (.ref h.objs.size) = operate [.ref h.objs.size, .ref l] (getItem (.ref l) (.ref h.objs.size)))
    (ret : ∀ D h', Fr h₀ L h' m → News h₀ L h' ((D, listOf (us.take x.toNat).toArray 0) :: news) → (∀ p ∈ news, p.1 < D) → DatAll nw (us.take x.toNat) (ds.take x.toNat) → Q (.ref D) ⟨h', g, dr, tk, os⟩) :
    wpAny (model prog w) A (subscriptTail value slice (.ref l) (.ref h.objs.size)) Q E ⟨h.push { cls := .type "slice", data := .fields #[.none, .int x t, .none] }, g, dr, tk, os⟩ :=
  kba_turn (value' := PySem.Expr.Name (PySem.Str.ofString "_") ⟨0, 0, 0, 0⟩) (fun _ => rfl) (kmk_slice_lit (s := ⟨h, g, dr, tk, os⟩) F N ⟨_, (N _ hm).1, rfl, _, rfl⟩ IsPart.none (IsPart.int _ _) (pick_upto hx) (fun D h' F' N' l1 => ret D h' F' N' l1 (datAll_take hd _)) hs (fun _ => rfl) (by rw [List.size_toArray, hd.length]; exact Nat.le_trans hz (by decide)))
end
end Mine
end
section
set_option maxHeartbeats 2000000
set_option Elab.async false
namespace Mine
open PySem PySem.Spec PySem.Calls PyProof.Rows PyProof.Rows.LCg PyProof.Rows.LCt PySem.W
section
variable {prog : Program} {w : World} {A : Around} {E : Value → Shared → Prop} {s : Shared} {h₀ : Heap} {L : Addr} {m : Str → Option Value} {env : Env}
/-- a turn of a comprehension over a range: its test -/
def IdxTurn (prog : Program) (w : World) (A : Around) (h₀ : Heap) (L : Addr) (m : Str → Option Value) (env : Env) (ct : Expr) (x : Str) (scope : Scope) (cl : List (Str × Addr)) (s : Shared) (nw : List (Addr × Obj)) (a : Int) (n : Nat) (p : Int → Bool) : Prop :=
  ∀ (q : Int) (t : Tok) I oI C oC D ys m₂ h tk (QQ : Bool → Shared → Prop) (E' : Value → Shared → Prop), a ≤ q ∧ q < a + n → NsObj oC m₂ → m₂ x = some (.int q t) → Fr h₀ L h m → News h₀ L h ((I, oI) :: (C, oC) :: (D, lst ys) :: nw) →
    (p q = true → ∀ h' tk', Fr h₀ L h' m → News h₀ L h' ((I, oI) :: (C, oC) :: (D, lst ys) :: nw) → QQ true { s with heap := h', toks := tk' }) →
    (p q = false → ∀ h' tk', Fr h₀ L h' m → News h₀ L h' ((I, oI) :: (C, oC) :: (D, lst ys) :: nw) → QQ false { s with heap := h', toks := tk' }) →
    wpAny (model prog w) A (isTrue ct (compEnvC scope cl C env) (eval ct (compEnvC scope cl C env))) QQ E' { s with heap := h, toks := tk }
def idxs (a : Int) (n : Nat) : List Int := (List.range n).map fun (i : Nat) => a + (i : Int)
theorem idxs_succ (a : Int) (n : Nat) : idxs a (n + 1) = idxs a n ++ [a + (n : Int)] := by
  unfold idxs; rw [List.range_succ, List.map_append]; rfl
theorem rest_filter {ct : Expr} {x : Str} {pe : Pos} {scope : Scope} {cl : List (Str × Addr)} {Fin : List Value → List (Addr × Obj) → Prop} {nw : List (Addr × Obj)} {a : Int} {n : Nat} {p : Int → Bool}
    (hkind : scope.kind = .function) (hx : scope.names.lookup x = some .local) (hdx : (x == ("__debug__" : Str)) = false)
    (T : IdxTurn prog w A h₀ L m env ct x scope cl s nw a n p) (hF : ∀ ys, IntsAre ys ((idxs a n).filter p) → Fin ys nw) :
    ∀ k i ys, i + k = n → IntsAre ys ((idxs a i).filter p) → CompRestT prog w A h₀ L m env ct (.Name x pe) x scope cl s (fun _ => True) (fun i v => ∃ t, v = .int (a + (i : Int)) t) Fin k i ys nw := by
  intro k
  induction k with
  | zero =>
    intro i ys e hy
    obtain rfl : i = n := e
    exact CompRestT.zero (hF ys hy)
  | succ k ih =>
    intro i ys e hy
    refine CompRestT.succ ?_
    intro v I oI C oC D m₂ h tk E' hv hC hxm F N off ne
    obtain ⟨t, rfl⟩ := hv
    refine T (a + i) t I oI C oC D ys m₂ h tk _ E' (by omega) hC hxm F N (fun hp h' tk' F' N' => ?_) (fun hp h' tk' F' N' => ?_)
    · rw [if_pos rfl, eval_Name (hd := hdx)]
      have hn : h'.Ns C m₂ := hC.ns (N' (C, oC) (by simp)).1
      refine wpAny_bind (wpAny_standAt (wpAny_loadName_local (by simp [compEnvC, relabel, hkind]) (lookup_relabel_local hx) hn hxm ?_))
      refine ⟨h', tk', nw, rfl, F', N', off, trivial, ih (i + 1) _ (by omega) ?_⟩
      rw [idxs_succ, List.filter_append, List.filter_cons_of_pos hp]
      exact ints_end hy _ t
    · rw [if_neg (by decide)]
      refine ⟨h', tk', nw, rfl, F', N', off, trivial, ih (i + 1) _ (by omega) ?_⟩
      rw [idxs_succ, List.filter_append, List.filter_cons_of_neg (by rw [hp]; decide)]
      simpa using hy
theorem src_filter {ct : Expr} {x : Str} {pe : Pos} {scope : Scope} {cl : List (Str × Addr)} {Q : Value → Shared → Prop} {s₁ : Shared} {r : Addr} {a b : Int} {t u v : Tok} {n : Nat} {nw : List (Addr × Obj)} (p : Int → Bool)
    (hkind : scope.kind = .function) (hx : scope.names.lookup x = some .local) (hdx : (x == ("__debug__" : Str)) = false)
    (hh : A.handled = none) (F : Fr h₀ L s₁.heap m) (N : News h₀ L s₁.heap nw) (hr : IsRange s₁.heap r a b 1 t u v) (hsm : Builtin.Range.small a b 1 = true) (hn : Builtin.Range.rangeSize a b 1 = ((n : Nat) : Int)) (hsz : n ≤ sizeLine)
    (T : ∀ g, IdxTurn prog w A h₀ L m env ct x scope cl { s₁ with heap := g } nw a n p)
    (fin : ∀ D ys h tk, Fr h₀ L h m → News h₀ L h ((D, listOf ys.toArray ys.length) :: nw) → Off1 D nw → IntsAre ys ((idxs a n).filter p) → Q (.ref D) { s₁ with heap := h, toks := tk }) :
    CompSrcT prog w A h₀ L m env ct (.Name x pe) x scope cl (fun s₂ => FinE h₀ L m s₂ Q) (.ref r) s₁ :=
  CompSrcT.range hh F N hr hsm hn hsz fun g => rest_filter hkind hx hdx (T g) (fun ys hy D h tk F N o => fin D ys h tk F N o hy) n 0 [] (Nat.zero_add _) .nil
end
/-- the first of the places that the test lets through -/
theorem filter_first {n j : Nat} {p : Int → Bool} (hj : j < n) (hy : p (1 + (j : Int)) = true) (hn : ∀ i, i < j → p (1 + (i : Int)) = false) : ∃ l, (idxs 1 n).filter p = (1 + (j : Int)) :: l := by
  have e : idxs 1 n = idxs 1 j ++ (1 + (j : Int)) :: ((List.range (n - j - 1)).map fun (i : Nat) => 1 + ((j + 1 + i : Nat) : Int)) := by
    unfold idxs
    have e1 : List.range n = List.range j ++ (List.range (n - j)).map (j + ·) := by rw [← List.range_add, show j + (n - j) = n by omega]
    rw [e1, List.map_append]
    congr 1
    rw [show n - j = (n - j - 1) + 1 by omega, List.range_succ_eq_map]
    simp only [List.map_cons, List.map_map, Nat.add_zero, Nat.add_sub_cancel]
    congr 1
    refine List.map_congr_left fun i _ => ?_
    simp only [Function.comp]
    congr 2
    omega
  refine ⟨((List.range (n - j - 1)).map fun (i : Nat) => 1 + ((j + 1 + i : Nat) : Int)).filter p, ?_⟩
  rw [e, List.filter_append, List.filter_cons_of_pos hy, List.filter_eq_nil_iff.mpr, List.nil_append]
  intro x hx
  unfold idxs at hx
  obtain ⟨i, hi, rfl⟩ := List.mem_map.mp hx
  rw [hn i (List.mem_range.mp hi)]; decide
end Mine
end
section
set_option maxHeartbeats 2000000
set_option Elab.async false
namespace Mine
open PySem PySem.Spec PySem.Calls PyProof.Rows PyProof.Rows.LCg PyProof.Rows.LCt PySem.W
/-- between the turns of a loop over data that changes nothing but its own names -/
def ScanRest (news : List (Addr × Obj)) (stored : List Str) (m₀ : Str → Option Value) (m' : Str → Option Value) (n' : List (Addr × Obj)) : Prop :=
  ∃ _ : Unit, (∀ z, stored.contains z = false → m' z = m₀ z) ∧ n' = news ∧ True
theorem scan_loop {prog : Program} {w : World} {A : Around} {E : Value → Shared → Prop} {s : Shared} {env : Env} {h₀ : Heap} {target : Expr} {body : List Stmt} {Q : Flow → Shared → Prop} {l : Addr} {us : List Value} {n : Nat} {news nw : List (Addr × Obj)} {ds : List Dat} {m₀ : Str → Option Value} (stored : List Str)
    (hh : A.handled = none) (F : Fr h₀ env.locals s.heap m₀) (N : News h₀ env.locals s.heap news) (hl : (l, listOf us.toArray n) ∈ news) (hd : DatAll nw us ds)
    (turn : ∀ d v u h tk I oI, d ∈ ds → DatIn nw v d → AllLt I news → Fr h₀ env.locals h (frS stored u m₀) → News h₀ env.locals h ((I, oI) :: news) →
      wpAny (model prog w) A (assign target env v) (fun _ s₂ => wpAny (model prog w) A (execs body env) (UnrPostW h₀ env.locals { s with heap := h, toks := tk } [(I, oI)] (fun m' n' => SubL [(l, listOf us.toArray n)] n' ∧ ScanRest news stored m₀ m' n') Q) E s₂) E { s with heap := h, toks := tk })
    (done : ∀ u h tk, Fr h₀ env.locals h (frS stored u m₀) → News h₀ env.locals h news → Q .next { s with heap := h, toks := tk }) :
    wpAny (model prog w) A (pyIter (.ref l)) (fun it s₂ => TurnsAt prog w A h₀ env target body Q E it s₂) E s := by
  refine iter_listTurns (vs := us) hh F N hl rfl rfl fun I hI => ?_
  refine rest_dat (σ := Unit) (Led := fun _ => news) (P := fun _ _ => True) (cst := nw) (stored := stored) (ds := ds) ?_ ?_ ds us [] () m₀ hd rfl trivial (fun _ _ => rfl)
  · intro c pre d post v u h tk e hm hv hp F'
    refine AllObj.cons fun oI hc => AllObj.nil fun N' => ?_
    exact turn d v u h tk I oI hm hv (allLt_of hI) F' N'
  · intro c u h tk hp F' N'
    exact done u h tk F' N'
theorem scan_fin {h₀ h' : Heap} {L I : Addr} {p0 : Addr × Obj} {tk : Nat} {news all : List (Addr × Obj)} {m₀ m' : Str → Option Value} {stored : List Str} {s₁ : Shared} {oI : Obj} (F : Fr h₀ L h' m') (N : News h₀ L h' all) (h1 : ∀ p ∈ (I, oI) :: news, p ∈ all) (h2 : p0 ∈ news)
    (hI : AllLt I news) (hm : ∀ z, stored.contains z = false → m' z = m₀ z) :
    UnrEndW h₀ L s₁ [(I, oI)] (fun m' n' => SubL [p0] n' ∧ ScanRest news stored m₀ m' n') { s₁ with heap := h', toks := tk } :=
  ⟨h', tk, m', news, rfl, F, fun p hp => N p (h1 p hp), fun p hp q hq => by rw [List.mem_singleton.mp hq]; exact Nat.ne_of_lt (tb_ltOf hI p hp), ⟨h2, trivial⟩, (), hm, rfl, trivial⟩
end Mine
end
section
open PySem PySem.W PyProof.Rows PySem.Spec PySem.Calls
set_option Elab.async false
set_option maxRecDepth 100000
set_option maxHeartbeats 8000000
set_option linter.unusedVariables false
namespace Mine
mutual
/-- cells hold no data -/
theorem datIn_only {news news' : List (Addr × Obj)} (hs : ∀ p ∈ news, (∃ c, p.2.data = .cell c) ∨ p ∈ news') : ∀ {v : Value} {d : Dat}, DatIn news v d → DatIn news' v d
  | _, _, .none => .none
  | _, _, .bool b => .bool b
  | _, _, .int i t => .int i t
  | _, _, .str x t => .str x t
  | _, _, .bytes b t => .bytes b t
  | _, _, .tuple h r => .tuple ((hs _ h).resolve_left fun ⟨_, e⟩ => nomatch e) (datAll_only hs r)
  | _, _, .list h r => .list ((hs _ h).resolve_left fun ⟨_, e⟩ => nomatch e) (datAll_only hs r)
theorem datAll_only {news news' : List (Addr × Obj)} (hs : ∀ p ∈ news, (∃ c, p.2.data = .cell c) ∨ p ∈ news') : ∀ {vs : List Value} {ds : List Dat}, DatAll news vs ds → DatAll news' vs ds
  | _, _, .nil => .nil
  | _, _, .cons h r => .cons (datIn_only hs h) (datAll_only hs r)
end
theorem two_of {ws : List Value} {ns : List Int} (h : IntsAre ws (List.take (2 : Int).toNat (ns ++ List.drop ((ns.length : Int)).toNat [5, 7]))) : ∃ a t b u, ws = [.int a t, .int b u] := by
  have hl : (List.take (2 : Int).toNat (ns ++ List.drop ((ns.length : Int)).toNat [5, 7])).length = 2 := by
    simp only [List.length_take, List.length_append, List.length_drop, List.length_cons, List.length_nil, Int.toNat_natCast]
    omega
  generalize List.take (2 : Int).toNat (ns ++ List.drop ((ns.length : Int)).toNat [5, 7]) = l at h hl
  cases h with
  | nil => simp at hl
  | cons a t h => cases h with
    | nil => simp at hl
    | cons b u h => cases h with
      | nil => exact ⟨a, t, b, u, rfl⟩
      | cons _ _ _ => simp at hl
theorem sq_tab : ∀ n ∈ List.range 169, (decide (n < 2) || !sq (n : Nat) || (decide (n + 1 ≤ 168) && !sq ((n + 1 : Nat) : Int))) = true := by decide +kernel
theorem sq_next {n : Int} (h2 : 2 ≤ n) (h1 : n ≤ 168) (h : sq n = true) : n + 1 ≤ 168 ∧ sq (n + 1) = false := by
  obtain ⟨a, rfl⟩ := Int.eq_ofNat_of_zero_le (show 0 ≤ n by omega)
  have := sq_tab a (List.mem_range.mpr (by omega))
  rw [h, decide_eq_false (show ¬ a < 2 by omega)] at this
  simp only [Bool.false_or, Bool.not_true, Bool.and_eq_true, decide_eq_true_eq, Bool.not_eq_true'] at this
  exact ⟨by omega, by simpa using this.2⟩
theorem pow2 (r : Int) : r ^ (2 : Int).toNat = r * r := by show r ^ 2 = r * r; rw [Int.pow_succ, Int.pow_succ, Int.pow_zero, Int.one_mul]
theorem sq_no {n : Int} (h : 2 ≤ n ∧ n ≤ 168) (e : rootOf n ^ (2 : Int).toNat ≠ n) : (2 ≤ n ∧ n ≤ 168) ∧ sq n = false := by
  rw [pow2] at e
  exact ⟨h, decide_eq_false e⟩
theorem sq_yes {n : Int} (h : 2 ≤ n ∧ n ≤ 168) (e : rootOf n ^ (2 : Int).toNat = n) : (2 ≤ n + 1 ∧ n + 1 ≤ 168) ∧ sq (n + 1) = false := by
  rw [pow2] at e
  have := sq_next h.1 h.2 (decide_eq_true e)
  exact ⟨by omega, this.2⟩
theorem num_bd (a : Int) : 2 ≤ 2 + a.fmod 167 ∧ 2 + a.fmod 167 ≤ 168 := by
  rw [Int.fmod_eq_emod_of_nonneg _ (by decide)]
  omega
theorem bound_bd (a : Int) : 8 ≤ 8 + a.fmod 17 ∧ 8 + a.fmod 17 ≤ 24 := by
  rw [Int.fmod_eq_emod_of_nonneg _ (by decide)]
  omega
theorem shape_ok {ds : List Dat} (h : ∀ d ∈ ds, ∃ p q h m, d = Dat.tuple [.int p, .int q, .int h, .int m] ∧ ((0 ≤ p ∧ p ≤ 2000000000) ∧ (0 ≤ q ∧ q ≤ 2000000000) ∧ (0 ≤ h ∧ h ≤ 12) ∧ (-24 ≤ m ∧ m ≤ 24))) : ∀ d ∈ ds, kqdOk 8 d = true := by
  intro d hd
  obtain ⟨p, q, g, a, rfl, _⟩ := h d hd
  rfl
def pk (ds : List Dat) (q : Int) : Bool := match ds[q.toNat]? with
  | some d => decide ((minD d).natAbs = 1)
  | none => false
theorem by_test {QQ : Bool → Shared → Prop} {s : Shared} {b : Bool} (hy : b = true → QQ true s) (hn : b = false → QQ false s) : QQ b s := by
  cases b with
  | true => exact hy rfl
  | false => exact hn rfl
theorem pk_y {ds : List Dat} {k p q g a : Int} (e : ds[k.toNat]? = some (Dat.tuple [.int p, .int q, .int g, .int a])) (h : (if a < 0 then -a else a) = 1) : pk ds k = true := by
  unfold pk; rw [e]
  refine decide_eq_true ?_
  show a.natAbs = 1
  split at h <;> omega
theorem pk_n {ds : List Dat} {k p q g a : Int} (e : ds[k.toNat]? = some (Dat.tuple [.int p, .int q, .int g, .int a])) (h : (if a < 0 then -a else a) ≠ 1) : pk ds k = false := by
  unfold pk; rw [e]
  refine decide_eq_false ?_
  show ¬ a.natAbs = 1
  split at h <;> omega
theorem last_ok {n B : Int} {ds : List Dat} (hok : LawOk n B ds) : ∃ l, (idxs 1 (ds.length - 1)).filter (pk ds) = (rnd n : Int) :: l := by
  have h0 := hok.len0
  have h1 := hok.j0
  have e : (rnd n : Int) = 1 + ((rnd n - 1 : Nat) : Int) := by omega
  have et : (1 + ((rnd n - 1 : Nat) : Int)).toNat = rnd n := by omega
  rw [e]
  refine filter_first (by omega) ?_ (fun i hi => ?_)
  · unfold pk; rw [et, List.getElem?_eq_getElem (show rnd n < ds.length by omega)]
    exact decide_eq_true (hok.lastY _ (List.getElem?_eq_getElem _))
  · unfold pk
    have ei : (1 + (i : Int)).toNat = i + 1 := by omega
    rw [ei, List.getElem?_eq_getElem (show i + 1 < ds.length by omega)]
    exact decide_eq_false (hok.lastN (i + 1) _ (by omega) (by omega) (List.getElem?_eq_getElem _))
theorem news_drop2 {h₀ h : Heap} {L : Addr} {a b c : Addr × Obj} {rest : List (Addr × Obj)} (N : News h₀ L h (a :: b :: c :: rest)) : News h₀ L h (a :: rest) := fun p hp => N p (by
  rcases List.mem_cons.mp hp with rfl | hp
  · exact .head _
  · exact .tail _ (.tail _ (.tail _ hp)))
theorem news_small {h₀ h : Heap} {L : Addr} {d8 dt d6 a b c e : Addr × Obj} {nw tl tl8 : List (Addr × Obj)} (N : News h₀ L h (d8 :: (dt :: d6 :: a :: b :: c :: e :: (nw ++ tl) ++ tl8))) : News h₀ L h (a :: b :: c :: e :: nw) := fun p hp => N p (by
  simp only [List.mem_cons, List.mem_append, List.cons_append] at hp ⊢
  rcases hp with h | h | h | h | h <;> simp [h])
theorem take_tn (j : Nat) : ((j : Int) + 1).toNat = j + 1 := by omega
theorem half_eq (j : Nat) : ((j : Int) + 1).fdiv 2 = (((j + 1) / 2 : Nat) : Int) := by
  rw [Int.fdiv_eq_ediv_of_nonneg _ (by decide)]; omega
theorem ints_cons {vs : List Value} {x : Int} {l : List Int} (h : IntsAre vs (x :: l)) : ∃ t ws, vs = .int x t :: ws ∧ IntsAre ws l := by
  cases h with
  | cons _ t h => exact ⟨t, _, rfl, h⟩
theorem shape_at {n B : Int} {ds : List Dat} (hok : LawOk n B ds) {p q g a : Int} (h : Dat.tuple [.int p, .int q, .int g, .int a] ∈ ds) : (0 ≤ p ∧ p ≤ 2000000000) ∧ (0 ≤ q ∧ q ≤ 2000000000) ∧ (0 ≤ g ∧ g ≤ 12) ∧ (-24 ≤ a ∧ a ≤ 24) := by
  obtain ⟨p', q', g', a', e, hb⟩ := hok.shape _ h
  simp only [Dat.tuple.injEq, List.cons.injEq, Dat.int.injEq, and_true] at e
  obtain ⟨rfl, rfl, rfl, rfl⟩ := e
  exact hb
theorem items_ok {n q : Int} : ∀ d ∈ items n q, kqdOk 8 d = true := by
  intro d hd
  unfold items one at hd
  rcases List.mem_append.mp hd with h | h <;> split at h
  · rw [List.mem_singleton.mp h]; rfl
  · cases h
  · rw [List.mem_singleton.mp h]; rfl
  · cases h
theorem small_ok {n B : Int} : ∀ d ∈ small n B, kqdOk 8 d = true := by
  intro d hd
  unfold small at hd
  obtain ⟨q, _, h⟩ := List.mem_flatMap.mp hd
  exact items_ok d h
section
variable {prog : Program} {w : World} {A : Around} {E : Value → Shared → Prop} {s : Shared} {h₀ : Heap} {L a b : Addr} {news n₁ n₂ : List (Addr × Obj)} {us ys : List Value} {ka kb : Nat} {ds : List Dat} {Q : Value → Shared → Prop}
theorem item0 {value slice : PySem.Expr} {v : Value} {u : Tok} (N : News h₀ L s.heap news) (ma : (a, listOf (v :: us).toArray ka) ∈ news) (h : Q v s)
    (hs : subscripted slice false (.ref a) (.int 0 u) = operate [.ref a, .int 0 u] (getItem (.ref a) (.int 0 u))) :
    wpAny (model prog w) A (subscriptTail value slice (.ref a) (.int 0 u)) Q E s := by
  have hl : s.heap.IsList a (v :: us).toArray := ⟨_, (N _ ma).1, rfl, ka, rfl⟩
  exact tail_any hl.typeIs slot_list_getitem.lookup (wpAny_getItem_list hl (by decide) (by decide) (by simp) h) hs
open Classical in
theorem steps_no {n B : Int} (N : News h₀ L s.heap news) (ma : (a, listOf us.toArray ka) ∈ news) (Da : DatAll n₁ us ds) (sa : ∀ p ∈ n₁, p ∈ news) (mb : (b, listOf #[] kb) ∈ news) (hok : LawOk n B ds) (hu : A.units + 64 < cLine)
    (h : Q (.bool false) s) : wpAny (model prog w) A (compareOp .Eq (.ref a) (.ref b)) Q E s := by
  have hl := hok.len0
  refine kqd_eq N ma rfl rfl Da sa mb rfl (ys := []) rfl .nil (List.forall_mem_nil _) (shape_ok hok.shape) (List.forall_mem_nil _) hu ?_
  rw [decide_eq_false (by rintro rfl; simp at hl)]
  exact h
open Classical in
theorem told_same {es : List Dat} {n B : Int} (N : News h₀ L s.heap news) (ma : (a, listOf us.toArray ka) ∈ news) (Da : DatAll n₁ us es) (sa : ∀ p ∈ n₁, p ∈ news) (mb : (b, listOf ys.toArray kb) ∈ news) (Db : DatAll n₂ ys (small n B)) (sb : ∀ p ∈ n₂, p ∈ news) (he : es = small n B) (hu : A.units + 64 < cLine)
    (h : Q (.bool false) s) : wpAny (model prog w) A (compareOp .NotEq (.ref a) (.ref b)) Q E s := by
  subst he
  refine kqd_ne N ma rfl rfl Da sa mb rfl rfl Db sb small_ok small_ok hu ?_
  rw [decide_eq_true rfl]
  exact h
end
section
variable {prog : Program} {w : World} {A : Around} {h₀ : Heap} {L : Addr} {m : Str → Option Value} {env : Env}
theorem told_src {ct elt : Expr} {x1 x2 x3 x4 y : Str} {scope : Scope} {cl : List (Str × Addr)} {Q : Flow → Shared → Prop} {s₁ : Shared} {ax : Addr} {us : List Value} {ds : List Dat} {k : Nat} {nw nw0 : List (Addr × Obj)} {n B : Int} (hok : LawOk n B ds)
    (hh : A.handled = none) (F : Fr h₀ L s₁.heap m) (N : News h₀ L s₁.heap nw) (ha : (ax, listOf us.toArray k) ∈ nw) (hda : DatAll nw0 us ds) (hsub : ∀ p ∈ nw0, p ∈ nw)
    (TT : ∀ g, FourTest prog w A h₀ L m env ct x1 x2 x3 x4 scope cl { s₁ with heap := g } nw ds (fun _ q _ a => 0 < q ∧ q ≤ B ∧ a * a < n)) (TE : ∀ g, FourElt prog w A h₀ L m env elt x1 x2 x3 x4 scope cl { s₁ with heap := g } nw ds)
    (fin : ∀ D ys tl h tk, Fr h₀ L h (fun z => if z = y then some (.ref D) else m z) → News h₀ L h ((D, listOf ys.toArray ys.length) :: (nw ++ tl)) → (∀ q ∈ nw, q.1 < D) → OwnOff tl (D :: nw.map (·.1)) → DatAll (nw ++ tl) ys (small n B) → Q .next { s₁ with heap := h, toks := tk }) :
    FourSrc prog w A h₀ L m env ct elt x1 x2 x3 x4 scope cl y Q (.ref ax) s₁ := by
  refine FourSrc.intro _ (toldD n B) hh F N ha (hda.mono hsub) (fun d hd => ?_) (Nat.le_trans hok.len1 (by decide)) (fun p q g a hP => ?_) (fun p q g a hP => ?_) TT TE (fun D ys tl h tk F N h1 h2 h3 => fin D ys tl h tk F N h1 h2 (hok.told ▸ h3))
  · obtain ⟨p, q, g, a, e, _⟩ := hok.shape d hd
    exact ⟨p, q, g, a, e⟩
  · exact if_pos hP
  · exact if_neg hP
end
section
variable {M : Model} {A : Around} {E : Value → Shared → Prop} {s : Shared} {h₀ : Heap} {L : Addr} {m : Str → Option Value} {rest : List (Addr × Obj)}
/-- the ways that meet behind «number += 1»: a number that is no square stands in the cell -/
def JoinN (h₀ : Heap) (L : Addr) (m : Str → Option Value) (c : Addr) (rest : List (Addr × Obj)) (s : Shared) (f : Flow) (s' : Shared) : Prop :=
  ∃ o n t h' tk', f = .next ∧ o.data = .cell (some (.int n t)) ∧ (2 ≤ n ∧ n ≤ 168) ∧ sq n = false ∧ Fr h₀ L h' m ∧ News h₀ L h' ((c, o) :: rest) ∧ s' = { s with heap := h', toks := tk' }
theorem JoinN.intro {c : Addr} {o : Obj} {n : Int} {t : Tok} {h' : Heap} {tk' : Nat} {nw : List (Addr × Obj)} (F : Fr h₀ L h' m) (N : News h₀ L h' nw) (h1 : o.data = .cell (some (.int n t))) (h2 : (c, o) ∈ nw) (h3 : ∀ p ∈ rest, p ∈ nw) (h4 : (2 ≤ n ∧ n ≤ 168) ∧ sq n = false) :
    JoinN h₀ L m c rest s .next { s with heap := h', toks := tk' } :=
  ⟨o, n, t, h', tk', rfl, h1, h4.1, h4.2, F, fun p hp => by rcases List.mem_cons.mp hp with rfl | hp; exact N _ h2; exact N _ (h3 p hp), rfl⟩
theorem join_num {t : Sem Flow} {Q : Flow → Shared → Prop} (c : Addr) (rest : List (Addr × Obj)) (F : Fr h₀ L s.heap m) (h1 : wpAny M A t (JoinN h₀ L m c rest s) E s)
    (h2 : ∀ o n t h' tk', o.data = .cell (some (.int n t)) → 2 ≤ n ∧ n ≤ 168 → sq n = false → Fr h₀ L h' m → News h₀ L h' ((c, o) :: rest) → Q .next { s with heap := h', toks := tk' }) : wpAny M A t Q E s := by
  refine wpAny_mono h1 (fun f s' h => ?_) fun _ _ e => e
  obtain ⟨o, n, t, h', tk', rfl, hd, hb, hs, F', N', rfl⟩ := h
  exact h2 o n t h' tk' hd hb hs F' N'
theorem load_cell {env : Env} {x : Str} {c : Addr} {o : Obj} {v : Value} {news : List (Addr × Obj)} {Q : Value → Shared → Prop} (N : News h₀ L s.heap news) (hc : env.cells.lookup x = some c) (hm : (c, o) ∈ news) (hd : o.data = .cell (some v)) (hk : env.scope.kind = .function) (hx : env.kindOf x = some .cell) (h : Q v s) :
    wpAny M A (loadName env x) Q E s := wpAny_loadName_cell hk hx hc ⟨o, N.get hm, hd⟩ h
theorem join_num' {t : Sem Flow} {Q : Flow → Shared → Prop} {d1 d2 d3 d4 c3 c2 : Addr × Obj} {c : Addr} {o0 : Obj} (_N : News h₀ L s.heap [d1, d2, d3, d4, c3, c2, (c, o0)]) (F : Fr h₀ L s.heap m) (h1 : wpAny M A t (JoinN h₀ L m c [c3, c2] s) E s)
    (h2 : ∀ o n t h' tk', o.data = .cell (some (.int n t)) → 2 ≤ n ∧ n ≤ 168 → sq n = false → Fr h₀ L h' m → News h₀ L h' [(c, o), c3, c2] → Q .next { s with heap := h', toks := tk' }) : wpAny M A t Q E s :=
  join_num c [c3, c2] F h1 h2
theorem store_cell {env : Env} {x : Str} {v : Value} {D a b c : Addr} {Od oa ob oc : Obj} {v0 : Option Value} {nw : List (Addr × Obj)} {Q : Unit → Shared → Prop} (F : Fr h₀ L s.heap m) (N : News h₀ L s.heap ((D, Od) :: (a, oa) :: (c, oc) :: (b, ob) :: nw)) (hc : env.cells.lookup x = some c) (hd : oc.data = .cell v0)
    (hk : env.scope.kind = .function) (hx : env.kindOf x = some .cell) (ho : OwnOff nw [D, a, c, b]) (hD : @Ne Nat D c) (ha : @Ne Nat a c) (hb : @Ne Nat b c)
    (h : ∀ h' oc', Fr h₀ L h' m → News h₀ L h' ((D, Od) :: (a, oa) :: (c, oc') :: (b, ob) :: nw) → oc'.data = .cell (some v) → Q () { s with heap := h' }) : wpAny M A (storeName env x v) Q E s := by
  have hmem := N (c, oc) (.tail _ (.tail _ (.head _)))
  refine wpAny_storeName_cell hk hx hc ⟨oc, hmem.1, hd⟩ fun h' hv hs => ?_
  obtain ⟨oc', ho', hd'⟩ := hv
  refine h h' oc' ⟨F.ns.sameBut hs (Ne.symm hmem.2.1), fun y oy e => hs.extBut y oy (fun q => ?_) (F.keep y oy e), F.above⟩ (fun p hp => ?_) hd'
  · rw [q, hmem.2.2] at e; cases e
  · have keep : p ∈ ((D, Od) :: (a, oa) :: (c, oc) :: (b, ob) :: nw) → p.1 ≠ c → h'.get? p.1 = some p.2 ∧ p.1 ≠ L ∧ h₀.get? p.1 = none := fun hp hn => ⟨hs.extBut _ _ hn (N p hp).1, (N p hp).2⟩
    rcases List.mem_cons.mp hp with rfl | hp
    · exact keep (.head _) hD
    · rcases List.mem_cons.mp hp with rfl | hp
      · exact keep (.tail _ (.head _)) ha
      · rcases List.mem_cons.mp hp with rfl | hp
        · exact ⟨ho', hmem.2⟩
        · rcases List.mem_cons.mp hp with rfl | hp
          · exact keep (.tail _ (.tail _ (.tail _ (.head _)))) hb
          · exact keep (.tail _ (.tail _ (.tail _ (.tail _ hp)))) (ho p hp c (by simp))
/-- the ledger behind _law_steps: the list, three cells, and the rest as one -/
theorem after_steps {h : Heap} {D D0 a b c : Addr} {O0 oa ob oc : Obj} {us : List Value} {k : Nat} {ds : List Dat} {tl : List (Addr × Obj)} {va vb vc : Option Value} (N : News h₀ L h ((D, listOf us.toArray k) :: ([(D0, O0), (a, oa), (c, oc), (b, ob)] ++ tl))) (hlt : ∀ q ∈ [(D0, O0), (a, oa), (c, oc), (b, ob)], q.1 < D)
    (ho : OwnOff tl (D :: [(D0, O0), (a, oa), (c, oc), (b, ob)].map (·.1))) (hda : DatAll ([(D0, O0), (a, oa), (c, oc), (b, ob)] ++ tl) us ds) (h1 : AllLt D0 [(a, oa), (c, oc), (b, ob)]) (e1 : oa.data = .cell va) (e2 : oc.data = .cell vc) (e3 : ob.data = .cell vb) :
    ∃ nw, News h₀ L h ((D, listOf us.toArray k) :: (a, oa) :: (c, oc) :: (b, ob) :: nw) ∧ OwnOff nw [D, a, c, b] ∧ DatAll nw us ds ∧ (@LT.lt Nat _ a D ∧ @LT.lt Nat _ c D ∧ @LT.lt Nat _ b D) := by
  have l0 := hlt (D0, O0) (by simp)
  have h1' := tb_ltOf h1
  refine ⟨(D0, O0) :: tl, fun p hp => N p ?_, fun p hp x hx => ?_, datAll_only (fun p hp => ?_) hda, hlt (a, oa) (by simp), hlt (c, oc) (by simp), hlt (b, ob) (by simp)⟩
  · simp only [List.mem_cons, List.cons_append, List.nil_append] at hp ⊢
    rcases hp with h | h | h | h | h | h <;> simp [h]
  · rcases List.mem_cons.mp hp with rfl | hp
    · simp only [List.mem_cons, List.not_mem_nil, or_false] at hx
      have g1 := h1' (a, oa) (by simp)
      have g2 := h1' (c, oc) (by simp)
      have g3 := h1' (b, ob) (by simp)
      dsimp only at g1 g2 g3 l0
      rcases hx with rfl | rfl | rfl | rfl
      · exact Nat.ne_of_lt l0
      · exact Nat.ne_of_gt g1
      · exact Nat.ne_of_gt g2
      · exact Nat.ne_of_gt g3
    · refine ho p hp x ?_
      simp only [List.mem_cons, List.not_mem_nil, or_false, List.map_cons, List.map_nil] at hx ⊢
      rcases hx with h | h | h | h <;> simp [h]
  · simp only [List.cons_append, List.nil_append, List.mem_cons] at hp
    rcases hp with rfl | rfl | rfl | rfl | hp
    · exact .inr (.head _)
    · exact .inl ⟨_, e1⟩
    · exact .inl ⟨_, e2⟩
    · exact .inl ⟨_, e3⟩
    · exact .inr (.tail _ hp)
end
end Mine
end
section
open PySem PySem.W PyProof.Rows PySem.Spec PySem.Calls
set_option Elab.async false
set_option maxRecDepth 100000
set_option maxHeartbeats 8000000
set_option linter.unusedVariables false
namespace Mine
theorem law_holds : PySem.Challenge.rw_xg0011_02.Holds := by
  refine hd ?_
  w_top off
  k_with_none
  k_go0
  all_goals (try k_fold)
  repeat' (first
    | (k_unfold; (try dsimp only))
    | ((with_reducible show wpAny _ _ (subscriptTail (Expr.List _ _) (Expr.Slice _ _ _ _) (Value.ref _) (Value.ref _)) _ _ _); (refine' slice_from_at ?s9F ?s9N ?s9l ?s9i ?s9x ?s9z ?s9s ?_; (case s9F => k_asm); (case s9N => k_asm); (case s9l => kmk_list); (case s9i => l_ints); (case s9x => exact Int.natCast_nonneg _); (case s9z => kmk_size); (case s9s => with_unfolding_all rfl)); intro D' ws' h' F' N' l1 hI'; (try k_lt l1))
    | ((with_reducible show wpAny _ _ (subscriptTail (Expr.BinOp _ _ _ _) (Expr.Slice _ _ _ _) (Value.ref _) (Value.ref _)) _ _ _); (refine' slice_upto_at ?s9F ?s9N ?s9l ?s9i ?s9x ?s9z ?s9s ?_; (case s9F => k_asm); (case s9N => k_asm); (case s9l => kmk_list); (case s9i => l_ints); (case s9x => decide); (case s9z => kmk_size); (case s9s => with_unfolding_all rfl)); intro D' ws' h' F' N' l1 hI'; (try k_lt l1); obtain ⟨a', t', b', u', e'⟩ := two_of hI'; subst e'; clear hI')
    | ((with_reducible show wpAny _ _ (exec (Stmt.If _ [Stmt.AugAssign _ _ _ _] [] _) _) _ _ _); (fail_if_success (with_reducible show wpAny _ _ _ (JoinN _ _ _ _ _ _) _ _)); (refine (id : Halt (wpAny _ _ _ _ _ _) → _) ?_))
    | (walk1 <;> (try dsimp only)))
  unfold Halt
  (rename News _ _ _ _ => nE)
  (rename Fr _ _ _ _ => fE)
  refine join_num' nE fE ?_ ?_
  · repeat' (first
      | (k_unfold; (try dsimp only))
      | ((with_reducible show wpAny _ _ (call (Value.ref 72) [Value.int _ _]) _ _ _); (refine' call_root ?k1 ?k2 ?k3 ?k4 ?k5 ?kK ?kp ?kd ?ku ?_; (case k1 => k_asm); (case k2 => k_asm); (case k3 => k_asm); (case k4 => k_asm); (case k5 => k_asm); (case kK => first | exact rfl | assumption); (case kp => first | omega | (constructor <;> l_bnd)); (case kd => ktr_room); (case ku => ktr_units)); (intro t' h' tk' hr0' hr1' F' N'; (try dsimp only); (try k_fold)))
      | ((with_reducible show wpAny _ _ (binaryOp .Pow (Value.int _ _) (Value.int _ _)) _ _ _); (refine pow_int_small (by decide) (by decide) (by omega) ?_))
      | ((with_reducible show wpAny _ _ (loadName _ _) _ _ _); (refine' load_cell ?q1 ?q2 ?q3 ?q4 ?q5 ?q6 ?_; (case q5 => rfl); (case q6 => rfl); (case q1 => k_asm); (case q2 => rfl); (case q3 => k_mem); (case q4 => k_asm)))
      | ((with_reducible show JoinN _ _ _ _ _ _ _ _); (refine JoinN.intro (by k_asm) (by k_asm) (by assumption) (by k_mem) (List.forall_mem_cons.mpr ⟨by k_mem, List.forall_mem_cons.mpr ⟨by k_mem, List.forall_mem_nil _⟩⟩) ?e9); (case e9 => first | exact sq_no (num_bd _) (by assumption) | exact sq_yes (num_bd _) (by assumption)))
      | (walk1 <;> (try dsimp only)))
  · clear nE fE
    intro o n t h' tk' hcn hbn hsn F' N'
    (try dsimp only)
    repeat' (first
      | (k_unfold; (try dsimp only))
      | ((with_reducible show wpAny _ _ (eval (Expr.BoolOp _ [Expr.Subscript _ _ _, Expr.List _ _] _) _) _ _ _); (fail_if_success (with_reducible show wpAny _ _ _ (JoinL _ _ _ _ _) _ _)); (refine join_list (by k_asm) (by k_asm) ?_ ?_); (case' refine_2 => (intro D' vs' ds' n' h' tk' hi' h1' h2' F' N' l1; (try dsimp only))))
      | ((with_reducible show JoinL _ _ _ _ _ _ _); (refine JoinL.intro (by k_asm) (by k_asm) (by k_mem) ?a9 ⟨by omega, by omega, by omega, trivial⟩ (by l_ints) ?b9); (case a9 => repeat' (first | exact List.forall_mem_nil _ | k_mem | refine List.forall_mem_cons.mpr ⟨?_, ?_⟩)); (case b9 => first | omega | (constructor <;> simp <;> done) | (simp; done) | (simp; omega)))
      | ((with_reducible show wpAny _ _ (subscriptTail (Expr.Name _ _) (Expr.Slice (some _) _ _ _) (Value.ref _) (Value.ref _)) _ _ _); (refine' slice_run_at ?s9F ?s9N ?s9l ?s9i ?s9x ?s9y ?s9z ?s9s ?_; (case s9F => k_asm); (case s9N => k_asm); (case s9l => kmk_list); (case s9i => l_ints); (case s9x => decide); (case s9y => decide); (case s9z => kmk_size); (case s9s => with_unfolding_all rfl)); intro D' ws' zs' h' F' N' l1 hI' hz'; (try k_lt l1))
      | ((with_reducible show wpAny _ _ (call (Value.ref 98) [Value.int _ _, Value.int _ _, Value.ref _]) _ _ _); (refine (id : Halt (wpAny _ _ _ _ _ _) → _) ?_))
      | (walk1 <;> (try dsimp only)))
    unfold Halt
    refine' call_steps ?k1 ?k2 ?k3 ?k4 ?k5 ?kK ?kp ?ks ?kl ?ki ?kd0 ?kd ?ku ?_
    case k1 => k_asm
    case k2 => k_asm
    case k3 => k_asm
    case k4 => k_asm
    case k5 => k_asm
    case kK => first | exact rfl | assumption
    case kp => exact ⟨by assumption, bound_bd _⟩
    case ks => assumption
    case kl => k_mem
    case ki => assumption
    case kd0 => exact ⟨by assumption, by assumption⟩
    case kd => ktr_room
    case ku => ktr_units
    intro D us k ds tl h2 tk2 F2 N2 hlt2 ho2 hda2 hok
    obtain ⟨nw, N3, hon, hda, hlD⟩ := after_steps N2 hlt2 ho2 hda2 (by assumption) (by assumption) (by assumption) (by assumption)
    clear N2 hlt2 ho2 hda2
    have hl0 := hok.len0
    have hl1 := hok.len1
    have hj0 := hok.j0
    have hsh := hok.shape
    have hul := hda.length
    have kMk : KdMark := kdMark
    (try dsimp only)
    k_dflt (refine' store_cell ?k1 ?k2 ?k3 ?k4 ?k5 ?k6 hon ?k7 ?k8 ?k9 ?_; (case k5 => rfl); (case k6 => rfl); (case k1 => k_asm); (case k2 => exact N3); (case k3 => rfl); (case k4 => k_asm); (case k7 => exact Nat.ne_of_gt hlD.2.1); (case k8 => exact Nat.ne_of_lt (Nat.lt_succ_of_lt (Nat.lt_succ_self _))); (case k9 => exact Nat.ne_of_lt (Nat.lt_succ_self _)))
    intro h3 ocS F3 N4 hcS
    clear N3
    repeat' (first
      | (k_unfold; (try dsimp only))
      | ((with_reducible show wpAny _ _ (compareOp CmpOp.Eq (Value.ref _) (Value.ref _)) _ _ _); (refine' steps_no ?s1 ?s2 ?s3 ?s4 ?s5 ?s6 ?s7 ?_; (case s1 => k_asm); (case s2 => k_mem); (case s3 => assumption); (case s4 => intro p hp; repeat (first | exact hp | refine List.Mem.tail _ ?_)); (case s5 => k_mem); (case s6 => assumption); (case s7 => ke_room)))
      | ((with_reducible show wpAny _ _ (eval (Expr.ListComp _ _ _ _) _) _ _ _); (refine LCt.ListComp_T (F₀ := by k_asm) (by with_unfolding_all rfl) (by decide) (by rfl) (by decide) (by rfl) ?_))
      | ((with_reducible show LCt.CompSrcT _ _ _ _ _ _ _ _ _ _ _ _ _ _ _); (refine (id : Halt (LCt.CompSrcT _ _ _ _ _ _ _ _ _ _ _ _ _ _ _) → _) ?_))
      | (walk1 <;> (try dsimp only)))
    unfold Halt
    (rename IsRange _ _ _ _ _ _ _ _ => hR)
    refine src_filter (n := ds.length - 1) (pk ds) (by rfl) (by rfl) (by decide) (by rfl) (by k_asm) (by k_asm) hR (small_one (by decide) (by decide) (by omega) (by omega)) ((rangeSize_nat _ _).trans (by omega)) (Nat.le_trans (show ds.length - 1 ≤ 59 by omega) (by decide)) ?_ ?_
    · intro g q t I oI C oC Dc ys m2 h tk QQ E' hq hC hx F N hy hn
      (try dsimp only at *)
      repeat' (first
        | (k_unfold; (try dsimp only))
        | ((with_reducible show wpAny _ _ (subscriptTail (Expr.Name _ _) (Expr.Name _ _) (Value.ref _) (Value.int _ _)) _ _ _); (refine' item_four ?i1 ?i2 ?i3 ?i4 ?i5 ?i6 ?i7 ?i8 ?_; (case i1 => k_asm); (case i2 => k_memK); (case i3 => assumption); (case i4 => assumption); (case i5 => omega); (case i6 => omega); (case i7 => omega); (case i8 => with_unfolding_all rfl)); intro T' p' q' g' a' t1' t2' t3' t4' c' hk' hB' hT'; (try dsimp only at hB'))
        | ((with_reducible show wpAny _ _ (call (Value.builtin "abs") [Value.int _ _]) _ _ _); refine call_abs_int ?_; intro _ _)
        | (walk1 <;> (try dsimp only)))
      exact by_test (fun e => hy (pk_y (by assumption) (eq_of_beq e)) _ _ (by k_asm) (by k_asm)) (fun e => hn (pk_n (by assumption) (beq_eq_false_iff_ne.mp e)) _ _ (by k_asm) (by k_asm))
    · intro D4 ys h4 tk4 F4 N4 o4 hys
      obtain ⟨l, hl⟩ := last_ok hok
      rw [hl] at hys
      obtain ⟨t4, ws, rfl, hws⟩ := ints_cons hys
      (try simp only [LCg.Off1] at o4)
      (try dsimp only)
      repeat' (first
        | (k_unfold; (try dsimp only))
        | ((with_reducible show wpAny _ _ (subscriptTail (Expr.ListComp _ _ _ _) _ (Value.ref _) (Value.int _ _)) _ _ _); (refine item0 (by k_asm) (by k_mem) ?_ (by with_unfolding_all rfl)))
        | ((with_reducible show wpAny _ _ (exec (Stmt.For (Expr.Tuple _ _ _) (Expr.Subscript _ _ _) _ [] _) _) _ _ _); (rename Fr _ _ _ _ => lF'); (with_unfolding_all refine' For_turns lF' ?_); k_whole)
        | ((with_reducible show wpAny _ _ (binaryOp .FloorDiv (Value.int _ _) (Value.int _ _)) _ _ _); (refine fdiv_as (by decide) (by decide) (half_eq _) ?_))
        | ((with_reducible show wpAny _ _ (subscriptTail (Expr.Name _ _) (Expr.Slice none (some _) _ _) (Value.ref _) (Value.ref _)) _ _ _); (refine' slice_data_at ?s9F ?s9N ?s9l ?s9i ?s9x ?s9z ?s9s ?_; (case s9F => k_asm); (case s9N => k_asm); (case s9l => k_mem); (case s9i => assumption); (case s9x => omega); (case s9z => assumption); (case s9s => with_unfolding_all rfl)); intro D' h' F' N' l1 hd'; (try k_lt l1))
        | ((with_reducible show wpAny _ _ (pyIter (Value.ref _)) _ _ _); (refine (id : Halt (wpAny _ _ _ _ _ _) → _) ?_))
        | (walk1 <;> (try dsimp only)))
      unfold Halt
      (rename News _ _ _ _ => nE)
      (rename Fr _ _ _ _ => fE)
      (rename DatAll _ (List.take _ _) _ => hdt)
      with_unfolding_all refine scan_loop [Str.ofString "p", Str.ofString "q", Str.ofString "hours", Str.ofString "apart"] (by rfl) fE (news_drop2 nE) (.head _) hdt ?_ ?_
      · clear fE nE
        intro d v u h tk I oI hm hv hI F N
        have hm2 := List.mem_of_mem_take hm
        rw [Int.toNat_natCast] at hm
        obtain ⟨p1, q1, g1, a1, rfl, hB1⟩ := hsh _ hm2
        obtain ⟨T1, t1, t2, t3, t4, c1, rfl, hT1⟩ := dat_four hv
        have hpe := hok.pell _ _ _ _ hm
        (try dsimp only [frS] at F)
        repeat' (first
          | (k_unfold; (try dsimp only))
          | ((with_reducible show wpAny _ _ (exec (Stmt.If (Expr.Compare _ [CmpOp.NotEq] [Expr.Name _ _] _) [Stmt.Return _ _] [] _) _) _ _ _); (refine if_nogo ?_))
          | ((with_reducible show NoGo _ _); (refine NoGo.intro (bne_eq_false_iff_eq.mpr (by with_reducible assumption)) ?_))
          | ((with_reducible show UnrPostW _ _ _ _ _ _ _ _); (refine (id : Halt (UnrPostW _ _ _ _ _ _ _ _) → _) ?_))
          | (walk1 <;> (try dsimp only)))
        unfold Halt
        (rename News _ _ _ _ => nE)
        exact scan_fin (by k_asm) nE (fun p hp => hp) (.head _) hI (fun z h3 => em4 h3)
      · clear fE nE
        intro u h tk F N
        (try dsimp only)
        repeat' (first
          | (k_unfold; (try dsimp only))
          | ((with_reducible show wpAny _ _ (exec (Stmt.Assign _ (Expr.ListComp _ _ _ _) _) _) _ _ _); (refine assign_four (_F₀ := by k_asm) (by rfl) (by with_unfolding_all rfl) (by with_unfolding_all rfl) (by decide) (by rfl) (by decide) (by rfl) (by rfl) (by rfl) (by rfl) (by decide) (by rfl) (by rfl) ?_))
          | ((with_reducible show FourSrc _ _ _ _ _ _ _ _ _ _ _ _ _ _ _ _ _ _ _); (refine (id : Halt (FourSrc _ _ _ _ _ _ _ _ _ _ _ _ _ _ _ _ _ _ _) → _) ?_))
          | (walk1 <;> (try dsimp only)))
        unfold Halt
        (rename News _ _ _ _ => nE)
        (rename Fr _ _ _ _ => fE)
        refine told_src hok (by rfl) fE nE (by k_mem) hda (by intro p hp; repeat (first | exact hp | refine List.Mem.tail _ ?_)) ?_ ?_ ?_
        · clear fE nE
          intro g p q gg a t1 t2 t3 t4 I oI C oC Dc ys tl m2 h tk QQ E' hm hC hin F N hy hn
          obtain ⟨e1, e2, e3, e4⟩ := hin
          obtain ⟨⟨b1, b2⟩, ⟨b3, b4⟩, ⟨b5, b6⟩, b7, b8⟩ := shape_at hok hm
          (try simp only [List.cons_append] at N)
          (try dsimp only at *)
          repeat' (first
            | (k_unfold; (try dsimp only))
            | (walk1 <;> (try dsimp only)))
          · exact hy ⟨by assumption, by omega, by omega⟩ _ _ (by k_asm) (by k_asm)
          · exact hn (fun h9 => by omega) _ _ (by k_asm) (by k_asm)
          · exact hn (fun h9 => by omega) _ _ (by k_asm) (by k_asm)
          · exact hn (fun h9 => by omega) _ _ (by k_asm) (by k_asm)
        · clear fE nE
          intro g p q gg a t1 t2 t3 t4 I oI C oC Dc ys tl m2 h tk QQ E' hm hC hin F N hq
          obtain ⟨e1, e2, e3, e4⟩ := hin
          (try simp only [List.cons_append] at N)
          (try dsimp only at *)
          repeat' (first
            | (k_unfold; (try dsimp only))
            | (walk1 <;> (try dsimp only)))
          exact hq _ _ _ _ _ _ _ (by k_asm) (by k_asm) (fun z hz => Nat.ne_of_lt (tb_ltOf (by assumption) z hz))
        · clear fE nE
          intro Dt ys tl h tk F N hlt ho hds
          (try simp only [List.cons_append] at N)
          (try dsimp only)
          repeat' (first
            | (k_unfold; (try dsimp only))
            | ((with_reducible show wpAny _ _ (call (Value.ref 112) [Value.int _ _, Value.int _ _]) _ _ _); (refine (id : Halt (wpAny _ _ _ _ _ _) → _) ?_))
            | (walk1 <;> (try dsimp only)))
          unfold Halt
          refine' call_small ?k1 ?k2 ?k3 ?k4 ?k5 ?kK ?kp ?kd ?ku ?_
          case k1 => k_asm
          case k2 => k_asm
          case k3 => k_asm
          case k4 => k_asm
          case k5 => k_asm
          case kK => first | exact rfl | assumption
          case kp => exact ⟨by assumption, bound_bd _⟩
          case kd => ktr_room
          case ku => ktr_units
          intro D8 us8 k8 tl8 h8 tk8 F8 N8 hlt8 ho8 hda8
          (try dsimp only)
          refine told_same N8 (.tail _ (List.mem_append.mpr (.inl (.head _)))) hds (fun p hp => .tail _ (List.mem_append.mpr (.inl (.tail _ hp)))) (.head _) hda8 (fun p hp => .tail _ hp) rfl (by ke_room) ?_
          have N9 := news_small N8
          clear N8 N hlt8 ho8 hda8 hlt ho hds
          repeat' (first
            | (k_unfold; (try dsimp only))
            | ((with_reducible show wpAny _ _ (subscriptTail (Expr.Name _ _) (Expr.Slice none (some _) _ _) (Value.ref _) (Value.ref _)) _ _ _); (refine' slice_data_at ?s9F ?s9N ?s9l ?s9i ?s9x ?s9z ?s9s ?_; (case s9F => k_asm); (case s9N => k_asm); (case s9l => k_mem); (case s9i => assumption); (case s9x => omega); (case s9z => assumption); (case s9s => with_unfolding_all rfl)); intro D' h' F' N' l1 hd'; (try k_lt l1))
            | ((with_reducible show wpAny _ _ (call (Value.ref 117) [Value.int _ _, Value.ref _]) _ _ _); (refine (id : Halt (wpAny _ _ _ _ _ _) → _) ?_))
            | (walk1 <;> (try dsimp only)))
          unfold Halt
          (rename DatAll _ (List.take (Int.toNat (_ + 1)) _) _ => hd9)
          refine' call_round ?k1 ?k2 ?k3 ?k4 ?k5 ?kK ?kp ?ks ?kl ?kda ?ke ?kd ?ku ?_
          case k1 => k_asm
          case k2 => k_asm
          case k3 => k_asm
          case k4 => k_asm
          case k5 => k_asm
          case kK => first | exact rfl | assumption
          case kp => assumption
          case ks => assumption
          case kl => k_mem
          case kda => exact hd9.mono (by intro p hp; repeat (first | exact hp | refine List.Mem.tail _ ?_))
          case ke => rw [take_tn]; exact hok.take
          case kd => ktr_room
          case ku => ktr_units
          intro h9 tk9 F9 N9'
          (try dsimp only)
          refine' goodW_bool ?ka ?kb (raisesW_false ?kc) ?kd
          case ka => assumption
          case kb => assumption
          case kc => exact allW_false_nil
          case kd => exact postW_of (by wrow_shape) (by wtm_val) (by first | (with_reducible exact beq_self_eq_true _) | exact same_self _ | rfl | decide)
end Mine
end
theorem PySem.Challenge.cw_xg0011_02_holds : PySem.Challenge.rw_xg0011_02.Holds :=
  Mine.law_holds
