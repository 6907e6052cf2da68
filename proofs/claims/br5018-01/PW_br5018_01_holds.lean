import PyProof.Rows.All
import Wide.All
import OpenK.AllK
import Wide.FinOn
import PySem.Challenge.RW_br5018_01
open PySem PySem.W PyProof.Rows
set_option Elab.async false
namespace Mine
set_option maxRecDepth 100000 in
set_option maxHeartbeats 8000000 in
open_top hd for PySem.Challenge.rw_br5018_01
end Mine
namespace Mine
set_option maxRecDepth 100000

/-- what every call of a def of the text finds, and what it leaves -/
abbrev CallOk (w : World) (mean : ExcName → Option Value) (mg mb : Str → Option Value) (k : Nat) (base : Heap) (f : Addr) (args : List Value) (news : List (Addr × Obj)) (Res : Value → List (Addr × Obj) → Prop) : Prop :=
  ∀ (dp un : Nat) (gd : Option (List Code)) (cn : Str) (cs : Scope) (a : Addr) (ccd : Value) (cl : List (Str × Addr)) (outer : List Env) (A₀ : Around) (h₀ : Heap) (L : Addr) (m : Str → Option Value) (s : Shared) (Q E : Value → Shared → Prop),
    Below A₀ base outer h₀ → Fr h₀ L s.heap m → (hd.heap_39 w.params).In h₀ → News h₀ L s.heap news →
    Top hd.view_39 (looseW hd.view_39 [Str.ofString "DelimiterScanner", Str.ofString "_law_pieces", Str.ofString "_law_markers"]) mean mg mb h₀ → cs.kind = .function →
    dp + k < recursionLimit → un + 8 * k < cLine →
    (∀ v news' h' tk', Res v news' → Fr h₀ L h' m → News h₀ L h' news' → Q v { s with heap := h', toks := tk' }) →
    wpAny (model PySem.Challenge.rw_br5018_01.row.prog w) (ktrTop dp un gd cn cs L a ccd cl outer) (call (.ref f) args) Q E s

theorem call_use {w : World} {mean : ExcName → Option Value} {mg mb : Str → Option Value} {k : Nat} {base : Heap} {f : Addr} {args : List Value} {news : List (Addr × Obj)} {Res : Value → List (Addr × Obj) → Prop}
    {dp un : Nat} {gd : Option (List Code)} {cn : Str} {cs : Scope} {a : Addr} {ccd : Value} {cl : List (Str × Addr)} {outer : List Env} {A₀ : Around} {h₀ : Heap} {L : Addr} {m : Str → Option Value} {s : Shared} {Q E : Value → Shared → Prop}
    (B : Below A₀ base outer h₀) (F : Fr h₀ L s.heap m) (X : (hd.heap_39 w.params).In h₀) (N : News h₀ L s.heap news)
    (T : Top hd.view_39 (looseW hd.view_39 [Str.ofString "DelimiterScanner", Str.ofString "_law_pieces", Str.ofString "_law_markers"]) mean mg mb h₀) (hk : cs.kind = .function)
    (C : CallOk w mean mg mb k base f args news Res) (hd : dp + k < recursionLimit) (hu : un + 8 * k < cLine)
    (ret : ∀ v news' h' tk', Res v news' → Fr h₀ L h' m → News h₀ L h' news' → Q v { s with heap := h', toks := tk' }) :
    wpAny (model PySem.Challenge.rw_br5018_01.row.prog w) (ktrTop dp un gd cn cs L a ccd cl outer) (call (.ref f) args) Q E s :=
  C dp un gd cn cs a ccd cl outer A₀ h₀ L m s Q E B F X N T hk hd hu ret

def Hold (P : Prop) : Prop := P
theorem Hold.out {P : Prop} (h : Hold P) : P := h

theorem news_sub {h₀ h : Heap} {L : Addr} {news news' : List (Addr × Obj)} (N : News h₀ L h news) (hs : ∀ p ∈ news', p ∈ news) : News h₀ L h news' := fun p hp => N p (hs p hp)

/-- a turn's end of a while over two names that hold ints -/
def W2End (h₀ : Heap) (L : Addr) (s : Shared) (news : List (Addr × Obj)) (a b : Str) (P : Int → Int → Prop) (μ : Int → Int → Nat) (m₀ : Str → Option Value) (x y : Int) (s₂ : Shared) : Prop :=
  ∃ x' t' y' u' h' tk m' news', s₂ = { s with heap := h', toks := tk } ∧ Fr h₀ L h' m' ∧ News h₀ L h' news' ∧ (∀ p ∈ news, p ∈ news') ∧ m' a = some (.int x' t') ∧ m' b = some (.int y' u') ∧ (∀ z, z ≠ a → z ≠ b → m' z = m₀ z) ∧ P x' y' ∧ μ x' y' < μ x y
def W2Post (h₀ : Heap) (L : Addr) (s : Shared) (news : List (Addr × Obj)) (a b : Str) (P : Int → Int → Prop) (μ : Int → Int → Nat) (m₀ : Str → Option Value) (x y : Int) (Q : Flow → Shared → Prop) (f : Flow) (s₂ : Shared) : Prop :=
  match f with
  | .ret v => Q (.ret v) s₂
  | .brk => Q .next s₂
  | _ => W2End h₀ L s news a b P μ m₀ x y s₂
theorem while2 {prog : Program} {w : World} {A : Around} {E : Value → Shared → Prop} {Q : Flow → Shared → Prop} {s : Shared} {env : Env} {h₀ : Heap} {L : Addr} {test : Expr} {body : List Stmt} {pos : Pos} {m₀ : Str → Option Value} {news : List (Addr × Obj)}
    (a b : Str) (P : Int → Int → Prop) (μ : Int → Int → Nat) {x₀ y₀ : Int} {t₀ u₀ : Tok}
    (F : Fr h₀ L s.heap m₀) (N : News h₀ L s.heap news) (ha : m₀ a = some (.int x₀ t₀)) (hb : m₀ b = some (.int y₀ u₀)) (hp : P x₀ y₀)
    (turn : ∀ x t y u h tk, P x y → Fr h₀ L h (fun z => if z = a then some (.int x t) else if z = b then some (.int y u) else m₀ z) → News h₀ L h news →
      wpAny (model prog w) A (isTrue test env (eval test env)) (fun c s₂ =>
        if c = true then wpAny (model prog w) A (execs body env) (W2Post h₀ L s news a b P μ m₀ x y Q) E s₂ else Q .next s₂) E { s with heap := h, toks := tk })
    (hE : PassesOwn (model prog w) A env E := by passes_own) :
    wpAny (model prog w) A (exec (.While test body [] pos) env) Q E s := by
  refine While_inv2 (fun n m nx => nx = news ∧ ∃ x t y u, μ x y = n ∧ m a = some (.int x t) ∧ m b = some (.int y u) ∧ (∀ z, z ≠ a → z ≠ b → m z = m₀ z) ∧ P x y) F N ⟨rfl, x₀, t₀, y₀, u₀, rfl, ha, hb, fun _ _ _ => rfl, hp⟩ ?_ hE
  rintro n m₁ nx h tk F₁ N₁ ⟨rfl, x, t, y, u, rfl, h1, h2, h3, h4⟩
  have e : (fun z => if z = a then some (Value.int x t) else if z = b then some (Value.int y u) else m₀ z) = m₁ := by
    funext z
    by_cases za : z = a
    · rw [if_pos za, za, h1]
    · rw [if_neg za]
      by_cases zb : z = b
      · rw [if_pos zb, zb, h2]
      · rw [if_neg zb, h3 z za zb]
  refine wpAny_mono (turn x t y u h tk h4 (by rw [e]; exact F₁) N₁) (fun c s₂ p => ?_) fun _ _ x => x
  cases c with
  | false => simpa using p
  | true =>
    simp only [if_true] at p ⊢
    refine wpAny_mono p (fun f s₃ q => ?_) fun _ _ x => x
    have fin : W2End h₀ L s nx a b P μ m₀ x y s₃ → ∃ h' tk m₂ news₂ n', s₃ = { s with heap := h', toks := tk } ∧ Fr h₀ L h' m₂ ∧ News h₀ L h' news₂ ∧ n' < μ x y ∧ (news₂ = nx ∧ ∃ x t y u, μ x y = n' ∧ m₂ a = some (.int x t) ∧ m₂ b = some (.int y u) ∧ (∀ z, z ≠ a → z ≠ b → m₂ z = m₀ z) ∧ P x y) := by
      rintro ⟨x', t', y', u', h', tk', m', news', rfl, F', N', hn, b1, b2, b3, b4, b5⟩
      exact ⟨h', tk', m', nx, μ x' y', rfl, F', news_sub N' hn, b5, rfl, x', t', y', u', rfl, b1, b2, b3, b4⟩
    cases f with
    | ret v => exact q
    | brk => exact q
    | next => exact fin q
    | cont => exact fin q
theorem W2End.intro {s : Shared} {h₀ : Heap} {L : Addr} {m₀ m' : Str → Option Value} {news news' : List (Addr × Obj)} {a b : Str} {P : Int → Int → Prop} {μ : Int → Int → Nat} {x y : Int} {h' : Heap} {tk : Nat} (x' y' : Int) {t' u' : Tok}
    (F : Fr h₀ L h' m') (N : News h₀ L h' news') (hn : ∀ p ∈ news, p ∈ news') (ha : m' a = some (.int x' t')) (hb : m' b = some (.int y' u')) (hr : ∀ z, z ≠ a → z ≠ b → m' z = m₀ z) (hp : P x' y') (hm : μ x' y' < μ x y) :
    W2End h₀ L s news a b P μ m₀ x y { s with heap := h', toks := tk } := ⟨x', t', y', u', h', tk, m', news', rfl, F, N, hn, ha, hb, hr, hp, hm⟩

/-- a turn's end of a while over one name that holds an int -/
def W1End (h₀ : Heap) (L : Addr) (s : Shared) (news : List (Addr × Obj)) (a : Str) (P : Int → Prop) (μ : Int → Nat) (m₀ : Str → Option Value) (x : Int) (s₂ : Shared) : Prop :=
  ∃ x' t' h' tk m' news', s₂ = { s with heap := h', toks := tk } ∧ Fr h₀ L h' m' ∧ News h₀ L h' news' ∧ (∀ p ∈ news, p ∈ news') ∧ m' a = some (.int x' t') ∧ (∀ z, z ≠ a → m' z = m₀ z) ∧ P x' ∧ μ x' < μ x
def W1Post (h₀ : Heap) (L : Addr) (s : Shared) (news : List (Addr × Obj)) (a : Str) (P : Int → Prop) (μ : Int → Nat) (m₀ : Str → Option Value) (x : Int) (Q : Flow → Shared → Prop) (f : Flow) (s₂ : Shared) : Prop :=
  match f with
  | .ret v => Q (.ret v) s₂
  | .brk => Q .next s₂
  | _ => W1End h₀ L s news a P μ m₀ x s₂
theorem while1 {prog : Program} {w : World} {A : Around} {E : Value → Shared → Prop} {Q : Flow → Shared → Prop} {s : Shared} {env : Env} {h₀ : Heap} {L : Addr} {test : Expr} {body : List Stmt} {pos : Pos} {m₀ : Str → Option Value} {news : List (Addr × Obj)}
    (a : Str) (P : Int → Prop) (μ : Int → Nat) {x₀ : Int} {t₀ : Tok}
    (F : Fr h₀ L s.heap m₀) (N : News h₀ L s.heap news) (ha : m₀ a = some (.int x₀ t₀)) (hp : P x₀)
    (turn : ∀ x t h tk, P x → Fr h₀ L h (fun z => if z = a then some (.int x t) else m₀ z) → News h₀ L h news →
      wpAny (model prog w) A (isTrue test env (eval test env)) (fun c s₂ =>
        if c = true then wpAny (model prog w) A (execs body env) (W1Post h₀ L s news a P μ m₀ x Q) E s₂ else Q .next s₂) E { s with heap := h, toks := tk })
    (hE : PassesOwn (model prog w) A env E := by passes_own) :
    wpAny (model prog w) A (exec (.While test body [] pos) env) Q E s := by
  refine While_inv2 (fun n m nx => nx = news ∧ ∃ x t, μ x = n ∧ m a = some (.int x t) ∧ (∀ z, z ≠ a → m z = m₀ z) ∧ P x) F N ⟨rfl, x₀, t₀, rfl, ha, fun _ _ => rfl, hp⟩ ?_ hE
  rintro n m₁ nx h tk F₁ N₁ ⟨rfl, x, t, rfl, h1, h3, h4⟩
  have e : (fun z => if z = a then some (Value.int x t) else m₀ z) = m₁ := by
    funext z
    by_cases za : z = a
    · rw [if_pos za, za, h1]
    · rw [if_neg za, h3 z za]
  refine wpAny_mono (turn x t h tk h4 (by rw [e]; exact F₁) N₁) (fun c s₂ p => ?_) fun _ _ x => x
  cases c with
  | false => simpa using p
  | true =>
    simp only [if_true] at p ⊢
    refine wpAny_mono p (fun f s₃ q => ?_) fun _ _ x => x
    have fin : W1End h₀ L s nx a P μ m₀ x s₃ → ∃ h' tk m₂ news₂ n', s₃ = { s with heap := h', toks := tk } ∧ Fr h₀ L h' m₂ ∧ News h₀ L h' news₂ ∧ n' < μ x ∧ (news₂ = nx ∧ ∃ x t, μ x = n' ∧ m₂ a = some (.int x t) ∧ (∀ z, z ≠ a → m₂ z = m₀ z) ∧ P x) := by
      rintro ⟨x', t', h', tk', m', news', rfl, F', N', hn, b1, b3, b4, b5⟩
      exact ⟨h', tk', m', nx, μ x', rfl, F', news_sub N' hn, b5, rfl, x', t', rfl, b1, b3, b4⟩
    cases f with
    | ret v => exact q
    | brk => exact q
    | next => exact fin q
    | cont => exact fin q
theorem W1End.intro {s : Shared} {h₀ : Heap} {L : Addr} {m₀ m' : Str → Option Value} {news news' : List (Addr × Obj)} {a : Str} {P : Int → Prop} {μ : Int → Nat} {x : Int} {h' : Heap} {tk : Nat} (x' : Int) {t' : Tok}
    (F : Fr h₀ L h' m') (N : News h₀ L h' news') (hn : ∀ p ∈ news, p ∈ news') (ha : m' a = some (.int x' t')) (hr : ∀ z, z ≠ a → m' z = m₀ z) (hp : P x') (hm : μ x' < μ x) :
    W1End h₀ L s news a P μ m₀ x { s with heap := h', toks := tk } := ⟨x', t', h', tk, m', news', rfl, F, N, hn, ha, hr, hp, hm⟩

/-- the list that the law draws from: the script, a place, a number -/
def Box (l : Addr) (o : Obj) : Prop := ∃ p tp q tq c, (0 : Int) ≤ p ∧ (0 : Int) ≤ q ∧ q < (2147483647 : Int) ∧ o = listOf #[.ref l, .int p tp, .int q tq] c

theorem updF_news {b : Addr} {o : Obj} {news : List (Addr × Obj)} {u : Obj → List (Addr × Obj)} (U : UpdF b o news u) :
    ∃ rest, (∀ p ∈ rest, p.1 ≠ b) ∧ (∀ h₀ L h, News h₀ L h news → News h₀ L h ((b, o) :: rest)) ∧ (∀ h₀ L h o', News h₀ L h ((b, o') :: rest) → News h₀ L h (u o')) ∧ ∀ o', ∀ p ∈ u o', p ∈ (b, o') :: rest := by
  obtain ⟨pre, post, rfl, hg, ha, hb⟩ := U.split
  have h5 : ∀ o', ∀ p ∈ u o', p ∈ (b, o') :: (pre ++ post) := by
    intro o' p hp
    rw [hg] at hp
    rcases List.mem_append.mp hp with hp | hp
    · exact .tail _ (List.mem_append.mpr (.inl hp))
    · rcases List.mem_cons.mp hp with rfl | hp
      · exact .head _
      · exact .tail _ (List.mem_append.mpr (.inr hp))
  refine ⟨pre ++ post, fun p hp => (List.mem_append.mp hp).elim (ha p) (hb p), fun _ _ _ N => news_sub N ?_, fun _ _ _ o' N => news_sub N (h5 o'), h5⟩
  intro p hp
  rcases List.mem_cons.mp hp with rfl | hp
  · exact List.mem_append.mpr (.inr (.head _))
  · exact List.mem_append.mpr ((List.mem_append.mp hp).imp id fun h => .tail _ h)
end Mine
namespace Mine
set_option maxRecDepth 100000
local macro_rules | `(tactic| k_all) => `(tactic| assumption)

set_option maxHeartbeats 4000000 in
theorem draw_ok1 (w : World) (mean : ExcName → Option Value) (mg mb : Str → Option Value) (base : Heap) (l b : Addr) (vs : List Value) (ns : List Int) (z : Int) (tz : Tok) (o : Obj) (rest : List (Addr × Obj))
    (hl : base.IsList l vs.toArray) (hi : IntsAre vs ns) (hn : ns.length ≤ 63) (hB : Box l o) (hz : 0 < z) (hr : ∀ x ∈ rest, x.1 ≠ b) :
    CallOk w mean mg mb 1 base 101 [.ref b, .int z tz] ((b, o) :: rest)
      (fun v news' => ∃ x tv o', v = .int x tv ∧ 0 ≤ x ∧ x < z ∧ Box l o' ∧ news' = (b, o') :: rest) := by
  obtain ⟨p, tp, q, tq, c, hp, hq, hq', rfl⟩ := hB
  unfold CallOk
  k_fill
  intro dp un gd cn cs a ccd cl outer A₀ h₀ L m s Q E B F X N T hk hd hu hret
  refine wpAny_call ?_
  k_dflt (refine' code_def (binds := [(Str.ofString "box", Value.ref b), (Str.ofString "size", Value.int z tz)]) ?k1 ?k2 ?k3 ?k4 ?k5 ?kA ?kF ?kK ?k6 ?k7 ?k8 ?k9 ?kB ?_ ?c2 ?c3 ?c4 ?c5; (case kA => exact rfl); (case kF => exact rfl); (case kK => assumption); (case k1 => k_asm); (case k2 => k_asm); (case k3 => k_asm); (case k4 => k_asm); (case k5 => k_asm); (case k6 => k_is); (case k7 => k_is); (case k8 => ktr_room); (case k9 => exact BindsTo.of_eq rfl); (case c5 => decide); (case kB => exact locs rfl); (case c2 => exact rfl); (case c3 => exact rfl); (case c4 => exact rfl); k_whole; intro g' L' h' FG' F' N' B' X' T'; (try dsimp only); (try k_lift B'); (try k_fold))
  k_steps
  all_goals
    refine hret _ _ _ _ ⟨_, _, _, rfl, fmod_lo _ hz, fmod_hi _ hz, ⟨_, _, _, _, _, ?_, fmod_lo _ (by decide), fmod_hi _ (by decide), rfl⟩, rfl⟩ (by assumption) (by assumption)
    omega
theorem draw_ok (w : World) (mean : ExcName → Option Value) (mg mb : Str → Option Value) (base : Heap) (l b : Addr) (vs : List Value) (ns : List Int) (z : Int) (tz : Tok) (o : Obj) (news : List (Addr × Obj)) (u : Obj → List (Addr × Obj))
    (hl : base.IsList l vs.toArray) (hi : IntsAre vs ns) (hn : ns.length ≤ 63) (hB : Box l o) (hz : 0 < z) (U : UpdF b o news u) :
    CallOk w mean mg mb 1 base 101 [.ref b, .int z tz] news (fun v news' => ∃ x tv o', v = .int x tv ∧ 0 ≤ x ∧ x < z ∧ Box l o' ∧ news' = u o') := by
  intro dp un gd cn cs a ccd cl outer A₀ h₀ L m s Q E B F X N T hk hd hu hret
  obtain ⟨rest, hr, h1, h2, _⟩ := updF_news U
  refine draw_ok1 w mean mg mb base l b vs ns z tz o rest hl hi hn hB hz hr dp un gd cn cs a ccd cl outer A₀ h₀ L m s Q E B F X (h1 _ _ _ N) T hk hd hu ?_
  rintro v news' h' tk' ⟨x, tv, o', rfl, a1, a2, a3, rfl⟩ F' N'
  exact hret _ _ _ _ ⟨x, tv, o', rfl, a1, a2, a3, rfl⟩ F' (h2 _ _ _ _ N')
end Mine
namespace Mine
open Builtin Builtin.Str

/-- the numbers of a text's signs -/
abbrev nums (x : Str) : List Nat := x.cps.toList
def hits (xs ms : List Nat) (k : Nat) : Bool := (xs.drop k).take ms.length == ms
/-- backslashes directly before place k -/
def slashes (xs : List Nat) : Nat → Nat
  | 0 => 0
  | k + 1 => if xs[k]? = some 92 then slashes xs k + 1 else 0
def blank (c : Nat) : Bool := c == 32 || c == 9 || c == 10
def shuts (xs ms : List Nat) (p : Nat) : Bool :=
  if xs[p + ms.length]? = some (ms.headD 0) ∧ hits xs ms (p + ms.length) = false then false
  else if p = 0 then false
  else if xs[p - 1]? = some (ms.headD 0) then slashes xs (p - 1) % 2 == 1
  else !blank ((xs[p - 1]?).getD 0)

theorem nums_length (x : Str) : (nums x).length = x.length := by simp [nums, Str.length]
theorem item_is {x : Str} {i : Int} {c : Nat} (h0 : 0 ≤ i) (h : (nums x)[i.toNat]? = some c) : Txt.item x i = ⟨#[c]⟩ := by
  unfold Txt.item Txt.charAt
  rw [StrLaws.at_nonneg h0 (n := c) (by simpa [nums] using h)]
  rfl
theorem one_beq (a b : Nat) : ((⟨#[a]⟩ : Str) == ⟨#[b]⟩) = decide (a = b) := by
  rw [Bool.eq_iff_iff, beq_iff_eq, decide_eq_true_eq]
  constructor
  · intro h; injection h with h; simpa using h
  · rintro rfl; rfl
theorem some_sign {x : Str} {n : Nat} (h : n < x.length) : ∃ c, (nums x)[n]? = some c :=
  ⟨(nums x)[n]'(by rw [nums_length]; exact h), List.getElem?_eq_getElem _⟩
theorem head_sign {x : Str} (h : 1 ≤ x.length) : (nums x)[0]? = some ((nums x).headD 0) := by
  have : (nums x).length ≠ 0 := by rw [nums_length]; omega
  cases hx : nums x with
  | nil => rw [hx] at this; exact absurd rfl this
  | cons a r => rfl
theorem slice_one {x : Str} {n : Nat} (h : n ≤ x.length) : Txt.slice x (some (n : Int)) (some ((n : Int) + 1)) = ⟨((nums x)[n]?).toList.toArray⟩ := by
  have e : ∀ k : Nat, n ≤ k → k ≤ x.length → Txt.slice x (some (n : Int)) (some (k : Int)) = ⟨(((nums x).drop n).take (k - n)).toArray⟩ := fun k h1 h2 => StrLaws.sliceText_nat x h1 h2
  by_cases hn : n < x.length
  · have := e (n + 1) (by omega) hn
    rw [show ((n : Int) + 1) = ((n + 1 : Nat) : Int) by omega, this]
    obtain ⟨c, hc⟩ := some_sign hn
    have hd : (nums x).drop n = c :: (nums x).drop (n + 1) := by
      obtain ⟨hl, he⟩ := List.getElem?_eq_some_iff.mp hc
      rw [← he]; exact List.drop_eq_getElem_cons hl
    rw [hc, hd, show n + 1 - n = 1 by omega]
    rfl
  · have hn' : n = x.length := by omega
    subst hn'
    have e2 : strSliceIndices (some (x.length : Int)) (some ((x.length : Int) + 1)) 1 x.length = strSliceIndices (some (x.length : Int)) (some (x.length : Int)) 1 x.length := by
      have a : ¬ ((x.length : Int) + 1 < 0) := by omega
      have b : ¬ ((x.length : Int) < 0) := by omega
      have c : max (0 : Int) (min ((x.length : Int) + 1) (x.length : Int)) = max (0 : Int) (min (x.length : Int) (x.length : Int)) := by omega
      simp [strSliceIndices, a, b, c]
    have e3 : Txt.slice x (some (x.length : Int)) (some ((x.length : Int) + 1)) = Txt.slice x (some (x.length : Int)) (some (x.length : Int)) := by
      unfold Txt.slice
      rw [e2]
    rw [e3, e x.length (Nat.le_refl _) (Nat.le_refl _)]
    have : (nums x)[x.length]? = none := List.getElem?_eq_none (by rw [nums_length]; exact Nat.le_refl _)
    rw [this, Nat.sub_self]
    rfl
theorem slice_beq {x : Str} {n m : Nat} (h : n ≤ x.length) : (Txt.slice x (some (n : Int)) (some ((n : Int) + 1)) == ⟨#[m]⟩) = decide ((nums x)[n]? = some m) := by
  rw [slice_one h, Bool.eq_iff_iff, beq_iff_eq, decide_eq_true_eq]
  cases (nums x)[n]? with
  | none => simp
  | some c => simp
theorem fromIndex_nat (n k : Nat) : fromIndex n (k : Int) = k := by
  unfold fromIndex
  have a : ¬ ((k : Int) < 0) := by omega
  rw [if_neg a]
  omega
theorem hits_len {xs ms : List Nat} {k : Nat} (hm : 1 ≤ ms.length) (h : hits xs ms k = true) : k + ms.length ≤ xs.length := by
  have e := eq_of_beq h
  have := congrArg List.length e
  rw [List.length_take, List.length_drop] at this
  omega
theorem at_iff {x y : Str} {i : Nat} (hy : 1 ≤ y.length) : StrLaws.At x y x.length i ↔ hits (nums x) (nums y) i = true := by
  unfold StrLaws.At
  rw [StrLaws.subAt_eq]
  unfold hits
  rw [nums_length]
  refine ⟨fun h => h.2, fun h => ⟨?_, h⟩⟩
  have := hits_len (xs := nums x) (ms := nums y) (k := i) (by rw [nums_length]; exact hy) (by unfold hits; rw [nums_length]; exact h)
  rwa [nums_length, nums_length] at this
theorem starts3_eq {x y : Str} {k : Nat} (hy : 1 ≤ y.length) : Txt.startswith3 x y (k : Int) = hits (nums x) (nums y) k := by
  unfold Txt.startswith3
  rw [fromIndex_nat, Bool.eq_iff_iff, Bool.and_eq_true, decide_eq_true_eq]
  exact at_iff hy
theorem find3_first {x y : Str} (k : Nat) (hy : 1 ≤ y.length) :
    (Txt.find3 x y (k : Int) = -1 ∧ ∀ i, k ≤ i → hits (nums x) (nums y) i = false) ∨
    ∃ i : Nat, Txt.find3 x y (k : Int) = (i : Int) ∧ k ≤ i ∧ hits (nums x) (nums y) i = true ∧ ∀ j, k ≤ j → j < i → hits (nums x) (nums y) j = false := by
  unfold Txt.find3
  rw [fromIndex_nat]
  rcases StrLaws.occ_head_from x y k 1 (Nat.le_refl 1) with ⟨h0, hn⟩ | ⟨i, r, h0, hlo, hk, hn⟩
  · rw [h0]
    exact .inl ⟨rfl, fun i hi => Bool.eq_false_iff.mpr fun h => hn i hi ((at_iff hy).mpr h)⟩
  · rw [h0]
    exact .inr ⟨i, rfl, hlo, (at_iff hy).mp hk, fun j h1 h2 => Bool.eq_false_iff.mpr fun h => hn j h1 h2 ((at_iff hy).mpr h)⟩
theorem in_blanks (c : Nat) : (occurrences (Str.ofString " \t\n") ⟨#[c]⟩ 0 (Str.ofString " \t\n").length 1).isEmpty = !blank c := by
  have h := StrLaws.found_one (Str.ofString " \t\n") c
  rw [show (Str.ofString " \t\n").cps.toList = [32, 9, 10] from by decide +kernel] at h
  have e : decide (c ∈ [32, 9, 10]) = blank c := by
    unfold blank
    rw [Bool.eq_iff_iff]
    simp
    omega
  rw [e] at h
  rw [← h, Bool.not_not]
section
variable {xs ms : List Nat} {p : Nat}
abbrev Bars (xs ms : List Nat) (p : Nat) : Prop := xs[p + ms.length]? = some (ms.headD 0) ∧ hits xs ms (p + ms.length) = false
theorem shuts_bar (h : Bars xs ms p) : shuts xs ms p = false := by
  unfold shuts; rw [if_pos h]
theorem shuts_start (hp : p = 0) : shuts xs ms p = false := by
  unfold shuts; rw [if_pos hp]; split <;> rfl
theorem shuts_other {c : Nat} (h : ¬ Bars xs ms p) (hp : p ≠ 0) (hc : xs[p - 1]? = some c) (hne : c ≠ ms.headD 0) : shuts xs ms p = !blank c := by
  unfold shuts
  rw [if_neg h, if_neg hp, hc, if_neg (by intro e; exact hne (Option.some.inj e))]
  rfl
theorem shuts_same {c : Nat} (h : ¬ Bars xs ms p) (hp : p ≠ 0) (hc : xs[p - 1]? = some c) (he : c = ms.headD 0) : shuts xs ms p = (slashes xs (p - 1) % 2 == 1) := by
  unfold shuts
  rw [if_neg h, if_neg hp, hc, if_pos (by rw [he])]
end
def signs : List Nat := [42, 95, 126, 92, 32, 97, 98, 99, 10, 9, 45, 62, 63, 93]
theorem isspace_sign {c : Nat} (h : c ∈ signs) : Txt.isspace ⟨#[c]⟩ = blank c := by
  have : signs.all (fun c => Txt.isspace ⟨#[c]⟩ == blank c) = true := by decide +kernel
  exact eq_of_beq (List.all_eq_true.mp this c h)
theorem slashes_step {xs : List Nat} {k : Nat} (h : xs[k]? = some 92) : slashes xs (k + 1) = slashes xs k + 1 := by
  show (if xs[k]? = some 92 then slashes xs k + 1 else 0) = _
  rw [if_pos h]
theorem mod2 {c : Int} {n : Nat} (h : c = (n : Int)) : (c.fmod 2 == 1) = (n % 2 == 1) := by
  rw [Int.fmod_eq_emod_of_nonneg c (by omega), h, Bool.eq_iff_iff, beq_iff_eq, beq_iff_eq]
  omega
theorem slashes_stop {xs : List Nat} {k : Nat} (h : ¬ xs[k]? = some 92) : slashes xs (k + 1) = 0 := by
  show (if xs[k]? = some 92 then slashes xs k + 1 else 0) = _
  rw [if_neg h]
section
variable {x mk : Str} {p : Nat}
theorem item_head (hm : 1 ≤ mk.length) : Txt.item mk 0 = ⟨#[(nums mk).headD 0]⟩ := item_is (by decide) (head_sign hm)
theorem ahead_eq (hm : 1 ≤ mk.length) (hp : p + mk.length ≤ x.length) :
    (Txt.slice x (some ((p : Int) + (mk.length : Int))) (some ((p : Int) + (mk.length : Int) + 1)) == Txt.item mk 0) = decide ((nums x)[p + (nums mk).length]? = some ((nums mk).headD 0)) := by
  rw [item_head hm, show ((p : Int) + (mk.length : Int)) = ((p + mk.length : Nat) : Int) by omega, nums_length]
  exact slice_beq hp
theorem starts_eq (hm : 1 ≤ mk.length) : Txt.startswith3 x mk ((p : Int) + (mk.length : Int)) = hits (nums x) (nums mk) (p + (nums mk).length) := by
  rw [show ((p : Int) + (mk.length : Int)) = ((p + mk.length : Nat) : Int) by omega, nums_length]
  exact starts3_eq hm
theorem bars_of (hm : 1 ≤ mk.length) (hp : p + mk.length ≤ x.length)
    (f1 : (Txt.slice x (some ((p : Int) + (mk.length : Int))) (some ((p : Int) + (mk.length : Int) + 1)) == Txt.item mk 0) = true) (f2 : Txt.startswith3 x mk ((p : Int) + (mk.length : Int)) = false) : Bars (nums x) (nums mk) p := by
  rw [ahead_eq hm hp, decide_eq_true_eq] at f1
  rw [starts_eq hm] at f2
  exact ⟨f1, f2⟩
theorem not_bars_s (hm : 1 ≤ mk.length) (f2 : Txt.startswith3 x mk ((p : Int) + (mk.length : Int)) = true) : ¬ Bars (nums x) (nums mk) p := by
  rw [starts_eq hm] at f2
  intro h
  have h2 := h.2
  rw [f2] at h2
  cases h2
theorem not_bars_a (hm : 1 ≤ mk.length) (hp : p + mk.length ≤ x.length)
    (f1 : (Txt.slice x (some ((p : Int) + (mk.length : Int))) (some ((p : Int) + (mk.length : Int) + 1)) == Txt.item mk 0) = false) : ¬ Bars (nums x) (nums mk) p := by
  rw [ahead_eq hm hp, decide_eq_false_iff_not] at f1
  exact fun h => f1 h.1
theorem sign_at {i : Int} (h0 : 0 ≤ i) (h1 : i < x.length) : ∃ c, (nums x)[i.toNat]? = some c ∧ Txt.item x i = ⟨#[c]⟩ := by
  obtain ⟨c, hc⟩ := some_sign (x := x) (n := i.toNat) (by omega)
  exact ⟨c, hc, item_is h0 hc⟩
theorem sign_before (hp : p ≠ 0) (hl : p ≤ x.length) : ∃ c, (nums x)[p - 1]? = some c ∧ Txt.item x ((p : Int) - 1) = ⟨#[c]⟩ := by
  obtain ⟨c, h1, h2⟩ := sign_at (x := x) (i := (p : Int) - 1) (by omega) (by omega)
  rw [show ((p : Int) - 1).toNat = p - 1 by omega] at h1
  exact ⟨c, h1, h2⟩
theorem before_ne (hm : 1 ≤ mk.length) (hp : p ≠ 0) (hl : p ≤ x.length) (f : (Txt.item x ((p : Int) - 1) != Txt.item mk 0) = true) :
    ∃ c, (nums x)[p - 1]? = some c ∧ c ≠ (nums mk).headD 0 ∧ Txt.item x ((p : Int) - 1) = ⟨#[c]⟩ := by
  obtain ⟨c, h1, h2⟩ := sign_before hp hl
  rw [h2, item_head hm] at f
  refine ⟨c, h1, ?_, h2⟩
  rw [bne, one_beq, Bool.not_eq_true', decide_eq_false_iff_not] at f
  exact f
theorem before_eq (hm : 1 ≤ mk.length) (hp : p ≠ 0) (hl : p ≤ x.length) (f : (Txt.item x ((p : Int) - 1) != Txt.item mk 0) = false) :
    (nums x)[p - 1]? = some ((nums mk).headD 0) := by
  obtain ⟨c, h1, h2⟩ := sign_before hp hl
  rw [h2, item_head hm] at f
  rw [bne, one_beq, Bool.not_eq_false', decide_eq_true_eq] at f
  rw [h1, f]
theorem slash_is : Str.ofString "\\" = ⟨#[92]⟩ := by decide +kernel
theorem slash_eq {i : Int} (h0 : 0 ≤ i) (h1 : i < x.length) : (Txt.item x i == Str.ofString "\\") = decide ((nums x)[i.toNat]? = some 92) := by
  obtain ⟨c, hc, h2⟩ := sign_at h0 h1
  rw [h2, slash_is, one_beq, hc]
  simp
theorem shuts_noslash {b : Bool} (h : ¬ Bars (nums x) (nums mk) p) (hp : p ≠ 0) (hc : (nums x)[p - 1]? = some ((nums mk).headD 0)) {c : Int} (e : c = (slashes (nums x) (p - 1) : Int)) (hb : b = (c.fmod 2 == 1)) : b = shuts (nums x) (nums mk) p := by
  rw [shuts_same h hp hc rfl, hb, mod2 e]
theorem item_ahead (hm : 1 ≤ mk.length) (hl : (p : Int) + (mk.length : Int) < (x.length : Int)) :
    (Txt.item x ((p : Int) + (mk.length : Int)) == Txt.item mk 0) = decide ((nums x)[p + (nums mk).length]? = some ((nums mk).headD 0)) := by
  obtain ⟨c, h1, h2⟩ := sign_at (x := x) (i := (p : Int) + (mk.length : Int)) (by omega) hl
  rw [show ((p : Int) + (mk.length : Int)).toNat = p + (nums mk).length by rw [nums_length]; omega] at h1
  rw [h2, item_head hm, one_beq, h1]
  simp
theorem bars_i (hm : 1 ≤ mk.length) (hl : (p : Int) + (mk.length : Int) < (x.length : Int)) (f1 : (Txt.item x ((p : Int) + (mk.length : Int)) == Txt.item mk 0) = true)
    (f2 : Txt.startswith3 x mk ((p : Int) + (mk.length : Int)) = false) : Bars (nums x) (nums mk) p := by
  rw [item_ahead hm hl, decide_eq_true_eq] at f1
  rw [starts_eq hm] at f2
  exact ⟨f1, f2⟩
theorem not_bars_i (hm : 1 ≤ mk.length) (hl : (p : Int) + (mk.length : Int) < (x.length : Int)) (f1 : (Txt.item x ((p : Int) + (mk.length : Int)) == Txt.item mk 0) = false) : ¬ Bars (nums x) (nums mk) p := by
  rw [item_ahead hm hl, decide_eq_false_iff_not] at f1
  exact fun h => f1 h.1
theorem not_bars_e (hl : ¬ (p : Int) + (mk.length : Int) < (x.length : Int)) : ¬ Bars (nums x) (nums mk) p := by
  intro h
  have h1 := h.1
  rw [List.getElem?_eq_none (by rw [nums_length, nums_length]; omega)] at h1
  cases h1
theorem isspace_before (hg : ∀ c ∈ nums x, c ∈ signs) {c : Nat} (h : (nums x)[p - 1]? = some c) : Txt.isspace ⟨#[c]⟩ = blank c := isspace_sign (hg c (List.mem_of_getElem? h))
theorem shuts_none (h : ¬ Bars (nums x) (nums mk) p) (hp : p ≠ 0) (hc : (nums x)[p - 1]? = some ((nums mk).headD 0)) (e : slashes (nums x) (p - 1) = 0) : shuts (nums x) (nums mk) p = false := by
  rw [shuts_same h hp hc rfl, e]
  rfl
theorem noslash (hp : ¬ (p : Int) < 2) (hl : p ≤ x.length) (f : (Txt.item x ((p : Int) - 2) != Str.ofString "\\") = true) : slashes (nums x) (p - 1) = 0 := by
  rw [bne, slash_eq (by omega) (by omega), Bool.not_eq_true', decide_eq_false_iff_not] at f
  rw [show p - 1 = ((p : Int) - 2).toNat + 1 by omega]
  exact slashes_stop f
end
end Mine
namespace Mine
set_option maxRecDepth 100000
local macro_rules | `(tactic| k_all) => `(tactic| assumption)

def pieces : List Str := [Str.ofString "*", Str.ofString "**", Str.ofString "***", Str.ofString "_", Str.ofString "__", Str.ofString "~~", Str.ofString "\\", Str.ofString "\\\\", Str.ofString "\\*", Str.ofString "\\**", Str.ofString " ", Str.ofString "a", Str.ofString "b", Str.ofString "\n", Str.ofString "\t", Str.ofString "-", Str.ofString "-->", Str.ofString ">", Str.ofString "?>", Str.ofString "]]>", Str.ofString "]", Str.ofString "a**", Str.ofString "**b", Str.ofString "*c*", Str.ofString "--", Str.ofString "\\\\**"]
def markers : List Str := [Str.ofString "*", Str.ofString "**", Str.ofString "_", Str.ofString "__", Str.ofString "~~", Str.ofString "-->", Str.ofString "?>", Str.ofString "]]>", Str.ofString ">", Str.ofString "***", Str.ofString "a", Str.ofString "--", Str.ofString "*a"]
theorem getD_mem {l : List Str} {i : Nat} {d : Str} (h : i < l.length) : l.getD i d ∈ l := by
  rw [List.getD_eq_getElem?_getD, List.getElem?_eq_getElem h]
  exact List.getElem_mem h

set_option maxHeartbeats 4000000 in
theorem pick_pieces1 (w : World) (mean : ExcName → Option Value) (mg mb : Str → Option Value) (base : Heap) (l b : Addr) (vs : List Value) (ns : List Int) (o : Obj) (rest : List (Addr × Obj))
    (hl : base.IsList l vs.toArray) (hi : IntsAre vs ns) (hn : ns.length ≤ 63) (hB : Box l o) (hr : ∀ x ∈ rest, x.1 ≠ b) :
    CallOk w mean mg mb 2 base 108 [.ref b, .ref 93] ((b, o) :: rest)
      (fun v news' => ∃ x tv o', v = .str x tv ∧ x ∈ pieces ∧ Box l o' ∧ news' = (b, o') :: rest) := by
  unfold CallOk
  k_fill
  intro dp un gd cn cs a ccd cl outer A₀ h₀ L m s Q E B F X N T hk hd hu hret
  refine wpAny_call ?_
  k_dflt (refine' code_def (binds := [(Str.ofString "box", Value.ref b), (Str.ofString "rows", Value.ref 93)]) ?k1 ?k2 ?k3 ?k4 ?k5 ?kA ?kF ?kK ?k6 ?k7 ?k8 ?k9 ?kB ?_ ?c2 ?c3 ?c4 ?c5; (case kA => exact rfl); (case kF => exact rfl); (case kK => assumption); (case k1 => k_asm); (case k2 => k_asm); (case k3 => k_asm); (case k4 => k_asm); (case k5 => k_asm); (case k6 => k_is); (case k7 => k_is); (case k8 => ktr_room); (case k9 => exact BindsTo.of_eq rfl); (case c5 => decide); (case kB => exact locs rfl); (case c2 => exact rfl); (case c3 => exact rfl); (case c4 => exact rfl); k_whole; intro g' L' h' FG' F' N' B' X' T'; (try dsimp only); (try k_lift B'); (try k_fold))
  k_steps
  k_dflt refine call_use (by k_asm) (by k_asm) (by k_asm) (by k_asm) (by k_asm) (by first | exact rfl | assumption) (draw_ok w mean mg mb base l b vs ns 26 _ o _ _ hl (by assumption) hn hB (by decide) (by k_updF)) (by ktr_room) (by ktr_units) ?_
  rintro v news' h1 tk1 ⟨x, tv, o', rfl, hx0, hx1, hB', rfl⟩ F1 N1
  dsimp only
  k_steps
  refine hret _ _ _ _ ⟨_, _, _, rfl, ?_, hB', rfl⟩ (by assumption) (by assumption)
  exact getD_mem (l := pieces) (by show x.toNat < 26; omega)
theorem pick_pieces (w : World) (mean : ExcName → Option Value) (mg mb : Str → Option Value) (base : Heap) (l b : Addr) (vs : List Value) (ns : List Int) (o : Obj) (news : List (Addr × Obj)) (u : Obj → List (Addr × Obj))
    (hl : base.IsList l vs.toArray) (hi : IntsAre vs ns) (hn : ns.length ≤ 63) (hB : Box l o) (U : UpdF b o news u) :
    CallOk w mean mg mb 2 base 108 [.ref b, .ref 93] news (fun v news' => ∃ x tv o', v = .str x tv ∧ x ∈ pieces ∧ Box l o' ∧ news' = u o') := by
  intro dp un gd cn cs a ccd cl outer A₀ h₀ L m s Q E B F X N T hk hd hu hret
  obtain ⟨rest, hr, h1, h2, _⟩ := updF_news U
  refine pick_pieces1 w mean mg mb base l b vs ns o rest hl (by assumption) hn hB hr dp un gd cn cs a ccd cl outer A₀ h₀ L m s Q E B F X (h1 _ _ _ N) T hk hd hu ?_
  rintro v news' h' tk' ⟨x, tv, o', rfl, a1, a3, rfl⟩ F' N'
  exact hret _ _ _ _ ⟨x, tv, o', rfl, a1, a3, rfl⟩ F' (h2 _ _ _ _ N')

set_option maxHeartbeats 4000000 in
theorem pick_markers1 (w : World) (mean : ExcName → Option Value) (mg mb : Str → Option Value) (base : Heap) (l b : Addr) (vs : List Value) (ns : List Int) (o : Obj) (rest : List (Addr × Obj))
    (hl : base.IsList l vs.toArray) (hi : IntsAre vs ns) (hn : ns.length ≤ 63) (hB : Box l o) (hr : ∀ x ∈ rest, x.1 ≠ b) :
    CallOk w mean mg mb 2 base 108 [.ref b, .ref 94] ((b, o) :: rest)
      (fun v news' => ∃ x tv o', v = .str x tv ∧ x ∈ markers ∧ Box l o' ∧ news' = (b, o') :: rest) := by
  unfold CallOk
  k_fill
  intro dp un gd cn cs a ccd cl outer A₀ h₀ L m s Q E B F X N T hk hd hu hret
  refine wpAny_call ?_
  k_dflt (refine' code_def (binds := [(Str.ofString "box", Value.ref b), (Str.ofString "rows", Value.ref 94)]) ?k1 ?k2 ?k3 ?k4 ?k5 ?kA ?kF ?kK ?k6 ?k7 ?k8 ?k9 ?kB ?_ ?c2 ?c3 ?c4 ?c5; (case kA => exact rfl); (case kF => exact rfl); (case kK => assumption); (case k1 => k_asm); (case k2 => k_asm); (case k3 => k_asm); (case k4 => k_asm); (case k5 => k_asm); (case k6 => k_is); (case k7 => k_is); (case k8 => ktr_room); (case k9 => exact BindsTo.of_eq rfl); (case c5 => decide); (case kB => exact locs rfl); (case c2 => exact rfl); (case c3 => exact rfl); (case c4 => exact rfl); k_whole; intro g' L' h' FG' F' N' B' X' T'; (try dsimp only); (try k_lift B'); (try k_fold))
  k_steps
  k_dflt refine call_use (by k_asm) (by k_asm) (by k_asm) (by k_asm) (by k_asm) (by first | exact rfl | assumption) (draw_ok w mean mg mb base l b vs ns 13 _ o _ _ hl (by assumption) hn hB (by decide) (by k_updF)) (by ktr_room) (by ktr_units) ?_
  rintro v news' h1 tk1 ⟨x, tv, o', rfl, hx0, hx1, hB', rfl⟩ F1 N1
  dsimp only
  k_steps
  refine hret _ _ _ _ ⟨_, _, _, rfl, ?_, hB', rfl⟩ (by assumption) (by assumption)
  exact getD_mem (l := markers) (by show x.toNat < 13; omega)
theorem pick_markers (w : World) (mean : ExcName → Option Value) (mg mb : Str → Option Value) (base : Heap) (l b : Addr) (vs : List Value) (ns : List Int) (o : Obj) (news : List (Addr × Obj)) (u : Obj → List (Addr × Obj))
    (hl : base.IsList l vs.toArray) (hi : IntsAre vs ns) (hn : ns.length ≤ 63) (hB : Box l o) (U : UpdF b o news u) :
    CallOk w mean mg mb 2 base 108 [.ref b, .ref 94] news (fun v news' => ∃ x tv o', v = .str x tv ∧ x ∈ markers ∧ Box l o' ∧ news' = u o') := by
  intro dp un gd cn cs a ccd cl outer A₀ h₀ L m s Q E B F X N T hk hd hu hret
  obtain ⟨rest, hr, h1, h2, _⟩ := updF_news U
  refine pick_markers1 w mean mg mb base l b vs ns o rest hl (by assumption) hn hB hr dp un gd cn cs a ccd cl outer A₀ h₀ L m s Q E B F X (h1 _ _ _ N) T hk hd hu ?_
  rintro v news' h' tk' ⟨x, tv, o', rfl, a1, a3, rfl⟩ F' N'
  exact hret _ _ _ _ ⟨x, tv, o', rfl, a1, a3, rfl⟩ F' (h2 _ _ _ _ N')
end Mine
namespace Mine
set_option maxRecDepth 100000
local macro_rules | `(tactic| k_all) => `(tactic| assumption)

def Good (n : Nat) (x : Str) : Prop := x.length ≤ n ∧ ∀ c ∈ x.cps.toList, c ∈ signs

theorem Good.len {n : Nat} {x : Str} (g : Good n x) : x.length ≤ n := g.1
theorem good_mono {n k : Nat} {x : Str} (h : n ≤ k) (g : Good n x) : Good k x := ⟨Nat.le_trans g.1 h, g.2⟩
theorem good_append {n k : Nat} {x y : Str} (g : Good n x) (h : Good k y) : Good (n + k) (x ++ y) := by
  refine ⟨by rw [Str.length_append]; have := g.1; have := h.1; omega, fun c hc => ?_⟩
  rw [Str.cps_append, Array.toList_append] at hc
  exact (List.mem_append.mp hc).elim (g.2 c) (h.2 c)
theorem pieces_good : ∀ y ∈ pieces, Good 4 y := by
  intro y hy
  have h : pieces.all (fun y => decide (y.length ≤ 4) && y.cps.toList.all fun c => signs.contains c) = true := by decide +kernel
  have := List.all_eq_true.mp h y hy
  simp only [Bool.and_eq_true, decide_eq_true_eq, List.all_eq_true, List.contains_iff_mem] at this
  exact this
theorem good_empty : Good 0 (Str.ofString "") := ⟨by decide +kernel, by decide +kernel⟩
set_option maxHeartbeats 4000000 in
theorem text_ok1 (w : World) (mean : ExcName → Option Value) (mg mb : Str → Option Value) (base : Heap) (l b : Addr) (vs : List Value) (ns : List Int) (o : Obj) (rest : List (Addr × Obj))
    (hl : base.IsList l vs.toArray) (hi : IntsAre vs ns) (hn : ns.length ≤ 63) (hB : Box l o) (hr : ∀ x ∈ rest, x.1 ≠ b) :
    CallOk w mean mg mb 3 base 129 [.ref b] ((b, o) :: rest)
      (fun v news' => ∃ x tv o', v = .str x tv ∧ Good 96 x ∧ Box l o' ∧ news' = (b, o') :: rest) := by
  unfold CallOk
  k_fill
  intro dp un gd cn cs a ccd cl outer A₀ h₀ L m s Q E B F X N T hk hd hu hret
  refine wpAny_call ?_
  k_dflt (refine' code_def (binds := [(Str.ofString "box", Value.ref b)]) ?k1 ?k2 ?k3 ?k4 ?k5 ?kA ?kF ?kK ?k6 ?k7 ?k8 ?k9 ?kB ?_ ?c2 ?c3 ?c4 ?c5; (case kA => exact rfl); (case kF => exact rfl); (case kK => assumption); (case k1 => k_asm); (case k2 => k_asm); (case k3 => k_asm); (case k4 => k_asm); (case k5 => k_asm); (case k6 => k_is); (case k7 => k_is); (case k8 => ktr_room); (case k9 => exact BindsTo.of_eq rfl); (case c5 => decide); (case kB => exact locs rfl); (case c2 => exact rfl); (case c3 => exact rfl); (case c4 => exact rfl); k_whole; intro g' L' h' FG' F' N' B' X' T'; (try dsimp only); (try k_lift B'); (try k_fold))
  k_steps
  k_dflt refine call_use (by k_asm) (by k_asm) (by k_asm) (by k_asm) (by k_asm) (by first | exact rfl | assumption) (draw_ok w mean mg mb base l b vs ns 21 _ o _ _ hl (by assumption) hn hB (by decide) (by k_updF)) (by ktr_room) (by ktr_units) ?_
  rintro v news' h1 tk1 ⟨x, tv, o1, rfl, hx0, hx1, hB', rfl⟩ F1 N1
  dsimp only
  k_with "pyIter ref" => refine Hold.out ?_
  k_steps
  k_with_none
  unfold Hold
  (rename Fr _ _ _ _ => lF'); (rename News _ _ _ _ => lN'); (rename IsRange _ _ _ _ _ _ _ _ => rgX)
  with_unfolding_all refine' kst_range (σ := Obj × Str × Tok) (fun c => (b, c.1) :: rest) (fun c => [(Str.ofString "text", Value.str c.2.1 c.2.2)]) (fun _ => True) [] (fun pre c => Box l c.1 ∧ Good (4 * pre.length) c.2.1) (o1, Str.ofString "", tk) (by rfl) rgX (small_one (by omega) (by omega) (by omega) (by omega)) (rangeSize_nat _ _) lF' lN' trivial ?kk ?kp ?turn ?done
  case kk =>
    intro p hp
    rw [List.mem_singleton.mp hp]
    rfl
  case kp => exact ⟨hB', good_empty⟩
  case turn =>
    rintro ⟨o2, x2, t2⟩ pre k t u h2 tk2 own hk1 hk2 hoff hf ⟨hB2, hG2⟩ F2 N2
    dsimp only [kstB, List.cons_append] at F2 N2 ⊢
    k_fold
    have hro : ∀ p ∈ rest ++ own, p.1 ≠ b := fun p hp => (List.mem_append.mp hp).elim (hr p) fun hp => hoff p hp b (.head _)
    k_steps
    k_dflt refine call_use (by k_asm) (by k_asm) (by k_asm) (by k_asm) (by k_asm) (by first | exact rfl | assumption) (pick_pieces w mean mg mb base l b vs ns o2 _ _ hl (by assumption) hn hB2 (by k_updF)) (by ktr_room) (by ktr_units) ?_
    rintro v news' h3 tk3 ⟨y, tv, o3, rfl, hy, hB3, rfl⟩ F3 N3
    dsimp only at N3 ⊢
    have hyG := pieces_good y hy
    refine SBL.add (fun t' k' hle => ?_) (by rw [sizeLine_eq]; have := hyG.1; have h9 : x2.length ≤ 4 * pre.length := hG2.1; omega)
    k_steps
    refine InvEndN.intro (by assumption) (by assumption) (nx := (b, o3) :: rest) ⟨(o3, x2 ++ y, t'), rfl, trivial, ?_, ?_, hB3, ?_⟩ rfl ?_ ?_
    · intro p hp
      rw [List.mem_singleton.mp hp]
      try rfl
    · intro z h1 h2 _
      have h3 : z ≠ Str.ofString "text" := h2 _ (.head _)
      simp [h1, h3]
    · rw [List.length_append, Nat.mul_add]
      exact good_append hG2 hyG
    · intro p hp
      rcases List.mem_cons.mp hp with rfl | hp
      · exact .head _
      · exact .tail _ (List.mem_append.mpr (.inl hp))
    · intro p hp
      exact .tail _ (List.mem_append.mpr (.inr hp))
  case done =>
    rintro ⟨o2, x2, t2⟩ u h2 tk2 hf ⟨hB2, hG2⟩ F2 N2
    dsimp only [kstB] at F2 N2 ⊢
    k_steps
    refine hret _ _ _ _ ⟨_, _, _, rfl, good_mono (by rw [rangeKs_length]; omega) hG2, hB2, rfl⟩ (by assumption) (by assumption)
theorem text_ok (w : World) (mean : ExcName → Option Value) (mg mb : Str → Option Value) (base : Heap) (l b : Addr) (vs : List Value) (ns : List Int) (o : Obj) (news : List (Addr × Obj)) (u : Obj → List (Addr × Obj))
    (hl : base.IsList l vs.toArray) (hi : IntsAre vs ns) (hn : ns.length ≤ 63) (hB : Box l o) (U : UpdF b o news u) :
    CallOk w mean mg mb 3 base 129 [.ref b] news (fun v news' => ∃ x tv o', v = .str x tv ∧ Good 96 x ∧ Box l o' ∧ news' = u o') := by
  intro dp un gd cn cs a ccd cl outer A₀ h₀ L m s Q E B F X N T hk hd hu hret
  obtain ⟨rest, hr, h1, h2, _⟩ := updF_news U
  refine text_ok1 w mean mg mb base l b vs ns o rest hl (by assumption) hn hB hr dp un gd cn cs a ccd cl outer A₀ h₀ L m s Q E B F X (h1 _ _ _ N) T hk hd hu ?_
  rintro v news' h' tk' ⟨x, tv, o', rfl, a1, a3, rfl⟩ F' N'
  exact hret _ _ _ _ ⟨x, tv, o', rfl, a1, a3, rfl⟩ F' (h2 _ _ _ _ N')
end Mine
namespace Mine
set_option maxRecDepth 100000
local macro_rules | `(tactic| k_all) => `(tactic| assumption)

set_option maxHeartbeats 4000000 in
theorem quest_ok1 (w : World) (mean : ExcName → Option Value) (mg mb : Str → Option Value) (base : Heap) (l b : Addr) (vs : List Value) (ns : List Int) (x : Str) (tx : Tok) (o : Obj) (rest : List (Addr × Obj))
    (hl : base.IsList l vs.toArray) (hi : IntsAre vs ns) (hn : ns.length ≤ 63) (hB : Box l o) (hx : x.length ≤ 96) (hr : ∀ x ∈ rest, x.1 ≠ b) :
    CallOk w mean mg mb 3 base 136 [.ref b, .ref l, .str x tx] ((b, o) :: rest)
      (fun v news' => ∃ t mk tm pl tp fl o', v = .ref t ∧ mk ∈ markers ∧ Box l o' ∧ (∀ p ∈ (b, o') :: rest, p.1 < t) ∧ news' = (t, { cls := .type "tuple", data := .seq #[.str mk tm, .int pl tp, .bool fl] }) :: (b, o') :: rest) := by
  unfold CallOk
  k_fill
  intro dp un gd cn cs a ccd cl outer A₀ h₀ L m s Q E B F X N T hk hd hu hret
  refine wpAny_call ?_
  k_dflt (refine' code_def (binds := [(Str.ofString "box", Value.ref b), (Str.ofString "script", Value.ref l), (Str.ofString "text", Value.str x tx)]) ?k1 ?k2 ?k3 ?k4 ?k5 ?kA ?kF ?kK ?k6 ?k7 ?k8 ?k9 ?kB ?_ ?c2 ?c3 ?c4 ?c5; (case kA => exact rfl); (case kF => exact rfl); (case kK => assumption); (case k1 => k_asm); (case k2 => k_asm); (case k3 => k_asm); (case k4 => k_asm); (case k5 => k_asm); (case k6 => k_is); (case k7 => k_is); (case k8 => ktr_room); (case k9 => exact BindsTo.of_eq rfl); (case c5 => decide); (case kB => exact locs rfl); (case c2 => exact rfl); (case c3 => exact rfl); (case c4 => exact rfl); k_whole; intro g' L' h' FG' F' N' B' X' T'; (try dsimp only); (try k_lift B'); (try k_fold))
  k_steps
  k_dflt refine call_use (by k_asm) (by k_asm) (by k_asm) (by k_asm) (by k_asm) (by first | exact rfl | assumption) (pick_markers w mean mg mb base l b vs ns o _ _ hl (by assumption) hn hB (by k_updF)) (by ktr_room) (by ktr_units) ?_
  rintro v news' h1 tk1 ⟨mk, tm, o1, rfl, hmk, hB1, rfl⟩ F1 N1
  dsimp only at N1 ⊢
  k_with "call ref" => ((k_dflt refine call_use (by k_asm) (by k_asm) (by k_asm) (by k_asm) (by k_asm) (by first | exact rfl | assumption) (draw_ok w mean mg mb base l b vs ns _ _ _ _ _ hl (by assumption) hn (by assumption) (by first | decide | omega) (by k_updF)) (by ktr_room) (by ktr_units) ?_); (rintro v9 news9 h9 tk9 ⟨x9, t9, o9, rfl, hlo9, hhi9, hB9, rfl⟩ F9 N9); dsimp only at N9 ⊢)
  k_steps
  k_with_none
  all_goals
    rename _ ∧ AllLt _ _ => hlt9
    refine hret _ _ _ _ ⟨_, _, _, _, _, _, _, rfl, hmk, by assumption, ?_, rfl⟩ (by assumption) (by assumption)
    exact tb_ltOf hlt9
theorem quest_ok (w : World) (mean : ExcName → Option Value) (mg mb : Str → Option Value) (base : Heap) (l b : Addr) (vs : List Value) (ns : List Int) (x : Str) (tx : Tok) (o : Obj) (news : List (Addr × Obj)) (u : Obj → List (Addr × Obj))
    (hl : base.IsList l vs.toArray) (hi : IntsAre vs ns) (hn : ns.length ≤ 63) (hB : Box l o) (hx : x.length ≤ 96) (U : UpdF b o news u) :
    CallOk w mean mg mb 3 base 136 [.ref b, .ref l, .str x tx] news
      (fun v news' => ∃ t mk tm pl tp fl o', v = .ref t ∧ mk ∈ markers ∧ Box l o' ∧ (∀ p ∈ u o', p.1 < t) ∧ news' = (t, { cls := .type "tuple", data := .seq #[.str mk tm, .int pl tp, .bool fl] }) :: u o') := by
  intro dp un gd cn cs a ccd cl outer A₀ h₀ L m s Q E B F X N T hk hd hu hret
  obtain ⟨rest, hr, h1, h2, h5⟩ := updF_news U
  refine quest_ok1 w mean mg mb base l b vs ns x tx o rest hl (by assumption) hn hB hx hr dp un gd cn cs a ccd cl outer A₀ h₀ L m s Q E B F X (h1 _ _ _ N) T hk hd hu ?_
  rintro v news' h' tk' ⟨t, mk, tm, pl, tp, fl, o', rfl, a1, a2, a3, rfl⟩ F' N'
  refine hret _ _ _ _ ⟨t, mk, tm, pl, tp, fl, o', rfl, a1, a2, fun p hp => a3 p (h5 _ p hp), rfl⟩ F' ?_
  intro p hp
  rcases List.mem_cons.mp hp with rfl | hp
  · exact N' _ (.head _)
  · exact N' _ (.tail _ (h5 _ p hp))
end Mine
namespace Mine
set_option maxRecDepth 100000
local macro_rules | `(tactic| k_all) => `(tactic| assumption)

set_option maxHeartbeats 4000000 in
theorem lcloses_ok (w : World) (mean : ExcName → Option Value) (mg mb : Str → Option Value) (base : Heap) (x mk : Str) (tx tp tm : Tok) (p : Nat) (news : List (Addr × Obj))
    (hx : x.length ≤ 96) (hm0 : 1 ≤ mk.length) (hm1 : mk.length ≤ 3) (hp : p + mk.length ≤ x.length) :
    CallOk w mean mg mb 1 base 115 [.str x tx, .int p tp, .str mk tm] news
      (fun v news' => v = .bool (shuts (nums x) (nums mk) p) ∧ news' = news) := by
  unfold CallOk
  k_fill
  intro dp un gd cn cs a ccd cl outer A₀ h₀ L m s Q E B F X N T hk hd hu hret
  refine wpAny_call ?_
  k_dflt (refine' code_def (binds := [(Str.ofString "text", Value.str x tx), (Str.ofString "place", Value.int p tp), (Str.ofString "marker", Value.str mk tm)]) ?k1 ?k2 ?k3 ?k4 ?k5 ?kA ?kF ?kK ?k6 ?k7 ?k8 ?k9 ?kB ?_ ?c2 ?c3 ?c4 ?c5; (case kA => exact rfl); (case kF => exact rfl); (case kK => assumption); (case k1 => k_asm); (case k2 => k_asm); (case k3 => k_asm); (case k4 => k_asm); (case k5 => k_asm); (case k6 => k_is); (case k7 => k_is); (case k8 => ktr_room); (case k9 => exact BindsTo.of_eq rfl); (case c5 => decide); (case kB => exact locs rfl); (case c2 => exact rfl); (case c3 => exact rfl); (case c4 => exact rfl); k_whole; intro g' L' h' FG' F' N' B' X' T'; (try dsimp only); (try k_lift B'); (try k_fold))
  k_with "exec While BoolOp cons nil" => refine Hold.out ?_
  k_steps
  k_with_none
  · refine hret _ _ _ _ ⟨congrArg Value.bool (shuts_start ?_).symm, rfl⟩ (by assumption) (by assumption)
    omega
  · rename (Txt.startswith3 _ _ _ = true) => f2
    rename ((Txt.item _ _ != Txt.item _ _) = true) => f3
    obtain ⟨c, h1, h2, h3⟩ := before_ne hm0 (by omega) (by omega) f3
    refine hret _ _ _ _ ⟨congrArg Value.bool ?_, rfl⟩ (by assumption) (by assumption)
    rw [shuts_other (not_bars_s hm0 f2) (by omega) h1 h2, h3, in_blanks, Bool.not_not]
  rotate_left
  · rename (Txt.startswith3 _ _ _ = false) => f2
    rename ((Txt.slice _ _ _ == Txt.item _ _) = true) => f1
    exact hret _ _ _ _ ⟨congrArg Value.bool (shuts_bar (bars_of hm0 hp f1 f2)).symm, rfl⟩ (by assumption) (by assumption)
  · refine hret _ _ _ _ ⟨congrArg Value.bool (shuts_start ?_).symm, rfl⟩ (by assumption) (by assumption)
    omega
  · rename ((Txt.slice _ _ _ == Txt.item _ _) = false) => f1
    rename ((Txt.item _ _ != Txt.item _ _) = true) => f3
    obtain ⟨c, h1, h2, h3⟩ := before_ne hm0 (by omega) (by omega) f3
    refine hret _ _ _ _ ⟨congrArg Value.bool ?_, rfl⟩ (by assumption) (by assumption)
    rw [shuts_other (not_bars_a hm0 hp f1) (by omega) h1 h2, h3, in_blanks, Bool.not_not]
  all_goals
    have hp0 : p ≠ 0 := by omega
    have hnb : ¬ Bars (nums x) (nums mk) p := by
      first
        | (rename (Txt.startswith3 _ _ _ = true) => f2; exact not_bars_s hm0 f2)
        | (rename ((Txt.slice _ _ _ == Txt.item _ _) = false) => f1; exact not_bars_a hm0 hp f1)
    have hbe : (nums x)[p - 1]? = some ((nums mk).headD 0) := by
      rename ((Txt.item _ _ != Txt.item _ _) = false) => f3
      exact before_eq hm0 hp0 (by omega) f3
    unfold Hold
    (rename Fr _ _ _ _ => lF'); (rename News _ _ _ _ => lN')
    refine while2 (Str.ofString "count") (Str.ofString "k") (fun c k => -1 ≤ k ∧ k ≤ (p : Int) - 2 ∧ 0 ≤ c ∧ c + (slashes (nums x) (k + 1).toNat : Int) = (slashes (nums x) (p - 1) : Int)) (fun _ k => (k + 1).toNat) lF' lN' (by rfl) (by rfl) ⟨by omega, by omega, by omega, by rw [show ((p : Int) - 2 + 1).toNat = p - 1 by omega]; omega⟩ ?_
    rintro c tc k tk' h1 tk1 ⟨hk0, hk1, hc0, hc⟩ F1 N1
    k_fold
    k_steps
    · rename ((Txt.item _ _ == _) = true) => f5
      rw [slash_eq (by omega) (by omega), decide_eq_true_eq] at f5
      dsimp only [W2Post]
      refine W2End.intro (c + 1) (k - 1) (by assumption) (by assumption) (fun _ h => h) (by rfl) (by rfl) (fun z z1 z2 => by simp [z1, z2]) ⟨by omega, by omega, by omega, ?_⟩ (by omega)
      have e1 : (k + 1).toNat = k.toNat + 1 := by omega
      rw [e1, slashes_step f5] at hc
      rw [show (k - 1 + 1).toNat = k.toNat by omega]
      omega
    · rename ((Txt.item _ _ == _) = false) => f5
      rw [slash_eq (by omega) (by omega), decide_eq_false_iff_not] at f5
      refine hret _ _ _ _ ⟨congrArg Value.bool (shuts_noslash hnb hp0 hbe (c := c) ?_ rfl), rfl⟩ (by assumption) (by assumption)
      have e1 : (k + 1).toNat = k.toNat + 1 := by omega
      rw [e1, slashes_stop f5] at hc
      omega
    · refine hret _ _ _ _ ⟨congrArg Value.bool (shuts_noslash hnb hp0 hbe (c := c) ?_ rfl), rfl⟩ (by assumption) (by assumption)
      have e1 : (k + 1).toNat = 0 := by omega
      rw [e1] at hc
      have : slashes (nums x) 0 = 0 := rfl
      omega
  k_with_none
end Mine
namespace Mine
set_option maxRecDepth 100000
local macro_rules | `(tactic| k_all) => `(tactic| assumption)

set_option maxHeartbeats 4000000 in
theorem closer_ok (w : World) (mean : ExcName → Option Value) (mg mb : Str → Option Value) (base : Heap) (x mk : Str) (tx tp tm : Tok) (p : Nat) (news : List (Addr × Obj))
    (hx : x.length ≤ 96) (hg : ∀ c ∈ nums x, c ∈ signs) (hm0 : 1 ≤ mk.length) (hm1 : mk.length ≤ 3) (hp : p + mk.length ≤ x.length) :
    CallOk w mean mg mb 1 base 92 [.str x tx, .int p tp, .str mk tm] news
      (fun v news' => v = .bool (shuts (nums x) (nums mk) p) ∧ news' = news) := by
  unfold CallOk
  k_fill
  intro dp un gd cn cs a ccd cl outer A₀ h₀ L m s Q E B F X N T hk hd hu hret
  refine wpAny_call ?_
  k_dflt (refine' code_def (binds := [(Str.ofString "src", Value.str x tx), (Str.ofString "start", Value.int p tp), (Str.ofString "marker", Value.str mk tm)]) ?k1 ?k2 ?k3 ?k4 ?k5 ?kA ?kF ?kK ?k6 ?k7 ?k8 ?k9 ?kB ?_ ?c2 ?c3 ?c4 ?c5; (case kA => exact rfl); (case kF => exact rfl); (case kK => assumption); (case k1 => k_asm); (case k2 => k_asm); (case k3 => k_asm); (case k4 => k_asm); (case k5 => k_asm); (case k6 => k_is); (case k7 => k_is); (case k8 => ktr_room); (case k9 => exact BindsTo.of_eq rfl); (case c5 => decide); (case kB => exact locs rfl); (case c2 => exact rfl); (case c3 => exact rfl); (case c4 => exact rfl); k_whole; intro g' L' h' FG' F' N' B' X' T'; (try dsimp only); (try k_lift B'); (try k_fold))
  k_with "exec While BoolOp cons nil" => refine Hold.out ?_
  k_steps
  k_with_none
  all_goals first
    | (rename ((Txt.item _ (_ + _) == Txt.item _ _) = true) => f1
       rename (Txt.startswith3 _ _ _ = false) => f2
       exact hret _ _ _ _ ⟨congrArg Value.bool (shuts_bar (bars_i hm0 (by assumption) f1 f2)).symm, rfl⟩ (by assumption) (by assumption))
    | exact hret _ _ _ _ ⟨congrArg Value.bool (shuts_start (by omega)).symm, rfl⟩ (by assumption) (by assumption)
    | skip
  all_goals
    have hp0 : p ≠ 0 := by omega
    have hnb : ¬ Bars (nums x) (nums mk) p := by
      first
        | exact not_bars_s hm0 (by assumption)
        | exact not_bars_i hm0 (by assumption) (by assumption)
        | exact not_bars_e (by assumption)
  all_goals first
    | (rename ((Txt.item _ _ != Txt.item _ _) = true) => f3
       obtain ⟨c, h1, h2, h3⟩ := before_ne hm0 hp0 (by omega) f3
       refine hret _ _ _ _ ⟨congrArg Value.bool ?_, rfl⟩ (by assumption) (by assumption)
       rw [shuts_other hnb hp0 h1 h2, h3, isspace_before hg h1])
    | skip
  all_goals
    have hbe : (nums x)[p - 1]? = some ((nums mk).headD 0) := before_eq hm0 hp0 (by omega) (by assumption)
  all_goals first
    | exact hret _ _ _ _ ⟨congrArg Value.bool (shuts_none hnb hp0 hbe (noslash (by assumption) (by omega) (by assumption))).symm, rfl⟩ (by assumption) (by assumption)
    | exact hret _ _ _ _ ⟨congrArg Value.bool (shuts_none hnb hp0 hbe (by rw [show p - 1 = 0 by omega]; rfl)).symm, rfl⟩ (by assumption) (by assumption)
    | skip
  all_goals
    unfold Hold
    (rename Fr _ _ _ _ => lF'); (rename News _ _ _ _ => lN')
    refine while2 (Str.ofString "backslashes") (Str.ofString "pos") (fun c k => -1 ≤ k ∧ k ≤ (p : Int) - 2 ∧ 0 ≤ c ∧ c + (slashes (nums x) (k + 1).toNat : Int) = (slashes (nums x) (p - 1) : Int)) (fun _ k => (k + 1).toNat) lF' lN' (by rfl) (by rfl) ⟨by omega, by omega, by omega, by rw [show ((p : Int) - 2 + 1).toNat = p - 1 by omega]; omega⟩ ?_
    rintro c tc k tk' h1 tk1 ⟨hk0, hk1, hc0, hc⟩ F1 N1
    k_fold
    k_steps
    · rename ((Txt.item _ _ == _) = true) => f5
      rw [slash_eq (by omega) (by omega), decide_eq_true_eq] at f5
      dsimp only [W2Post]
      refine W2End.intro (c + 1) (k - 1) (by assumption) (by assumption) (fun _ h => h) (by rfl) (by rfl) (fun z z1 z2 => by simp [z1, z2]) ⟨by omega, by omega, by omega, ?_⟩ (by omega)
      have e1 : (k + 1).toNat = k.toNat + 1 := by omega
      rw [e1, slashes_step f5] at hc
      rw [show (k - 1 + 1).toNat = k.toNat by omega]
      omega
    · rename ((Txt.item _ _ == _) = false) => f5
      rw [slash_eq (by omega) (by omega), decide_eq_false_iff_not] at f5
      refine hret _ _ _ _ ⟨congrArg Value.bool (shuts_noslash hnb hp0 hbe (c := c) ?_ rfl), rfl⟩ (by assumption) (by assumption)
      have e1 : (k + 1).toNat = k.toNat + 1 := by omega
      rw [e1, slashes_stop f5] at hc
      omega
    · refine hret _ _ _ _ ⟨congrArg Value.bool (shuts_noslash hnb hp0 hbe (c := c) ?_ rfl), rfl⟩ (by assumption) (by assumption)
      have e1 : (k + 1).toNat = 0 := by omega
      rw [e1] at hc
      have : slashes (nums x) 0 = 0 := rfl
      omega
  k_with_none
end Mine
namespace Mine
set_option maxRecDepth 100000
local macro_rules | `(tactic| k_all) => `(tactic| assumption)

/-- the place k counts -/
def okAt (xs ms : List Nat) (f : Bool) (k : Nat) : Bool := hits xs ms k && (!f || shuts xs ms k)
/-- the first place from k on that counts, as a value -/
def Due (g : Nat → Bool) (k : Nat) (v : Value) : Prop :=
  (∃ (j : Nat) (t : Tok), v = .int (j : Int) t ∧ k ≤ j ∧ g j = true ∧ ∀ i, k ≤ i → i < j → g i = false) ∨ (v = .none ∧ ∀ i, k ≤ i → g i = false)
theorem starts_nat {x mk : Str} {n : Nat} (hm : 1 ≤ mk.length) : Txt.startswith3 x mk (n : Int) = hits (nums x) (nums mk) n := starts3_eq hm
theorem okAt_t {xs ms : List Nat} {n : Nat} : okAt xs ms true n = (hits xs ms n && shuts xs ms n) := rfl
theorem okAt_f {xs ms : List Nat} {n : Nat} : okAt xs ms false n = hits xs ms n := by simp [okAt]
theorem upto {g : Nat → Bool} {K n : Nat} (h : ∀ i : Nat, K ≤ i → (i : Int) < (n : Int) → g i = false) (hn : g n = false) : ∀ i : Nat, K ≤ i → (i : Int) < (n : Int) + 1 → g i = false := by
  intro i h1 h2
  by_cases e : i = n
  · rw [e]; exact hn
  · exact h i h1 (by omega)
theorem okAt_end {xs ms : List Nat} {f : Bool} {n : Nat} (hm : 1 ≤ ms.length) (h : ¬ n + ms.length ≤ xs.length) : okAt xs ms f n = false := by
  cases hh : hits xs ms n with
  | false => simp [okAt, hh]
  | true => exact absurd (hits_len hm hh) h

set_option maxHeartbeats 4000000 in
theorem due_ok (w : World) (mean : ExcName → Option Value) (mg mb : Str → Option Value) (base : Heap) (x mk : Str) (tx tp tm : Tok) (p : Int) (f : Bool) (news : List (Addr × Obj))
    (hx : x.length ≤ 96) (hm0 : 1 ≤ mk.length) (hm1 : mk.length ≤ 3) :
    CallOk w mean mg mb 2 base 122 [.str x tx, .str mk tm, .int p tp, .bool f] news
      (fun v news' => Due (okAt (nums x) (nums mk) f) (if f = true then p + 1 else p).toNat v ∧ news' = news) := by
  unfold CallOk
  k_fill
  intro dp un gd cn cs a ccd cl outer A₀ h₀ L m s Q E B F X N T hk hd hu hret
  refine wpAny_call ?_
  k_dflt (refine' code_def (binds := [(Str.ofString "text", Value.str x tx), (Str.ofString "marker", Value.str mk tm), (Str.ofString "place", Value.int p tp), (Str.ofString "formatting", Value.bool f)]) ?k1 ?k2 ?k3 ?k4 ?k5 ?kA ?kF ?kK ?k6 ?k7 ?k8 ?k9 ?kB ?_ ?c2 ?c3 ?c4 ?c5; (case kA => exact rfl); (case kF => exact rfl); (case kK => assumption); (case k1 => k_asm); (case k2 => k_asm); (case k3 => k_asm); (case k4 => k_asm); (case k5 => k_asm); (case k6 => k_is); (case k7 => k_is); (case k8 => ktr_room); (case k9 => exact BindsTo.of_eq rfl); (case c5 => decide); (case kB => exact locs rfl); (case c2 => exact rfl); (case c3 => exact rfl); (case c4 => exact rfl); k_whole; intro g' L' h' FG' F' N' B' X' T'; (try dsimp only); (try k_lift B'); (try k_fold))
  obtain ⟨K, hK⟩ : ∃ K, K = (if f = true then p + 1 else p).toNat := ⟨_, rfl⟩
  obtain ⟨g, hg⟩ : ∃ g, g = okAt (nums x) (nums mk) f := ⟨_, rfl⟩
  rw [← hK, ← hg] at hret
  have hend : ∀ n : Nat, ¬ (n : Int) + (mk.length : Int) ≤ (x.length : Int) → g n = false := fun n h => by
    rw [hg]
    exact okAt_end (by rw [nums_length]; exact hm0) (by rw [nums_length, nums_length]; omega)
  cases f
  all_goals
    simp only [Bool.false_eq_true, if_true, if_false] at hK
    k_with "exec While Compare cons nil" => refine Hold.out ?_
    k_steps
    k_with_none
  all_goals
    unfold Hold
    (rename Fr _ _ _ _ => lF'); (rename News _ _ _ _ => lN')
    refine while1 (Str.ofString "k") (fun k => (K : Int) ≤ k ∧ ∀ i : Nat, K ≤ i → (i : Int) < k → g i = false) (fun k => (x.length - k).toNat) lF' lN' (by rfl) ⟨by omega, fun i h1 h2 => by omega⟩ ?_
    rintro k tk' h1 tk1 ⟨hk0, hk1⟩ F1 N1
    obtain ⟨n, rfl⟩ := Int.eq_ofNat_of_zero_le (show 0 ≤ k by omega)
    k_fold
    k_with "call ref" => ((k_dflt refine call_use (by k_asm) (by k_asm) (by k_asm) (by k_asm) (by k_asm) (by first | exact rfl | assumption) (lcloses_ok w mean mg mb base x mk _ _ _ n _ hx hm0 hm1 (by omega)) (by ktr_room) (by ktr_units) ?_); (rintro v9 news9 h9 tk9 ⟨rfl, hnews⟩ F9 N9); (subst hnews); dsimp only at N9 ⊢)
    k_steps
    k_with_none
  all_goals first
    | (dsimp only [W1Post]
       refine W1End.intro ((n : Int) + 1) (by assumption) (by assumption) (fun _ h => h) (by rfl) (fun z z1 => by simp [z1]) ⟨by omega, upto hk1 ?_⟩ (by omega)
       (try simp only [starts_nat hm0] at *)
       rw [hg]
       first | rw [okAt_t] | rw [okAt_f]
       simp only [*, Bool.and_false, Bool.false_and])
    | (refine hret _ _ _ _ ⟨.inr ⟨rfl, fun i hi => ?_⟩, rfl⟩ (by assumption) (by assumption)
       by_cases hin : (i : Int) < (n : Int)
       · exact hk1 i hi hin
       · exact hend i (by omega))
    | (dsimp only
       dsimp only [W1Post]
       k_steps
       refine hret _ _ _ _ ⟨.inl ⟨n, _, rfl, by omega, ?_, fun i h1 h2 => hk1 i h1 (by omega)⟩, rfl⟩ (by assumption) (by assumption)
       (try simp only [starts_nat hm0] at *)
       rw [hg]
       first | rw [okAt_t] | rw [okAt_f]
       simp only [*, Bool.and_self])
end Mine
namespace Mine
set_option maxRecDepth 100000

def mixIs : Str ⊕ Bool → Value → Bool
  | .inl x, v => Value.isStrOf x v
  | .inr b, .bool c => c == b
  | .inr _, _ => false
theorem mixIs_r {b : Bool} {v : Value} (h : mixIs (.inr b) v = true) : v = .bool b := by
  cases v <;> simp_all [mixIs]
theorem mixIs_l {x : Str} {v : Value} (h : mixIs (.inl x) v = true) : ∃ t, v = .str x t := Value.isStrOf_shape h
def mixHash (w : World) : Str ⊕ Bool → Int
  | .inl x => hashStr w x
  | .inr b => if b then 1 else 0

section
variable {prog : Program} {w : World} {A : Around} {E : Value → Shared → Prop} {s : Shared}
theorem pyHash_bool {b : Bool} {Q : Int → Shared → Prop} (h : Q (if b then 1 else 0) { s with toks := s.toks + 1 }) : wpAny (model prog w) A (pyHash (.bool b)) Q E s := by
  refine pyHash_slot (T := "bool") rfl F.slot_bool_hash entry_int_hash (args_int_hash _) (beq_builtin_none _) (.inl rfl) ?_
  cases b
  · exact (show wpAny _ _ (do ret (← mkInt 0)) _ _ s from wpAny_bind (wpAny_mkInt (wpAny_pure ⟨_, _, rfl, h⟩)))
  · exact (show wpAny _ _ (do ret (← mkInt 1)) _ _ s from wpAny_bind (wpAny_mkInt (wpAny_pure ⟨_, _, rfl, h⟩)))
theorem eqBool_str_bool {x : Str} {t : Tok} {b : Bool} {Q : Bool → Shared → Prop} (h : Q false s) : wpAny (model prog w) A (eqBool (.str x t) (.bool b)) Q E s := by
  unfold eqBool
  refine wpAny_holding ?_
  show wpAny _ _ (if (Value.str x t == Value.bool b) = true then _ else _) Q E s
  rw [if_neg (by intro e; cases eq_of_beq e)]
  exact wpAny_bind (EqMixed.eq_str_bool (wpAny_truthy_bool h))
theorem eqBool_bool_str {x : Str} {t : Tok} {b : Bool} {Q : Bool → Shared → Prop} (h : Q false s) : wpAny (model prog w) A (eqBool (.bool b) (.str x t)) Q E s := by
  unfold eqBool
  refine wpAny_holding ?_
  show wpAny _ _ (if (Value.bool b == Value.str x t) = true then _ else _) Q E s
  rw [if_neg (by intro e; cases eq_of_beq e)]
  exact wpAny_bind (EqMixed.eq_bool_str (wpAny_truthy_bool h))
theorem eqBool_bool {b c : Bool} {Q : Bool → Shared → Prop} (h : Q (decide (b = c)) s) : wpAny (model prog w) A (eqBool (.bool b) (.bool c)) Q E s := by
  unfold eqBool
  refine wpAny_holding ?_
  show wpAny _ _ (if (Value.bool b == Value.bool c) = true then _ else _) Q E s
  by_cases hbc : b = c
  · subst hbc
    rw [if_pos (beq_self_eq_true _)]
    exact wpAny_bind (wpAny_rule (wpAny_pure (by simpa using h)))
  · rw [if_neg (by intro e; have := eq_of_beq e; injection this with e2; exact hbc e2)]
    refine wpAny_bind (eq_bool (wpAny_truthy_bool ?_))
    rw [show (b == c) = decide (b = c) by cases b <;> cases c <;> rfl]
    exact h
end
def mixKind (prog : Program) (w : World) : KeyKind prog w (Str ⊕ Bool) where
  is := mixIs
  hash := mixHash w
  inj := by
    intro v a b ha hb
    cases a with
    | inl x =>
      obtain ⟨t, rfl⟩ := mixIs_l ha
      cases b with
      | inl y => rw [Value.isStrOf_inj (.str x t) x y ha hb]
      | inr c => cases mixIs_r hb
    | inr c =>
      have := mixIs_r ha
      subst this
      cases b with
      | inl y => obtain ⟨t, h⟩ := mixIs_l hb; cases h
      | inr d => have := mixIs_r hb; injection this with e; rw [e]
  byValue := by
    intro k v h
    cases k with
    | inl x => obtain ⟨t, rfl⟩ := mixIs_l h; rfl
    | inr c => rw [mixIs_r h]; rfl
  pyHash := by
    intro A E s k v Q h hq
    cases k with
    | inl x => obtain ⟨t, rfl⟩ := mixIs_l h; exact wpAny_pyHash_str hq
    | inr c => have := mixIs_r h; subst this; exact pyHash_bool hq
  eqBool := by
    intro A E s a b u v Q ha hb hq
    cases a with
    | inl x =>
      obtain ⟨t, rfl⟩ := mixIs_l ha
      cases b with
      | inl y => obtain ⟨t', rfl⟩ := mixIs_l hb; exact wpAny_eqBool_str (by simpa using hq)
      | inr c => have := mixIs_r hb; subst this; exact eqBool_str_bool (by simpa using hq)
    | inr c =>
      have := mixIs_r ha
      subst this
      cases b with
      | inl y => obtain ⟨t', rfl⟩ := mixIs_l hb; exact eqBool_bool_str (by simpa using hq)
      | inr d => have := mixIs_r hb; subst this; exact eqBool_bool (by simpa using hq)
  «strs» := by
    intro k x t v h
    cases k with
    | inl y =>
      obtain ⟨u, hu⟩ := mixIs_l h
      injection hu with e
      subst e
      cases v <;> rfl
    | inr c => cases mixIs_r h
end Mine
namespace Mine
set_option maxRecDepth 100000
/-- as CallOk, the call with keywords -/
abbrev CallKw (w : World) (mean : ExcName → Option Value) (mg mb : Str → Option Value) (k : Nat) (base : Heap) (f : Addr) (args : List Value) (kw : List (Str × Value)) (news : List (Addr × Obj)) (Res : Value → List (Addr × Obj) → Prop) : Prop :=
  ∀ (dp un : Nat) (gd : Option (List Code)) (cn : Str) (cs : Scope) (a : Addr) (ccd : Value) (cl : List (Str × Addr)) (outer : List Env) (A₀ : Around) (h₀ : Heap) (L : Addr) (m : Str → Option Value) (s : Shared) (Q E : Value → Shared → Prop),
    Below A₀ base outer h₀ → Fr h₀ L s.heap m → (hd.heap_39 w.params).In h₀ → News h₀ L s.heap news →
    Top hd.view_39 (looseW hd.view_39 [Str.ofString "DelimiterScanner", Str.ofString "_law_pieces", Str.ofString "_law_markers"]) mean mg mb h₀ → cs.kind = .function →
    dp + k < recursionLimit → un + 8 * k < cLine →
    (∀ v news' h' tk', Res v news' → Fr h₀ L h' m → News h₀ L h' news' → Q v { s with heap := h', toks := tk' }) →
    wpAny (model PySem.Challenge.rw_br5018_01.row.prog w) (ktrTop dp un gd cn cs L a ccd cl outer) (call (.ref f) args kw) Q E s

/-- a scanner's own dict -/
def scanDict (w : World) (x : Str) (tx t1 t2 t3 : Tok) (e : Addr) : Obj :=
  dictOf [⟨PyData.keyHash w.params (Str.ofString "src"), .str (Str.ofString "src") t1, .str x tx⟩, ⟨PyData.keyHash w.params (Str.ofString "_code"), .str (Str.ofString "_code") t2, .none⟩, ⟨PyData.keyHash w.params (Str.ofString "_ends"), .str (Str.ofString "_ends") t3, .ref e⟩] 3
end Mine
namespace Mine
set_option maxRecDepth 100000

abbrev mixK (w : World) : KeyKind PySem.Challenge.rw_br5018_01.row.prog w (Str ⊕ Bool) := mixKind PySem.Challenge.rw_br5018_01.row.prog w
/-- the places below n that count -/
def places (g : Nat → Bool) (n : Nat) : List Int := ((List.range n).filter g).map Int.ofNat
def keyOf (mk : Str) (f : Bool) : List (Str ⊕ Bool) := [.inl mk, .inr f]
abbrev tupOf (mk : Str) (tm : Tok) (f : Bool) : Obj := { cls := .type "tuple", data := .seq #[.str mk tm, .bool f] }
/-- the scanner's table: what it was asked, and the places -/
structure Tab (w : World) (x : Str) (rest : List (Addr × Obj)) (o : Obj) (xs : List (List (Str ⊕ Bool) × Addr × Value)) : Prop where
  exact : o.ExactDict
  data : ∃ es ep, o.data = .dict es ep ∧ es.toList = xs.map (entryOfKey (tupleKind (mixK w)))
  nodup : (xs.map (·.1)).Nodup
  keys : ∀ y ∈ xs, ∃ ok, (y.2.1, ok) ∈ rest ∧ TupKeyObj (mixK w) y.1 ok
  vals : ∀ y ∈ xs, ∃ mk f P vs c, mk ∈ markers ∧ y.1 = keyOf mk f ∧ y.2.2 = .ref P ∧ (P, listOf vs.toArray c) ∈ rest ∧ IntsAre vs (places (okAt (nums x) (nums mk) f) x.length)

theorem tup_key {w : World} {mk : Str} {tm : Tok} {f : Bool} : TupKeyObj (mixK w) (keyOf mk f) (tupOf mk tm f) :=
  TupKeyObj.made (vs := [.str mk tm, .bool f]) (.cons (by show Value.isStrOf mk (.str mk tm) = true; simp [Value.isStrOf]) (.cons (by show (f == f) = true; simp) .nil))

theorem nodup_le {α : Type} [DecidableEq α] : ∀ (l k : List α), l.Nodup → (∀ a ∈ l, a ∈ k) → l.length ≤ k.length
  | [], _, _, _ => Nat.zero_le _
  | a :: l, k, hn, hs => by
    have ha : a ∈ k := hs a (.head _)
    have hl := nodup_le l (k.erase a) (List.nodup_cons.mp hn).2 fun b hb => (List.mem_erase_of_ne (by rintro rfl; exact (List.nodup_cons.mp hn).1 hb)).mpr (hs b (.tail _ hb))
    rw [List.length_erase_of_mem ha] at hl
    have : 0 < k.length := List.length_pos_of_mem ha
    simp only [List.length_cons]
    omega
theorem Tab.few {w : World} {x : Str} {rest : List (Addr × Obj)} {o : Obj} {xs : List (List (Str ⊕ Bool) × Addr × Value)} (T : Tab w x rest o xs) : xs.length ≤ 1000 := by
  have h := nodup_le (xs.map (·.1)) (markers.map (keyOf · true) ++ markers.map (keyOf · false)) T.nodup fun k hk => by
    obtain ⟨y, hy, rfl⟩ := List.mem_map.mp hk
    obtain ⟨mk, f, P, vs, c, hm, e, _⟩ := T.vals y hy
    rw [e]
    cases f
    · exact List.mem_append.mpr (.inr (List.mem_map.mpr ⟨mk, hm, rfl⟩))
    · exact List.mem_append.mpr (.inl (List.mem_map.mpr ⟨mk, hm, rfl⟩))
  rw [List.length_map, List.length_append, List.length_map, List.length_map] at h
  have : markers.length = 13 := rfl
  omega
theorem Tab.at {w : World} {x : Str} {rest led : List (Addr × Obj)} {o : Obj} {xs : List (List (Str ⊕ Bool) × Addr × Value)} {h₀ h : Heap} {L e : Addr} (T : Tab w x rest o xs) (N : News h₀ L h led) (hm : (e, o) ∈ led) (hs : ∀ p ∈ rest, p ∈ led) :
    h.DictOfH (tupleKind (mixK w)) e xs := by
  obtain ⟨es, ep, hd, he⟩ := T.data
  exact ⟨o, es, ep, N.get hm, T.exact, hd, he, fun y hy => let ⟨_, a, b⟩ := T.keys y hy; b.key (N.get (hs _ a)), T.nodup⟩

theorem keyOf_inj {a b : Str} {f g : Bool} (h : keyOf a f = keyOf b g) : a = b ∧ f = g := by
  unfold keyOf at h
  injection h with h1 h2
  injection h1 with h1
  injection h2 with h2 _
  injection h2 with h2
  exact ⟨h1, h2⟩
theorem Tab.got {w : World} {x mk : Str} {f : Bool} {rest : List (Addr × Obj)} {o : Obj} {xs : List (List (Str ⊕ Bool) × Addr × Value)} {av : Addr × Value} (T : Tab w x rest o xs) (h : atKey xs (keyOf mk f) = some av) :
    ∃ P vs c, av.2 = .ref P ∧ (P, listOf vs.toArray c) ∈ rest ∧ IntsAre vs (places (okAt (nums x) (nums mk) f) x.length) := by
  unfold atKey at h
  obtain ⟨y, hy, rfl⟩ := Option.map_eq_some_iff.mp h
  have hk := List.find?_some hy
  have hm := List.mem_of_find?_eq_some hy
  simp only [decide_eq_true_eq] at hk
  obtain ⟨mk', f', P, vs, c, _, a1, a2, a3, a4⟩ := T.vals y hm
  obtain ⟨rfl, rfl⟩ := keyOf_inj (hk.symm.trans a1)
  exact ⟨P, vs, c, a2, a3, a4⟩

section
variable {w : World} {A : Around} {E : Value → Shared → Prop} {s : Shared} {x mk : Str} {tm : Tok} {f : Bool} {rest led : List (Addr × Obj)} {o : Obj} {xs : List (List (Str ⊕ Bool) × Addr × Value)} {h₀ : Heap} {L e t : Addr} {m : Str → Option Value}
theorem tab_getMethod {pl : Sem Bool} {Q : Value × List Value → Shared → Prop} (T : Tab w x rest o xs) (N : News h₀ L s.heap led) (hm : (e, o) ∈ led) (hs : ∀ p ∈ rest, p ∈ led) (h : Q (.builtin "dict.get", [.ref e]) s) :
    wpAny (model PySem.Challenge.rw_br5018_01.row.prog w) A (getMethod (.ref e) "get" pl) Q E s :=
  have D := T.at N hm hs
  getMethod_builtin D.typeIs PySem.F.plainAttrs_dict PySem.F.slot_dict_get PySem.F.type_dict_get (dictOfH_noDict D) h
theorem tab_get {Q : Value → Shared → Prop} (T : Tab w x rest o xs) (N : News h₀ L s.heap led) (hm : (e, o) ∈ led) (hs : ∀ p ∈ rest, p ∈ led) (ht : (t, tupOf mk tm f) ∈ led) (lo : (e == sysModules) = false) (hu : A.units + 1 < cLine)
    (h : Q (((atKey xs (keyOf mk f)).map (·.2)).getD .none) { s with toks := s.toks + 3 }) :
    wpAny (model PySem.Challenge.rw_br5018_01.row.prog w) A (call (.builtin "dict.get") [.ref e, .ref t]) Q E s :=
  have D := T.at N hm hs
  call_meetsIn PySem.F.slot_dict_get D.typeIs PySem.F.entry_dict_get (PySem.F.args_dict_get_2 _ _) (meetsH_dict_get (tupleKind (mixK w)) e t lo) ⟨hu, keyOf mk f, xs, tup_key.key (N.get ht), D, h⟩
theorem tab_set {P : Addr} {vs : List Value} {c : Nat} {u : Obj → List (Addr × Obj)} {Q : Unit → Shared → Prop} (T : Tab w x rest o xs) (F : Fr h₀ L s.heap m) (N : News h₀ L s.heap led) (U : UpdF e o led u) (hs : ∀ p ∈ rest, p ∈ led) (ht : (t, tupOf mk tm f) ∈ led)
    (hu : A.units + 1 < cLine) (hmk : mk ∈ markers) (hi : IntsAre vs (places (okAt (nums x) (nums mk) f) x.length)) (hnew : atKey xs (keyOf mk f) = none) (rest' : List (Addr × Obj)) (hr' : ∀ p ∈ rest, p ∈ rest') (ht' : (t, tupOf mk tm f) ∈ rest') (hP' : (P, listOf vs.toArray c) ∈ rest')
    (h : ∀ h' o', Fr h₀ L h' m → News h₀ L h' (u o') → Tab w x rest' o' (storedH xs (keyOf mk f) t (.ref P)) → Q () { s with heap := h', toks := s.toks + 3 }) :
    wpAny (model PySem.Challenge.rw_br5018_01.row.prog w) A (setItem (.ref e) (.ref t) (.ref P)) Q E s := by
  obtain ⟨pre, post, rfl, hg, hpre, hpost⟩ := U.split
  have hm : (e, o) ∈ pre ++ (e, o) :: post := List.mem_append.mpr (.inr (.head _))
  have D := T.at N hm hs
  refine wpAny_setItem_heap (hsz := by rw [sizeLine_eq]; have := T.few; omega) (knd := tupleKind (mixK w)) (tupleKind_room_in1 hu) (tup_key.key (N.get ht)) D fun h' hm' hb => ?_
  obtain ⟨o', es', ep', ho', hc', hd', he', _, hn'⟩ := hm'
  refine h h' o' (F.change hb (N _ hm).2.1 (N.fresh hm)) ?_ ⟨hc', ⟨es', ep', hd', he'⟩, hn', ?_, ?_⟩
  · rw [hg]
    intro q hq
    have keep : ∀ q ∈ pre ++ post, h'.get? q.1 = some q.2 ∧ q.1 ≠ L ∧ h₀.get? q.1 = none := fun q hq => by
      have hq' : q ∈ pre ++ (e, o) :: post := List.mem_append.mpr ((List.mem_append.mp hq).imp id fun h => .tail _ h)
      have hne : q.1 ≠ e := (List.mem_append.mp hq).elim (hpre q) (hpost q)
      exact ⟨(hb.2 q.1 hne).trans (N q hq').1, (N q hq').2.1, (N q hq').2.2⟩
    rcases List.mem_append.mp hq with hq | hq
    · exact keep q (List.mem_append.mpr (.inl hq))
    · rcases List.mem_cons.mp hq with rfl | hq
      · exact ⟨ho', (N _ hm).2.1, (N _ hm).2.2⟩
      · exact keep q (List.mem_append.mpr (.inr hq))
  · intro y hy
    rcases mem_storedH hy with ⟨z, hz, e1, e2⟩ | ⟨e1, e2⟩
    · obtain ⟨ok, a, b⟩ := T.keys z hz
      exact ⟨ok, by rw [e2]; exact hr' _ a, by rw [e1]; exact b⟩
    · exact ⟨tupOf mk tm f, by rw [e2]; exact ht', by rw [e1]; exact tup_key⟩
  · intro y hy
    rw [storedH_new hnew] at hy
    rcases List.mem_append.mp hy with hy | hy
    · obtain ⟨mk', f', P', vs', c', a1, a2, a3, a4, a5⟩ := T.vals y hy
      exact ⟨mk', f', P', vs', c', a1, a2, a3, hr' _ a4, a5⟩
    · rw [List.mem_singleton.mp hy]
      exact ⟨mk, f, P, vs, c, hmk, rfl, rfl, hP', hi⟩
end
end Mine
namespace Mine
theorem places_mem {g : Nat → Bool} {n : Nat} {a : Int} : a ∈ places g n ↔ ∃ k : Nat, a = (k : Int) ∧ k < n ∧ g k = true := by
  unfold places
  simp only [List.mem_map, List.mem_filter, List.mem_range]
  constructor
  · rintro ⟨k, ⟨h1, h2⟩, rfl⟩; exact ⟨k, rfl, h1, h2⟩
  · rintro ⟨k, rfl, h1, h2⟩; exact ⟨k, ⟨h1, h2⟩, rfl⟩
theorem places_len (g : Nat → Bool) (n : Nat) : (places g n).length ≤ n := by
  unfold places
  rw [List.length_map]
  exact Nat.le_trans (List.length_filter_le _ _) (by rw [List.length_range]; exact Nat.le_refl _)
theorem places_next (g : Nat → Bool) (n : Nat) : places g (n + 1) = if g n = true then places g n ++ [(n : Int)] else places g n := by
  unfold places
  rw [List.range_succ, List.filter_append]
  cases h : g n <;> simp [h]
theorem places_skip {g : Nat → Bool} {a b : Nat} (hab : a ≤ b) (h : ∀ i, a ≤ i → i < b → g i = false) : places g b = places g a := by
  induction b with
  | zero => rw [show a = 0 by omega]
  | succ b ih =>
    by_cases e : a = b + 1
    · rw [e]
    · rw [places_next, h b (by omega) (by omega), if_neg (by decide)]
      exact ih (by omega) fun i h1 h2 => h i h1 (by omega)
theorem places_pair (g : Nat → Bool) (n : Nat) : (places g n).Pairwise (· < ·) := by
  unfold places
  rw [List.pairwise_map]
  refine List.Pairwise.imp (fun h => ?_) (List.Pairwise.filter _ List.pairwise_lt_range)
  show Int.ofNat _ < Int.ofNat _
  simpa using h
theorem places_sorted (g : Nat → Bool) (n : Nat) : ∀ (i j : Nat) (a b : Int), i ≤ j → (places g n)[i]? = some a → (places g n)[j]? = some b → a ≤ b := by
  intro i j a b hij ha hb
  obtain ⟨hi, rfl⟩ := List.getElem?_eq_some_iff.mp ha
  obtain ⟨hj, rfl⟩ := List.getElem?_eq_some_iff.mp hb
  by_cases e : i = j
  · subst e; exact Int.le_refl _
  · exact Int.le_of_lt (List.pairwise_iff_getElem.mp (places_pair g n) i j hi hj (by omega))
/-- what stands at the place that a bisection tells -/
theorem places_due {g : Nat → Bool} {n K r : Nat} (hg : ∀ k, n ≤ k → g k = false)
    (h1 : ∀ (i : Nat) (a : Int), i < r → (places g n)[i]? = some a → a < (K : Int)) (h2 : ∀ (i : Nat) (a : Int), r ≤ i → (places g n)[i]? = some a → (K : Int) ≤ a) :
    (∀ t, r < (places g n).length → Due g K (.int ((places g n).getD r 0) t)) ∧ (¬ r < (places g n).length → Due g K .none) := by
  have found : ∀ k, g k = true → ∃ i, (places g n)[i]? = some (k : Int) := fun k hk => by
    have hn : k < n := by
      apply Decidable.byContradiction
      intro h
      rw [hg k (by omega)] at hk
      cases hk
    exact List.mem_iff_getElem?.mp (places_mem.mpr ⟨k, rfl, hn, hk⟩)
  refine ⟨fun t hr => ?_, fun hr => .inr ⟨rfl, fun i hi => Bool.eq_false_iff.mpr fun hgi => ?_⟩⟩
  · have ha : (places g n)[r]? = some ((places g n).getD r 0) := by
      rw [List.getD_eq_getElem?_getD, List.getElem?_eq_getElem hr]
      rfl
    obtain ⟨k, e, hk, hgk⟩ := places_mem.mp (List.mem_of_getElem? ha)
    rw [e]
    rw [e] at ha
    have hK := h2 r _ (Nat.le_refl _) ha
    refine .inl ⟨k, t, rfl, by omega, hgk, fun i hi1 hi2 => Bool.eq_false_iff.mpr fun hgi => ?_⟩
    obtain ⟨j, hj⟩ := found i hgi
    by_cases hjr : j < r
    · have := h1 j _ hjr hj; omega
    · have := places_sorted g n r j _ _ (by omega) ha hj; omega
  · obtain ⟨j, hj⟩ := found i hgi
    have hjl : j < (places g n).length := (List.getElem?_eq_some_iff.mp hj).1
    have := h1 j _ (by omega) hj
    omega
theorem okAt_hits {xs ms : List Nat} {f : Bool} {k : Nat} (h : hits xs ms k = false) : okAt xs ms f k = false := by simp [okAt, h]
theorem okAt_beyond {x mk : Str} {f : Bool} (hm : 1 ≤ mk.length) : ∀ k, x.length ≤ k → okAt (nums x) (nums mk) f k = false := fun k hk =>
  okAt_end (by rw [nums_length]; exact hm) (by rw [nums_length, nums_length]; omega)
/-- where find's own search stands -/
def Sought (x mk : Str) (f : Bool) (start : Int) (ns : List Int) : Prop :=
  (start = -1 ∧ ns = places (okAt (nums x) (nums mk) f) x.length) ∨ ∃ j : Nat, start = (j : Int) ∧ hits (nums x) (nums mk) j = true ∧ ns = places (okAt (nums x) (nums mk) f) j
theorem sought_next {x mk : Str} {f : Bool} (hm : 1 ≤ mk.length) (k : Nat) (hk : k ≤ x.length) : Sought x mk f (Txt.find3 x mk (k : Int)) (places (okAt (nums x) (nums mk) f) k) := by
  rcases find3_first (x := x) (y := mk) k hm with ⟨e, h⟩ | ⟨i, e, hi, hh, h⟩
  · exact .inl ⟨e, (places_skip hk fun i h1 _ => okAt_hits (h i h1)).symm⟩
  · exact .inr ⟨i, e, hh, (places_skip hi fun j h1 h2 => okAt_hits (h j h1 h2)).symm⟩
theorem hits_lt {x mk : Str} {j : Nat} (hm : 1 ≤ mk.length) (h : hits (nums x) (nums mk) j = true) : j + mk.length ≤ x.length := by
  have := hits_len (xs := nums x) (ms := nums mk) (by rw [nums_length]; exact hm) h
  rwa [nums_length, nums_length] at this
theorem sought_start {x mk : Str} {f : Bool} (hm : 1 ≤ mk.length) : Sought x mk f (Txt.find x mk) [] := by
  rw [find_is_find3]
  exact sought_next (f := f) hm 0 (Nat.zero_le _)
theorem sought_less {x mk : Str} (hm : 1 ≤ mk.length) {j : Nat} (hj : j + mk.length ≤ x.length) :
    (if Txt.find3 x mk ((j : Int) + 1) < 0 then 0 else ((x.length : Int) + 1 - Txt.find3 x mk ((j : Int) + 1)).toNat) < (if (j : Int) < 0 then 0 else ((x.length : Int) + 1 - (j : Int)).toNat) := by
  have hj0 : ¬ (j : Int) < 0 := by omega
  rw [if_neg hj0, show ((j : Int) + 1) = ((j + 1 : Nat) : Int) by omega]
  rcases find3_first (x := x) (y := mk) (j + 1) hm with ⟨e, _⟩ | ⟨i, e, hi, _, _⟩
  · rw [e, if_pos (by decide)]; omega
  · have hi0 : ¬ (i : Int) < 0 := by omega
    rw [e, if_neg hi0]; omega
theorem sought_yes {x mk : Str} {f : Bool} (hm : 1 ≤ mk.length) {j : Nat} (hj : j + mk.length ≤ x.length) (h : okAt (nums x) (nums mk) f j = true) : Sought x mk f (Txt.find3 x mk ((j : Int) + 1)) (places (okAt (nums x) (nums mk) f) j ++ [(j : Int)]) := by
  have := sought_next (x := x) (mk := mk) (f := f) hm (j + 1) (by omega)
  rw [places_next, if_pos h] at this
  exact this
theorem sought_no {x mk : Str} {f : Bool} (hm : 1 ≤ mk.length) {j : Nat} (hj : j + mk.length ≤ x.length) (h : okAt (nums x) (nums mk) f j = false) : Sought x mk f (Txt.find3 x mk ((j : Int) + 1)) (places (okAt (nums x) (nums mk) f) j) := by
  have := sought_next (x := x) (mk := mk) (f := f) hm (j + 1) (by omega)
  rw [places_next, h, if_neg (by decide)] at this
  exact this
theorem okAt_yes {xs ms : List Nat} {j : Nat} (h : hits xs ms j = true) (h2 : shuts xs ms j = true) : okAt xs ms true j = true := by rw [okAt_t, h, h2]; rfl
theorem okAt_not {xs ms : List Nat} {j : Nat} (h2 : shuts xs ms j = false) : okAt xs ms true j = false := by rw [okAt_t, h2, Bool.and_false]
theorem okAt_plain {xs ms : List Nat} {j : Nat} (h : hits xs ms j = true) : okAt xs ms false j = true := by rw [okAt_f, h]

/-- a turn's end of a while over a name that holds an int and a list that grows -/
def WLEnd (h₀ : Heap) (L : Addr) (s : Shared) (led : List (Addr × Obj)) (a : Str) (D : Addr) (P : Int → List Value → Prop) (μ : Int → Nat) (m₀ : Str → Option Value) (x : Int) (s₂ : Shared) : Prop :=
  ∃ x' t' vs' c' h' tk m' news', s₂ = { s with heap := h', toks := tk } ∧ Fr h₀ L h' m' ∧ News h₀ L h' news' ∧ (∀ p ∈ led, p ∈ news') ∧ (D, listOf (List.toArray vs') c') ∈ news' ∧ m' a = some (.int x' t') ∧ (∀ z, z ≠ a → m' z = m₀ z) ∧ P x' vs' ∧ μ x' < μ x
def WLPost (h₀ : Heap) (L : Addr) (s : Shared) (led : List (Addr × Obj)) (a : Str) (D : Addr) (P : Int → List Value → Prop) (μ : Int → Nat) (m₀ : Str → Option Value) (x : Int) (Q : Flow → Shared → Prop) (f : Flow) (s₂ : Shared) : Prop :=
  match f with
  | .ret v => Q (.ret v) s₂
  | .brk => Q .next s₂
  | _ => WLEnd h₀ L s led a D P μ m₀ x s₂
theorem whileL {prog : Program} {w : World} {A : Around} {E : Value → Shared → Prop} {Q : Flow → Shared → Prop} {s : Shared} {env : Env} {h₀ : Heap} {L : Addr} {test : Expr} {body : List Stmt} {pos : Pos} {m₀ : Str → Option Value} {led : List (Addr × Obj)}
    (a : Str) (D : Addr) (P : Int → List Value → Prop) (μ : Int → Nat) {x₀ : Int} {t₀ : Tok} {vs₀ : List Value} {c₀ : Nat}
    (F : Fr h₀ L s.heap m₀) (N : News h₀ L s.heap ((D, listOf vs₀.toArray c₀) :: led)) (ha : m₀ a = some (.int x₀ t₀)) (hp : P x₀ vs₀)
    (turn : ∀ x t vs c h tk, P x vs → Fr h₀ L h (fun z => if z = a then some (.int x t) else m₀ z) → News h₀ L h ((D, listOf (List.toArray vs) c) :: led) →
      wpAny (model prog w) A (isTrue test env (eval test env)) (fun c s₂ =>
        if c = true then wpAny (model prog w) A (execs body env) (WLPost h₀ L s led a D P μ m₀ x Q) E s₂ else Q .next s₂) E { s with heap := h, toks := tk })
    (hE : PassesOwn (model prog w) A env E := by passes_own) :
    wpAny (model prog w) A (exec (.While test body [] pos) env) Q E s := by
  refine While_inv2 (fun n m nx => ∃ x t vs c, nx = (D, listOf (List.toArray vs) c) :: led ∧ μ x = n ∧ m a = some (.int x t) ∧ (∀ z, z ≠ a → m z = m₀ z) ∧ P x vs) F N ⟨x₀, t₀, vs₀, c₀, rfl, rfl, ha, fun _ _ => rfl, hp⟩ ?_ hE
  rintro n m₁ nx h tk F₁ N₁ ⟨x, t, vs, c, rfl, rfl, h1, h3, h4⟩
  have e : (fun z => if z = a then some (Value.int x t) else m₀ z) = m₁ := by
    funext z
    by_cases za : z = a
    · rw [if_pos za, za, h1]
    · rw [if_neg za, h3 z za]
  refine wpAny_mono (turn x t vs c h tk h4 (by rw [e]; exact F₁) N₁) (fun c s₂ p => ?_) fun _ _ x => x
  cases c with
  | false => simpa using p
  | true =>
    simp only [if_true] at p ⊢
    refine wpAny_mono p (fun f s₃ q => ?_) fun _ _ x => x
    have fin : WLEnd h₀ L s led a D P μ m₀ x s₃ → ∃ h' tk m₂ news₂ n', s₃ = { s with heap := h', toks := tk } ∧ Fr h₀ L h' m₂ ∧ News h₀ L h' news₂ ∧ n' < μ x ∧ ∃ x t vs c, news₂ = (D, listOf (List.toArray vs) c) :: led ∧ μ x = n' ∧ m₂ a = some (.int x t) ∧ (∀ z, z ≠ a → m₂ z = m₀ z) ∧ P x vs := by
      rintro ⟨x', t', vs', c', h', tk', m', news', rfl, F', N', hn, hD, b1, b3, b4, b5⟩
      refine ⟨h', tk', m', (D, listOf (List.toArray vs') c') :: led, μ x', rfl, F', news_sub N' fun p hp => ?_, b5, x', t', vs', c', rfl, rfl, b1, b3, b4⟩
      rcases List.mem_cons.mp hp with rfl | hp
      · exact hD
      · exact hn p hp
    cases f with
    | ret v => exact q
    | brk => exact q
    | next => exact fin q
    | cont => exact fin q
theorem WLEnd.intro {s : Shared} {h₀ : Heap} {L : Addr} {m₀ m' : Str → Option Value} {led news' : List (Addr × Obj)} {a : Str} {D : Addr} {P : Int → List Value → Prop} {μ : Int → Nat} {x : Int} {h' : Heap} {tk c' : Nat} (x' : Int) {t' : Tok} (vs' : List Value)
    (F : Fr h₀ L h' m') (N : News h₀ L h' news') (hn : ∀ p ∈ led, p ∈ news') (hD : (D, listOf (List.toArray vs') c') ∈ news') (ha : m' a = some (.int x' t')) (hr : ∀ z, z ≠ a → m' z = m₀ z) (hp : P x' vs') (hm : μ x' < μ x) :
    WLEnd h₀ L s led a D P μ m₀ x { s with heap := h', toks := tk } := ⟨x', t', vs', c', h', tk, m', news', rfl, F, N, hn, hD, ha, hr, hp, hm⟩
end Mine
namespace Mine
set_option maxRecDepth 100000
theorem kind_bl : builtinKind "_bisect.bisect_left" = none := by decide +kernel
theorem plain_bl : plainId "_bisect.bisect_left" = true := by decide +kernel
theorem entry_bl : entryFor table "_bisect.bisect_left" = some Builtin.«_bisect.bisect_left» := entryFor_of_fast (by kernel_rfl)
theorem args_bl (a b : Value) : argsOk "_bisect.bisect_left" ⟨[a, b], []⟩ := by unfold argsOk; kernel_rfl
theorem kind_br : builtinKind "_bisect.bisect_right" = none := by decide +kernel
theorem plain_br : plainId "_bisect.bisect_right" = true := by decide +kernel
theorem entry_br : entryFor table "_bisect.bisect_right" = some Builtin.«_bisect.bisect_right» := entryFor_of_fast (by kernel_rfl)
theorem args_br (a b : Value) : argsOk "_bisect.bisect_right" ⟨[a, b], []⟩ := by unfold argsOk; kernel_rfl
theorem plain_bo : plainId "_bisect.bisect_right.loop" = true := by decide +kernel
theorem entry_bo : entryFor table "_bisect.bisect_right.loop" = some Builtin.«_bisect.bisect_right.loop» := entryFor_of_fast (by kernel_rfl)

section
variable {prog : Program} {w : World} {A : Around} {E : Value → Shared → Prop} {s : Shared}
theorem item_call {l : Addr} {items : Array Value} {k : Int} {t : Tok} {x : Value} {Q : Option Value → Shared → Prop} (hl : s.heap.IsList l items) (h0 : 0 ≤ k) (hfit : k < 2 ^ 63) (hx : items[k.toNat]? = some x) (h : Q (some x) s) :
    wpAny (model prog w) A (callSpecial? (.ref l) (Str.ofString "__getitem__") [.int k t]) Q E s := by
  obtain ⟨o, ho, hc, ne, hd⟩ := id hl
  refine wpAny_callSpecial?_slot (name := Str.ofString "__getitem__") hl.typeIs slot_list_getitem (wpAny_call_entry slot_list_getitem hl.typeIs entry_list_getitem ?_ (args_list_getitem _ _))
  show wpAny _ _ (Builtin.List.listSubscript? (.int k t) >>= _) _ _ s
  refine wpAny_bind (wpAny_listSubscript_int (fitsIndex_of h0 hfit) ?_)
  clear hfit
  obtain ⟨j, rfl⟩ := Int.eq_ofNat_of_zero_le h0
  have hx' : items[j]? = some x := hx
  show wpAny _ _ ((seqItemAt l j >>= fun r => pure (r.map (j, ·))) >>= _) _ _ s
  refine wpAny_bind (wpAny_bind (wpAny_seqItemAt ho hd (wpAny_pure ?_)))
  rw [hx']
  first
    | exact wpAny_pure ⟨x, rfl, h⟩
    | exact wpAny_bind (wpAny_pure (wpAny_pure ⟨x, rfl, h⟩))
theorem bis_loop {R : Result → Shared → Prop} {l : Addr} {vs : List Value} {ns : List Int} {x : Int} {tx : Tok} (right : Bool) (hi' : IntsAre vs ns) (hn : ns.length ≤ 1000) (hu : A.units + 1 < cLine)
    (hs : ∀ (i j : Nat) (a b : Int), i ≤ j → ns[i]? = some a → ns[j]? = some b → a ≤ b) : ∀ (k lo hi : Nat) (s : Shared), hi - lo = k → lo ≤ hi → hi ≤ ns.length → s.heap.IsList l vs.toArray →
    (∀ (i : Nat) (a : Int), i < lo → ns[i]? = some a → (if right = true then a ≤ x else a < x)) → (∀ (i : Nat) (a : Int), hi ≤ i → ns[i]? = some a → ¬ (if right = true then a ≤ x else a < x)) →
    (∀ (r : Nat) tk, r ≤ ns.length → (∀ (i : Nat) (a : Int), i < r → ns[i]? = some a → (if right = true then a ≤ x else a < x)) → (∀ (i : Nat) (a : Int), r ≤ i → ns[i]? = some a → ¬ (if right = true then a ≤ x else a < x)) →
      R (.ok (.ret (.int (r : Int) tk))) { s with toks := tk + 1 }) →
    codeAny (model prog w) A (.builtin "_bisect.bisect_right.loop" ⟨[.ref l, .int x tx, rawInt lo, rawInt hi, .none, .bool right, .bool true, rawInt 0], []⟩) R s := by
  intro k
  induction k using Nat.strongRecOn with
  | ind k ih =>
    intro lo hi s hk hlo hhi hl h1 h2 hR
    refine codeAny_builtin entry_bo ?_
    rw [Around.under_plainId plain_bo _]
    show wpAny _ _ (if (lo : Int) < (hi : Int) then _ else _) _ _ s
    by_cases hlt : (lo : Int) < (hi : Int)
    · rw [if_pos hlt]
      refine wpAny_bind (wpAny_mkInt ?_)
      have hmid : ((lo : Int) + (hi : Int)) / 2 = (((lo + hi) / 2 : Nat) : Int) := by omega
      rw [hmid]
      obtain ⟨m, hm⟩ : ∃ m : Nat, m = (lo + hi) / 2 := ⟨_, rfl⟩
      rw [← hm]
      have hmlt : m < ns.length := by omega
      obtain ⟨a, ha⟩ : ∃ a, ns[m]? = some a := ⟨ns[m], List.getElem?_eq_getElem hmlt⟩
      obtain ⟨t, hx⟩ := hi'.get m a ha
      refine wpAny_bind (item_call hl (by omega) (by omega) (show vs.toArray[((m : Nat) : Int).toNat]? = some (Value.int a t) by simpa using hx) ?_)
      dsimp only
      rw [if_pos (by rfl)]
      refine wpAny_bind (wpAny_pure (wpAny_holding ?_))
      rw [if_pos (by rfl)]
      refine wpAny_bind (wpAny_typeOf (typeIs_int _ _ _) (wpAny_bind (wpAny_typeOf (typeIs_int _ _ _) ?_)))
      rw [if_pos (beq_self_eq_true _)]
      have lower : ∀ s' : Shared, s'.heap = s.heap → (if right = true then a ≤ x else a < x) → (∀ (r : Nat) tk, r ≤ ns.length → (∀ (i : Nat) (a : Int), i < r → ns[i]? = some a → (if right = true then a ≤ x else a < x)) → (∀ (i : Nat) (a : Int), r ≤ i → ns[i]? = some a → ¬ (if right = true then a ≤ x else a < x)) → R (.ok (.ret (.int (r : Int) tk))) { s' with toks := tk + 1 }) →
          codeAny (model prog w) A (.builtin "_bisect.bisect_right.loop" ⟨[.ref l, .int x tx, rawInt ((m + 1 : Nat) : Int), rawInt hi, .none, .bool right, .bool true, rawInt 0], []⟩) R s' := fun s' e hc hR' =>
        ih (hi - (m + 1)) (by omega) (m + 1) hi s' rfl (by omega) hhi (by rw [e]; exact hl) (fun i b hib hb => by
          have := hs i m b a (by omega) hb ha
          cases right
          · simp only [Bool.false_eq_true, if_false] at hc ⊢; omega
          · simp only [if_true] at hc ⊢; omega) h2 hR'
      have upper : ∀ s' : Shared, s'.heap = s.heap → ¬ (if right = true then a ≤ x else a < x) → (∀ (r : Nat) tk, r ≤ ns.length → (∀ (i : Nat) (a : Int), i < r → ns[i]? = some a → (if right = true then a ≤ x else a < x)) → (∀ (i : Nat) (a : Int), r ≤ i → ns[i]? = some a → ¬ (if right = true then a ≤ x else a < x)) → R (.ok (.ret (.int (r : Int) tk))) { s' with toks := tk + 1 }) →
          codeAny (model prog w) A (.builtin "_bisect.bisect_right.loop" ⟨[.ref l, .int x tx, rawInt lo, rawInt m, .none, .bool right, .bool true, rawInt 0], []⟩) R s' := fun s' e hc hR' =>
        ih (m - lo) (by omega) lo m s' rfl (by omega) (by omega) (by rw [e]; exact hl) h1 (fun i b hib hb => by
          have := hs m i a b hib ha hb
          cases right
          · simp only [Bool.false_eq_true, if_false] at hc ⊢; omega
          · simp only [if_true] at hc ⊢; omega) hR'
      cases right
      · refine wpAny_bind (wpAny_cRoomFor_or (.inl rfl) ?_)
        refine wpAny_bind (wpAny_callSpecialIfBound?_slot (name := Str.ofString "__lt__") (typeIs_int _ _ _) F.slot_int_lt (call_gives F.slot_int_lt (typeIs_int _ _ _) F.entry_int_lt (F.args_int_lt_2 _ _) (AutoIntG1.int___lt___int_int_0 _ _ _ _) ?_))
        show wpAny _ _ (truthOfDropped (.bool (decide (a < x))) >>= _) _ _ _
        refine wpAny_bind (wpAny_truthy_bool (wpAny_bind (wpAny_pure ?_)))
        by_cases hax : a < x
        · rw [decide_eq_true hax]
          refine wpAny_pure ⟨plainId_quiet plain_bo _, ?_⟩
          exact lower _ rfl (by simp only [Bool.false_eq_true, if_false]; omega) hR
        · rw [decide_eq_false hax]
          refine wpAny_pure ⟨plainId_quiet plain_bo _, ?_⟩
          exact upper _ rfl (by simp only [Bool.false_eq_true, if_false]; omega) hR
      · refine wpAny_bind (wpAny_cRoomFor_or (.inl rfl) ?_)
        refine wpAny_bind (wpAny_callSpecialIfBound?_slot (name := Str.ofString "__lt__") (typeIs_int _ _ _) F.slot_int_lt (call_gives F.slot_int_lt (typeIs_int _ _ _) F.entry_int_lt (F.args_int_lt_2 _ _) (AutoIntG1.int___lt___int_int_0 _ _ _ _) ?_))
        show wpAny _ _ (truthOfDropped (.bool (decide (x < a))) >>= _) _ _ _
        refine wpAny_bind (wpAny_truthy_bool (wpAny_bind (wpAny_pure ?_)))
        by_cases hax : x < a
        · rw [decide_eq_true hax]
          refine wpAny_pure ⟨plainId_quiet plain_bo _, ?_⟩
          exact upper _ rfl (by simp only [if_true]; omega) hR
        · rw [decide_eq_false hax]
          refine wpAny_pure ⟨plainId_quiet plain_bo _, ?_⟩
          exact lower _ rfl (by simp only [if_true]; omega) hR
    · rw [if_neg hlt]
      refine wpAny_bind (wpAny_mkInt (wpAny_pure ?_))
      exact hR lo s.toks (by omega) h1 (fun i a h => h2 i a (by omega))
theorem len_code {R : Result → Shared → Prop} {l : Addr} {items : Array Value} (hl : s.heap.IsList l items) (hfit : (items.size : Int) < 2 ^ 63)
    (h : R (.ok (.ret (.int items.size (s.toks + 1)))) { s with toks := s.toks + 1 + 1 }) : codeAny (model prog w) A (.builtin "len" ⟨[.ref l], []⟩) R s := by
  obtain ⟨o, ho, hc, n, hd⟩ := id hl
  refine codeAny_builtin entry_len ?_
  rw [Around.under_plainId plain_len _]
  unfold Builtin.«len»
  refine wpAny_bind (m := oneArg "len" _) (wpAny_pure ?_)
  refine wpAny_bind (m := callSpecial? (.ref l) (Str.ofString "__len__")) (wpAny_callSpecial?_slot (name := Str.ofString "__len__") hl.typeIs slot_list_len
    (wpAny_call_entry slot_list_len hl.typeIs entry_list_len ?_ (args_list_len _)))
  show wpAny _ _ (do retInt (← seqSize l)) _ _ s
  unfold seqSize
  refine wpAny_bind (wpAny_bind (wpAny_load ho ?_))
  rw [hd]
  refine wpAny_pure (wpAny_bind (wpAny_mkInt (wpAny_pure ⟨_, rfl, ?_⟩)))
  refine wpAny_bind (wpAny_holding (wpAny_pure ?_))
  refine wpAny_bind (wpAny_letGo ?_)
  show wpAny _ _ (if ((items.size : Nat) : Int) < 0 then _ else _) _ _ _
  rw [if_neg (by omega)]
  show wpAny _ _ (if ((items.size : Nat) : Int) ≥ 2 ^ 63 then _ else _) _ _ _
  rw [if_neg (by omega)]
  exact wpAny_bind (wpAny_mkInt (wpAny_pure h))
theorem bis_left {l : Addr} {vs : List Value} {ns : List Int} {x : Int} {tx : Tok} {Q : Value → Shared → Prop} (hl : s.heap.IsList l vs.toArray) (hi : IntsAre vs ns) (hn : ns.length ≤ 1000) (hu : A.units + 1 < cLine)
    (hs : ∀ (i j : Nat) (a b : Int), i ≤ j → ns[i]? = some a → ns[j]? = some b → a ≤ b)
    (h : ∀ (r : Nat) t tk, r ≤ ns.length → (∀ (i : Nat) (a : Int), i < r → ns[i]? = some a → a < x) → (∀ (i : Nat) (a : Int), r ≤ i → ns[i]? = some a → ¬ a < x) → Q (.int (r : Int) t) { s with toks := tk }) :
    wpAny (model prog w) A (call (.builtin "_bisect.bisect_left") [.ref l, .int x tx]) Q E s := by
  refine call_function_tree kind_bl plain_bl entry_bl (args_bl _ _) ?_
  have hT : s.TypeIs (.ref l) "list" := hl.typeIs
  have hm : mroOf (.type "list") = pure [.type "list", .type "object"] := by kernel_rfl
  have h1 := slot_list_len.lookup
  have h2 := slot_list_getitem.lookup
  show wpAny _ _ (pure (Value.ref l, Value.int x tx, none, none, none) >>= _) _ _ s
  refine wpAny_bind (wpAny_pure ?_)
  dsimp only
  wp_walk
  refine len_code hl (by rw [List.size_toArray, hi.length]; omega) ?_
  dsimp only
  have hT' : ({ s with toks := s.toks + 1 + 1 } : Shared).TypeIs (.ref l) "list" := hT
  wp_walk
  refine ⟨plainId_quiet plain_bo _, ?_⟩
  have e : ((vs.toArray.size : Nat) : Int) = ((ns.length : Nat) : Int) := by rw [List.size_toArray, hi.length]
  rw [e]
  refine bis_loop false hi hn hu hs (ns.length - 0) 0 ns.length _ rfl (Nat.zero_le _) (Nat.le_refl _) hl (fun i a h => absurd h (Nat.not_lt_zero _)) (fun i a h e => ?_) (fun r tk hr a1 a2 => ?_)
  · rw [List.getElem?_eq_none h] at e; cases e
  · exact h r _ _ hr (fun i a h e => by simpa using a1 i a h e) (fun i a h e => by simpa using a2 i a h e)
theorem bis_right {l : Addr} {vs : List Value} {ns : List Int} {x : Int} {tx : Tok} {Q : Value → Shared → Prop} (hl : s.heap.IsList l vs.toArray) (hi : IntsAre vs ns) (hn : ns.length ≤ 1000) (hu : A.units + 1 < cLine)
    (hs : ∀ (i j : Nat) (a b : Int), i ≤ j → ns[i]? = some a → ns[j]? = some b → a ≤ b)
    (h : ∀ (r : Nat) t tk, r ≤ ns.length → (∀ (i : Nat) (a : Int), i < r → ns[i]? = some a → a ≤ x) → (∀ (i : Nat) (a : Int), r ≤ i → ns[i]? = some a → ¬ a ≤ x) → Q (.int (r : Int) t) { s with toks := tk }) :
    wpAny (model prog w) A (call (.builtin "_bisect.bisect_right") [.ref l, .int x tx]) Q E s := by
  refine call_function_tree kind_br plain_br entry_br (args_br _ _) ?_
  have hT : s.TypeIs (.ref l) "list" := hl.typeIs
  have hm : mroOf (.type "list") = pure [.type "list", .type "object"] := by kernel_rfl
  have h1 := slot_list_len.lookup
  have h2 := slot_list_getitem.lookup
  show wpAny _ _ (pure (Value.ref l, Value.int x tx, none, none, none) >>= _) _ _ s
  refine wpAny_bind (wpAny_pure ?_)
  dsimp only
  wp_walk
  refine len_code hl (by rw [List.size_toArray, hi.length]; omega) ?_
  dsimp only
  have hT' : ({ s with toks := s.toks + 1 + 1 } : Shared).TypeIs (.ref l) "list" := hT
  wp_walk
  refine ⟨plainId_quiet plain_bo _, ?_⟩
  have e : ((vs.toArray.size : Nat) : Int) = ((ns.length : Nat) : Int) := by rw [List.size_toArray, hi.length]
  rw [e]
  refine bis_loop true hi hn hu hs (ns.length - 0) 0 ns.length _ rfl (Nat.zero_le _) (Nat.le_refl _) hl (fun i a h => absurd h (Nat.not_lt_zero _)) (fun i a h e => ?_) (fun r tk hr a1 a2 => ?_)
  · rw [List.getElem?_eq_none h] at e; cases e
  · exact h r _ _ hr (fun i a h e => by simpa using a1 i a h e) (fun i a h e => by simpa using a2 i a h e)
end
end Mine
namespace Mine
set_option maxRecDepth 100000
local macro_rules | `(tactic| k_all) => `(tactic| assumption)

/-- what find leaves -/
def FindRes (w : World) (x mk : Str) (f : Bool) (p : Int) (sc dx e : Addr) (dobj : Obj) (rest R : List (Addr × Obj)) (o : Obj) (v : Value) (news' : List (Addr × Obj)) : Prop :=
  Due (okAt (nums x) (nums mk) f) (if f = true then p + 1 else p).toNat v ∧ ∃ new o' xs', news' = new ++ (sc, instObj 81 dx) :: (dx, dobj) :: (e, o') :: rest ∧ Tab w x (new ++ R) o' xs' ∧ ∀ q ∈ new, ∀ r ∈ (sc, instObj 81 dx) :: (dx, dobj) :: (e, o) :: rest, r.1 < q.1
theorem markers_len {mk : Str} (h : mk ∈ markers) : 1 ≤ mk.length ∧ mk.length ≤ 3 := by
  have : markers.all (fun y => decide (1 ≤ y.length) && decide (y.length ≤ 3)) = true := by decide +kernel
  have := List.all_eq_true.mp this mk h
  simpa using this

theorem due_left {g : Nat → Bool} {n r : Nat} {p : Int} (hg : ∀ k, n ≤ k → g k = false) (b1 : ∀ (i : Nat) (a : Int), i < r → (places g n)[i]? = some a → a < p) (b2 : ∀ (i : Nat) (a : Int), r ≤ i → (places g n)[i]? = some a → ¬ a < p) :
    (∀ t, r < (places g n).length → Due g p.toNat (.int ((places g n).getD (r : Int).toNat 0) t)) ∧ (¬ r < (places g n).length → Due g p.toNat .none) := by
  rw [show (r : Int).toNat = r by omega]
  refine places_due hg (fun i a h1 h2 => ?_) (fun i a h1 h2 => ?_)
  · have := b1 i a h1 h2
    obtain ⟨k, rfl, _⟩ := places_mem.mp (List.mem_of_getElem? h2)
    omega
  · have := b2 i a h1 h2
    obtain ⟨k, rfl, _⟩ := places_mem.mp (List.mem_of_getElem? h2)
    omega
theorem due_right {g : Nat → Bool} {n r : Nat} {p : Int} (hg : ∀ k, n ≤ k → g k = false) (b1 : ∀ (i : Nat) (a : Int), i < r → (places g n)[i]? = some a → a ≤ p) (b2 : ∀ (i : Nat) (a : Int), r ≤ i → (places g n)[i]? = some a → ¬ a ≤ p) :
    (∀ t, r < (places g n).length → Due g (p + 1).toNat (.int ((places g n).getD (r : Int).toNat 0) t)) ∧ (¬ r < (places g n).length → Due g (p + 1).toNat .none) := by
  rw [show (r : Int).toNat = r by omega]
  refine places_due hg (fun i a h1 h2 => ?_) (fun i a h1 h2 => ?_)
  · have := b1 i a h1 h2
    obtain ⟨k, rfl, _⟩ := places_mem.mp (List.mem_of_getElem? h2)
    omega
  · have := b2 i a h1 h2
    obtain ⟨k, rfl, _⟩ := places_mem.mp (List.mem_of_getElem? h2)
    omega
theorem fresh1 {t sc dx e : Addr} {o1 o2 o3 ob : Obj} {rest : List (Addr × Obj)} (h : sc < t ∧ dx < t ∧ e < t ∧ AllLt t rest) : ∀ q ∈ [(t, ob)], ∀ r ∈ (sc, o1) :: (dx, o2) :: (e, o3) :: rest, r.1 < q.1 := by
  intro q hq r hr
  rw [List.mem_singleton.mp hq]
  rcases List.mem_cons.mp hr with rfl | hr
  · exact h.1
  · rcases List.mem_cons.mp hr with rfl | hr
    · exact h.2.1
    · rcases List.mem_cons.mp hr with rfl | hr
      · exact h.2.2.1
      · exact tb_ltOf h.2.2.2 r hr
theorem fresh2 {t P sc dx e : Addr} {o1 o2 o3 ob op : Obj} {rest : List (Addr × Obj)} (h : sc < t ∧ dx < t ∧ e < t ∧ AllLt t rest) (h2 : t < P ∧ sc < P ∧ dx < P ∧ e < P ∧ AllLt P rest) : ∀ q ∈ [(P, op), (t, ob)], ∀ r ∈ (sc, o1) :: (dx, o2) :: (e, o3) :: rest, r.1 < q.1 := by
  intro q hq r hr
  rcases List.mem_cons.mp hq with rfl | hq
  · exact fresh1 (ob := op) h2.2 _ (.head _) r hr
  · exact fresh1 (ob := ob) h q hq r hr
theorem offs {t P sc dx e : Addr} {ob o1 o2 o3 : Obj} {rest : List (Addr × Obj)} (h2 : t < P ∧ sc < P ∧ dx < P ∧ e < P ∧ AllLt P rest) : ∀ q ∈ (t, ob) :: (sc, o1) :: (dx, o2) :: (e, o3) :: rest, q.1 ≠ P :=
  fun q hq => Nat.ne_of_lt (tb_ltOf (l := (t, ob) :: (sc, o1) :: (dx, o2) :: (e, o3) :: rest) h2 q hq)
theorem Tab.mono {w : World} {x : Str} {rest rest' : List (Addr × Obj)} {o : Obj} {xs : List (List (Str ⊕ Bool) × Addr × Value)} (T : Tab w x rest o xs) (hs : ∀ q ∈ rest, q ∈ rest') : Tab w x rest' o xs :=
  ⟨T.exact, T.data, T.nodup, fun y hy => let ⟨ok, a, b⟩ := T.keys y hy; ⟨ok, hs _ a, b⟩, fun y hy => let ⟨mk', f, P, vs, c, a1, a2, a3, a4, a5⟩ := T.vals y hy; ⟨mk', f, P, vs, c, a1, a2, a3, hs _ a4, a5⟩⟩

set_option maxHeartbeats 8000000 in
theorem find_ok1 (w : World) (mean : ExcName → Option Value) (mg mb : Str → Option Value) (base : Heap) (x mk : Str) (tx tp tm t1 t2 t3 : Tok) (p : Int) (f : Bool) (sc dx e : Addr) (o : Obj) (rest R : List (Addr × Obj))
    (xs : List (List (Str ⊕ Bool) × Addr × Value)) (hx : x.length ≤ 96) (hg : ∀ c ∈ nums x, c ∈ signs) (hmk : mk ∈ markers) (T0 : Tab w x R o xs) (hR : ∀ q ∈ R, q ∈ rest) (lo : (e == sysModules) = false) (hse : sc ≠ e) (hde : dx ≠ e) (hre : ∀ q ∈ rest, q.1 ≠ e) :
    CallKw w mean mg mb 3 base 78 [.ref sc, .str mk tm, .int p tp] [(Str.ofString "formatting", .bool f)] ((sc, instObj 81 dx) :: (dx, scanDict w x tx t1 t2 t3 e) :: (e, o) :: rest)
      (FindRes w x mk f p sc dx e (scanDict w x tx t1 t2 t3 e) rest R o) := by
  obtain ⟨hm0, hm1⟩ := markers_len hmk
  unfold CallKw
  k_fill
  intro dp un gd cn cs a ccd cl outer A₀ h₀ L m s Q E B F X N T hk hd hu hret
  unfold scanDict at N
  refine wpAny_call ?_
  k_dflt (refine' code_def (binds := [(Str.ofString "self", Value.ref sc), (Str.ofString "marker", Value.str mk tm), (Str.ofString "pos", Value.int p tp), (Str.ofString "formatting", Value.bool f)]) ?k1 ?k2 ?k3 ?k4 ?k5 ?kA ?kF ?kK ?k6 ?k7 ?k8 ?k9 ?kB ?_ ?c2 ?c3 ?c4 ?c5; (case kA => exact rfl); (case kF => exact rfl); (case kK => assumption); (case k1 => k_asm); (case k2 => k_asm); (case k3 => k_asm); (case k4 => k_asm); (case k5 => k_asm); (case k6 => k_is); (case k7 => k_is); (case k8 => ktr_room); (case k9 => exact BindsTo.of_eq rfl); (case c5 => decide); (case kB => exact locs rfl); (case c2 => exact rfl); (case c3 => exact rfl); (case c4 => exact rfl); k_whole; intro g' L' h' FG' F' N' B' X' T'; (try dsimp only); (try k_lift B'); (try k_fold))
  k_steps
  rename _ ∧ _ ∧ _ ∧ AllLt _ _ => hl1
  refine tab_getMethod T0 (by assumption) (List.Mem.tail _ (List.Mem.tail _ (List.Mem.tail _ (List.Mem.head _)))) (fun q hq => List.Mem.tail _ (List.Mem.tail _ (List.Mem.tail _ (List.Mem.tail _ (hR q hq))))) ?_
  dsimp only
  k_steps
  refine tab_get T0 (by assumption) (List.Mem.tail _ (List.Mem.tail _ (List.Mem.tail _ (List.Mem.head _)))) (fun q hq => List.Mem.tail _ (List.Mem.tail _ (List.Mem.tail _ (List.Mem.tail _ (hR q hq))))) (List.Mem.head _) lo (by ktr_units) ?_
  have hlp : ∀ g n, n ≤ 96 → (places g n).length ≤ 96 := fun g n h => Nat.le_trans (places_len g n) h
  cases hA : atKey xs (keyOf mk f) with
  | some av =>
    obtain ⟨P, vs, c, a2, hP, hi⟩ := T0.got hA
    have hl96 := hlp (okAt (nums x) (nums mk) f) x.length hx
    simp only [Option.map_some, Option.getD_some, a2]
    rename News _ _ _ _ => nw1
    have N2 := news_sub (news' := (P, listOf vs.toArray c) :: _) nw1 (fun q hq => (List.mem_cons.mp hq).elim (fun e => e ▸ List.Mem.tail _ (List.Mem.tail _ (List.Mem.tail _ (List.Mem.tail _ (hR _ hP))))) id)
    clear nw1
    cases f
    · k_steps
      refine bis_left (News.isList (by assumption) (List.Mem.head _)) hi (by omega) (by ktr_units) (places_sorted _ _) (fun r tr tk hr b1 b2 => ?_)
      k_steps
      · rename News _ _ _ _ => nE
        exact hret _ _ _ _ ⟨(due_left (okAt_beyond hm0) b1 b2).1 _ (by omega), [(_, tupOf mk tm _)], o, xs, rfl, T0.mono (fun q hq => List.Mem.tail _ hq), fresh1 hl1⟩ (by assumption) (news_sub nE (fun q hq => List.Mem.tail _ hq))
      · rename News _ _ _ _ => nE
        exact hret _ _ _ _ ⟨(due_left (okAt_beyond hm0) b1 b2).2 (by omega), [(_, tupOf mk tm _)], o, xs, rfl, T0.mono (fun q hq => List.Mem.tail _ hq), fresh1 hl1⟩ (by assumption) (news_sub nE (fun q hq => List.Mem.tail _ hq))
    · k_steps
      refine bis_right (News.isList (by assumption) (List.Mem.head _)) hi (by omega) (by ktr_units) (places_sorted _ _) (fun r tr tk hr b1 b2 => ?_)
      k_steps
      · rename News _ _ _ _ => nE
        exact hret _ _ _ _ ⟨(due_right (okAt_beyond hm0) b1 b2).1 _ (by omega), [(_, tupOf mk tm _)], o, xs, rfl, T0.mono (fun q hq => List.Mem.tail _ hq), fresh1 hl1⟩ (by assumption) (news_sub nE (fun q hq => List.Mem.tail _ hq))
      · rename News _ _ _ _ => nE
        exact hret _ _ _ _ ⟨(due_right (okAt_beyond hm0) b1 b2).2 (by omega), [(_, tupOf mk tm _)], o, xs, rfl, T0.mono (fun q hq => List.Mem.tail _ hq), fresh1 hl1⟩ (by assumption) (news_sub nE (fun q hq => List.Mem.tail _ hq))
  | none =>
    simp only [Option.map_none, Option.getD_none]
    have hl96 := hlp (okAt (nums x) (nums mk) f) x.length hx
    have hpl := hlp (okAt (nums x) (nums mk) f)
    cases f
    · k_with "exec While Compare cons nil" => refine Hold.out ?_
      k_steps
      k_with_none
      unfold Hold
      rename _ ∧ _ ∧ _ ∧ _ ∧ AllLt _ _ => hl2
      (rename Fr _ _ _ _ => lF'); (rename News _ _ _ _ => lN')
      refine whileL (Str.ofString "start") _ (fun x₁ vs => ∃ ns, IntsAre vs ns ∧ Sought x mk false x₁ ns) (fun x₁ => if x₁ < 0 then 0 else ((x.length : Int) + 1 - x₁).toNat) (vs₀ := []) lF' lN' (by rfl) ⟨[], .nil, sought_start hm0⟩ ?_
      rintro st ts vs c h1 tk1 ⟨ns, hi, hS⟩ F1 N1
      clear lF' lN'
      rcases hS with ⟨rfl, rfl⟩ | ⟨j, rfl, hj, rfl⟩
      · k_fold
        k_steps
        refine tab_set T0 (by k_asm) (by k_asm) (UpdF.tail (Nat.ne_of_gt hl2.2.2.2.1) (UpdF.tail (Nat.ne_of_gt hl1.2.2.1) (UpdF.tail hse (UpdF.tail hde (UpdF.head hre))))) (fun q hq => List.Mem.tail _ (List.Mem.tail _ (List.Mem.tail _ (List.Mem.tail _ (List.Mem.tail _ (hR q hq)))))) (List.Mem.tail _ (List.Mem.head _)) (by ktr_units) hmk hi hA ((_, listOf vs.toArray c) :: (_, tupOf mk tm false) :: R) (fun q hq => List.Mem.tail _ (List.Mem.tail _ hq)) (List.Mem.tail _ (List.Mem.head _)) (List.Mem.head _) (fun h2 o2 F2 N2 T2 => ?_)
        dsimp only at N2 ⊢
        k_steps
        refine bis_left (News.isList (by assumption) (List.Mem.head _)) hi (by omega) (by ktr_units) (places_sorted _ _) (fun r tr tk hr b1 b2 => ?_)
        k_steps
        · rename News _ _ _ _ => nE
          exact hret _ _ _ _ ⟨(due_left (okAt_beyond hm0) b1 b2).1 _ (by omega), [(_, listOf vs.toArray c), (_, tupOf mk tm false)], o2, _, rfl, T2, fresh2 hl1 hl2⟩ (by assumption) (news_sub nE (fun q hq => hq))
        · rename News _ _ _ _ => nE
          exact hret _ _ _ _ ⟨(due_left (okAt_beyond hm0) b1 b2).2 (by omega), [(_, listOf vs.toArray c), (_, tupOf mk tm false)], o2, _, rfl, T2, fresh2 hl1 hl2⟩ (by assumption) (news_sub nE (fun q hq => hq))
      · k_fold
        have hj3 := hits_lt hm0 hj
        have hsz : vs.toArray.size ≤ sizeLine := by
          rw [sizeLine_eq, List.size_toArray, hi.length]
          have := hpl j (by omega)
          omega
        k_with "call ref" => ((k_dflt refine call_use (by k_asm) (by k_asm) (by k_asm) (by k_asm) (by k_asm) (by first | exact rfl | assumption) (closer_ok w mean mg mb base x mk _ _ _ j _ hx hg hm0 hm1 hj3) (by ktr_room) (by ktr_units) ?_); (rintro v9 news9 h9 tk9 ⟨rfl, hnews⟩ F9 N9); (subst hnews); dsimp only at N9 ⊢)
        k_with "call builtin:list.append" => ((refine append_K (by k_asm) (by k_asm) (Upd.head (offs hl2)) (fun h8 F8 N8 => ?_) hsz); simp only [List.push_toArray] at N8)
        k_steps
        k_with_none
        dsimp only [WLPost]
        exact WLEnd.intro _ (vs ++ [Value.int (j : Int) ts]) (by assumption) (by assumption) (fun q hq => List.Mem.tail _ hq) (List.Mem.head _) (by rfl) (fun z z1 => by simp [z1]) ⟨_, IntsAre.append hi (IntsAre.cons _ _ .nil), sought_yes hm0 hj3 (okAt_plain hj)⟩ (sought_less hm0 hj3)
    · k_with "exec While Compare cons nil" => refine Hold.out ?_
      k_steps
      k_with_none
      unfold Hold
      rename _ ∧ _ ∧ _ ∧ _ ∧ AllLt _ _ => hl2
      (rename Fr _ _ _ _ => lF'); (rename News _ _ _ _ => lN')
      refine whileL (Str.ofString "start") _ (fun x₁ vs => ∃ ns, IntsAre vs ns ∧ Sought x mk true x₁ ns) (fun x₁ => if x₁ < 0 then 0 else ((x.length : Int) + 1 - x₁).toNat) (vs₀ := []) lF' lN' (by rfl) ⟨[], .nil, sought_start hm0⟩ ?_
      rintro st ts vs c h1 tk1 ⟨ns, hi, hS⟩ F1 N1
      clear lF' lN'
      rcases hS with ⟨rfl, rfl⟩ | ⟨j, rfl, hj, rfl⟩
      · k_fold
        k_steps
        refine tab_set T0 (by k_asm) (by k_asm) (UpdF.tail (Nat.ne_of_gt hl2.2.2.2.1) (UpdF.tail (Nat.ne_of_gt hl1.2.2.1) (UpdF.tail hse (UpdF.tail hde (UpdF.head hre))))) (fun q hq => List.Mem.tail _ (List.Mem.tail _ (List.Mem.tail _ (List.Mem.tail _ (List.Mem.tail _ (hR q hq)))))) (List.Mem.tail _ (List.Mem.head _)) (by ktr_units) hmk hi hA ((_, listOf vs.toArray c) :: (_, tupOf mk tm true) :: R) (fun q hq => List.Mem.tail _ (List.Mem.tail _ hq)) (List.Mem.tail _ (List.Mem.head _)) (List.Mem.head _) (fun h2 o2 F2 N2 T2 => ?_)
        dsimp only at N2 ⊢
        k_steps
        refine bis_right (News.isList (by assumption) (List.Mem.head _)) hi (by omega) (by ktr_units) (places_sorted _ _) (fun r tr tk hr b1 b2 => ?_)
        k_steps
        · rename News _ _ _ _ => nE
          exact hret _ _ _ _ ⟨(due_right (okAt_beyond hm0) b1 b2).1 _ (by omega), [(_, listOf vs.toArray c), (_, tupOf mk tm true)], o2, _, rfl, T2, fresh2 hl1 hl2⟩ (by assumption) (news_sub nE (fun q hq => hq))
        · rename News _ _ _ _ => nE
          exact hret _ _ _ _ ⟨(due_right (okAt_beyond hm0) b1 b2).2 (by omega), [(_, listOf vs.toArray c), (_, tupOf mk tm true)], o2, _, rfl, T2, fresh2 hl1 hl2⟩ (by assumption) (news_sub nE (fun q hq => hq))
      · k_fold
        have hj3 := hits_lt hm0 hj
        have hsz : vs.toArray.size ≤ sizeLine := by
          rw [sizeLine_eq, List.size_toArray, hi.length]
          have := hpl j (by omega)
          omega
        k_with "call ref" => ((k_dflt refine call_use (by k_asm) (by k_asm) (by k_asm) (by k_asm) (by k_asm) (by first | exact rfl | assumption) (closer_ok w mean mg mb base x mk _ _ _ j _ hx hg hm0 hm1 hj3) (by ktr_room) (by ktr_units) ?_); (rintro v9 news9 h9 tk9 ⟨rfl, hnews⟩ F9 N9); (subst hnews); dsimp only at N9 ⊢)
        k_with "call builtin:list.append" => ((refine append_K (by k_asm) (by k_asm) (Upd.head (offs hl2)) (fun h8 F8 N8 => ?_) hsz); simp only [List.push_toArray] at N8)
        k_steps
        k_with_none
        · dsimp only [WLPost]
          exact WLEnd.intro _ (vs ++ [Value.int (j : Int) ts]) (by assumption) (by assumption) (fun q hq => List.Mem.tail _ hq) (List.Mem.head _) (by rfl) (fun z z1 => by simp [z1]) ⟨_, IntsAre.append hi (IntsAre.cons _ _ .nil), sought_yes hm0 hj3 (okAt_yes hj (by assumption))⟩ (sought_less hm0 hj3)
        · dsimp only [WLPost]
          exact WLEnd.intro _ vs (by assumption) (by assumption) (fun q hq => List.Mem.tail _ hq) (List.Mem.head _) (by rfl) (fun z z1 => by simp [z1]) ⟨_, hi, sought_no hm0 hj3 (okAt_not (by assumption))⟩ (sought_less hm0 hj3)
end Mine
namespace Mine
set_option maxRecDepth 100000
local macro_rules | `(tactic| k_all) => `(tactic| assumption)

theorem call_useK {w : World} {mean : ExcName → Option Value} {mg mb : Str → Option Value} {k : Nat} {base : Heap} {f : Addr} {args : List Value} {kw : List (Str × Value)} {news : List (Addr × Obj)} {Res : Value → List (Addr × Obj) → Prop}
    {dp un : Nat} {gd : Option (List Code)} {cn : Str} {cs : Scope} {a : Addr} {ccd : Value} {cl : List (Str × Addr)} {outer : List Env} {A₀ : Around} {h₀ : Heap} {L : Addr} {m : Str → Option Value} {s : Shared} {Q E : Value → Shared → Prop}
    (B : Below A₀ base outer h₀) (F : Fr h₀ L s.heap m) (X : (hd.heap_39 w.params).In h₀) (N : News h₀ L s.heap news)
    (T : Top hd.view_39 (looseW hd.view_39 [Str.ofString "DelimiterScanner", Str.ofString "_law_pieces", Str.ofString "_law_markers"]) mean mg mb h₀) (hk : cs.kind = .function)
    (C : CallKw w mean mg mb k base f args kw news Res) (hd : dp + k < recursionLimit) (hu : un + 8 * k < cLine)
    (ret : ∀ v news' h' tk', Res v news' → Fr h₀ L h' m → News h₀ L h' news' → Q v { s with heap := h', toks := tk' }) :
    wpAny (model PySem.Challenge.rw_br5018_01.row.prog w) (ktrTop dp un gd cn cs L a ccd cl outer) (call (.ref f) args kw) Q E s :=
  C dp un gd cn cs a ccd cl outer A₀ h₀ L m s Q E B F X N T hk hd hu ret
theorem due_both {g : Nat → Bool} {K : Nat} {v u : Value} (h1 : Due g K v) (h2 : Due g K u) : (∃ (j : Nat) (t t' : Tok), v = .int (j : Int) t ∧ u = .int (j : Int) t') ∨ (v = .none ∧ u = .none) := by
  rcases h1 with ⟨j, t, rfl, a1, a2, a3⟩ | ⟨rfl, a3⟩ <;> rcases h2 with ⟨j', t', rfl, b1, b2, b3⟩ | ⟨rfl, b3⟩
  · have : j = j' := by
      rcases Nat.lt_trichotomy j j' with h | h | h
      · rw [b3 j a1 h] at a2; cases a2
      · exact h
      · rw [a3 j' b1 h] at b2; cases b2
    subst this
    exact .inl ⟨j, t, t', rfl, rfl⟩
  · rw [b3 j a1] at a2; cases a2
  · rw [a3 j' b1] at b2; cases b2
  · exact .inr ⟨rfl, rfl⟩

abbrev questOf (mk : Str) (tm : Tok) (pl : Int) (tp : Tok) (fl : Bool) : Obj := { cls := .type "tuple", data := .seq #[.str mk tm, .int pl tp, .bool fl] }
/-- what asked leaves -/
def AskRes (w : World) (x : Str) (sc dx e tq : Addr) (dobj qobj : Obj) (rest R : List (Addr × Obj)) (o : Obj) (v : Value) (news' : List (Addr × Obj)) : Prop :=
  v = .bool true ∧ ∃ new o' xs', news' = (tq, qobj) :: (sc, instObj 81 dx) :: (dx, dobj) :: (e, o') :: (new ++ rest) ∧ Tab w x (new ++ R) o' xs' ∧ ∀ q ∈ new, ∀ r ∈ (sc, instObj 81 dx) :: (dx, dobj) :: (e, o) :: (tq, qobj) :: rest, r.1 < q.1
set_option maxHeartbeats 8000000 in
theorem asked_ok1 (w : World) (mean : ExcName → Option Value) (mg mb : Str → Option Value) (base : Heap) (x mk : Str) (tx tx2 tp tm t1 t2 t3 : Tok) (p : Int) (f : Bool) (sc dx e tq : Addr) (o : Obj) (rest R : List (Addr × Obj))
    (xs : List (List (Str ⊕ Bool) × Addr × Value)) (hx : x.length ≤ 96) (hg : ∀ c ∈ nums x, c ∈ signs) (hmk : mk ∈ markers) (T0 : Tab w x R o xs) (hR : ∀ q ∈ R, q ∈ rest) (lo : (e == sysModules) = false) (hse : sc ≠ e) (hde : dx ≠ e) (hqe : tq ≠ e) (hre : ∀ q ∈ rest, q.1 ≠ e) :
    CallOk w mean mg mb 4 base 143 [.ref sc, .str x tx2, .ref tq] ((tq, questOf mk tm p tp f) :: (sc, instObj 81 dx) :: (dx, scanDict w x tx t1 t2 t3 e) :: (e, o) :: rest)
      (AskRes w x sc dx e tq (scanDict w x tx t1 t2 t3 e) (questOf mk tm p tp f) rest R o) := by
  obtain ⟨hm0, hm1⟩ := markers_len hmk
  unfold CallOk
  k_fill
  intro dp un gd cn cs a ccd cl outer A₀ h₀ L m s Q E B F X N T hk hd hu hret
  unfold scanDict at N
  refine wpAny_call ?_
  k_dflt (refine' code_def (binds := [(Str.ofString "scanner", Value.ref sc), (Str.ofString "text", Value.str x tx2), (Str.ofString "question", Value.ref tq)]) ?k1 ?k2 ?k3 ?k4 ?k5 ?kA ?kF ?kK ?k6 ?k7 ?k8 ?k9 ?kB ?_ ?c2 ?c3 ?c4 ?c5; (case kA => exact rfl); (case kF => exact rfl); (case kK => assumption); (case k1 => k_asm); (case k2 => k_asm); (case k3 => k_asm); (case k4 => k_asm); (case k5 => k_asm); (case k6 => k_is); (case k7 => k_is); (case k8 => ktr_room); (case k9 => exact BindsTo.of_eq rfl); (case c5 => decide); (case kB => exact locs rfl); (case c2 => exact rfl); (case c3 => exact rfl); (case c4 => exact rfl); k_whole; intro g' L' h' FG' F' N' B' X' T'; (try dsimp only); (try k_lift B'); (try k_fold))
  k_steps
  rename News _ _ _ _ => nw1
  have N2 := news_sub (news' := (sc, instObj 81 dx) :: (dx, scanDict w x tx t1 t2 t3 e) :: (e, o) :: (tq, questOf mk tm p tp f) :: rest) nw1 (by
    intro q hq
    rcases List.mem_cons.mp hq with rfl | hq
    · exact .tail _ (.head _)
    · rcases List.mem_cons.mp hq with rfl | hq
      · exact .tail _ (.tail _ (.head _))
      · rcases List.mem_cons.mp hq with rfl | hq
        · exact .tail _ (.tail _ (.tail _ (.head _)))
        · rcases List.mem_cons.mp hq with rfl | hq
          · exact .head _
          · exact .tail _ (.tail _ (.tail _ (.tail _ hq))))
  clear nw1
  k_dflt refine call_useK (by k_asm) (by k_asm) (by k_asm) N2 (by k_asm) (by first | exact rfl | assumption) (find_ok1 w mean mg mb base x mk tx _ _ t1 t2 t3 p f sc dx e o ((tq, questOf mk tm p tp f) :: rest) R xs hx hg hmk T0 (fun q hq => List.Mem.tail _ (hR q hq)) lo hse hde (List.forall_mem_cons.mpr ⟨hqe, hre⟩)) (by ktr_room) (by ktr_units) ?_
  rintro v news9 h9 tk9 ⟨hdue, new, o', xs', rfl, T1, hfr⟩ F9 N9
  have N3 := news_sub (news' := (tq, questOf mk tm p tp f) :: (sc, instObj 81 dx) :: (dx, scanDict w x tx t1 t2 t3 e) :: (e, o') :: (new ++ rest)) N9 (by
    intro q hq
    rcases List.mem_cons.mp hq with rfl | hq
    · exact List.mem_append.mpr (.inr (.tail _ (.tail _ (.tail _ (.head _)))))
    · rcases List.mem_cons.mp hq with rfl | hq
      · exact List.mem_append.mpr (.inr (.head _))
      · rcases List.mem_cons.mp hq with rfl | hq
        · exact List.mem_append.mpr (.inr (.tail _ (.head _)))
        · rcases List.mem_cons.mp hq with rfl | hq
          · exact List.mem_append.mpr (.inr (.tail _ (.tail _ (.head _))))
          · exact List.mem_append.mpr ((List.mem_append.mp hq).imp id fun h => .tail _ (.tail _ (.tail _ (.tail _ h)))))
  clear N9
  dsimp only
  k_steps
  k_dflt refine call_use (by k_asm) (by k_asm) (by k_asm) (by k_asm) (by k_asm) (by first | exact rfl | assumption) (due_ok w mean mg mb base x mk _ _ _ p f _ hx hm0 hm1) (by ktr_room) (by ktr_units) ?_
  rintro u news8 h8 tk8 ⟨hdue2, rfl⟩ F8 N8
  dsimp only
  rcases due_both hdue hdue2 with ⟨j, ta, tb, rfl, rfl⟩ | ⟨rfl, rfl⟩
  · k_steps
    · exact hret _ _ _ _ ⟨rfl, new, o', xs', rfl, T1, hfr⟩ (by assumption) (by assumption)
    · exfalso
      omega
  · k_steps
    exact hret _ _ _ _ ⟨rfl, new, o', xs', rfl, T1, hfr⟩ (by assumption) (by assumption)
end Mine
namespace Mine
set_option maxRecDepth 100000
section
variable {prog : Program} {w : World} {A : Around} {E : Value → Shared → Prop} {s : Shared} {env : Env} {h₀ : Heap} {x : Str} {body : List Stmt} {Q : Flow → Shared → Prop}
/-- a for over a range whose turns make what is kept: the word speaks of the frame's names and of what is known of the heap -/
theorem range_grow {r : Addr} {a₀ b₀ : Int} {t₀ u₀ v₀ : Tok} {n : Nat} {m₀ : Str → Option Value} {news : List (Addr × Obj)} (J : (Str → Option Value) → List (Addr × Obj) → Prop)
    (hh : A.handled = none) (hr : IsRange s.heap r a₀ b₀ 1 t₀ u₀ v₀) (hsmall : Builtin.Range.small a₀ b₀ 1 = true) (hn : Builtin.Range.rangeSize a₀ b₀ 1 = (n : Int)) (F : Fr h₀ env.locals s.heap m₀) (N : News h₀ env.locals s.heap news) (hj : J m₀ news)
    (turn : ∀ v m₁ nx h tk own, TbOff own nx → J m₁ nx → Fr h₀ env.locals h (fun y => if y = x then some v else m₁ y) → News h₀ env.locals h (nx ++ own) →
      wpAny (model prog w) A (execs body env) (TbPost h₀ env.locals J own { s with heap := h, toks := tk } Q) E { s with heap := h, toks := tk })
    (done : ∀ m₁ nx h tk, J m₁ nx → Fr h₀ env.locals h m₁ → News h₀ env.locals h nx → Q .next { s with heap := h, toks := tk }) :
    wpAny (model prog w) A (pyIter (.ref r)) (fun it s₂ => LoopAtV prog w A h₀ env x body Q E it s₂) E s := by
  refine wpAny_pyIter_range hr hsmall ?_
  have W : Walks prog w A s.heap.objs.size [s.heap.objs.size] [s.heap.objs.size] n (fun i v => i < n ∧ ∃ t, v = .int (a₀ + i * 1) t)
      (fun i h => IsRangeIter h s.heap.objs.size (a₀ + (i : Nat) * 1) ((n : Int) - (i : Nat)) 1) := (Walks.range hh _ a₀ 1 n).bound
  refine ⟨_, _, _, n, _, _, m₀, news, fun _ => J, rfl, W, ?_, ?_, ?_, (by show IsRangeIter _ _ _ _ _; rw [hn]; simpa using Heap.get?_push_size _ rfl), F.push _, (fun p hp => ⟨Heap.get?_push_of_some _ (N p hp).1, (N p hp).2⟩), hj, ?_, ?_⟩
  · intro hm
    exact absurd F.ns.lt ((List.mem_singleton.mp hm) ▸ Nat.lt_irrefl _)
  · intro b hb
    rw [List.mem_singleton.mp hb]
    exact next_is_new F
  · intro p hp hI
    exact absurd (Heap.lt_size (N p hp).1) ((List.mem_singleton.mp hI) ▸ Nat.lt_irrefl _)
  · rintro i v m₁ news₁ s₁ own ⟨hh', tk', rfl⟩ hin hP hJ hoff hown _ hmem hst F₁ N₁
    have hI : ∃ oi, (s.heap.objs.size, oi) ∈ own := ⟨_, hmem _ (.head _) (next_is_new F) _ hst⟩
    obtain ⟨oi, hI⟩ := hI
    have hsep : TbOff own news₁ := by
      intro p hp q hq e
      exact hoff q hq (by rw [← e]; exact hown p hp)
    have N₂ : News h₀ env.locals hh' (news₁ ++ own) := fun p hp => N₁ p ((List.mem_append.mp hp).elim (fun h => List.mem_append.mpr (.inr h)) fun h => List.mem_append.mpr (.inl h))
    refine wpAny_mono (turn v m₁ news₁ hh' tk' own hsep hJ F₁ N₂) (fun f s₂ p => ?_) fun _ _ e => e
    have fin : TbEnd h₀ env.locals J own { s with heap := hh', toks := tk' } s₂ → LoopStepU h₀ env.locals [s.heap.objs.size] own J { s with heap := hh', toks := tk' } .next s₂ := by
      rintro ⟨h', tk, m', news', nx, e, F', N', hn, ho, ha, hm⟩
      exact ⟨rfl, h', tk, m', nx, e, F', fun p hp => N' p ((List.mem_append.mp hp).elim (ho p) (hn p)), fun p hp hq => ha _ hI p hp (List.mem_singleton.mp hq).symm, hm⟩
    cases f with
    | ret v => exact .ret p
    | brk => exact .brk p
    | next => exact .next (fin p)
    | cont => exact .cont (fin p)
  · rintro h' tk m' news' F' N' _ hJ
    exact done m' news' h' tk hJ F' N'
end
end Mine
namespace Mine
set_option maxRecDepth 100000
local macro_rules | `(tactic| k_all) => `(tactic| assumption)

theorem Tab.empty {w : World} {x : Str} {rest : List (Addr × Obj)} {o : Obj} {K' : Type} [DecidableEq K'] {knd' : KeyKind PySem.Challenge.rw_br5018_01.row.prog w K'} (hd : o.IsDictOf knd' []) : Tab w x rest o [] := by
  obtain ⟨es, ep, hc, hdat, _, hp, _⟩ := hd
  have he : es.toList = [] := List.length_eq_zero_iff.mp hp.length
  exact ⟨hc, ⟨es, ep, hdat, he⟩, List.nodup_nil, fun _ hy => (nomatch hy), fun _ hy => (nomatch hy)⟩
set_option maxHeartbeats 4000000 in
theorem new_ok (w : World) (mean : ExcName → Option Value) (mg mb : Str → Option Value) (base : Heap) (x : Str) (tx : Tok) (news : List (Addr × Obj)) :
    CallOk w mean mg mb 2 base 81 [.str x tx] news
      (fun v news' => ∃ sc dx e o t1 t2 t3, v = .ref sc ∧ news' = (e, o) :: (sc, instObj 81 dx) :: (dx, scanDict w x tx t1 t2 t3 e) :: news ∧ (∀ rest, Tab w x rest o []) ∧ (e == sysModules) = false ∧ dx < sc ∧ sc < e ∧ ∀ q ∈ news, q.1 < dx) := by
  unfold CallOk
  k_fill
  intro dp un gd cn cs a ccd cl outer A₀ h₀ L m s Q E B F X N T hk hd hu hret
  k_dflt (refine' call_cls ?k1 ?k2 ?k3 ?k4 ?k5 ?k6 ?_; (case k1 => k_asm); (case k2 => k_asm); (case k3 => k_asm); (case k4 => k_is); (case k5 => k_is); (case k6 => k_is); k_whole; intro x' d' h' F' N' l1 l2; (try k_lt l1); (try k_lt2 l2); (try k_sweep))
  k_dflt (refine' code_def (binds := [(Str.ofString "self", Value.ref x'), (Str.ofString "src", Value.str x tx)]) ?k1 ?k2 ?k3 ?k4 ?k5 ?kA ?kF ?kK ?k6 ?k7 ?k8 ?k9 ?kB ?_ ?c2 ?c3 ?c4 ?c5; (case kA => exact rfl); (case kF => exact rfl); (case kK => assumption); (case k1 => k_asm); (case k2 => k_asm); (case k3 => k_asm); (case k4 => k_asm); (case k5 => k_asm); (case k6 => k_is); (case k7 => k_is); (case k8 => ktr_room); (case k9 => exact BindsTo.of_eq rfl); (case c5 => decide); (case kB => exact locs rfl); (case c2 => exact rfl); (case c3 => exact rfl); (case c4 => exact rfl); k_whole; intro g' L' h' FG' F' N' B' X' T'; (try dsimp only); (try k_lift B'); (try k_fold))
  k_steps
  rename _ ∧ _ ∧ AllLt _ _ => hl3
  rename Obj.IsDictOf _ _ _ => hdi
  rename (_ == sysModules) = false => lo9
  exact hret _ _ _ _ ⟨x', d', _, _, _, _, _, rfl, rfl, fun rest => Tab.empty hdi, lo9, l2, hl3.1, l1⟩ (by assumption) (by assumption)
end Mine
namespace Mine
set_option maxRecDepth 100000
local macro_rules | `(tactic| k_all) => `(tactic| assumption)

/-- what the law keeps: the box, the two tables, what never changes, and what was made on the way -/
abbrev Led (b : Addr) (ob : Obj) (e1 : Addr) (o1 : Obj) (e2 : Addr) (o2 : Obj) (fx rest : List (Addr × Obj)) : List (Addr × Obj) := (b, ob) :: (e1, o1) :: (e2, o2) :: (fx ++ rest)
def Apart (b e1 e2 : Addr) (l : List (Addr × Obj)) : Prop := b ≠ e1 ∧ b ≠ e2 ∧ e1 ≠ e2 ∧ ∀ q ∈ l, q.1 ≠ b ∧ q.1 ≠ e1 ∧ q.1 ≠ e2
def Over (b e1 e2 : Addr) (l : List (Addr × Obj)) (q : Addr × Obj) : Prop := b < q.1 ∧ e1 < q.1 ∧ e2 < q.1 ∧ ∀ r ∈ l, r.1 < q.1
theorem addr_ne {a b : Addr} (h : a < b) : b ≠ a := fun e => absurd h (e ▸ Nat.lt_irrefl _)
theorem Apart.add {b e1 e2 : Addr} {fx rest add : List (Addr × Obj)} (h : Apart b e1 e2 (fx ++ rest)) (ha : ∀ q ∈ add, Over b e1 e2 (fx ++ rest) q) : Apart b e1 e2 (fx ++ (add ++ rest)) := by
  obtain ⟨h1, h2, h3, h4⟩ := h
  refine ⟨h1, h2, h3, fun q hq => ?_⟩
  rcases List.mem_append.mp hq with hq | hq
  · exact h4 q (List.mem_append.mpr (.inl hq))
  · rcases List.mem_append.mp hq with hq | hq
    · obtain ⟨a1, a2, a3, _⟩ := ha q hq
      exact ⟨addr_ne a1, addr_ne a2, addr_ne a3⟩
    · exact h4 q (List.mem_append.mpr (.inr hq))
theorem Apart.own {b e1 e2 : Addr} {ob o1 o2 : Obj} {fx rest own : List (Addr × Obj)} (h : Apart b e1 e2 (fx ++ rest)) (ho : TbOff own (Led b ob e1 o1 e2 o2 fx rest)) : Apart b e1 e2 (fx ++ (rest ++ own)) := by
  obtain ⟨h1, h2, h3, h4⟩ := h
  refine ⟨h1, h2, h3, fun q hq => ?_⟩
  rcases List.mem_append.mp hq with hq | hq
  · exact h4 q (List.mem_append.mpr (.inl hq))
  · rcases List.mem_append.mp hq with hq | hq
    · exact h4 q (List.mem_append.mpr (.inr hq))
    · exact ⟨ho q hq _ (.head _), ho q hq _ (.tail _ (.head _)), ho q hq _ (.tail _ (.tail _ (.head _)))⟩

section
variable (w : World) (mean : ExcName → Option Value) (mg mb : Str → Option Value) (base : Heap)
theorem drawL {l b e1 e2 : Addr} {vs : List Value} {ns : List Int} {z : Int} {tz : Tok} {ob o1 o2 : Obj} {fx rest : List (Addr × Obj)}
    (hl : base.IsList l vs.toArray) (hi : IntsAre vs ns) (hn : ns.length ≤ 63) (hB : Box l ob) (hz : 0 < z) (hA : Apart b e1 e2 (fx ++ rest)) :
    CallOk w mean mg mb 1 base 101 [.ref b, .int z tz] (Led b ob e1 o1 e2 o2 fx rest)
      (fun v news' => ∃ x tv ob', v = .int x tv ∧ 0 ≤ x ∧ x < z ∧ Box l ob' ∧ news' = Led b ob' e1 o1 e2 o2 fx rest) :=
  draw_ok1 w mean mg mb base l b vs ns z tz ob ((e1, o1) :: (e2, o2) :: (fx ++ rest)) hl hi hn hB hz
    (List.forall_mem_cons.mpr ⟨hA.1.symm, List.forall_mem_cons.mpr ⟨hA.2.1.symm, fun q hq => (hA.2.2.2 q hq).1⟩⟩)
theorem questL {l b e1 e2 : Addr} {vs : List Value} {ns : List Int} {x : Str} {tx : Tok} {ob o1 o2 : Obj} {fx rest : List (Addr × Obj)}
    (hl : base.IsList l vs.toArray) (hi : IntsAre vs ns) (hn : ns.length ≤ 63) (hB : Box l ob) (hx : x.length ≤ 96) (hA : Apart b e1 e2 (fx ++ rest)) :
    CallOk w mean mg mb 3 base 136 [.ref b, .ref l, .str x tx] (Led b ob e1 o1 e2 o2 fx rest)
      (fun v news' => ∃ t mk tm pl tp fl ob', v = .ref t ∧ mk ∈ markers ∧ Box l ob' ∧ Over b e1 e2 (fx ++ rest) (t, questOf mk tm pl tp fl) ∧ news' = Led b ob' e1 o1 e2 o2 fx ((t, questOf mk tm pl tp fl) :: rest)) := by
  intro dp un gd cn cs a ccd cl outer A₀ h₀ L m s Q E B F X N T hk hd hu hret
  refine quest_ok1 w mean mg mb base l b vs ns x tx ob ((e1, o1) :: (e2, o2) :: (fx ++ rest)) hl hi hn hB hx (List.forall_mem_cons.mpr ⟨hA.1.symm, List.forall_mem_cons.mpr ⟨hA.2.1.symm, fun q hq => (hA.2.2.2 q hq).1⟩⟩) dp un gd cn cs a ccd cl outer A₀ h₀ L m s Q E B F X N T hk hd hu ?_
  rintro v news' h' tk' ⟨t, mk, tm, pl, tp, fl, o', rfl, a1, a2, a3, rfl⟩ F' N'
  refine hret _ _ _ _ ⟨t, mk, tm, pl, tp, fl, o', rfl, a1, a2, ⟨a3 _ (.head _), a3 _ (.tail _ (.head _)), a3 _ (.tail _ (.tail _ (.head _))), fun r hr => a3 r (.tail _ (.tail _ (.tail _ hr)))⟩, rfl⟩ F' (news_sub N' ?_)
  intro p hp
  rcases List.mem_cons.mp hp with rfl | hp
  · exact .tail _ (.head _)
  · rcases List.mem_cons.mp hp with rfl | hp
    · exact .tail _ (.tail _ (.head _))
    · rcases List.mem_cons.mp hp with rfl | hp
      · exact .tail _ (.tail _ (.tail _ (.head _)))
      · rcases List.mem_append.mp hp with hp | hp
        · exact .tail _ (.tail _ (.tail _ (.tail _ (List.mem_append.mpr (.inl hp)))))
        · rcases List.mem_cons.mp hp with rfl | hp
          · exact .head _
          · exact .tail _ (.tail _ (.tail _ (.tail _ (List.mem_append.mpr (.inr hp)))))

theorem asked1 {x mk : Str} {tx tx2 tp tm t1 t2 t3 : Tok} {p : Int} {f : Bool} {sc dx b e1 e2 tq : Addr} {ob o1 o2 : Obj} {fx rest R : List (Addr × Obj)} {xs : List (List (Str ⊕ Bool) × Addr × Value)}
    (hx : x.length ≤ 96) (hg : ∀ c ∈ nums x, c ∈ signs) (hmk : mk ∈ markers) (T0 : Tab w x R o1 xs) (hR : ∀ q ∈ R, q ∈ rest) (lo : (e1 == sysModules) = false)
    (hs : (sc, instObj 81 dx) ∈ fx) (hd : (dx, scanDict w x tx t1 t2 t3 e1) ∈ fx) (hq : (tq, questOf mk tm p tp f) ∈ fx ++ rest) (hA : Apart b e1 e2 (fx ++ rest)) :
    CallOk w mean mg mb 4 base 143 [.ref sc, .str x tx2, .ref tq] (Led b ob e1 o1 e2 o2 fx rest)
      (fun v news' => v = .bool true ∧ ∃ new o' xs', news' = Led b ob e1 o' e2 o2 fx (new ++ rest) ∧ Tab w x (new ++ R) o' xs' ∧ ∀ q ∈ new, Over b e1 e2 (fx ++ rest) q) := by
  intro dp un gd cn cs a ccd cl outer A₀ h₀ L m s Q E B F X N T hk hdp hu hret
  have hA4 := hA.2.2.2
  refine asked_ok1 w mean mg mb base x mk tx tx2 tp tm t1 t2 t3 p f sc dx e1 tq o1 ((b, ob) :: (e2, o2) :: (fx ++ rest)) R xs hx hg hmk T0 (fun q hq => .tail _ (.tail _ (List.mem_append.mpr (.inr (hR q hq))))) lo
    (hA4 _ (List.mem_append.mpr (.inl hs))).2.1 (hA4 _ (List.mem_append.mpr (.inl hd))).2.1 (hA4 _ hq).2.1
    (List.forall_mem_cons.mpr ⟨hA.1, List.forall_mem_cons.mpr ⟨hA.2.2.1.symm, fun q hq => (hA4 q hq).2.1⟩⟩) dp un gd cn cs a ccd cl outer A₀ h₀ L m s Q E B F X (news_sub N ?_) T hk hdp hu ?_
  · intro q h
    rcases List.mem_cons.mp h with rfl | h
    · exact .tail _ (.tail _ (.tail _ hq))
    · rcases List.mem_cons.mp h with rfl | h
      · exact .tail _ (.tail _ (.tail _ (List.mem_append.mpr (.inl hs))))
      · rcases List.mem_cons.mp h with rfl | h
        · exact .tail _ (.tail _ (.tail _ (List.mem_append.mpr (.inl hd))))
        · rcases List.mem_cons.mp h with rfl | h
          · exact .tail _ (.head _)
          · rcases List.mem_cons.mp h with rfl | h
            · exact .head _
            · exact .tail _ (.tail _ h)
  · rintro v news' h' tk' ⟨rfl, new, o', xs', rfl, a1, a2⟩ F' N'
    refine hret _ _ _ _ ⟨rfl, new, o', xs', rfl, a1, fun q hq => ⟨a2 q hq _ (.tail _ (.tail _ (.tail _ (.tail _ (.head _))))), a2 q hq _ (.tail _ (.tail _ (.head _))), a2 q hq _ (.tail _ (.tail _ (.tail _ (.tail _ (.tail _ (.head _)))))), fun r hr => a2 q hq r (.tail _ (.tail _ (.tail _ (.tail _ (.tail _ (.tail _ hr))))))⟩⟩ F' (news_sub N' ?_)
    intro q h
    rcases List.mem_cons.mp h with rfl | h
    · exact .tail _ (.tail _ (.tail _ (.tail _ (List.mem_append.mpr (.inr (.head _))))))
    · rcases List.mem_cons.mp h with rfl | h
      · exact .tail _ (.tail _ (.tail _ (.head _)))
      · rcases List.mem_cons.mp h with rfl | h
        · exact .tail _ (.tail _ (.tail _ (.tail _ (List.mem_append.mpr (.inr (.tail _ (.head _)))))))
        · rcases List.mem_append.mp h with h | h
          · exact .tail _ (.tail _ (.tail _ (.tail _ (List.mem_append.mpr (.inr (.tail _ (.tail _ (List.mem_append.mpr (.inl h)))))))))
          · rcases List.mem_append.mp h with h | h
            · exact .tail _ (.tail _ (.tail _ (.tail _ (List.mem_append.mpr (.inl h)))))
            · exact .tail _ (.tail _ (.tail _ (.tail _ (List.mem_append.mpr (.inr (.tail _ (.tail _ (List.mem_append.mpr (.inr h)))))))))
theorem led_swap {b e1 e2 : Addr} {ob o1 o2 : Obj} {fx rest : List (Addr × Obj)} : ∀ p ∈ Led b ob e2 o2 e1 o1 fx rest, p ∈ Led b ob e1 o1 e2 o2 fx rest := by
  intro p h
  rcases List.mem_cons.mp h with rfl | h
  · exact .head _
  · rcases List.mem_cons.mp h with rfl | h
    · exact .tail _ (.tail _ (.head _))
    · rcases List.mem_cons.mp h with rfl | h
      · exact .tail _ (.head _)
      · exact .tail _ (.tail _ (.tail _ h))
theorem asked2 {x mk : Str} {tx tx2 tp tm t1 t2 t3 : Tok} {p : Int} {f : Bool} {sc dx b e1 e2 tq : Addr} {ob o1 o2 : Obj} {fx rest R : List (Addr × Obj)} {xs : List (List (Str ⊕ Bool) × Addr × Value)}
    (hx : x.length ≤ 96) (hg : ∀ c ∈ nums x, c ∈ signs) (hmk : mk ∈ markers) (T0 : Tab w x R o2 xs) (hR : ∀ q ∈ R, q ∈ rest) (lo : (e2 == sysModules) = false)
    (hs : (sc, instObj 81 dx) ∈ fx) (hd : (dx, scanDict w x tx t1 t2 t3 e2) ∈ fx) (hq : (tq, questOf mk tm p tp f) ∈ fx ++ rest) (hA : Apart b e1 e2 (fx ++ rest)) :
    CallOk w mean mg mb 4 base 143 [.ref sc, .str x tx2, .ref tq] (Led b ob e1 o1 e2 o2 fx rest)
      (fun v news' => v = .bool true ∧ ∃ new o' xs', news' = Led b ob e1 o1 e2 o' fx (new ++ rest) ∧ Tab w x (new ++ R) o' xs' ∧ ∀ q ∈ new, Over b e1 e2 (fx ++ rest) q) := by
  intro dp un gd cn cs a ccd cl outer A₀ h₀ L m s Q E B F X N T hk hdp hu hret
  refine asked1 w mean mg mb base (b := b) (ob := ob) (e1 := e2) (o1 := o2) (e2 := e1) (o2 := o1) (tx2 := tx2) hx hg hmk T0 hR lo hs hd hq ⟨hA.2.1, hA.1, hA.2.2.1.symm, fun q hq => let ⟨a, b, c⟩ := hA.2.2.2 q hq; ⟨a, c, b⟩⟩ dp un gd cn cs a ccd cl outer A₀ h₀ L m s Q E B F X (news_sub N led_swap) T hk hdp hu ?_
  rintro v news' h' tk' ⟨rfl, new, o', xs', rfl, a1, a2⟩ F' N'
  exact hret _ _ _ _ ⟨rfl, new, o', xs', rfl, a1, fun q hq => let ⟨a, b, c, d⟩ := a2 q hq; ⟨a, c, b, d⟩⟩ F' (news_sub N' led_swap)
end

/-- what the loop keeps -/
def LawJ (w : World) (l b e1 e2 : Addr) (x1 x2 : Str) (fx : List (Addr × Obj)) (y z : Str) (m₀ : Str → Option Value) (m : Str → Option Value) (nx : List (Addr × Obj)) : Prop :=
  (∀ k, k ≠ y → k ≠ z → m k = m₀ k) ∧ ∃ ob o1 o2 rest xs1 xs2, nx = Led b ob e1 o1 e2 o2 fx rest ∧ Box l ob ∧ Tab w x1 rest o1 xs1 ∧ Tab w x2 rest o2 xs2 ∧ Apart b e1 e2 (fx ++ rest)
theorem LawJ.end {w : World} {l b e1 e2 : Addr} {x1 x2 : Str} {fx : List (Addr × Obj)} {y z : Str} {m₀ m' : Str → Option Value} {ob o1 o2 ob' o1' o2' : Obj} {rest own add : List (Addr × Obj)} {xs1 xs2 : List (List (Str ⊕ Bool) × Addr × Value)}
    {h₀ h' : Heap} {L : Addr} {s₁ : Shared} {tk : Nat} (F : Fr h₀ L h' m') (N : News h₀ L h' (Led b ob' e1 o1' e2 o2' fx (add ++ (rest ++ own)))) (hoff : TbOff own (Led b ob e1 o1 e2 o2 fx rest)) (hadd : ∀ q ∈ add, Over b e1 e2 (fx ++ (rest ++ own)) q)
    (hB : Box l ob') (T1 : Tab w x1 (add ++ rest) o1' xs1) (T2 : Tab w x2 (add ++ rest) o2' xs2) (hA : Apart b e1 e2 (fx ++ rest)) (hm : ∀ k, k ≠ y → k ≠ z → m' k = m₀ k) :
    TbEnd h₀ L (LawJ w l b e1 e2 x1 x2 fx y z m₀) own s₁ { s₁ with heap := h', toks := tk } := by
  have sub : ∀ r ∈ fx ++ rest, r ∈ fx ++ (rest ++ own) := fun r hr => (List.mem_append.mp hr).elim (fun h => List.mem_append.mpr (.inl h)) (fun h => List.mem_append.mpr (.inr (List.mem_append.mpr (.inl h))))
  refine ⟨h', tk, m', _, Led b ob' e1 o1' e2 o2' fx (add ++ rest), rfl, F, N, ?_, ?_, ?_, hm, ob', o1', o2', add ++ rest, xs1, xs2, rfl, hB, T1, T2, hA.add fun q hq => ?_⟩
  · intro p h
    rcases List.mem_cons.mp h with rfl | h
    · exact .head _
    · rcases List.mem_cons.mp h with rfl | h
      · exact .tail _ (.head _)
      · rcases List.mem_cons.mp h with rfl | h
        · exact .tail _ (.tail _ (.head _))
        · rcases List.mem_append.mp h with h | h
          · exact .tail _ (.tail _ (.tail _ (List.mem_append.mpr (.inl h))))
          · rcases List.mem_append.mp h with h | h
            · exact .tail _ (.tail _ (.tail _ (List.mem_append.mpr (.inr (List.mem_append.mpr (.inl h))))))
            · exact .tail _ (.tail _ (.tail _ (List.mem_append.mpr (.inr (List.mem_append.mpr (.inr (List.mem_append.mpr (.inl h))))))))
  · intro p h
    exact .tail _ (.tail _ (.tail _ (List.mem_append.mpr (.inr (List.mem_append.mpr (.inr (List.mem_append.mpr (.inr h))))))))
  · intro p hp q h
    rcases List.mem_cons.mp h with rfl | h
    · exact hoff p hp (b, ob) (.head _)
    · rcases List.mem_cons.mp h with rfl | h
      · exact hoff p hp (e1, o1) (.tail _ (.head _))
      · rcases List.mem_cons.mp h with rfl | h
        · exact hoff p hp (e2, o2) (.tail _ (.tail _ (.head _)))
        · rcases List.mem_append.mp h with h | h
          · exact hoff p hp q (.tail _ (.tail _ (.tail _ (List.mem_append.mpr (.inl h)))))
          · rcases List.mem_append.mp h with h | h
            · exact (addr_ne ((hadd q h).2.2.2 p (List.mem_append.mpr (.inr (List.mem_append.mpr (.inr hp)))))).symm
            · exact hoff p hp q (.tail _ (.tail _ (.tail _ (List.mem_append.mpr (.inr h)))))
  · obtain ⟨a1, a2, a3, a4⟩ := hadd q hq
    exact ⟨a1, a2, a3, fun r hr => a4 r (sub r hr)⟩
section
variable {prog : Program} {w : World} {A : Around} {E : Value → Shared → Prop} {s : Shared} {env : Env} {h₀ : Heap} {x : Str} {body : List Stmt} {Q : Flow → Shared → Prop}
theorem law_loop {r : Addr} {a₀ b₀ : Int} {t₀ u₀ v₀ : Tok} {n : Nat} {m₀ : Str → Option Value} {l b e1 e2 : Addr} {x1 x2 : Str} {fx rest : List (Addr × Obj)} {ob o1 o2 : Obj} {xs1 xs2 : List (List (Str ⊕ Bool) × Addr × Value)} (z : Str)
    (hh : A.handled = none) (hr : IsRange s.heap r a₀ b₀ 1 t₀ u₀ v₀) (hsmall : Builtin.Range.small a₀ b₀ 1 = true) (hn : Builtin.Range.rangeSize a₀ b₀ 1 = (n : Int)) (F : Fr h₀ env.locals s.heap m₀) (N : News h₀ env.locals s.heap (Led b ob e1 o1 e2 o2 fx rest))
    (hB : Box l ob) (T1 : Tab w x1 rest o1 xs1) (T2 : Tab w x2 rest o2 xs2) (hA : Apart b e1 e2 (fx ++ rest))
    (turn : ∀ v (u : Str → Option Value) ob o1 o2 rest xs1 xs2 own h tk, TbOff own (Led b ob e1 o1 e2 o2 fx rest) → Box l ob → Tab w x1 rest o1 xs1 → Tab w x2 rest o2 xs2 → Apart b e1 e2 (fx ++ rest) →
      Fr h₀ env.locals h (fun k => if k = x then some v else if k = z then u k else m₀ k) → News h₀ env.locals h (Led b ob e1 o1 e2 o2 fx (rest ++ own)) →
      wpAny (model prog w) A (execs body env) (TbPost h₀ env.locals (LawJ w l b e1 e2 x1 x2 fx x z m₀) own { s with heap := h, toks := tk } Q) E { s with heap := h, toks := tk })
    (done : ∀ (u : Str → Option Value) ob o1 o2 rest xs1 xs2 h tk, Box l ob → Tab w x1 rest o1 xs1 → Tab w x2 rest o2 xs2 → Apart b e1 e2 (fx ++ rest) →
      Fr h₀ env.locals h (fun k => if k = x then u k else if k = z then u k else m₀ k) → News h₀ env.locals h (Led b ob e1 o1 e2 o2 fx rest) → Q .next { s with heap := h, toks := tk }) :
    wpAny (model prog w) A (pyIter (.ref r)) (fun it s₂ => LoopAtV prog w A h₀ env x body Q E it s₂) E s := by
  refine range_grow (LawJ w l b e1 e2 x1 x2 fx x z m₀) hh hr hsmall hn F N ⟨fun _ _ _ => rfl, ob, o1, o2, rest, xs1, xs2, rfl, hB, T1, T2, hA⟩ ?_ ?_
  · rintro v m₁ nx h tk own hoff ⟨hm, ob, o1, o2, rest, xs1, xs2, rfl, hB, T1, T2, hA⟩ F₁ N₁
    have e : (fun k => if k = x then some v else m₁ k) = fun k => if k = x then some v else if k = z then m₁ k else m₀ k := by
      funext k
      by_cases h1 : k = x
      · rw [if_pos h1, if_pos h1]
      · rw [if_neg h1, if_neg h1]
        by_cases h2 : k = z
        · rw [if_pos h2]
        · rw [if_neg h2, hm k h1 h2]
    refine turn v m₁ ob o1 o2 rest xs1 xs2 own h tk hoff hB T1 T2 hA (e ▸ F₁) (news_sub N₁ ?_)
    intro p h
    rw [Led, ← List.append_assoc] at h
    exact h
  · rintro m₁ nx h tk ⟨hm, ob, o1, o2, rest, xs1, xs2, rfl, hB, T1, T2, hA⟩ F₁ N₁
    have e : m₁ = fun k => if k = x then m₁ k else if k = z then m₁ k else m₀ k := by
      funext k
      by_cases h1 : k = x
      · rw [if_pos h1]
      · rw [if_neg h1]
        by_cases h2 : k = z
        · rw [if_pos h2]
        · rw [if_neg h2, hm k h1 h2]
    exact done m₁ ob o1 o2 rest xs1 xs2 h tk hB T1 T2 hA (e ▸ F₁) N₁
end
theorem led_make {P : Prop} {h₀ h : Heap} {L q1 scs e2 sc2 dx2 e1 sc1 dx1 txs b : Addr} {qo so o2 c2 d2 o1 c1 d1 to ob : Obj}
    (N : News h₀ L h [(q1, qo), (scs, so), (e2, o2), (sc2, c2), (dx2, d2), (e1, o1), (sc1, c1), (dx1, d1), (txs, to), (b, ob)])
    (hA : Apart b e1 e2 [(q1, qo), (scs, so), (txs, to), (sc1, c1), (dx1, d1), (sc2, c2), (dx2, d2)])
    (k : Apart b e1 e2 ([(q1, qo), (scs, so), (txs, to), (sc1, c1), (dx1, d1), (sc2, c2), (dx2, d2)] ++ []) → News h₀ L h (Led b ob e1 o1 e2 o2 [(q1, qo), (scs, so), (txs, to), (sc1, c1), (dx1, d1), (sc2, c2), (dx2, d2)] []) → P) : P :=
  k (by rw [List.append_nil]; exact hA) (news_sub N (by
    intro p hp
    rw [Led, List.append_nil] at hp
    simp only [List.mem_cons, List.not_mem_nil, or_false] at hp ⊢
    rcases hp with h | h | h | h | h | h | h | h | h | h <;> simp [h]))
theorem led_front {h₀ h : Heap} {L b e1 e2 : Addr} {ob o1 o2 : Obj} {q s t : Addr × Obj} {fx rest : List (Addr × Obj)} (N : News h₀ L h (Led b ob e1 o1 e2 o2 (q :: s :: t :: fx) rest)) : News h₀ L h (s :: t :: Led b ob e1 o1 e2 o2 (q :: s :: t :: fx) rest) :=
  news_sub N (by
    intro p hp
    rcases List.mem_cons.mp hp with rfl | hp
    · exact .tail _ (.tail _ (.tail _ (.tail _ (.head _))))
    · rcases List.mem_cons.mp hp with rfl | hp
      · exact .tail _ (.tail _ (.tail _ (.tail _ (.tail _ (.head _)))))
      · exact hp)
theorem led_back {h₀ h : Heap} {L b e1 e2 : Addr} {ob o1 o2 : Obj} {s t : Addr × Obj} {fx rest : List (Addr × Obj)} (N : News h₀ L h (s :: t :: Led b ob e1 o1 e2 o2 fx rest)) : News h₀ L h (Led b ob e1 o1 e2 o2 fx rest) := news_sub N fun _ hp => .tail _ (.tail _ hp)
theorem LawJ.turn {w : World} {l b e1 e2 : Addr} {x1 x2 : Str} {fx : List (Addr × Obj)} {y z : Str} {m₀ m' : Str → Option Value} {ob o1 o2 ob' o1' o2' : Obj} {rest own new R1 R2 : List (Addr × Obj)} {q : Addr × Obj} {xs1 xs2 : List (List (Str ⊕ Bool) × Addr × Value)}
    {h₀ h' : Heap} {L : Addr} {s₁ : Shared} {tk : Nat} (F : Fr h₀ L h' m') (N : News h₀ L h' (Led b ob' e1 o1' e2 o2' fx (new ++ q :: (rest ++ own)))) (hoff : TbOff own (Led b ob e1 o1 e2 o2 fx rest)) (hq : Over b e1 e2 (fx ++ (rest ++ own)) q) (hnew : ∀ p ∈ new, Over b e1 e2 (fx ++ q :: (rest ++ own)) p)
    (hB : Box l ob') (T1 : Tab w x1 R1 o1' xs1) (hR1 : ∀ p ∈ R1, p ∈ new ++ rest) (T2 : Tab w x2 R2 o2' xs2) (hR2 : ∀ p ∈ R2, p ∈ new ++ rest) (hA : Apart b e1 e2 (fx ++ rest)) (hm : ∀ k, k ≠ y → k ≠ z → m' k = m₀ k) :
    TbEnd h₀ L (LawJ w l b e1 e2 x1 x2 fx y z m₀) own s₁ { s₁ with heap := h', toks := tk } := by
  have e : new ++ q :: (rest ++ own) = (new ++ [q]) ++ (rest ++ own) := by rw [List.append_assoc]; rfl
  have sub : ∀ p ∈ new ++ rest, p ∈ (new ++ [q]) ++ rest := fun p hp => (List.mem_append.mp hp).elim (fun h => List.mem_append.mpr (.inl (List.mem_append.mpr (.inl h)))) (fun h => List.mem_append.mpr (.inr h))
  rw [e] at N
  refine LawJ.end F N hoff (fun p hp => ?_) hB (T1.mono fun p hp => sub p (hR1 p hp)) (T2.mono fun p hp => sub p (hR2 p hp)) hA hm
  rcases List.mem_append.mp hp with hp | hp
  · obtain ⟨a1, a2, a3, a4⟩ := hnew p hp
    exact ⟨a1, a2, a3, fun r hr => a4 r ((List.mem_append.mp hr).elim (fun h => List.mem_append.mpr (.inl h)) (fun h => List.mem_append.mpr (.inr (.tail _ h))))⟩
  · rw [List.mem_singleton.mp hp]
    exact hq
theorem Apart.one {b e1 e2 : Addr} {fx rest : List (Addr × Obj)} {q : Addr × Obj} (h : Apart b e1 e2 (fx ++ rest)) (hq : Over b e1 e2 (fx ++ rest) q) : Apart b e1 e2 (fx ++ q :: rest) :=
  h.add (add := [q]) (fun p hp => by rw [List.mem_singleton.mp hp]; exact hq)
theorem mem_own {q : Addr × Obj} {rest own : List (Addr × Obj)} : ∀ p ∈ rest, p ∈ q :: (rest ++ own) := fun _ hp => .tail _ (List.mem_append.mpr (.inl hp))
end Mine
namespace Mine
theorem len63 {ns : List Int} (h : ¬ ((63 : Nat) : Int) < (ns.length : Int)) : ns.length ≤ 63 := by omega
theorem box_of {h₀ h : Heap} {L b l : Addr} {t u : Tok} {c : Nat} {r : List (Addr × Obj)} (N9 : News h₀ L h ((b, listOf #[.ref l, .int 0 t, .int 1 u] c) :: r)) : Box l (listOf #[.ref l, .int 0 t, .int 1 u] c) := ⟨_, _, _, _, _, by decide, by decide, by decide, rfl⟩
end Mine
local macro_rules | `(tactic| walk_at "call ref") => `(tactic| k_extra "law call")
local macro_rules | `(tactic| walk_at "pyIter ref") => `(tactic| k_extra "law iter")
set_option maxRecDepth 100000 in
set_option maxHeartbeats 8000000 in
theorem PySem.Challenge.cw_br5018_01_holds : PySem.Challenge.rw_br5018_01.Holds :=
  Mine.hd (by
    k_go0
    all_goals try k_fold
    rename Heap.IsList _ _ _ => hL
    rename IntsAre _ _ => hI
    rename ¬ _ < _ => hn
    have hn' := Mine.len63 hn
    k_with "law call" => refine Mine.Hold.out ?_
    k_steps
    unfold Mine.Hold
    rename News _ _ _ _ => nw
    have hB0 := Mine.box_of nw
    k_dflt refine Mine.call_use (by k_asm) (by k_asm) (by k_asm) (by k_asm) (by k_asm) (by first | exact rfl | assumption) (Mine.text_ok _ _ _ _ _ _ _ _ _ _ _ _ hL (by assumption) hn' hB0 (by k_updF)) (by ktr_room) (by ktr_units) ?_
    rintro vA newsA hA tkA ⟨x1, tx1, ob1, rfl, hG1, hB1, rfl⟩ FA NA
    dsimp only at NA ⊢
    clear hB0
    k_steps
    unfold Mine.Hold
    k_dflt refine Mine.call_use (by k_asm) (by k_asm) (by k_asm) (by k_asm) (by k_asm) (by first | exact rfl | assumption) (Mine.text_ok _ _ _ _ _ _ _ _ _ _ _ _ hL (by assumption) hn' hB1 (by k_updF)) (by ktr_room) (by ktr_units) ?_
    rintro vB newsB hB tkB ⟨x2, tx2, ob2, rfl, hG2, hB2, rfl⟩ FB NB
    dsimp only at NB ⊢
    clear hB1
    k_steps
    unfold Mine.Hold
    k_dflt refine Mine.call_use (by k_asm) (by k_asm) (by k_asm) (by k_asm) (by k_asm) (by first | exact rfl | assumption) (Mine.new_ok _ _ _ _ _ _ _ _) (by ktr_room) (by ktr_units) ?_
    rintro vC newsC hC tkC ⟨sc1, dx1, e1, o1, s1, t1, u1, rfl, rfl, hT1, lo1, hlt1, hlu1, hlv1⟩ FC NC
    replace hlt1 := ltN hlt1
    replace hlu1 := ltN hlu1
    replace hlv1 := allLt_of hlv1
    simp only [AllLt, and_true] at hlv1
    k_steps
    unfold Mine.Hold
    k_dflt refine Mine.call_use (by k_asm) (by k_asm) (by k_asm) (by k_asm) (by k_asm) (by first | exact rfl | assumption) (Mine.new_ok _ _ _ _ _ _ _ _) (by ktr_room) (by ktr_units) ?_
    rintro vD newsD hD' tkD ⟨sc2, dx2, e2, o2, s2, t2, u2, rfl, rfl, hT2, lo2, hlt2, hlu2, hlv2⟩ FD ND
    replace hlt2 := ltN hlt2
    replace hlu2 := ltN hlu2
    replace hlv2 := allLt_of hlv2
    simp only [AllLt, and_true] at hlv2
    k_steps
    unfold Mine.Hold
    k_dflt refine Mine.call_use (by k_asm) (by k_asm) (by k_asm) (by k_asm) (by k_asm) (by first | exact rfl | assumption) (Mine.quest_ok _ _ _ _ _ _ _ _ _ _ _ _ _ _ hL (by assumption) hn' hB2 (Mine.Good.len hG1) (by k_updF)) (by ktr_room) (by ktr_units) ?_
    rintro vE newsE hE tkE ⟨q1, mk1, tm1, pl1, tp1, fl1, ob3, rfl, hmk1, hB3, hlq1, rfl⟩ FE NE
    dsimp only at NE hlq1 ⊢
    replace hlq1 := allLt_of hlq1
    simp only [AllLt, and_true] at hlq1
    clear hB2
    k_steps
    unfold Mine.Hold
    rename News _ _ _ _ => nF
    rename _ ∧ _ ∧ _ ∧ _ ∧ _ ∧ _ ∧ _ ∧ _ < _ => hls
    refine Mine.led_make nF ?_ ?_
    · refine ⟨by first | exact Nat.ne_of_lt (by omega) | exact Nat.ne_of_gt (by omega), by first | exact Nat.ne_of_lt (by omega) | exact Nat.ne_of_gt (by omega), by first | exact Nat.ne_of_lt (by omega) | exact Nat.ne_of_gt (by omega), ?_⟩
      simp only [List.forall_mem_cons, List.not_mem_nil, false_implies, implies_true, and_true]
      and_intros <;> first | exact Nat.ne_of_lt (by omega) | exact Nat.ne_of_gt (by omega)
    intro hAp NL
    k_dflt refine Mine.call_use (by k_asm) (by k_asm) (by k_asm) NL (by k_asm) (by first | exact rfl | assumption) (Mine.asked1 _ _ _ _ _ (Mine.Good.len hG1) hG1.2 hmk1 (hT1 []) (fun q hq => (nomatch hq)) lo1 (.tail _ (.tail _ (.tail _ (.head _)))) (.tail _ (.tail _ (.tail _ (.tail _ (.head _))))) (List.mem_append.mpr (.inl (.head _))) hAp) (by ktr_room) (by ktr_units) ?_
    rintro vF newsF hF tkF ⟨rfl, new1, o1', xs1, rfl, hT1', hfr1⟩ FF NF
    dsimp only
    k_steps
    unfold Mine.Hold
    rename News _ _ _ _ => nG
    k_dflt refine Mine.call_use (by k_asm) (by k_asm) (by k_asm) nG (by k_asm) (by first | exact rfl | assumption) (Mine.drawL _ _ _ _ _ hL (by assumption) hn' hB3 (by decide) (Mine.Apart.add hAp hfr1)) (by ktr_room) (by ktr_units) ?_
    rintro vG newsG hG tkG ⟨n1, tn1, ob4, rfl, hn0, hn1, hB4, rfl⟩ FG NG
    clear hB3
    dsimp only
    k_with "law iter" => refine Mine.Hold.out ?_
    k_steps
    unfold Mine.Hold
    (rename Fr _ _ _ _ => lF'); (rename News _ _ _ _ => lN'); (rename IsRange _ _ _ _ _ _ _ _ => rgX)
    have hsm : Builtin.Range.small 0 (3 + n1) 1 = true := small_one (by omega) (by omega) (by omega) (by omega)
    k_dflt refine' Mine.law_loop (Str.ofString "side") ?hh rgX hsm (rangeSize_nat _ _) lF' lN' hB4 hT1' (hT2 _) (Mine.Apart.add hAp hfr1) ?turn ?done
    case hh => rfl
    case turn =>
      rintro v u ob5 o5 o6 rest xs5 xs6 own h5 tk5 hoff hB5 hT5 hT6 hA5 F5 N5
      clear lF' lN' nG
      k_steps
      unfold Mine.Hold
      rename News _ _ _ _ => N6
      k_dflt refine Mine.call_use (by k_asm) (by k_asm) (by k_asm) N6 (by k_asm) (by first | exact rfl | assumption) (Mine.drawL _ _ _ _ _ hL (by assumption) hn' hB5 (by decide) (Mine.Apart.own hA5 hoff)) (by ktr_room) (by ktr_units) ?_
      rintro vI newsI hI' tkI ⟨n2, tn2, ob6, rfl, hn2, hn3, hB6, rfl⟩ FI NI
      clear hB5 N6
      replace NI := Mine.led_front NI
      dsimp only
      have hcs : n2 = 0 ∨ n2 = 1 := by omega
      rcases hcs with rfl | rfl
      · k_steps
        unfold Mine.Hold
        rename News _ _ _ _ => N7
        k_dflt refine Mine.call_use (by k_asm) (by k_asm) (by k_asm) (Mine.led_back N7) (by k_asm) (by first | exact rfl | assumption) (Mine.questL _ _ _ _ _ hL (by assumption) hn' hB6 (Mine.Good.len hG1) (Mine.Apart.own hA5 hoff)) (by ktr_room) (by ktr_units) ?_
        rintro vJ newsJ hJ tkJ ⟨q2, mk2, tm2, pl2, tp2, fl2, ob7, rfl, hmk2, hB7, hov, rfl⟩ FJ NJ
        clear hB6 N7
        dsimp only
        k_steps
        unfold Mine.Hold
        rename News _ _ _ _ => N8
        k_dflt refine Mine.call_use (by k_asm) (by k_asm) (by k_asm) N8 (by k_asm) (by first | exact rfl | assumption) (Mine.asked1 _ _ _ _ _ (Mine.Good.len hG1) hG1.2 hmk2 hT5 Mine.mem_own lo1 (.tail _ (.tail _ (.tail _ (.head _)))) (.tail _ (.tail _ (.tail _ (.tail _ (.head _))))) (List.mem_append.mpr (.inr (.head _))) (Mine.Apart.one (Mine.Apart.own hA5 hoff) hov)) (by ktr_room) (by ktr_units) ?_
        rintro vZ newsZ hZ tkZ ⟨rfl, new2, o7, xs7, rfl, hT7, hfr7⟩ FZ NZ
        clear N8
        dsimp only
        k_steps
        try dsimp only [TbPost]
        exact Mine.LawJ.turn (by assumption) (by assumption) hoff hov hfr7 hB7 hT7 (fun p hp => hp) hT6 (fun p hp => List.mem_append.mpr (.inr hp)) hA5 (fun k h1 h2 => by simp [h1, h2])
      · k_steps
        unfold Mine.Hold
        rename News _ _ _ _ => N7
        k_dflt refine Mine.call_use (by k_asm) (by k_asm) (by k_asm) (Mine.led_back N7) (by k_asm) (by first | exact rfl | assumption) (Mine.questL _ _ _ _ _ hL (by assumption) hn' hB6 (Mine.Good.len hG2) (Mine.Apart.own hA5 hoff)) (by ktr_room) (by ktr_units) ?_
        rintro vJ newsJ hJ tkJ ⟨q2, mk2, tm2, pl2, tp2, fl2, ob7, rfl, hmk2, hB7, hov, rfl⟩ FJ NJ
        clear hB6 N7
        dsimp only
        k_steps
        unfold Mine.Hold
        rename News _ _ _ _ => N8
        k_dflt refine Mine.call_use (by k_asm) (by k_asm) (by k_asm) N8 (by k_asm) (by first | exact rfl | assumption) (Mine.asked2 _ _ _ _ _ (Mine.Good.len hG2) hG2.2 hmk2 hT6 Mine.mem_own lo2 (.tail _ (.tail _ (.tail _ (.tail _ (.tail _ (.head _)))))) (.tail _ (.tail _ (.tail _ (.tail _ (.tail _ (.tail _ (.head _))))))) (List.mem_append.mpr (.inr (.head _))) (Mine.Apart.one (Mine.Apart.own hA5 hoff) hov)) (by ktr_room) (by ktr_units) ?_
        rintro vZ newsZ hZ tkZ ⟨rfl, new2, o7, xs7, rfl, hT7, hfr7⟩ FZ NZ
        clear N8
        dsimp only
        k_steps
        try dsimp only [TbPost]
        exact Mine.LawJ.turn (by assumption) (by assumption) hoff hov hfr7 hB7 hT5 (fun p hp => List.mem_append.mpr (.inr hp)) hT7 (fun p hp => hp) hA5 (fun k h1 h2 => by simp [h1, h2])
    case done =>
      rintro u ob5 o5 o6 rest xs5 xs6 h5 tk5 hB5 hT5 hT6 hA5 F5 N5
      clear lF' lN' nG
      replace N5 := Mine.led_front N5
      dsimp only
      k_steps
      unfold Mine.Hold
      rename News _ _ _ _ => N6
      k_dflt refine Mine.call_use (by k_asm) (by k_asm) (by k_asm) (Mine.led_back N6) (by k_asm) (by first | exact rfl | assumption) (Mine.asked1 _ _ _ _ _ (Mine.Good.len hG1) hG1.2 hmk1 hT5 (fun q hq => hq) lo1 (.tail _ (.tail _ (.tail _ (.head _)))) (.tail _ (.tail _ (.tail _ (.tail _ (.head _))))) (List.mem_append.mpr (.inl (.head _))) hA5) (by ktr_room) (by ktr_units) ?_
      rintro vZ newsZ hZ tkZ ⟨rfl, new2, o7, xs7, rfl, hT7, hfr7⟩ FZ NZ
      dsimp only
      k_steps)
