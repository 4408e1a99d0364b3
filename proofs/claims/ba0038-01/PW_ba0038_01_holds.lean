import PyProof.Rows.All
import Wide.All
import OpenK.AllK
import Wide.FinOn
import PyProof.StrLawsReplace
import PyProof.ToksMono
import PyProof.ForAny
import PyProof.WalksPairs
import PyProof.StrBlock2
import Lean
import PySem.Challenge.RW_ba0038_01
open PySem PySem.W PyProof.Rows PySem.Calls
set_option Elab.async false

-- part Tx
namespace Mine

/-- every sign c of the list becomes z -/
def repl (c : Nat) (z : List Nat) (l : List Nat) : List Nat := l.flatMap fun k => if k = c then z else [k]

theorem repl_append (c : Nat) (z a b : List Nat) : repl c z (a ++ b) = repl c z a ++ repl c z b := List.flatMap_append
theorem repl_free (c : Nat) (z l : List Nat) (h : c ∉ l) : repl c z l = l := by
  induction l with
  | nil => rfl
  | cons k r ih =>
    rw [List.mem_cons, not_or] at h
    have e : repl c z (k :: r) = (if k = c then z else [k]) ++ repl c z r := rfl
    rw [e, ih h.2, if_neg (Ne.symm h.1)]
    rfl
theorem repl_join (c : Nat) (z : Str) : ∀ parts : List Str, (∀ p ∈ parts, c ∉ p.cps.toList) → repl c z.cps.toList (Str.join ⟨#[c]⟩ parts).cps.toList = (Str.join z parts).cps.toList
  | [], _ => rfl
  | [p], h => repl_free c _ _ (h p (List.mem_singleton.mpr rfl))
  | p :: q :: r, h => by
    have ih := repl_join c z (q :: r) fun a ha => h a (List.mem_cons_of_mem _ ha)
    show repl c z.cps.toList (p ++ ⟨#[c]⟩ ++ Str.join ⟨#[c]⟩ (q :: r)).cps.toList = (p ++ z ++ Str.join z (q :: r)).cps.toList
    simp only [Str.cps_append, Array.toList_append]
    rw [repl_append, repl_append, ih, repl_free c _ _ (h p (List.mem_cons_self ..))]
    show p.cps.toList ++ repl c z.cps.toList [c] ++ _ = _
    unfold repl
    simp
theorem replace_repl (x z : Str) (c : Nat) : (Txt.replace x ⟨#[c]⟩ z).cps.toList = repl c z.cps.toList x.cps.toList := by
  rw [StrLaws.replace_one, ← repl_join c z _ (StrLaws.split_free x c), StrLaws.join_split]

/-- what HTML wants of one sign -/
def esc1 (c : Nat) : List Nat :=
  if c = 60 then [38, 108, 116, 59] else if c = 62 then [38, 103, 116, 59] else if c = 34 then [38, 113, 117, 111, 116, 59] else if c = 38 then [38, 97, 109, 112, 59] else [c]
def escS (x : Str) : Str := ⟨(x.cps.toList.flatMap esc1).toArray⟩

theorem esc1_len (c : Nat) : (esc1 c).length ≤ 6 := by
  unfold esc1
  repeat' split
  all_goals simp
theorem flat_len (f : Nat → List Nat) (b : Nat) (h : ∀ c, (f c).length ≤ b) : ∀ l : List Nat, (l.flatMap f).length ≤ b * l.length
  | [] => by simp
  | c :: r => by
    have := flat_len f b h r
    have := h c
    simp only [List.flatMap_cons, List.length_append, List.length_cons]
    rw [Nat.mul_add, Nat.mul_one]; omega
theorem len_toList (x : Str) : x.cps.toList.length = x.length := by simp [Str.length]
theorem escS_len (x : Str) : (escS x).length ≤ 6 * x.length := by
  have h := flat_len esc1 6 esc1_len x.cps.toList
  rw [len_toList] at h
  have e : (escS x).length = (x.cps.toList.flatMap esc1).length := by simp [escS, Str.length]
  omega
theorem repl_len (c b : Nat) (z l : List Nat) (hb : z.length ≤ b) (h1 : 1 ≤ b) : (repl c z l).length ≤ b * l.length :=
  flat_len _ b (fun k => by split; exact hb; exact h1) l
theorem replace_len {x z : Str} {c : Nat} (b : Nat) (hb : z.length ≤ b) (h1 : 1 ≤ b) : (Txt.replace x ⟨#[c]⟩ z).length ≤ b * x.length := by
  have h := repl_len c b z.cps.toList x.cps.toList (by rw [len_toList]; exact hb) h1
  rw [← replace_repl, len_toList, len_toList] at h
  exact h

theorem repl_chain : ∀ l : List Nat, repl 34 [38, 113, 117, 111, 116, 59] (repl 62 [38, 103, 116, 59] (repl 60 [38, 108, 116, 59] (repl 38 [38, 97, 109, 112, 59] l))) = l.flatMap esc1
  | [] => rfl
  | c :: r => by
    have ih := repl_chain r
    have e : ∀ c' z, repl c' z (c :: r) = (if c = c' then z else [c]) ++ repl c' z r := fun c' z => by unfold repl; rw [List.flatMap_cons]
    rw [e, repl_append, repl_append, repl_append, ih, List.flatMap_cons]
    refine congrArg (· ++ _) ?_
    unfold esc1
    by_cases h1 : c = 38
    · subst h1; rfl
    · rw [if_neg h1]
      by_cases h2 : c = 60
      · subst h2; rfl
      · by_cases h3 : c = 62
        · subst h3; rfl
        · by_cases h4 : c = 34
          · subst h4; rfl
          · rw [if_neg h2, if_neg h3, if_neg h4]
            unfold repl
            simp [h2, h3, h4, h1]

theorem str_ext {a b : Str} (h : a.cps.toList = b.cps.toList) : a = b := Str.ext' (Array.toList_inj.mp h)
theorem lit_amp : Str.ofString "&" = ⟨#[38]⟩ := by decide +kernel
theorem lit_lt : Str.ofString "<" = ⟨#[60]⟩ := by decide +kernel
theorem lit_gt : Str.ofString ">" = ⟨#[62]⟩ := by decide +kernel
theorem lit_qt : Str.ofString "\"" = ⟨#[34]⟩ := by decide +kernel
theorem lit_amp' : Str.ofString "&amp;" = ⟨#[38, 97, 109, 112, 59]⟩ := by decide +kernel
theorem lit_lt' : Str.ofString "&lt;" = ⟨#[38, 108, 116, 59]⟩ := by decide +kernel
theorem lit_gt' : Str.ofString "&gt;" = ⟨#[38, 103, 116, 59]⟩ := by decide +kernel
theorem lit_qt' : Str.ofString "&quot;" = ⟨#[38, 113, 117, 111, 116, 59]⟩ := by decide +kernel

theorem replace_escS (x : Str) : Txt.replace (Txt.replace (Txt.replace (Txt.replace x (Str.ofString "&") (Str.ofString "&amp;")) (Str.ofString "<") (Str.ofString "&lt;")) (Str.ofString ">") (Str.ofString "&gt;")) (Str.ofString "\"") (Str.ofString "&quot;") = escS x := by
  rw [lit_amp, lit_lt, lit_gt, lit_qt, lit_amp', lit_lt', lit_gt', lit_qt']
  refine str_ext ?_
  rw [replace_repl, replace_repl, replace_repl, replace_repl]
  show repl 34 [38, 113, 117, 111, 116, 59] (repl 62 [38, 103, 116, 59] (repl 60 [38, 108, 116, 59] (repl 38 [38, 97, 109, 112, 59] x.cps.toList))) = _
  rw [repl_chain]
  simp [escS]
end Mine

-- part Lp
namespace Mine
section
variable {prog : Program} {w : World} {A : Around} {E : Value → Shared → Prop} {Q : Flow → Shared → Prop} {s : Shared} {env : Env} {h₀ : Heap} {L a : Addr}

/-- what a turn of the while leaves behind -/
def WStep (h₀ : Heap) (L a : Addr) (rest : List (Addr × Obj)) (m : Str → Option Value) (x z : Str) (J : List Int → Str → Prop) (Q : Flow → Shared → Prop) (s : Shared) (n : Nat) (f : Flow) (s₃ : Shared) : Prop :=
  match f with
  | .ret v => Q (.ret v) s₃
  | .brk => Q .next s₃
  | _ => ∃ rl S us nu tS m' h' tk, s₃ = { s with heap := h', toks := tk } ∧ Fr h₀ L h' m' ∧ m' x = some (.str S tS) ∧ (∀ y, y ≠ x → y ≠ z → m' y = m y) ∧ News h₀ L h' ((a, listOf us.toArray nu) :: rest) ∧ IntsAre us rl.reverse ∧ J rl S ∧ rl.length < n

theorem my_while {test : PySem.Expr} {body orelse : List Stmt} {pos : Pos} {m : Str → Option Value} {rest : List (Addr × Obj)} (x z : Str) (J : List Int → Str → Prop)
    {rl₀ : List Int} {S₀ : Str} {t₀ : Tok} {us₀ : List Value} {n₀ : Nat}
    (F : Fr h₀ L s.heap m) (N : News h₀ L s.heap ((a, listOf us₀.toArray n₀) :: rest)) (hi : IntsAre us₀ rl₀.reverse) (hS : m x = some (.str S₀ t₀)) (hJ : J rl₀ S₀)
    (turn : ∀ rl S us nu tS u h tk, J rl S → IntsAre us rl.reverse → Fr h₀ L h (fun y => if y = x then some (.str S tS) else if y = z then u else m y) → News h₀ L h ((a, listOf us.toArray nu) :: rest) →
      wpAny (model prog w) A (isTrue test env (eval test env)) (fun b s₂ =>
        if b = true then wpAny (model prog w) A (execs body env) (WStep h₀ L a rest m x z J Q s rl.length) E s₂ else wpAny (model prog w) A (execs orelse env) Q E s₂) E { s with heap := h, toks := tk })
    (hE : PassesOwn (model prog w) A env E := by passes_own) :
    wpAny (model prog w) A (exec (.While test body orelse pos) env) Q E s := by
  refine wpAny_While (codeAny_whileLoop (fun n s' => ∃ rl S us nu tS m' h' tk, s' = { s with heap := h', toks := tk } ∧ Fr h₀ L h' m' ∧ m' x = some (.str S tS) ∧ (∀ y, y ≠ x → y ≠ z → m' y = m y) ∧ News h₀ L h' ((a, listOf us.toArray nu) :: rest) ∧ IntsAre us rl.reverse ∧ J rl S ∧ rl.length = n) ?_ rl₀.length
    ⟨rl₀, S₀, us₀, n₀, t₀, m, s.heap, s.toks, rfl, F, hS, fun _ _ _ => rfl, N, hi, hJ, rfl⟩)
  rintro n s' ⟨rl, S, us, nu, tS, m', h', tk, rfl, F', hS', hm', N', hi', hJ', rfl⟩
  have em : m' = fun y => if y = x then some (.str S tS) else if y = z then m' z else m y := by
    funext y
    by_cases h1 : y = x
    · rw [if_pos h1, h1]; exact hS'
    · rw [if_neg h1]
      by_cases h2 : y = z
      · rw [if_pos h2, h2]
      · rw [if_neg h2]; exact hm' y h1 h2
  rw [em] at F'
  refine wpAny_mono (turn rl S us nu tS (m' z) h' tk hJ' hi' F' N') (fun b s₂ h₂ => ?_) hE
  cases b with
  | false =>
    simp only [Bool.false_eq_true, if_false] at h₂ ⊢
    exact wpAny_mono h₂ (fun _ _ q => q) hE
  | true =>
    simp only [if_true] at h₂ ⊢
    refine wpAny_mono h₂ (fun f s₃ h₃ => ?_) hE
    cases f with
    | next =>
      obtain ⟨rl', S', us', nu', tS', m'', h'', tk'', e, F'', hS'', hm'', N'', hi'', hJ'', hlt⟩ := h₃
      exact ⟨rl'.length, hlt, rl', S', us', nu', tS', m'', h'', tk'', e, F'', hS'', hm'', N'', hi'', hJ'', rfl⟩
    | cont =>
      obtain ⟨rl', S', us', nu', tS', m'', h'', tk'', e, F'', hS'', hm'', N'', hi'', hJ'', hlt⟩ := h₃
      exact ⟨rl'.length, hlt, rl', S', us', nu', tS', m'', h'', tk'', e, F'', hS'', hm'', N'', hi'', hJ'', rfl⟩
    | brk => exact h₃
    | ret v => exact h₃

/-- what a turn of the for leaves behind -/
def FStep (h₀ : Heap) (L a : Addr) (rest : List (Addr × Obj)) (m : Str → Option Value) (x : Str) (zs : List Str) (J : List Int → Str → Prop) (Q : Flow → Shared → Prop) (s : Shared) (f : Flow) (s₃ : Shared) : Prop :=
  match f with
  | .ret v => Q (.ret v) s₃
  | .brk => Q .next s₃
  | _ => ∃ rl S us nu tS m' h' tk, s₃ = { s with heap := h', toks := tk } ∧ Fr h₀ L h' m' ∧ m' x = some (.str S tS) ∧ (∀ y, y ≠ x → zs.contains y = false → m' y = m y) ∧ News h₀ L h' ((a, listOf us.toArray nu) :: rest) ∧ IntsAre us rl.reverse ∧ J rl S

theorem iter_rows {elts : List PySem.Expr} {k : Nat} {px : Pos} {body : List Stmt} {l : Addr} {vs : List Value} {nn : Nat} {m : Str → Option Value} {rest : List (Addr × Obj)} (x : Str) (zs : List Str) (J : Nat → List Int → Str → Prop) (R : Nat → Value → Value → Value → Prop)
    {rl₀ : List Int} {S₀ : Str} {t₀ : Tok} {us₀ : List Value} {n₀ : Nat}
    (hh : A.handled = none) (hl : (l, listOf vs.toArray nn) ∈ rest) (off : OwnOff rest [a])
    (F : Fr h₀ env.locals s.heap m) (N : News h₀ env.locals s.heap ((a, listOf us₀.toArray n₀) :: rest)) (hi : IntsAre us₀ rl₀.reverse) (hS : m x = some (.str S₀ t₀)) (hJ : J 0 rl₀ S₀)
    (hn3 : (assignEach elts env).length = 3) (hstar : (assignEach elts env).findIdx? (·.1) = none)
    (hrow : ∀ i v, vs[i]? = some v → ∃ ta n v1 v2 v3, v = .ref ta ∧ (ta, ({ cls := .type "tuple", data := .seq [v1, v2, v3].toArray n } : Obj)) ∈ rest ∧ R i v1 v2 v3)
    (turn : ∀ i v1 v2 v3 rl S us nu tS (u : Str → Option Value) h tk own, i < vs.length → R i v1 v2 v3 → OwnOff (rest ++ own) [a] → J i rl S → IntsAre us rl.reverse →
      Fr h₀ env.locals h (fun y => if y = x then some (.str S tS) else if zs.contains y then u y else m y) → News h₀ env.locals h ((a, listOf us.toArray nu) :: (rest ++ own)) →
      wpAny (model prog w) A (assignInOrder ((assignEach elts env).map (·.2)) [v1, v2, v3]) (fun _ s₂ => wpAny (model prog w) A (execs body env) (FStep h₀ env.locals a (rest ++ own) m x zs (J (i + 1)) Q s) E s₂) E { s with heap := h, toks := tk })
    (done : ∀ rl S us nu tS (u : Str → Option Value) h tk, J vs.length rl S → IntsAre us rl.reverse → Fr h₀ env.locals h (fun y => if y = x then some (.str S tS) else if zs.contains y then u y else m y) → News h₀ env.locals h ((a, listOf us.toArray nu) :: rest) → Q .next { s with heap := h, toks := tk })
    (hE : PassesOwn (model prog w) A env E := by passes_own) :
    wpAny (model prog w) A (pyIter (.ref l)) (fun it s₂ =>
      codeAny (model prog w) A (.forLoop (.Tuple elts k px) it body [] env) (fun r s' => match r with | .ok f => Q f s' | .error e => cameBackBy (model prog w) A env E e s') s₂) E s := by
  have hls : s.heap.IsList l vs.toArray := ⟨_, (N _ (.tail _ hl)).1, rfl, nn, rfl⟩
  refine wpAny_pyIter_list hls ?_
  generalize hI : s.heap.objs.size = I
  have hnewI : ∀ p ∈ ((a, listOf us₀.toArray n₀) :: rest), p.1 ≠ I := fun p hp => by
    rw [← hI]; exact Nat.ne_of_lt (Heap.lt_size (N p hp).1)
  have hLI : env.locals ≠ I := by rw [← hI]; exact Nat.ne_of_lt F.ns.lt
  have hI0 : h₀.get? I = none := by rw [← hI]; exact next_is_new F
  refine codeAny_forLoop_any (fun j s' => ∃ i rl S us nu tS m' h' tk oI, s' = { s with heap := h', toks := tk } ∧ Fr h₀ env.locals h' m' ∧ m' x = some (.str S tS) ∧ (∀ y, y ≠ x → zs.contains y = false → m' y = m y) ∧
      News h₀ env.locals h' ((a, listOf us.toArray nu) :: (rest ++ [(I, oI)])) ∧ IntsAre us rl.reverse ∧ J i rl S ∧ h'.IsListIter I l i ∧ i ≤ vs.length ∧ j = vs.length + 1 - i) ?_ (vs.length + 1) ?_
  · rintro j s' ⟨i, rl, S, us, nu, tS, m', h', tk, oI, rfl, F', hS', hm', N', hi', hJ', hit, hile, rfl⟩
    have em : m' = fun y => if y = x then some (.str S tS) else if zs.contains y then m' y else m y := by
      funext y
      by_cases h1 : y = x
      · rw [if_pos h1, h1]; exact hS'
      · rw [if_neg h1]
        cases h2 : zs.contains y with
        | true => simp
        | false => simpa using hm' y h1 h2
    have hls' : h'.IsList l vs.toArray := ⟨_, (N' (l, listOf vs.toArray nn) (.tail _ (List.mem_append_left _ hl))).1, rfl, nn, rfl⟩
    have back : ∀ h₁ : Heap, (∀ b, b ≠ I → ∀ o, h'.get? b = some o → h₁.get? b = some o) → Fr h₀ env.locals h₁ m' ∧ News h₀ env.locals h₁ ((a, listOf us.toArray nu) :: rest) := fun h₁ hk => by
      refine ⟨⟨F'.ns.at' fun o e => hk _ hLI o e, fun b o e => hk b (fun q => by rw [q, hI0] at e; cases e) o (F'.keep b o e), F'.above⟩, fun p hp => ?_⟩
      have hp' : p ∈ (a, listOf us.toArray nu) :: (rest ++ [(I, oI)]) := by
        rcases List.mem_cons.mp hp with rfl | hp
        · exact .head _
        · exact .tail _ (List.mem_append_left _ hp)
      have hpI : p.1 ≠ I := by
        rcases List.mem_cons.mp hp with rfl | hp
        · exact hnewI (a, listOf us₀.toArray n₀) (.head _)
        · exact hnewI _ (.tail _ hp)
      exact ⟨hk _ hpI _ (N' p hp').1, (N' p hp').2⟩
    by_cases hlt : i < vs.length
    · obtain ⟨ta, n, v1, v2, v3, hv, hta, hR⟩ := hrow i vs[i] (by simp [hlt])
      refine wpAny_pyNext_list_item hit hls' (x := .ref ta) (by simp [hlt, hv]) fun h₁ hit₁ hs₁ => ?_
      obtain ⟨F₁, N₁⟩ := back h₁ fun b hb o e => (hs₁.2 b hb).trans e
      obtain ⟨oI', hoI', _⟩ := id hit₁
      have N₂ : News h₀ env.locals h₁ ((a, listOf us.toArray nu) :: (rest ++ [(I, oI')])) := fun p hp => by
        rcases List.mem_cons.mp hp with rfl | hp
        · exact N₁ _ (.head _)
        · rcases List.mem_append.mp hp with hp | hp
          · exact N₁ _ (.tail _ hp)
          · rw [List.mem_singleton.mp hp]; exact ⟨hoI', Ne.symm hLI, hI0⟩
      dsimp only
      refine wpAny_letOwnedTupleGo_listiter hit₁ ?_
      have hT : IsTup h₁ ta [v1, v2, v3].toArray := ⟨_, (N₁ _ (.tail _ hta)).1, rfl, n, rfl⟩
      refine wpAny_mono (unpackN_ (Q := fun _ s₂ => wpAny (model prog w) A (execs body env) (FStep h₀ env.locals a (rest ++ [(I, oI')]) m x zs (J (i + 1)) Q s) E s₂) (E := E) F₁ N₂ hT hh (by simpa using hn3) hstar fun h₂ F₂ N₃ => ?_) (fun _ s₂ q => ?_) hE
      · rw [em] at F₂
        exact turn i v1 v2 v3 rl S us nu tS m' h₂ tk [(I, oI')] hlt hR (fun p hp b hb => by
          rcases List.mem_append.mp hp with hp | hp
          · exact off p hp b hb
          · rw [List.mem_singleton.mp hp, List.mem_singleton.mp hb]; exact Ne.symm (hnewI _ (.head _))) hJ' hi' F₂ N₃
      · refine wpAny_mono q (fun f s₃ h₃ => ?_) hE
        have fin : ∀ f : Flow, FStep h₀ env.locals a (rest ++ [(I, oI')]) m x zs (J (i + 1)) Q s .next s₃ → ∃ m_1, m_1 < vs.length + 1 - i ∧ ∃ i rl S us nu tS m' h' tk oI, s₃ = { s with heap := h', toks := tk } ∧ Fr h₀ env.locals h' m' ∧ m' x = some (.str S tS) ∧ (∀ y, y ≠ x → zs.contains y = false → m' y = m y) ∧
            News h₀ env.locals h' ((a, listOf us.toArray nu) :: (rest ++ [(I, oI)])) ∧ IntsAre us rl.reverse ∧ J i rl S ∧ h'.IsListIter I l i ∧ i ≤ vs.length ∧ m_1 = vs.length + 1 - i := by
          rintro - ⟨rl', S', us', nu', tS', m'', h'', tk'', e, F'', hS'', hm'', N'', hi'', hJ''⟩
          obtain ⟨oI2, hoI2, hc2, hd2⟩ := id hit₁
          rw [hoI'] at hoI2
          cases hoI2
          exact ⟨vs.length + 1 - (i + 1), by omega, i + 1, rl', S', us', nu', tS', m'', h'', tk'', oI', e, F'', hS'', hm'', N'', hi'', hJ'', ⟨oI', (N'' (I, oI') (.tail _ (List.mem_append_right _ (.head _)))).1, hc2, hd2⟩, hlt, rfl⟩
        cases f with
        | next => exact fin .next h₃
        | cont => exact fin .cont h₃
        | brk => exact h₃
        | ret v => exact h₃
    · have hin : i = vs.length := by omega
      subst hin
      refine wpAny_pyNext_list_end hh hit hls' (by simp) fun h₁ hs₁ => wpAny_execs_nil ?_
      obtain ⟨F₁, N₁⟩ := back h₁ fun b hb o e => hs₁ b o hb e
      rw [em] at F₁
      exact done rl S us nu tS m' h₁ tk hJ' hi' F₁ N₁
  · refine ⟨0, rl₀, S₀, us₀, n₀, t₀, m, _, s.toks, { cls := .type "list_iterator", data := .fields #[.ref l, .int 0 0] }, rfl, F.push _, hS, fun _ _ _ => rfl, fun p hp => ?_, hi, hJ, ⟨_, hI ▸ Heap.get?_push_size _ rfl, rfl, rfl⟩, Nat.zero_le _, rfl⟩
    rcases List.mem_cons.mp hp with rfl | hp
    · exact ⟨Heap.get?_push_of_some _ (N _ (.head _)).1, (N _ (.head _)).2⟩
    · rcases List.mem_append.mp hp with hp | hp
      · exact ⟨Heap.get?_push_of_some _ (N _ (.tail _ hp)).1, (N _ (.tail _ hp)).2⟩
      · rw [List.mem_singleton.mp hp]
        exact ⟨hI ▸ Heap.get?_push_size _ rfl, Ne.symm hLI, hI0⟩

theorem fstep_end {rest : List (Addr × Obj)} {m m' : Str → Option Value} {x : Str} {zs : List Str} {J : List Int → Str → Prop} {rl : List Int} {S : Str} {us : List Value} {nu : Nat} {tS : Tok} {h' : Heap} {tk : Nat}
    (F : Fr h₀ L h' m') (N : News h₀ L h' ((a, listOf us.toArray nu) :: rest)) (hi : IntsAre us rl.reverse) (hx : m' x = some (.str S tS)) (hm : ∀ y, y ≠ x → zs.contains y = false → m' y = m y) (hJ : J rl S) :
    FStep h₀ L a rest m x zs J Q s .next { s with heap := h', toks := tk } := ⟨rl, S, us, nu, tS, m', h', tk, rfl, F, hx, hm, N, hi, hJ⟩
theorem wstep_end {rest : List (Addr × Obj)} {m m' : Str → Option Value} {x z : Str} {J : List Int → Str → Prop} {rl : List Int} {S : Str} {us : List Value} {nu n : Nat} {tS : Tok} {h' : Heap} {tk : Nat}
    (F : Fr h₀ L h' m') (N : News h₀ L h' ((a, listOf us.toArray nu) :: rest)) (hi : IntsAre us rl.reverse) (hx : m' x = some (.str S tS)) (hm : ∀ y, y ≠ x → y ≠ z → m' y = m y) (hJ : J rl S) (hn : rl.length < n) :
    WStep h₀ L a rest m x z J Q s n .next { s with heap := h', toks := tk } := ⟨rl, S, us, nu, tS, m', h', tk, rfl, F, hx, hm, N, hi, hJ, hn⟩
theorem not_in {zs : List Str} {y : Str} (h : zs.contains y = false) : ∀ z ∈ zs, y ≠ z := fun z hz e => by
  subst e
  rw [List.contains_iff_mem.mpr hz] at h
  cases h
end
end Mine

-- part Pl
namespace Mine

structure Row where
  lv : Int
  nm : Str
  tx : Str
def Row.dat (r : Row) : Dat := .tuple [.int r.lv, .str r.nm, .str r.tx]

/-- one heading's own text -/
def itemS (r : Row) : Str := Str.ofString "<a href=\"#" ++ escS r.nm ++ Str.ofString "\">" ++ r.tx ++ Str.ofString "</a>"

/-- the inner while: the open levels, the innermost first -/
noncomputable def down (lv : Int) (it : Str) : List Int → Str → Str × List Int
  | [], S => (S ++ (Str.ofString "</li>\n<li>" ++ it), [lv])
  | x :: q, S =>
    if lv = x then (S ++ (Str.ofString "</li>\n</ul>\n</li>\n<li>" ++ it), lv :: q)
    else if x < lv then (S ++ (Str.ofString "</li>\n<li>" ++ it), lv :: x :: q)
    else down lv it q (S ++ Str.ofString "</li>\n</ul>\n")

/-- one turn of the contents' loop -/
noncomputable def turnR (p : Str × List Int) (r : Row) : Str × List Int :=
  match p.2 with
  | [] => (p.1 ++ (Str.ofString "<li>" ++ itemS r), [r.lv])
  | x :: q =>
    if r.lv = x then (p.1 ++ (Str.ofString "</li>\n<li>" ++ itemS r), x :: q)
    else if x < r.lv then (p.1 ++ (Str.ofString "\n<ul>\n<li>" ++ itemS r), r.lv :: x :: q)
    else down r.lv (itemS r) q p.1

/-- the last while -/
noncomputable def shut : List Int → Str → Str
  | [], S => S
  | [_], S => S
  | _ :: y :: q, S => shut (y :: q) (S ++ Str.ofString "</li>\n</ul>\n")

noncomputable def foldR (rows : List Row) : Str × List Int := rows.foldl turnR (Str.ofString "", [])

noncomputable def renderS (rows : List Row) : Str :=
  if rows = [] then Str.ofString "" else Str.ofString "<ul>\n" ++ shut (foldR rows).2 (foldR rows).1 ++ Str.ofString "</li>\n</ul>\n"

theorem len_app (a b : Str) : (a ++ b).length = a.length + b.length := Str.length_append a b
theorem l_close : (Str.ofString "</li>\n</ul>\n").length = 12 := by decide +kernel
theorem l_li : (Str.ofString "</li>\n<li>").length = 10 := by decide +kernel
theorem l_li0 : (Str.ofString "<li>").length = 4 := by decide +kernel
theorem l_ul : (Str.ofString "\n<ul>\n<li>").length = 10 := by decide +kernel
theorem l_big : (Str.ofString "</li>\n</ul>\n</li>\n<li>").length = 22 := by decide +kernel
theorem l_a : (Str.ofString "<a href=\"#").length = 10 := by decide +kernel
theorem l_b : (Str.ofString "\">").length = 2 := by decide +kernel
theorem l_c : (Str.ofString "</a>").length = 4 := by decide +kernel

theorem itemS_len {r : Row} (h1 : r.nm.length ≤ 20) (h2 : r.tx.length ≤ 20) : (itemS r).length ≤ 200 := by
  have := escS_len r.nm
  unfold itemS
  simp only [len_app, l_a, l_b, l_c]
  omega
theorem down_len (lv : Int) (it : Str) : ∀ (rl : List Int) (S : Str), (down lv it rl S).1.length ≤ S.length + it.length + 22 + 12 * rl.length ∧ (down lv it rl S).2.length ≤ rl.length + 1
  | [], S => by
    unfold down
    simp only [len_app, l_li, List.length_cons, List.length_nil]
    omega
  | x :: q, S => by
    unfold down
    have ih := down_len lv it q (S ++ Str.ofString "</li>\n</ul>\n")
    simp only [len_app, l_close] at ih
    split
    · simp only [len_app, l_big, List.length_cons]; omega
    · split
      · simp only [len_app, l_li, List.length_cons]; omega
      · simp only [List.length_cons]; omega
theorem turnR_len {p : Str × List Int} {r : Row} (h1 : r.nm.length ≤ 20) (h2 : r.tx.length ≤ 20) : (turnR p r).1.length ≤ p.1.length + 222 + 12 * p.2.length ∧ (turnR p r).2.length ≤ p.2.length + 1 := by
  have hi := itemS_len h1 h2
  obtain ⟨S, rl⟩ := p
  unfold turnR
  cases rl with
  | nil => simp only [len_app, l_li0, List.length_cons, List.length_nil]; omega
  | cons x q =>
    have hd := down_len r.lv (itemS r) q S
    dsimp only
    split
    · simp only [len_app, l_li, List.length_cons]; omega
    · split
      · simp only [len_app, l_ul, List.length_cons]; omega
      · simp only [List.length_cons]; omega
theorem foldR_len : ∀ (rows : List Row) (p : Str × List Int), (∀ r ∈ rows, r.nm.length ≤ 20 ∧ r.tx.length ≤ 20) → p.2.length + rows.length ≤ 12 → (rows.foldl turnR p).1.length ≤ p.1.length + 366 * rows.length ∧ (rows.foldl turnR p).2.length ≤ p.2.length + rows.length
  | [], p, _, _ => by simp
  | r :: rs, p, h, hb => by
    have h1 := h r (.head _)
    have ht := turnR_len (p := p) h1.1 h1.2
    simp only [List.length_cons] at hb
    have ih := foldR_len rs (turnR p r) (fun x hx => h x (.tail _ hx)) (by omega)
    simp only [List.foldl_cons, List.length_cons]
    omega
theorem foldR_succ {rows : List Row} {i : Nat} {r : Row} (h : rows[i]? = some r) : foldR (rows.take (i + 1)) = turnR (foldR (rows.take i)) r := by
  unfold foldR
  rw [List.take_add_one, h]
  simp
theorem down_pos (lv : Int) (it : Str) : ∀ (rl : List Int) (S : Str), S.length ≤ (down lv it rl S).1.length
  | [], S => by
    unfold down
    simp only [len_app]; omega
  | x :: q, S => by
    have ih := down_pos lv it q (S ++ Str.ofString "</li>\n</ul>\n")
    simp only [len_app] at ih
    unfold down
    split
    · simp only [len_app]; omega
    · split
      · simp only [len_app]; omega
      · omega
theorem turnR_ge (p : Str × List Int) (r : Row) : p.1.length ≤ (turnR p r).1.length := by
  obtain ⟨S, rl⟩ := p
  unfold turnR
  cases rl with
  | nil => simp only [len_app]; omega
  | cons x q =>
    have := down_pos r.lv (itemS r) q S
    dsimp only
    split
    · simp only [len_app]; omega
    · split
      · simp only [len_app]; omega
      · exact this
theorem foldR_ge : ∀ (rows : List Row) (p : Str × List Int), p.1.length ≤ (rows.foldl turnR p).1.length
  | [], p => Nat.le_refl _
  | r :: rs, p => Nat.le_trans (turnR_ge p r) (foldR_ge rs (turnR p r))
theorem foldR_pos {rows : List Row} (h : 0 < rows.length) : 0 < (foldR rows).1.length := by
  cases rows with
  | nil => simp at h
  | cons r rs =>
    have := foldR_ge rs (turnR (Str.ofString "", []) r)
    have e : 4 ≤ (turnR (Str.ofString "", []) r).1.length := by
      unfold turnR
      simp only [len_app, l_li0]; omega
    unfold foldR
    rw [List.foldl_cons]
    omega
theorem shut_ge : ∀ (rl : List Int) (S : Str), S.length ≤ (shut rl S).length
  | [], _ => Nat.le_refl _
  | [_], _ => Nat.le_refl _
  | _ :: y :: q, S => by
    have ih := shut_ge (y :: q) (S ++ Str.ofString "</li>\n</ul>\n")
    simp only [len_app] at ih
    unfold shut
    omega
section
variable {rows : List Row} {i : Nat} {r : Row} {S S' : Str} {x y lv : Int} {q rl : List Int} {it : Str} {P : Str × List Int}
theorem tR_nil (hr : rows[i]? = some r) (hJ : foldR (rows.take i) = (S, [])) : foldR (rows.take (i + 1)) = (S ++ (Str.ofString "<li>" ++ itemS r), [r.lv]) := by
  rw [foldR_succ hr, hJ]; rfl
theorem tR_eq (hr : rows[i]? = some r) (hJ : foldR (rows.take i) = (S, x :: q)) (a : r.lv = x) : foldR (rows.take (i + 1)) = (S ++ (Str.ofString "</li>\n<li>" ++ itemS r), x :: q) := by
  rw [foldR_succ hr, hJ]; unfold turnR; dsimp only; rw [if_pos a]
theorem tR_gt (hr : rows[i]? = some r) (hJ : foldR (rows.take i) = (S, x :: q)) (a : r.lv ≠ x) (b : x < r.lv) : foldR (rows.take (i + 1)) = (S ++ (Str.ofString "\n<ul>\n<li>" ++ itemS r), r.lv :: x :: q) := by
  rw [foldR_succ hr, hJ]; unfold turnR; dsimp only; rw [if_neg a, if_pos b]
theorem tR_down (hr : rows[i]? = some r) (hJ : foldR (rows.take i) = (S, x :: q)) (he : down r.lv (itemS r) rl S' = P) (a : r.lv ≠ x) (b : ¬ x < r.lv) (hd : down r.lv (itemS r) rl S' = down r.lv (itemS r) q S) : foldR (rows.take (i + 1)) = P := by
  rw [foldR_succ hr, hJ]; unfold turnR; dsimp only; rw [if_neg a, if_neg b, ← hd, he]
theorem down_nil : down lv it [] S = (S ++ (Str.ofString "</li>\n<li>" ++ it), [lv]) := rfl
theorem down_eq (a : lv = y) : down lv it (y :: q) S = (S ++ (Str.ofString "</li>\n</ul>\n</li>\n<li>" ++ it), lv :: q) := by
  rw [down, if_pos a]
theorem down_gt (a : lv ≠ y) (b : y < lv) : down lv it (y :: q) S = (S ++ (Str.ofString "</li>\n<li>" ++ it), lv :: y :: q) := by
  rw [down, if_neg a, if_pos b]
theorem down_lt (a : lv ≠ y) (b : ¬ y < lv) (hd : down lv it (y :: q) S = P) (hb : S.length + 12 * (y :: q).length ≤ 4600) (hq : (y :: q).length ≤ 12) :
    down lv it q (S ++ Str.ofString "</li>\n</ul>\n") = P ∧ (S ++ Str.ofString "</li>\n</ul>\n").length + 12 * q.length ≤ 4600 ∧ q.length ≤ 12 := by
  rw [down, if_neg a, if_neg b] at hd
  simp only [List.length_cons] at hb hq
  refine ⟨hd, ?_, by omega⟩
  rw [len_app, l_close]
  omega
theorem shut_step {S₀ : Str} {z : Str} (hd : shut (x :: y :: q) S = z) (hb : S.length + 12 * (x :: y :: q).length ≤ 4600) (h0 : S₀.length ≤ S.length) (hq : (x :: y :: q).length ≤ 12) :
    shut (y :: q) (S ++ Str.ofString "</li>\n</ul>\n") = z ∧ (S ++ Str.ofString "</li>\n</ul>\n").length + 12 * (y :: q).length ≤ 4600 ∧ S₀.length ≤ (S ++ Str.ofString "</li>\n</ul>\n").length ∧ (y :: q).length ≤ 12 := by
  rw [shut] at hd
  simp only [List.length_cons] at hb hq ⊢
  refine ⟨hd, ?_, ?_, by omega⟩
  · rw [len_app, l_close]; omega
  · rw [len_app]; omega
end
theorem render_eq {rows : List Row} {S S' : Str} {rl z : List Int} (h : 0 < rows.length) (hJ : foldR rows = (S, rl)) (hs : shut z S' = shut rl S) (hz : shut z S' = S') :
    Str.ofString "<ul>\n" ++ S' ++ Str.ofString "</li>\n</ul>\n" = renderS rows := by
  have hne : rows ≠ [] := fun e => by subst e; simp at h
  unfold renderS
  rw [if_neg hne, hJ, ← hs, hz]
theorem render_nil {rows : List Row} (h : ¬ 0 < rows.length) : Str.ofString "" = renderS rows := by
  cases rows with
  | nil => rfl
  | cons r rs => simp at h
theorem off_of {rest : List (Addr × Obj)} {a : Addr} (h : ∀ (p : Addr × Obj), p ∈ rest → p.1 < a) : OwnOff rest [a] := fun p hp b hb => by
  rw [List.mem_singleton.mp hb]; exact Nat.ne_of_lt (h p hp)
end Mine

-- part PlW
namespace Mine

def lineS (r : Row) : Str := Str.ofString "<li><a href=\"#" ++ escS r.nm ++ Str.ofString "\">" ++ r.tx ++ Str.ofString "</a>"

/-- the stack that the law keeps, the innermost first: what is not greater, and the level itself -/
def now2 (f : List Int) (lv : Int) : List Int :=
  match f with
  | [] => [lv]
  | x :: q => if x = lv then x :: q else lv :: x :: q
def now1 (lv x : Int) (q : List Int) : List Int := if lv < x then (x :: q).filter (fun y => decide (y ≤ lv)) else x :: q

def turnW (p : Str × List Int) (r : Row) : Str × List Int :=
  match p.2 with
  | [] => (p.1 ++ lineS r, [r.lv])
  | x :: q =>
    if (x :: q).length < (now2 (now1 r.lv x q) r.lv).length then (p.1 ++ Str.ofString "\n<ul>\n" ++ lineS r, now2 (now1 r.lv x q) r.lv)
    else (p.1 ++ Str.ofString "</li>\n" ++ Txt.mul (Str.ofString "</ul>\n</li>\n") (((x :: q).length : Int) - ((now2 (now1 r.lv x q) r.lv).length : Int)) ++ lineS r, now2 (now1 r.lv x q) r.lv)
def foldW (rows : List Row) : Str × List Int := rows.foldl turnW (Str.ofString "", [])
def wantedS (rows : List Row) : Str :=
  if rows = [] then Str.ofString "" else Str.ofString "<ul>\n" ++ (foldW rows).1 ++ Txt.mul (Str.ofString "</li>\n</ul>\n") ((foldW rows).2.length : Int)

theorem asc (a b c : Str) : a ++ b ++ c = a ++ (b ++ c) := Str.append_assoc a b c
theorem empty_app (a : Str) : Str.empty ++ a = a := Str.empty_append a
theorem app_empty (a : Str) : a ++ Str.empty = a := Str.append_empty a
theorem lineS_eq (r : Row) : lineS r = Str.ofString "<li>" ++ itemS r := by
  unfold lineS itemS
  have e : Str.ofString "<li><a href=\"#" = Str.ofString "<li>" ++ Str.ofString "<a href=\"#" := by decide +kernel
  rw [e]
  simp only [asc]
theorem foldl_cat (x acc : Array Nat) : ∀ n : Nat, (List.replicate n x).foldl (· ++ ·) acc = acc ++ (List.replicate n x).foldl (· ++ ·) #[] := by
  intro n
  induction n generalizing acc with
  | zero => simp
  | succ n ih =>
    rw [List.replicate_succ, List.foldl_cons, List.foldl_cons, ih (acc ++ x), ih (#[] ++ x)]
    simp [Array.append_assoc]
theorem mul_zero (x : Str) : Txt.mul x 0 = Str.empty := by
  unfold Txt.mul
  rw [if_pos (by decide)]
theorem mul_pos {x : Str} {n : Nat} : Txt.mul x ((n : Int) + 1) = ⟨(List.replicate (n + 1) x.cps).foldl (· ++ ·) #[]⟩ := by
  unfold Txt.mul
  rw [if_neg (by omega)]
  split
  · rename_i h
    rw [Bool.or_eq_true] at h
    rcases h with h | h
    · have : n = 0 := by have := eq_of_beq h; omega
      subst this
      refine Str.ext' ?_
      simp
    · have h0 : x.cps = #[] := by
        have := eq_of_beq h
        unfold Str.length at this
        exact Array.eq_empty_of_size_eq_zero this
      refine Str.ext' ?_
      show x.cps = _
      rw [h0]
      clear h0 h
      have : ∀ k, (List.replicate k (#[] : Array Nat)).foldl (· ++ ·) #[] = #[] := by
        intro k
        induction k with
        | zero => rfl
        | succ k ih => rw [List.replicate_succ, List.foldl_cons, Array.append_empty]; exact ih
      exact (this _).symm
  · have e : ((n : Int) + 1).toNat = n + 1 := by omega
    rw [e]
theorem mul_succ (x : Str) (n : Nat) : Txt.mul x ((n : Int) + 1) = x ++ Txt.mul x (n : Int) := by
  rw [mul_pos]
  cases n with
  | zero =>
    show _ = x ++ Txt.mul x 0
    rw [mul_zero, app_empty]
    refine Str.ext' ?_
    simp
  | succ n =>
    have e : ((n + 1 : Nat) : Int) = (n : Int) + 1 := by omega
    rw [e, mul_pos]
    refine Str.ext' ?_
    rw [Str.cps_append, List.replicate_succ, List.foldl_cons, foldl_cat]
    simp

theorem now2_len (f : List Int) (lv : Int) : (now2 f lv).length ≤ f.length + 1 := by
  unfold now2
  cases f with
  | nil => simp
  | cons x q => dsimp only; split <;> simp
theorem filter_all {lv : Int} : ∀ {q : List Int}, (∀ z ∈ q, z ≤ lv) → q.filter (fun y => decide (y ≤ lv)) = q := fun h => List.filter_eq_self.mpr fun z hz => decide_eq_true (h z hz)

theorem down_eqW (lv : Int) (it : Str) : ∀ (q : List Int) (S : Str), q.Pairwise (· > ·) →
    down lv it q S = (S ++ Str.ofString "</li>\n" ++ Txt.mul (Str.ofString "</ul>\n</li>\n") (((q.length + 1 : Nat) : Int) - ((now2 (q.filter (fun y => decide (y ≤ lv))) lv).length : Int)) ++ (Str.ofString "<li>" ++ it), now2 (q.filter (fun y => decide (y ≤ lv))) lv)
      ∧ (now2 (q.filter (fun y => decide (y ≤ lv))) lv).length ≤ q.length + 1
  | [], S, _ => by
    refine ⟨?_, by simp [now2]⟩
    show (_, _) = (_, _)
    have e : (((([] : List Int).length + 1 : Nat) : Int) - ((now2 (([] : List Int).filter (fun y => decide (y ≤ lv))) lv).length : Int)) = 0 := by simp [now2]
    rw [e, mul_zero, app_empty]
    have e2 : Str.ofString "</li>\n<li>" = Str.ofString "</li>\n" ++ Str.ofString "<li>" := by decide +kernel
    rw [e2]
    simp only [asc]
    rfl
  | y :: q, S, hp => by
    obtain ⟨h1, h2⟩ := List.pairwise_cons.mp hp
    unfold down
    by_cases a : lv = y
    · subst a
      have hf : (lv :: q).filter (fun y => decide (y ≤ lv)) = lv :: q := filter_all fun z hz => by
        rcases List.mem_cons.mp hz with rfl | hz
        · exact Int.le_refl _
        · exact Int.le_of_lt (h1 z hz)
      have hn : now2 (lv :: q) lv = lv :: q := by unfold now2; simp
      rw [hf, hn, if_pos rfl]
      refine ⟨?_, by simp⟩
      have e : ((((lv :: q).length + 1 : Nat) : Int) - ((lv :: q).length : Int)) = ((0 : Nat) : Int) + 1 := by omega
      rw [e, mul_succ]
      have e2 : Str.ofString "</li>\n</ul>\n</li>\n<li>" = Str.ofString "</li>\n" ++ (Str.ofString "</ul>\n</li>\n" ++ Str.ofString "<li>") := by decide +kernel
      rw [e2]
      show (_, _) = (_ ++ _ ++ (_ ++ Txt.mul _ 0) ++ _, _)
      rw [mul_zero, app_empty]
      simp only [asc]
    · rw [if_neg a]
      by_cases b : y < lv
      · have hf : (y :: q).filter (fun z => decide (z ≤ lv)) = y :: q := filter_all fun z hz => by
          rcases List.mem_cons.mp hz with rfl | hz
          · exact Int.le_of_lt b
          · exact Int.le_of_lt (Int.lt_trans (h1 z hz) b)
        have hn : now2 (y :: q) lv = lv :: y :: q := by unfold now2; simp [Ne.symm a]
        rw [hf, hn, if_pos b]
        refine ⟨?_, by simp⟩
        have e : ((((y :: q).length + 1 : Nat) : Int) - ((lv :: y :: q).length : Int)) = 0 := by simp
        rw [e, mul_zero, app_empty]
        have e2 : Str.ofString "</li>\n<li>" = Str.ofString "</li>\n" ++ Str.ofString "<li>" := by decide +kernel
        rw [e2]
        simp only [asc]
      · rw [if_neg b]
        have hf : (y :: q).filter (fun z => decide (z ≤ lv)) = q.filter (fun z => decide (z ≤ lv)) := by
          rw [List.filter_cons, if_neg]
          simp only [decide_eq_true_eq]
          omega
        rw [hf]
        obtain ⟨ih1, ih2⟩ := down_eqW lv it q (S ++ Str.ofString "</li>\n</ul>\n") h2
        refine ⟨?_, by simp only [List.length_cons]; omega⟩
        rw [ih1]
        refine congrArg (fun z => (z, _)) ?_
        generalize (now2 (q.filter (fun z => decide (z ≤ lv))) lv).length = n at ih2
        obtain ⟨d, hd⟩ : ∃ d : Nat, q.length + 1 = n + d := ⟨q.length + 1 - n, by omega⟩
        have e1 : (((q.length + 1 : Nat) : Int) - (n : Int)) = (d : Int) := by omega
        have e2 : ((((y :: q).length + 1 : Nat) : Int) - (n : Int)) = (d : Int) + 1 := by simp only [List.length_cons]; omega
        rw [e1, e2, mul_succ]
        have e3 : Str.ofString "</li>\n</ul>\n" ++ Str.ofString "</li>\n" = Str.ofString "</li>\n" ++ Str.ofString "</ul>\n</li>\n" := by decide +kernel
        simp only [asc]
        rw [← asc (Str.ofString "</li>\n</ul>\n"), e3, asc]

theorem desc_filter {q : List Int} {p : Int → Bool} (h : q.Pairwise (· > ·)) : (q.filter p).Pairwise (· > ·) := List.Pairwise.filter p h
theorem desc_now2 {f : List Int} {lv : Int} (h : f.Pairwise (· > ·)) (hb : ∀ z ∈ f, z ≤ lv) : (now2 f lv).Pairwise (· > ·) := by
  unfold now2
  cases f with
  | nil => simp
  | cons x q =>
    dsimp only
    split
    · exact h
    · rename_i hne
      refine List.pairwise_cons.mpr ⟨fun z hz => ?_, h⟩
      rcases List.mem_cons.mp hz with rfl | hz2
      · have := hb _ (.head _); show lv > _; omega
      · have h1 := (List.pairwise_cons.mp h).1 z hz2
        have h2 := hb _ (.head _)
        show lv > _; omega
theorem desc_turnW {p : Str × List Int} {r : Row} (h : p.2.Pairwise (· > ·)) : (turnW p r).2.Pairwise (· > ·) := by
  obtain ⟨W, rl⟩ := p
  have key : ∀ x q, (x :: q).Pairwise (· > ·) → (now2 (now1 r.lv x q) r.lv).Pairwise (· > ·) := by
    intro x q h
    unfold now1
    split
    · refine desc_now2 (desc_filter h) fun z hz => ?_
      simpa using (List.mem_filter.mp hz).2
    · rename_i hx
      refine desc_now2 h fun z hz => ?_
      rcases List.mem_cons.mp hz with rfl | hz2
      · omega
      · have h1 := (List.pairwise_cons.mp h).1 z hz2
        omega
  unfold turnW
  cases rl with
  | nil => simp
  | cons x q =>
    dsimp only at h ⊢
    split
    · exact key x q h
    · exact key x q h
theorem turnW_eq {p : Str × List Int} {r : Row} (h : p.2.Pairwise (· > ·)) : turnW p r = turnR p r := by
  obtain ⟨S, rl⟩ := p
  unfold turnW turnR
  cases rl with
  | nil => dsimp only; rw [lineS_eq]
  | cons x q =>
    dsimp only at h ⊢
    rw [lineS_eq]
    by_cases a : r.lv = x
    · have e1 : now1 r.lv x q = x :: q := by unfold now1; rw [if_neg (by omega)]
      have e2 : now2 (x :: q) r.lv = x :: q := by unfold now2; dsimp only; rw [if_pos a.symm]
      rw [e1, e2, if_neg (Nat.lt_irrefl _), if_pos a, Int.sub_self, mul_zero, app_empty]
      have e3 : Str.ofString "</li>\n<li>" = Str.ofString "</li>\n" ++ Str.ofString "<li>" := by decide +kernel
      rw [e3]
      simp only [asc]
    · rw [if_neg a]
      by_cases b : x < r.lv
      · have e1 : now1 r.lv x q = x :: q := by unfold now1; rw [if_neg (by omega)]
        have e2 : now2 (x :: q) r.lv = r.lv :: x :: q := by unfold now2; dsimp only; rw [if_neg (Ne.symm a)]
        rw [e1, e2, if_pos (by simp), if_pos b]
        have e3 : Str.ofString "\n<ul>\n<li>" = Str.ofString "\n<ul>\n" ++ Str.ofString "<li>" := by decide +kernel
        rw [e3]
        simp only [asc]
      · rw [if_neg b]
        have e1 : now1 r.lv x q = q.filter (fun z => decide (z ≤ r.lv)) := by
          unfold now1
          rw [if_pos (by omega), List.filter_cons, if_neg]
          simp only [decide_eq_true_eq]
          omega
        obtain ⟨h1, h2⟩ := down_eqW r.lv (itemS r) q S (List.pairwise_cons.mp h).2
        rw [e1, if_neg (by simp only [List.length_cons]; omega), h1]
        rfl
theorem foldW_eq (rows : List Row) : foldW rows = foldR rows ∧ (foldW rows).2.Pairwise (· > ·) := by
  have key : ∀ (rows : List Row) (p : Str × List Int), p.2.Pairwise (· > ·) → rows.foldl turnW p = rows.foldl turnR p ∧ (rows.foldl turnW p).2.Pairwise (· > ·) := by
    intro rows
    induction rows with
    | nil => intro p h; exact ⟨rfl, h⟩
    | cons r rs ih =>
      intro p h
      have := ih (turnW p r) (desc_turnW h)
      simp only [List.foldl_cons]
      rw [← turnW_eq h]
      exact this
  exact key rows _ .nil
theorem shut_eq : ∀ (rl : List Int) (S : Str), rl ≠ [] → shut rl S ++ Str.ofString "</li>\n</ul>\n" = S ++ Txt.mul (Str.ofString "</li>\n</ul>\n") (rl.length : Int)
  | [], _, h => absurd rfl h
  | [x], S, _ => by
    show S ++ _ = S ++ Txt.mul _ (((0 : Nat) : Int) + 1)
    rw [mul_succ]
    show _ = S ++ (_ ++ Txt.mul _ 0)
    rw [mul_zero, app_empty]
  | x :: y :: q, S, _ => by
    have ih := shut_eq (y :: q) (S ++ Str.ofString "</li>\n</ul>\n") (by simp)
    show shut (y :: q) (S ++ Str.ofString "</li>\n</ul>\n") ++ _ = _
    rw [ih]
    have e : ((x :: y :: q).length : Int) = ((y :: q).length : Int) + 1 := by simp
    rw [e, mul_succ, asc]
theorem turnR_ne (p : Str × List Int) (r : Row) : (turnR p r).2 ≠ [] := by
  have hd : ∀ (lv : Int) (it : Str) (rl : List Int) (S : Str), (down lv it rl S).2 ≠ [] := by
    intro lv it rl
    induction rl with
    | nil => intro S; simp [down]
    | cons x q ih =>
      intro S
      unfold down
      split
      · simp
      · split
        · simp
        · exact ih _
  obtain ⟨S, rl⟩ := p
  unfold turnR
  cases rl with
  | nil => simp
  | cons x q =>
    dsimp only
    split
    · simp
    · split
      · simp
      · exact hd _ _ _ _
theorem foldR_ne {rows : List Row} (h : rows ≠ []) : (foldR rows).2 ≠ [] := by
  unfold foldR
  rcases List.eq_nil_or_concat rows with rfl | ⟨rs, r, rfl⟩
  · exact absurd rfl h
  · rw [List.concat_eq_append, List.foldl_append]
    exact turnR_ne _ _
theorem wanted_eq (rows : List Row) : renderS rows = wantedS rows := by
  unfold renderS wantedS
  by_cases h : rows = []
  · rw [if_pos h, if_pos h]
  · rw [if_neg h, if_neg h, (foldW_eq rows).1, asc, asc, shut_eq _ _ (foldR_ne h)]
end Mine

-- part PlX
namespace Mine
section
variable {W : Str} {x y : Int} {q f : List Int} {row : Row}
theorem tW_nil : turnW (W, []) row = (W ++ lineS row, [row.lv]) := rfl
theorem low_len {lv : Int} (h : lv < x) : ((x :: q).filter (fun y => decide (y ≤ lv))).length ≤ q.length := by
  rw [List.filter_cons, if_neg]
  · exact List.length_filter_le _ _
  · simp only [decide_eq_true_eq]; omega
theorem tW_low (h : row.lv < x) {g g' : List Int} (hg : g = (x :: q).filter (fun y => decide (y ≤ row.lv))) (hn : now2 g row.lv = g') {k : Int} (hk : k = (q.length : Int) + 1 - (g'.length : Int)) (hl : g'.length ≤ q.length + 1) :
    turnW (W, x :: q) row = (W ++ Str.ofString "</li>\n" ++ Txt.mul (Str.ofString "</ul>\n</li>\n") k ++ lineS row, g') := by
  have e1 : now1 row.lv x q = g := by unfold now1; rw [if_pos h, hg]
  unfold turnW
  dsimp only
  rw [e1, hn, if_neg (by simp only [List.length_cons]; omega)]
  have e2 : (((x :: q).length : Nat) : Int) - (g'.length : Int) = k := by rw [hk]; simp
  rw [e2]
theorem tW_low0 (h : row.lv < x) (hg : ([] : List Int) = (x :: q).filter (fun y => decide (y ≤ row.lv))) :
    turnW (W, x :: q) row = (W ++ Str.ofString "</li>\n" ++ Txt.mul (Str.ofString "</ul>\n</li>\n") ((q.length : Int) + 1 - 1) ++ lineS row, [row.lv]) :=
  tW_low (g' := [row.lv]) h hg rfl rfl (by simp)
theorem tW_low1 (h : row.lv < x) (hg : y :: f = (x :: q).filter (fun y => decide (y ≤ row.lv))) (hy : y ≠ row.lv) :
    turnW (W, x :: q) row = (W ++ Str.ofString "</li>\n" ++ Txt.mul (Str.ofString "</ul>\n</li>\n") ((q.length : Int) + 1 - ((f.length : Int) + 2)) ++ lineS row, row.lv :: y :: f) := by
  have hl := low_len (q := q) h
  rw [← hg] at hl
  simp only [List.length_cons] at hl
  exact tW_low h hg (by unfold now2; dsimp only; rw [if_neg hy]) (by simp; omega) (by simp; omega)
theorem tW_low2 (h : row.lv < x) (hg : y :: f = (x :: q).filter (fun y => decide (y ≤ row.lv))) (hy : y = row.lv) :
    turnW (W, x :: q) row = (W ++ Str.ofString "</li>\n" ++ Txt.mul (Str.ofString "</ul>\n</li>\n") ((q.length : Int) + 1 - ((f.length : Int) + 1)) ++ lineS row, y :: f) := by
  have hl := low_len (q := q) h
  rw [← hg] at hl
  simp only [List.length_cons] at hl
  exact tW_low h hg (by unfold now2; dsimp only; rw [if_pos hy]) (by simp) (by simp; omega)
theorem tW_high (h : ¬ row.lv < x) (hx : x ≠ row.lv) : turnW (W, x :: q) row = (W ++ Str.ofString "\n<ul>\n" ++ lineS row, row.lv :: x :: q) := by
  have e1 : now1 row.lv x q = x :: q := by unfold now1; rw [if_neg h]
  have e2 : now2 (x :: q) row.lv = row.lv :: x :: q := by unfold now2; dsimp only; rw [if_neg hx]
  unfold turnW
  dsimp only
  rw [e1, e2, if_pos (by simp)]
theorem tW_same (h : ¬ row.lv < x) (hx : x = row.lv) : turnW (W, x :: q) row = (W ++ Str.ofString "</li>\n" ++ Txt.mul (Str.ofString "</ul>\n</li>\n") ((q.length : Int) + 1 - ((q.length : Int) + 1)) ++ lineS row, x :: q) := by
  have e1 : now1 row.lv x q = x :: q := by unfold now1; rw [if_neg h]
  have e2 : now2 (x :: q) row.lv = x :: q := by unfold now2; dsimp only; rw [if_pos hx]
  unfold turnW
  dsimp only
  rw [e1, e2, if_neg (by omega)]
  have e3 : (((x :: q).length : Nat) : Int) = (q.length : Int) + 1 := by simp
  rw [e3]
theorem wanted_pos {rows : List Row} (h : 0 < rows.length) : renderS rows = Str.ofString "<ul>\n" ++ (foldW rows).1 ++ Txt.mul (Str.ofString "</li>\n</ul>\n") ((foldW rows).2.length : Int) := by
  have hne : rows ≠ [] := fun e => by subst e; simp at h
  rw [wanted_eq]; unfold wantedS; rw [if_neg hne]
theorem wanted_nil {rows : List Row} (h : rows.length = 0) : renderS rows = (foldW rows).1 := by
  have hn : rows = [] := List.length_eq_zero_iff.mp h
  subst hn; rfl
theorem my_eq {prog : Program} {w : World} {A : Around} {E : Value → Shared → Prop} {s : Shared} {x y : Str} {t u : Tok} {Q : Value → Shared → Prop} (e : x = y) (h : Q (.bool true) s) : wpAny (model prog w) A (compareOp .Eq (.str x t) (.str y u)) Q E s :=
  eq_str (by subst e; rw [beq_self_eq_true]; exact h)
end
end Mine

-- part Rg
namespace Mine
section
variable {prog : Program} {w : World} {A : Around} {E : Value → Shared → Prop} {Q : Flow → Shared → Prop} {s : Shared} {env : Env} {h₀ : Heap} {L a : Addr}

/-- what a turn of the for over a range leaves behind -/
def RStep {σ : Type} (h₀ : Heap) (L : Addr) (Led : σ → List (Addr × Obj)) (ps : σ → List (Str × Value)) (m₀ : Str → Option Value) (x : Str) (zs : List Str) (Ok : σ → Prop) (own : List (Addr × Obj)) (Q : Flow → Shared → Prop) (s : Shared) (f : Flow) (s₃ : Shared) : Prop :=
  match f with
  | .ret v => Q (.ret v) s₃
  | .brk => Q .next s₃
  | _ => ∃ (c' : σ) (m' : Str → Option Value) (h' : Heap) (tk' : Nat), s₃ = { s with heap := h', toks := tk' } ∧ Fr h₀ L h' m' ∧ (∀ p ∈ ps c', m' p.1 = some p.2) ∧ (∀ z, z ≠ x → (∀ p ∈ ps c', z ≠ p.1) → zs.contains z = false → m' z = m₀ z) ∧ News h₀ L h' (Led c' ++ own) ∧ OwnOff own ((Led c').map (·.1)) ∧ Ok c'
theorem rstep_end {σ : Type} {Led : σ → List (Addr × Obj)} {ps : σ → List (Str × Value)} {m₀ m' : Str → Option Value} {x : Str} {zs : List Str} {Ok : σ → Prop} {own news : List (Addr × Obj)} {h' : Heap} {tk : Nat} (c' : σ)
    (F : Fr h₀ L h' m') (N : News h₀ L h' news) (hn : ∀ p ∈ Led c' ++ own, p ∈ news) (hk : ∀ p ∈ ps c', m' p.1 = some p.2) (hr : ∀ z, z ≠ x → (∀ p ∈ ps c', z ≠ p.1) → zs.contains z = false → m' z = m₀ z) (hof : OwnOff own ((Led c').map (·.1))) (ho : Ok c') :
    RStep h₀ L Led ps m₀ x zs Ok own Q s .next { s with heap := h', toks := tk } := ⟨c', m', h', tk, rfl, F, hk, hr, fun p hp => N p (hn p hp), hof, ho⟩

theorem iter_range {σ : Type} {px : Pos} {body : List Stmt} {r : Addr} {b₀ : Int} {t₀ u₀ v₀ : Tok} {n : Nat} {m₀ : Str → Option Value} (x : Str) (Led : σ → List (Addr × Obj)) (ps : σ → List (Str × Value)) (zs : List Str) (Ok : Nat → σ → Prop) (c₀ : σ) {news : List (Addr × Obj)}
    (hh : A.handled = none) (hx : env.kindOf x = some .local) (hp : (env.scope.kind == .class || (env.scope.kind == .module && env.locals != env.globals)) = false)
    (hr : IsRange s.heap r 0 b₀ 1 t₀ u₀ v₀) (hsmall : Builtin.Range.small 0 b₀ 1 = true) (hsz : Builtin.Range.rangeSize 0 b₀ 1 = (n : Int))
    (F : Fr h₀ env.locals s.heap m₀) (N : News h₀ env.locals s.heap news) (hn : ∀ p ∈ Led c₀, p ∈ news) (hk : ∀ p ∈ ps c₀, m₀ p.1 = some p.2) (hok : Ok 0 c₀)
    (turn : ∀ (i : Nat) (c : σ) t (u : Str → Option Value) h tk own, i < n → Ok i c → OwnOff own ((Led c).map (·.1)) →
      Fr h₀ env.locals h (fun y => if y = x then some (.int (i : Int) t) else kstB (fun z => if zs.contains z then u z else m₀ z) (ps c) y) → News h₀ env.locals h (Led c ++ own) →
      wpAny (model prog w) A (execs body env) (RStep h₀ env.locals Led ps m₀ x zs (Ok (i + 1)) own Q s) E { s with heap := h, toks := tk })
    (done : ∀ (c : σ) (u : Str → Option Value) h tk, Ok n c → Fr h₀ env.locals h (fun y => if y = x then u y else kstB (fun z => if zs.contains z then u z else m₀ z) (ps c) y) → News h₀ env.locals h (Led c) → Q .next { s with heap := h, toks := tk })
    (hE : PassesOwn (model prog w) A env E := by passes_own) :
    wpAny (model prog w) A (pyIter (.ref r)) (fun it s₂ =>
      codeAny (model prog w) A (.forLoop (.Name x px) it body [] env) (fun r s' => match r with | .ok f => Q f s' | .error e => cameBackBy (model prog w) A env E e s') s₂) E s := by
  refine wpAny_pyIter_range hr hsmall ?_
  have W : Walks prog w A s.heap.objs.size [s.heap.objs.size] [s.heap.objs.size] n (fun i v => i < n ∧ ∃ t, v = .int (0 + i * 1) t)
      (fun i h => IsRangeIter h s.heap.objs.size (0 + (i : Nat) * 1) ((n : Int) - (i : Nat)) 1) := (Walks.range hh _ 0 1 n).bound
  generalize hI : s.heap.objs.size = I at W ⊢
  have hLI : env.locals ≠ I := by rw [← hI]; exact Nat.ne_of_lt F.ns.lt
  have hI0 : h₀.get? I = none := by rw [← hI]; exact next_is_new F
  have hnewI : ∀ p ∈ news, p.1 ≠ I := fun p hp => by rw [← hI]; exact Nat.ne_of_lt (Heap.lt_size (N p hp).1)
  refine codeAny_forLoop (fun j s' => ∃ i c m' h' tk oI, s' = { s with heap := h', toks := tk } ∧ Fr h₀ env.locals h' m' ∧ (∀ p ∈ ps c, m' p.1 = some p.2) ∧ (∀ z, z ≠ x → (∀ p ∈ ps c, z ≠ p.1) → zs.contains z = false → m' z = m₀ z) ∧
      News h₀ env.locals h' (Led c ++ [(I, oI)]) ∧ (∀ p ∈ Led c, p.1 ≠ I) ∧ Ok i c ∧ IsRangeIter h' I (0 + (i : Nat) * 1) ((n : Int) - (i : Nat)) 1 ∧ i ≤ n ∧ j = n + 1 - i) ?_ (n + 1) ?_
  · rintro j s' ⟨i, c, m', h', tk, oI, rfl, F', hk', hm', N', hne', hok', hit, hile, rfl⟩
    have back : ∀ h₁ : Heap, (∀ b o, b ∉ [I] → h'.get? b = some o → h₁.get? b = some o) → Fr h₀ env.locals h₁ m' ∧ News h₀ env.locals h₁ (Led c) := fun h₁ hkk => by
      refine ⟨⟨F'.ns.at' fun o e => hkk _ o (fun q => hLI (List.mem_singleton.mp q)) e, fun b o e => hkk b o (fun q => by rw [List.mem_singleton.mp q, hI0] at e; cases e) (F'.keep b o e), F'.above⟩, fun p hp => ?_⟩
      have z := N' p (List.mem_append_left _ hp)
      exact ⟨hkk _ _ (fun q => hne' p hp (List.mem_singleton.mp q)) z.1, z.2⟩
    by_cases hlt : i < n
    · refine W.item i _ _ _ hlt hit fun v h₁ tk₁ hP hit₁ hkk => ?_
      obtain ⟨_, t, rfl⟩ := hP
      obtain ⟨F₁, N₁⟩ := back h₁ hkk
      have e1 : (0 : Int) + (i : Int) * 1 = (i : Int) := by omega
      rw [e1]
      refine wpAny_assign_Name (wpAny_storeName_local hx F₁.ns (fun h₂ hn₂ hs₂ => ?_) hp)
      have F₂ := F₁.set hn₂ hs₂
      have N₂ : News h₀ env.locals h₂ (Led c) := N₁.set hs₂
      have hIne : I ≠ env.locals := Ne.symm hLI
      have hI₂ : ∃ oI', h₂.get? I = some oI' ∧ h₁.get? I = some oI' := ⟨_, (hs₂.2 I hIne).trans hit₁, hit₁⟩
      obtain ⟨oI', hoI', hoI1⟩ := hI₂
      have N₃ : News h₀ env.locals h₂ (Led c ++ [(I, oI')]) := fun p hp => by
        rcases List.mem_append.mp hp with hp | hp
        · exact N₂ p hp
        · rw [List.mem_singleton.mp hp]; exact ⟨hoI', hIne, hI0⟩
      refine wpAny_mono (turn i c t m' h₂ _ [(I, oI')] hlt hok' (fun p hp b hb => by
        rw [List.mem_singleton.mp hp]
        obtain ⟨q, hq, rfl⟩ := List.mem_map.mp hb
        exact Ne.symm (hne' q hq)) (kst_fr hk' hm' F₂) N₃) (fun f s₃ h₃ => ?_) hE
      have fin : RStep h₀ env.locals Led ps m₀ x zs (Ok (i + 1)) [(I, oI')] Q s .next s₃ → ∃ m_1, m_1 < n + 1 - i ∧ ∃ i c m' h' tk oI, s₃ = { s with heap := h', toks := tk } ∧ Fr h₀ env.locals h' m' ∧ (∀ p ∈ ps c, m' p.1 = some p.2) ∧ (∀ z, z ≠ x → (∀ p ∈ ps c, z ≠ p.1) → zs.contains z = false → m' z = m₀ z) ∧
          News h₀ env.locals h' (Led c ++ [(I, oI)]) ∧ (∀ p ∈ Led c, p.1 ≠ I) ∧ Ok i c ∧ IsRangeIter h' I (0 + (i : Nat) * 1) ((n : Int) - (i : Nat)) 1 ∧ i ≤ n ∧ m_1 = n + 1 - i := by
        rintro ⟨c', m'', h'', tk'', e, F'', hk'', hm'', N'', hof, hok''⟩
        have hI3 := (N'' (I, oI') (List.mem_append_right _ (.head _))).1
        refine ⟨n + 1 - (i + 1), by omega, i + 1, c', m'', h'', tk'', oI', e, F'', hk'', hm'', N'', fun p hp => Ne.symm (hof (I, oI') (.head _) p.1 (List.mem_map.mpr ⟨p, hp, rfl⟩)), hok'', ?_, hlt, rfl⟩
        refine W.frame (i + 1) h₁ h'' hit₁ fun b hb o e' => ?_
        rw [List.mem_singleton.mp hb] at e' ⊢
        rw [hoI1] at e'
        cases e'
        exact hI3
      cases f with
      | next => exact fin h₃
      | cont => exact fin h₃
      | brk => exact h₃
      | ret v => exact h₃
    · have hin : i = n := by omega
      subst hin
      refine W.done _ _ _ hit fun h₁ tk₁ hkk => wpAny_execs_nil ?_
      obtain ⟨F₁, N₁⟩ := back h₁ hkk
      exact done c m' h₁ tk₁ hok' (kst_frOut hk' hm' F₁) N₁
  · refine ⟨0, c₀, m₀, _, s.toks, { cls := .type "range_iterator", data := .fields #[rawInt 0, rawInt (Builtin.Range.rangeSize 0 b₀ 1), rawInt 1] }, rfl, F.push _, hk, fun _ _ _ _ => rfl, fun p hp => ?_, fun p hp => hnewI p (hn p hp), hok, ?_, Nat.zero_le _, rfl⟩
    · rcases List.mem_append.mp hp with hp | hp
      · exact ⟨Heap.get?_push_of_some _ (N p (hn p hp)).1, (N p (hn p hp)).2⟩
      · rw [List.mem_singleton.mp hp]
        exact ⟨hI ▸ Heap.get?_push_size _ rfl, Ne.symm hLI, hI0⟩
    · show IsRangeIter _ _ _ _ _
      rw [hsz]
      simpa [hI] using Heap.get?_push_size s.heap (o := { cls := .type "range_iterator", data := .fields #[rawInt 0, rawInt (n : Int), rawInt 1] }) rfl
end
end Mine

namespace Mine
section
set_option maxRecDepth 100000
set_option maxHeartbeats 8000000
open_top hd for PySem.Challenge.rw_ba0038_01
end
end Mine

-- part C1
namespace Mine
set_option maxRecDepth 100000 in
set_option maxHeartbeats 8000000 in
theorem c_lawAt {w : World} {mean : ExcName → Option Value} {mg mb : Str → Option Value} {news : List (Addr × Obj)} {l : Addr} {vs : List Value} {ns : List Int} {k : Int} {t : Tok}
   {dp un : Nat} {gd : Option (List Code)} {cn : Str} {cs : Scope} {a : Addr} {ccd : Value} {cl : List (Str × Addr)} {outer : List Env} {A₀ : Around} {base h₀ : Heap} {L : Addr} {m : Str → Option Value} {s : Shared} {Q E : Value → Shared → Prop} :
    Below A₀ base outer h₀ → Fr h₀ L s.heap m → (hd.heap_39 w.params).In h₀ → News h₀ L s.heap news → Top hd.view_39 (looseW hd.view_39 [PySem.Str.ofString "escape"]) mean mg mb h₀ → cs.kind = .function →
    base.IsList l vs.toArray → IntsAre vs ns → ns.length ≤ 100 → 0 ≤ k → k ≤ 100 → dp + 1 < recursionLimit → un + 8 < cLine →
    (∀ (v : Int) (t : Tok) (h' : Heap) (tk' : Nat), Fr h₀ L h' m → News h₀ L h' news → Q (.int v t) { s with heap := h', toks := tk' }) →
      wpAny (model PySem.Challenge.rw_ba0038_01.row.prog w) (ktrTop dp un gd cn cs L a ccd cl outer) (call (.ref 43) [.ref l, .int k t]) Q E s := by
  w_top off
  k_fill
  intro B F X N T hk hl hi hlen h0 h1 hdp hu hret
  refine wpAny_call ?_
  k_dflt cell_enter
  k_steps
  all_goals exact hret _ _ _ _ (by assumption) (by assumption)
end Mine

-- part C2
namespace Mine

theorem my_replace {prog : Program} {w : World} {A : Around} {E : Value → Shared → Prop} {s : Shared} {x y z : Str} {t u v : Tok} {Q : Value → Shared → Prop} (hu : u ≠ 0) (hv : v ≠ 0) (huv : u ≠ v) (hyz : (y == z) = false) (hx : x.length ≤ 1048576) (hy : y.length = 1) (hz : z.length ≤ 6)
    (hq : ∀ t' k, s.toks ≤ k → (Txt.replace x y z).length ≤ 6 * x.length → Q (.str (Txt.replace x y z) t') { s with toks := k }) : wpAny (model prog w) A (call (.builtin "str.replace") [.str x t, .str y u, .str z v]) Q E s :=
  wpAny_with_toks (Nat.le_refl _) (SC.replaceW hu hv huv hyz hx (by omega) fun t' k hk => hq t' k hk (by
    obtain ⟨⟨l⟩⟩ := y
    match l, hy with
    | [c], _ => exact replace_len 6 hz (by decide)))

local macro_rules | `(tactic| k_room) => `(tactic| ktr_room)
local macro_rules | `(tactic| walk_at "execs cons") => `(tactic| (k_here; (with_reducible refine wpAny_execs_cons ?_); try dsimp only))
local macro_rules | `(tactic| walk_at "call builtin:str.replace") => `(tactic| (k_here; (refine my_replace ?ku ?kv ?kw (by decide +kernel) ?kx (by decide +kernel) (by decide +kernel) ?_); (case ku => (show @Ne Nat _ _); omega); (case kv => (show @Ne Nat _ _); omega); (case kw => (show @Ne Nat _ _); omega); (case kx => omega); intro t' k' hk' hl'; dsimp only at hk'))

set_option maxRecDepth 100000 in
set_option maxHeartbeats 8000000 in
theorem c_esc {w : World} {mean : ExcName → Option Value} {mg mb : Str → Option Value} {news : List (Addr × Obj)} {x : Str} {t : Tok}
   {dp un : Nat} {gd : Option (List Code)} {cn : Str} {cs : Scope} {a : Addr} {ccd : Value} {cl : List (Str × Addr)} {outer : List Env} {A₀ : Around} {base h₀ : Heap} {L : Addr} {m : Str → Option Value} {s : Shared} {Q E : Value → Shared → Prop} :
    Below A₀ base outer h₀ → Fr h₀ L s.heap m → (hd.heap_39 w.params).In h₀ → News h₀ L s.heap news → Top hd.view_39 (looseW hd.view_39 [PySem.Str.ofString "escape"]) mean mg mb h₀ → cs.kind = .function →
    x.length ≤ 20 → 1 ≤ s.toks → dp + 1 < recursionLimit → un + 8 < cLine →
    (∀ (t : Tok) (h' : Heap) (tk' : Nat), Fr h₀ L h' m → News h₀ L h' news → Q (.str (escS x) t) { s with heap := h', toks := tk' }) →
      wpAny (model PySem.Challenge.rw_ba0038_01.row.prog w) (ktrTop dp un gd cn cs L a ccd cl outer) (call (.ref 22) [.str x t]) Q E s := by
  w_top off
  k_fill
  intro B F X N T hk hx ht hdp hu hret
  refine wpAny_call ?_
  obtain ⟨ck, cnm, cgn, cco⟩ := cs
  dsimp only at hk
  subst hk
  k_dflt k_enter
  k_steps
  all_goals (rw [replace_escS]; exact hret _ _ _ (by assumption) (by assumption))
end Mine

-- part C3
namespace Mine

def escI (l : List Int) : Str := ⟨((l.map Int.toNat).flatMap esc1).toArray⟩

theorem escI_snoc (pre : List Int) (n : Nat) : (escI (pre ++ [(n : Int)])).cps.toList = (escI pre).cps.toList ++ esc1 n := by
  simp [escI, List.flatMap_append]
theorem escI_codes (x : Str) : escI (KStt.codes x) = escS x := by
  refine str_ext ?_
  have e : (KStt.codes x).map Int.toNat = x.cps.toList := by
    have e0 := congrArg (fun y : Str => y.cps.toList) (KStt.txt_codes x)
    simpa [KStt.txt] using e0
  simp only [escI, escS, e]
theorem sign_lit {n c : Nat} {z : Str} (hz : z = ⟨#[c]⟩) (h : ((⟨#[n]⟩ : Str) == z) = true) : n = c := by
  have e := eq_of_beq h
  subst hz
  simpa using e
theorem sign_not {n c : Nat} {z : Str} (hz : z = ⟨#[c]⟩) (h : ((⟨#[n]⟩ : Str) == z) = false) : n ≠ c := fun e => by
  subst hz; subst e; rw [beq_self_eq_true] at h; cases h
theorem esc_way {o : Str} {pre : List Int} {n : Nat} (z : Str) (hz : esc1 n = z.cps.toList) (h : o = escI pre) (hl : o.length ≤ 6 * pre.length) :
    o ++ z = escI (pre ++ [(n : Int)]) ∧ (o ++ z).length ≤ 6 * (pre ++ [(n : Int)]).length := by
  refine ⟨str_ext ?_, ?_⟩
  · rw [Str.cps_append, Array.toList_append, escI_snoc, hz, h]
  · have := esc1_len n
    rw [hz, len_toList] at this
    rw [Str.length_append, List.length_append]
    simp only [List.length_cons, List.length_nil]
    omega
theorem esc_nil : Str.ofString "" = escI [] ∧ (Str.ofString "").length ≤ 6 * ([] : List Int).length := by decide +kernel
theorem esc_lt {o : Str} {pre : List Int} {n : Nat} (a : ((⟨#[n]⟩ : Str) == Str.ofString "<") = true) (h : o = escI pre) (hl : o.length ≤ 6 * pre.length) :
    o ++ Str.ofString "&lt;" = escI (pre ++ [(n : Int)]) ∧ (o ++ Str.ofString "&lt;").length ≤ 6 * (pre ++ [(n : Int)]).length :=
  esc_way _ (by rw [sign_lit lit_lt a, lit_lt']; rfl) h hl
theorem esc_gt {o : Str} {pre : List Int} {n : Nat} (a : ((⟨#[n]⟩ : Str) == Str.ofString ">") = true) (h : o = escI pre) (hl : o.length ≤ 6 * pre.length) :
    o ++ Str.ofString "&gt;" = escI (pre ++ [(n : Int)]) ∧ (o ++ Str.ofString "&gt;").length ≤ 6 * (pre ++ [(n : Int)]).length :=
  esc_way _ (by rw [sign_lit lit_gt a, lit_gt']; rfl) h hl
theorem esc_qt {o : Str} {pre : List Int} {n : Nat} (a : ((⟨#[n]⟩ : Str) == Str.ofString "\"") = true) (h : o = escI pre) (hl : o.length ≤ 6 * pre.length) :
    o ++ Str.ofString "&quot;" = escI (pre ++ [(n : Int)]) ∧ (o ++ Str.ofString "&quot;").length ≤ 6 * (pre ++ [(n : Int)]).length :=
  esc_way _ (by rw [sign_lit lit_qt a, lit_qt']; rfl) h hl
theorem esc_amp {o : Str} {pre : List Int} {n : Nat} (a : ((⟨#[n]⟩ : Str) == Str.ofString "&") = true) (h : o = escI pre) (hl : o.length ≤ 6 * pre.length) :
    o ++ Str.ofString "&amp;" = escI (pre ++ [(n : Int)]) ∧ (o ++ Str.ofString "&amp;").length ≤ 6 * (pre ++ [(n : Int)]).length :=
  esc_way _ (by rw [sign_lit lit_amp a, lit_amp']; rfl) h hl
theorem esc_else {o : Str} {pre : List Int} {n : Nat} (a : ((⟨#[n]⟩ : Str) == Str.ofString "<") = false) (b : ((⟨#[n]⟩ : Str) == Str.ofString ">") = false)
    (c : ((⟨#[n]⟩ : Str) == Str.ofString "\"") = false) (d : ((⟨#[n]⟩ : Str) == Str.ofString "&") = false) (h : o = escI pre) (hl : o.length ≤ 6 * pre.length) :
    o ++ (⟨#[n]⟩ : Str) = escI (pre ++ [(n : Int)]) ∧ (o ++ (⟨#[n]⟩ : Str)).length ≤ 6 * (pre ++ [(n : Int)]).length :=
  esc_way _ (by
    have h1 := sign_not lit_lt a
    have h2 := sign_not lit_gt b
    have h3 := sign_not lit_qt c
    have h4 := sign_not lit_amp d
    unfold esc1
    rw [if_neg h1, if_neg h2, if_neg h3, if_neg h4]) h hl

set_option maxRecDepth 100000 in
set_option maxHeartbeats 8000000 in
theorem c_shown {w : World} {mean : ExcName → Option Value} {mg mb : Str → Option Value} {news : List (Addr × Obj)} {x : Str} {t : Tok}
   {dp un : Nat} {gd : Option (List Code)} {cn : Str} {cs : Scope} {a : Addr} {ccd : Value} {cl : List (Str × Addr)} {outer : List Env} {A₀ : Around} {base h₀ : Heap} {L : Addr} {m : Str → Option Value} {s : Shared} {Q E : Value → Shared → Prop} :
    Below A₀ base outer h₀ → Fr h₀ L s.heap m → (hd.heap_39 w.params).In h₀ → News h₀ L s.heap news → Top hd.view_39 (looseW hd.view_39 [PySem.Str.ofString "escape"]) mean mg mb h₀ → cs.kind = .function →
    x.length ≤ 20 → dp + 1 < recursionLimit → un + 8 < cLine →
    (∀ (t : Tok) (h' : Heap) (tk' : Nat), Fr h₀ L h' m → News h₀ L h' news → Q (.str (escS x) t) { s with heap := h', toks := tk' }) →
      wpAny (model PySem.Challenge.rw_ba0038_01.row.prog w) (ktrTop dp un gd cn cs L a ccd cl outer) (call (.ref 50) [.str x t]) Q E s := by
  w_top off
  k_fill
  intro B F X N T hk hx hdp hu hret
  refine wpAny_call ?_
  k_dflt cell_enter
  (k_with "pyIter str" => k_state (fun pre o => o = escI pre ∧ o.length ≤ 6 * pre.length) "out")
  (k_with "state" => first | exact esc_nil | exact esc_lt (by assumption) (by assumption) (by assumption) | exact esc_gt (by assumption) (by assumption) (by assumption) | exact esc_qt (by assumption) (by assumption) (by assumption) | exact esc_amp (by assumption) (by assumption) (by assumption) | exact esc_else (by assumption) (by assumption) (by assumption) (by assumption) (by assumption) (by assumption))
  k_steps
  all_goals ((rename (_ = escI (KStt.codes _)) => he9); rw [escI_codes] at he9; subst he9; exact hret _ _ _ (by assumption) (by assumption))
end Mine

-- part Fm
namespace Mine
set_option maxRecDepth 100000 in
set_option maxHeartbeats 400000 in
theorem my_format0 {prog : Program} {w : World} {A : Around} {E : Value → Shared → Prop} {s : Shared} {a b : Str} {t t1 t2 : Tok} {Q : Value → Shared → Prop} (ha : a.length ≤ 120) (hb : b.length ≤ 20)
    (h : ∀ t' k, Q (.str (Str.mk #[60, 97, 32, 104, 114, 101, 102, 61, 34, 35] ++ a ++ Str.mk #[34, 62] ++ b ++ Str.mk #[60, 47, 97, 62]) t') { s with toks := k }) : wpAny (model prog w) A (call (.builtin "str.format") [.str (Str.ofString "<a href=\"#{}\">{}</a>") t, .str a t1, .str b t2]) Q E s := by
  (refine' KFm.call_k ?kfmF ?kfmg ?kfmm ?_; (case kfmF => kfm_eq); (case kfmg => exact KFm.args_3 _ _ _); (case kfmm => k_dflt kfm_run))
  exact h
end Mine
namespace Mine
theorem lit_a : Str.ofString "<a href=\"#" = Str.mk #[60, 97, 32, 104, 114, 101, 102, 61, 34, 35] := by decide +kernel
theorem lit_b : Str.ofString "\">" = Str.mk #[34, 62] := by decide +kernel
theorem lit_c : Str.ofString "</a>" = Str.mk #[60, 47, 97, 62] := by decide +kernel
theorem my_format {prog : Program} {w : World} {A : Around} {E : Value → Shared → Prop} {s : Shared} {r : Row} {t t1 t2 : Tok} {Q : Value → Shared → Prop} (ha : r.nm.length ≤ 20) (hb : r.tx.length ≤ 20)
    (h : ∀ t' k, Q (.str (itemS r) t') { s with toks := k }) : wpAny (model prog w) A (call (.builtin "str.format") [.str (Str.ofString "<a href=\"#{}\">{}</a>") t, .str (escS r.nm) t1, .str r.tx t2]) Q E s := by
  have hl := escS_len r.nm
  refine my_format0 (by omega) hb ?_
  unfold itemS at h
  rw [lit_a, lit_b, lit_c] at h
  exact h
end Mine

-- part C4
namespace Mine

section
variable {prog : Program} {w : World} {A : Around} {E : Value → Shared → Prop} {s : Shared} {h₀ : Heap} {L l a : Addr} {m : Str → Option Value} {us vs : List Value} {n k : Nat} {rest led : List (Addr × Obj)}
theorem my_truthy {Q : Bool → Shared → Prop}
    (N : News h₀ L s.heap led) (hm : (l, listOf vs.toArray n) ∈ led) (hk : vs.length = k) (hz : k ≤ 1000) (h : Q (decide (0 < k)) { s with toks := s.toks + 1 + 1 }) : wpAny (model prog w) A (truthy (.ref l)) Q E s := by
  refine wpAny_truthy_list (items := vs.toArray) ⟨_, (N _ hm).1, rfl, n, rfl⟩ (by simp; omega) ?_
  have e : (!vs.toArray.isEmpty) = decide (0 < k) := by
    subst hk
    cases vs <;> simp
  rw [e]; exact h
theorem my_truthy_nil {Q : Bool → Shared → Prop}
    (N : News h₀ L s.heap ((l, listOf us.toArray n) :: rest)) (hi : IntsAre us ([] : List Int).reverse) (h : Q false { s with toks := s.toks + 1 + 1 }) : wpAny (model prog w) A (truthy (.ref l)) Q E s :=
  my_truthy N (.head _) (k := 0) (by rw [hi.length]; rfl) (by decide) h
theorem my_truthy_cons {x : Int} {q : List Int} {Q : Bool → Shared → Prop}
    (N : News h₀ L s.heap ((l, listOf us.toArray n) :: rest)) (hi : IntsAre us (x :: q).reverse) (hz : q.length ≤ 900) (h : Q true { s with toks := s.toks + 1 + 1 }) : wpAny (model prog w) A (truthy (.ref l)) Q E s :=
  my_truthy N (.head _) (k := q.length + 1) (by rw [hi.length]; simp) (by omega) (by simpa using h)
theorem my_len1 {y : Int} {Q : Value → Shared → Prop} (N : News h₀ L s.heap ((l, listOf us.toArray n) :: rest)) (hi : IntsAre us [y].reverse)
    (h : Q (.int 1 (s.toks + 1)) { s with toks := s.toks + 1 + 1 }) : wpAny (model prog w) A (call (.builtin "len") [.ref l]) Q E s :=
  kst_len N (.head _) (k := 1) (by rw [hi.length]; rfl) (by decide) h
theorem my_len2 {y y' : Int} {q : List Int} {Q : Value → Shared → Prop} (N : News h₀ L s.heap ((l, listOf us.toArray n) :: rest)) (hi : IntsAre us (y :: y' :: q).reverse) (hz : q.length ≤ 900)
    (h : Q (.int ((q.length : Int) + 2) (s.toks + 1)) { s with toks := s.toks + 1 + 1 }) : wpAny (model prog w) A (call (.builtin "len") [.ref l]) Q E s :=
  kst_len N (.head _) (k := q.length + 2) (by rw [hi.length]; simp) (by omega) (by simpa using h)
theorem my_len0 {Q : Value → Shared → Prop} (N : News h₀ L s.heap ((l, listOf us.toArray n) :: rest)) (hi : IntsAre us ([] : List Int).reverse)
    (h : Q (.int 0 (s.toks + 1)) { s with toks := s.toks + 1 + 1 }) : wpAny (model prog w) A (call (.builtin "len") [.ref l]) Q E s :=
  kst_len N (.head _) (k := 0) (by rw [hi.length]; rfl) (by decide) h
theorem my_len {rl : List Int} {Q : Value → Shared → Prop} (N : News h₀ L s.heap ((l, listOf us.toArray n) :: rest)) (hi : IntsAre us rl.reverse) (hz : rl.length ≤ 900)
    (h : Q (.int (rl.length : Int) (s.toks + 1)) { s with toks := s.toks + 1 + 1 }) : wpAny (model prog w) A (call (.builtin "len") [.ref l]) Q E s :=
  kst_len N (.head _) (by rw [hi.length, List.length_reverse]) (by omega) h
theorem ints_cons {x : Int} {q : List Int} (hi : IntsAre us (x :: q).reverse) : ∃ (p : List Value) (t : Tok), us = p ++ [Value.int x t] ∧ IntsAre p q.reverse := by
  have h0 : 0 < us.length := by rw [hi.length]; simp
  obtain ⟨y, t, h1, h2, h3⟩ := kpa_ints hi h0
  refine ⟨us.dropLast, t, ?_, ?_⟩
  · rw [h2] at h1
    simpa using h1
  · simpa using h3
theorem my_last {x : Int} {q : List Int} {value slice : PySem.Expr} {u : Tok} {Q : Value → Shared → Prop}
    (N : News h₀ L s.heap ((a, listOf us.toArray n) :: rest)) (hi : IntsAre us (x :: q).reverse) (h : ∀ t, Q (.int x t) s)
    (hs : subscripted slice false (.ref a) (.int (-1) u) = operate [.ref a, .int (-1) u] (getItem (.ref a) (.int (-1) u)) := by with_unfolding_all rfl) :
    wpAny (model prog w) A (subscriptTail value slice (.ref a) (.int (-1) u)) Q E s := by
  obtain ⟨p, t, rfl, _⟩ := ints_cons hi
  have hl : s.heap.IsList a (p ++ [Value.int x t]).toArray := ⟨_, (N _ (.head _)).1, rfl, n, rfl⟩
  refine tail_any hl.typeIs slot_list_getitem.lookup (wpAny_getItem_list_neg (x := .int x t) hl (by decide) (by simp; omega) (by decide) ?_ (h t)) hs
  have e : ((-1 : Int) + ((p ++ [Value.int x t]).toArray.size : Int)).toNat = p.length := by simp; omega
  rw [e]
  simp
theorem my_pop {x : Int} {q : List Int} {Q : Value → Shared → Prop}
    (F : Fr h₀ L s.heap m) (N : News h₀ L s.heap ((a, listOf us.toArray n) :: rest)) (off : OwnOff rest [a]) (hi : IntsAre us (x :: q).reverse) (hz : q.length ≤ 1000)
    (h : ∀ h' p t, Fr h₀ L h' m → News h₀ L h' ((a, listOf p.toArray (n + 1)) :: rest) → IntsAre p q.reverse → Q (.int x t) { s with heap := h' }) :
    wpAny (model prog w) A (call (.builtin "list.pop") [.ref a]) Q E s := by
  obtain ⟨p, t, rfl, hp⟩ := ints_cons hi
  have hlen : p.length = q.length := by rw [hp.length, List.length_reverse]
  exact kl_pop F N (p := p) (y := .int x t) (by simpa using kpa_last (.int x t) p) (Upd.head fun b hb => off b hb a (.head _)) (by simp [sizeLine_eq]; omega) fun h' F' N' => h h' p t F' N' hp
theorem my_append {x : Int} {t : Tok} {q : List Int} {Q : Value → Shared → Prop}
    (F : Fr h₀ L s.heap m) (N : News h₀ L s.heap ((a, listOf us.toArray n) :: rest)) (off : OwnOff rest [a]) (hi : IntsAre us q.reverse) (hz : q.length ≤ 1000)
    (h : ∀ h' p, Fr h₀ L h' m → News h₀ L h' ((a, listOf p.toArray (n + 1)) :: rest) → IntsAre p (x :: q).reverse → Q .none { s with heap := h' }) :
    wpAny (model prog w) A (call (.builtin "list.append") [.ref a, .int x t]) Q E s := by
  have hlen : us.length = q.length := by rw [hi.length, List.length_reverse]
  refine append_K (x := .int x t) F N (Upd.head fun b hb => off b hb a (.head _)) (fun h' F' N' => h h' (us ++ [Value.int x t]) F' (by simpa using N') ?_) (by simp [sizeLine_eq]; omega)
  rw [List.reverse_cons]
  exact IntsAre.append hi (.cons _ _ .nil)

/-- the inner while at this heading -/
theorem inner_while {env : Env} {Q : Flow → Shared → Prop} {test : PySem.Expr} {body orelse : List Stmt} {pos : Pos} {r : Row} {q : List Int} {S₀ : Str} {t₀ : Tok}
    (_hit : (itemS r).length ≤ 200) (F : Fr h₀ L s.heap m) (N : News h₀ L s.heap ((a, listOf us.toArray n) :: rest)) (hi : IntsAre us q.reverse) (hS : m (Str.ofString "s") = some (.str S₀ t₀)) (hl : S₀.length ≤ 4400) (hq : q.length ≤ 12)
    (turn : ∀ rl S us nu tS u h tk, down r.lv (itemS r) rl S = down r.lv (itemS r) q S₀ → S.length + 12 * rl.length ≤ 4600 → rl.length ≤ 12 → IntsAre us rl.reverse → Fr h₀ L h (fun y => if y = Str.ofString "s" then some (.str S tS) else if y = Str.ofString "last_level" then u else m y) → News h₀ L h ((a, listOf us.toArray nu) :: rest) →
      wpAny (model prog w) A (isTrue test env (eval test env)) (fun b s₂ =>
        if b = true then wpAny (model prog w) A (execs body env) (WStep h₀ L a rest m (Str.ofString "s") (Str.ofString "last_level") (fun rl S => down r.lv (itemS r) rl S = down r.lv (itemS r) q S₀ ∧ S.length + 12 * rl.length ≤ 4600 ∧ rl.length ≤ 12) Q s rl.length) E s₂ else wpAny (model prog w) A (execs orelse env) Q E s₂) E { s with heap := h, toks := tk })
    (hE : PassesOwn (model prog w) A env E := by passes_own) :
    wpAny (model prog w) A (exec (.While test body orelse pos) env) Q E s :=
  my_while (Str.ofString "s") (Str.ofString "last_level") (fun rl S => down r.lv (itemS r) rl S = down r.lv (itemS r) q S₀ ∧ S.length + 12 * rl.length ≤ 4600 ∧ rl.length ≤ 12) F N hi hS ⟨rfl, by omega, hq⟩
    (fun rl S us nu tS u h tk hJ hI F N => turn rl S us nu tS u h tk hJ.1 hJ.2.1 hJ.2.2 hI F N) hE
/-- the last while -/
theorem last_while {env : Env} {Q : Flow → Shared → Prop} {test : PySem.Expr} {body orelse : List Stmt} {pos : Pos} {q : List Int} {S₀ : Str} {t₀ : Tok}
    (F : Fr h₀ L s.heap m) (N : News h₀ L s.heap ((a, listOf us.toArray n) :: rest)) (hi : IntsAre us q.reverse) (hS : m (Str.ofString "s") = some (.str S₀ t₀)) (hl : S₀.length ≤ 4400) (hq : q.length ≤ 12)
    (turn : ∀ rl S us nu tS u h tk, shut rl S = shut q S₀ → S.length + 12 * rl.length ≤ 4600 → S₀.length ≤ S.length → rl.length ≤ 12 → IntsAre us rl.reverse → Fr h₀ L h (fun y => if y = Str.ofString "s" then some (.str S tS) else if y = Str.ofString "last_level" then u else m y) → News h₀ L h ((a, listOf us.toArray nu) :: rest) →
      wpAny (model prog w) A (isTrue test env (eval test env)) (fun b s₂ =>
        if b = true then wpAny (model prog w) A (execs body env) (WStep h₀ L a rest m (Str.ofString "s") (Str.ofString "last_level") (fun rl S => shut rl S = shut q S₀ ∧ S.length + 12 * rl.length ≤ 4600 ∧ S₀.length ≤ S.length ∧ rl.length ≤ 12) Q s rl.length) E s₂ else wpAny (model prog w) A (execs orelse env) Q E s₂) E { s with heap := h, toks := tk })
    (hE : PassesOwn (model prog w) A env E := by passes_own) :
    wpAny (model prog w) A (exec (.While test body orelse pos) env) Q E s :=
  my_while (Str.ofString "s") (Str.ofString "last_level") (fun rl S => shut rl S = shut q S₀ ∧ S.length + 12 * rl.length ≤ 4600 ∧ S₀.length ≤ S.length ∧ rl.length ≤ 12) F N hi hS ⟨rfl, by omega, Nat.le_refl _, hq⟩
    (fun rl S us nu tS u h tk hJ hI F N => turn rl S us nu tS u h tk hJ.1 hJ.2.1 hJ.2.2.1 hJ.2.2.2 hI F N) hE
end
local macro_rules | `(tactic| walk_at "my len") => `(tactic| first | omega | (simp only [List.length_cons, List.length_nil] at *; omega))
local macro_rules | `(tactic| walk_at "my hm") => `(tactic| (intro y h1 h2; (have h3 := not_in h2); (have k1 := h3 (Str.ofString "level") (.head _)); (have k2 := h3 (Str.ofString "k") (.tail _ (.head _))); (have k3 := h3 (Str.ofString "text") (.tail _ (.tail _ (.head _)))); (have k4 := h3 (Str.ofString "item") (.tail _ (.tail _ (.tail _ (.head _))))); (have k5 := h3 (Str.ofString "last_level") (.tail _ (.tail _ (.tail _ (.tail _ (.head _)))))); clear h3; simp only [if_neg h1, if_neg k1, if_neg k2, if_neg k3, if_neg k4, if_neg k5, h2, Bool.false_eq_true, if_false]))
local macro_rules | `(tactic| walk_at "my hm2") => `(tactic| (intro y h1 h2; simp only [if_neg h1, if_neg h2]))
local macro_rules | `(tactic| walk_at "truthy ref") => `(tactic| (k_here; first | ((refine my_truthy_nil (by k_asm) (by assumption) ?_); k_whole) | ((refine my_truthy_cons (by k_asm) (by assumption) (by walk_at "my len") ?_); k_whole) | ((refine my_truthy (by k_asm) (by assumption) (by assumption) (by omega) ?_); k_whole)))
local macro_rules | `(tactic| walk_at "subscriptTail Name UnaryOp ref int") => `(tactic| (k_here; (refine my_last (by k_asm) (by assumption) ?_ (by with_unfolding_all rfl)); k_whole; intro _))
local macro_rules | `(tactic| walk_at "call builtin:len") => `(tactic| (k_here; first | ((refine my_len0 (by k_asm) (by assumption) ?_); k_whole) | ((refine my_len1 (by k_asm) (by assumption) ?_); k_whole) | ((refine my_len2 (by k_asm) (by assumption) (by walk_at "my len") ?_); k_whole)))
local macro_rules | `(tactic| walk_at "call builtin:list.pop") => `(tactic| (k_here; (refine my_pop (by k_asm) (by k_asm) (by assumption) (by assumption) (by walk_at "my len") ?_); k_whole; intro h' us' t' F' N' hI'))
local macro_rules | `(tactic| walk_at "call builtin:list.append") => `(tactic| (k_here; (refine my_append (by k_asm) (by k_asm) (by assumption) (by assumption) (by walk_at "my len") ?_); k_whole; intro h' us' F' N' hI'))
local macro_rules | `(tactic| walk_at "call builtin:str.format") => `(tactic| (k_here; (with_reducible refine my_format (by assumption) (by assumption) ?_); intro t' k'))
local macro_rules | `(tactic| walk_at "exec For Tuple Name cons nil") => `(tactic| (k_here; refine wpAny_For ?_ (by intro _; rfl)))
local macro_rules | `(tactic| walk_at "exec While Name") => `(tactic| (k_here; (refine inner_while (by assumption) (by k_asm) (by k_asm) (by assumption) (by rfl) (by assumption) (by walk_at "my len") ?_); intro rl S us nu tS u h tk hJ hb hr hI F N; rcases rl with _ | ⟨y, q⟩))
local macro_rules | `(tactic| walk_at "exec While Compare") => `(tactic| (k_here; (refine last_while (by k_asm) (by k_asm) (by assumption) (by rfl) (by assumption) (by walk_at "my len") ?_); intro rl S us nu tS u h tk hJ hb hS hr hI F N; rcases rl with _ | ⟨y, _ | ⟨y', q⟩⟩))
local macro_rules | `(tactic| walk_at "WStep brk") => `(tactic| (dsimp only [WStep]))
local macro_rules | `(tactic| walk_at "pyIter ref") => `(tactic| fail "mine: by hand")
local macro_rules | `(tactic| walk_at "call ref") => `(tactic| (k_here; (with_reducible show wpAny _ _ (call (Value.ref 22) [Value.str _ _]) _ _ _); k_dflt (refine' c_esc ?k1 ?k2 ?k3 ?k4 ?k5 ?k6 ?k7 ?k8 ?k9 ?k10 ?_; (case k1 => k_asm); (case k2 => k_asm); (case k3 => k_asm); (case k4 => k_asm); (case k5 => k_asm); (case k6 => exact rfl); (case k7 => assumption); (case k8 => (show _ ≤ _); dsimp only; omega); (case k9 => ktr_room); (case k10 => ktr_units); k_whole); intro t9 h9 tk9 F9 N9; (try dsimp only)))

set_option maxRecDepth 100000 in
set_option maxHeartbeats 8000000 in
theorem c_render {w : World} {mean : ExcName → Option Value} {mg mb : Str → Option Value} {news : List (Addr × Obj)} {l : Addr} {vs : List Value} {nn : Nat} {rows : List Row}
   {dp un : Nat} {gd : Option (List Code)} {cn : Str} {cs : Scope} {a : Addr} {ccd : Value} {cl : List (Str × Addr)} {outer : List Env} {A₀ : Around} {base h₀ : Heap} {L : Addr} {m : Str → Option Value} {s : Shared} {Q E : Value → Shared → Prop} :
    Below A₀ base outer h₀ → Fr h₀ L s.heap m → (hd.heap_39 w.params).In h₀ → News h₀ L s.heap news → Top hd.view_39 (looseW hd.view_39 [PySem.Str.ofString "escape"]) mean mg mb h₀ → cs.kind = .function →
    (l, listOf vs.toArray nn) ∈ news → DatAll news vs (rows.map Row.dat) → rows.length ≤ 12 → (∀ r ∈ rows, r.nm.length ≤ 20 ∧ r.tx.length ≤ 20) → dp + 2 < recursionLimit → un + 16 < cLine →
    (∀ (t : Tok) (h' : Heap) (tk' : Nat), Fr h₀ L h' m → News h₀ L h' news → Q (.str (renderS rows) t) { s with heap := h', toks := tk' }) →
      wpAny (model PySem.Challenge.rw_ba0038_01.row.prog w) (ktrTop dp un gd cn cs L a ccd cl outer) (call (.ref 29) [.ref l]) Q E s := by
  w_top off
  k_fill
  intro B F X N T hk hl hD hrows hsz hdp hu hret
  have hlen : vs.length = rows.length := by rw [hD.length, List.length_map]
  have hR : ∀ (i : Nat) (v : Value), vs[i]? = some v → ∃ (ta : Addr) (n : Nat) (v1 v2 v3 : Value), v = Value.ref ta ∧ (ta, ({ cls := .type "tuple", data := .seq [v1, v2, v3].toArray n } : Obj)) ∈ news ∧
      ∃ (r : Row) (t1 t2 t3 : Tok), rows[i]? = some r ∧ v1 = .int r.lv t1 ∧ v2 = .str r.nm t2 ∧ v3 = .str r.tx t3 := by
    intro i v hv
    have hi : i < vs.length := (List.getElem?_eq_some_iff.mp hv).1
    obtain ⟨v', hv', hD'⟩ := hD.get (k := i) (by rw [List.length_map]; omega)
    rw [hv] at hv'
    cases hv'
    rw [List.getElem_map] at hD'
    generalize hr : rows[i] = r at hD'
    unfold Row.dat at hD'
    cases hD' with
    | tuple hm ha =>
      cases ha with
      | cons h1 ha =>
        cases ha with
        | cons h2 ha =>
          cases ha with
          | cons h3 ha =>
            cases ha
            cases h1
            cases h2
            cases h3
            exact ⟨_, _, _, _, _, rfl, hm, r, _, _, _, by rw [← hr]; simp, rfl, rfl, rfl⟩
  refine wpAny_call ?_
  k_dflt cell_enter
  k_steps
  (rename Fr _ _ _ _ => F1)
  (rename News _ _ _ _ => N1)
  (rename (∀ (p : Addr × Obj), p ∈ news → p.1 < _) => l1)
  refine iter_rows (a := _) (us₀ := []) (n₀ := 0) (rl₀ := []) (Str.ofString "s") [Str.ofString "level", Str.ofString "k", Str.ofString "text", Str.ofString "item", Str.ofString "last_level"]
    (fun i rl S => foldR (rows.take i) = (S, rl)) (fun (i : Nat) (v1 v2 v3 : Value) => ∃ (r : Row) (t1 t2 t3 : Tok), rows[i]? = some r ∧ v1 = .int r.lv t1 ∧ v2 = .str r.nm t2 ∧ v3 = .str r.tx t3) (by rfl) hl ?off F1 N1 .nil (by rfl) (by rfl) (by rfl) (by rfl) hR ?turn ?done
  case off => exact off_of l1
  case turn =>
    intro i v1 v2 v3 rl S us nu tS u h tk own hi hR2 off hJ hI F2 N2
    obtain ⟨r, t1, t2, t3, hr, rfl, rfl, rfl⟩ := hR2
    clear F1 N1 hR
    have hrm := hsz r (List.mem_of_getElem? hr)
    have hb := foldR_len (rows.take i) (Str.ofString "", []) (fun x hx => hsz x (List.mem_of_mem_take hx)) (by simp [List.length_take]; omega)
    rw [show List.foldl turnR (Str.ofString "", []) (rows.take i) = (S, rl) from hJ] at hb
    have h12 := hrm.1
    have h13 := hrm.2
    have hit := itemS_len h12 h13
    have hlt := List.length_take_le i rows
    have h0 : (Str.ofString "").length = 0 := by decide +kernel
    have hS : S.length ≤ 4400 := by
      have := hb.1
      dsimp only at this
      omega
    have hrl : rl.length ≤ 12 := by
      have := hb.2
      dsimp only [List.length_nil] at this
      omega
    clear hb hlt h0 hrm
    cases rl with
    | nil =>
      k_steps
      refine fstep_end (by assumption) (by assumption) (by assumption) (by rfl) ?hm ?hJ
      case hm => walk_at "my hm"
      case hJ => exact tR_nil hr hJ
    | cons x q =>
      k_steps
      · refine fstep_end (by assumption) (by assumption) (by assumption) (by rfl) ?hm ?hJ
        case hm => walk_at "my hm"
        case hJ => exact tR_eq hr hJ (by assumption)
      · refine fstep_end (by assumption) (by assumption) (by assumption) (by rfl) ?hm ?hJ
        case hm => walk_at "my hm"
        case hJ => exact tR_gt hr hJ (by assumption) (by assumption)
      · refine fstep_end (by assumption) (by assumption) (by assumption) (by rfl) ?hm ?hJ
        case hm => walk_at "my hm"
        case hJ => exact tR_down hr hJ down_nil (by assumption) (by assumption) (by assumption)
      · refine fstep_end (by assumption) (by assumption) (by assumption) (by rfl) ?hm ?hJ
        case hm => walk_at "my hm"
        case hJ => exact tR_down hr hJ (down_eq (by assumption)) (by assumption) (by assumption) (by assumption)
      · refine fstep_end (by assumption) (by assumption) (by assumption) (by rfl) ?hm ?hJ
        case hm => walk_at "my hm"
        case hJ => exact tR_down hr hJ (down_gt (by assumption) (by assumption)) (by assumption) (by assumption) (by assumption)
      · refine wstep_end (by assumption) (by assumption) (by assumption) (by rfl) ?hm ?hJ ?hn
        case hm => walk_at "my hm2"
        case hJ => exact down_lt (by assumption) (by assumption) (by assumption) (by assumption) (by assumption)
        case hn => exact Nat.lt_succ_self _
  case done =>
    intro rl S us nu tS u h tk hJ hI F2 N2
    clear F1 N1 hR
    have hb := foldR_len rows (Str.ofString "", []) hsz (by simpa using hrows)
    have h0 : (Str.ofString "").length = 0 := by decide +kernel
    rw [hlen, List.take_length] at hJ
    rw [show List.foldl turnR (Str.ofString "", []) rows = (S, rl) from hJ] at hb
    have hS : S.length ≤ 4400 := by
      have := hb.1
      dsimp only at this
      omega
    have hrl : rl.length ≤ 12 := by
      have := hb.2
      dsimp only [List.length_nil] at this
      omega
    have hS0 : 0 < S.length := by
      have := foldR_pos (rows := rows) (by assumption)
      rw [hJ] at this
      exact this
    clear hb h0
    have off := off_of l1
    k_steps
    · rw [render_eq (z := []) (by assumption) hJ (by assumption) rfl]
      exact hret _ _ _ (by assumption) (by first | assumption | exact cb_drop (news' := _ :: news) (by assumption) (fun _ hp => .tail _ hp))
    · exfalso; omega
    · rw [render_eq (z := [_]) (by assumption) hJ (by assumption) rfl]
      exact hret _ _ _ (by assumption) (by first | assumption | exact cb_drop (news' := _ :: news) (by assumption) (fun _ hp => .tail _ hp))
    · exfalso; omega
    · refine wstep_end (by assumption) (by assumption) (by assumption) (by rfl) ?hm ?hJ ?hn
      case hm => walk_at "my hm2"
      case hJ => exact shut_step (by assumption) (by assumption) (by assumption) (by assumption)
      case hn => exact Nat.lt_succ_self _
  · rw [render_nil (by assumption)]
    exact hret _ _ _ (by assumption) (by first | assumption | exact cb_drop (news' := _ :: news) (by assumption) (fun _ hp => .tail _ hp))
end Mine

-- part Li
namespace Mine
structure LS where
  oC : Obj
  vC : Option Value
  rv : List Value
  nr : Nat
  sa : Addr
  us : List Value
  ns : Nat
  rest : List (Addr × Obj)
  rows : List Row
  tW : Tok
  tD : Tok
def LS.led (ca ra : Addr) (c : LS) : List (Addr × Obj) := (ca, c.oC) :: (ra, listOf c.rv.toArray c.nr) :: (c.sa, listOf c.us.toArray c.ns) :: c.rest
def LS.ps (c : LS) : List (Str × Value) := [(Str.ofString "wanted", .str (foldW c.rows).1 c.tW), (Str.ofString "stack", .ref c.sa), (Str.ofString "deep", .int ((foldW c.rows).2.length : Int) c.tD)]
structure LS.Ok (ca ra : Addr) (i : Nat) (c : LS) : Prop where
  cell : c.oC.data = .cell c.vC
  dat : DatAll c.rest c.rv (c.rows.map Row.dat)
  itg : IntsAre c.us (foldW c.rows).2.reverse
  off : OwnOff c.rest [ca, ra]
  ne1 : c.sa ≠ ca
  ne2 : c.sa ≠ ra
  len : c.rows.length = i
  sz : ∀ r ∈ c.rows, r.nm.length ≤ 20 ∧ r.tx.length ≤ 20
def lawZs : List Str := [Str.ofString "number", Str.ofString "name", Str.ofString "words", Str.ofString "now", Str.ofString "line"]
section
variable {prog : Program} {w : World} {A : Around} {E : Value → Shared → Prop} {Q : Flow → Shared → Prop} {s : Shared} {env : Env} {h₀ : Heap} {ca ra sa₀ : Addr}
theorem law_iter {px : Pos} {body : List Stmt} {r : Addr} {b₀ : Int} {t₀ u₀ v₀ : Tok} {m₀ : Str → Option Value} {oC : Obj} {vC : Option Value} {tW tD : Tok}
    (hh : A.handled = none) (hx : env.kindOf (Str.ofString "k") = some .local) (hp : (env.scope.kind == .class || (env.scope.kind == .module && env.locals != env.globals)) = false)
    (hr : IsRange s.heap r 0 b₀ 1 t₀ u₀ v₀) (h0 : 0 ≤ b₀) (h1 : b₀ < 13)
    (F : Fr h₀ env.locals s.heap m₀) (N : News h₀ env.locals s.heap [(sa₀, listOf ([] : List Value).toArray 0), (ra, listOf ([] : List Value).toArray 0), (ca, oC)])
    (hC : oC.data = .cell vC) (l1 : ca < ra) (l2 : ra < sa₀ ∧ ca < sa₀)
    (hW : m₀ (Str.ofString "wanted") = some (.str (Str.ofString "") tW)) (hSt : m₀ (Str.ofString "stack") = some (.ref sa₀)) (hD : m₀ (Str.ofString "deep") = some (.int 0 tD))
    (turn : ∀ (i : Nat) (c : LS) t (u : Str → Option Value) h tk own, i < 12 → c.Ok ca ra i → OwnOff own ((c.led ca ra).map (·.1)) → OwnOff (c.rest ++ own) [ca, ra] → @Ne Nat ca ra →
      Fr h₀ env.locals h (fun y => if y = Str.ofString "k" then some (.int (i : Int) t) else if y = Str.ofString "wanted" then some (.str (foldW c.rows).1 c.tW) else if y = Str.ofString "stack" then some (.ref c.sa) else
        if y = Str.ofString "deep" then some (.int ((foldW c.rows).2.length : Int) c.tD) else if lawZs.contains y then u y else m₀ y) →
      News h₀ env.locals h ((ca, c.oC) :: (ra, listOf c.rv.toArray c.nr) :: (c.sa, listOf c.us.toArray c.ns) :: (c.rest ++ own)) →
      wpAny (model prog w) A (execs body env) (RStep h₀ env.locals (LS.led ca ra) LS.ps m₀ (Str.ofString "k") lawZs (LS.Ok ca ra (i + 1)) own Q s) E { s with heap := h, toks := tk })
    (done : ∀ (c : LS) (u : Str → Option Value) h tk, c.Ok ca ra b₀.toNat →
      Fr h₀ env.locals h (fun y => if y = Str.ofString "k" then u y else if y = Str.ofString "wanted" then some (.str (foldW c.rows).1 c.tW) else if y = Str.ofString "stack" then some (.ref c.sa) else
        if y = Str.ofString "deep" then some (.int ((foldW c.rows).2.length : Int) c.tD) else if lawZs.contains y then u y else m₀ y) →
      News h₀ env.locals h ((ca, c.oC) :: (ra, listOf c.rv.toArray c.nr) :: (c.sa, listOf c.us.toArray c.ns) :: c.rest) → Q .next { s with heap := h, toks := tk })
    (hE : PassesOwn (model prog w) A env E := by passes_own) :
    wpAny (model prog w) A (pyIter (.ref r)) (fun it s₂ =>
      codeAny (model prog w) A (.forLoop (.Name (Str.ofString "k") px) it body [] env) (fun r s' => match r with | .ok f => Q f s' | .error e => cameBackBy (model prog w) A env E e s') s₂) E s := by
  refine iter_range (n := b₀.toNat) (Str.ofString "k") (LS.led ca ra) LS.ps lawZs (LS.Ok ca ra) ⟨oC, vC, [], 0, sa₀, [], 0, [], [], tW, tD⟩ hh hx hp hr ?_ ?_ F N ?_ ?_ ?_ ?_ ?_ hE
  · exact small_one (by omega) (by omega) (by omega) (by omega)
  · have e : b₀ = (b₀.toNat : Int) := by omega
    rw [e]; exact rangeSize_nat _ _
  · intro p hp
    simp only [LS.led, List.mem_cons, List.not_mem_nil, or_false] at hp ⊢
    rcases hp with rfl | rfl | rfl
    · exact .inr (.inr rfl)
    · exact .inr (.inl rfl)
    · exact .inl rfl
  · intro p hp
    simp only [LS.ps, List.mem_cons, List.not_mem_nil, or_false] at hp
    rcases hp with rfl | rfl | rfl
    · exact hW
    · exact hSt
    · exact hD
  · exact ⟨hC, .nil, .nil, fun _ hp => (nomatch hp), Nat.ne_of_gt l2.2, Nat.ne_of_gt l2.1, rfl, fun _ hp => (nomatch hp)⟩
  · intro i c t u h tk own hi hok hoff F' N'
    refine turn i c t u h tk own (by omega) hok hoff ?_ (Nat.ne_of_lt l1) F' N'
    intro p hp b hb
    rcases List.mem_append.mp hp with hp | hp
    · exact hok.off p hp b hb
    · rcases List.mem_cons.mp hb with rfl | hb
      · exact hoff p hp _ (by simp [LS.led])
      · rw [List.mem_singleton.mp hb]; exact hoff p hp _ (by simp [LS.led])
  · intro c u h tk hok F' N'
    exact done c u h tk hok F' N'
end
end Mine
namespace Mine
section
variable {prog : Program} {w : World} {A : Around} {E : Value → Shared → Prop} {s : Shared} {h₀ : Heap} {L D : Addr} {news : List (Addr × Obj)}
theorem my_name {items : Array Value} {n : Nat} {j : Int} {u : Tok} {value slice : PySem.Expr} {Q : Value → Shared → Prop} (N : News h₀ L s.heap news) (hm : (D, listOf items n) ∈ news) (h0 : 0 ≤ j) (h1 : j < 4)
    (hall : ∀ i : Nat, i < 4 → ∃ (x : Str) (t : Tok), items[i]? = some (.str x t) ∧ x.length ≤ 4) (h : ∀ (x : Str) t, x.length ≤ 4 → Q (.str x t) s)
    (hs : subscripted slice false (.ref D) (.int j u) = operate [.ref D, .int j u] (getItem (.ref D) (.int j u)) := by with_unfolding_all rfl) :
    wpAny (model prog w) A (subscriptTail value slice (.ref D) (.int j u)) Q E s := by
  obtain ⟨x, t, hx, hl⟩ := hall j.toNat (by omega)
  have hL : s.heap.IsList D items := ⟨_, (N _ hm).1, rfl, n, rfl⟩
  exact tail_any hL.typeIs slot_list_getitem.lookup (wpAny_getItem_list hL h0 (by omega) hx (h x t hl)) hs
theorem my_str {k : Int} {t : Tok} {Q : Value → Shared → Prop} (h0 : 0 ≤ k) (h1 : k < 100) (h : ∀ (x : Str) t' k', x.length ≤ 2 → Q (.str x t') { s with toks := k' }) :
    wpAny (model prog w) A (call (.type "str") [.int k t]) Q E s :=
  P.str_of_int (shown (N := 2 ^ 1920) (by omega) (by omega) (Int.le_refl _)) (h _ _ _ (toString_length_le h0 (by decide) (by omega)))
theorem my_mul {x : Str} {n : Int} {t u : Tok} {Q : Value → Shared → Prop} (hx : x.length = 1) (h0 : 0 ≤ n) (h1 : n < 3) (h : ∀ (y : Str) t' k', y.length ≤ 2 → Q (.str y t') { s with toks := k' }) :
    wpAny (model prog w) A (binaryOp .Mult (.str x t) (.int n u)) Q E s :=
  KXi.mul hx (by decide) (by omega) (by omega) fun t' k _ hk => h _ t' k (by have := hk h0; omega)
theorem my_lenG0 {l : Addr} {us : List Value} {n : Nat} {Q : Value → Shared → Prop} (N : News h₀ L s.heap news) (hm : (l, listOf us.toArray n) ∈ news) (hi : IntsAre us ([] : List Int).reverse)
    (h : Q (.int 0 (s.toks + 1)) { s with toks := s.toks + 1 + 1 }) : wpAny (model prog w) A (call (.builtin "len") [.ref l]) Q E s :=
  kst_len N hm (k := 0) (by rw [hi.length]; rfl) (by decide) h
theorem my_lenG1 {l : Addr} {us : List Value} {n : Nat} {x : Int} {q : List Int} {Q : Value → Shared → Prop} (N : News h₀ L s.heap news) (hm : (l, listOf us.toArray n) ∈ news) (hi : IntsAre us (x :: q).reverse) (hz : q.length ≤ 900)
    (h : Q (.int ((q.length : Int) + 1) (s.toks + 1)) { s with toks := s.toks + 1 + 1 }) : wpAny (model prog w) A (call (.builtin "len") [.ref l]) Q E s :=
  kst_len N hm (k := q.length + 1) (by rw [hi.length]; simp) (by omega) (by simpa using h)
theorem my_lenGs {l : Addr} {us : List Value} {n : Nat} {x : Int} {Q : Value → Shared → Prop} (N : News h₀ L s.heap news) (hm : (l, listOf us.toArray n) ∈ news) (hi : IntsAre us [x].reverse)
    (h : Q (.int 1 (s.toks + 1)) { s with toks := s.toks + 1 + 1 }) : wpAny (model prog w) A (call (.builtin "len") [.ref l]) Q E s :=
  kst_len N hm (k := 1) (by rw [hi.length]; rfl) (by decide) h
theorem my_lenG2 {l : Addr} {us : List Value} {n : Nat} {x y : Int} {q : List Int} {Q : Value → Shared → Prop} (N : News h₀ L s.heap news) (hm : (l, listOf us.toArray n) ∈ news) (hi : IntsAre us (x :: y :: q).reverse) (hz : q.length ≤ 900)
    (h : Q (.int ((q.length : Int) + 2) (s.toks + 1)) { s with toks := s.toks + 1 + 1 }) : wpAny (model prog w) A (call (.builtin "len") [.ref l]) Q E s :=
  kst_len N hm (k := q.length + 2) (by rw [hi.length]; simp) (by omega) (by simpa using h)
theorem my_lastG {a : Addr} {us : List Value} {n : Nat} {x : Int} {q : List Int} {value slice : PySem.Expr} {u : Tok} {Q : Value → Shared → Prop}
    (N : News h₀ L s.heap news) (hm : (a, listOf us.toArray n) ∈ news) (hi : IntsAre us (x :: q).reverse) (h : ∀ t, Q (.int x t) s)
    (hs : subscripted slice false (.ref a) (.int (-1) u) = operate [.ref a, .int (-1) u] (getItem (.ref a) (.int (-1) u)) := by with_unfolding_all rfl) :
    wpAny (model prog w) A (subscriptTail value slice (.ref a) (.int (-1) u)) Q E s :=
  my_last (n := n) (rest := []) (fun p hp => N p (by rw [List.mem_singleton.mp hp]; exact hm)) hi h hs
theorem my_cat {m : Str → Option Value} {a b : Addr} {us : List Value} {n n2 : Nat} {lv : Int} {t : Tok} {rl : List Int} {Q : Value → Shared → Prop} (F : Fr h₀ L s.heap m) (N : News h₀ L s.heap news) (hm : (a, listOf us.toArray n) ∈ news) (hd : (b, listOf #[.int lv t] n2) ∈ news)
    (hi : IntsAre us rl.reverse) (hz : rl.length ≤ 900)
    (h : ∀ D us' h', Fr h₀ L h' m → News h₀ L h' ((D, listOf (List.toArray us') 0) :: news) → (∀ p ∈ news, p.1 < D) → IntsAre us' (lv :: rl).reverse → Q (.ref D) { s with heap := h' }) :
    wpAny (model prog w) A (binaryOp .Add (.ref a) (.ref b)) Q E s := by
  refine kmk_add_ints (ws := [.int lv t]) F N ⟨_, (N _ hm).1, rfl, n, rfl⟩ ⟨_, (N _ hd).1, rfl, n2, rfl⟩ hi (.cons lv t .nil) (fun D us' h' F' N' l1 hI => h D us' h' F' N' l1 ?_) (by simp [sizeLine_eq]; omega)
  rw [List.reverse_cons]; exact hI
end
end Mine
namespace Mine
theorem c_shown2 {w : World} {mean : ExcName → Option Value} {mg mb : Str → Option Value} {news : List (Addr × Obj)} {x : Str} {t : Tok}
   {dp un : Nat} {gd : Option (List Code)} {cn : Str} {cs : Scope} {a : Addr} {ccd : Value} {cl : List (Str × Addr)} {outer : List Env} {A₀ : Around} {base h₀ : Heap} {L : Addr} {m : Str → Option Value} {s : Shared} {Q E : Value → Shared → Prop}
    (B : Below A₀ base outer h₀) (F : Fr h₀ L s.heap m) (X : (hd.heap_39 w.params).In h₀) (N : News h₀ L s.heap news) (T : Top hd.view_39 (looseW hd.view_39 [PySem.Str.ofString "escape"]) mean mg mb h₀) (hk : cs.kind = .function)
    (hx : x.length ≤ 20) (hdp : dp + 1 < recursionLimit) (hu : un + 8 < cLine)
    (hret : ∀ (t : Tok) (h' : Heap) (tk' : Nat), (escS x).length ≤ 120 → Fr h₀ L h' m → News h₀ L h' news → Q (.str (escS x) t) { s with heap := h', toks := tk' }) :
      wpAny (model PySem.Challenge.rw_ba0038_01.row.prog w) (ktrTop dp un gd cn cs L a ccd cl outer) (call (.ref 50) [.str x t]) Q E s :=
  c_shown B F X N T hk hx hdp hu fun t h' tk' F' N' => hret t h' tk' (by have := escS_len x; omega) F' N'
end Mine

-- part Le
namespace Mine
section
variable {Q : Flow → Shared → Prop} {s : Shared} {h₀ : Heap} {L ca ra sa sa' T : Addr}
theorem law_end {i : Nat} {m₀ m' : Str → Option Value} {own rest news' : List (Addr × Obj)} {oC oC' : Obj} {vC vC' : Option Value} {rv us us' : List Value} {nr nr' ns ns' nT : Nat} {rows : List Row} {row : Row} {t1 t2 t3 tW tD tW' tD' : Tok} {h' : Heap} {tk : Nat} {W' : Str} {rl' : List Int}
    (hoff : OwnOff own ((LS.led ca ra ⟨oC, vC, rv, nr, sa, us, ns, rest, rows, tW, tD⟩).map (·.1)))
    (hdat : DatAll rest rv (rows.map Row.dat)) (offR : OwnOff (rest ++ own) [ca, ra]) (hlen : rows.length = i) (hsz : ∀ r ∈ rows, r.nm.length ≤ 20 ∧ r.tx.length ≤ 20)
    (hf : turnW (foldW rows) row = (W', rl'))
    (F : Fr h₀ L h' m') (N : News h₀ L h' news')
    (hca : (ca, oC') ∈ news') (hcell : oC'.data = .cell vC') (hra : (ra, listOf (rv.toArray.push (.ref T)) nr') ∈ news')
    (hsa : (sa', listOf us'.toArray ns') ∈ news') (hint : IntsAre us' rl'.reverse)
    (hT : (T, ({ cls := .type "tuple", data := .seq #[.int row.lv t1, .str row.nm t2, .str row.tx t3] nT } : Obj)) ∈ news')
    (hrest : ∀ p ∈ rest ++ own, p ∈ news') (hTc : T ≠ ca) (hTr : T ≠ ra) (hTo : ∀ p ∈ own, p.1 ≠ T) (hs1 : sa' ≠ ca) (hs2 : sa' ≠ ra) (hso : ∀ p ∈ own, p.1 ≠ sa')
    (hr1 : row.nm.length ≤ 20) (hr2 : row.tx.length ≤ 20)
    (hW : m' (Str.ofString "wanted") = some (.str W' tW')) (hS : m' (Str.ofString "stack") = some (.ref sa')) (hD : m' (Str.ofString "deep") = some (.int (rl'.length : Int) tD'))
    (hm : ∀ z, z ≠ Str.ofString "k" → z ≠ Str.ofString "wanted" → z ≠ Str.ofString "stack" → z ≠ Str.ofString "deep" → lawZs.contains z = false → m' z = m₀ z) :
    RStep h₀ L (LS.led ca ra) LS.ps m₀ (Str.ofString "k") lawZs (LS.Ok ca ra (i + 1)) own Q s .next { s with heap := h', toks := tk } := by
  have hfw : foldW (rows ++ [row]) = (W', rl') := by
    rw [← hf]; unfold foldW; rw [List.foldl_append]; rfl
  have hfw1 : (foldW (rows ++ [row])).1 = W' := by rw [hfw]
  have hfw2 : (foldW (rows ++ [row])).2 = rl' := by rw [hfw]
  have ho : ∀ b, b ∈ (LS.led ca ra ⟨oC, vC, rv, nr, sa, us, ns, rest, rows, tW, tD⟩).map (·.1) → ∀ p ∈ own, p.1 ≠ b := fun b hb p hp => hoff p hp b hb
  refine rstep_end ⟨oC', vC', rv ++ [.ref T], nr', sa', us', ns', (T, { cls := .type "tuple", data := .seq #[.int row.lv t1, .str row.nm t2, .str row.tx t3] nT }) :: rest, rows ++ [row], tW', tD'⟩ F N ?_ ?_ ?_ ?_ ?_
  · intro p hp
    rcases List.mem_append.mp hp with hp | hp
    · simp only [LS.led, List.mem_cons] at hp
      rcases hp with rfl | rfl | rfl | rfl | hp
      · exact hca
      · have e : (rv ++ [Value.ref T]).toArray = rv.toArray.push (.ref T) := by simp
        rw [e]; exact hra
      · exact hsa
      · exact hT
      · exact hrest p (List.mem_append_left _ hp)
    · exact hrest p (List.mem_append_right _ hp)
  · intro p hp
    simp only [LS.ps, List.mem_cons, List.not_mem_nil, or_false] at hp
    rcases hp with rfl | rfl | rfl
    · show m' _ = some (.str (foldW (rows ++ [row])).1 _)
      rw [hfw1]; exact hW
    · exact hS
    · show m' _ = some (.int ((foldW (rows ++ [row])).2.length : Int) _)
      rw [hfw2]; exact hD
  · intro z hz hp hc
    exact hm z hz (hp _ (.head _)) (hp _ (.tail _ (.head _))) (hp _ (.tail _ (.tail _ (.head _)))) hc
  · intro p hp b hb
    simp only [LS.led, List.map_cons, List.mem_cons] at hb
    rcases hb with rfl | rfl | rfl | rfl | hb
    · exact ho _ (by simp [LS.led]) p hp
    · exact ho _ (by simp [LS.led]) p hp
    · exact hso p hp
    · exact hTo p hp
    · exact ho _ (by simp only [LS.led, List.map_cons, List.mem_cons]; exact .inr (.inr (.inr hb))) p hp
  · refine ⟨hcell, ?_, ?_, ?_, hs1, hs2, by simp [hlen], ?_⟩
    · rw [List.map_append]
      refine DatAll.append (hdat.mono fun p hp => .tail _ hp) (.cons ?_ .nil)
      exact DatIn.tuple (vs := [.int row.lv t1, .str row.nm t2, .str row.tx t3]) (.head _) (.cons (.int _ _) (.cons (.str _ _) (.cons (.str _ _) .nil)))
    · show IntsAre us' (foldW (rows ++ [row])).2.reverse
      rw [hfw2]; exact hint
    · intro p hp b hb
      rcases List.mem_cons.mp hp with rfl | hp
      · rcases List.mem_cons.mp hb with rfl | hb
        · exact hTc
        · rw [List.mem_singleton.mp hb]; exact hTr
      · exact offR p (List.mem_append_left _ hp) b hb
    · intro r hr
      rcases List.mem_append.mp hr with hr | hr
      · exact hsz r hr
      · rw [List.mem_singleton.mp hr]; exact ⟨hr1, hr2⟩
end
end Mine

-- part Cp
namespace Mine
section
variable {prog : Program} {w : World} {A : Around} {h₀ : Heap} {L : Addr} {m : Str → Option Value} {env : Env}
theorem filter_snoc (p : Int → Bool) (ns : List Int) (i : Nat) (v : Int) (h : ns[i]? = some v) : (ns.take (i + 1)).filter p = (ns.take i).filter p ++ (if p v then [v] else []) := by
  rw [List.take_add_one, h, List.filter_append]
  cases hp : p v <;> simp [hp]
theorem comp_src {ct elt : PySem.Expr} {x : Str} {scope : Scope} {cl : List (Str × Addr)} {Fin : Shared → List Value → List (Addr × Obj) → Prop} {ax : Addr} {us : List Value} {n : Nat} {ns : List Int} {news : List (Addr × Obj)} {s₁ : Shared} (p : Int → Bool)
    (hh : A.handled = none) (F : Fr h₀ L s₁.heap m) (N : News h₀ L s₁.heap news) (hm : (ax, listOf us.toArray n) ∈ news) (hi : IntsAre us ns) (hz : ns.length ≤ 900)
    (test : ∀ (v : Int) (t : Tok) (I : Addr) (oI : Obj) (C : Addr) (oC : Obj) (D : Addr) (ys : List Value) (m₂ : Str → Option Value) (h : Heap) (tk : Nat) (E' : Value → Shared → Prop), LCg.NsObj oC m₂ → m₂ x = some (.int v t) → Fr h₀ L h m → News h₀ L h ((I, oI) :: (C, oC) :: (D, LCg.lst ys) :: news) →
      wpAny (model prog w) A (isTrue ct (compEnvC scope cl C env) (eval ct (compEnvC scope cl C env))) (fun ok s' => ok = p v ∧ ∃ tk', s' = { s₁ with heap := h, toks := tk' }) E' { s₁ with heap := h, toks := tk })
    (elem : ∀ (v : Int) (t : Tok) (I : Addr) (oI : Obj) (C : Addr) (oC : Obj) (D : Addr) (ys : List Value) (m₂ : Str → Option Value) (h : Heap) (tk : Nat) (E' : Value → Shared → Prop), LCg.NsObj oC m₂ → m₂ x = some (.int v t) → Fr h₀ L h m → News h₀ L h ((I, oI) :: (C, oC) :: (D, LCg.lst ys) :: news) →
      wpAny (model prog w) A (eval elt (compEnvC scope cl C env)) (fun y s' => y = .int v t ∧ ∃ tk', s' = { s₁ with heap := h, toks := tk' }) E' { s₁ with heap := h, toks := tk })
    (fin : ∀ g ys, IntsAre ys (ns.filter p) → Fin { s₁ with heap := g } ys news) :
    LCt.CompSrcT prog w A h₀ L m env ct elt x scope cl Fin (.ref ax) s₁ := by
  refine LCt.CompSrcT.ledger (k := n) hh F N hm (by have := hi.length; simp [sizeLine_eq]; omega) fun g => ?_
  have key : ∀ k i ys, i + k = us.length → IntsAre ys ((ns.take i).filter p) → LCt.CompRestT prog w A h₀ L m env ct elt x scope cl { s₁ with heap := g } (LCg.SrcAt h₀ ax us.toArray) (fun i v => us.toArray[i]? = some v) (Fin { s₁ with heap := g }) k i ys news := by
    intro k
    induction k with
    | zero =>
      intro i ys hk hy
      refine LCt.CompRestT.zero (fin g ys ?_)
      have e : i = ns.length := by rw [← hi.length]; omega
      rw [e, List.take_length] at hy
      exact hy
    | succ k ih =>
      intro i ys hk hy
      refine LCt.CompRestT.succ ?_
      intro v I oI C oC D m₂ h tk E' hP hC hx F' N' off ne
      have hin : i < ns.length := by rw [← hi.length]; omega
      obtain ⟨t, ht⟩ := hi.get i ns[i] (by simp [hin])
      have hv : v = .int ns[i] t := by
        have hP' : us[i]? = some v := by simpa using hP
        rw [ht] at hP'; exact (Option.some.inj hP').symm
      subst hv
      have hs := filter_snoc p ns i ns[i] (by simp [hin])
      have hsrc : LCg.SrcAt h₀ ax us.toArray news := .inr ⟨_, hm, rfl, _, rfl⟩
      refine wpAny_mono (test ns[i] t I oI C oC D ys m₂ h tk E' hC hx F' N') (fun ok s' hq => ?_) fun _ _ e => e
      obtain ⟨rfl, tk', rfl⟩ := hq
      cases hp : p ns[i] with
      | true =>
        simp only [if_true]
        refine wpAny_mono (elem ns[i] t I oI C oC D ys m₂ h tk' E' hC hx F' N') (fun y s'' hq => ?_) fun _ _ e => e
        obtain ⟨rfl, tk'', rfl⟩ := hq
        refine ⟨h, tk'', news, rfl, F', N', off, hsrc, ih (i + 1) (ys ++ [.int ns[i] t]) (by omega) ?_⟩
        rw [hs, hp]
        exact IntsAre.append hy (.cons _ _ .nil)
      | false =>
        simp only [Bool.false_eq_true, if_false]
        refine ⟨h, tk', news, rfl, F', N', off, hsrc, ih (i + 1) ys (by omega) ?_⟩
        rw [hs, hp]
        simpa using hy
  have hs : us.toArray.size = us.length := by simp
  rw [hs]
  exact key us.length 0 [] (by omega) .nil
theorem off1_mem {D : Addr} : ∀ {l : List (Addr × Obj)}, LCg.Off1 D l → OwnOff l [D]
  | [], _ => fun _ hp => (nomatch hp)
  | q :: r, h => fun p hp b hb => by
    rw [List.mem_singleton.mp hb]
    rcases List.mem_cons.mp hp with rfl | hp
    · exact h.1
    · exact off1_mem h.2 p hp D (.head _)
/-- the comprehension of the ints that are not above the level, kept under a name -/
theorem comp_assign {Q : Flow → Shared → Prop} {y : Str} {ct elt : PySem.Expr} {x : Str} {scope : Scope} {cl : List (Str × Addr)} {ax : Addr} {us : List Value} {n : Nat} {x₀ : Int} {q : List Int} {a b c d e : Addr × Obj} {rest own : List (Addr × Obj)} {s₁ : Shared} {oC' : Obj} {lv : Int} {tl : Tok}
    (_hc : oC'.data = .cell (some (.int lv tl))) (hlt : lv < x₀) (hh : A.handled = none) (F : Fr h₀ L s₁.heap m) (N : News h₀ L s₁.heap (a :: b :: c :: d :: e :: (rest ++ own))) (hm : (ax, listOf us.toArray n) ∈ a :: b :: c :: d :: e :: (rest ++ own)) (hi : IntsAre us (x₀ :: q).reverse) (hz : q.length ≤ 12)
    (test : ∀ (v : Int) (t : Tok) (I : Addr) (oI : Obj) (C : Addr) (oC : Obj) (D : Addr) (ys : List Value) (m₂ : Str → Option Value) (h : Heap) (tk : Nat) (E' : Value → Shared → Prop), LCg.NsObj oC m₂ → m₂ x = some (.int v t) → Fr h₀ L h m → News h₀ L h ((I, oI) :: (C, oC) :: (D, LCg.lst ys) :: (a :: b :: c :: d :: e :: (rest ++ own))) →
      wpAny (model prog w) A (isTrue ct (compEnvC scope cl C env) (eval ct (compEnvC scope cl C env))) (fun ok s' => ok = decide (v ≤ lv) ∧ ∃ tk', s' = { s₁ with heap := h, toks := tk' }) E' { s₁ with heap := h, toks := tk })
    (elem : ∀ (v : Int) (t : Tok) (I : Addr) (oI : Obj) (C : Addr) (oC : Obj) (D : Addr) (ys : List Value) (m₂ : Str → Option Value) (h : Heap) (tk : Nat) (E' : Value → Shared → Prop), LCg.NsObj oC m₂ → m₂ x = some (.int v t) → Fr h₀ L h m → News h₀ L h ((I, oI) :: (C, oC) :: (D, LCg.lst ys) :: (a :: b :: c :: d :: e :: (rest ++ own))) →
      wpAny (model prog w) A (eval elt (compEnvC scope cl C env)) (fun y s' => y = .int v t ∧ ∃ tk', s' = { s₁ with heap := h, toks := tk' }) E' { s₁ with heap := h, toks := tk })
    (fin : ∀ (D : Addr) (ys : List Value) (k : Nat) (h : Heap) (tk : Nat) (f : List Int), Fr h₀ L h (fun z => if z = y then some (.ref D) else m z) → News h₀ L h ((D, listOf ys.toArray k) :: a :: b :: c :: d :: e :: (rest ++ own)) → f = (x₀ :: q).filter (fun y => decide (y ≤ lv)) → IntsAre ys f.reverse → f.length ≤ q.length →
      OwnOff own [D] → @Ne Nat D c.1 → @Ne Nat D d.1 → Q .next { s₁ with heap := h, toks := tk }) :
    LCt.CompSrcT prog w A h₀ L m env ct elt x scope cl (fun s₂ => LCg.FinA h₀ L m s₂ y Q) (.ref ax) s₁ := by
  refine comp_src (fun z => decide (z ≤ lv)) hh F N hm hi (by rw [List.length_reverse, List.length_cons]; omega) test elem fun g ys hy => ?_
  intro D h tk F' N' o1
  have o2 := off1_mem o1
  refine fin D ys _ h tk _ F' N' rfl (by rw [List.filter_reverse] at hy; exact hy) (low_len hlt) (fun p hp => o2 p (by simp [hp])) ?_ ?_
  · exact Ne.symm (o2 c (by simp) D (.head _))
  · exact Ne.symm (o2 d (by simp) D (.head _))
theorem my_mulT {s : Shared} {E : Value → Shared → Prop} {x : Str} {n : Int} {t u : Tok} {Q : Value → Shared → Prop} (hx : x.length ≤ 16) (h0 : 0 ≤ n) (h1 : n ≤ 100) (h : ∀ t' k', (Txt.mul x n).length ≤ 1600 → Q (.str (Txt.mul x n) t') { s with toks := k' }) :
    wpAny (model prog w) A (binaryOp .Mult (.str x t) (.int n u)) Q E s := by
  refine KXi.mul (n := x.length) rfl hx (by omega) (by omega) fun t' k _ hk => h t' k ?_
  have e := hk h0
  have e1 : (x.length : Int) * n ≤ 16 * n := Int.mul_le_mul_of_nonneg_right (by omega) h0
  omega
end
end Mine

-- part LawF
namespace Mine
local macro_rules | `(tactic| walk_at "exec For Name Call cons nil") => `(tactic| (k_here; refine wpAny_For ?_ (by intro _; with_unfolding_all rfl)))
def Hold (P : Prop) : Prop := P
theorem hold {P : Prop} (h : Hold P) : P := h
local macro_rules | `(tactic| walk_at "pyIter ref") => `(tactic| (k_here; refine hold ?_))
local macro_rules | `(tactic| walk_at "call ref") => `(tactic| (k_here; (with_reducible show wpAny _ _ (call (Value.ref 43) [Value.ref _, Value.int _ _]) _ _ _); k_dflt (refine' c_lawAt ?k1 ?k2 ?k3 ?k4 ?k5 ?k6 ?kl ?ki ?k7 ?k8 ?k8b ?k9 ?k10 ?_; (case k1 => k_asm); (case k2 => k_asm); (case k3 => k_asm); (case k4 => k_asm); (case k5 => k_asm); (case k6 => exact rfl); (case kl => k_asm); (case ki => k_asm); (case k7 => omega); (case k8 => omega); (case k8b => omega); (case k9 => ktr_room); (case k10 => ktr_units); k_whole); intro v9 t9 h9 tk9 F9 N9; (try dsimp only)))

local macro_rules | `(tactic| walk_at "subscriptTail Call Name nil nil BinOp ref int") => `(tactic| (k_here; k_dflt (refine my_name (by k_asm) (by k_mem) (fmod_lo _ (by decide)) (fmod_hi _ (by decide)) ?hall ?_ (by with_unfolding_all rfl)); (case hall => (intro j hj; rcases j with _ | _ | _ | _ | j; exact ⟨_, _, rfl, by decide +kernel⟩; exact ⟨_, _, rfl, by decide +kernel⟩; exact ⟨_, _, rfl, by decide +kernel⟩; exact ⟨_, _, rfl, by decide +kernel⟩; omega)); intro x9 t9 hx9))
local macro_rules | `(tactic| walk_at "call type:str") => `(tactic| (k_here; k_dflt (refine my_str (by omega) (by omega) ?_); intro x9 t9 k9 hx9))
local macro_rules | `(tactic| walk_at "binaryOp Mult str int") => `(tactic| (k_here; (with_reducible show wpAny _ _ (binaryOp _ (Value.str (PySem.Str.ofString "w") _) (Value.int _ _)) _ _ _); k_dflt (refine my_mul (by decide +kernel) (fmod_lo _ (by decide)) (fmod_hi _ (by decide)) ?_); intro x9 t9 k9 hx9))
local macro_rules | `(tactic| walk_at "my len") => `(tactic| first | omega | (simp only [List.length_cons, List.length_nil] at *; omega))
local macro_rules | `(tactic| walk_at "call builtin:len") => `(tactic| (k_here; k_dflt (first | ((refine my_lenG0 (by k_asm) (by k_mem) (by assumption) ?_); k_whole) | ((refine my_lenGs (by k_asm) (by k_mem) (by assumption) ?_); k_whole) | ((refine my_lenG2 (by k_asm) (by k_mem) (by assumption) (by walk_at "my len") ?_); k_whole) | ((refine my_lenG1 (by k_asm) (by k_mem) (by assumption) (by walk_at "my len") ?_); k_whole))))
local macro_rules | `(tactic| walk_at "ite") => `(tactic| (k_here; k_openite; first | (refine ite_pos (by first | omega | (simp only [decide_eq_true_eq, bne_iff_ne, beq_iff_eq]; omega)) ?_) | (refine ite_neg (by first | omega | (simp only [decide_eq_true_eq, bne_iff_ne, beq_iff_eq, ne_eq]; omega)) ?_)))
local macro_rules | `(tactic| walk_at "binaryOp Mult str int") => `(tactic| (k_here; (with_reducible show wpAny _ _ (binaryOp _ (Value.str (PySem.Str.ofString "</ul>\n</li>\n") _) (Value.int _ _)) _ _ _); k_dflt (refine my_mulT (by decide +kernel) (by omega) (by omega) ?_); intro t' k' hm9))
local macro_rules | `(tactic| walk_at "subscriptTail Name UnaryOp ref int") => `(tactic| (k_here; k_dflt (refine my_lastG (by k_asm) (by k_mem) (by assumption) ?_ (by with_unfolding_all rfl)); k_whole; intro _))
local macro_rules | `(tactic| walk_at "binaryOp Add ref ref") => `(tactic| (k_here; k_dflt (refine my_cat (by k_asm) (by k_asm) (by k_mem) (by k_mem) (by assumption) (by walk_at "my len") ?_); k_whole; intro D' us' h' F' N' l1 hI'; (try k_lt l1)))
local macro_rules | `(tactic| walk_at "call ref") => `(tactic| (k_here; (with_reducible show wpAny _ _ (call (Value.ref 50) [Value.str _ _]) _ _ _); k_dflt (refine' c_shown2 ?k1 ?k2 ?k3 ?k4 ?k5 ?k6 ?k7 ?k9 ?k10 ?_; (case k1 => k_asm); (case k2 => k_asm); (case k3 => k_asm); (case k4 => k_asm); (case k5 => k_asm); (case k6 => exact rfl); (case k7 => omega); (case k9 => ktr_room); (case k10 => ktr_units); k_whole); intro t9 h9 tk9 hE9 F9 N9; (try dsimp only)))
local macro_rules | `(tactic| walk_at "my ne") => `(tactic| ((show @Ne Nat _ _); first | assumption | omega))
local macro_rules | `(tactic| walk_at "my end") => `(tactic| (
  refine' law_end (row := ⟨?lv, ?nm, ?tx⟩) (by assumption) (by assumption) (by assumption) (by assumption) (by assumption) ?hf (by assumption) (by assumption) ?hca ?hcell ?hra ?hsa ?hint ?hT ?hrest ?hTc ?hTr ?hTo ?hs1 ?hs2 ?hso ?hr1 ?hr2 ?hW ?hS ?hD ?hm
  (case hS => rfl)
  (case hW => rfl)
  (case hca => k_mem)
  (case hcell => assumption)
  (case hra => k_mem)
  (case hT => k_mem)
  (case hsa => k_mem)
  (case hint => assumption)
  (case hD => rfl)
  (case hrest => (intro p hp; kst_mem))
  (case hTc => walk_at "my ne")
  (case hTr => walk_at "my ne")
  (case hs1 => walk_at "my ne")
  (case hs2 => walk_at "my ne")
  (case hTo => k_all)
  (case hso => k_all)
  (case hr1 => (dsimp only; omega))
  (case hr2 => (dsimp only; omega))))
local macro_rules | `(tactic| walk_at "my hmL") => `(tactic| (intro z h1 h2 h3 h4 h5; (have h6 := not_in h5); (have k1 := h6 (Str.ofString "number") (.head _)); (have k2 := h6 (Str.ofString "name") (.tail _ (.head _))); (have k3 := h6 (Str.ofString "words") (.tail _ (.tail _ (.head _)))); (have k4 := h6 (Str.ofString "now") (.tail _ (.tail _ (.tail _ (.head _))))); (have k5 := h6 (Str.ofString "line") (.tail _ (.tail _ (.tail _ (.tail _ (.head _)))))); clear h6; simp only [if_neg h1, if_neg h2, if_neg h3, if_neg h4, if_neg k1, if_neg k2, if_neg k3, if_neg k4, if_neg k5, h5, Bool.false_eq_true, if_false]))
local macro_rules | `(tactic| walk_at "exec Assign cons ListComp") => `(tactic| (k_here; k_dflt (refine LCt.Assign_ListComp_T (F₀ := by k_asm) (by rfl) (by with_unfolding_all rfl) (by with_unfolding_all rfl) (by decide) (by rfl) (by decide) (by rfl) (by rfl) (by rfl) ?_)))
local macro_rules | `(tactic| walk_at "CompSrcT") => `(tactic| (k_here; k_dflt (refine comp_assign (by assumption) (by assumption) (by rfl) (by k_asm) (by k_asm) (by k_mem) (by assumption) (by walk_at "my len") ?_ ?_ ?_); (intro v9 t9 I9 oI9 C9 oC9 D9 ys9 m9 h9 tk9 E9 hC9 hx9 F9 N9); (rotate_left); (intro v9 t9 I9 oI9 C9 oC9 D9 ys9 m9 h9 tk9 E9 hC9 hx9 F9 N9); (rotate_left); (intro D' us' k' h' tk' f' F' N' hf' hI' hl' o1' n1' n2'; rcases f' with _ | ⟨y', f'⟩; all_goals (try simp only [List.length_cons, List.length_nil] at hl'))))
local macro_rules | `(tactic| walk_at "And") => `(tactic| exact ⟨rfl, _, rfl⟩)
local macro_rules | `(tactic| walk_at "call ref") => `(tactic| (k_here; (with_reducible show wpAny _ _ (call (Value.ref 29) [Value.ref _]) _ _ _); k_dflt (refine' c_render ?k1 ?k2 ?k3 ?k4 ?k5 ?k6 ?km ?kd ?kr ?kz ?k9 ?k10 ?_; (case k1 => k_asm); (case k2 => k_asm); (case k3 => k_asm); (case k4 => k_asm); (case k5 => k_asm); (case k6 => exact rfl); (case km => k_mem); (case kd => exact DatAll.mono (fun p hp => .tail _ (.tail _ (.tail _ hp))) (by assumption)); (case kr => assumption); (case kz => assumption); (case k9 => ktr_room); (case k10 => ktr_units); k_whole); intro t9 h9 tk9 F9 N9; (try dsimp only)))

theorem unhold {P : Prop} (h : P) : Hold P := h
set_option maxRecDepth 100000 in
set_option maxHeartbeats 16000000 in
theorem law_holds : PySem.Challenge.rw_ba0038_01.Holds := hd (by
  k_go0
  (all_goals try k_fold)
  k_steps
  refine unhold ?_
  (rename IsRange _ _ _ _ _ _ _ _ => rgX)
  (rename Fr _ _ _ _ => F1)
  (rename News _ _ _ _ => N1)
  generalize hcz : Int.fmod _ 13 = cz at rgX F1
  refine law_iter (by rfl) (by rfl) (by rfl) rgX (by rw [← hcz]; exact fmod_lo _ (by decide)) (by rw [← hcz]; exact fmod_hi _ (by decide)) F1 N1 (by assumption) (by assumption) (by assumption) (by rfl) (by rfl) (by rfl) ?turn ?done
  case turn =>
    intro i c t u h tk own hi hok hoff offR hne F2 N2
    clear F1 N1 rgX hcz
    obtain ⟨oC, vC, rv, nr, sa, us, ns, rest, rows, tW, tD⟩ := c
    obtain ⟨hcell, hdat, hint, hroff, hn1, hn2, hlen, hsz⟩ := hok
    dsimp only at hcell hdat hint hroff hn1 hn2 hlen hsz hoff offR F2 N2
    have hfe := (foldW_eq rows).1
    have hb := foldR_len rows (Str.ofString "", []) hsz (by simp; omega)
    have hne0 := @foldR_ne rows
    rw [← hfe] at hne0
    rw [show List.foldl turnR (Str.ofString "", []) rows = foldW rows from hfe.symm] at hb
    clear hfe
    generalize hfw : foldW rows = p at *
    obtain ⟨W, rl⟩ := p
    dsimp only at hb hne0 hint F2
    have h00 : (Str.ofString "").length = 0 := by decide +kernel
    have hW : W.length ≤ 4400 := by
      have := hb.1
      omega
    have hrl : rl.length ≤ 12 := by
      have := hb.2
      simp only [List.length_nil] at this
      omega
    clear hb h00
    have kMk := kstMark
    have hli : (Str.ofString "<i>").length = 3 := by decide +kernel
    have hrv : rv.length ≤ 12 := by
      have := hdat.length
      rw [List.length_map] at this
      omega
    have hm1 : @Ne Nat sa _ := hn1
    have hm2 : @Ne Nat sa _ := hn2
    have hosa : OwnOff own [sa] := fun p hp b hb => hoff p hp b (by rw [List.mem_singleton.mp hb]; simp [LS.led])
    cases rl with
    | nil =>
      have hi0 : (i : Int) = 0 := by
        have : rows = [] := Classical.byContradiction fun e => hne0 e rfl
        subst this
        simp at hlen
        omega
      k_steps
      · walk_at "my end"
        · rw [hfw]; rfl
        · walk_at "my hmL"
    | cons x q =>
      have hi0 : (i : Int) ≠ 0 := by
        intro e
        have : rows = [] := List.length_eq_zero_iff.mp (by omega)
        subst this
        unfold foldW at hfw
        simp at hfw
      have hq12 : q.length ≤ 11 := by
        simp only [List.length_cons] at hrl
        omega
      clear hrl
      have hdl : (((x :: q).length : Nat) : Int) = (q.length : Int) + 1 := by simp
      rw [hdl] at F2
      clear hdl
      k_steps
      · walk_at "my end"
        · rw [hfw]; exact tW_low0 (by assumption) (by assumption)
        · walk_at "my hmL"
      · walk_at "my end"
        · rw [hfw]; exact tW_low1 (by assumption) (by assumption) (by assumption)
        · walk_at "my hmL"
      · walk_at "my end"
        · rw [hfw]; exact tW_low2 (by assumption) (by assumption) (by assumption)
        · walk_at "my hmL"
      · walk_at "my end"
        · rw [hfw]; exact tW_high (by assumption) (by assumption)
        · walk_at "my hmL"
      · walk_at "my end"
        · rw [hfw]; exact tW_same (by assumption) (by assumption)
        · walk_at "my hmL"
  case done =>
    intro c u h tk hok F2 N2
    have hc0 : 0 ≤ cz := by rw [← hcz]; exact fmod_lo _ (by decide)
    have hc1 : cz < 13 := by rw [← hcz]; exact fmod_hi _ (by decide)
    obtain ⟨oC, vC, rv, nr, sa, us, ns, rest, rows, tW, tD⟩ := c
    obtain ⟨hcell, hdat, hint, hroff, hn1, hn2, hlen, hsz⟩ := hok
    dsimp only at hcell hdat hint hroff hn1 hn2 hlen hsz F2 N2
    have hfe := (foldW_eq rows).1
    have hb := foldR_len rows (Str.ofString "", []) hsz (by simp; omega)
    rw [show List.foldl turnR (Str.ofString "", []) rows = foldW rows from hfe.symm] at hb
    clear hfe
    have hwp := @wanted_pos rows
    have hwn := @wanted_nil rows
    generalize hfw : foldW rows = p at *
    obtain ⟨W, rl⟩ := p
    dsimp only at hb hint F2 hwp hwn
    have h00 : (Str.ofString "").length = 0 := by decide +kernel
    have hW : W.length ≤ 4400 := by
      have := hb.1
      omega
    have hrl : rl.length ≤ 12 := by
      have := hb.2
      simp only [List.length_nil] at this
      omega
    clear hb h00
    have hlen12 : rows.length ≤ 12 := by omega
    k_steps)
end Mine

theorem PySem.Challenge.cw_ba0038_01_holds : PySem.Challenge.rw_ba0038_01.Holds :=
  Mine.law_holds
