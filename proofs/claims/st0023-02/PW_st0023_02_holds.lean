import PyProof.Rows.All
import Wide.All
import OpenK.AllK
import Wide.FinOn
import KE.KParD
import Lean
import PySem.Challenge.RW_st0023_02
set_option Elab.async false
set_option maxRecDepth 100000
set_option compiler.extract_closed false
section
/-! what the lexer reads, in plain lists of signs -/
namespace Mine
noncomputable def ws (c : Nat) : Bool := c == 10 || c == 9 || c == 13 || c == 32
noncomputable def lexQ : List Nat → List Nat → Option (List Nat × List Nat)
  | [], _ => none
  | [c], acc => if c = 34 then some (acc, []) else none
  | c :: d :: r, acc => if c = 34 then some (acc, d :: r) else if c = 92 then lexQ r (acc ++ [d]) else lexQ (d :: r) (acc ++ [c])
noncomputable def lexB : List Nat → List Nat → Option (List Nat × List Nat)
  | [], acc => some (acc, [])
  | [c], acc => if ws c then some (acc, []) else if c = 92 then none else some (acc ++ [c], [])
  | c :: d :: r, acc => if ws c then some (acc, d :: r) else if c = 92 then lexB r (acc ++ [d]) else lexB (d :: r) (acc ++ [c])
noncomputable def lexA : List Nat → Option (List Nat × List Nat)
  | [] => some ([], [])
  | c :: r => if ws c then lexA r else if c = 34 then lexQ r [] else if c = 92 then (match r with | [] => none | d :: r' => lexB r' [d]) else lexB r [c]
theorem lexQ_quote {r acc : List Nat} {o} (h : lexQ (34 :: r) acc = some o) : o = (acc, r) := by
  cases r <;> simp [lexQ] at h <;> exact h.symm
theorem lexQ_back {r acc : List Nat} {o} (h : lexQ (92 :: r) acc = some o) : ∃ d r', r = d :: r' ∧ lexQ r' (acc ++ [d]) = some o := by
  cases r with
  | nil => simp [lexQ] at h
  | cons d r' => exact ⟨d, r', rfl, by simpa [lexQ] using h⟩
theorem lexQ_other {c : Nat} {r acc : List Nat} {o} (h1 : c ≠ 34) (h2 : c ≠ 92) (h : lexQ (c :: r) acc = some o) : lexQ r (acc ++ [c]) = some o := by
  cases r with
  | nil => simp [lexQ, h1] at h
  | cons d r' => simpa [lexQ, h1, h2] using h
theorem lexB_ws {c : Nat} {r acc : List Nat} {o} (hc : ws c = true) (h : lexB (c :: r) acc = some o) : o = (acc, r) := by
  cases r <;> simp [lexB, hc] at h <;> exact h.symm
theorem lexB_back {r acc : List Nat} {o} (h : lexB (92 :: r) acc = some o) : ∃ d r', r = d :: r' ∧ lexB r' (acc ++ [d]) = some o := by
  cases r with
  | nil => simp [lexB, ws] at h
  | cons d r' => exact ⟨d, r', rfl, by simpa [lexB, ws] using h⟩
theorem lexB_other {c : Nat} {r acc : List Nat} {o} (h1 : ws c = false) (h2 : c ≠ 92) (h : lexB (c :: r) acc = some o) : lexB r (acc ++ [c]) = some o := by
  cases r with
  | nil => simpa [lexB, h1, h2] using h
  | cons d r' => simpa [lexB, h1, h2] using h
/-- how many line ends -/
noncomputable def nls (l : List Nat) : Int := (l.count 10 : Nat)
theorem nls_cons (c : Nat) (l : List Nat) : nls (c :: l) = (if c = 10 then 1 else 0) + nls l := by
  unfold nls
  rw [List.count_cons]
  by_cases h : c = 10 <;> simp [h] <;> omega
theorem nls_nil : nls [] = 0 := rfl
end Mine
namespace Mine
noncomputable def encB (l : List Nat) : List Nat := (l.map fun c => [92, c]).flatten
noncomputable def encQ (l : List Nat) : List Nat := (l.map fun c => if c = 34 ∨ c = 92 then [92, c] else [c]).flatten
/-- what _law_word makes of a word -/
noncomputable def lawWord (bare : Int) (x wh : List Nat) : List Nat := if bare = 1 then encB x ++ wh else 34 :: encQ x ++ 34 :: wh
end Mine
namespace Mine
theorem encB_len (l : List Nat) : (encB l).length = 2 * l.length := by
  unfold encB
  induction l with
  | nil => rfl
  | cons c r ih => simp only [List.map_cons, List.flatten_cons, List.length_append, List.length_cons, List.length_nil] at *; omega
theorem encQ_len (l : List Nat) : (encQ l).length ≤ 2 * l.length := by
  unfold encQ
  induction l with
  | nil => exact Nat.le_refl _
  | cons c r ih =>
    simp only [List.map_cons, List.flatten_cons, List.length_append, List.length_cons] at *
    split <;> simp only [List.length_cons, List.length_nil] <;> omega
end Mine
namespace Mine
/-- a letter's small form -/
noncomputable def lowC (c : Nat) : Nat := if 65 ≤ c ∧ c ≤ 90 then c + 32 else c
end Mine
end
section
open PySem PySem.W PySem.Spec PySem.Calls PyProof.Rows
set_option Elab.async false
set_option maxRecDepth 100000
namespace Mine

theorem news_sub {h₀ h : Heap} {L : Addr} {news sub : List (Addr × Obj)} (N : News h₀ L h news) (hs : ∀ p ∈ sub, p ∈ news) : News h₀ L h sub := fun p hp => N p (hs p hp)
/-- a part of the ledger that was kept -/
theorem news_kept {h₀ h h' : Heap} {L : Addr} {news : List (Addr × Obj)} (N : News h₀ L h news) (k : ∀ p ∈ news, h.get? p.1 = some p.2 → h'.get? p.1 = some p.2) : News h₀ L h' news := fun p hp => ⟨k p hp (N p hp).1, (N p hp).2⟩
theorem news_join {h₀ h : Heap} {L : Addr} {a b : List (Addr × Obj)} (Na : News h₀ L h a) (Nb : News h₀ L h b) : News h₀ L h (a ++ b) := fun p hp => (List.mem_append.mp hp).elim (Na p) (Nb p)
theorem news_head {h₀ h : Heap} {L : Addr} {x : Addr × Obj} {a : List (Addr × Obj)} (N : News h₀ L h (x :: a)) : News h₀ L h [x] := fun p hp => N p (List.mem_cons.mpr (.inl (List.mem_singleton.mp hp)))
theorem news_tail {h₀ h : Heap} {L : Addr} {x : Addr × Obj} {a : List (Addr × Obj)} (N : News h₀ L h (x :: a)) : News h₀ L h a := fun p hp => N p (List.mem_cons_of_mem _ hp)
/-- a stop of the walk, to go on by hand -/
def Stop (P : Prop) : Prop := P
theorem Stop.out {P : Prop} (h : Stop P) : P := h
/-- `vs` are the one-sign texts of the signs `cs` -/
def Chs : List Value → List Nat → Prop
  | [], [] => True
  | v :: vs, c :: cs => (∃ t, v = Value.str ⟨#[c]⟩ t) ∧ Chs vs cs
  | _, _ => False
theorem Chs.of_get : ∀ {vs : List Value} {cs : List Nat}, vs.length = cs.length → (∀ (j : Nat) v, vs[j]? = some v → ∃ c t, cs[j]? = some c ∧ v = Value.str ⟨#[c]⟩ t) → Chs vs cs
  | [], [], _, _ => trivial
  | [], _ :: _, h, _ => by cases h
  | _ :: _, [], h, _ => by cases h
  | v :: vs, c :: cs, h, k => by
    refine ⟨?_, Chs.of_get (by simpa using h) fun j u hj => ?_⟩
    · obtain ⟨c', t, e, r⟩ := k 0 v rfl
      cases e; exact ⟨t, r⟩
    · simpa using k (j + 1) u (by simpa using hj)
theorem Chs.length : ∀ {vs : List Value} {cs : List Nat}, Chs vs cs → vs.length = cs.length
  | [], [], _ => rfl
  | _ :: _, _ :: _, h => congrArg (· + 1) (Chs.length h.2)

theorem Chs.cons_inv {vs : List Value} {c : Nat} {cs : List Nat} (h : Chs vs (c :: cs)) : ∃ t vs', vs = Value.str ⟨#[c]⟩ t :: vs' ∧ Chs vs' cs := by
  cases vs with
  | nil => exact h.elim
  | cons v vs' =>
    obtain ⟨⟨t, rfl⟩, h2⟩ := h
    exact ⟨t, vs', rfl, h2⟩
theorem Chs.nil_inv {vs : List Value} (h : Chs vs []) : vs = [] := by
  cases vs with
  | nil => rfl
  | cons v vs' => exact h.elim
theorem one_beq {c d : Nat} {x : Str} (hx : x = ⟨#[d]⟩) : (Str.mk #[c] == x) = decide (c = d) := by
  subst hx
  by_cases h : c = d
  · subst h; simp
  · rw [decide_eq_false h]
    refine beq_eq_false_iff_ne.mpr fun e => h ?_
    have := Str.mk.inj e
    simpa using this
theorem is_nl : Str.ofString "\n" = ⟨#[10]⟩ := by decide
theorem is_quote : Str.ofString "\"" = ⟨#[34]⟩ := by decide
theorem is_back : Str.ofString "\\" = ⟨#[92]⟩ := by decide
theorem one_nl {c : Nat} : (Str.mk #[c] == Str.ofString "\n") = decide (c = 10) := one_beq is_nl
theorem one_quote {c : Nat} : (Str.mk #[c] == Str.ofString "\"") = decide (c = 34) := one_beq is_quote
theorem one_back {c : Nat} : (Str.mk #[c] == Str.ofString "\\") = decide (c = 92) := one_beq is_back

theorem wsStr_is : (Str.ofString "\n\t\r ") = ⟨#[10, 9, 13, 32]⟩ := by decide
theorem ws_in (c : Nat) : (Builtin.Str.occurrences (Str.ofString "\n\t\r ") (Str.mk #[c]) 0 (Str.length (Str.ofString "\n\t\r ")) 1).isEmpty = !ws c := by
  have h := StrLaws.found_one (Str.ofString "\n\t\r ") c
  have e : ws c = decide (c ∈ (Str.ofString "\n\t\r ").cps.toList) := by
    rw [wsStr_is]
    unfold ws
    simp [Bool.beq_eq_decide_eq, Bool.or_assoc]
  rw [e, ← h, Bool.not_not]
theorem len_mk {a : Array Nat} : (Str.mk a).length = a.size := rfl
theorem len_empty : (Str.ofString "").length = 0 := by decide
theorem len_quote : (Str.ofString "\"").length = 1 := by decide
theorem len_back : (Str.ofString "\\").length = 1 := by decide
theorem str_empty : Str.ofString "" = ⟨#[]⟩ := by decide
theorem str_append_mk (a b : Array Nat) : (Str.mk a ++ Str.mk b) = Str.mk (a ++ b) := by
  apply Str.ext'
  rw [Str.cps_append]
theorem str_push (acc : List Nat) (c : Nat) : (Str.mk acc.toArray ++ Str.mk #[c]) = Str.mk (acc ++ [c]).toArray := by
  rw [str_append_mk]
  congr 1
  apply Array.ext'
  simp
/-- texts by their signs -/
abbrev tx (l : List Nat) : Str := ⟨l.toArray⟩
theorem tx_append (a b : List Nat) : tx a ++ tx b = tx (a ++ b) := by
  rw [str_append_mk]; congr 1; apply Array.ext'; simp
theorem tx_len (a : List Nat) : (tx a).length = a.length := by show a.toArray.size = _; simp
theorem tx_inj {a b : List Nat} (h : tx a = tx b) : a = b := by
  have := congrArg (fun x : Str => x.cps.toList) h
  simpa using this
theorem tx_cps (x : Str) : x = tx x.cps.toList := by
  apply Str.ext'
  simp
theorem end_str {R : Result → Shared → Prop} {S S' : Str} {t : Tok} {st : Shared} (e : S = S') (h : R (.ok (.ret (.str S' t))) st) : R (.ok (.ret (.str S t))) st := e ▸ h
theorem join_empty : ∀ ls : List (List Nat), Txt.join (Str.ofString "") (ls.map tx) = tx ls.flatten
  | [] => by rfl
  | x :: rest => by
    have e : ∀ (x : List Nat) (rest : List (List Nat)), Str.join (Str.ofString "") ((x :: rest).map tx) = tx (x :: rest).flatten := by
      intro x rest
      induction rest generalizing x with
      | nil => simp [Str.join]
      | cons y r ih =>
        show tx x ++ Str.ofString "" ++ Str.join (Str.ofString "") ((y :: r).map tx) = _
        rw [ih, str_empty]
        show tx x ++ tx [] ++ tx (y :: r).flatten = _
        rw [tx_append, tx_append]
        simp
    exact (StrLaws.glued_eq_join _ _).trans (e x rest)
section
variable {prog : Program} {w : World} {A : Around} {E : Value → Shared → Prop} {s : Shared} {h₀ : Heap} {L : Addr} {m : Str → Option Value} {news : List (Addr × Obj)}

theorem ldX {a : Addr} {cn : Str} {cs : Scope} {ccd : Value} {cl : List (Str × Addr)} {x : Str} {v : Value} {Q : Value → Shared → Prop} (F : Fr h₀ L s.heap m) (hv : m x = some v) (h : Q v s)
    (hk : cs.kind = .function := by rfl) (hx : (envX cn cs L a ccd cl).kindOf x = some .local := by rfl) : wpAny (model prog w) A (loadName (envX cn cs L a ccd cl) x) Q E s := wpAny_loadName_local hk hx F.ns hv h
theorem listStr_K {x : Str} {t : Tok} {Q : Value → Shared → Prop} (hh : A.handled = none) (F : Fr h₀ L s.heap m) (N : News h₀ L s.heap news) (hsz : x.cps.size ≤ sizeLine)
    (h : ∀ l c vs h' tk, Fr h₀ L h' m → News h₀ L h' ((l, listOf vs.toArray c) :: news) → (∀ q ∈ news, q.1 < l) → Chs vs x.cps.toList → Q (.ref l) { s with heap := h', toks := tk }) :
    wpAny (model prog w) A (call (.type "list") [.str x t]) Q E s := by
  refine call_list_str hh x t (hn := hsz) fun h' tk acc' c' hk hS' hacc => ?_
  refine h _ c' acc'.toList h' tk (F.keeps hk) (fun q hq => ?_) (fun q hq => Heap.lt_size (N q hq).1) (Chs.of_get (by simp [hacc.1]) fun j v hj => ?_)
  · rcases List.mem_cons.mp hq with rfl | hq
    · exact ⟨by simpa using hS', Nat.ne_of_gt F.ns.lt, none_at_size F⟩
    · exact ⟨hk _ _ (N q hq).1, (N q hq).2⟩
  · obtain ⟨c, u, hc, rfl⟩ := hacc.2 j v (by simpa using hj)
    exact ⟨c, u, by simpa using hc, rfl⟩

theorem rev_K {D : Addr} {vs : List Value} {n : Nat} {news' : List (Addr × Obj)} {Q : Value → Shared → Prop} (F : Fr h₀ L s.heap m) (N : News h₀ L s.heap news) (U : Upd D (listOf vs.toArray n) (listOf vs.reverse.toArray n) news news') (hz : vs.length ≤ sizeLine)
    (h : ∀ h', Fr h₀ L h' m → News h₀ L h' news' → Q .none { s with heap := h' }) : wpAny (model prog w) A (call (.builtin "list.reverse") [.ref D]) Q E s :=
  kl_reverse F N (by simp) U (by simpa using hz) h
theorem pop_K {D : Addr} {p : List Value} {y : Value} {n : Nat} {news' : List (Addr × Obj)} {Q : Value → Shared → Prop} (F : Fr h₀ L s.heap m) (N : News h₀ L s.heap news) (U : Upd D (listOf (p ++ [y]).toArray n) (listOf p.toArray (n + 1)) news news') (hz : p.length < sizeLine)
    (h : ∀ h', Fr h₀ L h' m → News h₀ L h' news' → Q y { s with heap := h' }) : wpAny (model prog w) A (call (.builtin "list.pop") [.ref D]) Q E s :=
  kl_pop F N (p := p) (y := y) (by simpa using kpa_last y p) U (by simpa using Nat.succ_le_of_lt hz) h
theorem cut_at : ∀ (p q : List Value) (y : Value), kl_cut (p ++ y :: q) p.length = some (p, y, q)
  | [], _, _ => rfl
  | x :: p, q, y => by
    show (match kl_cut (p ++ y :: q) p.length with | some (p, y, q) => some (x :: p, y, q) | none => none) = some (x :: p, y, q)
    rw [cut_at p q y]
theorem popI_K {D : Addr} {vs : List Value} {i : Int} {k : Nat} {u : Tok} {n : Nat} {news' : List (Addr × Obj)} {Q : Value → Shared → Prop} (F : Fr h₀ L s.heap m) (N : News h₀ L s.heap news) (hi : i = k) (hk : k < vs.length) (U : Upd D (listOf vs.toArray n) (listOf (vs.eraseIdx k).toArray (n + 1)) news news') (hz : vs.length ≤ sizeLine)
    (h : ∀ h', Fr h₀ L h' m → News h₀ L h' news' → Q vs[k] { s with heap := h' }) : wpAny (model prog w) A (call (.builtin "list.pop") [.ref D, .int i u]) Q E s := by
  have hs : sizeLine = 16777216 := PySem.sizeLine_eq
  have e : vs = vs.take k ++ vs[k] :: vs.drop (k + 1) := by
    rw [List.getElem_cons_drop, List.take_append_drop]
  have e2 : vs.eraseIdx k = vs.take k ++ vs.drop (k + 1) := List.eraseIdx_eq_take_drop_succ ..
  have hl : (vs.take k).length = k := by rw [List.length_take]; omega
  subst hi
  refine kl_popAt F N (its := vs.toArray) (k := k) (p := vs.take k) (q := vs.drop (k + 1)) (y := vs[k]) ?_ ?_ ?_ (e2 ▸ U) (by simpa using hz) h
  · have h1 : (k : Int) < 2 ^ 63 := by omega
    have h2 : -(2 ^ 63 : Int) ≤ (k : Int) := by omega
    unfold Builtin.List.listFitsIndex
    simp only [Bool.and_eq_true, decide_eq_true_eq]
    omega
  · have h0 : ¬ ((k : Int) < 0) := by omega
    have h1 : (decide (0 ≤ (k : Int)) && decide ((k : Int) < (vs.length : Int))) = true := by
      rw [Bool.and_eq_true]
      exact ⟨decide_eq_true (Int.natCast_nonneg k), decide_eq_true (by omega)⟩
    unfold seqIndex?
    simp only [List.size_toArray, if_neg h0]
    rw [if_pos h1, Int.toNat_natCast]
  · have := cut_at (vs.take k) (vs.drop (k + 1)) vs[k]
    rw [hl, ← e] at this
    simpa using this
theorem pop0_K {D : Addr} {p : List Value} {y : Value} {u : Tok} {n : Nat} {news' : List (Addr × Obj)} {Q : Value → Shared → Prop} (F : Fr h₀ L s.heap m) (N : News h₀ L s.heap news) (U : Upd D (listOf (y :: p).toArray n) (listOf p.toArray (n + 1)) news news') (hz : p.length < sizeLine)
    (h : ∀ h', Fr h₀ L h' m → News h₀ L h' news' → Q y { s with heap := h' }) : wpAny (model prog w) A (call (.builtin "list.pop") [.ref D, .int 0 u]) Q E s :=
  popI_K (vs := y :: p) (k := 0) F N rfl (Nat.succ_pos _) U (Nat.succ_le_of_lt hz) h
theorem appendV_K {D : Addr} {vs : List Value} {y : Value} {n : Nat} {news' : List (Addr × Obj)} {Q : Value → Shared → Prop} (F : Fr h₀ L s.heap m) (N : News h₀ L s.heap news) (U : Upd D (listOf vs.toArray n) (listOf (vs ++ [y]).toArray (n + 1)) news news') (hz : vs.length ≤ sizeLine)
    (h : ∀ h', Fr h₀ L h' m → News h₀ L h' news' → Q .none { s with heap := h' }) : wpAny (model prog w) A (call (.builtin "list.append") [.ref D, y]) Q E s := by
  refine append_K F N (its := vs.toArray) (n := n) (by simpa using U) ?_ (by simpa using hz)
  exact h
theorem sum_len_flatten : ∀ ls : List (List Nat), ((ls.map tx).map (·.length)).sum = ls.flatten.length
  | [] => rfl
  | l :: r => by
    simp only [List.map_cons, List.sum_cons, List.flatten_cons, List.length_append, tx_len, sum_len_flatten r]
theorem joinTx_K {D : Addr} {vs : List Value} {ls : List (List Nat)} {t : Tok} {n : Nat} {Q : Value → Shared → Prop} (N : News h₀ L s.heap news) (hm : (D, listOf vs.toArray n) ∈ news) (hs : StrsAre vs (ls.map tx)) (hz : ls.flatten.length ≤ sizeLine)
    (h : ∀ t' k, Q (.str (tx ls.flatten) t') { s with toks := k }) : wpAny (model prog w) A (call (.builtin "str.join") [.str (Str.ofString "") t, .ref D]) Q E s := by
  refine join_list (items := vs.toArray) ⟨_, (N _ hm).1, rfl, n, rfl⟩ (by simpa using hs) ?_ fun t' k => ?_
  · rw [sum_len_flatten, len_empty, Nat.mul_zero]; exact hz
  · rw [join_empty]; exact h t' k
theorem truthyNe_K {D : Addr} {vs : List Value} {n : Nat} {Q : Bool → Shared → Prop} (N : News h₀ L s.heap news) (hm : (D, listOf vs.toArray n) ∈ news) (hz : vs.length ≤ sizeLine) (hne : vs ≠ []) (h : ∀ tk, Q true { s with toks := tk }) :
    wpAny (model prog w) A (truthy (.ref D)) Q E s := by
  have hb : sizeLine = 16777216 := PySem.sizeLine_eq
  refine wpAny_truthy_list (items := vs.toArray) ⟨_, (N _ hm).1, rfl, n, rfl⟩ (by rw [List.size_toArray]; omega) ?_
  have e : (!vs.toArray.isEmpty) = true := by
    cases vs with
    | nil => exact absurd rfl hne
    | cons _ _ => rfl
  rw [e]; exact h _
theorem truthyNil_K {D : Addr} {n : Nat} {Q : Bool → Shared → Prop} (N : News h₀ L s.heap news) (hm : (D, listOf #[] n) ∈ news) (h : ∀ tk, Q false { s with toks := tk }) :
    wpAny (model prog w) A (truthy (.ref D)) Q E s := by
  refine wpAny_truthy_list (items := #[]) ⟨_, (N _ hm).1, rfl, n, rfl⟩ (by decide) ?_
  exact h _
end

section
variable {prog : Program} {w : World} {A A₀ : Around} {s : Shared} {K : Frag} {L : Addr} {h₀ base : Heap} {m mg mb : Str → Option Value} {news : List (Addr × Obj)} {p : Program} {loose : List Str} {mean : ExcName → Option Value}
/-- code_def that also tells what the callee's ground keeps -/
theorem codeK {env : Env} {outer : List Env} {R : Result → Shared → Prop} {name qual : Str} {params : Arguments} {body : List Stmt} {scope : Scope} {dV kV doc pm cdv ct oc : Value} {an od : Option Addr} {osl : Array (Option Value)} {f : Addr} {args : Args} {binds : List (Str × Value)}
    (B : Below A₀ base outer h₀) (F : Fr h₀ L s.heap m) (X₀ : K.In h₀) (N : News h₀ L s.heap news) (T : Top p loose mean mg mb h₀) (hA : A.frames = some (env :: outer)) (hf : env.frame = some L) (hke : env.scope.kind = .function)
    (ho : K.lookup f = some ⟨oc, od, .func (fnOf name qual params body scope dV kV doc pm an cdv ct), osl⟩) (hcd : codeIn K cdv qual = true) (hroom : A.depth < recursionLimit)
    (hbind : BindsTo s (fnOf name qual params body scope dV kV doc pm an cdv ct) args binds) (hloc : ∀ y ∈ binds, scope.names.lookup y.1 = some .local)
    (h : ∀ g L' h₁, (∀ b o, s.heap.get? b = some o → b ∉ news.map (·.1) → g.get? b = some o) → (∀ (b : Nat) o, s.heap.get? b = some o → @LT.lt Nat _ b L') → (∀ p ∈ news, p.1 < L') → Fr h₀ L g m → Fr g L' h₁ (fun y => binds.reverse.lookup y) → News g L' h₁ news → Below A base (env :: outer) g → K.In g → Top p loose mean mg mb g →
      wpAny (model prog w) (A.deeper (envOf qual scope L' f cdv)) (execs body (envOf qual scope L' f cdv))
        (fun fl s' => LeaveK h₀ L m g R (match fl with | .ret v => v | _ => .none) s')
        (fun e s' => wpAny (model prog w) (A.deeper (envOf qual scope L' f cdv)) (leaving (envOf qual scope L' f cdv) e) (fun _ s'' => R (.error e) s'') (fun e' s'' => R (.error e') s'') s')
        { s with heap := h₁, toks := s.toks + binds.length })
    (hco : scope.isCoroutine = false) (hgen : scope.isGenerator = false) (hk : scope.kind = .function)
    (hcell : ∀ x ∈ scope.names, x.2 ≠ .cell) : codeAny (model prog w) A (.call (.ref f) args) R s := by
  obtain ⟨FG, BG, st, lv⟩ := groundX (R := R) B F N hA hf hke
  refine codeAny_call_def (fd := fnOf name qual params body scope dV kV doc pm an cdv ct) (body := body) (binds := binds) hroom ((X₀.keeps F.keep) _ _ ho) rfl (T.nolimit.keeps F.keep) (codeRec_of (X₀.keeps F.keep) hcd) rfl hbind hcell hloc (fun h₁ hns hk₁ => ?_) hco hgen hk
  exact wpAny_mono (h _ s.heap.objs.size h₁ (fun b o e q => hideAll_get _ e q) (fun _ _ e => Heap.lt_size e) (fun p hp => Heap.lt_size (N p hp).1) FG ⟨hns, fun b o e => hk₁ b o (of_hideAll _ e), Nat.le_of_eq (hideAll_size _ _)⟩
    (fun p hp => ⟨hk₁ _ _ (N p hp).1, Nat.ne_of_lt (Heap.lt_size (N p hp).1), hideAll_none _ (List.mem_map_of_mem hp)⟩) BG (X₀.keeps st) (T.keeps st)) (fun fl s' hl => lv _ _ hl) fun _ _ y => y

theorem codeKC {env : Env} {outer : List Env} {R : Result → Shared → Prop} {name qual : Str} {params : Arguments} {body : List Stmt} {scope : Scope} {dV kV doc pm cdv ct oc : Value} {an od : Option Addr} {osl : Array (Option Value)} {f : Addr} {args : Args} {binds : List (Str × Value)}
    (B : Below A₀ base outer h₀) (F : Fr h₀ L s.heap m) (X₀ : K.In h₀) (N : News h₀ L s.heap news) (T : Top p loose mean mg mb h₀) (hA : A.frames = some (env :: outer)) (hf : env.frame = some L) (hke : env.scope.kind = .function)
    (ho : K.lookup f = some ⟨oc, od, .func (fnOf name qual params body scope dV kV doc pm an cdv ct), osl⟩) (hcd : codeIn K cdv qual = true) (hroom : A.depth < recursionLimit)
    (hbind : BindsTo s (fnOf name qual params body scope dV kV doc pm an cdv ct) args binds) (hkind : (binds.all fun y => scope.names.lookup y.1 == some .local || scope.names.lookup y.1 == some .cell) = true)
    (hnd : ((cellsFrom 0 scope.names []).map (·.1)).Nodup)
    (h : ∀ g L' h₁ tk cells, (∀ b o, s.heap.get? b = some o → b ∉ news.map (·.1) → g.get? b = some o) → (∀ (b : Nat) o, s.heap.get? b = some o → @LT.lt Nat _ b L') → Fr h₀ L g m → Fr g L' h₁ (bindL (envOfC qual scope L' f cdv).kindOf binds fun _ => none) → News g L' h₁ (cells ++ news) →
      CellsAre (bindC (envOfC qual scope L' f cdv).kindOf binds fun _ => none) (cellsFrom (L' + 1) scope.names []) cells → Below A base (env :: outer) g → K.In g → Top p loose mean mg mb g → (∀ p ∈ news, p.1 < L') →
      wpAny (model prog w) (A.deeper (envOfC qual scope L' f cdv)) (execs body (envOfC qual scope L' f cdv))
        (fun fl s' => LeaveK h₀ L m g R (match fl with | .ret v => v | _ => .none) s')
        (fun e s' => wpAny (model prog w) (A.deeper (envOfC qual scope L' f cdv)) (leaving (envOfC qual scope L' f cdv) e) (fun _ s'' => R (.error e) s'') (fun e' s'' => R (.error e') s'') s')
        { s with heap := h₁, toks := tk })
    (hco : scope.isCoroutine = false) (hgen : scope.isGenerator = false) (hk : scope.kind = .function) : codeAny (model prog w) A (.call (.ref f) args) R s := by
  obtain ⟨FG, BG, st, lv⟩ := groundX (R := R) B F N hA hf hke
  refine codeAny_call_function hroom ((X₀.keeps F.keep) _ _ ho) rfl hco hgen rfl (codeRec_of (X₀.keeps F.keep) hcd) (hbind _ _ _ _ ?_)
  refine wpAny_newFunctionEnv_cells hk (kindsX hkind _) fun env' he s' x => ?_
  subst he
  refine ⟨(T.nolimit.keeps F.keep).keeps x.toInCall.keep, codeAny_func ?_⟩
  obtain ⟨h₁, tk, rfl, _⟩ := x.done
  have hk₁ := x.toInCall.keep
  obtain ⟨cells, NC, Y⟩ := Cl.news (h₀ := s.heap) (Nat.le_refl _) fun n c hm => ⟨x.cell n c (lookup_of_mem_nodup (cellsFrom_names scope.names 0 (s.heap.objs.size + 1) [] [] rfl ▸ hnd) hm), x.above n c hm⟩
  refine wpAny_mono (h _ s.heap.objs.size h₁ tk cells (fun b o e q => hideAll_get _ e q) (fun _ _ e => Heap.lt_size e) FG ⟨x.toInCall.ns, fun b o e => hk₁ b o (of_hideAll _ e), Nat.le_of_eq (hideAll_size _ _)⟩ (fun p hp => ?_) Y BG (X₀.keeps st) (T.keeps st) (fun p hp => Heap.lt_size (N p hp).1)) (fun fl s' hl => lv _ _ hl) fun _ _ y => y
  rcases List.mem_append.mp hp with hp | hp
  · refine ⟨(NC p hp).1, (NC p hp).2.1, ?_⟩
    cases q : (hideAll s.heap (news.map (·.1))).get? p.1 with
    | none => rfl
    | some o => have := of_hideAll _ q; rw [(NC p hp).2.2] at this; cases this
  · exact ⟨hk₁ _ _ (N p hp).1, Nat.ne_of_lt (Heap.lt_size (N p hp).1), hideAll_none _ (List.mem_map_of_mem hp)⟩
end
end Mine
end
section
open PySem PySem.W PySem.Spec PySem.Calls PyProof.Rows
set_option Elab.async false
set_option maxRecDepth 100000
namespace Mine
theorem slot_ci_next : Slot "callable_iterator" "__next__" "callable_iterator.__next__" :=
  .of (owner := "callable_iterator") (n := "__next__") (by rw [typeLookup_type, builtinLookup_eq_fast]; kernel_rfl) (by decide +kernel) (by decide +kernel) (by decide +kernel)
    (by first | exact .inl (by decide +kernel) | exact .inr (by decide +kernel)) (by rw [isSubtype_type]; kernel_rfl)
theorem entry_ci_next : entryFor table "callable_iterator.__next__" = some Builtin.«callable_iterator.__next__» := entryFor_of_tree (by kernel_rfl)
theorem args_ci_next (a : Value) : argsOk "callable_iterator.__next__" ⟨[a], []⟩ := by unfold argsOk; kernel_rfl
theorem slot_ci_iter : Slot "callable_iterator" "__iter__" "callable_iterator.__iter__" :=
  .of (owner := "callable_iterator") (n := "__iter__") (by rw [typeLookup_type, builtinLookup_eq_fast]; kernel_rfl) (by decide +kernel) (by decide +kernel) (by decide +kernel)
    (by first | exact .inl (by decide +kernel) | exact .inr (by decide +kernel)) (by rw [isSubtype_type]; kernel_rfl)
theorem entry_ci_iter : entryFor table "callable_iterator.__iter__" = some Builtin.«dict_keyiterator.__iter__» :=
  entryFor_alias (id' := "dict_keyiterator.__iter__") (by kernel_rfl) rfl (by decide +kernel) (by kernel_rfl)
theorem args_ci_iter (a : Value) : argsOk "callable_iterator.__iter__" ⟨[a], []⟩ := by unfold argsOk; kernel_rfl

theorem slot_method_call : Slot "method" "__call__" "method.__call__" :=
  .of (owner := "method") (n := "__call__") (by rw [typeLookup_type, builtinLookup_eq_fast]; kernel_rfl) (by decide +kernel) (by decide +kernel) (by decide +kernel)
    (by first | exact .inl (by decide +kernel) | exact .inr (by decide +kernel)) (by rw [isSubtype_type]; kernel_rfl)
theorem entry_iter : entryFor table "iter" = some Builtin.«iter» := entryFor_of_fast (by kernel_rfl)
theorem args_iter2 (a b : Value) : argsOk "iter" ⟨[a, b], []⟩ := by unfold argsOk; kernel_rfl
noncomputable abbrev ciObj (f snt : Value) (b : Bool) : Obj := { cls := .type "callable_iterator", data := .fields #[f, snt, .bool b] }
section
variable {prog : Program} {w : World} {A : Around} {E : Value → Shared → Prop} {s : Shared}

theorem ci_iter {it : Addr} {f snt : Value} {b : Bool} {Q : Value → Shared → Prop} (hi : s.heap.get? it = some (ciObj f snt b)) (h : Q (.ref it) s) : wpAny (model prog w) A (pyIter (.ref it)) Q E s := by
  have hT : s.TypeIs (.ref it) "callable_iterator" := ⟨_, hi, rfl⟩
  refine wpAny_pyIter_slot hT slot_ci_iter (wpAny_call_entry slot_ci_iter hT entry_ci_iter ?_ (args_ci_iter _))
  show wpAny _ _ (ret (.ref it)) _ _ s
  exact wpAny_pure ⟨_, rfl, "callable_iterator", _, hT, slot_ci_next.lookup, h⟩

theorem borrows_method {q g : Addr} {self : Value} {Q : Bool → Shared → Prop} {og : Obj} {fd : FuncData} (hq : s.heap.get? q = some (methodObj (.ref g) self)) (hg : s.heap.get? g = some og) (hf : og.data = .func fd) (h : Q true s) :
    wpAny (model prog w) A (borrowsExactly (.ref q)) Q E s := by
  obtain ⟨oc, od, dt, os⟩ := og
  dsimp only at hf
  subst hf
  unfold borrowsExactly
  refine wpAny_bind (wpAny_load hq ?_)
  refine wpAny_bind (wpAny_load hg ?_)
  exact wpAny_pure h

theorem ci_next {it q g : Addr} {self : Value} {x0 : Str} {t0 : Tok} {og : Obj} {fd : FuncData} {Q : Option Value → Shared → Prop} (hh : A.handled = none)
    (hi : s.heap.get? it = some (ciObj (.ref q) (.str x0 t0) false)) (hq : s.heap.get? q = some (methodObj (.ref g) self)) (hg : s.heap.get? g = some og) (hf : og.data = .func fd)
    (hc : codeAny (model prog w) A.in1 (.call (.ref g) ⟨[self], []⟩) (fun r s' => ∃ y t, r = .ok (.ret (.str y t)) ∧ s'.heap.get? it = some (ciObj (.ref q) (.str x0 t0) false) ∧
      s'.heap.get? q = some (methodObj (.ref g) self) ∧ s'.heap.get? g = some og ∧
      (x0 ≠ y → Q (some (.str y t)) s') ∧ (x0 = y → ∀ h', (∀ b o, b ≠ it → s'.heap.get? b = some o → h'.get? b = some o) → h'.get? it = some (ciObj .none .none true) → Q none { s' with heap := h' })) s) :
    wpAny (model prog w) A (pyNext (.ref it)) Q E s := by
  have hT : s.TypeIs (.ref it) "callable_iterator" := ⟨_, hi, rfl⟩
  unfold pyNext
  refine wpAny_bind (wpAny_attempt (wpAny_callSpecial?_slot (name := Str.ofString "__next__") hT slot_ci_next
    (wpAny_call_entry slot_ci_next hT entry_ci_next ?_ (args_ci_next _))))
  show wpAny _ _ (field (.ref it) 2 >>= _) _ _ s
  refine wpAny_bind (wpAny_field hi rfl (x := .bool false) rfl ?_)
  show wpAny _ _ (field (.ref it) 0 >>= _) _ _ s
  refine wpAny_bind (wpAny_field hi rfl (x := .ref q) rfl ?_)
  refine wpAny_bind (wpAny_attempt ?_)
  unfold callOutOfASlot
  refine wpAny_bind (borrows_method hq hg hf ?_)
  rw [if_pos rfl]
  unfold callBorrowed
  refine W.X.x_call ?_ (by intro h; cases h)
  refine W.method_call hq ?_
  refine codeAny_mono hc fun r s' hr => ?_
  obtain ⟨y, t, rfl, hi', hq', hg', h1, h2⟩ := hr
  refine wpAny_pure ?_
  dsimp only
  refine wpAny_bind (wpAny_field hi' rfl (x := .bool false) rfl ?_)
  show wpAny _ _ (field (.ref it) 1 >>= _) _ _ s'
  refine wpAny_bind (wpAny_field hi' rfl (x := .str x0 t0) rfl ?_)
  refine wpAny_bind (wpAny_holding (eqBool_str ?_))
  by_cases e : x0 = y
  · have e' : (x0 == y) = true := beq_iff_eq.mpr e
    rw [e', if_neg (by decide)]
    refine wpAny_bind (wpAny_rule ?_)
    show wpAny _ _ ((field (.ref it) 0 >>= fun v => slotLetsGo _ v _ >>= _) >>= _) _ _ s'
    refine wpAny_bind (wpAny_bind (wpAny_field hi' rfl (x := .ref q) rfl ?_))
    unfold slotLetsGo
    refine wpAny_bind (wpAny_bind (borrows_method hq' hg' hf ?_))
    rw [if_pos rfl]
    refine wpAny_pure ?_
    refine wpAny_bind (wpAny_setField_rec hi' (by simp) fun ha ga sa => ?_)
    refine wpAny_bind (wpAny_setField_rec ga (by simp) fun hb gb sb => ?_)
    refine wpAny_setField_rec gb (by simp) fun hd gd sd => ?_
    show wpAny _ _ (newExc (.type "StopIteration") [] >>= _) _ _ _
    refine wpAny_bind ?_
    simp only [newExc, newTuple]
    refine wpAny_bind (wpAny_newObj_type ?_ (by size_fits))
    refine wpAny_bind (m := firstArgMember _ _) (wpAny_of_eq (a := Value.none) (by first | rfl | (simp only [firstArgMember]; rfl)) ?_)
    refine wpAny_newObj_type ?_ (by size_fits)
    simp only [raiseNew]
    refine wpAny_bind (wpAny_handled ?_)
    rw [show A.in1.handled = none from hh]
    refine wpAny_bind (wpAny_pure (wpAny_throw ?_))
    refine wpAny_bind (wpAny_isInstance (T := "StopIteration") (b := true) ⟨_, Heap.get?_push_size _ rfl, rfl⟩ isSubtype_stop ?_)
    refine wpAny_pure (h2 e _ (fun b o hb he => ?_) ?_)
    · exact Heap.get?_push_of_some _ (Heap.get?_push_of_some _ (sd.extBut _ _ hb (sb.extBut _ _ hb (sa.extBut _ _ hb he))))
    · exact Heap.get?_push_of_some _ (Heap.get?_push_of_some _ gd)
  · have e' : (x0 == y) = false := beq_eq_false_iff_ne.mpr e
    rw [e', if_pos (by decide)]
    exact wpAny_pure ⟨_, rfl, wpAny_pure (h1 e)⟩

theorem ci_done {it : Addr} {Q : Option Value → Shared → Prop} (hh : A.handled = none) (hi : s.heap.get? it = some (ciObj .none .none true))
    (h : ∀ h', (∀ b o, s.heap.get? b = some o → h'.get? b = some o) → Q none { s with heap := h' }) : wpAny (model prog w) A (pyNext (.ref it)) Q E s := by
  have hT : s.TypeIs (.ref it) "callable_iterator" := ⟨_, hi, rfl⟩
  unfold pyNext
  refine wpAny_bind (wpAny_attempt (wpAny_callSpecial?_slot (name := Str.ofString "__next__") hT slot_ci_next
    (wpAny_call_entry slot_ci_next hT entry_ci_next ?_ (args_ci_next _))))
  show wpAny _ _ (field (.ref it) 2 >>= _) _ _ s
  refine wpAny_bind (wpAny_field hi rfl (x := .bool true) rfl ?_)
  refine wpAny_bind (wpAny_rule ?_)
  show wpAny _ _ ((newExc (.type "StopIteration") [] >>= _) >>= _) _ _ _
  refine wpAny_bind (wpAny_bind ?_)
  simp only [newExc, newTuple]
  refine wpAny_bind (wpAny_newObj_type ?_ (by size_fits))
  refine wpAny_bind (m := firstArgMember _ _) (wpAny_of_eq (a := Value.none) (by first | rfl | (simp only [firstArgMember]; rfl)) ?_)
  refine wpAny_newObj_type ?_ (by size_fits)
  simp only [raiseNew]
  refine wpAny_bind (wpAny_handled ?_)
  rw [show A.in1.handled = none from hh]
  refine wpAny_bind (wpAny_pure (wpAny_throw ?_))
  refine wpAny_bind (wpAny_isInstance (T := "StopIteration") (b := true) ⟨_, Heap.get?_push_size _ rfl, rfl⟩ isSubtype_stop ?_)
  exact wpAny_pure (h _ fun b o he => Heap.get?_push_of_some _ (Heap.get?_push_of_some _ he))

theorem iter2_K {h₀ : Heap} {L : Addr} {m : Str → Option Value} {news : List (Addr × Obj)} {q : Addr} {f self snt : Value} {Q : Value → Shared → Prop} (F : Fr h₀ L s.heap m) (N : News h₀ L s.heap news) (hm : (q, methodObj f self) ∈ news)
    (h : ∀ it h', Fr h₀ L h' m → News h₀ L h' ((it, ciObj (.ref q) snt false) :: news) → (∀ p ∈ news, p.1 < it) → Q (.ref it) { s with heap := h' }) :
    wpAny (model prog w) A (call (.builtin "iter") [.ref q, snt]) Q E s := by
  refine call_function_entry (by decide +kernel) (by decide +kernel) entry_iter (args_iter2 _ _) ?_
  unfold Builtin.«iter»
  refine wpAny_bind (m := someArgs "iter" 1 2 _) (wpAny_of_eq (a := [Value.ref q, snt]) (by first | rfl | kernel_rfl!) ?_)
  dsimp only
  refine wpAny_bind (wpAny_specialOf (name := Str.ofString "__call__") ⟨_, (N _ hm).1, rfl⟩ slot_method_call.lookup ?_)
  refine wpAny_ite_split (fun hab => absurd hab (by decide)) (fun _ => ?_)
  refine wpAny_bind (wpAny_rule (wpAny_bind (wpAny_newObj_type ?_)))
  refine wpAny_pure ⟨_, rfl, h _ _ (F.push _) (fun p hp => ?_) (fun p hp => Heap.lt_size (N p hp).1)⟩
  rcases List.mem_cons.mp hp with rfl | hp
  · exact ⟨Heap.get?_push_size _ rfl, Nat.ne_of_gt F.ns.lt, none_at_size F⟩
  · exact ⟨Heap.get?_push_of_some _ (N p hp).1, (N p hp).2⟩
end
end Mine
end
section
open PySem PySem.W PySem.Spec PySem.Calls PyProof.Rows
set_option Elab.async false
set_option maxRecDepth 100000
namespace Mine
section
variable {prog : Program} {w : World} {A : Around} {E : Value → Shared → Prop} {s : Shared} {env : Env}

def TurnEnd (I : Nat → Shared → Prop) (Q : Flow → Shared → Prop) (n : Nat) (f : Flow) (s₃ : Shared) : Prop := match f with
  | .next => ∃ k, k < n ∧ I k s₃
  | .cont => ∃ k, k < n ∧ I k s₃
  | .brk => Q .next s₃
  | .ret v => Q (.ret v) s₃
def TurnOf (prog : Program) (w : World) (A : Around) (E : Value → Shared → Prop) (env : Env) (x : Str) (body : List Stmt) (I : Nat → Shared → Prop) (Q : Flow → Shared → Prop) (n : Nat) (r : Option Value) (s₁ : Shared) : Prop := match r with
  | none => Q .next s₁
  | some v => wpAny (model prog w) A (storeName env x v) (fun _ s₂ => wpAny (model prog w) A (execs body env) (TurnEnd I Q n) E s₂) E s₁

/-- a for over an iterator that stands, by an invariant with a measure -/
theorem for_inv {x : Str} {px pos : Pos} {iter : Expr} {body : List Stmt} {Q : Flow → Shared → Prop} (J : Addr) (n : Nat) (I : Nat → Shared → Prop)
    (h : wpAny (model prog w) A (eval iter env) (fun xv s₁ => wpAny (model prog w) A (pyIter xv) (fun it s₂ => it = .ref J ∧ I n s₂) E s₁) E s)
    (turn : ∀ n s, I n s → wpAny (model prog w) A (pyNext (.ref J)) (TurnOf prog w A E env x body I Q n) E s)
    (hE : PassesOwn (model prog w) A env E) (hs : ∀ x, foldedSetIterable iter env x = pure x := by intro _; rfl) :
    wpAny (model prog w) A (exec (.For (.Name x px) iter body [] pos) env) Q E s := by
  refine wpAny_For (wpAny_mono h (fun xv s₁ h₁ => wpAny_mono h₁ (fun it s₂ h₂ => ?_) fun _ _ z => z) fun _ _ z => z) hs
  obtain ⟨rfl, h₂⟩ := h₂
  refine codeAny_forLoop (R := fun r s' => match r with | .ok f => Q f s' | .error e => cameBackBy (model prog w) A env E e s') I ?_ n h₂
  intro k s' hk
  refine wpAny_passesOwn hE (wpAny_mono (turn k s' hk) (fun r s₁ hr => ?_) fun _ _ z => z)
  cases r with
  | none => exact wpAny_execs_nil hr
  | some y =>
    refine wpAny_passesOwn hE (wpAny_assign_Name (wpAny_mono hr (fun _ s₂ h₂ => ?_) fun _ _ z => z))
    refine wpAny_passesOwn hE (wpAny_mono h₂ (fun f s₃ h₃ => ?_) fun _ _ z => z)
    cases f with
    | next => exact h₃
    | cont => exact h₃
    | brk => exact h₃
    | ret _ => exact h₃
end
section
variable {prog : Program} {w : World} {A : Around} {E : Value → Shared → Prop} {s : Shared} {env : Env} {h₀ : Heap} {x : Str} {body : List Stmt} {Q : Flow → Shared → Prop} {target : Expr} {m : Str → Option Value} {news : List (Addr × Obj)}
theorem AllObj.mono' : ∀ {ws : List (Addr × String)} {k k' : List (Addr × Obj) → Prop}, (∀ its, k its → k' its) → AllObj ws k → AllObj ws k'
  | [], _, _, f, h => f _ h
  | _ :: _, _, _, f, h => fun o ho => AllObj.mono' (fun _ => f _) (h o ho)
theorem UnrPostW.mono' {L : Addr} {s₁ s₂ : Shared} {its : List (Addr × Obj)} {r r' : (Str → Option Value) → List (Addr × Obj) → Prop} {f : Flow} (hr : ∀ m nw, r m nw → r' m nw) (h : UnrPostW h₀ L s₁ its r Q f s₂) : UnrPostW h₀ L s₁ its r' Q f s₂ := by
  cases f with
  | ret v => exact h
  | brk => exact h
  | next => obtain ⟨h', tk, m', nw, e, F, N, o, z⟩ := h; exact ⟨h', tk, m', nw, e, F, N, o, hr _ _ z⟩
  | cont => obtain ⟨h', tk, m', nw, e, F, N, o, z⟩ := h; exact ⟨h', tk, m', nw, e, F, N, o, hr _ _ z⟩
theorem UnrPost.mono' {L I : Addr} {it : Obj} {s₁ s₂ : Shared} {r r' : (Str → Option Value) → List (Addr × Obj) → Prop} {f : Flow} (hr : ∀ m nw, r m nw → r' m nw) (h : UnrPost h₀ L s₁ I it r Q f s₂) : UnrPost h₀ L s₁ I it r' Q f s₂ := by
  cases f with
  | ret v => exact h
  | brk => exact h
  | next => obtain ⟨h', tk, m', nw, e, F, N, o, z⟩ := h; exact ⟨h', tk, m', nw, e, F, N, o, hr _ _ z⟩
  | cont => obtain ⟨h', tk, m', nw, e, F, N, o, z⟩ := h; exact ⟨h', tk, m', nw, e, F, N, o, hr _ _ z⟩
/-- a for over a list or a tuple, by an invariant over the frame's names and the ledger -/
theorem items_inv {ws : List (Addr × String)} {keep : List (Addr × Obj)} {vs : List Value} (Inv : Nat → (Str → Option Value) → List (Addr × Obj) → Prop) (h0 : Inv 0 m news)
    (H : ∀ i v m nw h tk, vs[i]? = some v → Inv i m nw → Fr h₀ env.locals h m → AllObj ws (fun its => News h₀ env.locals h (its ++ nw) →
      wpAny (model prog w) A (assign target env v) (fun _ s₂ => wpAny (model prog w) A (execs body env) (UnrPostW h₀ env.locals { s with heap := h, toks := tk } its (fun m' n' => SubL keep n' ∧ Inv (i + 1) m' n') Q) E s₂) E { s with heap := h, toks := tk }))
    (fin : ∀ m nw h tk, Inv vs.length m nw → Fr h₀ env.locals h m → News h₀ env.locals h nw → Q .next { s with heap := h, toks := tk }) :
    ItemsRest prog w A E h₀ env target body Q s ws keep (vs.map .val) m news := by
  have key : ∀ (r : List Value) i m nw, i + r.length = vs.length → (∀ j v, r[j]? = some v → vs[i + j]? = some v) → Inv i m nw → ItemsRest prog w A E h₀ env target body Q s ws keep (r.map .val) m nw := by
    intro r
    induction r with
    | nil =>
      intro i m nw e _ hi
      exact ItemsRest.zero fun h tk F N => fin m nw h tk (by rw [← e, List.length_nil, Nat.add_zero]; exact hi) F N
    | cons v r ih =>
      intro i m nw e hv hi
      refine ItemsRest.val fun h tk F => AllObj.mono' (fun its k N => ?_) (H i v m nw h tk (by simpa using hv 0 v rfl) hi F)
      refine wpAny_mono (k N) (fun _ s₂ h₂ => wpAny_mono h₂ (fun f s₃ h₃ => UnrPostW.mono' (fun m' nw' z => ?_) h₃) fun _ _ z => z) fun _ _ z => z
      refine ⟨z.1, ih (i + 1) m' nw' (by rw [List.length_cons] at e; omega) (fun j u hj => ?_) z.2⟩
      have := hv (j + 1) u (by simpa using hj)
      rw [← this]; congr 1; omega
  exact key vs 0 m news (by omega) (fun j v hj => by simpa using hj) h0
/-- a for over a range, by an invariant -/
theorem range_inv {I : Addr} {a : Int} {n : Nat} (Inv : Nat → (Str → Option Value) → List (Addr × Obj) → Prop) (h0 : Inv 0 m news)
    (H : ∀ i t m nw h tk, i < n → Inv i m nw → Fr h₀ env.locals h (fun y => if y = x then some (.int (a + (i : Int)) t) else m y) → News h₀ env.locals h ((I, itR (a + ((i + 1 : Nat) : Int)) ((n : Int) - ((i + 1 : Nat) : Int))) :: nw) →
      wpAny (model prog w) A (execs body env) (UnrPost h₀ env.locals { s with heap := h, toks := tk } I (itR (a + ((i + 1 : Nat) : Int)) ((n : Int) - ((i + 1 : Nat) : Int))) (fun m' n' => Inv (i + 1) m' n') Q) E { s with heap := h, toks := tk })
    (fin : ∀ m nw h tk, Inv n m nw → Fr h₀ env.locals h m → News h₀ env.locals h nw → Q .next { s with heap := h, toks := tk }) :
    RangeRest prog w A E h₀ env x body Q s I a n n 0 m news := by
  have key : ∀ k i m nw, i + k = n → Inv i m nw → RangeRest prog w A E h₀ env x body Q s I a n k i m nw := by
    intro k
    induction k with
    | zero =>
      intro i m nw e hi
      exact RangeRest.zero fun h tk F N => fin m nw h tk (by rw [← e, Nat.add_zero]; exact hi) F N
    | succ k ih =>
      intro i m nw e hi
      refine RangeRest.succ fun t h tk F N => ?_
      exact wpAny_mono (H i t m nw h tk (by omega) hi F N) (fun f s₃ h₃ => UnrPost.mono' (fun m' nw' z => ih (i + 1) m' nw' (by omega) z) h₃) fun _ _ z => z
  exact key n 0 m news (by omega) h0
end
end Mine
end
section
open PySem PySem.W PySem.Spec PySem.Calls PyProof.Rows
set_option Elab.async false
set_option maxRecDepth 100000
namespace Mine
section
variable {prog : Program} {w : World} {A : Around} {E : Value → Shared → Prop} {s : Shared} {h₀ : Heap} {L : Addr} {m : Str → Option Value} {env : Env} {elt : Expr} {x : Str} {scope : Scope} {cl : List (Str × Addr)}
  {S : List (Addr × Obj) → Prop} {P : Nat → Value → Prop} {Fin : List Value → List (Addr × Obj) → Prop} {news : List (Addr × Obj)}

/-- a comprehension's turns by an invariant over what was made so far and the ledger -/
theorem rest_inv (Inv : Nat → List Value → List (Addr × Obj) → Prop) {n : Nat} (h0 : Inv 0 [] news)
    (H : ∀ i ys nw v I oI C oC D m₂ h tk (E' : Value → Shared → Prop), i < n → Inv i ys nw → P i v → LCg.NsObj oC m₂ → m₂ x = some v → Fr h₀ L h m → News h₀ L h ((I, oI) :: (C, oC) :: (D, LCg.lst ys) :: nw) → LCg.Off3 I C D nw → ((@Ne Nat I C) ∧ (@Ne Nat I D) ∧ (@Ne Nat C D)) →
      wpAny (model prog w) A (eval elt (compEnvC scope cl C env)) (LCg.CompEnd h₀ L m { s with heap := h, toks := tk } I oI C oC D (LCg.lst ys) S (fun y nw' => Inv (i + 1) (ys ++ [y]) nw')) E' { s with heap := h, toks := tk })
    (fin : ∀ ys nw, Inv n ys nw → Fin ys nw) : LCg.CompRest prog w A h₀ L m env elt x scope cl s S P Fin n 0 [] news := by
  have key : ∀ k i ys nw, i + k = n → Inv i ys nw → LCg.CompRest prog w A h₀ L m env elt x scope cl s S P Fin k i ys nw := by
    intro k
    induction k with
    | zero =>
      intro i ys nw e hi
      exact LCg.CompRest.zero (fin ys nw (by rw [← e, Nat.add_zero]; exact hi))
    | succ k ih =>
      intro i ys nw e hi
      refine LCg.CompRest.succ ?_
      intro v I oI C oC D m₂ h tk E' hP hns hm F N off hne
      refine wpAny_mono (H i ys nw v I oI C oC D m₂ h tk E' (by omega) hi hP hns hm F N off hne) (fun y s₂ hy => ?_) fun _ _ z => z
      obtain ⟨h', tk', nw', e1, F', N', off', hS', hr⟩ := hy
      exact ⟨h', tk', nw', e1, F', N', off', hS', ih (i + 1) _ _ (by omega) hr⟩
  exact key n 0 [] news (by omega) h0

/-- the same with a test -/
theorem restT_inv {ct : Expr} (Inv : Nat → List Value → List (Addr × Obj) → Prop) {n : Nat} (h0 : Inv 0 [] news)
    (H : ∀ i ys nw v I oI C oC D m₂ h tk (E' : Value → Shared → Prop), i < n → Inv i ys nw → P i v → LCg.NsObj oC m₂ → m₂ x = some v → Fr h₀ L h m → News h₀ L h ((I, oI) :: (C, oC) :: (D, LCg.lst ys) :: nw) → LCg.Off3 I C D nw → ((@Ne Nat I C) ∧ (@Ne Nat I D) ∧ (@Ne Nat C D)) →
      wpAny (model prog w) A (isTrue ct (compEnvC scope cl C env) (eval ct (compEnvC scope cl C env))) (fun ok s' => if ok = true then
        wpAny (model prog w) A (eval elt (compEnvC scope cl C env)) (LCg.CompEnd h₀ L m { s with heap := h, toks := tk } I oI C oC D (LCg.lst ys) S (fun y nw' => Inv (i + 1) (ys ++ [y]) nw')) E' s'
        else LCg.CompEnd h₀ L m { s with heap := h, toks := tk } I oI C oC D (LCg.lst ys) S (fun _ nw' => Inv (i + 1) ys nw') Value.none s') E' { s with heap := h, toks := tk })
    (fin : ∀ ys nw, Inv n ys nw → Fin ys nw) : LCt.CompRestT prog w A h₀ L m env ct elt x scope cl s S P Fin n 0 [] news := by
  have key : ∀ k i ys nw, i + k = n → Inv i ys nw → LCt.CompRestT prog w A h₀ L m env ct elt x scope cl s S P Fin k i ys nw := by
    intro k
    induction k with
    | zero =>
      intro i ys nw e hi
      exact LCt.CompRestT.zero (fin ys nw (by rw [← e, Nat.add_zero]; exact hi))
    | succ k ih =>
      intro i ys nw e hi
      refine LCt.CompRestT.succ ?_
      intro v I oI C oC D m₂ h tk E' hP hns hm F N off hne
      refine wpAny_mono (H i ys nw v I oI C oC D m₂ h tk E' (by omega) hi hP hns hm F N off hne) (fun ok s₂ hy => ?_) fun _ _ z => z
      cases ok with
      | true =>
        simp only [if_true] at hy ⊢
        refine wpAny_mono hy (fun y s₃ hz => ?_) fun _ _ z => z
        obtain ⟨h', tk', nw', e1, F', N', off', hS', hr⟩ := hz
        exact ⟨h', tk', nw', e1, F', N', off', hS', ih (i + 1) _ _ (by omega) hr⟩
      | false =>
        simp only [Bool.false_eq_true, if_false] at hy ⊢
        obtain ⟨h', tk', nw', e1, F', N', off', hS', hr⟩ := hy
        exact ⟨h', tk', nw', e1, F', N', off', hS', ih (i + 1) _ _ (by omega) hr⟩
  exact key n 0 [] news (by omega) h0

/-- the same for pairs -/
theorem restP_inv {x₂ : Str} (Inv : Nat → List Value → List (Addr × Obj) → Prop) {n : Nat} (h0 : Inv 0 [] news)
    (H : ∀ i ys nw v, i < n → Inv i ys nw → P i v → ∃ (t : Addr) (ot : Obj) (v₁ v₂ : Value) (nt : Nat), v = .ref t ∧ (t, ot) ∈ nw ∧ ot.cls = .type "tuple" ∧ ot.data = .seq #[v₁, v₂] nt ∧
      ∀ I oI C oC D m₂ h tk (E' : Value → Shared → Prop), LCg.NsObj oC m₂ → m₂ x = some v₁ → m₂ x₂ = some v₂ → Fr h₀ L h m → News h₀ L h ((I, oI) :: (C, oC) :: (D, LCg.lst ys) :: nw) → LCg.Off3 I C D nw → ((@Ne Nat I C) ∧ (@Ne Nat I D) ∧ (@Ne Nat C D)) →
      wpAny (model prog w) A (eval elt (compEnvC scope cl C env)) (LCg.CompEnd h₀ L m { s with heap := h, toks := tk } I oI C oC D (LCg.lst ys) S (fun y nw' => Inv (i + 1) (ys ++ [y]) nw')) E' { s with heap := h, toks := tk })
    (fin : ∀ ys nw, Inv n ys nw → Fin ys nw) : LCp.CompRestP prog w A h₀ L m env elt x x₂ scope cl s S P Fin n 0 [] news := by
  have key : ∀ k i ys nw, i + k = n → Inv i ys nw → LCp.CompRestP prog w A h₀ L m env elt x x₂ scope cl s S P Fin k i ys nw := by
    intro k
    induction k with
    | zero =>
      intro i ys nw e hi
      exact LCp.CompRestP.zero (fin ys nw (by rw [← e, Nat.add_zero]; exact hi))
    | succ k ih =>
      intro i ys nw e hi
      refine LCp.CompRestP.succ ?_
      intro v hP
      obtain ⟨t, ot, v₁, v₂, nt, e1, e2, e3, e4, K⟩ := H i ys nw v (by omega) hi hP
      refine ⟨t, ot, v₁, v₂, nt, e1, e2, e3, e4, ?_⟩
      intro I oI C oC D m₂ h tk E' hns hm hm2 F N off hne
      refine wpAny_mono (K I oI C oC D m₂ h tk E' hns hm hm2 F N off hne) (fun y s₂ hy => ?_) fun _ _ z => z
      obtain ⟨h', tk', nw', e1, F', N', off', hS', hr⟩ := hy
      exact ⟨h', tk', nw', e1, F', N', off', hS', ih (i + 1) _ _ (by omega) hr⟩
  exact key n 0 [] news (by omega) h0

theorem str_st {I : Addr} {x : Str} {t : Tok} : ∀ i (h h' : Heap) (o : Obj) (nw : List (Addr × Obj)), h.IsStrIter I "str_ascii_iterator" x t i → h.get? I = some o → h'.get? I = some o → (∀ b o, h₀.get? b = some o → h'.get? b = some o) → News h₀ L h' nw → True → h'.IsStrIter I "str_ascii_iterator" x t i :=
  fun i h h' o nw st e e' _ _ _ => by
    obtain ⟨o', q, r⟩ := st
    rw [e] at q; cases q
    exact ⟨o, e', r⟩

/-- a list comprehension over a text's signs -/
theorem ListComp_S {iter : Expr} {px pos : Pos} {Q : Value → Shared → Prop} (_F₀ : Fr h₀ L s.heap m)
    (hclos : closureFor scope env = pure cl) (hcell : ∀ y ∈ scope.names, y.2 ≠ .cell) (hkind : scope.kind = .function)
    (hnames : ∀ y ∈ scope.names, y.2 = .local → scope.names.lookup y.1 = some .local) (hx : scope.names.lookup x = some .local)
    (h : wpAny (model prog w) A (eval iter env) (fun xv s₁ => ∃ y t news, xv = .str y t ∧ A.handled = none ∧ y.cps.all (· < 128) = true ∧ y.cps.size ≤ sizeLine ∧ Fr h₀ L s₁.heap m ∧ News h₀ L s₁.heap news ∧
      ∀ g, LCg.CompRest prog w A h₀ L m env elt x scope cl { s₁ with heap := g } (fun _ => True) (SignAt y) (LCg.FinE h₀ L m { s₁ with heap := g } Q) y.cps.size 0 [] news) E s)
    (hs : ∀ x, foldedSetIterable iter env x = pure x := by intro _; rfl) :
    wpAny (model prog w) A (eval (.ListComp elt [⟨.Name x px, iter, [], 0⟩] scope pos) env) Q E s := by
  rw [eval_ListComp]
  refine wpAny_comprehension_free (use := none) rfl hs hclos hkind hnames (wpAny_mono h (fun xv s₁ h₁ => ?_) fun _ _ e => e)
  obtain ⟨y, t, news, rfl, hh, ha, hsz, F, N, R⟩ := h₁
  refine wpAny_pyIter_ascii ha ?_
  refine LCg.block_U (Walks.strAscii hh _ y t) hsz (fun i h st => by obtain ⟨o, e, _⟩ := st; exact ⟨o, e⟩) str_st hcell hkind hx ⟨_, Heap.get?_push_size _ rfl, rfl, rfl⟩ (fun b hb => ?_)
    (F.keeps fun _ _ e => Heap.get?_push_of_some _ e) (N.grown fun _ _ e => Heap.get?_push_of_some _ e) (Nat.ne_of_lt F.ns.lt) (next_is_new F) (fun p hp => Nat.ne_of_lt (Heap.lt_size (N p hp).1)) trivial (R _) ?_
  · rw [List.mem_singleton.mp hb]
    show s₁.heap.objs.size < (s₁.heap.push _).objs.size
    rw [Heap.size_push]; exact Nat.lt_succ_self _
  · intro D C h tk m' ys news' F' N' o1 hn hC₀ hD₀ hCL hDL hCD offC fin
    refine ⟨m', hn, fun h'' hs'' => fin D h'' tk (F'.change hs'' hCL hC₀) (fun p hp => ?_) o1⟩
    refine ⟨hs''.extBut _ _ ?_ (N' p hp).1, (N' p hp).2⟩
    rcases List.mem_cons.mp hp with rfl | hp
    · exact Ne.symm hCD
    · exact offC p hp
/-- what a comprehension made lies apart from all that was there -/
theorem fresh_of {g h h0 : Heap} {L D : Addr} {o : Obj} {led rest : List (Addr × Obj)} (kg : ∀ b o, h0.get? b = some o → b ∉ led.map (·.1) → g.get? b = some o) (N : News g L h ((D, o) :: rest)) (off : LCg.Off1 D led) : ∀ (b : Nat) o', h0.get? b = some o' → b ≠ D := by
  intro b o' e q
  have mem : ∀ {l : List (Addr × Obj)}, LCg.Off1 D l → D ∉ l.map (·.1) := by
    intro l
    induction l with
    | nil => intro _ h; cases h
    | cons p r ih =>
      intro x h
      rcases List.mem_cons.mp h with z | z
      · exact x.1 z.symm
      · exact ih x.2 z
  have e' : h0.get? D = some o' := q ▸ e
  have := kg D o' e' (mem off)
  rw [(N _ List.mem_cons_self).2.2] at this
  cases this
end
end Mine
end
section
open PySem PySem.W PySem.Spec PySem.Calls PyProof.Rows
set_option Elab.async false
set_option maxRecDepth 100000
namespace Mine
/-! the two patterns of wsgiref.headers: no sign of the words is barred -/
open PySem.Builtin PySem.Builtin.Re in
theorem slot_re_search : Slot "re.Pattern" "search" "re.Pattern.search" :=
  .of (owner := "re.Pattern") (n := "search") (by rw [typeLookup_type, builtinLookup_eq_fast]; kernel_rfl) (by decide +kernel) (by decide +kernel) (by decide +kernel)
    (by first | exact .inl (by decide +kernel) | exact .inr (by decide +kernel)) (by rw [isSubtype_type]; kernel_rfl)
theorem plainAttrs_re : PlainAttrs "re.Pattern" :=
  ⟨⟨"object.__getattribute__", by rw [typeLookup_type, builtinLookup_eq_fast]; kernel_rfl, by decide +kernel⟩, by rw [typeLookup_type, builtinLookup_eq_fast]; kernel_rfl⟩
theorem type_re_search : typeOf (.builtin "re.Pattern.search") = pure (.type "method_descriptor") := by show builtinType _ = _; rw [builtinType_eq_fast]; kernel_rfl
theorem entry_re_search : entryFor table "re.Pattern.search" = some Builtin.«re.Pattern.search» := entryFor_of_tree (by kernel_rfl)
theorem args_re_search (a b : Value) : argsOk "re.Pattern.search" ⟨[a, b], []⟩ := by unfold argsOk; kernel_rfl

noncomputable def reName : Array Nat := #[14, 10, 4, 1, 1, 22, 0, 31, 16, 127, 0, 13, 7, 22, 0, 31, 16, 127, 0, 1]
noncomputable def reValue : Array Nat := #[14, 14, 4, 1, 1, 9, 4294966783, 0, 0, 2147483648, 0, 0, 0, 0, 0, 13, 11, 9, 4294966783, 0, 0, 2147483648, 0, 0, 0, 0, 0, 1]
/-- signs that both patterns let pass -/
noncomputable def reOk (c : Nat) : Bool := (32 ≤ c) && (c < 127)
def RePass (code : Array Nat) : Prop := ∀ c, reOk c = true → ∀ seen, ∃ seen', Sre.inSet code c code.size 5 true seen = .ok (false, seen')
theorem pass_of (code : Array Nat) (h : ∀ c : Fin 127, 32 ≤ c.1 → ∀ seen, ∃ seen', Sre.inSet code c.1 code.size 5 true seen = .ok (false, seen')) : RePass code := by
  intro c hc
  unfold reOk at hc
  rw [Bool.and_eq_true, decide_eq_true_eq, decide_eq_true_eq] at hc
  exact h ⟨c, hc.2⟩ hc.1
theorem reName_pass : RePass reName := by
  intro c hc seen
  unfold reOk at hc
  rw [Bool.and_eq_true, decide_eq_true_eq, decide_eq_true_eq] at hc
  refine ⟨((seen.add 22).add 16).add 0, ?_⟩
  show (if (decide (0 ≤ c) && decide (c ≤ 31)) = true then _ else if (c == 127) = true then _ else _) = _
  rw [if_neg (by simp; omega), if_neg (by simp; omega)]
  rfl
theorem bits_none : ∀ c : Fin 127, 32 ≤ c.1 → (decide (c.1 < 256) && (reValue.getD (5 + (1 + c.1 / 32)) 0).testBit (c.1 % 32)) = false := by decide +kernel
theorem reValue_pass : RePass reValue := by
  intro c hc seen
  unfold reOk at hc
  rw [Bool.and_eq_true, decide_eq_true_eq, decide_eq_true_eq] at hc
  refine ⟨(seen.add 9).add 0, ?_⟩
  show (if (decide (c < 256) && (reValue.getD (5 + (1 + c / 32)) 0).testBit (c % 32)) = true then _ else _) = _
  rw [bits_none ⟨c, hc.2⟩ hc.1, if_neg (by decide)]
  rfl
theorem admitted_none {m : Sre.M} (hp : RePass m.code) (ht : ∀ c ∈ m.text.toList, reOk c = true) (hl : m.lim ≤ m.text.size) : ∀ fuel s seen, ∃ seen', Sre.M.admitted m fuel s seen = .ok (none, seen')
  | 0, _, seen => ⟨seen, rfl⟩
  | fuel + 1, s, seen => by
    unfold Sre.M.admitted
    split
    · exact ⟨seen, rfl⟩
    · rename_i hs
      have hs' : s < m.text.size := by omega
      obtain ⟨seen', e⟩ := hp (m.text.getD s 0) (ht _ (by
        rw [Array.getD, dif_pos hs']
        simp)) seen
      rw [e]
      exact admitted_none hp ht hl fuel (s + 1) seen'
structure ReCode (code : Array Nat) : Prop where
  pass : RePass code
  set : ∀ m : Sre.M, m.code = code → m.hasFirstSet = true
  least : (Sre.header code).1 = 1
theorem reName_code : ReCode reName := ⟨reName_pass, fun m h => by unfold Sre.M.hasFirstSet; rw [h]; rfl, rfl⟩
theorem reValue_code : ReCode reValue := ⟨reValue_pass, fun m h => by unfold Sre.M.hasFirstSet; rw [h]; rfl, rfl⟩
theorem search_says {code text : Array Nat} (hc : ReCode code) (ht : ∀ c ∈ text.toList, reOk c = true) :
    (Sre.forSearch code text 0 0 text.size false).answer = some false ∧ (Sre.forSearch code text 0 0 text.size false).frames = [] ∧ (Sre.forSearch code text 0 0 text.size false).outcome = none := by
  have key : ∀ m : Sre.M, m.code = code → m.text = text → m.lim = text.size → m.frames = [] → m.outcome = none → ((m.attemptFrom 0 true).answer = some false ∧ (m.attemptFrom 0 true).frames = [] ∧ (m.attemptFrom 0 true).outcome = none) := by
    intro m e1 e2 e3 e4 e5
    unfold Sre.M.attemptFrom
    rw [hc.set m e1]
    obtain ⟨seen', e⟩ := admitted_none (m := m) (by rw [e1]; exact hc.pass) (by rw [e2]; exact ht) (by rw [e2, e3]; exact Nat.le_refl _) (m.lim + 1 - 0) 0 m.seen
    rw [e]
    exact ⟨rfl, e4, e5⟩
  unfold Sre.forSearch
  dsimp only
  split
  · exact ⟨rfl, rfl, rfl⟩
  · exact key _ rfl rfl rfl rfl rfl

section
variable {prog : Program} {w : World} {A : Around} {E : Value → Shared → Prop} {s : Shared}
theorem runFor_done (m : Sre.M) (h1 : m.answer = some false) (h2 : m.frames = []) (h3 : m.outcome = none) : (m.runFor 4).outcome = some .failed := by
  have e : m.step = { m with outcome := some .failed } := by
    unfold Sre.M.step
    rw [h3, h1, h2]
    rfl
  unfold Sre.M.runFor
  rw [h3, if_neg (by decide), e]
  unfold Sre.M.runFor
  rfl
theorem drive_done (m : Sre.M) (h1 : m.answer = some false) (h2 : m.frames = []) (h3 : m.outcome = none) : ∀ k, Builtin.Re.reDrive (k + 1) m = pure (m.runFor 4) := by
  intro k
  have e := runFor_done m h1 h2 h3
  show (if (m.runFor 4).outcome.isSome = true then pure (m.runFor 4) else _) = _
  rw [e]
  rfl
theorem run_none (m : Sre.M) (h1 : m.answer = some false) (h2 : m.frames = []) (h3 : m.outcome = none) {Q : Option Sre.M → Shared → Prop} (h : Q none s) : wpAny (model prog w) A (Builtin.Re.reRunToEnd m) Q E s := by
  have e := runFor_done m h1 h2 h3
  obtain ⟨k, hk⟩ : ∃ k, 2 ^ 64 = k + 1 := ⟨2 ^ 64 - 1, by decide⟩
  unfold Builtin.Re.reRunToEnd
  rw [hk, drive_done m h1 h2 h3 k]
  refine wpAny_bind (wpAny_pure ?_)
  refine wpAny_bind (wpAny_forIn_list _ (fun _ _ s' => s' = s) _ ?_ ?_ _ _ rfl)
  · rintro x rest b s' rfl
    split
    · exact wpAny_bind (wpAny_rule (wpAny_pure rfl))
    · exact wpAny_pure rfl
  · rintro b s' rfl
    rw [e]
    exact wpAny_pure h
theorem search_none {P T : Addr} {oP oT : Obj} {fs items : Array Value} {n : Nat} {x : Str} {t : Tok} {code : Array Nat} {Q : Value → Shared → Prop} (hP : s.heap.get? P = some oP) (hcl : oP.cls = .type "re.Pattern") (hd : oP.data = .fields fs)
    (h2 : fs.getD 2 .none = .int 0 0) (h5 : fs.getD 5 .none = .ref T) (h6 : fs.getD 6 .none = .int 0 0) (hT : s.heap.get? T = some oT) (hi : oT.data = .seq items n)
    (hcd : (items.map Builtin.Re.reRawOf).map (·.toNat) = code) (hc : ReCode code) (hx : x.cps.toList.all reOk = true) (hz : x.cps.size ≤ sizeLine)
    (h : Q .none s) : wpAny (model prog w) A (call (.builtin "re.Pattern.search") [.ref P, .str x t]) Q E s := by
  refine wpAny_call_entry slot_re_search ⟨_, hP, hcl⟩ entry_re_search ?_ (args_re_search _ _)
  unfold Builtin.«re.Pattern.search» Builtin.Re.reTarget
  dsimp only
  refine wpAny_bind ?_
  refine wpAny_bind (m := Builtin.Re.reNamed _ _ _ _ _ _) (wpAny_of_eq (a := [some (Value.str x t), none, none]) (by first | rfl | kernel_rfl!) ?_)
  dsimp only
  refine wpAny_bind (wpAny_pure ?_)
  refine wpAny_bind (wpAny_pure ?_)
  refine wpAny_bind (wpAny_fieldsOf hP hd ?_)
  refine wpAny_bind (m := Builtin.Re.reTextOf _) (wpAny_of_eq (a := (x.cps, 0)) rfl ?_)
  dsimp only
  rw [h6, h5, h2]
  refine wpAny_bind (m := Builtin.Re.reNoCollectionInside _ _) (wpAny_of_eq (a := ()) rfl ?_)
  unfold Builtin.Re.reRawItems
  refine wpAny_bind (wpAny_bind (wpAny_seqItems hT hi (wpAny_pure ?_)))
  refine wpAny_pure ?_
  dsimp only
  rw [show (some items).getD #[] = items from rfl, hcd, show min (Int.toNat 0) x.cps.size = 0 from Nat.zero_min _, show min (2 ^ 63 - 1 : Int).toNat x.cps.size = x.cps.size from by
    have := PySem.sizeLine_eq
    omega]
  unfold Builtin.Re.reAnswer
  obtain ⟨h1, h2, h3⟩ := search_says (text := x.cps) hc (List.all_eq_true.mp hx)
  refine wpAny_bind (run_none _ h1 h2 h3 ?_)
  exact wpAny_pure ⟨_, rfl, h⟩
theorem re_method {K : Frag} {P : Addr} {o : Obj} {pl : Sem Bool} {Q : Value × List Value → Shared → Prop} (X : K.In s.heap) (ho : K.lookup P = some o) (hc : o.cls = .type "re.Pattern") (hd : o.dict = none)
    (h : Q (.builtin "re.Pattern.search", [.ref P]) s) : wpAny (model prog w) A (getMethod (.ref P) (Str.ofString "search") pl) Q E s :=
  getMethod_builtin ⟨_, X _ _ ho, hc⟩ plainAttrs_re slot_re_search type_re_search (fun a e => by cases e; exact ⟨_, X _ _ ho, hd⟩) h
theorem re_search {K : Frag} {P T : Addr} {oP oT : Obj} {fs items : Array Value} {n : Nat} {x : Str} {t : Tok} {Q : Value → Shared → Prop} (X : K.In s.heap) (ho : K.lookup P = some oP) (hcl : oP.cls = .type "re.Pattern") (hd : oP.data = .fields fs)
    (h2 : fs.getD 2 .none = .int 0 0) (h5 : fs.getD 5 .none = .ref T) (h6 : fs.getD 6 .none = .int 0 0) (hT : K.lookup T = some oT) (hi : oT.data = .seq items n)
    (hc : ∃ code, ReCode code ∧ (items.toList.map Builtin.Re.reRawOf).map (·.toNat) = code.toList) (hx : x.cps.toList.all reOk = true) (hz : x.length ≤ sizeLine)
    (h : Q .none s) : wpAny (model prog w) A (call (.builtin "re.Pattern.search") [.ref P, .str x t]) Q E s :=
  by
  obtain ⟨code, hc, e⟩ := hc
  exact search_none (X _ _ ho) hcl hd h2 h5 h6 (X _ _ hT) hi (Array.ext' (by simpa using e)) hc hx hz h
theorem joinOne_K {D : Addr} {h₀ : Heap} {L : Addr} {news : List (Addr × Obj)} {vs : List Value} {sep x : Str} {t u : Tok} {n : Nat} {Q : Value → Shared → Prop} (N : News h₀ L s.heap news) (hm : (D, listOf vs.toArray n) ∈ news) (hs : vs = [.str x u]) (hz : x.length < 100000) (hp : sep.length < 1000)
    (h : ∀ t' k, Q (.str x t') { s with toks := k }) : wpAny (model prog w) A (call (.builtin "str.join") [.str sep t, .ref D]) Q E s := by
  subst hs
  refine join_list (items := #[.str x u]) (ys := [x]) ⟨_, (N _ hm).1, rfl, n, rfl⟩ (.cons _ _ .nil) ?_ fun t' k => ?_
  · simp only [List.map_cons, List.map_nil, List.sum_cons, List.sum_nil, List.length_cons, List.length_nil]; omega
  · rw [show Txt.join sep [x] = x from (StrLaws.glued_eq_join _ _).trans rfl]; exact h t' k
theorem tx_ok {y : List Nat} (h : y.all reOk = true) : (tx y).cps.toList.all reOk = true := h
theorem low_tx {y : List Nat} (ha : y.all reOk = true) : Txt.lower (tx y) = tx (y.map lowC) := by
  have hA : ∀ c ∈ (tx y).cps.toList, c < 128 := fun c hc => by
    have := List.all_eq_true.mp ha c hc
    unfold reOk at this
    rw [Bool.and_eq_true, decide_eq_true_eq, decide_eq_true_eq] at this
    omega
  rw [lower_ascii hA]
  apply Str.ext'
  apply Array.ext'
  simp only [Array.toList_map]
  refine List.map_congr_left fun c _ => ?_
  unfold lo1 lowC
  simp
theorem low_ok {y : List Nat} (ha : y.all reOk = true) : (y.map lowC).all reOk = true := by
  rw [List.all_map]
  refine List.all_eq_true.mpr fun c hc => ?_
  have := List.all_eq_true.mp ha c hc
  unfold reOk at this
  rw [Bool.and_eq_true, decide_eq_true_eq, decide_eq_true_eq] at this
  show reOk (lowC c) = true
  unfold reOk lowC
  split <;> (rw [Bool.and_eq_true, decide_eq_true_eq, decide_eq_true_eq]; omega)
theorem lower_tx {y : List Nat} {t : Tok} {Q : Value → Shared → Prop} (ha : y.all reOk = true) (hz : y.length ≤ sizeLine) (hz' : y.length < 100000) (h : ∀ t' k, Q (.str (tx (y.map lowC)) t') { s with toks := k }) : wpAny (model prog w) A (call (.builtin "str.lower") [.str (tx y) t]) Q E s := by
  refine SCL.lower (by rw [tx_len]; omega) fun _ => ?_
  rw [low_tx ha]
  exact h _ _
theorem tl_up {TL : List (Addr × Obj)} {hi e : Nat} (h : ∀ p ∈ TL, @LT.lt Nat _ p.1 hi) (hh : hi ≤ e) : ∀ p ∈ TL, p.1 ≠ e := fun p hp => Nat.ne_of_lt (Nat.lt_of_lt_of_le (h p hp) hh)
theorem tl_low {TL : List (Addr × Obj)} {lo e : Nat} (h : ∀ p ∈ TL, @LT.lt Nat _ lo p.1) (hh : e ≤ lo) : ∀ p ∈ TL, p.1 ≠ e := fun p hp => Ne.symm (Nat.ne_of_lt (Nat.lt_of_le_of_lt hh (h p hp)))
theorem allLt_mem {d : Addr} : ∀ {l : List (Addr × Obj)}, AllLt d l → ∀ p ∈ l, @LT.lt Nat _ p.1 d
  | [], _, _, h => nomatch h
  | _ :: _, x, p, h => by
    rcases List.mem_cons.mp h with rfl | h
    · exact x.1
    · exact allLt_mem x.2 p h
end
end Mine
end
section
open PySem PySem.W PySem.Spec PySem.Calls PyProof.Rows
set_option Elab.async false
set_option maxRecDepth 100000
namespace Mine
/-- a call whose binding makes one object: what was there stays -/
theorem peekA_keeps {α : Type} {K : Frag} {M : Model} {A : Around} {E : Value → Shared → Prop} {Q : α → Shared → Prop} {s : Shared} {h₀ : Heap} {L : Addr} {m : Str → Option Value} {news : List (Addr × Obj)} {o : Obj}
    (F : Fr h₀ L s.heap m) (N : News h₀ L s.heap news) (X : K.In s.heap) (hf : o.isFreed = false) :
    ∀ (t : Sem α) (g : Addr → Sem α), peekA K ⟨M.prog, M.w.params⟩ t = some (o, g) →
      (∀ h', Fr h₀ L h' m → News h₀ L h' ((s.heap.objs.size, o) :: news) → (∀ p ∈ news, p.1 < s.heap.objs.size) → (∀ b o, s.heap.get? b = some o → h'.get? b = some o) → wpAny M A (g s.heap.objs.size) Q E { s with heap := h' }) → wpAny M A t Q E s := by
  intro t
  induction t with
  | rule _ k ih => intro g e q Γ p hΓ; exact ih () g e q Γ p hΓ
  | point _ k ih => intro g e q Γ p hΓ; exact ih () g e q Γ p hΓ
  | ask k ih => intro g e q Γ p hΓ; exact ih _ g e q Γ p hΓ
  | load a _ k ih =>
    intro g e q Γ p hΓ
    simp only [peekA] at e
    split at e
    · rename_i ob ho; exact ⟨ob, X _ _ ho, ih ob g e q Γ p hΓ⟩
    · cases e
  | alloc ob k _ =>
    intro g e q
    have e : some (ob, k) = some (o, g) := e
    obtain ⟨e1, e2⟩ := Prod.mk.inj (Option.some.inj e)
    subst e1
    subst e2
    show wpAny M A (alloc ob >>= k) Q E s
    exact wpAny_bind (wpAny_alloc (q _ (F.push ob) (News.push F N ob hf) (fun p hp => Heap.lt_size (N p hp).1) fun _ _ e => Heap.get?_push_of_some _ e))
  | _ => intro g e; cases e
section
variable {prog : Program} {w : World} {A A₀ : Around} {s : Shared} {K : Frag} {L : Addr} {h₀ base : Heap} {m mg mb : Str → Option Value} {news : List (Addr × Obj)} {p : Program} {loose : List Str} {mean : ExcName → Option Value}
/-- codeK for a function that takes further keywords, called with none -/
theorem codeKM {env : Env} {outer : List Env} {R : Result → Shared → Prop} {name qual : Str} {params : Arguments} {body : List Stmt} {scope : Scope} {dV kV doc pm cdv ct oc : Value} {an od : Option Addr} {osl : Array (Option Value)} {f : Addr} {args : Args} {g₁ : Addr → Sem (List (Str × Value))} {binds : Addr → List (Str × Value)}
    (B : Below A₀ base outer h₀) (F : Fr h₀ L s.heap m) (X₀ : K.In h₀) (N : News h₀ L s.heap news) (T : Top p loose mean mg mb h₀) (hA : A.frames = some (env :: outer)) (hf : env.frame = some L) (hke : env.scope.kind = .function)
    (ho : K.lookup f = some ⟨oc, od, .func (fnOf name qual params body scope dV kV doc pm an cdv ct), osl⟩) (hcd : codeIn K cdv qual = true) (hroom : A.depth < recursionLimit)
    (hp : peekA K ⟨prog, w.params⟩ (bindArgs (fnOf name qual params body scope dV kV doc pm an cdv ct) args) = some (dictOf [] 0, g₁))
    (hk₁ : ∀ D, g₁ D = pure (binds D)) (hloc : ∀ D, ∀ y ∈ binds D, scope.names.lookup y.1 = some .local)
    (h : ∀ D ob g L' h₁ tk, (D == sysModules) = false → ob.IsDictOf (strKind prog w) [] → PyProof.V.FlatPairs PyData.str [] [] → (∀ b o, s.heap.get? b = some o → b ∉ news.map (·.1) → g.get? b = some o) → (∀ (b : Nat) o, s.heap.get? b = some o → @LT.lt Nat _ b L') → (∀ (b : Nat) o, s.heap.get? b = some o → @LT.lt Nat _ b D) → (∀ p ∈ news, p.1 < D) → Fr h₀ L g m → Fr g L' h₁ (fun y => (binds D).reverse.lookup y) → News g L' h₁ ((D, ob) :: news) → Below A base (env :: outer) g → K.In g → Top p loose mean mg mb g →
      wpAny (model prog w) (A.deeper (envOf qual scope L' f cdv)) (execs body (envOf qual scope L' f cdv))
        (fun fl s' => LeaveK h₀ L m g R (match fl with | .ret v => v | _ => .none) s')
        (fun e s' => wpAny (model prog w) (A.deeper (envOf qual scope L' f cdv)) (leaving (envOf qual scope L' f cdv) e) (fun _ s'' => R (.error e) s'') (fun e' s'' => R (.error e') s'') s')
        { s with heap := h₁, toks := tk })
    (hco : scope.isCoroutine = false) (hgen : scope.isGenerator = false) (hk : scope.kind = .function)
    (hcell : ∀ x ∈ scope.names, x.2 ≠ .cell) : codeAny (model prog w) A (.call (.ref f) args) R s := by
  refine codeAny_call_function (fd := fnOf name qual params body scope dV kV doc pm an cdv ct) (body := body) hroom ((X₀.keeps F.keep) _ _ ho) rfl hco hgen rfl (codeRec_of (X₀.keeps F.keep) hcd) ?_
  refine peekA_keeps (o := dictOf [] 0) F N (X₀.keeps F.keep) rfl _ g₁ hp fun h' F' N' l k => ?_
  rw [hk₁]
  refine wpAny_pure ?_
  obtain ⟨FG, BG, st, lv⟩ := groundX (s := { s with heap := h' }) (R := R) B F' N' hA hf hke
  refine wpAny_newFunctionEnv hcell (hloc _) (fun h₁ hns hsb => ⟨(T.nolimit.keeps F'.keep).fresh _ hsb, codeAny_func ?_⟩) hk
  have hk₁ : ∀ b o, h'.get? b = some o → h₁.get? b = some o := fun b o e => hsb.extBut b o (Nat.ne_of_lt (Heap.lt_size e)) (Heap.get?_push_of_some _ e)
  refine wpAny_mono (h s.heap.objs.size _ _ h'.objs.size h₁ _ (F.notModules (modules_low T.nolimit)) (kp_isDict s.toks 0 List.nodup_nil) PyProof.V.FlatPairs.nil (fun b o e q => hideAll_get _ (k b o e) (fun z => ?_)) (fun _ _ e => Heap.lt_size (k _ _ e)) (fun _ _ e => Heap.lt_size e) l FG ⟨hns, fun b o e => hk₁ b o (of_hideAll _ e), Nat.le_of_eq (hideAll_size _ _)⟩
    (fun p hp => ⟨hk₁ _ _ (N' p hp).1, Nat.ne_of_lt (Heap.lt_size (N' p hp).1), hideAll_none _ (List.mem_map_of_mem hp)⟩) BG (X₀.keeps st) (T.keeps st)) (fun fl s' hl => lv _ _ hl) fun _ _ y => y
  rcases List.mem_cons.mp z with z | z
  · have : b < s.heap.objs.size := Heap.lt_size e
    rw [z] at this
    exact Nat.lt_irrefl _ this
  · exact q z
end
def AllNe (d : Nat) : List Nat → Prop
  | [] => True
  | a :: r => @Ne Nat a d ∧ AllNe d r
theorem AllNe.notin {d : Nat} : ∀ {l : List Nat}, AllNe d l → d ∉ l
  | [], _, h => nomatch h
  | _ :: _, x, h => by
    rcases List.mem_cons.mp h with h | h
    · exact x.1 h.symm
    · exact AllNe.notin x.2 h
/-- a contract's part of a ledger, put back in its places -/
inductive Repl (ads : List Nat) : List (Addr × Obj) → List (Addr × Obj) → List (Addr × Obj) → Prop
  | nil : Repl ads [] [] []
  | hit {a : Addr} {o o' : Obj} {l s' l' : List (Addr × Obj)} : Repl ads l s' l' → Repl ads ((a, o) :: l) ((a, o') :: s') ((a, o') :: l')
  | miss {p : Addr × Obj} {l s' l' : List (Addr × Obj)} : p.1 ∉ ads → Repl ads l s' l' → Repl ads (p :: l) s' (p :: l')
  | tail {l : List (Addr × Obj)} : (∀ p ∈ l, p.1 ∉ ads) → Repl ads l [] l
theorem Repl.join {ads : List Nat} {h₀ h h' : Heap} {L : Addr} {l s' l' : List (Addr × Obj)} (r : Repl ads l s' l') (N : News h₀ L h l) (k : ∀ (b : Nat) o, h.get? b = some o → b ∉ ads → h'.get? b = some o) (N' : News h₀ L h' s') : News h₀ L h' l' := by
  induction r with
  | nil => exact N'
  | hit r ih =>
    intro p hp
    rcases List.mem_cons.mp hp with rfl | hp
    · exact N' _ List.mem_cons_self
    · exact ih (fun q hq => N q (List.mem_cons_of_mem _ hq)) (fun q hq => N' q (List.mem_cons_of_mem _ hq)) p hp
  | miss hn r ih =>
    intro p hp
    rcases List.mem_cons.mp hp with rfl | hp
    · exact ⟨k _ _ (N _ List.mem_cons_self).1 hn, (N _ List.mem_cons_self).2⟩
    · exact ih (fun q hq => N q (List.mem_cons_of_mem _ hq)) N' p hp
  | tail ha => exact fun p hp => ⟨k _ _ (N p hp).1 (ha p hp), (N p hp).2⟩
theorem repl_go {ads : List Nat} {h₀ h h' : Heap} {L : Addr} {l s' l' : List (Addr × Obj)} {G : Prop} (k : ∀ (b : Nat) o, h.get? b = some o → b ∉ ads → h'.get? b = some o) (N' : News h₀ L h' s') (N : News h₀ L h l) (r : Repl ads l s' l') (go : News h₀ L h' l' → G) : G := go (r.join N k N')
theorem repl_go0 {h₀ h h' : Heap} {L : Addr} {l : List (Addr × Obj)} {G : Prop} (k : ∀ (b : Nat) o, h.get? b = some o → h'.get? b = some o) (N : News h₀ L h l) (go : News h₀ L h' l → G) : G := go fun p hp => ⟨k _ _ (N p hp).1, (N p hp).2⟩
theorem subs_nil {l : List (Addr × Obj)} : ∀ p ∈ ([] : List (Addr × Obj)), p ∈ l := fun _ h => nomatch h
theorem subs_cons {x : Addr × Obj} {l r : List (Addr × Obj)} (h : x ∈ l) (k : ∀ p ∈ r, p ∈ l) : ∀ p ∈ x :: r, p ∈ l := List.forall_mem_cons.mpr ⟨h, k⟩
theorem sc_lt {x y : List Nat} : b2i (decide (y < x)) - b2i (decide (x < y)) = -1 ↔ x < y := by
  by_cases h1 : x < y
  · have h2 : ¬ y < x := List.lt_asymm h1
    rw [decide_eq_true h1, decide_eq_false h2]
    exact ⟨fun _ => h1, fun _ => rfl⟩
  · rw [decide_eq_false h1]
    refine ⟨fun h => ?_, fun h => absurd h h1⟩
    cases hd : decide (y < x) <;> (rw [hd] at h; exact absurd h (by decide))
theorem lt_of_not {x y : List Nat} (hn : x ≠ y) (h : ¬ x < y) : y < x := by
  rcases Decidable.em (y < x) with h2 | h2
  · exact h2
  · exact absurd (List.le_antisymm (List.not_lt.mp h2) (List.not_lt.mp h)) hn
theorem room1 {a d : Nat} (h : d + 20 < recursionLimit) (e : a = d + 1) : a + 10 < recursionLimit := by omega
theorem unit1 {a u : Nat} (k : Nat) (h : u + 200 < cLine) (e : a = u + k) (hk : k < 100) : a + 100 < cLine := by omega
end Mine
end
section
open PySem PySem.W PySem.Spec PySem.Calls PyProof.Rows PySem.SeqAt
set_option Elab.async false
set_option maxRecDepth 100000
namespace Mine
theorem strs_sameAll : ∀ ys zs : List (List Nat), PySem.Spec.sameAll ((ys.map tx).map PyData.str) ((zs.map tx).map PyData.str) = decide (ys = zs)
  | [], [] => by simp [PySem.Spec.sameAll]
  | [], _ :: _ => by simp [PySem.Spec.sameAll]
  | _ :: _, [] => by simp [PySem.Spec.sameAll]
  | a :: r, b :: t => by
    simp only [List.map_cons, PySem.Spec.sameAll, PySem.Spec.same, strs_sameAll r t]
    by_cases h : a = b
    · subst h; by_cases h' : r = t <;> simp [h']
    · have : tx a ≠ tx b := fun e => h (tx_inj e)
      by_cases h' : r = t <;> simp [h, h', this]
theorem strs_noMix : ∀ ys zs : List Str, noMixAll (ys.map PyData.str) (zs.map PyData.str) = true
  | [], [] => by simp [noMixAll]
  | [], _ :: _ => by simp [noMixAll]
  | _ :: _, [] => by simp [noMixAll]
  | _ :: r, _ :: q => by simp [noMixAll, noMix, strs_noMix r q]
theorem strOk_tx {y : List Nat} (h : y.all reOk = true) : PyData.strOk (tx y) = true := by
  unfold PyData.strOk
  rw [← Array.all_toList]
  show y.toArray.toList.all _ = true
  simp only [List.all_eq_true, decide_eq_true_eq] at h ⊢
  intro c hc
  have := h c (by simpa using hc)
  unfold reOk at this
  simp only [Bool.and_eq_true, decide_eq_true_eq] at this
  omega
theorem strs_shaped {ys : List (List Nat)} (h : ∀ y ∈ ys, y.all reOk = true) : SeqAt.shaped (.list ((ys.map tx).map PyData.str)) = true := by
  have e : (ys.map tx).all PyData.strOk = true := by
    rw [List.all_map, List.all_eq_true]
    exact fun y hy => strOk_tx (h y hy)
  unfold SeqAt.shaped
  simp only [PyData.canLay0, PyData.depth, canLayAll_strs', depthAll_strs', e, Bool.true_and]
  decide
theorem names1 {h₀ h : Heap} {L a : Addr} {o : Obj} {r : List (Addr × Obj)} (_ : News h₀ L h ((a, o) :: r)) : ∃ (a' : Addr) (o' : Obj), a' = a ∧ o' = o := ⟨_, _, rfl, rfl⟩
theorem names2 {h₀ h : Heap} {L a b : Addr} {o p : Obj} {r : List (Addr × Obj)} (_ : News h₀ L h ((a, o) :: (b, p) :: r)) : ∃ (a' : Addr) (o' : Obj) (b' : Addr) (p' : Obj), a' = a ∧ o' = o ∧ b' = b ∧ p' = p := ⟨_, _, _, _, rfl, rfl, rfl, rfl⟩
theorem names3 {h₀ h : Heap} {L a b c : Addr} {o p q : Obj} {r : List (Addr × Obj)} (_ : News h₀ L h ((a, o) :: (b, p) :: (c, q) :: r)) : ∃ (a' : Addr) (o' : Obj) (b' : Addr) (p' : Obj) (c' : Addr) (q' : Obj), a' = a ∧ o' = o ∧ b' = b ∧ p' = p ∧ c' = c ∧ q' = q := ⟨_, _, _, _, _, _, rfl, rfl, rfl, rfl, rfl, rfl⟩
/-- values that are texts, by their signs -/
def Txs (vs : List Value) (ys : List (List Nat)) : Prop := StrsAre vs (ys.map tx)
theorem Txs.nil : Txs [] [] := StrsAre.nil
theorem Txs.cons {y : List Nat} {t : Tok} {vs : List Value} {ys : List (List Nat)} (h : Txs vs ys) : Txs (.str (tx y) t :: vs) (y :: ys) := StrsAre.cons _ _ h
theorem Txs.append {vs us : List Value} {ys zs : List (List Nat)} (h : Txs vs ys) (h' : Txs us zs) : Txs (vs ++ us) (ys ++ zs) := by
  show StrsAre _ ((ys ++ zs).map tx)
  rw [List.map_append]; exact StrsAre.append' h h'
theorem Txs.length {vs : List Value} {ys : List (List Nat)} (h : Txs vs ys) : vs.length = ys.length := by
  rw [StrsAre.length h, List.length_map]
theorem Txs.reverse : ∀ {vs : List Value} {ys : List (List Nat)}, Txs vs ys → Txs vs.reverse ys.reverse
  | _, [], StrsAre.nil => Txs.nil
  | _, y :: ys, StrsAre.cons _ t h => by
    rw [List.reverse_cons, List.reverse_cons]
    exact (Txs.reverse (ys := ys) h).append (Txs.cons Txs.nil)
theorem Txs.at {vs : List Value} {ys : List (List Nat)} (h : Txs vs ys) {i : Nat} {v : Value} (e : vs[i]? = some v) : ∃ y t, ys[i]? = some y ∧ v = .str (tx y) t := by
  have hi : i < vs.length := (List.getElem?_eq_some_iff.mp e).1
  have hi' : i < ys.length := h.length ▸ hi
  obtain ⟨t, ht⟩ := StrsAre.get h i (tx ys[i]) (by rw [List.getElem?_map, List.getElem?_eq_getElem hi']; rfl)
  rw [e] at ht
  exact ⟨ys[i], t, List.getElem?_eq_getElem hi', Option.some.inj ht⟩
section
variable {prog : Program} {w : World} {A : Around} {E : Value → Shared → Prop} {s : Shared} {h₀ : Heap} {L a b : Addr} {m : Str → Option Value} {news : List (Addr × Obj)} {vs us : List Value} {ys zs : List (List Nat)} {Q : Value → Shared → Prop}
theorem eqS_K (ha : s.heap.IsList a vs.toArray) (hb : s.heap.IsList b us.toArray) (hi : Txs vs ys) (hj : Txs us zs) (oi : ∀ y ∈ ys, y.all reOk = true) (oj : ∀ y ∈ zs, y.all reOk = true) (hu : A.units + 64 < cLine) (h : Q (.bool (decide (ys = zs))) s) :
    wpAny (model prog w) A (compareOp .Eq (.ref a) (.ref b)) Q E s :=
  eq_dataH_same (reads_newData ha (StrsAre.carried hi)) (reads_newData hb (StrsAre.carried hj)) (strs_shaped oi) (strs_shaped oj) hu (by simp only [noMix]; exact strs_noMix _ _) (by simp only [PySem.Spec.same]; rw [strs_sameAll]; exact h)
theorem neS_K (ha : s.heap.IsList a vs.toArray) (hb : s.heap.IsList b us.toArray) (hi : Txs vs ys) (hj : Txs us zs) (oi : ∀ y ∈ ys, y.all reOk = true) (oj : ∀ y ∈ zs, y.all reOk = true) (hu : A.units + 64 < cLine) (h : Q (.bool (!decide (ys = zs))) s) :
    wpAny (model prog w) A (compareOp .NotEq (.ref a) (.ref b)) Q E s :=
  ne_dataH_same (reads_newData ha (StrsAre.carried hi)) (reads_newData hb (StrsAre.carried hj)) (strs_shaped oi) (strs_shaped oj) hu (by simp only [noMix]; exact strs_noMix _ _) (by simp only [PySem.Spec.same]; rw [strs_sameAll]; exact h)
theorem addL_K (F : Fr h₀ L s.heap m) (N : News h₀ L s.heap news) (ha : s.heap.IsList a vs.toArray) (hb : s.heap.IsList b us.toArray)
    (h : ∀ D h', Fr h₀ L h' m → News h₀ L h' ((D, listOf (vs ++ us).toArray 0) :: news) → (∀ p ∈ news, p.1 < D) → Q (.ref D) { s with heap := h' })
    (hz : vs.length + us.length ≤ sizeLine) : wpAny (model prog w) A (binaryOp .Add (.ref a) (.ref b)) Q E s :=
  add_lists F N ha hb (fun h' F' N' => h _ h' F' N' fun p hp => Heap.lt_size (N p hp).1) hz
theorem revS_K {value slice : Expr} {vk : Value} {ops : List Value} (F : Fr h₀ L s.heap m) (N : News h₀ L s.heap news) (hl : s.heap.IsList a vs.toArray) (pk : IsPart vk (some (-1)))
    (h : ∀ D h', Fr h₀ L h' m → News h₀ L h' ((D, listOf vs.reverse.toArray 0) :: news) → (∀ p ∈ news, p.1 < D) → Q (.ref D) { s with heap := h' })
    (hs : subscripted slice false (.ref a) (.ref s.heap.objs.size) = operate ops (getItem (.ref a) (.ref s.heap.objs.size))) (ht : ∀ r, letTemporaryGo value (.ref a) r = pure ()) (hz : vs.length ≤ sizeLine) :
    wpAny (model prog w) A (subscriptTail value slice (.ref a) (.ref s.heap.objs.size)) Q E { s with heap := s.heap.push { cls := .type "slice", data := .fields #[.none, .none, vk] } } :=
  krv_lit F N hl pk rfl h hs ht (by simpa using hz)
theorem itemS_K {value slice : Expr} {k : Int} {u : Tok} (hl : s.heap.IsList a vs.toArray) (hi : Txs vs ys) (h0 : 0 ≤ k) (hk : k < ys.length) (hz : ys.length ≤ sizeLine) (h : ∀ t', Q (.str (tx (ys.getD k.toNat [])) t') s)
    (hs : subscripted slice false (.ref a) (.int k u) = operate [.ref a, .int k u] (getItem (.ref a) (.int k u))) (hg : ∀ r, letTemporaryGo value (.ref a) r = pure ()) :
    wpAny (model prog w) A (subscriptTail value slice (.ref a) (.int k u)) Q E s := by
  have hb : sizeLine = 16777216 := PySem.sizeLine_eq
  refine item_strsA hl hi h0 (by rw [List.length_map]; exact hk) (by omega) (fun t' => ?_) hs hg
  have hk' : k.toNat < ys.length := by omega
  have e : (ys.map tx).getD k.toNat Str.empty = tx (ys.getD k.toNat []) := by
    simp [List.getD, hk']
  rw [e]; exact h t'
theorem beq_tx (y k : List Nat) : (tx y == tx k) = (y == k) := by
  by_cases h : y = k
  · subst h; simp
  · rw [beq_eq_false_iff_ne.mpr h, beq_eq_false_iff_ne.mpr fun e => h (tx_inj e)]
theorem count_tx (k : List Nat) : ∀ ys : List (List Nat), (ys.map tx).count (tx k) = ys.count k
  | [] => rfl
  | y :: r => by rw [List.map_cons, List.count_cons, List.count_cons, count_tx k r, beq_tx]
theorem countIn_tx (k : List Nat) (ys : List (List Nat)) : Spec.countIn (.str (tx k)) ((ys.map tx).map PyData.str) = ys.count k := by
  rw [cnt_strs, count_tx]
theorem isStr_at (k : Str) : ∀ {vs : List Value} {ns : List Str}, StrsAre vs ns → ∀ (j : Nat) (h1 : j < vs.length) (h2 : j < ns.length), isStrOf k vs[j] = (ns[j] == k)
  | _, _, .cons n t r, 0, _, _ => rfl
  | _, _, .cons n t r, j + 1, h1, h2 => isStr_at k r j (Nat.lt_of_succ_lt_succ h1) (Nat.lt_of_succ_lt_succ h2)
theorem ne_lt_idx {k : Str} : ∀ {ns : List Str} {j : Nat}, j < ns.idxOf k → ∀ (h2 : j < ns.length), (ns[j] == k) = false
  | n :: r, 0, h, _ => by
    by_cases e : n = k
    · subst e; simp at h
    · simpa using e
  | n :: r, j + 1, h, h2 => by
    by_cases e : n = k
    · subst e; simp at h
    · have hb : (n == k) = false := by simpa using e
      have h' : j < r.idxOf k := by
        rw [List.idxOf_cons, hb] at h
        exact Nat.lt_of_succ_lt_succ h
      exact ne_lt_idx h' (Nat.lt_of_succ_lt_succ h2)
theorem idxOf_tx (k : List Nat) : ∀ ys : List (List Nat), (ys.map tx).idxOf (tx k) = ys.idxOf k
  | [] => rfl
  | y :: r => by
    have e : (tx y == tx k) = (y == k) := by
      by_cases h : y = k
      · subst h; simp
      · rw [beq_eq_false_iff_ne.mpr h, beq_eq_false_iff_ne.mpr fun e => h (tx_inj e)]
    rw [List.map_cons, List.idxOf_cons, List.idxOf_cons, e, idxOf_tx k r]
theorem indexS_K {k : List Nat} {t : Tok} (hl : s.heap.IsList a vs.toArray) (hi : Txs vs ys) (hz : ys.length < 100000) (hk : k ∈ ys) (h : ∀ t' tk, Q (.int (ys.idxOf k : Nat) t') { s with toks := tk }) :
    wpAny (model prog w) A (call (.builtin "list.index") [.ref a, .str (tx k) t]) Q E s := by
  obtain ⟨⟨cls, dd, data, sl⟩, ho, hc, n, hd⟩ := id hl
  simp only at hc hd
  subst hc hd
  have hlen := hi.length
  have hj : ys.idxOf k < ys.length := List.idxOf_lt_length_iff.mpr hk
  refine call_meets PySem.F.slot_list_index ⟨_, ho, rfl⟩ PySem.F.entry_list_index (PySem.F.args_list_index_2 _ _)
    (list_indexAt a vs.toArray n dd sl (.str (tx k) t) (isStrOf (tx k)) (ys.idxOf k) (by simpa [hlen] using hj) (by simp; omega) ?_ ?_) ⟨ho, fun y hy => (eq_isStrOf (tx k) t hi y (by simpa using hy)).at _ _, h _ _⟩
  · show isStrOf (tx k) vs[ys.idxOf k] = true
    rw [isStr_at (tx k) hi _ (by omega) (by rw [List.length_map]; exact hj)]
    simp
  · intro j hjs hlt
    show isStrOf (tx k) vs[j] = false
    rw [isStr_at (tx k) hi j (by simpa using hjs) (by rw [List.length_map]; omega)]
    exact ne_lt_idx (by rw [idxOf_tx]; exact hlt) _
theorem countS_K {k : List Nat} {t : Tok} (hl : s.heap.IsList a vs.toArray) (hi : Txs vs ys) (h : ∀ t' tk, Q (.int (ys.count k : Nat) t') { s with toks := tk }) :
    wpAny (model prog w) A (call (.builtin "list.count") [.ref a, .str (tx k) t]) Q E s :=
  count_list_strs hl hi (by rw [countIn_tx]; exact h _ _)
/-- the least first, as sorted leaves them -/
def SortedL : List (List Nat) → Prop
  | [] => True
  | [_] => True
  | y :: z :: r => ¬ z < y ∧ SortedL (z :: r)
theorem sortedL_of : ∀ {zs : List (List Nat)}, sortedS (zs.map tx) = true → SortedL zs
  | [], _ => trivial
  | [_], _ => trivial
  | y :: z :: r, h => by
    have h : (!ltCps (tx z).cps.toList (tx y).cps.toList && risingS (tx z) (r.map tx)) = true := h
    rw [Bool.and_eq_true, Bool.not_eq_true', ltCps_eq, decide_eq_false_iff_not] at h
    exact ⟨h.1, sortedL_of (zs := z :: r) h.2⟩
theorem sum_le {f : List Nat → Nat} {k : Nat} : ∀ {ys : List (List Nat)}, (∀ y ∈ ys, f y ≤ k) → (ys.map f).sum ≤ ys.length * k
  | [], _ => Nat.zero_le _
  | y :: r, h => by
    have h1 := h y List.mem_cons_self
    have h2 := sum_le (ys := r) (fun z hz => h z (List.mem_cons_of_mem _ hz))
    rw [List.map_cons, List.sum_cons, List.length_cons, Nat.succ_mul]
    omega
theorem map_tx_of : ∀ {ss : List Str}, ∃ zs : List (List Nat), ss = zs.map tx
  | [] => ⟨[], rfl⟩
  | x :: r => by
    obtain ⟨zs, e⟩ := map_tx_of (ss := r)
    exact ⟨x.cps.toList :: zs, by rw [List.map_cons, ← e, ← tx_cps]⟩
theorem perm_tx {zs ys : List (List Nat)} (h : (zs.map tx).Perm (ys.map tx)) : zs.Perm ys := by
  have := h.map (fun x : Str => x.cps.toList)
  simpa [List.map_map, Function.comp_def] using this
theorem sortedS_K (F : Fr h₀ L s.heap m) (N : News h₀ L s.heap news) (hl : s.heap.IsList a vs.toArray) (hS : Txs vs ys) (oi : ∀ y ∈ ys, y.all reOk = true ∧ y.length < 1000) (h64 : ys.length < 64)
    (h : ∀ D h' us zs e, Fr h₀ L h' m → News h₀ L h' ((D, listOf (List.toArray us) e) :: news) → (∀ p ∈ news, p.1 < D) → Txs us zs → zs.Perm ys → SortedL zs → Q (.ref D) { s with heap := h' }) :
    wpAny (model prog w) A (call (.builtin "sorted") [.ref a]) Q E s := by
  refine sorted_N2_str F N hl hS ?_ (by rw [hS.length]; exact h64) fun h' vs' ss' e F' N' _ hS' _ _ _ hp hs => ?_
  · have e1 : (ys.map tx).all PyData.strOk = true := by
      rw [List.all_map, List.all_eq_true]
      exact fun y hy => strOk_tx (oi y hy).1
    have e2 : ((ys.map tx).map fun x => x.cps.size + 1).sum ≤ ys.length * 1000 := by
      rw [List.map_map]
      refine sum_le fun y hy => ?_
      have := (oi y hy).2
      show (tx y).cps.size + 1 ≤ _
      have e := tx_len y
      have e' : (tx y).cps.size = y.length := e
      omega
    simp only [PyData.layable0, PyData.canLay0, canLayAll_strs', PyData.depth, depthAll_strs', PyData.weight, weightAll_strs', e1, Bool.and_eq_true, decide_eq_true_eq, Bool.true_and]
    omega
  · obtain ⟨zs, rfl⟩ := map_tx_of (ss := ss')
    exact h _ h' vs' zs e F' N' (fun p hp => Nat.lt_succ_of_lt (Heap.lt_size (N p hp).1)) hS' (perm_tx hp) (sortedL_of hs)
end
end Mine
end
section
open PySem PySem.W PySem.Spec PySem.Calls PyProof.Rows PySem.SeqAt PyProof PySem.Builtin.Str
namespace Mine
theorem kept_all {h₀ h0 g h' : Heap} {L L' : Addr} {led led' : List (Addr × Obj)} (N : News h₀ L h0 led) (N' : News g L' h' led') (sub : ∀ p ∈ led, p ∈ led') (k : ∀ (b : Nat) o, h0.get? b = some o → b ∉ led.map (·.1) → h'.get? b = some o) : ∀ (b : Nat) o, h0.get? b = some o → h'.get? b = some o := by
  intro b o e
  by_cases hb : b ∈ led.map (·.1)
  · obtain ⟨p, hp, rfl⟩ := List.mem_map.mp hb
    have e2 := (N p hp).1
    have e3 : h0.get? p.1 = some o := e
    rw [e2] at e3
    rw [← Option.some.inj e3]
    exact (N' p (sub p hp)).1
  · exact k b o e hb
theorem fresh_all {h0 g h' : Heap} {L' D : Addr} {o' : Obj} {led r : List (Addr × Obj)} (N' : News g L' h' ((D, o') :: r)) (kg : ∀ (b : Nat) o, h0.get? b = some o → b ∉ led.map (·.1) → g.get? b = some o) (hD : D ∉ led.map (·.1)) : ∀ (b : Nat) o, h0.get? b = some o → b ≠ D := by
  rintro b o e rfl
  have := kg _ _ e hD
  rw [(N' _ List.mem_cons_self).2.2] at this
  cases this
def AllLe (lo : Nat) : List Nat → Prop
  | [] => True
  | a :: r => @LE.le Nat _ a lo ∧ AllLe lo r
theorem AllLe.at {lo : Nat} : ∀ {l : List Nat}, AllLe lo l → ∀ a ∈ l, a ≤ lo
  | _ :: _, x, a, h => by
    rcases List.mem_cons.mp h with rfl | h
    · exact x.1
    · exact AllLe.at x.2 a h
theorem tl_off {TL : List (Addr × Obj)} {lo : Nat} {ads : List Nat} (h : ∀ p ∈ TL, @LT.lt Nat _ lo p.1) (k : AllLe lo ads) : ∀ p ∈ TL, p.1 ∉ ads := fun p hp hq => Nat.lt_irrefl _ (Nat.lt_of_lt_of_le (h p hp) (k.at _ hq))
theorem sc_zero {x y : List Nat} : b2i (decide (y < x)) - b2i (decide (x < y)) = 0 ↔ x = y := by
  constructor
  · intro h
    by_cases h1 : x < y
    · rw [decide_eq_true h1, decide_eq_false (List.lt_asymm h1)] at h
      exact absurd h (by decide)
    · by_cases h2 : y < x
      · rw [decide_eq_true h2, decide_eq_false h1] at h
        exact absurd h (by decide)
      · exact List.le_antisymm (List.not_lt.mp h2) (List.not_lt.mp h1)
  · rintro rfl
    omega
/-- what _strcoll tells -/
noncomputable def scI (x y : List Nat) : Int := b2i (decide (y < x)) - b2i (decide (x < y))
theorem slice_to1 (c : Nat) (y : List Nat) : PySem.Txt.slice (tx (c :: y)) none (some 1) = tx [c] := by
  unfold PySem.Txt.slice
  have e : strSliceIndices none (some 1) 1 (tx (c :: y)).length = [0] := by
    rw [tx_len]
    unfold strSliceIndices sliceRange
    simp
    have e1 : max (0 : Int) (min 1 (↑y.length + 1)) = 1 := by omega
    rw [e1]; rfl
  rw [e]
  cases y with
  | nil => rfl
  | cons d r =>
    rw [if_neg (by rw [tx_len]; simp)]
    rfl
theorem slice_from1 (c : Nat) (y : List Nat) : PySem.Txt.slice (tx (c :: y)) (some 1) none = tx y := by
  unfold PySem.Txt.slice
  have e : strSliceIndices (some 1) none 1 (tx (c :: y)).length = (List.range y.length).map (1 + ·) := by
    rw [tx_len]
    unfold strSliceIndices sliceRange
    simp
    have e1 : max (0 : Int) (min 1 (↑y.length + 1)) = 1 := by omega
    rw [e1]
    have e2 : (if (1 : Int) < ↑y.length + 1 then (↑y.length : Int) + 1 - 1 else 0).toNat = y.length := by split <;> omega
    rw [e2]
    apply List.map_congr_left
    intro k _
    omega
  rw [e, if_neg (by rw [tx_len]; simp), pick_run (tx (c :: y)).cps 1 y.length]
  show Str.mk ((c :: y).toArray.toList.drop 1 |>.take y.length).toArray = _
  simp
section
variable {prog : Program} {w : World} {A : Around} {E : Value → Shared → Prop} {s : Shared} {h₀ : Heap} {L : Addr} {m : Str → Option Value} {news : List (Addr × Obj)} {value slice : Expr} {c : Nat} {y : List Nat} {t : Tok} {Q : Value → Shared → Prop}
theorem to1_K {u : Tok} (hF : Fr h₀ L s.heap m) (hN : News h₀ L s.heap news) (h : ∀ h' t' k, Fr h₀ L h' m → News h₀ L h' news → Q (.str (tx [c]) t') { s with heap := h', toks := k })
    (hs : subscripted slice false (.str (tx (c :: y)) t) (.ref s.heap.objs.size) = operate [.ref s.heap.objs.size, .str (tx (c :: y)) t] (getItem (.str (tx (c :: y)) t) (.ref s.heap.objs.size)))
    (ht : ∀ r, letTemporaryGo value (.str (tx (c :: y)) t) r = pure ()) (hsz : y.length + 1 ≤ sizeLine) :
    wpAny (model prog w) A (subscriptTail value slice (.str (tx (c :: y)) t) (.ref s.heap.objs.size)) Q E { s with heap := s.heap.push { cls := .type "slice", data := .fields #[.none, .int 1 u, .none] } } :=
  slice_strN_ns hF hN (fun h' t' k F' N' => by rw [slice_to1]; exact h h' t' k F' N') hs ht (by rw [tx_len]; exact hsz)
theorem from1_K {u : Tok} (hF : Fr h₀ L s.heap m) (hN : News h₀ L s.heap news) (h : ∀ h' t' k, Fr h₀ L h' m → News h₀ L h' news → Q (.str (tx y) t') { s with heap := h', toks := k })
    (hs : subscripted slice false (.str (tx (c :: y)) t) (.ref s.heap.objs.size) = operate [.ref s.heap.objs.size, .str (tx (c :: y)) t] (getItem (.str (tx (c :: y)) t) (.ref s.heap.objs.size)))
    (ht : ∀ r, letTemporaryGo value (.str (tx (c :: y)) t) r = pure ()) (hsz : y.length + 1 ≤ sizeLine) :
    wpAny (model prog w) A (subscriptTail value slice (.str (tx (c :: y)) t) (.ref s.heap.objs.size)) Q E { s with heap := s.heap.push { cls := .type "slice", data := .fields #[.int 1 u, .none, .none] } } :=
  slice_strN_sn hF hN (fun h' t' k F' N' => by rw [slice_from1]; exact h h' t' k F' N') hs ht (by rw [tx_len]; exact hsz)
end
end Mine
end
section
open PySem PySem.W PySem.Spec PySem.Calls PyProof.Rows PyProof
set_option Elab.async false
set_option maxRecDepth 100000
namespace Mine
section
variable {prog : Program} {w : World} {A : Around} {E : Value → Shared → Prop} {s : Shared} {h₀ : Heap} {L a b : Addr} {m : Str → Option Value} {news : List (Addr × Obj)} {vs us : List Value} {ys zs : List (List Nat)} {Q : Value → Shared → Prop}
/-- the last item of a list -/
theorem itemLast_K {value slice : Expr} {k : Int} {u : Tok} {y : Value} (hl : s.heap.IsList a (vs ++ [y]).toArray) (hk : k = (vs.length : Nat)) (hz : vs.length < sizeLine) (h : Q y s)
    (hs : subscripted slice false (.ref a) (.int k u) = operate [.ref a, .int k u] (getItem (.ref a) (.int k u))) (hg : ∀ r, letTemporaryGo value (.ref a) r = pure ()) :
    wpAny (model prog w) A (subscriptTail value slice (.ref a) (.int k u)) Q E s := by
  have hb : sizeLine = 16777216 := PySem.sizeLine_eq
  subst hk
  exact item_listL hl (Int.natCast_nonneg _) (by omega) (show (vs ++ [y])[((vs.length : Nat) : Int).toNat]? = some y by rw [Int.toNat_natCast]; simp) h hs hg
theorem addTx_K {x y : List Nat} {t u : Tok} (h : ∀ t' tk, Q (.str (tx (x ++ y)) t') { s with toks := tk }) (hz : x.length + y.length ≤ sizeLine) : wpAny (model prog w) A (binaryOp .Add (.str (tx x) t) (.str (tx y) u)) Q E s :=
  PyProof.Rows.add_str (fun t' tk => by rw [tx_append]; exact h t' tk) (by rw [tx_len, tx_len]; exact hz)
theorem addLit_K {x z : List Nat} {y : Str} {t u : Tok} (e : y = tx z) (h : ∀ t' tk, Q (.str (tx (x ++ z)) t') { s with toks := tk }) (hz : x.length + z.length ≤ sizeLine) : wpAny (model prog w) A (binaryOp .Add (.str (tx x) t) (.str y u)) Q E s := by
  subst e; exact addTx_K h hz
theorem itemStr_K {value slice : Expr} {x : Str} {t u : Tok} {i : Int} (h0 : 0 ≤ i) (h1 : i < x.cps.size) (hz : x.cps.size ≤ sizeLine) (h : ∀ t' tk, Q (.str (tx [x.cps.toList.getD i.toNat 0]) t') { s with toks := tk })
    (hs : subscripted slice false (.str x t) (.int i u) = operate [.str x t, .int i u] (getItem (.str x t) (.int i u)))
    (ht : ∀ r, letTemporaryGo value (.str x t) r = pure ()) :
    wpAny (model prog w) A (subscriptTail value slice (.str x t) (.int i u)) Q E s := by
  have hb : sizeLine = 16777216 := PySem.sizeLine_eq
  have h1' : i < x.length := h1
  refine PyProof.Rows.item_str ?_ (by omega) h1' (fun _ => ?_) hs ht
  · unfold fitsSsize
    simp only [Bool.not_eq_true', Bool.or_eq_false_iff, decide_eq_false_iff_not]
    omega
  · have hl : i.toNat < x.cps.size := by omega
    have e : x.cps[i.toNat]? = some (x.cps.toList.getD i.toNat 0) := by
      rw [Array.getElem?_eq_getElem hl, List.getD_eq_getElem?_getD, Array.getElem?_toList, Array.getElem?_eq_getElem hl]
      rfl
    rw [item_meets h0 e]
    exact h _ _
theorem up_tx {y : List Nat} (ha : y.all reOk = true) : Txt.upper (tx y) = tx (y.map up1) := by
  have hA : ∀ c ∈ (tx y).cps.toList, c < 128 := fun c hc => by
    have := List.all_eq_true.mp ha c hc
    unfold reOk at this
    rw [Bool.and_eq_true, decide_eq_true_eq, decide_eq_true_eq] at this
    omega
  rw [upper_ascii hA]
  apply Str.ext'
  apply Array.ext'
  simp only [Array.toList_map]
theorem upper_tx {y : List Nat} {t : Tok} (ha : y.all reOk = true) (hz : y.length < 100000) (h : ∀ t' k, Q (.str (tx (y.map up1)) t') { s with toks := k }) : wpAny (model prog w) A (call (.builtin "str.upper") [.str (tx y) t]) Q E s := by
  refine SCL.upper (by rw [tx_len]; omega) fun _ => ?_
  rw [up_tx ha]
  exact h _ _
/-- a list comprehended by a range of a list's slice: any ints -/
theorem sliceI_K {value slice : Expr} {ns : List Int} {vl vu vk : Value} {lo hi st : Option Int} {ops : List Value} (F : Fr h₀ L s.heap m) (N : News h₀ L s.heap news) (hl : s.heap.IsList a vs.toArray) (pl : IsPart vl lo) (pu : IsPart vu hi) (pk : IsPart vk st) (h0 : st ≠ some 0) (hi' : IntsAre vs ns)
    (h : ∀ D us ms h', Fr h₀ L h' m → News h₀ L h' ((D, listOf (List.toArray us) 0) :: news) → (∀ p ∈ news, p.1 < D) → IntsAre us ms → Q (.ref D) { s with heap := h' })
    (hs : subscripted slice false (.ref a) (.ref s.heap.objs.size) = operate ops (getItem (.ref a) (.ref s.heap.objs.size))) (ht : ∀ r, letTemporaryGo value (.ref a) r = pure ()) (hz : vs.length ≤ sizeLine) :
    wpAny (model prog w) A (subscriptTail value slice (.ref a) (.ref s.heap.objs.size)) Q E { s with heap := s.heap.push { cls := .type "slice", data := .fields #[vl, vu, vk] } } := by
  refine slice_list3 F N hl pl pu pk h0 (fun h' F' N' => h _ (slicePick vs.toArray lo hi st).toList (pickNums ns lo hi st) h' F' (by rw [Array.toArray_toList]; exact N') (fun p hp => Nat.lt_succ_of_lt (Heap.lt_size (N p hp).1)) (hi'.pick lo hi st)) hs ht (by simpa using hz)
theorem popF_K {D : Addr} {z d : Int} {u : Tok} {n : Nat} (F : Fr h₀ L s.heap m) (N : News h₀ L s.heap news) (hd : d = (vs.length : Nat)) (hpos : 0 < vs.length) (hz : vs.length ≤ sizeLine)
    (k : ∀ p y q, vs = p ++ y :: q → ∃ news', Upd D (listOf vs.toArray n) (listOf (p ++ q).toArray (n + 1)) news news' ∧ ∀ h', Fr h₀ L h' m → News h₀ L h' news' → Q y { s with heap := h' }) :
    wpAny (model prog w) A (call (.builtin "list.pop") [.ref D, .int (z.fmod d) u]) Q E s := by
  subst hd
  have h1 : 0 ≤ z.fmod (vs.length : Nat) ∧ z.fmod (vs.length : Nat) < (vs.length : Nat) := by
    rw [Int.fmod_eq_emod_of_nonneg _ (Int.natCast_nonneg _)]
    exact ⟨Int.emod_nonneg _ (by omega), Int.emod_lt_of_pos _ (by omega)⟩
  have hk : (z.fmod (vs.length : Nat)).toNat < vs.length := by omega
  have e : vs = vs.take (z.fmod (vs.length : Nat)).toNat ++ vs[(z.fmod (vs.length : Nat)).toNat] :: vs.drop ((z.fmod (vs.length : Nat)).toNat + 1) := by
    rw [List.getElem_cons_drop, List.take_append_drop]
  obtain ⟨news', U, h⟩ := k _ _ _ e
  refine popI_K (n := n) F N (k := (z.fmod (vs.length : Nat)).toNat) (by omega) hk ?_ hz h
  rw [List.eraseIdx_eq_take_drop_succ]
  exact U
theorem led_lt {D : Addr} {h : Heap} (N : News h₀ L h news) (fr : ∀ (b : Nat) o, h.get? b = some o → @LT.lt Nat _ b D) : ∀ p ∈ news, p.1 < D := fun p hp => fr _ _ (N p hp).1
theorem led_ne {D : Addr} {h : Heap} (N : News h₀ L h news) (fr : ∀ (b : Nat) o, h.get? b = some o → b ≠ D) : ∀ p ∈ news, @Ne Nat p.1 D := fun p hp => fr _ _ (N p hp).1
theorem neSame_K (ha : s.heap.IsList a vs.toArray) (hb : s.heap.IsList b us.toArray) (hi : Txs vs ys) (hj : Txs us ys) (oi : ∀ y ∈ ys, y.all reOk = true) (hu : A.units + 64 < cLine) (h : Q (.bool false) s) :
    wpAny (model prog w) A (compareOp .NotEq (.ref a) (.ref b)) Q E s := by
  refine neS_K ha hb hi hj oi oi hu ?_
  rw [decide_eq_true rfl]; exact h
theorem subs_app {x y l : List (Addr × Obj)} (h : ∀ p ∈ x, p ∈ l) (k : ∀ p ∈ y, p ∈ l) : ∀ p ∈ x ++ y, p ∈ l := fun p hp => (List.mem_append.mp hp).elim (h p) (k p)
theorem news_cons {h₀ h : Heap} {L : Addr} {x : Addr × Obj} {l : List (Addr × Obj)} (N : News h₀ L h [x]) (N' : News h₀ L h l) : News h₀ L h (x :: l) := fun p hp => (List.mem_cons.mp hp).elim (fun e => N p (List.mem_singleton.mpr e)) (N' p)
theorem lenL_K (hl : s.heap.IsList a vs.toArray) (hz : vs.length ≤ sizeLine) (h : ∀ t' tk, Q (.int (vs.length : Nat) t') { s with toks := tk }) : wpAny (model prog w) A (call (.builtin "len") [.ref a]) Q E s := by
  have hb : sizeLine = 16777216 := PySem.sizeLine_eq
  refine len_list hl (by rw [List.size_toArray]; omega) ?_
  rw [List.size_toArray]
  exact h _ _
theorem itemEq_K {value slice : Expr} {k : Int} {u : Tok} {y : List Nat} (hl : s.heap.IsList a vs.toArray) (hi : Txs vs ys) (e : ys.getD k.toNat [] = y) (h0 : 0 ≤ k) (hk : k < ys.length) (hz : ys.length ≤ sizeLine) (h : ∀ t', Q (.str (tx y) t') s)
    (hs : subscripted slice false (.ref a) (.int k u) = operate [.ref a, .int k u] (getItem (.ref a) (.int k u))) (hg : ∀ r, letTemporaryGo value (.ref a) r = pure ()) :
    wpAny (model prog w) A (subscriptTail value slice (.ref a) (.int k u)) Q E s := by
  subst e
  exact itemS_K hl hi h0 hk hz h hs hg
theorem nameS {o : Obj} {x : Str} {t : Tok} (_ : o.data = .cell (some (.str x t))) : ∃ o', o' = o := ⟨_, rfl⟩
theorem off_of {I : Addr} {X TL : List (Addr × Obj)} (hX : AllLt I X) (hT : ∀ p ∈ TL, @LT.lt Nat _ p.1 I) : ∀ p ∈ X ++ TL, p.1 ≠ I := fun p hp => Nat.ne_of_lt ((List.mem_append.mp hp).elim (allLt_mem hX p) (hT p))
/-- two addresses apart, kept out of sight of omega -/
def NeW (a b : Nat) : Prop := a ≠ b
theorem led_new {D : Addr} {h : Heap} (N : News h₀ L h news) (fr : ∀ (b : Nat) o, h.get? b = some o → b ≠ D) : ∀ p ∈ news, NeW p.1 D := fun p hp => fr _ _ (N p hp).1
theorem off_new {D : Addr} : ∀ {l : List (Addr × Obj)}, LCg.Off1 D l → ∀ p ∈ l, NeW p.1 D := by
  intro l
  induction l with
  | nil => intro _ p h; cases h
  | cons q r ih =>
    intro x p h
    have x1 : (@Ne Nat q.1 D) ∧ LCg.Off1 D r := x
    rcases List.mem_cons.mp h with h | h
    · rw [h]; exact x1.1
    · exact ih x1.2 p h
theorem neW_of {D a : Addr} {o : Obj} {l : List (Addr × Obj)} (h : ∀ p ∈ l, NeW p.1 D) (hm : (a, o) ∈ l) : @Ne Nat a D := h _ hm
theorem allNe_mem {d : Nat} : ∀ {l : List Nat}, AllNe d l → ∀ a ∈ l, a ≠ d
  | _ :: _, x, a, h => by
    rcases List.mem_cons.mp h with h | h
    · rw [h]; exact x.1
    · exact allNe_mem x.2 a h
theorem allNe_new {q : Addr} {l : List (Addr × Obj)} (h : AllNe q (l.map fun p => (p.1 : Nat))) : ∀ p ∈ l, NeW p.1 q := fun p hp => allNe_mem h p.1 (List.mem_map.mpr ⟨p, hp, rfl⟩)
theorem fmod2 (n : Int) : n.fmod 2 = 0 ∨ n.fmod 2 = 1 := by
  rw [Int.fmod_eq_emod_of_nonneg _ (by decide)]
  omega
theorem fmod_rng (n : Int) {k : Int} (h : 0 < k) : 0 ≤ n.fmod k ∧ n.fmod k < k := by
  rw [Int.fmod_eq_emod_of_nonneg _ (Int.le_of_lt h)]
  exact ⟨Int.emod_nonneg _ (by omega), Int.emod_lt_of_pos _ h⟩
theorem fdiv_nat (c k : Nat) : ((c : Int).fdiv (k : Nat)) = ((c / k : Nat) : Int) := by
  rw [Int.fdiv_eq_ediv_of_nonneg _ (Int.natCast_nonneg k)]
  rfl
theorem fmod_nat (c k : Nat) : ((c : Int).fmod (k : Nat)) = ((c % k : Nat) : Int) := by
  rw [Int.fmod_eq_emod_of_nonneg _ (Int.natCast_nonneg k)]
  rfl
end
theorem IntsAre.split {vs p q : List Value} {y : Value} {ns : List Int} : vs = p ++ y :: q → IntsAre vs ns → ∃ np n nq t, ns = np ++ n :: nq ∧ IntsAre p np ∧ IntsAre q nq ∧ y = .int n t := by
  intro e h
  subst e
  induction p generalizing ns with
  | nil =>
    cases h with
    | cons n t r => exact ⟨[], n, _, t, rfl, .nil, r, rfl⟩
  | cons v p ih =>
    cases h with
    | cons n t r =>
      obtain ⟨np, n', nq, t', e1, h1, h2, h3⟩ := ih r
      exact ⟨n :: np, n', nq, t', by rw [e1]; rfl, .cons n t h1, h2, h3⟩
end Mine
end
section
open PySem PySem.W PySem.Spec PySem.Calls PyProof.Rows
set_option Elab.async false
set_option maxRecDepth 100000
namespace Mine
section
variable {prog : Program} {w : World} {A : Around} {E : Value → Shared → Prop} {s : Shared} {env : Env} {h₀ : Heap} {x : Str} {px : Pos} {body : List Stmt} {Q : Flow → Shared → Prop} {m : Str → Option Value} {news : List (Addr × Obj)}
theorem iter_strTurns {y : Str} {t : Tok} {m₀ : Str → Option Value}
    (hh : A.handled = none) (ha : y.cps.all (· < 128) = true) (F : Fr h₀ env.locals s.heap m₀) (N : News h₀ env.locals s.heap news)
    (rest₀ : ∀ I : Addr, (∀ p ∈ news, p.1 < I) → ItemsRest prog w A E h₀ env (.Name x px) body Q s [(I, "str_ascii_iterator")] [] (y.cps.toList.map fun c => Itm.tok fun t => .str ⟨#[c]⟩ t) m₀ news) :
    wpAny (model prog w) A (pyIter (.str y t)) (fun it s₂ => TurnsAt prog w A h₀ env (.Name x px) body Q E it s₂) E s := by
  refine wpAny_pyIter_ascii ha ?_
  refine ktu_core (tk0 := s.toks) (keep := []) (KTurns.ofWalks (Walks.strAscii hh s.heap.objs.size y t) fun i v s Q E st q => wpAny_pure q) (by simp) (fun i v h hp => ?_) (fun i h st => ?_) (fun b hb => ?_) (fun b hb => by simpa using hb) (fun b hb => ?_) ?_ (fun p hp hI => ?_) ?_ (F.push _) (fun p hp => ⟨Heap.get?_push_of_some _ (N p hp).1, (N p hp).2⟩) trivial (rest₀ _ fun p hp => Heap.lt_size (N p hp).1)
  · obtain ⟨c, u, hc, rfl⟩ := hp
    exact ⟨.tok fun t => .str ⟨#[c]⟩ t, by rw [List.getElem?_map, Array.getElem?_toList, hc]; rfl, ⟨u, rfl⟩⟩
  · obtain ⟨it, hit, hic, _⟩ := st
    exact ⟨[(s.heap.objs.size, it)], ⟨⟨rfl, hic⟩, trivial⟩, fun p hp => by rw [List.mem_singleton.mp hp]; exact hit⟩
  · have hb' : b = s.heap.objs.size := by simpa using hb
    rw [hb']
    exact ⟨List.mem_cons_self .., next_is_new F⟩
  · exact .inl (by simpa using hb)
  · intro hI
    exact absurd F.ns.lt ((List.mem_singleton.mp hI) ▸ Nat.lt_irrefl _)
  · exact absurd (Heap.lt_size (N p hp).1) ((List.mem_singleton.mp hI) ▸ Nat.lt_irrefl _)
  · exact ⟨_, Heap.get?_push_size _ rfl, rfl, rfl⟩
/-- a for over a text's signs, by an invariant -/
theorem str_inv {target : Expr} {ws : List (Addr × String)} {keep : List (Addr × Obj)} {cs : List Nat} (Inv : Nat → (Str → Option Value) → List (Addr × Obj) → Prop) (h0 : Inv 0 m news)
    (H : ∀ i c t m nw h tk, cs[i]? = some c → Inv i m nw → Fr h₀ env.locals h m → AllObj ws (fun its => News h₀ env.locals h (its ++ nw) →
      wpAny (model prog w) A (assign target env (.str ⟨#[c]⟩ t)) (fun _ s₂ => wpAny (model prog w) A (execs body env) (UnrPostW h₀ env.locals { s with heap := h, toks := tk } its (fun m' n' => SubL keep n' ∧ Inv (i + 1) m' n') Q) E s₂) E { s with heap := h, toks := tk }))
    (fin : ∀ m nw h tk, Inv cs.length m nw → Fr h₀ env.locals h m → News h₀ env.locals h nw → Q .next { s with heap := h, toks := tk }) :
    ItemsRest prog w A E h₀ env target body Q s ws keep (cs.map fun c => Itm.tok fun t => .str ⟨#[c]⟩ t) m news := by
  have key : ∀ (r : List Nat) i m nw, i + r.length = cs.length → (∀ j v, r[j]? = some v → cs[i + j]? = some v) → Inv i m nw → ItemsRest prog w A E h₀ env target body Q s ws keep (r.map fun c => Itm.tok fun t => .str ⟨#[c]⟩ t) m nw := by
    intro r
    induction r with
    | nil =>
      intro i m nw e _ hi
      exact ItemsRest.zero fun h tk F N => fin m nw h tk (by rw [← e, List.length_nil, Nat.add_zero]; exact hi) F N
    | cons v r ih =>
      intro i m nw e hv hi
      refine ItemsRest.tok fun t h tk F => AllObj.mono' (fun its k N => ?_) (H i v t m nw h tk (by simpa using hv 0 v rfl) hi F)
      refine wpAny_mono (k N) (fun _ s₂ h₂ => wpAny_mono h₂ (fun f s₃ h₃ => UnrPostW.mono' (fun m' nw' z => ?_) h₃) fun _ _ z => z) fun _ _ z => z
      refine ⟨z.1, ih (i + 1) m' nw' (by rw [List.length_cons] at e; omega) (fun j u hj => ?_) z.2⟩
      have := hv (j + 1) u (by simpa using hj)
      rw [← this]; congr 1; omega
  exact key cs 0 m news (by omega) (fun j v hj => by simpa using hj) h0
/-- a for over a list, a local name its target, by an invariant -/
theorem listRest_inv {I : Addr} {lp : Addr × Obj} {vs : List Value} (Inv : Nat → (Str → Option Value) → List (Addr × Obj) → Prop) (h0 : Inv 0 m news) (hlp : ∀ i m nw, Inv i m nw → lp ∈ nw)
    (H : ∀ i v m nw it h tk, vs[i]? = some v → Inv i m nw → it.cls = .type "list_iterator" → Fr h₀ env.locals h (fun y => if y = x then some v else m y) → News h₀ env.locals h ((I, it) :: nw) →
      wpAny (model prog w) A (execs body env) (UnrPost h₀ env.locals { s with heap := h, toks := tk } I it (fun m' n' => Inv (i + 1) m' n') Q) E { s with heap := h, toks := tk })
    (fin : ∀ m nw h tk, Inv vs.length m nw → Fr h₀ env.locals h m → News h₀ env.locals h nw → Q .next { s with heap := h, toks := tk }) :
    ListRest prog w A E h₀ env x body Q s I lp vs m news := by
  have key : ∀ (r : List Value) i m nw, i + r.length = vs.length → (∀ j v, r[j]? = some v → vs[i + j]? = some v) → Inv i m nw → ListRest prog w A E h₀ env x body Q s I lp r m nw := by
    intro r
    induction r with
    | nil =>
      intro i m nw e _ hi
      exact ListRest.zero fun h tk F N => fin m nw h tk (by rw [← e, List.length_nil, Nat.add_zero]; exact hi) F N
    | cons v r ih =>
      intro i m nw e hv hi
      refine ListRest.succ fun it h tk hc F N => ?_
      refine wpAny_mono (H i v m nw it h tk (by simpa using hv 0 v rfl) hi hc F N) (fun f s₃ h₃ => UnrPost.mono' (fun m' nw' z => ⟨hlp _ _ _ z, ih (i + 1) m' nw' (by rw [List.length_cons] at e; omega) (fun j u hj => ?_) z⟩) h₃) fun _ _ z => z
      have := hv (j + 1) u (by simpa using hj)
      rw [← this]; congr 1; omega
  exact key vs 0 m news (by omega) (fun j v hj => by simpa using hj) h0
end
end Mine
end
section
open PySem PySem.W PyProof.Rows
set_option Elab.async false
namespace Mine
def vw2 : Program := view PySem.Challenge.rw_st0023_02.row.toRowW.prog [0, 1, 3, 4, 5, 7, 9, 11, 12, 13, 14, 15]
def loose2 : List Str := [Str.ofString "_name_disallowed_re", Str.ofString "_value_disallowed_re"]
local macro_rules | `(tactic| o_head $H) => `(tactic| (
  refine holds_open (q := vw2) (loose := loose2) (Xt := fun s => xlAt vw2 [] s && recOk (RowW.records (PySem.Challenge.rw_st0023_02.row.toRowW)) s) (XP := XL vw2 []) (Yf := Hook.obs $H) (Ya := Hook.val $H) (YP := Hook.says $H) (N := 3012) ?hl (Hook.of $H) (Hook.keeps $H) (fun s e => xl_of s (Bool.and_eq_true_iff.mp e).1) XL.keeps (by rfl) (by rfl) (by rfl) (fun s e => recFacts_of (Bool.and_eq_true_iff.mp e).2) (by rfl) (by first | assumption | decide +kernel) (by decide +kernel) ⟨rfl, rfl, rfl, rfl, rfl, by decide +kernel⟩ ?hw ?hc
  case hl => (intro w; kernel_rfl)
  case hw => w_witness2))
set_option maxRecDepth 100000 in
set_option maxHeartbeats 0 in
noncomputable def hd2 : { T : Prop // T → PySem.Challenge.rw_st0023_02.Holds } := ⟨_, by
  intro h
  w_on; (refine holds_law (by decide +kernel) fun said => ?_)
  k_head
  exact h⟩
#check (hd2.1)
end Mine
end
open PySem PySem.W PySem.Spec PySem.Calls PyProof.Rows
namespace Mine
theorem topOff : True := by w_top off; trivial
theorem fill_all : PySem.Challenge.rw_st0023_02 = PySem.Challenge.rw_st0023_02 → hd2.heap_1 = hd2.heap_1 := by k_fill; intro _; rfl
section
-- the kit's ktr_rel stands here for: a length is below the size line
local macro_rules | `(tactic| ktr_rel) => `(tactic| first | assumption | ((try simp only [List.length_append, List.length_reverse, List.length_cons, List.length_nil, List.size_toArray, len_mk, len_empty, len_quote, len_back, Str.length_append, tx_len]); (have hb9 := PySem.sizeLine_eq); omega))
local macro_rules | `(tactic| k_room) => `(tactic| ktr_room)
local macro_rules | `(tactic| k_units) => `(tactic| ktr_units)
local macro_rules | `(tactic| walk_at "call type:list") => `(tactic| (k_here; k_dflt (refine' listStr_K (by exact rfl) (by k_asm) (by k_asm) (by assumption) ?_; k_whole); intro l' c' vs' h' tk' F' N' l1 hc'; (try k_lt l1); (try k_sweep)))
local macro_rules | `(tactic| walk_at "call builtin:list.reverse") => `(tactic| (k_here; k_dflt (refine' rev_K (by k_asm) (by k_asm) (by k_upd) (by (rename Chs _ _ => hc'; rw [Chs.length hc']; simpa using (by assumption))) ?_); (intro h' F' N'); (try k_sweep)))
local macro_rules | `(tactic| walk_at "call builtin:list.pop") => `(tactic| (k_here; k_dflt (refine' pop_K (by k_asm) (by k_asm) (by k_upd) (by ktr_rel) ?_); (intro h' F' N'); (try k_sweep)))
local macro_rules | `(tactic| walk_at "truthy ref") => `(tactic| (k_here; k_dflt (first
  | (refine' truthyNil_K (by k_asm) (by k_mem) ?_; k_whole; intro tk')
  | (refine' truthyNe_K (by k_asm) (by k_mem) (by ktr_rel) (by simp) ?_; k_whole; intro tk'))))
-- the kit's ktr_unf stands here for: what a name of the frame holds, by the facts of an open map
local macro_rules | `(tactic| ktr_unf) => `(tactic| first | exact rfl | assumption | (refine (if_neg (by decide)).trans ?_; ktr_unf))
local macro_rules | `(tactic| walk_at "last eval Name") => `(tactic| (k_here; k_dflt (refine' nameX_L (by k_asm) ?v ?_ (by rfl) (by rfl); (case v => ktr_unf); k_whole)))
local macro_rules | `(tactic| walk_at "last loadName") => `(tactic| (k_here; k_dflt (refine' ldX (by k_asm) ?v ?_ (by rfl) (by rfl); (case v => ktr_unf); k_whole)))
local macro_rules | `(tactic| walk_at "inplaceOp Add str str") => `(tactic| (k_here; refine' iadd_str ?_ (by ktr_rel); intro t' tk'))
local macro_rules | `(tactic| walk_at "binaryOp Add str str") => `(tactic| (k_here; refine' add_str ?_ (by ktr_rel); intro t' tk'))
local macro_rules | `(tactic| walk_at "call builtin:list.append") => `(tactic| (k_here; k_dflt (refine' appendV_K (by k_asm) (by k_asm) (by k_upd) (by ktr_rel) ?_); (intro h' F' N'); (try k_sweep)))
local macro_rules | `(tactic| walk_at "call builtin:list.pop") => `(tactic| (k_here; k_dflt (refine' pop0_K (by k_asm) (by k_asm) (by k_upd) (by ktr_rel) ?_); (intro h' F' N'); (try k_sweep)))
local macro_rules | `(tactic| walk_at "call builtin:str.join") => `(tactic| (k_here; k_dflt (refine' joinTx_K (by k_asm) (by k_mem) (by assumption) (by ktr_rel) ?_); intro t' k'))
local macro_rules | `(tactic| walk_at "getMethod ref") => `(tactic| (k_here; (with_reducible show wpAny _ _ (getMethod (Value.ref _) (PySem.Str.ofString "search") _) _ _ _); k_dflt (refine' re_method (by k_in) (by k_is) (by rfl) (by rfl) ?_; k_whole)))
local macro_rules | `(tactic| walk_at "call builtin:re.Pattern.search") => `(tactic| (k_here; k_dflt (refine' re_search (by k_in) (by k_is) (by rfl) (by rfl) (by rfl) (by rfl) (by rfl) (by k_is) (by rfl) (by first | exact ⟨_, reName_code, rfl⟩ | exact ⟨_, reValue_code, rfl⟩) (by exact tx_ok (by assumption)) (by ktr_rel) ?_; k_whole)))
local macro_rules | `(tactic| walk_at "call builtin:str.lower") => `(tactic| (k_here; k_dflt (refine' lower_tx (by assumption) (by ktr_rel) (by ktr_rel) ?_); intro t' k'))
local macro_rules | `(tactic| walk_at "eval ListComp") => `(tactic| (k_here; refine Stop.out ?_))
local macro_rules | `(tactic| omega) => `(tactic| first | lia | omega +splitDisjunctions)
noncomputable abbrev PP : Program := PySem.Challenge.rw_st0023_02.row.prog
theorem fill1 : PySem.Challenge.rw_st0023_02 = PySem.Challenge.rw_st0023_02 → hd2.heap_1 = hd2.heap_1 := by k_fill; intro _; rfl
/-- where a lexer's objects lie, and what of them never turns -/
structure LexP where
  (x2 d2 pb2 f c x1 d1 pb1 ls cs : Nat)
  (oc ocell : Obj)
  (ovs : Array Value)
  (ot : Tok)
  (pm ct : Value)
  (t1 t2 t3 t3v t4 u1 u1v u2 u3 u3v u4 u5 : Tok)
noncomputable abbrev lamQual : Str := (Str.ofString "_law_lexer" ++ Str.ofString ".<locals>.") ++ Str.ofString "<lambda>"
structure LexP.Ok (P : LexP) : Prop where
  cell : P.ocell.data = .cell (some (.ref P.ls))
  code : P.oc.data = .fields P.ovs
  qual : P.ovs[1]? = some (.str lamQual P.ot)
  ord : P.cs < P.ls ∧ P.ls < P.d1 ∧ P.d1 < P.x1 ∧ P.x1 < P.pb1 ∧ P.pb1 < P.c ∧ P.c < P.f ∧ P.f < P.d2 ∧ P.d2 < P.x2 ∧ P.x2 < P.pb2
noncomputable abbrev ent (w : World) (n : String) (t : Tok) (v : Value) : DictEntry := ⟨PyData.keyHash w.params (Str.ofString n), .str (Str.ofString n) t, v⟩
noncomputable abbrev d2Of (w : World) (P : LexP) (ln : Int) (tl : Tok) : Obj := dictOf [ent w "lineno" P.t1 (.int ln tl), ent w "instream" P.t2 (.ref P.x1), ent w "whitespace" P.t3 (.str (Str.ofString "\n\t\r ") P.t3v), ent w "pushback" P.t4 (.ref P.pb2)] 4
noncomputable abbrev d1Of (w : World) (P : LexP) : Obj := dictOf [ent w "lineno" P.u1 (.int 1 P.u1v), ent w "instream" P.u2 .none, ent w "whitespace" P.u3 (.str (Str.ofString "\n\t\r ") P.u3v), ent w "pushback" P.u4 (.ref P.pb1), ent w "read" P.u5 (.ref P.f)] 5
noncomputable abbrev lamOf (P : LexP) : Obj := kla_obj (Str.ofString "<lambda>") lamQual ⟨[], [⟨Str.ofString "count", none, ⟨135, 25, 135, 30⟩⟩], none, [], [], none, []⟩
  (Expr.IfExp (Expr.Name (Str.ofString "signs") ⟨135, 47, 135, 52⟩) (Expr.Call (Expr.Attribute (Expr.Name (Str.ofString "signs") ⟨135, 32, 135, 37⟩) (Str.ofString "pop") ⟨135, 32, 135, 41⟩) [] [] ⟨135, 32, 135, 43⟩) (Expr.Constant (Const.str (Str.ofString "")) 0 ⟨135, 58, 135, 60⟩) ⟨135, 32, 135, 60⟩)
  ⟨.function, [(Str.ofString "count", .local), (Str.ofString "signs", .free)], false, false, []⟩ [(Str.ofString "signs", P.cs)] P.pm P.c P.ct
/-- the lexer's part of the ledger: line number, what waits, the signs (the last one is read first) -/
noncomputable abbrev lexLed (w : World) (P : LexP) (ln : Int) (tl : Tok) (pv : List Value) (pe : Nat) (sg : List Value) (le : Nat) : List (Addr × Obj) :=
  [(P.x2, instObj 220 P.d2), (P.d2, d2Of w P ln tl), (P.pb2, listOf pv.toArray pe), (P.f, lamOf P), (P.c, P.oc), (P.x1, instObj 220 P.d1), (P.d1, d1Of w P), (P.ls, listOf sg.toArray le), (P.cs, P.ocell)]
noncomputable abbrev LexP.addrs (P : LexP) : List Nat := [P.x2, P.d2, P.pb2, P.f, P.c, P.x1, P.d1, P.ls, P.cs]
theorem LexP.Ok.lo {P : LexP} (O : P.Ok) {X : Nat} (h : X < P.cs) : AllNe X P.addrs := by
  obtain ⟨o1, o2, o3, o4, o5, o6, o7, o8, o9⟩ := O.ord
  have a2 := Nat.lt_trans h o1
  have a3 := Nat.lt_trans a2 o2
  have a4 := Nat.lt_trans a3 o3
  have a5 := Nat.lt_trans a4 o4
  have a6 := Nat.lt_trans a5 o5
  have a7 := Nat.lt_trans a6 o6
  have a8 := Nat.lt_trans a7 o7
  have a9 := Nat.lt_trans a8 o8
  exact ⟨Nat.ne_of_gt a9, Nat.ne_of_gt a8, Nat.ne_of_gt (Nat.lt_trans a9 o9), Nat.ne_of_gt a7, Nat.ne_of_gt a6, Nat.ne_of_gt a4, Nat.ne_of_gt a3, Nat.ne_of_gt a2, Nat.ne_of_gt h, trivial⟩
theorem LexP.Ok.tops {P : LexP} (O : P.Ok) {X : Nat} (h : P.pb2 < X) : P.x2 < X ∧ P.d2 < X ∧ P.f < X ∧ P.c < X ∧ P.x1 < X ∧ P.d1 < X ∧ P.ls < X ∧ P.cs < X := by
  obtain ⟨o1, o2, o3, o4, o5, o6, o7, o8, o9⟩ := O.ord
  have a9 := Nat.lt_trans o9 h
  have a8 := Nat.lt_trans o8 a9
  have a7 := Nat.lt_trans o7 a8
  have a6 := Nat.lt_trans o6 a7
  have a5 := Nat.lt_trans o5 a6
  have a4 := Nat.lt_trans o4 a5
  have a3 := Nat.lt_trans o3 a4
  have a2 := Nat.lt_trans o2 a3
  exact ⟨a9, a8, a7, a6, a4, a3, a2, Nat.lt_trans o1 a2⟩
theorem LexP.Ok.hi {P : LexP} (O : P.Ok) {X : Nat} (h : P.pb2 < X) : AllNe X P.addrs := by
  obtain ⟨a9, a8, a7, a6, a4, a3, a2, a1⟩ := O.tops h
  exact ⟨Nat.ne_of_lt a9, Nat.ne_of_lt a8, Nat.ne_of_lt h, Nat.ne_of_lt a7, Nat.ne_of_lt a6, Nat.ne_of_lt a4, Nat.ne_of_lt a3, Nat.ne_of_lt a2, Nat.ne_of_lt a1, trivial⟩
theorem LexP.Ok.top {P : LexP} (O : P.Ok) : AllLe P.pb2 P.addrs := by
  obtain ⟨a9, a8, a7, a6, a4, a3, a2, a1⟩ := O.tops (Nat.lt_succ_self _)
  exact ⟨Nat.le_of_lt_succ a9, Nat.le_of_lt_succ a8, Nat.le_refl _, Nat.le_of_lt_succ a7, Nat.le_of_lt_succ a6, Nat.le_of_lt_succ a4, Nat.le_of_lt_succ a3, Nat.le_of_lt_succ a2, Nat.le_of_lt_succ a1, trivial⟩
theorem LexP.Ok.tl {P : LexP} (O : P.Ok) {TL : List (Addr × Obj)} {n : Nat} (h : ∀ p ∈ TL, @LT.lt Nat _ n p.1) (k : P.pb2 < n) : ∀ p ∈ TL, p.1 ∉ P.addrs := fun p hp hq => (O.hi (Nat.lt_trans k (h p hp))).notin hq
theorem cx1 {p : Program} {w : World} {A : Around} {Q : Value → Shared → Prop} {E : Value → Shared → Prop} {s : Shared} (h : wpAny (model p w) A (pyIter Value.none) Q E s) : wpAny (model p w) A (pyIter Value.none) Q E s := by first | (walk1; fail "x") | exact h
section
section
variable {w : World} {dp un : Nat} {gd : Option (List Code)} {cn : Str} {nm : List (Str × NameKind)} {ig ic : Bool} {mo : List (Str × Const)} {a : Addr} {ccd : Value} {cl : List (Str × Addr)} {outer : List Env} {A₀ : Around} {base h₀ : Heap} {L : Addr} {m : Str → Option Value} {news : List (Addr × Obj)} {s : Shared} {p : Program} {loose : List Str} {mean : ExcName → Option Value} {mg mb : Str → Option Value} {R : Result → Shared → Prop}
set_option maxHeartbeats 0 in
theorem lexer_spec {x : Str} {tx : Tok} (B : Below A₀ base outer h₀) (F : Fr h₀ L s.heap m) (X : (hd2.heap_1 w.params).In h₀) (T : Top p loose mean mg mb h₀) (hd : dp + 10 < recursionLimit) (hu : un + 100 < cLine) (N : News h₀ L s.heap [(226, tabObj #[])])
    (hx : x.cps.size ≤ sizeLine)
    (hret : ∀ (P : LexP) (vs : List Value) (le : Nat) (tl : Tok) (tps : Array Value) h' tk', P.Ok → (∀ (b : Nat) o, s.heap.get? b = some o → b < P.cs) → Chs vs x.cps.toList → (∀ b o, s.heap.get? b = some o → b ≠ 226 → h'.get? b = some o) → Fr h₀ L h' m →
      News h₀ L h' ((226, tabObj tps) :: lexLed w P 1 tl [] 0 vs.reverse le) → R (.ok (.ret (.ref P.x2))) { s with heap := h', toks := tk' }) :
    codeAny (model PP w) (ktrTop dp un gd cn ⟨.function, nm, ig, ic, mo⟩ L a ccd cl outer) (.call (.ref 231) ⟨[.str x tx], []⟩) R s := by
  k_dflt (refine' codeKC ?k1 ?k2 ?k3 ?k4 ?k5 ?kA ?kF ?kK ?k6 ?k7 ?k8 ?k9 ?kB ?kD ?_ ?c2 ?c3 ?c4; (case kA => exact rfl); (case kF => exact rfl); (case kK => exact rfl); (case k1 => exact B); (case k2 => exact F); (case k3 => exact X); (case k4 => exact N); (case k5 => exact T); (case k6 => k_is); (case k7 => k_is); (case k8 => k_room); (case k9 => first | exact BindsTo.of_eq rfl | exact binds_K (by k_in) rfl (by k_is) rfl rfl rfl); (case kB => exact rfl); (case kD => decide +kernel); (case c2 => exact rfl); (case c3 => exact rfl); (case c4 => exact rfl); k_whole; intro g L' h' tk' cells kg kl FG F' N' Y' B' X' T' l1; (try k_lt l1); k_cells Y'; (try simp only [List.cons_append, List.nil_append] at N'); (have codeHd := codeHd_of_K (c := 230) (P := 226) X' (by kernel_rfl)); (try dsimp only); (try k_lift B'); (try k_fold))
  k_steps
  (rename News h₀ L _ _ => Nf)
  refine' hret (LexP.mk _ _ _ _ _ _ _ _ _ _ _ _ _ _ _ _ _ _ _ _ _ _ _ _ _ _ _ _) _ _ _ _ _ _ ?ok ?fresh ?chs ?keep (by assumption) ?news
  case news =>
    k_dflt (repeat' (first | exact List.forall_mem_nil _ | (refine' List.forall_mem_cons.mpr ⟨Nf _ ?_, ?_⟩; k_mem)))
  case ok => refine ⟨by assumption, by assumption, by assumption, ?_⟩; dsimp only; omega
  case fresh => intro b o e; have := kl b o e; dsimp only; omega
  case chs => assumption
  case keep => intro b o e hb; rename Fr g _ _ _ => Fg; exact Fg.keep b o (kg b o e (by simpa using hb))
end
end
theorem cx2 {p : Program} {w : World} {A : Around} {Q : Value → Shared → Prop} {E : Value → Shared → Prop} {s : Shared} (h : wpAny (model p w) A (pyIter Value.none) Q E s) : wpAny (model p w) A (pyIter Value.none) Q E s := by first | (walk1; fail "x") | exact h
section
section
variable {w : World} {dp un : Nat} {gd : Option (List Code)} {cn : Str} {nm : List (Str × NameKind)} {ig ic : Bool} {mo : List (Str × Const)} {a : Addr} {ccd : Value} {cl : List (Str × Addr)} {outer : List Env} {A₀ : Around} {base h₀ : Heap} {L : Addr} {m : Str → Option Value} {news : List (Addr × Obj)} {s : Shared} {p : Program} {loose : List Str} {mean : ExcName → Option Value} {mg mb : Str → Option Value} {R : Result → Shared → Prop}
set_option maxHeartbeats 0 in
theorem read_cons {P : LexP} {ln : Int} {tl tc : Tok} {pv vs : List Value} {pe le c : Nat} (B : Below A₀ base outer h₀) (F : Fr h₀ L s.heap m) (X : (hd2.heap_1 w.params).In h₀) (T : Top p loose mean mg mb h₀) (hd : dp + 5 < recursionLimit) (hu : un + 50 < cLine) (O : P.Ok) (N : News h₀ L s.heap (lexLed w P ln tl pv pe (vs.reverse ++ [Value.str ⟨#[c]⟩ tc]) le)) (hz : vs.length < sizeLine)
    (hret : ∀ (ln' : Int) tl' le' h' tk', ln' = (if c = 10 then ln + 1 else ln) → (∀ (b : Nat) o, s.heap.get? b = some o → b ∉ P.addrs → h'.get? b = some o) → Fr h₀ L h' m →
      News h₀ L h' (lexLed w P ln' tl' pv pe vs.reverse le') → R (.ok (.ret (.str ⟨#[c]⟩ tc))) { s with heap := h', toks := tk' }) :
    codeAny (model PP w) (ktrTop dp un gd cn ⟨.function, nm, ig, ic, mo⟩ L a ccd cl outer) (.call (.ref 203) ⟨[.ref P.x2], []⟩) R s := by
  obtain ⟨ocd, ocf, ovq, oord⟩ := O
  unfold lexLed at N
  k_dflt (refine' codeK ?k1 ?k2 ?k3 ?k4 ?k5 ?kA ?kF ?kK ?k6 ?k7 ?k8 ?k9 ?kB ?_ ?c2 ?c3 ?c4 ?c5; (case kA => exact rfl); (case kF => exact rfl); (case kK => exact rfl); (case k1 => exact B); (case k2 => exact F); (case k3 => exact X); (case k4 => exact N); (case k5 => exact T); (case k6 => k_is); (case k7 => k_is); (case k8 => k_room); (case k9 => first | exact BindsTo.of_eq rfl | exact binds_K (by k_in) rfl (by k_is) rfl rfl rfl); (case c5 => decide); (case kB => exact locs rfl); (case c2 => exact rfl); (case c3 => exact rfl); (case c4 => exact rfl); k_whole; intro g L' h' kg kl l1 FG F' N' B' X' T'; (try k_lt l1); (have codeHd := codeHd_of_K (c := 230) (P := 226) X' (by kernel_rfl)); (try dsimp only); (try k_lift B'); (try k_fold))
  k_steps
  · (rename (Str.mk #[c] == _) = true => hc)
    rw [one_nl, decide_eq_true_eq] at hc
    rename Fr g _ _ _ => Fg
    refine hret (ln + 1) _ _ _ _ (by rw [if_pos hc]) (fun b o e hb => Fg.keep b o (kg b o e hb)) (by assumption) (by assumption)
  · (rename (Str.mk #[c] == _) = false => hc)
    rw [one_nl, decide_eq_false_iff_not] at hc
    rename Fr g _ _ _ => Fg
    refine hret ln _ _ _ _ (by rw [if_neg hc]) (fun b o e hb => Fg.keep b o (kg b o e hb)) (by assumption) (by assumption)

set_option maxHeartbeats 0 in
theorem read_nil {P : LexP} {ln : Int} {tl : Tok} {pv : List Value} {pe le : Nat} (B : Below A₀ base outer h₀) (F : Fr h₀ L s.heap m) (X : (hd2.heap_1 w.params).In h₀) (T : Top p loose mean mg mb h₀) (hd : dp + 5 < recursionLimit) (hu : un + 50 < cLine) (O : P.Ok) (N : News h₀ L s.heap (lexLed w P ln tl pv pe [] le))
    (hret : ∀ te h' tk', (∀ (b : Nat) o, s.heap.get? b = some o → b ∉ P.addrs → h'.get? b = some o) → Fr h₀ L h' m →
      News h₀ L h' (lexLed w P ln tl pv pe [] le) → R (.ok (.ret (.str (Str.ofString "") te))) { s with heap := h', toks := tk' }) :
    codeAny (model PP w) (ktrTop dp un gd cn ⟨.function, nm, ig, ic, mo⟩ L a ccd cl outer) (.call (.ref 203) ⟨[.ref P.x2], []⟩) R s := by
  obtain ⟨ocd, ocf, ovq, oord⟩ := O
  unfold lexLed at N
  k_dflt (refine' codeK ?k1 ?k2 ?k3 ?k4 ?k5 ?kA ?kF ?kK ?k6 ?k7 ?k8 ?k9 ?kB ?_ ?c2 ?c3 ?c4 ?c5; (case kA => exact rfl); (case kF => exact rfl); (case kK => exact rfl); (case k1 => exact B); (case k2 => exact F); (case k3 => exact X); (case k4 => exact N); (case k5 => exact T); (case k6 => k_is); (case k7 => k_is); (case k8 => k_room); (case k9 => first | exact BindsTo.of_eq rfl | exact binds_K (by k_in) rfl (by k_is) rfl rfl rfl); (case c5 => decide); (case kB => exact locs rfl); (case c2 => exact rfl); (case c3 => exact rfl); (case c4 => exact rfl); k_whole; intro g L' h' kg kl l1 FG F' N' B' X' T'; (try k_lt l1); (have codeHd := codeHd_of_K (c := 230) (P := 226) X' (by kernel_rfl)); (try dsimp only); (try k_lift B'); (try k_fold))
  k_steps
  rename Fr g _ _ _ => Fg
  exact hret _ _ _ (fun b o e hb => Fg.keep b o (kg b o e hb)) (by assumption) (by assumption)
end
end
theorem cx3 {p : Program} {w : World} {A : Around} {Q : Value → Shared → Prop} {E : Value → Shared → Prop} {s : Shared} (h : wpAny (model p w) A (pyIter Value.none) Q E s) : wpAny (model p w) A (pyIter Value.none) Q E s := by first | (walk1; fail "x") | exact h
section
section
variable {w : World} {dp un : Nat} {gd : Option (List Code)} {cn : Str} {nm : List (Str × NameKind)} {ig ic : Bool} {mo : List (Str × Const)} {a : Addr} {ccd : Value} {cl : List (Str × Addr)} {outer : List Env} {A₀ : Around} {base h₀ : Heap} {L : Addr} {m : Str → Option Value} {news : List (Addr × Obj)} {s : Shared} {p : Program} {loose : List Str} {mean : ExcName → Option Value} {mg mb : Str → Option Value} {R : Result → Shared → Prop}
theorem fn_read {w : World} {h : Heap} (X : (hd2.heap_1 w.params).In h) : ∃ og fd, h.get? 203 = some og ∧ og.data = .func fd := ⟨_, _, X 203 _ (by k_is), rfl⟩
theorem next_cons {P : LexP} {it q : Nat} {ln : Int} {t0 tl tc : Tok} {pv vs : List Value} {pe le c : Nat} {Q : Option Value → Shared → Prop} {E : Value → Shared → Prop} (B : Below A₀ base outer h₀) (F : Fr h₀ L s.heap m) (X : (hd2.heap_1 w.params).In h₀) (T : Top p loose mean mg mb h₀) (hd : dp + 7 < recursionLimit) (hu : un + 70 < cLine) (O : P.Ok) (hz : vs.length < sizeLine)
    (N : News h₀ L s.heap ((it, ciObj (.ref q) (.str (Str.ofString "") t0) false) :: (q, methodObj (.ref 203) (.ref P.x2)) :: lexLed w P ln tl pv pe (vs.reverse ++ [Value.str ⟨#[c]⟩ tc]) le)) (hi : it ∉ P.addrs) (hq : q ∉ P.addrs)
    (k : ∀ (ln' : Int) tl' le' h' tk', ln' = (if c = 10 then ln + 1 else ln) → Fr h₀ L h' m →
      News h₀ L h' ((it, ciObj (.ref q) (.str (Str.ofString "") t0) false) :: (q, methodObj (.ref 203) (.ref P.x2)) :: lexLed w P ln' tl' pv pe vs.reverse le') → Q (some (.str ⟨#[c]⟩ tc)) { s with heap := h', toks := tk' }) :
    wpAny (model PP w) (ktrTop dp un gd cn ⟨.function, nm, ig, ic, mo⟩ L a ccd cl outer) (pyNext (.ref it)) Q E s := by
  have n1 := N _ (.head _)
  have n2 := N _ (.tail _ (.head _))
  obtain ⟨og, fd, hg, hf⟩ := fn_read (X.keeps F.keep)
  refine ci_next (A := ktrTop dp un gd cn ⟨.function, nm, ig, ic, mo⟩ L a ccd cl outer) rfl n1.1 n2.1 hg hf ?_
  refine read_cons (dp := dp) (un := un + 1) B F X T (by omega) (by omega) O (news_sub N fun p hp => .tail _ (.tail _ hp)) hz ?_
  intro ln' tl' le' h' tk' hln keep F' N'
  have hgk : h'.get? 203 = some og := by
    obtain ⟨og', fd', hg', _⟩ := fn_read X
    rw [F.keep _ _ hg'] at hg
    cases hg
    exact F'.keep _ _ hg'
  refine ⟨_, _, rfl, keep _ _ n1.1 hi, keep _ _ n2.1 hq, hgk, fun _ => k ln' tl' le' h' tk' hln F' ?_, fun e => ?_⟩
  · intro p hp
    rcases List.mem_cons.mp hp with rfl | hp
    · exact ⟨keep _ _ n1.1 hi, n1.2⟩
    rcases List.mem_cons.mp hp with rfl | hp
    · exact ⟨keep _ _ n2.1 hq, n2.2⟩
    exact N' p hp
  · exact absurd e (by intro e; have := congrArg (fun x : Str => x.cps.size) e; simp at this; revert this; decide)
theorem next_nil {P : LexP} {it q : Nat} {ln : Int} {t0 tl : Tok} {pv : List Value} {pe le : Nat} {Q : Option Value → Shared → Prop} {E : Value → Shared → Prop} (B : Below A₀ base outer h₀) (F : Fr h₀ L s.heap m) (X : (hd2.heap_1 w.params).In h₀) (T : Top p loose mean mg mb h₀) (hd : dp + 7 < recursionLimit) (hu : un + 70 < cLine) (O : P.Ok)
    (N : News h₀ L s.heap ((it, ciObj (.ref q) (.str (Str.ofString "") t0) false) :: (q, methodObj (.ref 203) (.ref P.x2)) :: lexLed w P ln tl pv pe [] le)) (hi : it ∉ P.addrs) (hq : q ∉ P.addrs) (hiq : it ≠ q)
    (k : ∀ h' tk', Fr h₀ L h' m →
      News h₀ L h' ((it, ciObj .none .none true) :: (q, methodObj (.ref 203) (.ref P.x2)) :: lexLed w P ln tl pv pe [] le) → Q none { s with heap := h', toks := tk' }) :
    wpAny (model PP w) (ktrTop dp un gd cn ⟨.function, nm, ig, ic, mo⟩ L a ccd cl outer) (pyNext (.ref it)) Q E s := by
  have n1 := N _ (.head _)
  have n2 := N _ (.tail _ (.head _))
  obtain ⟨og, fd, hg, hf⟩ := fn_read (X.keeps F.keep)
  refine ci_next (A := ktrTop dp un gd cn ⟨.function, nm, ig, ic, mo⟩ L a ccd cl outer) rfl n1.1 n2.1 hg hf ?_
  refine read_nil (dp := dp) (un := un + 1) B F X T (by omega) (by omega) O (news_sub N fun p hp => .tail _ (.tail _ hp)) ?_
  intro te h' tk' keep F' N'
  have hgk : h'.get? 203 = some og := by
    obtain ⟨og', fd', hg', _⟩ := fn_read X
    rw [F.keep _ _ hg'] at hg
    cases hg
    exact F'.keep _ _ hg'
  refine ⟨_, _, rfl, keep _ _ n1.1 hi, keep _ _ n2.1 hq, hgk, fun e => absurd rfl e, fun _ h₂ hk hit => k h₂ tk' ⟨?_, fun b o e => ?_, F'.above⟩ ?_⟩
  · obtain ⟨oL, es, ep, hL, r⟩ := F'.ns
    exact ⟨oL, es, ep, hk _ _ (Ne.symm n1.2.1) hL, r⟩
  · exact hk _ _ (fun z => by have := n1.2.2; rw [← z, e] at this; cases this) (F'.keep b o e)
  · intro p hp
    rcases List.mem_cons.mp hp with rfl | hp
    · exact ⟨hit, n1.2⟩
    rcases List.mem_cons.mp hp with rfl | hp
    · exact ⟨hk _ _ (Ne.symm hiq) (keep _ _ n2.1 hq), n2.2⟩
    refine ⟨hk _ _ (fun z => hi ?_) (N' p hp).1, (N' p hp).2⟩
    rw [← z]
    exact List.mem_map_of_mem (f := Prod.fst) hp
theorem read_use {P : LexP} {it q : Nat} {ci : Obj} {ln : Int} {tl tc : Tok} {pv vs : List Value} {pe le c : Nat} {Q : Value → Shared → Prop} {E : Value → Shared → Prop} (B : Below A₀ base outer h₀) (F : Fr h₀ L s.heap m) (X : (hd2.heap_1 w.params).In h₀) (T : Top p loose mean mg mb h₀) (hd : dp + 7 < recursionLimit) (hu : un + 70 < cLine) (O : P.Ok) (hz : vs.length < sizeLine)
    (N : News h₀ L s.heap ((it, ci) :: (q, methodObj (.ref 203) (.ref P.x2)) :: lexLed w P ln tl pv pe (vs.reverse ++ [Value.str ⟨#[c]⟩ tc]) le)) (hi : it ∉ P.addrs) (hq : q ∉ P.addrs)
    (k : ∀ (ln' : Int) tl' le' h' tk', ln' = (if c = 10 then ln + 1 else ln) → Fr h₀ L h' m →
      News h₀ L h' ((it, ci) :: (q, methodObj (.ref 203) (.ref P.x2)) :: lexLed w P ln' tl' pv pe vs.reverse le') → Q (.str ⟨#[c]⟩ tc) { s with heap := h', toks := tk' }) :
    wpAny (model PP w) (ktrTop dp un gd cn ⟨.function, nm, ig, ic, mo⟩ L a ccd cl outer) (call (.ref 203) [.ref P.x2]) Q E s := by
  have n1 := N _ (.head _)
  have n2 := N _ (.tail _ (.head _))
  refine wpAny_call (read_cons (dp := dp) (un := un) B F X T (by omega) (by omega) O (news_sub N fun p hp => .tail _ (.tail _ hp)) hz ?_)
  intro ln' tl' le' h' tk' hln keep F' N'
  refine k ln' tl' le' h' tk' hln F' ?_
  intro p hp
  rcases List.mem_cons.mp hp with rfl | hp
  · exact ⟨keep _ _ n1.1 hi, n1.2⟩
  rcases List.mem_cons.mp hp with rfl | hp
  · exact ⟨keep _ _ n2.1 hq, n2.2⟩
  exact N' p hp
end
end
theorem cx4 {p : Program} {w : World} {A : Around} {Q : Value → Shared → Prop} {E : Value → Shared → Prop} {s : Shared} (h : wpAny (model p w) A (pyIter Value.none) Q E s) : wpAny (model p w) A (pyIter Value.none) Q E s := by first | (walk1; fail "x") | exact h
section
local macro_rules | `(tactic| walk_at "exec For Name Name cons nil") => `(tactic| (k_here; refine Stop.out ?_))
local macro_rules | `(tactic| walk_at "call builtin:iter") => `(tactic| (k_here; (with_reducible show wpAny _ _ (call (Value.builtin "iter") [Value.ref _, _]) _ _ _); refine Stop.out ?_))
local macro_rules | `(tactic| walk_at "getAttr ref") => `(tactic| (k_here; (with_reducible show wpAny _ _ (getAttr (Value.ref _) (PySem.Str.ofString "_read_char") _) _ _ _); refine Stop.out ?_))
local macro_rules | `(tactic| walk_at "call ref") => `(tactic| (k_here; (with_reducible show wpAny _ _ (call (Value.ref 203) _) _ _ _); refine Stop.out ?_))
local macro_rules | `(tactic| walk_at "TurnEnd") => `(tactic| (refine Stop.out ?_))
section
variable {w : World} {dp un : Nat} {gd : Option (List Code)} {cn : Str} {nm : List (Str × NameKind)} {ig ic : Bool} {mo : List (Str × Const)} {a : Addr} {ccd : Value} {cl : List (Str × Addr)} {outer : List Env} {A₀ : Around} {base h₀ : Heap} {L : Addr} {m : Str → Option Value} {news : List (Addr × Obj)} {s : Shared} {p : Program} {loose : List Str} {mean : ExcName → Option Value} {mg mb : Str → Option Value} {R : Result → Shared → Prop}
def TokSt (w : World) (P : LexP) (g : Heap) (L' it q : Addr) (pe : Nat) (s : Shared) (T : Int) (live : Bool) (cs : List Nat) (acc : Str) (st : Shared) : Prop :=
  ∃ h tk m1 ln1 tl1 vs1 le1 ta ci t0, st = { s with heap := h, toks := tk } ∧ Fr g L' h m1 ∧ m1 (Str.ofString "self") = some (.ref P.x2) ∧ m1 (Str.ofString "fiter") = some (.ref it) ∧ m1 (Str.ofString "token") = some (.str acc ta) ∧
    ci = (if live = true then ciObj (.ref q) (.str (Str.ofString "") t0) false else ciObj .none .none true) ∧
    News g L' h ((it, ci) :: (q, methodObj (.ref 203) (.ref P.x2)) :: lexLed w P ln1 tl1 [] pe vs1.reverse le1) ∧ Chs vs1 cs ∧ vs1.length + acc.cps.size < sizeLine ∧ ln1 + nls cs = T
def TokEnd (w : World) (P : LexP) (g : Heap) (L' it q : Addr) (pe : Nat) (s : Shared) (T : Int) (rest tok : List Nat) (f : Flow) (st : Shared) : Prop :=
  (f = .next ∧ TokSt w P g L' it q pe s T false rest ⟨tok.toArray⟩ st) ∨ (∃ tt live acc, f = .ret (.str ⟨tok.toArray⟩ tt) ∧ TokSt w P g L' it q pe s T live rest acc st)
theorem lexA_ws {c : Nat} {r : List Nat} {o} (hc : ws c = true) (h : lexA (c :: r) = some o) : lexA r = some o := by simpa [lexA, hc] using h
theorem lexA_quote {r : List Nat} {o} (h : lexA (34 :: r) = some o) : lexQ r [] = some o := by simpa [lexA, ws] using h
theorem lexA_back {r : List Nat} {o} (h : lexA (92 :: r) = some o) : ∃ d r', r = d :: r' ∧ lexB r' [d] = some o := by
  cases r with
  | nil => simp [lexA, ws] at h
  | cons d r' => exact ⟨d, r', rfl, by simpa [lexA, ws] using h⟩
theorem lexA_other {c : Nat} {r : List Nat} {o} (h1 : ws c = false) (h2 : c ≠ 34) (h3 : c ≠ 92) (h : lexA (c :: r) = some o) : lexB r [c] = some o := by simpa [lexA, h1, h2, h3] using h
set_option maxHeartbeats 0 in
theorem tok_lex {P : LexP} {ln : Int} {tl : Tok} {vs : List Value} {pe le : Nat} {cs tok rest : List Nat} (B : Below A₀ base outer h₀) (F : Fr h₀ L s.heap m) (X : (hd2.heap_1 w.params).In h₀) (T : Top p loose mean mg mb h₀) (hd : dp + 10 < recursionLimit) (hu : un + 100 < cLine) (O : P.Ok) (N : News h₀ L s.heap (lexLed w P ln tl [] pe vs.reverse le)) (hc : Chs vs cs) (hz : vs.length < sizeLine)
    (hlex : lexA cs = some (tok, rest))
    (hret : ∀ (ln' : Int) tl' vs' le' tt h' tk', ln' + nls rest = ln + nls cs → Chs vs' rest → (∀ (b : Nat) o, s.heap.get? b = some o → b ∉ P.addrs → h'.get? b = some o) → Fr h₀ L h' m →
      News h₀ L h' (lexLed w P ln' tl' [] pe vs'.reverse le') → R (.ok (.ret (.str ⟨tok.toArray⟩ tt))) { s with heap := h', toks := tk' }) :
    codeAny (model PP w) (ktrTop dp un gd cn ⟨.function, nm, ig, ic, mo⟩ L a ccd cl outer) (.call (.ref 210) ⟨[.ref P.x2], []⟩) R s := by
  have O' := O
  obtain ⟨ocd, ocf, ovq, oord⟩ := O
  unfold lexLed at N
  k_dflt (refine' codeK ?k1 ?k2 ?k3 ?k4 ?k5 ?kA ?kF ?kK ?k6 ?k7 ?k8 ?k9 ?kB ?_ ?c2 ?c3 ?c4 ?c5; (case kA => exact rfl); (case kF => exact rfl); (case kK => exact rfl); (case k1 => exact B); (case k2 => exact F); (case k3 => exact X); (case k4 => exact N); (case k5 => exact T); (case k6 => k_is); (case k7 => k_is); (case k8 => k_room); (case k9 => first | exact BindsTo.of_eq rfl | exact binds_K (by k_in) rfl (by k_is) rfl rfl rfl); (case c5 => decide); (case kB => exact locs rfl); (case c2 => exact rfl); (case c3 => exact rfl); (case c4 => exact rfl); k_whole; intro g L' h' kg kl l1 FG F' N' B' X' T'; (try k_lt l1); (have codeHd := codeHd_of_K (c := 230) (P := 226) X' (by kernel_rfl)); (try dsimp only); (try k_lift B'); (try k_fold))
  k_steps
  unfold Stop
  k_dflt (refine' kbm_bound ?k1 ?k2 ?k3 ?k4 ?k5 ?k6 ?k7 ?k8 ?k9 ?k10 ?k11 ?k12 ?_; (case k4 => k_inst); (case k1 => k_asm); (case k2 => k_asm); (case k7 => k_is); (case k3 => k_asm); (case k5 => k_is); (case k6 => k_is); (case k8 => k_is); (case k9 => k_is); (case k10 => k_is); (case k11 => decide +kernel); (case k12 => k_get); k_whole)
  intro q h2 F2 N2 l2
  k_lt l2
  k_sweep
  k_steps
  unfold Stop
  k_dflt (refine' iter2_K ?F ?N ?M ?_; (case F => k_asm); (case N => k_asm); (case M => k_mem); k_whole)
  intro it h3 F3 N3 l3
  k_lt l3
  k_sweep
  k_steps
  unfold Stop
  rename Fr g L' _ _ => Ff
  rename News g L' _ _ => Nf
  refine wpAny_mono (Q := TokEnd w P g L' it q pe s (ln + nls cs) rest tok) (E := fun _ _ => False) ?loop ?post (fun _ _ x => x.elim)
  case loop =>
    refine for_inv it (cs.length + 2) (fun n st => (∃ cs1, TokSt w P g L' it q pe s (ln + nls cs) true cs1 (Str.ofString "") st ∧ lexA cs1 = some (tok, rest) ∧ n = cs1.length + 2) ∨ (n = 1 ∧ TokSt w P g L' it q pe s (ln + nls cs) false rest ⟨tok.toArray⟩ st)) ?_ ?_ .never
    · k_dflt (refine' nameX_L ?F ?v ?_ ?a ?b; (case F => exact Ff); (case a => rfl); (case b => rfl); (case v => rfl))
      exact ci_iter (Nf _ (.head _)).1 ⟨rfl, .inl ⟨cs, ⟨_, _, _, _, _, _, _, _, _, _, rfl, Ff, rfl, rfl, rfl, rfl, Nf, hc, hz, rfl⟩, hlex, rfl⟩⟩
    clear Ff Nf
    rintro n st (⟨cs1, ⟨h, tk, m1, ln1, tl1, vs1, le1, ta, ci, t0, rfl, Fm, ms, mf, mt, rfl, Nm, hc1, hz1, hT⟩, hl, rfl⟩ | ⟨rfl, h, tk, m1, ln1, tl1, vs1, le1, ta, ci, t0, rfl, Fm, ms, mf, mt, rfl, Nm, hc1, hz1, hT⟩)
    · rw [str_empty] at mt
      cases cs1 with
      | nil =>
        obtain rfl := hc1.nil_inv
        obtain ⟨rfl, rfl⟩ : [] = tok ∧ [] = rest := by simpa [lexA] using hl
        refine next_nil (dp := dp + 1) (un := un + 3) B' Fm X' T' (by omega) (by omega) O' Nm (by simp only [LexP.addrs, List.mem_cons, List.not_mem_nil, or_false, not_or]; omega) (by simp only [LexP.addrs, List.mem_cons, List.not_mem_nil, or_false, not_or]; omega) (by omega) ?_
        intro h4 tk4 F4 N4
        exact .inl ⟨rfl, _, _, _, _, _, [], _, _, _, t0, rfl, F4, ms, mf, mt, rfl, N4, hc1, hz1, hT⟩
      | cons c r =>
        obtain ⟨tc, vs2, rfl, hc2⟩ := hc1.cons_inv
        rw [List.reverse_cons] at Nm
        simp only [List.length_cons, str_empty, List.size_toArray, List.length_nil] at hz1
        refine next_cons (dp := dp + 1) (un := un + 3) B' Fm X' T' (by omega) (by omega) O' (by omega) Nm (by simp only [LexP.addrs, List.mem_cons, List.not_mem_nil, or_false, not_or]; omega) (by simp only [LexP.addrs, List.mem_cons, List.not_mem_nil, or_false, not_or]; omega) ?_
        intro ln4 tl4 le4 h4 tk4 hln F4 N4
        clear Nm Fm
        have hT' : ln4 + nls r = ln + nls cs := by rw [nls_cons] at hT; split at hln <;> rename_i hnl <;> simp only [hnl, if_true, if_false] at hT <;> omega
        unfold TurnOf
        dsimp only
        k_steps
        all_goals (try simp only [ws_in, one_quote, one_back, Bool.not_eq_true', Bool.not_eq_false', decide_eq_true_eq, decide_eq_false_iff_not] at *)
        · -- a quotation mark
          unfold Stop
          (rename Fr g L' _ _ => F9); (rename News g L' _ _ => N9); (try simp only [str_push] at F9)
          (rename c = 34 => hq34); subst hq34
          have hQ := lexA_quote hl
          refine wpAny_mono (Q := TokEnd w P g L' it q pe s (ln + nls cs) rest tok) (E := fun _ _ => False) ?lq ?pq (fun _ _ x => x.elim)
          case pq =>
            rintro f st (⟨rfl, hst⟩ | ⟨tt, live, acc, rfl, hst⟩)
            · dsimp only
              k_steps
              unfold Stop TurnEnd
              exact ⟨1, by omega, .inr ⟨rfl, hst⟩⟩
            · dsimp only
              unfold TurnEnd
              exact .inr ⟨tt, live, acc, rfl, hst⟩
          case lq =>
            refine for_inv it r.length (fun n st => ∃ cs2 acc, TokSt w P g L' it q pe s (ln + nls cs) true cs2 ⟨acc.toArray⟩ st ∧ lexQ cs2 acc = some (tok, rest) ∧ n = cs2.length) ?_ ?_ .never
            · k_dflt (refine' nameX_L ?F ?v ?_ ?a ?b; (case F => exact F9); (case a => rfl); (case b => rfl); (case v => ktr_unf))
              exact ci_iter (N9 _ (.head _)).1 ⟨rfl, r, [], ⟨_, _, _, _, _, _, _, _, _, _, rfl, F9, by ktr_unf, by ktr_unf, by ktr_unf, rfl, N9, hc2, by ((try simp only [List.length_cons, List.size_toArray, List.length_append, List.length_nil, str_empty] at *); omega), hT'⟩, hQ, rfl⟩
            clear F9 N9
            rintro n st ⟨cs2, acc, ⟨h2, tk2, m12, ln12, tl12, vs12, le12, ta2, ci2, t02, rfl, Fm2, ms2, mf2, mt2, rfl, Nm2, hc12, hz12, hT2⟩, hl2, rfl⟩
            cases cs2 with
            | nil => simp [lexQ] at hl2
            | cons c2 r2 =>
              obtain ⟨tc2, vs3, rfl, hc3⟩ := hc12.cons_inv
              rw [List.reverse_cons] at Nm2
              simp only [List.length_cons, List.size_toArray] at hz12
              refine next_cons (dp := dp + 1) (un := un + 3) B' Fm2 X' T' (by omega) (by omega) O' (by omega) Nm2 (by simp only [LexP.addrs, List.mem_cons, List.not_mem_nil, or_false, not_or]; omega) (by simp only [LexP.addrs, List.mem_cons, List.not_mem_nil, or_false, not_or]; omega) ?_
              intro ln5 tl5 le5 h5 tk5 hln5 F5 N5
              clear Nm2 Fm2
              have hT2' : ln5 + nls r2 = ln + nls cs := by rw [nls_cons] at hT2; split at hln5 <;> rename_i hnl <;> simp only [hnl, if_true, if_false] at hT2 <;> omega
              unfold TurnOf
              dsimp only
              k_steps
              all_goals (try simp only [ws_in, one_quote, one_back, Bool.not_eq_true', Bool.not_eq_false', decide_eq_true_eq, decide_eq_false_iff_not] at *)
              · -- the closing sign
                (rename c2 = 34 => hb); subst hb
                obtain ⟨rfl, rfl⟩ := Prod.mk.inj (lexQ_quote hl2)
                unfold Stop TurnEnd
                (rename Fr g L' _ _ => F9); (rename News g L' _ _ => N9); (try simp only [str_push] at F9)
                exact .inr ⟨_, true, _, rfl, ⟨_, _, _, _, _, _, _, _, _, _, rfl, F9, by ktr_unf, by ktr_unf, by ktr_unf, rfl, N9, hc3, by ((try simp only [List.length_cons, List.size_toArray, List.length_append, List.length_nil, str_empty] at *); omega), hT2'⟩⟩
              · -- a backslash
                (rename c2 = 92 => hb); subst hb
                obtain ⟨d9, r9, rfl, hl9⟩ := lexQ_back hl2
                unfold Stop
                (rename Fr g L' _ _ => F9); (rename News g L' _ _ => N9)
                obtain ⟨td, vs9, rfl, hc9⟩ := hc3.cons_inv
                rw [List.reverse_cons] at N9
                refine read_use (dp := dp + 1) (un := un + 3) B' F9 X' T' (by omega) (by omega) O' (by simp only [List.length_cons, List.size_toArray] at *; omega) N9 (by simp only [LexP.addrs, List.mem_cons, List.not_mem_nil, or_false, not_or]; omega) (by simp only [LexP.addrs, List.mem_cons, List.not_mem_nil, or_false, not_or]; omega) ?_
                intro ln9 tl9 le9 h9 tk9 hln9 F8 N8
                clear F9 N9
                have hT2'' : ln9 + nls r9 = ln + nls cs := by rw [nls_cons] at hT2'; split at hln9 <;> rename_i hnl <;> simp only [hnl, if_true, if_false] at hT2' <;> omega
                k_steps
                unfold Stop TurnEnd
                (rename Fr g L' _ _ => F9); (rename News g L' _ _ => N9); (try simp only [str_push] at F9)
                exact ⟨r9.length, by simp only [List.length_cons]; omega, r9, acc ++ [d9], ⟨_, _, _, _, _, _, _, _, _, _, rfl, F9, by ktr_unf, by ktr_unf, by ktr_unf, rfl, N9, hc9, by ((try simp only [List.length_cons, List.size_toArray, List.length_append, List.length_nil, str_empty] at *); omega), hT2''⟩, hl9, rfl⟩
              · -- another sign
                (rename ¬ c2 = 92 => hb); (rename ¬ c2 = 34 => hw)
                unfold Stop TurnEnd
                (rename Fr g L' _ _ => F9); (rename News g L' _ _ => N9); (try simp only [str_push] at F9)
                exact ⟨r2.length, by simp only [List.length_cons]; omega, r2, acc ++ [c2], ⟨_, _, _, _, _, _, _, _, _, _, rfl, F9, by ktr_unf, by ktr_unf, by ktr_unf, rfl, N9, hc3, by ((try simp only [List.length_cons, List.size_toArray, List.length_append, List.length_nil, str_empty] at *); omega), hT2'⟩, lexQ_other hw hb hl2, rfl⟩
        · -- a backslash
          (rename c = 92 => hb); subst hb
          obtain ⟨d9, r9, rfl, hl9⟩ := lexA_back hl
          unfold Stop
          (rename Fr g L' _ _ => F9); (rename News g L' _ _ => N9)
          obtain ⟨td, vs9, rfl, hc9⟩ := hc2.cons_inv
          rw [List.reverse_cons] at N9
          refine read_use (dp := dp + 1) (un := un + 3) B' F9 X' T' (by omega) (by omega) O' (by simp only [List.length_cons, List.size_toArray] at *; omega) N9 (by simp only [LexP.addrs, List.mem_cons, List.not_mem_nil, or_false, not_or]; omega) (by simp only [LexP.addrs, List.mem_cons, List.not_mem_nil, or_false, not_or]; omega) ?_
          intro ln9 tl9 le9 h9 tk9 hln9 F8 N8
          clear F9 N9
          have hT'' : ln9 + nls r9 = ln + nls cs := by rw [nls_cons] at hT'; split at hln9 <;> rename_i hnl <;> simp only [hnl, if_true, if_false] at hT' <;> omega
          k_steps
          unfold Stop
          (rename Fr g L' _ _ => F9); (rename News g L' _ _ => N9); (try simp only [str_push] at F9)
          refine wpAny_mono (Q := TokEnd w P g L' it q pe s (ln + nls cs) rest tok) (E := fun _ _ => False) ?lb ?pb (fun _ _ x => x.elim)
          case pb =>
            rintro f st (⟨rfl, hst⟩ | ⟨tt, live, acc, rfl, hst⟩)
            · dsimp only
              k_steps
              unfold Stop TurnEnd
              exact ⟨1, by omega, .inr ⟨rfl, hst⟩⟩
            · dsimp only
              unfold TurnEnd
              exact .inr ⟨tt, live, acc, rfl, hst⟩
          case lb =>
            refine for_inv it (r9.length + 1) (fun n st => ∃ cs2 acc, TokSt w P g L' it q pe s (ln + nls cs) true cs2 ⟨acc.toArray⟩ st ∧ lexB cs2 acc = some (tok, rest) ∧ n = cs2.length + 1) ?_ ?_ .never
            · k_dflt (refine' nameX_L ?F ?v ?_ ?a ?b; (case F => exact F9); (case a => rfl); (case b => rfl); (case v => ktr_unf))
              exact ci_iter (N9 _ (.head _)).1 ⟨rfl, r9, [d9], ⟨_, _, _, _, _, _, _, _, _, _, rfl, F9, by ktr_unf, by ktr_unf, by ktr_unf, rfl, N9, hc9, by ((try simp only [List.length_cons, List.size_toArray, List.length_append, List.length_nil, str_empty] at *); omega), hT''⟩, hl9, rfl⟩
            clear F9 N9
            rintro n st ⟨cs2, acc, ⟨h2, tk2, m12, ln12, tl12, vs12, le12, ta2, ci2, t02, rfl, Fm2, ms2, mf2, mt2, rfl, Nm2, hc12, hz12, hT2⟩, hl2, rfl⟩
            cases cs2 with
            | nil =>
              obtain rfl := hc12.nil_inv
              obtain ⟨rfl, rfl⟩ : acc = tok ∧ [] = rest := by simpa [lexB] using hl2
              refine next_nil (dp := dp + 1) (un := un + 3) B' Fm2 X' T' (by omega) (by omega) O' Nm2 (by simp only [LexP.addrs, List.mem_cons, List.not_mem_nil, or_false, not_or]; omega) (by simp only [LexP.addrs, List.mem_cons, List.not_mem_nil, or_false, not_or]; omega) (by omega) ?_
              intro h4 tk4 F4 N4
              exact .inl ⟨rfl, _, _, _, _, _, [], _, _, _, t02, rfl, F4, ms2, mf2, mt2, rfl, N4, hc12, hz12, hT2⟩
            | cons c2 r2 =>
              obtain ⟨tc2, vs3, rfl, hc3⟩ := hc12.cons_inv
              rw [List.reverse_cons] at Nm2
              simp only [List.length_cons, List.size_toArray] at hz12
              refine next_cons (dp := dp + 1) (un := un + 3) B' Fm2 X' T' (by omega) (by omega) O' (by omega) Nm2 (by simp only [LexP.addrs, List.mem_cons, List.not_mem_nil, or_false, not_or]; omega) (by simp only [LexP.addrs, List.mem_cons, List.not_mem_nil, or_false, not_or]; omega) ?_
              intro ln5 tl5 le5 h5 tk5 hln5 F5 N5
              clear Nm2 Fm2
              have hT2' : ln5 + nls r2 = ln + nls cs := by rw [nls_cons] at hT2; split at hln5 <;> rename_i hnl <;> simp only [hnl, if_true, if_false] at hT2 <;> omega
              unfold TurnOf
              dsimp only
              k_steps
              all_goals (try simp only [ws_in, one_quote, one_back, Bool.not_eq_true', Bool.not_eq_false', decide_eq_true_eq, decide_eq_false_iff_not] at *)
              · -- a backslash
                (rename c2 = 92 => hb); subst hb
                obtain ⟨d9, r9, rfl, hl9⟩ := lexB_back hl2
                unfold Stop
                (rename Fr g L' _ _ => F9); (rename News g L' _ _ => N9)
                obtain ⟨td, vs9, rfl, hc9⟩ := hc3.cons_inv
                rw [List.reverse_cons] at N9
                refine read_use (dp := dp + 1) (un := un + 3) B' F9 X' T' (by omega) (by omega) O' (by simp only [List.length_cons, List.size_toArray] at *; omega) N9 (by simp only [LexP.addrs, List.mem_cons, List.not_mem_nil, or_false, not_or]; omega) (by simp only [LexP.addrs, List.mem_cons, List.not_mem_nil, or_false, not_or]; omega) ?_
                intro ln9 tl9 le9 h9 tk9 hln9 F8 N8
                clear F9 N9
                have hT2'' : ln9 + nls r9 = ln + nls cs := by rw [nls_cons] at hT2'; split at hln9 <;> rename_i hnl <;> simp only [hnl, if_true, if_false] at hT2' <;> omega
                k_steps
                unfold Stop TurnEnd
                (rename Fr g L' _ _ => F9); (rename News g L' _ _ => N9); (try simp only [str_push] at F9)
                exact ⟨r9.length + 1, by simp only [List.length_cons]; omega, r9, acc ++ [d9], ⟨_, _, _, _, _, _, _, _, _, _, rfl, F9, by ktr_unf, by ktr_unf, by ktr_unf, rfl, N9, hc9, by ((try simp only [List.length_cons, List.size_toArray, List.length_append, List.length_nil, str_empty] at *); omega), hT2''⟩, hl9, rfl⟩
              · -- another sign
                (rename ¬ c2 = 92 => hb); (rename ws c2 = false => hw)
                unfold Stop TurnEnd
                (rename Fr g L' _ _ => F9); (rename News g L' _ _ => N9); (try simp only [str_push] at F9)
                exact ⟨r2.length + 1, by simp only [List.length_cons]; omega, r2, acc ++ [c2], ⟨_, _, _, _, _, _, _, _, _, _, rfl, F9, by ktr_unf, by ktr_unf, by ktr_unf, rfl, N9, hc3, by ((try simp only [List.length_cons, List.size_toArray, List.length_append, List.length_nil, str_empty] at *); omega), hT2'⟩, lexB_other hw hb hl2, rfl⟩
              · -- a white sign: the word ends
                (rename ws c2 = true => hw)
                obtain ⟨rfl, rfl⟩ := Prod.mk.inj (lexB_ws hw hl2)
                unfold Stop TurnEnd
                (rename Fr g L' _ _ => F9); (rename News g L' _ _ => N9); (try simp only [str_push] at F9)
                exact .inr ⟨_, true, _, rfl, ⟨_, _, _, _, _, _, _, _, _, _, rfl, F9, by ktr_unf, by ktr_unf, by ktr_unf, rfl, N9, hc3, by ((try simp only [List.length_cons, List.size_toArray, List.length_append, List.length_nil, str_empty] at *); omega), hT2'⟩⟩
        · -- another sign
          (rename ¬ c = 92 => hb); (rename ws c = false => hw); (rename ¬ c = 34 => hb2)
          have hB := lexA_other hw hb2 hb hl
          unfold Stop
          (rename Fr g L' _ _ => F9); (rename News g L' _ _ => N9); (try simp only [str_push] at F9)
          refine wpAny_mono (Q := TokEnd w P g L' it q pe s (ln + nls cs) rest tok) (E := fun _ _ => False) ?lb ?pb (fun _ _ x => x.elim)
          case pb =>
            rintro f st (⟨rfl, hst⟩ | ⟨tt, live, acc, rfl, hst⟩)
            · dsimp only
              k_steps
              unfold Stop TurnEnd
              exact ⟨1, by omega, .inr ⟨rfl, hst⟩⟩
            · dsimp only
              unfold TurnEnd
              exact .inr ⟨tt, live, acc, rfl, hst⟩
          case lb =>
            refine for_inv it (r.length + 1) (fun n st => ∃ cs2 acc, TokSt w P g L' it q pe s (ln + nls cs) true cs2 ⟨acc.toArray⟩ st ∧ lexB cs2 acc = some (tok, rest) ∧ n = cs2.length + 1) ?_ ?_ .never
            · k_dflt (refine' nameX_L ?F ?v ?_ ?a ?b; (case F => exact F9); (case a => rfl); (case b => rfl); (case v => ktr_unf))
              exact ci_iter (N9 _ (.head _)).1 ⟨rfl, r, [c], ⟨_, _, _, _, _, _, _, _, _, _, rfl, F9, by ktr_unf, by ktr_unf, by ktr_unf, rfl, N9, hc2, by ((try simp only [List.length_cons, List.size_toArray, List.length_append, List.length_nil, str_empty] at *); omega), hT'⟩, hB, rfl⟩
            clear F9 N9
            rintro n st ⟨cs2, acc, ⟨h2, tk2, m12, ln12, tl12, vs12, le12, ta2, ci2, t02, rfl, Fm2, ms2, mf2, mt2, rfl, Nm2, hc12, hz12, hT2⟩, hl2, rfl⟩
            cases cs2 with
            | nil =>
              obtain rfl := hc12.nil_inv
              obtain ⟨rfl, rfl⟩ : acc = tok ∧ [] = rest := by simpa [lexB] using hl2
              refine next_nil (dp := dp + 1) (un := un + 3) B' Fm2 X' T' (by omega) (by omega) O' Nm2 (by simp only [LexP.addrs, List.mem_cons, List.not_mem_nil, or_false, not_or]; omega) (by simp only [LexP.addrs, List.mem_cons, List.not_mem_nil, or_false, not_or]; omega) (by omega) ?_
              intro h4 tk4 F4 N4
              exact .inl ⟨rfl, _, _, _, _, _, [], _, _, _, t02, rfl, F4, ms2, mf2, mt2, rfl, N4, hc12, hz12, hT2⟩
            | cons c2 r2 =>
              obtain ⟨tc2, vs3, rfl, hc3⟩ := hc12.cons_inv
              rw [List.reverse_cons] at Nm2
              simp only [List.length_cons, List.size_toArray] at hz12
              refine next_cons (dp := dp + 1) (un := un + 3) B' Fm2 X' T' (by omega) (by omega) O' (by omega) Nm2 (by simp only [LexP.addrs, List.mem_cons, List.not_mem_nil, or_false, not_or]; omega) (by simp only [LexP.addrs, List.mem_cons, List.not_mem_nil, or_false, not_or]; omega) ?_
              intro ln5 tl5 le5 h5 tk5 hln5 F5 N5
              clear Nm2 Fm2
              have hT2' : ln5 + nls r2 = ln + nls cs := by rw [nls_cons] at hT2; split at hln5 <;> rename_i hnl <;> simp only [hnl, if_true, if_false] at hT2 <;> omega
              unfold TurnOf
              dsimp only
              k_steps
              all_goals (try simp only [ws_in, one_quote, one_back, Bool.not_eq_true', Bool.not_eq_false', decide_eq_true_eq, decide_eq_false_iff_not] at *)
              · -- a backslash
                (rename c2 = 92 => hb); subst hb
                obtain ⟨d9, r9, rfl, hl9⟩ := lexB_back hl2
                unfold Stop
                (rename Fr g L' _ _ => F9); (rename News g L' _ _ => N9)
                obtain ⟨td, vs9, rfl, hc9⟩ := hc3.cons_inv
                rw [List.reverse_cons] at N9
                refine read_use (dp := dp + 1) (un := un + 3) B' F9 X' T' (by omega) (by omega) O' (by simp only [List.length_cons, List.size_toArray] at *; omega) N9 (by simp only [LexP.addrs, List.mem_cons, List.not_mem_nil, or_false, not_or]; omega) (by simp only [LexP.addrs, List.mem_cons, List.not_mem_nil, or_false, not_or]; omega) ?_
                intro ln9 tl9 le9 h9 tk9 hln9 F8 N8
                clear F9 N9
                have hT2'' : ln9 + nls r9 = ln + nls cs := by rw [nls_cons] at hT2'; split at hln9 <;> rename_i hnl <;> simp only [hnl, if_true, if_false] at hT2' <;> omega
                k_steps
                unfold Stop TurnEnd
                (rename Fr g L' _ _ => F9); (rename News g L' _ _ => N9); (try simp only [str_push] at F9)
                exact ⟨r9.length + 1, by simp only [List.length_cons]; omega, r9, acc ++ [d9], ⟨_, _, _, _, _, _, _, _, _, _, rfl, F9, by ktr_unf, by ktr_unf, by ktr_unf, rfl, N9, hc9, by ((try simp only [List.length_cons, List.size_toArray, List.length_append, List.length_nil, str_empty] at *); omega), hT2''⟩, hl9, rfl⟩
              · -- another sign
                (rename ¬ c2 = 92 => hb); (rename ws c2 = false => hw)
                unfold Stop TurnEnd
                (rename Fr g L' _ _ => F9); (rename News g L' _ _ => N9); (try simp only [str_push] at F9)
                exact ⟨r2.length + 1, by simp only [List.length_cons]; omega, r2, acc ++ [c2], ⟨_, _, _, _, _, _, _, _, _, _, rfl, F9, by ktr_unf, by ktr_unf, by ktr_unf, rfl, N9, hc3, by ((try simp only [List.length_cons, List.size_toArray, List.length_append, List.length_nil, str_empty] at *); omega), hT2'⟩, lexB_other hw hb hl2, rfl⟩
              · -- a white sign: the word ends
                (rename ws c2 = true => hw)
                obtain ⟨rfl, rfl⟩ := Prod.mk.inj (lexB_ws hw hl2)
                unfold Stop TurnEnd
                (rename Fr g L' _ _ => F9); (rename News g L' _ _ => N9); (try simp only [str_push] at F9)
                exact .inr ⟨_, true, _, rfl, ⟨_, _, _, _, _, _, _, _, _, _, rfl, F9, by ktr_unf, by ktr_unf, by ktr_unf, rfl, N9, hc3, by ((try simp only [List.length_cons, List.size_toArray, List.length_append, List.length_nil, str_empty] at *); omega), hT2'⟩⟩
        · -- a white sign
          (rename ws c = true => hw)
          unfold Stop TurnEnd
          (rename Fr g L' _ _ => F9); (rename News g L' _ _ => N9); (try simp only [str_push] at F9)
          exact ⟨r.length + 2, by simp only [List.length_cons]; omega, .inl ⟨r, ⟨_, _, _, _, _, _, _, _, _, _, rfl, F9, by ktr_unf, by ktr_unf, by ktr_unf, rfl, N9, hc2, by ((try simp only [List.length_cons, List.size_toArray, List.length_append, List.length_nil, str_empty] at *); omega), hT'⟩, lexA_ws hw hl, rfl⟩⟩
    · refine ci_done rfl (Nm _ (.head _)).1 fun h4 hk => ?_
      refine .inl ⟨rfl, h4, tk, m1, ln1, tl1, vs1, le1, ta, _, t0, rfl, ⟨?_, fun b o e => hk _ _ (Fm.keep b o e), Fm.above⟩, ms, mf, mt, rfl, fun p hp => ⟨hk _ _ (Nm p hp).1, (Nm p hp).2⟩, hc1, hz1, hT⟩
      obtain ⟨oL, es, ep, hL, r⟩ := Fm.ns
      exact ⟨oL, es, ep, hk _ _ hL, r⟩
  case post =>
    rintro f st (⟨rfl, h, tk, m1, ln1, tl1, vs1, le1, ta, ci, t0, rfl, Fm, ms, mf, mt, rfl, Nm, hc1, hz1, hT⟩ | ⟨tt, live, acc, rfl, h, tk, m1, ln1, tl1, vs1, le1, ta, ci, t0, rfl, Fm, ms, mf, mt, rfl, Nm, hc1, hz1, hT⟩)
    · dsimp only
      k_steps
      rename Fr g L' _ _ => F9
      refine hret ln1 tl1 vs1 le1 _ _ _ hT hc1 (fun b o e hb => F9.keep b o (kg b o e hb)) (by assumption) ?_
      rename News h₀ L _ _ => N9
      exact news_sub N9 fun p hp => .tail _ (.tail _ hp)
    · dsimp only
      k_steps
      rename Fr g L' _ _ => F9
      refine hret ln1 tl1 vs1 le1 _ _ _ hT hc1 (fun b o e hb => F9.keep b o (kg b o e hb)) (by assumption) ?_
      rename News h₀ L _ _ => N9
      exact news_sub N9 fun p hp => .tail _ (.tail _ hp)
end
end
theorem cx5 {p : Program} {w : World} {A : Around} {Q : Value → Shared → Prop} {E : Value → Shared → Prop} {s : Shared} (h : wpAny (model p w) A (pyIter Value.none) Q E s) : wpAny (model p w) A (pyIter Value.none) Q E s := by first | (walk1; fail "x") | exact h
section
section
variable {w : World} {dp un : Nat} {gd : Option (List Code)} {cn : Str} {nm : List (Str × NameKind)} {ig ic : Bool} {mo : List (Str × Const)} {a : Addr} {ccd : Value} {cl : List (Str × Addr)} {outer : List Env} {A₀ : Around} {base h₀ : Heap} {L : Addr} {m : Str → Option Value} {news : List (Addr × Obj)} {s : Shared} {p : Program} {loose : List Str} {mean : ExcName → Option Value} {mg mb : Str → Option Value} {R : Result → Shared → Prop}
set_option maxHeartbeats 0 in
theorem tok_pop {P : LexP} {ln : Int} {tl : Tok} {v0 : Value} {pv sg : List Value} {pe le : Nat} (B : Below A₀ base outer h₀) (F : Fr h₀ L s.heap m) (X : (hd2.heap_1 w.params).In h₀) (T : Top p loose mean mg mb h₀) (hd : dp + 10 < recursionLimit) (hu : un + 100 < cLine) (O : P.Ok) (N : News h₀ L s.heap (lexLed w P ln tl (v0 :: pv) pe sg le)) (hz : pv.length + 1 < sizeLine)
    (hret : ∀ pe' h' tk', (∀ (b : Nat) o, s.heap.get? b = some o → b ∉ P.addrs → h'.get? b = some o) → Fr h₀ L h' m →
      News h₀ L h' (lexLed w P ln tl pv pe' sg le) → R (.ok (.ret v0)) { s with heap := h', toks := tk' }) :
    codeAny (model PP w) (ktrTop dp un gd cn ⟨.function, nm, ig, ic, mo⟩ L a ccd cl outer) (.call (.ref 210) ⟨[.ref P.x2], []⟩) R s := by
  obtain ⟨ocd, ocf, ovq, oord⟩ := O
  unfold lexLed at N
  k_dflt (refine' codeK ?k1 ?k2 ?k3 ?k4 ?k5 ?kA ?kF ?kK ?k6 ?k7 ?k8 ?k9 ?kB ?_ ?c2 ?c3 ?c4 ?c5; (case kA => exact rfl); (case kF => exact rfl); (case kK => exact rfl); (case k1 => exact B); (case k2 => exact F); (case k3 => exact X); (case k4 => exact N); (case k5 => exact T); (case k6 => k_is); (case k7 => k_is); (case k8 => k_room); (case k9 => first | exact BindsTo.of_eq rfl | exact binds_K (by k_in) rfl (by k_is) rfl rfl rfl); (case c5 => decide); (case kB => exact locs rfl); (case c2 => exact rfl); (case c3 => exact rfl); (case c4 => exact rfl); k_whole; intro g L' h' kg kl l1 FG F' N' B' X' T'; (try k_lt l1); (have codeHd := codeHd_of_K (c := 230) (P := 226) X' (by kernel_rfl)); (try dsimp only); (try k_lift B'); (try k_fold))
  k_steps
  rename Fr g _ _ _ => Fg
  exact hret _ _ _ (fun b o e hb => Fg.keep b o (kg b o e hb)) (by assumption) (by assumption)
set_option maxHeartbeats 0 in
theorem tok_push {P : LexP} {ln : Int} {tl : Tok} {v0 : Value} {pv sg : List Value} {pe le : Nat} (B : Below A₀ base outer h₀) (F : Fr h₀ L s.heap m) (X : (hd2.heap_1 w.params).In h₀) (T : Top p loose mean mg mb h₀) (hd : dp + 10 < recursionLimit) (hu : un + 100 < cLine) (O : P.Ok) (N : News h₀ L s.heap (lexLed w P ln tl pv pe sg le)) (hz : pv.length + 1 < sizeLine)
    (hret : ∀ pe' h' tk', (∀ (b : Nat) o, s.heap.get? b = some o → b ∉ P.addrs → h'.get? b = some o) → Fr h₀ L h' m →
      News h₀ L h' (lexLed w P ln tl (pv ++ [v0]) pe' sg le) → R (.ok (.ret .none)) { s with heap := h', toks := tk' }) :
    codeAny (model PP w) (ktrTop dp un gd cn ⟨.function, nm, ig, ic, mo⟩ L a ccd cl outer) (.call (.ref 217) ⟨[.ref P.x2, v0], []⟩) R s := by
  obtain ⟨ocd, ocf, ovq, oord⟩ := O
  unfold lexLed at N
  k_dflt (refine' codeK ?k1 ?k2 ?k3 ?k4 ?k5 ?kA ?kF ?kK ?k6 ?k7 ?k8 ?k9 ?kB ?_ ?c2 ?c3 ?c4 ?c5; (case kA => exact rfl); (case kF => exact rfl); (case kK => exact rfl); (case k1 => exact B); (case k2 => exact F); (case k3 => exact X); (case k4 => exact N); (case k5 => exact T); (case k6 => k_is); (case k7 => k_is); (case k8 => k_room); (case k9 => first | exact BindsTo.of_eq rfl | exact binds_K (by k_in) rfl (by k_is) rfl rfl rfl); (case c5 => decide); (case kB => exact locs rfl); (case c2 => exact rfl); (case c3 => exact rfl); (case c4 => exact rfl); k_whole; intro g L' h' kg kl l1 FG F' N' B' X' T'; (try k_lt l1); (have codeHd := codeHd_of_K (c := 230) (P := 226) X' (by kernel_rfl)); (try dsimp only); (try k_lift B'); (try k_fold))
  k_steps
  rename Fr g _ _ _ => Fg
  exact hret _ _ _ (fun b o e hb => Fg.keep b o (kg b o e hb)) (by assumption) (by assumption)
set_option maxHeartbeats 0 in
theorem strcoll_spec {x y : Str} {tx ty : Tok} (B : Below A₀ base outer h₀) (F : Fr h₀ L s.heap m) (X : (hd2.heap_1 w.params).In h₀) (T : Top p loose mean mg mb h₀) (hd : dp + 10 < recursionLimit) (hu : un + 100 < cLine)
    (hret : ∀ i t h' tk', i = b2i (decide (y.cps.toList < x.cps.toList)) - b2i (decide (x.cps.toList < y.cps.toList)) → (∀ (b : Nat) o, s.heap.get? b = some o → h'.get? b = some o) → Fr h₀ L h' m → R (.ok (.ret (.int i t))) { s with heap := h', toks := tk' }) :
    codeAny (model PP w) (ktrTop dp un gd cn ⟨.function, nm, ig, ic, mo⟩ L a ccd cl outer) (.call (.ref 182) ⟨[.str x tx, .str y ty], []⟩) R s := by
  have N : News h₀ L s.heap [] := News.nil
  k_dflt (refine' codeK ?k1 ?k2 ?k3 ?k4 ?k5 ?kA ?kF ?kK ?k6 ?k7 ?k8 ?k9 ?kB ?_ ?c2 ?c3 ?c4 ?c5; (case kA => exact rfl); (case kF => exact rfl); (case kK => exact rfl); (case k1 => exact B); (case k2 => exact F); (case k3 => exact X); (case k4 => exact N); (case k5 => exact T); (case k6 => k_is); (case k7 => k_is); (case k8 => k_room); (case k9 => first | exact BindsTo.of_eq rfl | exact binds_K (by k_in) rfl (by k_is) rfl rfl rfl); (case c5 => decide); (case kB => exact locs rfl); (case c2 => exact rfl); (case c3 => exact rfl); (case c4 => exact rfl); k_whole; intro g L' h' kg kl l1 FG F' N' B' X' T'; (try k_lt l1); (have codeHd := codeHd_of_K (c := 230) (P := 226) X' (by kernel_rfl)); (try dsimp only); (try k_lift B'); (try k_fold))
  k_steps
  rename Fr g _ _ _ => Fg
  exact hret _ _ _ _ rfl (fun b o e => Fg.keep b o (kg b o e List.not_mem_nil)) (by assumption)
end
end
theorem cx6 {p : Program} {w : World} {A : Around} {Q : Value → Shared → Prop} {E : Value → Shared → Prop} {s : Shared} (h : wpAny (model p w) A (pyIter Value.none) Q E s) : wpAny (model p w) A (pyIter Value.none) Q E s := by first | (walk1; fail "x") | exact h
section
section
variable {w : World} {dp un : Nat} {gd : Option (List Code)} {cn : Str} {nm : List (Str × NameKind)} {ig ic : Bool} {mo : List (Str × Const)} {a : Addr} {ccd : Value} {cl : List (Str × Addr)} {outer : List Env} {A₀ : Around} {base h₀ : Heap} {L : Addr} {m : Str → Option Value} {news : List (Addr × Obj)} {s : Shared} {p : Program} {loose : List Str} {mean : ExcName → Option Value} {mg mb : Str → Option Value} {R : Result → Shared → Prop}
theorem take_succ_some {l : List Nat} {i c : Nat} (h : l[i]? = some c) : l.take (i + 1) = l.take i ++ [c] := by
  rw [List.take_add_one, h]; rfl
theorem quote_in (c : Nat) : (Builtin.Str.occurrences (Str.ofString "\"\\") (Str.mk #[c]) 0 (Str.length (Str.ofString "\"\\")) 1).isEmpty = !decide (c = 34 ∨ c = 92) := by
  have h := StrLaws.found_one (Str.ofString "\"\\") c
  have e : (Str.ofString "\"\\") = ⟨#[34, 92]⟩ := by decide
  rw [show decide (c = 34 ∨ c = 92) = decide (c ∈ (Str.ofString "\"\\").cps.toList) from by rw [e]; simp, ← h, Bool.not_not]
set_option maxHeartbeats 0 in
theorem word_bare {x wh : List Nat} {tx' tw tb : Tok} (B : Below A₀ base outer h₀) (F : Fr h₀ L s.heap m) (X : (hd2.heap_1 w.params).In h₀) (T : Top p loose mean mg mb h₀) (hd : dp + 10 < recursionLimit) (hu : un + 100 < cLine) (hx : x.length < 1000) (hw : wh.length < 1000) (ha : x.all (· < 128) = true)
    (hret : ∀ t h' tk', (∀ (b : Nat) o, s.heap.get? b = some o → h'.get? b = some o) → Fr h₀ L h' m → R (.ok (.ret (.str (tx (lawWord 1 x wh)) t))) { s with heap := h', toks := tk' }) :
    codeAny (model PP w) (ktrTop dp un gd cn ⟨.function, nm, ig, ic, mo⟩ L a ccd cl outer) (.call (.ref 236) ⟨[.str (tx x) tx', .int 1 tb, .str (tx wh) tw], []⟩) R s := by
  have N : News h₀ L s.heap [] := News.nil
  have hb9 := PySem.sizeLine_eq
  have hl9 := encB_len x
  k_dflt (refine' codeK ?k1 ?k2 ?k3 ?k4 ?k5 ?kA ?kF ?kK ?k6 ?k7 ?k8 ?k9 ?kB ?_ ?c2 ?c3 ?c4 ?c5; (case kA => exact rfl); (case kF => exact rfl); (case kK => exact rfl); (case k1 => exact B); (case k2 => exact F); (case k3 => exact X); (case k4 => exact N); (case k5 => exact T); (case k6 => k_is); (case k7 => k_is); (case k8 => k_room); (case k9 => first | exact BindsTo.of_eq rfl | exact binds_K (by k_in) rfl (by k_is) rfl rfl rfl); (case c5 => decide); (case kB => exact locs rfl); (case c2 => exact rfl); (case c3 => exact rfl); (case c4 => exact rfl); k_whole; intro g L' h' kg kl l1 FG F' N' B' X' T'; (try k_lt l1); (have codeHd := codeHd_of_K (c := 230) (P := 226) X' (by kernel_rfl)); (try dsimp only); (try k_lift B'); (try k_fold))
  k_steps
  unfold Stop
  rename Fr g L' _ _ => F1
  rename News g L' _ _ => N1
  k_dflt (refine' ListComp_S ?c0 ?c1 ?c2 ?c3 ?c4 ?c5 ?c6 ?c7; (case c0 => exact F1); (case c1 => rfl); (case c2 => decide); (case c3 => rfl); (case c4 => decide); (case c5 => rfl); (case c7 => intro _; rfl))
  k_dflt (refine' nameX_L ?F ?v ?_ ?a ?b; (case F => exact F1); (case a => rfl); (case b => rfl); (case v => rfl))
  refine ⟨_, _, [], rfl, rfl, by simpa using ha, by simp; omega, F1, N1, fun g2 => ?_⟩
  refine rest_inv (fun i ys nw => nw = [] ∧ StrsAre ys (((x.take i).map fun c => [92, c]).map tx)) ⟨rfl, .nil⟩ ?turn ?fin
  case turn =>
    rintro i ys nw v I oI C oC D m₂ h tk E' hi ⟨rfl, hs⟩ ⟨c, u, hc, rfl⟩ hns hm F9 N9 off hne
    k_steps
    rw [take_succ_some (by simpa using hc), List.map_append, List.map_append, show Str.ofString "\\" ++ Str.mk #[c] = tx [92, c] from by rw [is_back, str_append_mk]; rfl]
    exact hs.append' (.cons _ _ .nil)
  case fin =>
    rintro ys nw ⟨rfl, hs⟩
    rw [show (tx x).cps.size = x.length from by simp, List.take_length] at hs
    have hz9 : (x.map fun c => [92, c]).flatten.length ≤ sizeLine := by
      show (encB x).length ≤ _
      omega
    have hz8 : (x.map fun c => [92, c]).flatten.length ≤ 2 * x.length := by
      show (encB x).length ≤ _
      omega
    k_steps
    rename Fr g _ _ _ => Fg
    rw [tx_append]
    exact hret _ _ _ (fun b o e => Fg.keep b o (kg b o e List.not_mem_nil)) (by assumption)
set_option maxHeartbeats 0 in
theorem word_quoted {x wh : List Nat} {tx' tw tb : Tok} (B : Below A₀ base outer h₀) (F : Fr h₀ L s.heap m) (X : (hd2.heap_1 w.params).In h₀) (T : Top p loose mean mg mb h₀) (hd : dp + 10 < recursionLimit) (hu : un + 100 < cLine) (hx : x.length < 1000) (hw : wh.length < 1000) (ha : x.all (· < 128) = true)
    (hret : ∀ t h' tk', (∀ (b : Nat) o, s.heap.get? b = some o → h'.get? b = some o) → Fr h₀ L h' m → R (.ok (.ret (.str (tx (lawWord 0 x wh)) t))) { s with heap := h', toks := tk' }) :
    codeAny (model PP w) (ktrTop dp un gd cn ⟨.function, nm, ig, ic, mo⟩ L a ccd cl outer) (.call (.ref 236) ⟨[.str (tx x) tx', .int 0 tb, .str (tx wh) tw], []⟩) R s := by
  have N : News h₀ L s.heap [] := News.nil
  have hb9 := PySem.sizeLine_eq
  have hl9 := encQ_len x
  k_dflt (refine' codeK ?k1 ?k2 ?k3 ?k4 ?k5 ?kA ?kF ?kK ?k6 ?k7 ?k8 ?k9 ?kB ?_ ?c2 ?c3 ?c4 ?c5; (case kA => exact rfl); (case kF => exact rfl); (case kK => exact rfl); (case k1 => exact B); (case k2 => exact F); (case k3 => exact X); (case k4 => exact N); (case k5 => exact T); (case k6 => k_is); (case k7 => k_is); (case k8 => k_room); (case k9 => first | exact BindsTo.of_eq rfl | exact binds_K (by k_in) rfl (by k_is) rfl rfl rfl); (case c5 => decide); (case kB => exact locs rfl); (case c2 => exact rfl); (case c3 => exact rfl); (case c4 => exact rfl); k_whole; intro g L' h' kg kl l1 FG F' N' B' X' T'; (try k_lt l1); (have codeHd := codeHd_of_K (c := 230) (P := 226) X' (by kernel_rfl)); (try dsimp only); (try k_lift B'); (try k_fold))
  k_steps
  unfold Stop
  rename Fr g L' _ _ => F1
  rename News g L' _ _ => N1
  k_dflt (refine' ListComp_S ?c0 ?c1 ?c2 ?c3 ?c4 ?c5 ?c6 ?c7; (case c0 => exact F1); (case c1 => rfl); (case c2 => decide); (case c3 => rfl); (case c4 => decide); (case c5 => rfl); (case c7 => intro _; rfl))
  k_dflt (refine' nameX_L ?F ?v ?_ ?a ?b; (case F => exact F1); (case a => rfl); (case b => rfl); (case v => rfl))
  refine ⟨_, _, [], rfl, rfl, by simpa using ha, by simp; omega, F1, N1, fun g2 => ?_⟩
  refine rest_inv (fun i ys nw => nw = [] ∧ StrsAre ys (((x.take i).map fun c => if c = 34 ∨ c = 92 then [92, c] else [c]).map tx)) ⟨rfl, .nil⟩ ?turn ?fin
  case turn =>
    rintro i ys nw v I oI C oC D m₂ h tk E' hi ⟨rfl, hs⟩ ⟨c, u, hc, rfl⟩ hns hm F9 N9 off hne
    k_steps
    all_goals (try simp only [quote_in, Bool.not_not, Bool.not_eq_true', Bool.not_eq_false', decide_eq_true_eq, decide_eq_false_iff_not] at *)
    · (rename ¬ (c = 34 ∨ c = 92) => hq)
      rw [take_succ_some (by simpa using hc), List.map_append, List.map_append]
      refine hs.append' ?_
      simp only [List.map_cons, List.map_nil, if_neg hq]
      exact .cons _ _ .nil
    · (rename c = 34 ∨ c = 92 => hq)
      rw [take_succ_some (by simpa using hc), List.map_append, List.map_append, show Str.ofString "\\" ++ Str.mk #[c] = tx [92, c] from by rw [is_back, str_append_mk]; rfl]
      refine hs.append' ?_
      simp only [List.map_cons, List.map_nil, if_pos hq]
      exact .cons _ _ .nil
  case fin =>
    rintro ys nw ⟨rfl, hs⟩
    rw [show (tx x).cps.size = x.length from by simp, List.take_length] at hs
    have hz9 : (x.map fun c => if c = 34 ∨ c = 92 then [92, c] else [c]).flatten.length ≤ sizeLine := by
      show (encQ x).length ≤ _
      omega
    have hz8 : (x.map fun c => if c = 34 ∨ c = 92 then [92, c] else [c]).flatten.length ≤ 2 * x.length := by
      show (encQ x).length ≤ _
      omega
    k_steps
    rename Fr g _ _ _ => Fg
    refine end_str ?_ (hret _ _ _ (fun b o e => Fg.keep b o (kg b o e List.not_mem_nil)) (by assumption))
    rw [is_quote]
    apply Str.ext'
    apply Array.ext'
    simp [lawWord, encQ, Str.cps_append]
end
section
variable {w : World} {dp un : Nat} {gd : Option (List Code)} {cn : Str} {nm : List (Str × NameKind)} {ig ic : Bool} {mo : List (Str × Const)} {a : Addr} {ccd : Value} {cl : List (Str × Addr)} {outer : List Env} {A₀ : Around} {base h₀ : Heap} {L : Addr} {m : Str → Option Value} {news : List (Addr × Obj)} {s : Shared} {p : Program} {loose : List Str} {mean : ExcName → Option Value} {mg mb : Str → Option Value} {R : Result → Shared → Prop}
theorem word_any {x wh : List Nat} {tx' tw tb : Tok} {bi : Int} (B : Below A₀ base outer h₀) (F : Fr h₀ L s.heap m) (X : (hd2.heap_1 w.params).In h₀) (T : Top p loose mean mg mb h₀) (hd : dp + 10 < recursionLimit) (hu : un + 100 < cLine) (hb : bi = 0 ∨ bi = 1) (hx : x.length < 1000) (hw : wh.length < 1000) (ha : x.all (· < 128) = true)
    (hret : ∀ t h' tk', (∀ (b : Nat) o, s.heap.get? b = some o → h'.get? b = some o) → Fr h₀ L h' m → R (.ok (.ret (.str (tx (lawWord bi x wh)) t))) { s with heap := h', toks := tk' }) :
    codeAny (model PP w) (ktrTop dp un gd cn ⟨.function, nm, ig, ic, mo⟩ L a ccd cl outer) (.call (.ref 236) ⟨[.str (tx x) tx', .int bi tb, .str (tx wh) tw], []⟩) R s := by
  rcases hb with rfl | rfl
  · exact word_quoted B F X T hd hu hx hw ha hret
  · exact word_bare B F X T hd hu hx hw ha hret
end
end
theorem cx7 {p : Program} {w : World} {A : Around} {Q : Value → Shared → Prop} {E : Value → Shared → Prop} {s : Shared} (h : wpAny (model p w) A (pyIter Value.none) Q E s) : wpAny (model p w) A (pyIter Value.none) Q E s := by first | (walk1; fail "x") | exact h
section
structure HdrP where
  (x d hl : Nat)
  (t : Tok)
noncomputable abbrev hdrLed (w : World) (P : HdrP) (rs : List Value) (n : Nat) : List (Addr × Obj) :=
  [(P.x, instObj 171 P.d), (P.d, dictOf [ent w "_headers" P.t (.ref P.hl)] 1), (P.hl, listOf rs.toArray n)]
noncomputable abbrev HdrP.addrs (P : HdrP) : List Nat := [P.x, P.d, P.hl]
abbrev HdrP.Ok (P : HdrP) : Prop := P.d < P.x ∧ P.x < P.hl
noncomputable abbrev pairO (y z : List Nat) (ty tz : Tok) : Obj := { cls := .type "tuple", data := .seq #[.str (tx y) ty, .str (tx z) tz] }
/-- the list's values are refs to pairs that lie in the ledger's tail -/
def Prs (TL : List (Addr × Obj)) (rs : List Value) (ps : List (List Nat × List Nat)) : Prop :=
  rs.length = ps.length ∧ ∀ (i : Nat) v, rs[i]? = some v → ∃ (q : Addr) (y z : List Nat) (t1 t2 : Tok), v = .ref q ∧ ps[i]? = some (y, z) ∧ (q, pairO y z t1 t2) ∈ TL
theorem hdr_names {w : World} {h₀ h : Heap} {L hl x d hl' d' : Addr} {t : Tok} {r : List (Addr × Obj)} {k0 : Nat} (_ : News h₀ L h ((hl, listOf #[] k0) :: (x, instObj 171 d) :: (d', dictOf [ent w "_headers" t (.ref hl')] 1) :: r)) : ∃ H : HdrP, H.hl = hl ∧ H.x = x ∧ H.d = d ∧ H.t = t := ⟨⟨x, d, hl, t⟩, rfl, rfl, rfl, rfl⟩
theorem pairO_inj {y z y' z' : List Nat} {t1 t2 t1' t2' : Tok} (h : pairO y z t1 t2 = pairO y' z' t1' t2') : y = y' ∧ z = z' := by
  have h1 := (Data.seq.inj (congrArg Obj.data h)).1
  have h2 := congrArg Array.toList h1
  have h3 := (List.cons.inj h2).1
  have h4 := (List.cons.inj (List.cons.inj h2).2).1
  exact ⟨tx_inj (Value.str.inj h3).1, tx_inj (Value.str.inj h4).1⟩
theorem Prs.snoc {TL : List (Addr × Obj)} {rs : List Value} {ps : List (List Nat × List Nat)} {q : Addr} {y z : List Nat} {t1 t2 : Tok} (h : Prs TL rs ps) : Prs (TL ++ [(q, pairO y z t1 t2)]) (rs ++ [.ref q]) (ps ++ [(y, z)]) := by
  refine ⟨by rw [List.length_append, List.length_append, h.1]; rfl, fun i v hv => ?_⟩
  by_cases hi : i < rs.length
  · rw [List.getElem?_append_left hi] at hv
    obtain ⟨q', y', z', u1, u2, e1, e2, e3⟩ := h.2 i v hv
    exact ⟨q', y', z', u1, u2, e1, by rw [List.getElem?_append_left (h.1 ▸ hi)]; exact e2, List.mem_append_left _ e3⟩
  · have hil := (List.getElem?_eq_some_iff.mp hv).1
    rw [List.length_append, List.length_cons, List.length_nil] at hil
    have hi' : i = rs.length := by omega
    subst hi'
    rw [List.getElem?_append_right (Nat.le_refl _), Nat.sub_self] at hv
    refine ⟨q, y, z, t1, t2, (Option.some.inj hv).symm, ?_, List.mem_append_right _ List.mem_cons_self⟩
    rw [List.getElem?_append_right (Nat.le_of_eq h.1.symm), h.1, Nat.sub_self]; rfl
end
theorem cx8 {p : Program} {w : World} {A : Around} {Q : Value → Shared → Prop} {E : Value → Shared → Prop} {s : Shared} (h : wpAny (model p w) A (pyIter Value.none) Q E s) : wpAny (model p w) A (pyIter Value.none) Q E s := by first | (walk1; fail "x") | exact h
section
theorem HdrP.Ok.hi {H : HdrP} (OH : H.Ok) {X : Nat} (h : H.hl < X) : AllNe X H.addrs := ⟨Nat.ne_of_lt (Nat.lt_trans OH.2 h), Nat.ne_of_lt (Nat.lt_trans OH.1 (Nat.lt_trans OH.2 h)), Nat.ne_of_lt h, trivial⟩
theorem HdrP.Ok.tl {H : HdrP} (OH : H.Ok) {TL : List (Addr × Obj)} {n : Nat} (h : ∀ p ∈ TL, @LT.lt Nat _ n p.1) (k : H.hl < n) : ∀ p ∈ TL, p.1 ∉ H.addrs := fun p hp hq => (HdrP.Ok.hi OH (Nat.lt_trans k (h p hp))).notin hq
theorem HdrP.Ok.lo {H : HdrP} (OH : H.Ok) {X : Nat} (h : X < H.d) : AllNe X H.addrs := ⟨Nat.ne_of_gt (Nat.lt_trans h OH.1), Nat.ne_of_gt h, Nat.ne_of_gt (Nat.lt_trans (Nat.lt_trans h OH.1) OH.2), trivial⟩
theorem HdrP.Ok.tl0 {H : HdrP} (OH : H.Ok) {TL : List (Addr × Obj)} (h : ∀ p ∈ TL, @LT.lt Nat _ H.hl p.1) : ∀ p ∈ TL, p.1 ∉ H.addrs := fun p hp hq => (HdrP.Ok.hi OH (h p hp)).notin hq
theorem AllLt.at {D a : Addr} {o : Obj} {l : List (Addr × Obj)} (h : AllLt D l) (m : (a, o) ∈ l) : @LT.lt Nat _ a D := allLt_mem h _ m
theorem allNeLt {D : Addr} {l : List (Addr × Obj)} (h : AllLt D l) : ∀ p ∈ l, @Ne Nat p.1 D := fun p hp => Nat.ne_of_lt (allLt_mem h p hp)
section
variable {P : LexP} {H : HdrP} {c : Nat}
theorem neP1 (h : AllNe c P.addrs) : @Ne Nat P.x2 c := h.1
theorem neP2 (h : AllNe c P.addrs) : @Ne Nat P.d2 c := h.2.1
theorem neP3 (h : AllNe c P.addrs) : @Ne Nat P.pb2 c := h.2.2.1
theorem neP4 (h : AllNe c P.addrs) : @Ne Nat P.f c := h.2.2.2.1
theorem neP5 (h : AllNe c P.addrs) : @Ne Nat P.c c := h.2.2.2.2.1
theorem neP6 (h : AllNe c P.addrs) : @Ne Nat P.x1 c := h.2.2.2.2.2.1
theorem neP7 (h : AllNe c P.addrs) : @Ne Nat P.d1 c := h.2.2.2.2.2.2.1
theorem neP8 (h : AllNe c P.addrs) : @Ne Nat P.ls c := h.2.2.2.2.2.2.2.1
theorem neP9 (h : AllNe c P.addrs) : @Ne Nat P.cs c := h.2.2.2.2.2.2.2.2.1
theorem neH1 (h : AllNe c H.addrs) : @Ne Nat H.x c := h.1
theorem neH2 (h : AllNe c H.addrs) : @Ne Nat H.d c := h.2.1
theorem neH3 (h : AllNe c H.addrs) : @Ne Nat H.hl c := h.2.2.1
theorem cne {L a b : Nat} (h : Nat.beq a b = false) : @Ne Nat (L + a) (L + b) := fun e => by
  have := Nat.ne_of_beq_eq_false h
  omega
end
def HoldP (P : Prop) : Prop := P
def MkA : Prop := True
def MkB : Prop := True
/-- a fact kept out of the tactics' sight -/
def Box (p : Prop) : Prop := p
theorem Box.out {p : Prop} (h : Box p) : p := h
theorem qAds {P : LexP} {L sl wl gl : Nat} (O : P.Ok) (lo : @LT.lt Nat _ (L + 1 + 1 + 1 + 1 + 1 + 1 + 1) sl ∧ @LT.lt Nat _ gl sl ∧ @LT.lt Nat _ sl wl ∧ @LT.lt Nat _ wl P.cs) (h237 : @LT.lt Nat _ 226 L) :
    AllNe wl P.addrs ∧ AllNe sl P.addrs ∧ AllNe gl P.addrs ∧ AllNe (L + 1 + 1 + 1 + 1 + 1 + 1 + 1) P.addrs ∧ AllNe (L + 1 + 1 + 1 + 1 + 1 + 1) P.addrs ∧ AllNe (L + 1 + 1 + 1 + 1 + 1) P.addrs ∧ AllNe (L + 1 + 1 + 1 + 1) P.addrs ∧ AllNe (L + 1 + 1 + 1) P.addrs ∧ AllNe 226 P.addrs := by
  obtain ⟨k1, k2, k3, k4⟩ := lo
  have s1 := Nat.lt_trans k3 k4
  have c7 := Nat.lt_trans k1 s1
  have c6 := Nat.lt_trans (Nat.lt_succ_self _) c7
  have c5 := Nat.lt_trans (Nat.lt_succ_self _) c6
  have c4 := Nat.lt_trans (Nat.lt_succ_self _) c5
  have c3 := Nat.lt_trans (Nat.lt_succ_self _) c4
  have c2 := Nat.lt_trans (Nat.lt_succ_self _) c3
  have c1 := Nat.lt_trans (Nat.lt_succ_self _) c2
  exact ⟨O.lo k4, O.lo s1, O.lo (Nat.lt_trans k2 s1), O.lo c7, O.lo c6, O.lo c5, O.lo c4, O.lo c3, O.lo (Nat.lt_trans h237 (Nat.lt_trans (Nat.lt_succ_self _) c1))⟩
theorem off_addrs {I C D : Addr} {P : LexP} {l : List (Addr × Obj)} (h : LCg.Off3 I C D l) (k : ∀ a ∈ P.addrs, ∃ o, (a, o) ∈ l) : AllNe I P.addrs ∧ AllNe C P.addrs ∧ AllNe D P.addrs := by
  have f : ∀ a ∈ P.addrs, a ≠ I ∧ a ≠ C ∧ a ≠ D := fun a ha => by
    obtain ⟨o, ho⟩ := k a ha
    exact LCg.Off3.mem h (a, o) ho
  have g : ∀ X : Nat, (∀ a ∈ P.addrs, a ≠ X) → AllNe X P.addrs := fun X h => ⟨h _ (by simp), h _ (by simp), h _ (by simp), h _ (by simp), h _ (by simp), h _ (by simp), h _ (by simp), h _ (by simp), h _ (by simp), trivial⟩
  exact ⟨g I fun a ha => (f a ha).1, g C fun a ha => (f a ha).2.1, g D fun a ha => (f a ha).2.2⟩
theorem lex_has {w : World} {P : LexP} {ln : Int} {tl : Tok} {pv sg : List Value} {pe le : Nat} {r : List (Addr × Obj)} : ∀ a ∈ P.addrs, ∃ o, (a, o) ∈ lexLed w P ln tl pv pe sg le ++ r := by
  intro a ha
  have h : a ∈ (lexLed w P ln tl pv pe sg le).map (·.1) := ha
  obtain ⟨p, hp, rfl⟩ := List.mem_map.mp h
  exact ⟨p.2, List.mem_append_left _ hp⟩
theorem off_map {A B : List (Addr × Obj)} {I : Nat} (h : ∀ p ∈ A, @LT.lt Nat _ p.1 I) (e : B.map (·.1) = A.map (·.1)) : ∀ p ∈ B, p.1 ≠ I := fun p hp => by
  have h1 : p.1 ∈ A.map (·.1) := e ▸ List.mem_map.mpr ⟨p, hp, rfl⟩
  obtain ⟨q, hq, e'⟩ := List.mem_map.mp h1
  rw [← e']
  exact Nat.ne_of_lt (h q hq)
end
theorem cx9 {p : Program} {w : World} {A : Around} {Q : Value → Shared → Prop} {E : Value → Shared → Prop} {s : Shared} (h : wpAny (model p w) A (pyIter Value.none) Q E s) : wpAny (model p w) A (pyIter Value.none) Q E s := by first | (walk1; fail "x") | exact h
section

/-- the law's own text, as its code object holds it -/
def LawAt (w : World) (P : Str → List Stmt → Scope → Prop) : Prop := ∃ (name qual : Str) (params : Arguments) (body : List Stmt) (scope : Scope) (dV kV doc pm cdv ct oc : Value) (an od : Option Addr) (osl : Array (Option Value)),
  (hd2.heap_1 w.params).lookup 255 = some ⟨oc, od, .func (fnOf name qual params body scope dV kV doc pm an cdv ct), osl⟩ ∧ P qual body scope
theorem LawAt.use {w : World} {P : Str → List Stmt → Scope → Prop} {name qual : Str} {params : Arguments} {body : List Stmt} {scope : Scope} {dV kV doc pm cdv ct oc : Value} {an od : Option Addr} {osl : Array (Option Value)} (h : LawAt w P)
    (ho : (hd2.heap_1 w.params).lookup 255 = some ⟨oc, od, .func (fnOf name qual params body scope dV kV doc pm an cdv ct), osl⟩) : P qual body scope := by
  obtain ⟨_, _, _, _, _, _, _, _, _, _, _, _, _, _, _, e, k⟩ := h
  rw [ho] at e
  have e2 := Data.func.inj (congrArg Obj.data (Option.some.inj e))
  have e3 := FuncBody.stmts.inj (congrArg FuncData.body e2)
  have e4 := congrArg FuncData.scope e2
  have e5 := congrArg FuncData.qualname e2
  dsimp only at e3 e4 e5
  subst e3 e4 e5
  exact k
abbrev RestW (w : World) (fa L : Addr) (cd : Value) (n : Nat) (Q : Flow → Shared → Prop) (s : Shared) : Prop :=
  LawAt w fun qual body scope => wpAny (model PP w) (callerA.deeper (envOfC qual scope L fa cd)) (execs (body.drop n) (envOfC qual scope L fa cd)) Q (fun _ _ => False) s

noncomputable def bodyAt (n : Nat) (l : List Stmt) : List Stmt := match l.drop n with
  | .For _ _ b _ _ :: _ => b
  | _ => []
end
section
local macro_rules | `(tactic| k_all) => `(tactic| first | (refine' tl_up (by assumption) (by omega)) | (refine' tl_low (by assumption) (by omega)) | fail "k_all")
local macro_rules | `(tactic| k_mem) => `(tactic| assumption)
theorem cx10 {p : Program} {w : World} {A : Around} {Q : Value → Shared → Prop} {E : Value → Shared → Prop} {s : Shared} (h : wpAny (model p w) A (pyIter Value.none) Q E s) : wpAny (model p w) A (pyIter Value.none) Q E s := by first | (walk1; fail "x") | exact h
section
local macro_rules | `(tactic| walk_at "exec For Tuple Attribute cons nil") => `(tactic| (k_here; refine Stop.out ?_))
local macro_rules | `(tactic| walk_at "UnrEndW") => `(tactic| ((with_reducible show UnrEndW _ _ _ _ _ _); refine Stop.out ?_))
/-- a Headers whose list may lie ahead of it -/
abbrev HdrP.Ok2 (P : HdrP) : Prop := P.d < P.x ∧ @Ne Nat P.x P.hl ∧ @Ne Nat P.d P.hl
/-- what get tells -/
def GetIs (ps : List (List Nat × List Nat)) (y : List Nat) (d v : Value) : Prop := match ps.find? (fun p => decide (p.1.map lowC = y.map lowC)) with
  | some p => ∃ t, v = .str (tx p.2) t
  | none => v = d
theorem getIs_hit {ps : List (List Nat × List Nat)} {y z z2 : List Nat} {d : Value} {t : Tok} {i : Nat} (hno : ∀ p ∈ ps.take i, ¬ p.1.map lowC = y.map lowC) (hp : ps[i]? = some (z, z2)) (e : z.map lowC = y.map lowC) : GetIs ps y d (.str (tx z2) t) := by
  obtain ⟨hlt, hg⟩ := List.getElem?_eq_some_iff.mp hp
  have hs : ps = ps.take i ++ (z, z2) :: ps.drop (i + 1) := by
    rw [← hg, ← List.drop_eq_getElem_cons hlt, List.take_append_drop]
  have hf : ps.find? (fun p => decide (p.1.map lowC = y.map lowC)) = some (z, z2) := by
    refine (congrArg (List.find? _) hs).trans ?_
    rw [List.find?_append, List.find?_eq_none.mpr (by simpa using hno), List.find?_cons_of_pos (by simpa using e)]; rfl
  unfold GetIs
  rw [hf]
  exact ⟨t, rfl⟩
theorem getIs_miss {ps : List (List Nat × List Nat)} {y : List Nat} {d : Value} {n : Nat} (hn : n = ps.length) (hno : ∀ p ∈ ps.take n, ¬ p.1.map lowC = y.map lowC) : GetIs ps y d d := by
  rw [List.take_of_length_le (Nat.le_of_eq hn.symm)] at hno
  unfold GetIs
  rw [List.find?_eq_none.mpr (by simpa using hno)]
theorem no_step {ps : List (List Nat × List Nat)} {y z z2 : List Nat} {i : Nat} (hno : ∀ p ∈ ps.take i, ¬ p.1.map lowC = y.map lowC) (hp : ps[i]? = some (z, z2)) (e : ¬ z.map lowC = y.map lowC) : ∀ p ∈ ps.take (i + 1), ¬ p.1.map lowC = y.map lowC := by
  intro p h
  rw [List.take_add_one, hp] at h
  rcases List.mem_append.mp h with h | h
  · exact hno p h
  · rw [List.mem_singleton.mp h]; exact e
theorem kept_tl {h₀ h0 h' : Heap} {L : Addr} {X TL : List (Addr × Obj)} (N : News h₀ L h0 (X ++ TL)) (N' : ∀ p ∈ TL, h'.get? p.1 = some p.2) (k : ∀ (b : Nat) o, h0.get? b = some o → b ∉ (X ++ TL).map (·.1) → h'.get? b = some o) : ∀ (b : Nat) o, h0.get? b = some o → b ∉ X.map (·.1) → h'.get? b = some o := by
  intro b o e hb
  by_cases hT : b ∈ TL.map (·.1)
  · obtain ⟨p, hp, rfl⟩ := List.mem_map.mp hT
    have h1 := (N p (List.mem_append_right _ hp)).1
    rw [h1] at e
    rw [← Option.some.inj e]
    exact N' p hp
  · exact k b o e (by rw [List.map_append, List.mem_append, not_or]; exact ⟨hb, hT⟩)
theorem endW1 {h₀ h' : Heap} {L I : Addr} {it : Obj} {s₁ : Shared} {tk : Nat} {m' : Str → Option Value} {led : List (Addr × Obj)} {rest : (Str → Option Value) → List (Addr × Obj) → Prop} (F : Fr h₀ L h' m') (N : News h₀ L h' ((I, it) :: led)) (lt : ∀ p ∈ led, @LT.lt Nat _ p.1 I) (r : rest m' led) : UnrEndW h₀ L s₁ [(I, it)] rest { s₁ with heap := h', toks := tk } :=
  ⟨h', tk, m', led, rfl, F, N, fun p hp q hq => by rw [List.mem_singleton.mp hq]; exact Nat.ne_of_lt (lt p hp), r⟩
section
variable {w : World} {dp un : Nat} {gd : Option (List Code)} {cn : Str} {nm : List (Str × NameKind)} {ig ic : Bool} {mo : List (Str × Const)} {a : Addr} {ccd : Value} {cl : List (Str × Addr)} {outer : List Env} {A₀ : Around} {base h₀ : Heap} {L : Addr} {m : Str → Option Value} {news : List (Addr × Obj)} {s : Shared} {p : Program} {loose : List Str} {mean : ExcName → Option Value} {mg mb : Str → Option Value} {R : Result → Shared → Prop}
set_option maxHeartbeats 0 in
theorem hdr_get {P : HdrP} {rs : List Value} {n : Nat} {y : List Nat} {ty : Tok} {ps : List (List Nat × List Nat)} {TL : List (Addr × Obj)} (B : Below A₀ base outer h₀) (F : Fr h₀ L s.heap m) (X : (hd2.heap_1 w.params).In h₀) (T : Top p loose mean mg mb h₀) (hd : dp + 10 < recursionLimit) (hu : un + 100 < cLine) (O : P.Ok2) (N : News h₀ L s.heap (hdrLed w P rs n ++ TL)) (hp : Prs TL rs ps) (hps : ∀ q z z2 t1 t2, (q, pairO z z2 t1 t2) ∈ TL → z.all reOk = true ∧ z.length < 1000) (hr : rs.length < 1000) (hy : y.all reOk = true) (ly : y.length < 1000)
    (hret : ∀ v h' tk', (∀ (b : Nat) o, s.heap.get? b = some o → h'.get? b = some o) → Fr h₀ L h' m → GetIs ps y .none v → R (.ok (.ret v)) { s with heap := h', toks := tk' }) :
    codeAny (model PP w) (ktrTop dp un gd cn ⟨.function, nm, ig, ic, mo⟩ L a ccd cl outer) (.call (.ref 118) ⟨[.ref P.x, .str (tx y) ty], []⟩) R s := by
  obtain ⟨o1, o2, o3⟩ := O
  have hyl := low_ok hy
  have lyl : (y.map lowC).length < 1000 := by rw [List.length_map]; exact ly
  simp only [hdrLed, List.cons_append, List.nil_append] at N
  k_dflt (refine' codeK ?k1 ?k2 ?k3 ?k4 ?k5 ?kA ?kF ?kK ?k6 ?k7 ?k8 ?k9 ?kB ?_ ?c2 ?c3 ?c4 ?c5; (case kA => exact rfl); (case kF => exact rfl); (case kK => exact rfl); (case k1 => exact B); (case k2 => exact F); (case k3 => exact X); (case k4 => exact N); (case k5 => exact T); (case k6 => k_is); (case k7 => k_is); (case k8 => k_room); (case k9 => first | exact BindsTo.of_eq rfl | exact binds_K (by k_in) rfl (by k_is) rfl rfl rfl); (case c5 => decide); (case kB => exact locs rfl); (case c2 => exact rfl); (case c3 => exact rfl); (case c4 => exact rfl); k_whole; intro g L' h' kg kl l1 FG F' N' B' X' T'; (try k_lt l1); (have codeHd := codeHd_of_K (c := 230) (P := 226) X' (by kernel_rfl)); (try dsimp only); (try k_lift B'); (try k_fold))
  have hT := allLt_mem (show AllLt L' TL from by simp only [l1])
  k_steps
  unfold Stop
  rename Fr g L' _ _ => F1
  rename News g L' _ _ => N1
  with_unfolding_all refine' For_turns F1 ?_
  k_steps
  refine iter_listTurns (vs := rs) (n := n) rfl F1 N1 (by k_mem) rfl rfl fun I l2 => ?_
  refine items_inv (fun i m' nw => nw = hdrLed w P rs n ++ TL ∧ (∃ tn, m' (Str.ofString "name") = some (.str (tx (y.map lowC)) tn)) ∧ m' (Str.ofString "default") = some .none ∧ ∀ p ∈ ps.take i, ¬ p.1.map lowC = y.map lowC) ?init ?turn ?fin
  case init =>
    exact ⟨rfl, ⟨_, by ktr_unf⟩, by ktr_unf, fun _ h => by simp at h⟩
  case turn =>
    rintro i v m' nw h tk hv ⟨rfl, ⟨tn, e1⟩, e2, hno⟩ F9
    obtain ⟨q, z, z2, t1, t2, rfl, hp1, hq⟩ := hp.2 i v hv
    obtain ⟨hz1, hz2⟩ := hps q z z2 t1 t2 hq
    have hzl := low_ok hz1
    simp only [hdrLed, List.cons_append, List.nil_append]
    ktu_objs
    k_steps
    · rename Fr g _ _ _ => Fg
      rename News _ _ _ _ => N8
      exact hret _ _ _ (kept_all N N8 (fun p hp => List.mem_cons_of_mem _ hp) fun b o e hb => Fg.keep b o (kg b o e hb)) (by assumption) (getIs_hit hno hp1 (tx_inj (beq_iff_eq.mp (by assumption))))
    · unfold Stop
      rename Fr g _ _ _ => Fg
      rename News _ _ _ _ => N8
      exact endW1 Fg N8 l2 ⟨⟨by k_mem, trivial⟩, rfl, ⟨tn, by ktr_unf⟩, by ktr_unf, no_step hno hp1 fun e => beq_eq_false_iff_ne.mp (by assumption) (congrArg tx e)⟩
  case fin =>
    rintro m' nw h tk ⟨rfl, ⟨tn, e1⟩, e2, hno⟩ F9 N9
    k_steps
    rename Fr g _ _ _ => Fg
    exact hret _ _ _ (kept_all N N9 (fun p hp => hp) fun b o e hb => Fg.keep b o (kg b o e hb)) (by assumption) (getIs_miss hp.1 hno)
set_option maxHeartbeats 0 in
theorem hdr_get_d {P : HdrP} {rs : List Value} {n : Nat} {y : List Nat} {ty : Tok} {ps : List (List Nat × List Nat)} {TL : List (Addr × Obj)} {dv : Str} {td : Tok} (B : Below A₀ base outer h₀) (F : Fr h₀ L s.heap m) (X : (hd2.heap_1 w.params).In h₀) (T : Top p loose mean mg mb h₀) (hd : dp + 10 < recursionLimit) (hu : un + 100 < cLine) (O : P.Ok2) (N : News h₀ L s.heap (hdrLed w P rs n ++ TL)) (hp : Prs TL rs ps) (hps : ∀ q z z2 t1 t2, (q, pairO z z2 t1 t2) ∈ TL → z.all reOk = true ∧ z.length < 1000) (hr : rs.length < 1000) (hy : y.all reOk = true) (ly : y.length < 1000)
    (hret : ∀ v h' tk', (∀ (b : Nat) o, s.heap.get? b = some o → h'.get? b = some o) → Fr h₀ L h' m → GetIs ps y (.str dv td) v → R (.ok (.ret v)) { s with heap := h', toks := tk' }) :
    codeAny (model PP w) (ktrTop dp un gd cn ⟨.function, nm, ig, ic, mo⟩ L a ccd cl outer) (.call (.ref 118) ⟨[.ref P.x, .str (tx y) ty, .str dv td], []⟩) R s := by
  obtain ⟨o1, o2, o3⟩ := O
  have hyl := low_ok hy
  have lyl : (y.map lowC).length < 1000 := by rw [List.length_map]; exact ly
  simp only [hdrLed, List.cons_append, List.nil_append] at N
  k_dflt (refine' codeK ?k1 ?k2 ?k3 ?k4 ?k5 ?kA ?kF ?kK ?k6 ?k7 ?k8 ?k9 ?kB ?_ ?c2 ?c3 ?c4 ?c5; (case kA => exact rfl); (case kF => exact rfl); (case kK => exact rfl); (case k1 => exact B); (case k2 => exact F); (case k3 => exact X); (case k4 => exact N); (case k5 => exact T); (case k6 => k_is); (case k7 => k_is); (case k8 => k_room); (case k9 => first | exact BindsTo.of_eq rfl | exact binds_K (by k_in) rfl (by k_is) rfl rfl rfl); (case c5 => decide); (case kB => exact locs rfl); (case c2 => exact rfl); (case c3 => exact rfl); (case c4 => exact rfl); k_whole; intro g L' h' kg kl l1 FG F' N' B' X' T'; (try k_lt l1); (have codeHd := codeHd_of_K (c := 230) (P := 226) X' (by kernel_rfl)); (try dsimp only); (try k_lift B'); (try k_fold))
  have hT := allLt_mem (show AllLt L' TL from by simp only [l1])
  k_steps
  unfold Stop
  rename Fr g L' _ _ => F1
  rename News g L' _ _ => N1
  with_unfolding_all refine' For_turns F1 ?_
  k_steps
  refine iter_listTurns (vs := rs) (n := n) rfl F1 N1 (by k_mem) rfl rfl fun I l2 => ?_
  refine items_inv (fun i m' nw => nw = hdrLed w P rs n ++ TL ∧ (∃ tn, m' (Str.ofString "name") = some (.str (tx (y.map lowC)) tn)) ∧ m' (Str.ofString "default") = some (.str dv td) ∧ ∀ p ∈ ps.take i, ¬ p.1.map lowC = y.map lowC) ?init ?turn ?fin
  case init =>
    exact ⟨rfl, ⟨_, by ktr_unf⟩, by ktr_unf, fun _ h => by simp at h⟩
  case turn =>
    rintro i v m' nw h tk hv ⟨rfl, ⟨tn, e1⟩, e2, hno⟩ F9
    obtain ⟨q, z, z2, t1, t2, rfl, hp1, hq⟩ := hp.2 i v hv
    obtain ⟨hz1, hz2⟩ := hps q z z2 t1 t2 hq
    have hzl := low_ok hz1
    simp only [hdrLed, List.cons_append, List.nil_append]
    ktu_objs
    k_steps
    · rename Fr g _ _ _ => Fg
      rename News _ _ _ _ => N8
      exact hret _ _ _ (kept_all N N8 (fun p hp => List.mem_cons_of_mem _ hp) fun b o e hb => Fg.keep b o (kg b o e hb)) (by assumption) (getIs_hit hno hp1 (tx_inj (beq_iff_eq.mp (by assumption))))
    · unfold Stop
      rename Fr g _ _ _ => Fg
      rename News _ _ _ _ => N8
      exact endW1 Fg N8 l2 ⟨⟨by k_mem, trivial⟩, rfl, ⟨tn, by ktr_unf⟩, by ktr_unf, no_step hno hp1 fun e => beq_eq_false_iff_ne.mp (by assumption) (congrArg tx e)⟩
  case fin =>
    rintro m' nw h tk ⟨rfl, ⟨tn, e1⟩, e2, hno⟩ F9 N9
    k_steps
    rename Fr g _ _ _ => Fg
    exact hret _ _ _ (kept_all N N9 (fun p hp => hp) fun b o e hb => Fg.keep b o (kg b o e hb)) (by assumption) (getIs_miss hp.1 hno)
end
end
theorem cx11 {p : Program} {w : World} {A : Around} {Q : Value → Shared → Prop} {E : Value → Shared → Prop} {s : Shared} (h : wpAny (model p w) A (pyIter Value.none) Q E s) : wpAny (model p w) A (pyIter Value.none) Q E s := by first | (walk1; fail "x") | exact h
section
local macro_rules | `(tactic| k_enter) => `(tactic| ((with_reducible show codeAny _ _ (Code.call (Value.ref 118) _) _ _); refine Stop.out ?_))
local macro_rules | `(tactic| walk_at "newTuple") => `(tactic| (k_here; k_dflt (refine' kup_newTuple (by k_asm) (by k_asm) ?_ (by kmk_size)); intro D' h' F' N' l1; (try k_lt l1)))
section
variable {w : World} {dp un : Nat} {gd : Option (List Code)} {cn : Str} {nm : List (Str × NameKind)} {ig ic : Bool} {mo : List (Str × Const)} {a : Addr} {ccd : Value} {cl : List (Str × Addr)} {outer : List Env} {A₀ : Around} {base h₀ : Heap} {L : Addr} {m : Str → Option Value} {news : List (Addr × Obj)} {s : Shared} {p : Program} {loose : List Str} {mean : ExcName → Option Value} {mg mb : Str → Option Value} {R : Result → Shared → Prop}
set_option maxHeartbeats 0 in
theorem hdr_setd {P : HdrP} {rs : List Value} {n : Nat} {y z : List Nat} {ty tz : Tok} {ps : List (List Nat × List Nat)} {TL : List (Addr × Obj)} (B : Below A₀ base outer h₀) (F : Fr h₀ L s.heap m) (X : (hd2.heap_1 w.params).In h₀) (T : Top p loose mean mg mb h₀) (hd : dp + 20 < recursionLimit) (hu : un + 200 < cLine) (O : P.Ok2) (N : News h₀ L s.heap (hdrLed w P rs n ++ TL)) (hp : Prs TL rs ps) (hps : ∀ q z z2 t1 t2, (q, pairO z z2 t1 t2) ∈ TL → z.all reOk = true ∧ z.length < 1000) (hr : rs.length < 1000) (hy : y.all reOk = true) (ly : y.length < 1000) (hz : z.all reOk = true) (lz : z.length < 1000) (hno : ∀ p ∈ ps, ¬ p.1.map lowC = y.map lowC) (hTl : ∀ p ∈ TL, @LT.lt Nat _ P.hl p.1)
    (hret : ∀ (q : Nat) n' h' tk', (∀ (b : Nat) o, s.heap.get? b = some o → b ∉ P.addrs → h'.get? b = some o) → (∀ (b : Nat) o, s.heap.get? b = some o → b ≠ q) → @LT.lt Nat _ P.hl q → @LT.lt Nat _ P.d q → Fr h₀ L h' m → News h₀ L h' ((q, pairO y z ty tz) :: (hdrLed w P (rs ++ [.ref q]) n' ++ TL)) → R (.ok (.ret (.str (tx z) tz))) { s with heap := h', toks := tk' }) :
    codeAny (model PP w) (ktrTop dp un gd cn ⟨.function, nm, ig, ic, mo⟩ L a ccd cl outer) (.call (.ref 161) ⟨[.ref P.x, .str (tx y) ty, .str (tx z) tz], []⟩) R s := by
  obtain ⟨o1, o2, o3⟩ := O
  simp only [hdrLed, List.cons_append, List.nil_append] at N
  k_dflt (refine' codeK ?k1 ?k2 ?k3 ?k4 ?k5 ?kA ?kF ?kK ?k6 ?k7 ?k8 ?k9 ?kB ?_ ?c2 ?c3 ?c4 ?c5; (case kA => exact rfl); (case kF => exact rfl); (case kK => exact rfl); (case k1 => exact B); (case k2 => exact F); (case k3 => exact X); (case k4 => exact N); (case k5 => exact T); (case k6 => k_is); (case k7 => k_is); (case k8 => k_room); (case k9 => first | exact BindsTo.of_eq rfl | exact binds_K (by k_in) rfl (by k_is) rfl rfl rfl); (case c5 => decide); (case kB => exact locs rfl); (case c2 => exact rfl); (case c3 => exact rfl); (case c4 => exact rfl); k_whole; intro g L' h' kg kl l1 FG F' N' B' X' T'; (try k_lt l1); (have codeHd := codeHd_of_K (c := 230) (P := 226) X' (by kernel_rfl)); (try dsimp only); (try k_lift B'); (try k_fold))
  have hT := allLt_mem (show AllLt L' TL from by simp only [l1])
  k_steps
  unfold Stop
  rename Fr g L' _ _ => F1
  rename News g L' _ _ => N1
  k_dflt (refine' hdr_get ?cB ?cF ?cX ?cT ?cd ?cu ⟨o1, o2, o3⟩ ?cN hp hps hr hy ly ?_; (case cB => k_asm); (case cF => exact F1); (case cX => k_asm); (case cT => k_asm); (case cd => (refine' room1 ?ha ?hb; (case ha => assumption); (case hb => rfl))); (case cu => (refine' unit1 3 ?ha ?hb ?hc; (case ha => assumption); (case hb => rfl); (case hc => decide))); (case cN => exact N1))
  intro v h' tk' kp F7 hg
  have hv : v = .none := by
    unfold GetIs at hg
    rw [List.find?_eq_none.mpr (by simpa using hno)] at hg
    exact hg
  subst hv
  k_dflt (refine' repl_go0 kp N1 ?_)
  intro N7
  clear kp hg F1 N1
  dsimp only
  k_steps
  rename Fr g _ _ _ => Fg
  rename News g _ _ _ => N8
  rename _ ∧ _ => l3
  obtain ⟨q1, q2, q3, q4⟩ := l3
  refine hret _ _ _ _ ?_ (fresh_all N8 kg ?_) q3 q2 (by assumption) (by assumption)
  · have kk := fun (b : Nat) o e hb => Fg.keep b o (kg b o e hb)
    exact kept_tl (X := [(P.x, instObj 171 P.d), (P.d, dictOf [ent w "_headers" P.t (.ref P.hl)] 1), (P.hl, listOf rs.toArray n)]) N (fun p hp => (N8 p (by simp [hp])).1) kk
  · simp only [List.map_cons, List.mem_cons, not_or]
    refine ⟨Nat.ne_of_gt q1, Nat.ne_of_gt q2, Nat.ne_of_gt q3, fun h => ?_⟩
    obtain ⟨p, hp, e⟩ := List.mem_map.mp h
    exact Nat.ne_of_lt (allLt_mem q4 p hp) e
end
end
theorem cx12 {p : Program} {w : World} {A : Around} {Q : Value → Shared → Prop} {E : Value → Shared → Prop} {s : Shared} (h : wpAny (model p w) A (pyIter Value.none) Q E s) : wpAny (model p w) A (pyIter Value.none) Q E s := by first | (walk1; fail "x") | exact h
section
theorem kms_full (l : List Value) : kms_pick l.toArray.toList none none = l := by
  rw [List.toList_toArray]
  show (l.drop 0).take (l.length - 0) = l
  rw [List.drop_zero, Nat.sub_zero, List.take_length]
section
variable {w : World} {dp un : Nat} {gd : Option (List Code)} {cn : Str} {nm : List (Str × NameKind)} {ig ic : Bool} {mo : List (Str × Const)} {a : Addr} {ccd : Value} {cl : List (Str × Addr)} {outer : List Env} {A₀ : Around} {base h₀ : Heap} {L : Addr} {m : Str → Option Value} {news : List (Addr × Obj)} {s : Shared} {p : Program} {loose : List Str} {mean : ExcName → Option Value} {mg mb : Str → Option Value} {R : Result → Shared → Prop}
set_option maxHeartbeats 0 in
theorem hdr_items {P : HdrP} {rs : List Value} {n : Nat} (B : Below A₀ base outer h₀) (F : Fr h₀ L s.heap m) (X : (hd2.heap_1 w.params).In h₀) (T : Top p loose mean mg mb h₀) (hd : dp + 10 < recursionLimit) (hu : un + 100 < cLine) (O : P.Ok2) (N : News h₀ L s.heap (hdrLed w P rs n)) (hr : rs.length < 1000)
    (hret : ∀ (q : Nat) h' tk', (∀ (b : Nat) o, s.heap.get? b = some o → h'.get? b = some o) → (∀ (b : Nat) o, s.heap.get? b = some o → b ≠ q) → Fr h₀ L h' m → News h₀ L h' [(q, listOf rs.toArray 0)] → R (.ok (.ret (.ref q))) { s with heap := h', toks := tk' }) :
    codeAny (model PP w) (ktrTop dp un gd cn ⟨.function, nm, ig, ic, mo⟩ L a ccd cl outer) (.call (.ref 135) ⟨[.ref P.x], []⟩) R s := by
  obtain ⟨o1, o2, o3⟩ := O
  unfold hdrLed at N
  k_dflt (refine' codeK ?k1 ?k2 ?k3 ?k4 ?k5 ?kA ?kF ?kK ?k6 ?k7 ?k8 ?k9 ?kB ?_ ?c2 ?c3 ?c4 ?c5; (case kA => exact rfl); (case kF => exact rfl); (case kK => exact rfl); (case k1 => exact B); (case k2 => exact F); (case k3 => exact X); (case k4 => exact N); (case k5 => exact T); (case k6 => k_is); (case k7 => k_is); (case k8 => k_room); (case k9 => first | exact BindsTo.of_eq rfl | exact binds_K (by k_in) rfl (by k_is) rfl rfl rfl); (case c5 => decide); (case kB => exact locs rfl); (case c2 => exact rfl); (case c3 => exact rfl); (case c4 => exact rfl); k_whole; intro g L' h' kg kl l1 FG F' N' B' X' T'; (try k_lt l1); (have codeHd := codeHd_of_K (c := 230) (P := 226) X' (by kernel_rfl)); (try dsimp only); (try k_lift B'); (try k_fold))
  have hz9 : rs.length ≤ sizeLine := by rw [PySem.sizeLine_eq]; omega
  rename News g L' _ _ => N7
  k_steps
  rename Fr g _ _ _ => Fg
  rename News g _ _ _ => N8
  rename News h₀ _ _ _ => N9
  rw [kms_pick_eq, kms_full] at N8 N9
  refine hret _ _ _ (kept_all N N8 (fun p hp => List.mem_cons_of_mem _ hp) fun b o e hb => Fg.keep b o (kg b o e hb)) (fresh_all N8 kg fun h => ?_) (by assumption) (news_head N9)
  obtain ⟨p, hp, e⟩ := List.mem_map.mp h
  have h1 := Heap.lt_size (N7 p hp).1
  rw [e] at h1
  exact Nat.lt_irrefl _ (Nat.lt_of_succ_lt h1)
end
end
theorem cx13 {p : Program} {w : World} {A : Around} {Q : Value → Shared → Prop} {E : Value → Shared → Prop} {s : Shared} (h : wpAny (model p w) A (pyIter Value.none) Q E s) : wpAny (model p w) A (pyIter Value.none) Q E s := by first | (walk1; fail "x") | exact h
section
local macro_rules | `(tactic| k_all) => `(tactic| assumption)
local macro_rules | `(tactic| walk_at "exec For Tuple Name cons nil") => `(tactic| (k_here; refine Stop.out ?_))
local macro_rules | `(tactic| walk_at "UnrEndW") => `(tactic| ((with_reducible show UnrEndW _ _ _ _ _ _); refine Stop.out ?_))
theorem ent_tok {w : World} {h₀ h : Heap} {L x d k : Nat} {o : Obj} {t : Tok} {v : Value} {r : List (Addr × Obj)} (_ : News h₀ L h ((x, o) :: (d, dictOf [ent w "_headers" t v] k) :: r)) : ∃ t', t' = t := ⟨_, rfl⟩
section
variable {w : World} {dp un : Nat} {gd : Option (List Code)} {cn : Str} {nm : List (Str × NameKind)} {ig ic : Bool} {mo : List (Str × Const)} {a : Addr} {ccd : Value} {cl : List (Str × Addr)} {outer : List Env} {A₀ : Around} {base h₀ : Heap} {L : Addr} {m : Str → Option Value} {news : List (Addr × Obj)} {s : Shared} {p : Program} {loose : List Str} {mean : ExcName → Option Value} {mg mb : Str → Option Value} {R : Result → Shared → Prop}
set_option maxHeartbeats 0 in
theorem hdr_init {x d hl n : Nat} {rs : List Value} {ps : List (List Nat × List Nat)} {TL : List (Addr × Obj)} (B : Below A₀ base outer h₀) (F : Fr h₀ L s.heap m) (X : (hd2.heap_1 w.params).In h₀) (T : Top p loose mean mg mb h₀) (hd : dp + 10 < recursionLimit) (hu : un + 100 < cLine) (h1 : d < x) (hx : @Ne Nat x hl) (hd1 : @Ne Nat d hl) (N : News h₀ L s.heap ((x, instObj 171 d) :: (d, dictOf [] 0) :: (hl, listOf rs.toArray n) :: TL)) (hp : Prs TL rs ps) (hps : ∀ q z z2 t1 t2, (q, pairO z z2 t1 t2) ∈ TL → (z.all reOk = true ∧ z.length < 1000) ∧ (z2.all reOk = true ∧ z2.length < 1000)) (hr : rs.length < 1000) (hTx : ∀ p ∈ TL, @Ne Nat p.1 x) (hTd : ∀ p ∈ TL, @Ne Nat p.1 d)
    (hret : ∀ t h' tk', (∀ (b : Nat) o, s.heap.get? b = some o → b ∉ [x, d, hl] → h'.get? b = some o) → Fr h₀ L h' m → News h₀ L h' (hdrLed w ⟨x, d, hl, t⟩ rs n ++ TL) → R (.ok (.ret .none)) { s with heap := h', toks := tk' }) :
    codeAny (model PP w) (ktrTop dp un gd cn ⟨.function, nm, ig, ic, mo⟩ L a ccd cl outer) (.call (.ref 63) ⟨[.ref x, .ref hl], []⟩) R s := by
  k_dflt (refine' codeK ?k1 ?k2 ?k3 ?k4 ?k5 ?kA ?kF ?kK ?k6 ?k7 ?k8 ?k9 ?kB ?_ ?c2 ?c3 ?c4 ?c5; (case kA => exact rfl); (case kF => exact rfl); (case kK => exact rfl); (case k1 => exact B); (case k2 => exact F); (case k3 => exact X); (case k4 => exact N); (case k5 => exact T); (case k6 => k_is); (case k7 => k_is); (case k8 => k_room); (case k9 => first | exact BindsTo.of_eq rfl | exact binds_K (by k_in) rfl (by k_is) rfl rfl rfl); (case c5 => decide); (case kB => exact locs rfl); (case c2 => exact rfl); (case c3 => exact rfl); (case c4 => exact rfl); k_whole; intro g L' h' kg kl l1 FG F' N' B' X' T'; (try k_lt l1); (have codeHd := codeHd_of_K (c := 230) (P := 226) X' (by kernel_rfl)); (try dsimp only); (try k_lift B'); (try k_fold))
  have hT := allLt_mem (show AllLt L' TL from by simp only [l1])
  k_steps
  unfold Stop
  rename Fr g L' _ _ => F1
  rename News g L' _ _ => N1
  with_unfolding_all refine' For_turns F1 ?_
  k_steps
  obtain ⟨tn, et⟩ := ent_tok (w := w) N1
  have N1 : News g L' _ ((x, instObj 171 d) :: (d, dictOf [ent w "_headers" _ (.ref hl)] 1) :: _) := N1
  rw [← et] at N1
  refine iter_listTurns (vs := rs) (n := n) rfl F1 N1 (by k_mem) rfl rfl fun I l2 => ?_
  refine items_inv (fun i m' nw => nw = hdrLed w ⟨x, d, hl, tn⟩ rs n ++ TL ∧ m' (Str.ofString "self") = some (.ref x)) ?init ?turn ?fin
  case init =>
    exact ⟨rfl, by ktr_unf⟩
  case turn =>
    rintro i v m' nw h tk hv ⟨rfl, e1⟩ F9
    obtain ⟨q, z, z2, t1, t2, rfl, hp1, hq⟩ := hp.2 i v hv
    obtain ⟨⟨hz1, hz2⟩, hz3, hz4⟩ := hps q z z2 t1 t2 hq
    simp only [hdrLed, List.cons_append, List.nil_append]
    ktu_objs
    k_steps
    unfold Stop
    rename Fr g _ _ _ => Fg
    rename News _ _ _ _ => N8
    exact endW1 Fg N8 l2 ⟨⟨by k_mem, trivial⟩, rfl, by ktr_unf⟩
  case fin =>
    rintro m' nw h tk ⟨rfl, e1⟩ F9 N9
    k_steps
    rename Fr g _ _ _ => Fg
    refine hret tn _ _ (kept_tl (X := [(x, instObj 171 d), (d, dictOf [] 0), (hl, listOf rs.toArray n)]) N (fun p hp => (N9 p ?_).1) fun b o e hb => Fg.keep b o (kg b o e hb)) (by assumption) (by assumption)
    exact List.mem_append_right _ hp
end
end
end
theorem cx14 {p : Program} {w : World} {A : Around} {Q : Value → Shared → Prop} {E : Value → Shared → Prop} {s : Shared} (h : wpAny (model p w) A (pyIter Value.none) Q E s) : wpAny (model p w) A (pyIter Value.none) Q E s := by first | (walk1; fail "x") | exact h
section
theorem ne_obj {h₀ h : Heap} {L a b : Addr} {o p : Obj} {l : List (Addr × Obj)} (N : News h₀ L h l) (ha : (a, o) ∈ l) (hb : (b, p) ∈ l) (hc : o.cls ≠ p.cls) : @Ne Nat a b := fun e => by
  have h1 := (N _ ha).1
  have h2 := (N _ hb).1
  have e : a = b := e
  subst e
  exact hc (congrArg Obj.cls (Option.some.inj (h1.symm.trans h2)))
section
variable {w : World} {dp un : Nat} {gd : Option (List Code)} {cn : Str} {nm : List (Str × NameKind)} {ig ic : Bool} {mo : List (Str × Const)} {a : Addr} {ccd : Value} {cl : List (Str × Addr)} {outer : List Env} {A₀ : Around} {base h₀ : Heap} {L : Addr} {m : Str → Option Value} {news : List (Addr × Obj)} {s : Shared} {p : Program} {loose : List Str} {mean : ExcName → Option Value} {mg mb : Str → Option Value} {R : Result → Shared → Prop}
set_option maxHeartbeats 0 in
theorem hdr_init0 {x d : Nat} (B : Below A₀ base outer h₀) (F : Fr h₀ L s.heap m) (X : (hd2.heap_1 w.params).In h₀) (T : Top p loose mean mg mb h₀) (hd : dp + 10 < recursionLimit) (hu : un + 100 < cLine) (h1 : d < x) (N : News h₀ L s.heap [(x, instObj 171 d), (d, dictOf [] 0)])
    (hret : ∀ (hl : Nat) t h' tk', (∀ (b : Nat) o, s.heap.get? b = some o → b ∉ [x, d] → h'.get? b = some o) → (∀ (b : Nat) o, s.heap.get? b = some o → b ≠ hl) → x ≠ hl → d ≠ hl → Fr h₀ L h' m → News h₀ L h' (hdrLed w ⟨x, d, hl, t⟩ [] 0) → R (.ok (.ret .none)) { s with heap := h', toks := tk' }) :
    codeAny (model PP w) (ktrTop dp un gd cn ⟨.function, nm, ig, ic, mo⟩ L a ccd cl outer) (.call (.ref 63) ⟨[.ref x], []⟩) R s := by
  k_dflt (refine' codeK ?k1 ?k2 ?k3 ?k4 ?k5 ?kA ?kF ?kK ?k6 ?k7 ?k8 ?k9 ?kB ?_ ?c2 ?c3 ?c4 ?c5; (case kA => exact rfl); (case kF => exact rfl); (case kK => exact rfl); (case k1 => exact B); (case k2 => exact F); (case k3 => exact X); (case k4 => exact N); (case k5 => exact T); (case k6 => k_is); (case k7 => k_is); (case k8 => k_room); (case k9 => first | exact BindsTo.of_eq rfl | exact binds_K (by k_in) rfl (by k_is) rfl rfl rfl); (case c5 => decide); (case kB => exact locs rfl); (case c2 => exact rfl); (case c3 => exact rfl); (case c4 => exact rfl); k_whole; intro g L' h' kg kl l1 FG F' N' B' X' T'; (try k_lt l1); (have codeHd := codeHd_of_K (c := 230) (P := 226) X' (by kernel_rfl)); (try dsimp only); (try k_lift B'); (try k_fold))
  k_steps
  rename Fr g _ _ _ => Fg
  rename News g _ _ _ => N8
  rename News h₀ _ _ _ => N9
  obtain ⟨H, e1, e2, e3, e4⟩ := hdr_names (w := w) N9
  subst e1 e2 e3
  have N9 : News h₀ L _ [(H.hl, listOf #[] 0), (H.x, instObj 171 H.d), (H.d, dictOf [ent w "_headers" _ (.ref H.hl)] 1)] := N9
  rw [← e4] at N9
  have f1 : @Ne Nat H.hl H.x := ne_obj N8 (.head _) (.tail _ (.head _)) (by k_cls)
  have f2 : @Ne Nat H.hl H.d := ne_obj N8 (.head _) (.tail _ (.tail _ (.head _))) (by k_cls)
  exact hret H.hl H.t _ _ (fun b o e hb => Fg.keep b o (kg b o e hb)) (fresh_all N8 kg (by simp only [List.map_cons, List.map_nil, List.mem_cons, List.not_mem_nil, or_false, not_or]; exact ⟨f1, f2⟩)) (Ne.symm f1) (Ne.symm f2) (by assumption) (news_sub N9 (fun p hp => by simp only [hdrLed, List.mem_cons, List.not_mem_nil, or_false] at hp ⊢; rcases hp with h | h | h <;> simp [h]))
end
end
theorem cx15 {p : Program} {w : World} {A : Around} {Q : Value → Shared → Prop} {E : Value → Shared → Prop} {s : Shared} (h : wpAny (model p w) A (pyIter Value.none) Q E s) : wpAny (model p w) A (pyIter Value.none) Q E s := by first | (walk1; fail "x") | exact h
section
/-! the coins -/
structure C3 where
  (c m : Nat) (l : List Nat)
noncomputable def C3.word (x : C3) : List Nat := x.c :: List.replicate x.m 32
/-- what lies on the pan of the letter k at the n-th weighing -/
noncomputable def wl (n k : Nat) (cs : List C3) : Nat := (cs.map fun x => if x.l.getD n 0 = k then x.m else 0).sum
theorem wl_snoc (n k : Nat) (cs : List C3) (x : C3) : wl n k (cs ++ [x]) = wl n k cs + (if x.l.getD n 0 = k then x.m else 0) := by
  unfold wl
  rw [List.map_append, List.sum_append]
  simp
theorem wl_le (n k : Nat) : ∀ cs : List C3, (∀ x ∈ cs, x.m ≤ 4) → wl n k cs ≤ 4 * cs.length
  | [], _ => Nat.le_refl _
  | x :: cs, h => by
    have ih := wl_le n k cs fun y hy => h y (List.mem_cons_of_mem _ hy)
    have hx := h x List.mem_cons_self
    unfold wl at ih ⊢
    rw [List.map_cons, List.sum_cons, List.length_cons]
    split <;> omega
noncomputable def swp (c : Nat) : Nat := if 97 ≤ c then c - 32 else c + 32
def Ltr (c : Nat) : Prop := (97 ≤ c ∧ c < 109) ∨ (65 ≤ c ∧ c < 77)
theorem swap_tx {c : Nat} (h : Ltr c) : Txt.swapcase (tx [c]) = tx [swp c] := by
  have e1 : ∀ k : Fin 12, Txt.swapcase (tx [97 + k.1]) = tx [swp (97 + k.1)] := by decide +kernel
  have e2 : ∀ k : Fin 12, Txt.swapcase (tx [65 + k.1]) = tx [swp (65 + k.1)] := by decide +kernel
  rcases h with h | h
  · have := e1 ⟨c - 97, by omega⟩
    rwa [show 97 + (c - 97) = c from by omega] at this
  · have := e2 ⟨c - 65, by omega⟩
    rwa [show 65 + (c - 65) = c from by omega] at this
theorem ltr_ok {c : Nat} (h : Ltr c) : [c].all reOk = true := by
  unfold Ltr at h
  simp only [List.all_cons, List.all_nil, Bool.and_true, reOk, Bool.and_eq_true, decide_eq_true_eq]
  omega
theorem swp_ok {c : Nat} (h : Ltr c) : [swp c].all reOk = true := by
  unfold Ltr at h
  unfold swp
  simp only [List.all_cons, List.all_nil, Bool.and_true, reOk, Bool.and_eq_true, decide_eq_true_eq]
  split <;> omega
theorem C3.word_ok {x : C3} (h : Ltr x.c) : x.word.all reOk = true := by
  have h1 := ltr_ok h
  unfold C3.word
  rw [List.all_cons]
  rw [List.all_cons, List.all_nil, Bool.and_true] at h1
  rw [h1, Bool.true_and, List.all_eq_true]
  intro d hd
  rw [(List.mem_replicate.mp hd).2]; rfl
theorem swap_K {prog : Program} {w : World} {A : Around} {E : Value → Shared → Prop} {s : Shared} {c : Nat} {t : Tok} {Q : Value → Shared → Prop} (hc : Ltr c) (h : ∀ t' k, Q (.str (tx [swp c]) t') { s with toks := k }) : wpAny (model prog w) A (call (.builtin "str.swapcase") [.str (tx [c]) t]) Q E s :=
  KXw.swapcase (swap_tx hc) (by rw [swap_tx hc]; rfl) h
theorem lt_rep : ∀ a b : Nat, List.replicate a 32 < List.replicate b 32 ↔ a < b
  | 0, 0 => by simp
  | 0, b + 1 => by simp [List.replicate_succ]
  | a + 1, 0 => by simp [List.replicate_succ]
  | a + 1, b + 1 => by
    rw [List.replicate_succ, List.replicate_succ, List.cons_lt_cons_iff, lt_rep a b]
    omega
theorem rep_add (a b : Nat) : List.replicate a 32 ++ List.replicate b 32 = List.replicate (a + b) 32 := List.replicate_append_replicate
end
section
local macro_rules | `(tactic| kct_strs) => `(tactic| first | assumption | exact Txs.nil | (refine Txs.cons ?_; kct_strs) | exact Txs.append (by kct_strs) (by kct_strs) | exact Txs.reverse (by kct_strs))
local macro_rules | `(tactic| walk_at "binaryOp Add ref ref") => `(tactic| (k_here; k_dflt (refine' addL_K (by k_asm) (by k_asm) (by kmk_list) (by kmk_list) ?_ (by ktr_rel)); intro D' h' F' N' l1; (try k_lt l1); (try k_sweep)))
local macro_rules | `(tactic| walk_at "subscriptTail Name Slice ref ref") => `(tactic| (k_here; (with_reducible show wpAny _ _ (subscriptTail _ (PySem.Expr.Slice none none (some _) _) (Value.ref _) (Value.ref _)) _ _ _); k_dflt (refine' revS_K (by k_asm) (by k_asm) (by kmk_list) (by exact IsPart.int _ _) ?_ (by with_unfolding_all rfl) (by intro _; with_unfolding_all rfl) (by ktr_rel)); intro D' h' F' N' l1; (try k_lt l1); (try k_sweep)))
local macro_rules | `(tactic| l_idx) => `(tactic| first | assumption | omega)
local macro_rules | `(tactic| walk_at "subscriptTail Name BinOp ref int") => `(tactic| (k_here; k_dflt (refine' itemS_K (by kmk_list) (by kct_strs) (by l_idx) (by l_idx) (by ktr_rel) ?_ (by with_unfolding_all rfl) (by intro _; with_unfolding_all rfl)); intro t'))
local macro_rules | `(tactic| walk_at "subscriptTail Name Name ref int") => `(tactic| (k_here; k_dflt (refine' itemS_K (by kmk_list) (by kct_strs) (by l_idx) (by l_idx) (by ktr_rel) ?_ (by with_unfolding_all rfl) (by intro _; with_unfolding_all rfl)); intro t'))
local macro_rules | `(tactic| walk_at "call builtin:list.index") => `(tactic| (k_here; k_dflt (refine' indexS_K (by kmk_list) (by kct_strs) (by first | assumption | decide | ktr_rel) (by first | assumption | decide) ?_); intro t' k'))
local macro_rules | `(tactic| walk_at "call builtin:list.count") => `(tactic| (k_here; k_dflt (refine' countS_K (by kmk_list) (by kct_strs) ?_); intro t' k'))
local macro_rules | `(tactic| walk_at "exec Assign cons ListComp") => `(tactic| (k_here; refine Stop.out ?_))
local macro_rules | `(tactic| walk_at "subscriptTail Name Slice str ref") => `(tactic| (k_here; (with_reducible show wpAny _ _ (subscriptTail _ (Expr.Slice none (some _) none _) _ _) _ _ _); k_dflt (refine' to1_K (s := ⟨_, _, _, _, _⟩) (by k_asm) (by k_asm) ?_ (by with_unfolding_all rfl) (by intro _; with_unfolding_all rfl) (by ktr_rel)); intro h' t' k' F' N'; (try k_sweep)))
local macro_rules | `(tactic| walk_at "subscriptTail Name Slice str ref") => `(tactic| (k_here; (with_reducible show wpAny _ _ (subscriptTail _ (Expr.Slice (some _) none none _) _ _) _ _ _); k_dflt (refine' from1_K (s := ⟨_, _, _, _, _⟩) (by k_asm) (by k_asm) ?_ (by with_unfolding_all rfl) (by intro _; with_unfolding_all rfl) (by ktr_rel)); intro h' t' k' F' N'; (try k_sweep)))
local macro_rules | `(tactic| walk_at "call builtin:len") => `(tactic| (k_here; k_dflt (refine' lenL_K (by kmk_list) (by ktr_rel) ?_); intro t' tk'))
-- a part of a ledger, and a contract's part put back (the kit's k_upd, for these goals)
local macro_rules | `(tactic| k_upd) => `(tactic| first
  | exact subs_nil
  | (refine' subs_cons ?ca ?cb; (case ca => k_mem); (case cb => k_upd))
  | exact Repl.nil
  | (refine' Repl.hit ?ca; (case ca => k_upd))
  | (refine' Repl.miss ?ca ?cb; (case ca => first | (refine AllNe.notin ?_; assumption) | (refine AllNe.notin (LexP.Ok.hi (by assumption) (by omega))) | (refine AllNe.notin ?_; simp only [AllNe, and_true]; omega)); (case cb => k_upd))
  | fail "k_upd")
local macro_rules | `(tactic| k_enter) => `(tactic| ((first
  | ((with_reducible show codeAny _ _ (Code.call (Value.ref 217) _) _ _); k_dflt (refine' tok_push (by k_asm) (by k_asm) (by k_asm) (by k_asm) (by first | decide | exact room1 (by assumption) rfl | fail "hd") (by first | decide | exact unit1 3 (by assumption) rfl (by decide) | fail "hu") (by assumption) (by exact news_sub (by k_asm) (by k_upd)) (by ktr_rel) ?_))
  | ((with_reducible show codeAny _ _ (Code.call (Value.ref 210) _) _ _); k_dflt (refine' tok_pop (by k_asm) (by k_asm) (by k_asm) (by k_asm) (by first | decide | exact room1 (by assumption) rfl | fail "hd") (by first | decide | exact unit1 3 (by assumption) rfl (by decide) | fail "hu") (by assumption) (by exact news_sub (by k_asm) (by k_upd)) (by ktr_rel) ?_))); intro pe' h' tk' kp' F9' N9'; k_dflt (refine' repl_go kp' N9' (by k_asm) (by k_upd) ?_); clear kp' N9'; intro N9'; (try simp only [List.cons_append, List.nil_append, List.append_eq] at N9'); (try k_sweep); (try dsimp only)))
local macro_rules | `(tactic| k_ne) => `(tactic| (refine neN ?_; (try dsimp only); first
  | with_reducible assumption
  | (refine Ne.symm ?_; with_reducible assumption)
  | (refine neP1 ?_; with_reducible assumption)
  | (refine neP2 ?_; with_reducible assumption)
  | (refine neP3 ?_; with_reducible assumption)
  | (refine neP4 ?_; with_reducible assumption)
  | (refine neP5 ?_; with_reducible assumption)
  | (refine neP6 ?_; with_reducible assumption)
  | (refine neP7 ?_; with_reducible assumption)
  | (refine neP8 ?_; with_reducible assumption)
  | (refine neP9 ?_; with_reducible assumption)
  | (refine neH1 ?_; with_reducible assumption)
  | (refine neH2 ?_; with_reducible assumption)
  | (refine neH3 ?_; with_reducible assumption)
  | lia))
local macro_rules | `(tactic| walk_at "pyIter ref") => `(tactic| (k_here; (with_reducible show wpAny _ _ (pyIter (Value.ref _)) (fun it s₂ => LoopAtV _ _ _ _ _ _ _ _ _ it s₂) _ _); (rename IsRange _ _ _ _ _ _ _ _ => r9); refine Stop.out ?_))
local macro_rules | `(tactic| walk_at "UnrEnd") => `(tactic| ((with_reducible show UnrEnd _ _ _ _ _ _ _); refine Stop.out ?_))
local macro_rules | `(tactic| walk_at "call builtin:str.upper") => `(tactic| (k_here; (refine' upper_tx (by assumption) (by ktr_rel) ?_); intro t' k'))
local macro_rules | `(tactic| walk_at "eval IfExp") => `(tactic| (k_here; (have zz : MkA := by assumption); clear zz; refine Stop.out ?_))
local macro_rules | `(tactic| l_idx) => `(tactic| first | assumption | omega)
local macro_rules | `(tactic| walk_at "binaryOp Add str str") => `(tactic| (k_here; (with_reducible show wpAny _ _ (binaryOp _ (Value.str (tx _) _) (Value.str (tx _) _)) _ _ _); (refine' addTx_K ?_ (by ktr_rel)); intro t' tk'))
local macro_rules | `(tactic| walk_at "subscriptTail") => `(tactic| (k_here; k_dflt (refine' itemStr_K (by l_idx) (by l_idx) (by first | decide | assumption | fail "sz") ?_ (by with_unfolding_all rfl) (by intro _; with_unfolding_all rfl)); intro t' k'))
local macro_rules | `(tactic| walk_at "subscriptTail Name Slice ref ref") => `(tactic| (k_here; (with_reducible show wpAny _ _ (subscriptTail _ (PySem.Expr.Slice (some _) none (some _) _) (Value.ref _) (Value.ref _)) _ _ _); k_dflt (refine' sliceI_K (by k_asm) (by k_asm) (by kmk_list) (by exact IsPart.int _ _) (by exact IsPart.none) (by exact IsPart.int _ _) (by decide) (by assumption) ?_ (by with_unfolding_all rfl) (by intro _; with_unfolding_all rfl) (by ktr_rel)); intro D' vs' ms' h' F' N' l1 hI'; (try k_lt l1); (try k_sweep)))
theorem cx16 {p : Program} {w : World} {A : Around} {Q : Value → Shared → Prop} {E : Value → Shared → Prop} {s : Shared} (h : wpAny (model p w) A (pyIter Value.none) Q E s) : wpAny (model p w) A (pyIter Value.none) Q E s := by first | (walk1; fail "x") | exact h
section
/-! the twelve labels -/
noncomputable def lc (k : Nat) : Nat := [108, 109, 114].getD k 0
noncomputable def lab (x y z : Nat) : List Nat := [lc x, lc y, lc z]
def lbOk (x y z : Nat) : Bool := (if ((y : Int) - x).fmod 3 ≠ 0 then ((y : Int) - x).fmod 3 else ((z : Int) - y).fmod 3) == 1
noncomputable def row3 (x y k : Nat) : List (List Nat) := ((List.range k).filter (fun z => lbOk x y z)).map (lab x y)
noncomputable def row2 (x k : Nat) : List (List Nat) := ((List.range k).map fun y => row3 x y 3).flatten
noncomputable def row1 (k : Nat) : List (List Nat) := ((List.range k).map fun x => row2 x 3).flatten
theorem row3_step (x y k : Nat) : row3 x y (k + 1) = row3 x y k ++ (if lbOk x y k then [lab x y k] else []) := by
  unfold row3
  rw [List.range_succ, List.filter_append, List.map_append]
  congr 1
  by_cases h : lbOk x y k = true
  · rw [List.filter_cons_of_pos h, if_pos h]; rfl
  · rw [List.filter_cons_of_neg h, if_neg h]; rfl
theorem row2_step (x k : Nat) : row2 x (k + 1) = row2 x k ++ row3 x k 3 := by
  unfold row2
  rw [List.range_succ, List.map_append, List.flatten_append, List.map_cons, List.map_nil, List.flatten_cons, List.flatten_nil, List.append_nil]
theorem row1_step (k : Nat) : row1 (k + 1) = row1 k ++ row2 k 3 := by
  unfold row1
  rw [List.range_succ, List.map_append, List.flatten_append, List.map_cons, List.map_nil, List.flatten_cons, List.flatten_nil, List.append_nil]
theorem ok_1 {i j k : Nat} (h : Int.fmod (0 + (j : Int) - (0 + (i : Int))) 3 = 1) : lbOk i j k = true := by
  rw [Int.zero_add, Int.zero_add] at h
  unfold lbOk
  rw [h]; rfl
theorem ok_2 {i j k : Nat} (h : Int.fmod (0 + (j : Int) - (0 + (i : Int))) 3 ≠ 0) (h' : Int.fmod (0 + (j : Int) - (0 + (i : Int))) 3 ≠ 1) : lbOk i j k = false := by
  rw [Int.zero_add, Int.zero_add] at h h'
  unfold lbOk
  rw [if_pos h]
  exact beq_eq_false_iff_ne.mpr h'
theorem ok_3 {i j k : Nat} (h : Int.fmod (0 + (j : Int) - (0 + (i : Int))) 3 = 0) (h' : Int.fmod (0 + (k : Int) - (0 + (j : Int))) 3 = 1) : lbOk i j k = true := by
  rw [Int.zero_add, Int.zero_add] at h h'
  unfold lbOk
  rw [h, h']; rfl
theorem ok_4 {i j k : Nat} (h : Int.fmod (0 + (j : Int) - (0 + (i : Int))) 3 = 0) (h' : Int.fmod (0 + (k : Int) - (0 + (j : Int))) 3 ≠ 1) : lbOk i j k = false := by
  rw [Int.zero_add, Int.zero_add] at h h'
  unfold lbOk
  rw [h, if_neg (by decide)]
  exact beq_eq_false_iff_ne.mpr h'
theorem lc_fact {i : Nat} (h : i < 3) : (Str.ofString "lmr").cps.toList.getD (0 + (i : Int)).toNat 0 = lc i := by
  have e : ∀ k : Fin 3, (Str.ofString "lmr").cps.toList.getD k.1 0 = lc k.1 := by decide
  rw [Int.zero_add, Int.toNat_natCast]
  exact e ⟨i, h⟩
theorem lab_add {i j k : Nat} {us : List Value} {t : Tok} {r : List (List Nat)} (hi : i < 3) (hj : j < 3) (hk : k < 3) (ok : lbOk i j k = true) (h : Txs us (r ++ row3 i j k)) :
    Txs (us ++ [.str (tx ([(Str.ofString "lmr").cps.toList.getD (0 + (i : Int)).toNat 0] ++ [(Str.ofString "lmr").cps.toList.getD (0 + (j : Int)).toNat 0] ++ [(Str.ofString "lmr").cps.toList.getD (0 + (k : Int)).toNat 0])) t]) (r ++ row3 i j (k + 1)) := by
  rw [row3_step, if_pos ok, ← List.append_assoc, lc_fact hi, lc_fact hj, lc_fact hk]
  exact h.append (Txs.cons (y := lab i j k) Txs.nil)
theorem lab_no {i j k : Nat} {us : List Value} {r : List (List Nat)} (ok : lbOk i j k = false) (h : Txs us (r ++ row3 i j k)) : Txs us (r ++ row3 i j (k + 1)) := by
  rw [row3_step, ok, if_neg (by decide), List.append_nil]
  exact h
section
variable {w : World} {dp un : Nat} {gd : Option (List Code)} {cn : Str} {nm : List (Str × NameKind)} {ig ic : Bool} {mo : List (Str × Const)} {a : Addr} {ccd : Value} {cl : List (Str × Addr)} {outer : List Env} {A₀ : Around} {base h₀ : Heap} {L : Addr} {m : Str → Option Value} {news : List (Addr × Obj)} {s : Shared} {p : Program} {loose : List Str} {mean : ExcName → Option Value} {mg mb : Str → Option Value} {R : Result → Shared → Prop}
set_option maxHeartbeats 0 in
theorem labels_spec (B : Below A₀ base outer h₀) (F : Fr h₀ L s.heap m) (X : (hd2.heap_1 w.params).In h₀) (T : Top p loose mean mg mb h₀) (hd : dp + 10 < recursionLimit) (hu : un + 100 < cLine)
    (hret : ∀ (q : Nat) vs n h' tk', (∀ (b : Nat) o, s.heap.get? b = some o → h'.get? b = some o) → (∀ (b : Nat) o, s.heap.get? b = some o → b ≠ q) → Fr h₀ L h' m → News h₀ L h' [(q, listOf vs.toArray n)] → Txs vs (row1 3) → R (.ok (.ret (.ref q))) { s with heap := h', toks := tk' }) :
    codeAny (model PP w) (ktrTop dp un gd cn ⟨.function, nm, ig, ic, mo⟩ L a ccd cl outer) (.call (.ref 243) ⟨[], []⟩) R s := by
  have N : News h₀ L s.heap [] := News.nil
  k_dflt (refine' codeK ?k1 ?k2 ?k3 ?k4 ?k5 ?kA ?kF ?kK ?k6 ?k7 ?k8 ?k9 ?kB ?_ ?c2 ?c3 ?c4 ?c5; (case kA => exact rfl); (case kF => exact rfl); (case kK => exact rfl); (case k1 => exact B); (case k2 => exact F); (case k3 => exact X); (case k4 => exact N); (case k5 => exact T); (case k6 => k_is); (case k7 => k_is); (case k8 => k_room); (case k9 => first | exact BindsTo.of_eq rfl | exact binds_K (by k_in) rfl (by k_is) rfl rfl rfl); (case c5 => decide); (case kB => exact locs rfl); (case c2 => exact rfl); (case c3 => exact rfl); (case c4 => exact rfl); k_whole; intro g L' h' kg kl l1 FG F' N' B' X' T'; (try k_lt l1); (have codeHd := codeHd_of_K (c := 230) (P := 226) X' (by kernel_rfl)); (try dsimp only); (try k_lift B'); (try k_fold))
  k_steps
  unfold Stop
  have hs3 : (Str.ofString "lmr").cps.size = 3 := by decide
  rename IsRange _ _ 0 3 1 _ _ _ => r9
  rename Fr g L' _ _ => F1
  rename News _ _ _ _ => N1
  obtain ⟨q, p0, eq, ep⟩ := names1 N1
  rw [← ep] at N1
  subst eq
  refine iter_rangeUnr (n := 3) rfl r9 (by decide) (by decide) F1 N1 fun i1 l2 => ?_
  k_lt l2
  clear r9
  refine range_inv (fun i m' nw => ∃ vs n, m' (Str.ofString "labels") = some (.ref q) ∧ Txs vs (row1 i) ∧ vs.length ≤ 9 * i ∧ nw = [(q, listOf vs.toArray n)]) ⟨[], 0, by ktr_unf, Txs.nil, Nat.le_refl _, by rw [ep]⟩ ?turn ?fin
  case turn =>
    rintro i t m1 nw h tk hi ⟨vs, n, e1, hv, hl, rfl⟩ F9 N9
    k_steps
    unfold Stop
    rename IsRange _ _ 0 3 1 _ _ _ => r9
    rename Fr g L' _ _ => F2
    rename News _ _ _ _ => N2
    refine iter_rangeUnr (n := 3) rfl r9 (by decide) (by decide) F2 N2 fun i2 l3 => ?_
    k_lt l3
    clear r9
    refine range_inv (fun j m' nw => ∃ vs' n, m' (Str.ofString "labels") = some (.ref q) ∧ m' (Str.ofString "x") = some (.int (0 + (i : Int)) t) ∧ Txs vs' (row1 i ++ row2 i j) ∧ vs'.length ≤ 9 * i + 3 * j ∧ nw = [(i1, itR (0 + ((i + 1 : Nat) : Int)) ((3 : Int) - ((i + 1 : Nat) : Int))), (q, listOf vs'.toArray n)]) ⟨vs, n, by ktr_unf, by ktr_unf, by simpa [row2] using hv, by omega, rfl⟩ ?turn2 ?fin2
    case turn2 =>
      rintro j tj m2 nw h tk hj ⟨vs', n', e2, e3, hv', hl', rfl⟩ F10 N10
      k_steps
      unfold Stop
      rename IsRange _ _ 0 3 1 _ _ _ => r9
      rename Fr g L' _ _ => F3
      rename News _ _ _ _ => N3
      refine iter_rangeUnr (n := 3) rfl r9 (by decide) (by decide) F3 N3 fun i3 l4 => ?_
      k_lt l4
      clear r9
      refine range_inv (fun k m' nw => ∃ us n, m' (Str.ofString "labels") = some (.ref q) ∧ m' (Str.ofString "x") = some (.int (0 + (i : Int)) t) ∧ m' (Str.ofString "y") = some (.int (0 + (j : Int)) tj) ∧ Txs us (row1 i ++ row2 i j ++ row3 i j k) ∧ us.length ≤ 9 * i + 3 * j + k ∧ nw = [(i2, itR (0 + ((j + 1 : Nat) : Int)) ((3 : Nat) - ((j + 1 : Nat) : Int))), (i1, itR (0 + ((i + 1 : Nat) : Int)) ((3 : Int) - ((i + 1 : Nat) : Int))), (q, listOf us.toArray n)]) ⟨vs', n', by ktr_unf, by ktr_unf, by ktr_unf, by simpa [row3] using hv', by omega, rfl⟩ ?turn3 ?fin3
      case turn3 =>
        rintro k tz m3 nw h tk hk ⟨us, nu, e4, e5, e6, hu3, hl3, rfl⟩ F11 N11
        k_steps
        all_goals unfold Stop
        all_goals rename News _ _ _ _ => N8
        · refine UnrEnd.intro3 (by assumption) N8 [(i2, itR (0 + ((j + 1 : Nat) : Int)) ((3 : Nat) - ((j + 1 : Nat) : Int))), (i1, itR (0 + ((i + 1 : Nat) : Int)) ((3 : Int) - ((i + 1 : Nat) : Int))), (q, listOf (us ++ [_]).toArray _)] (by k_mem) (by k_subL) (by k_offL) ⟨_, _, by ktr_unf, by ktr_unf, by ktr_unf, lab_add hi hj hk (ok_1 (by assumption)) hu3, by simp only [List.length_append, List.length_cons, List.length_nil]; omega, rfl⟩
        · refine UnrEnd.intro3 (by assumption) N8 [(i2, itR (0 + ((j + 1 : Nat) : Int)) ((3 : Nat) - ((j + 1 : Nat) : Int))), (i1, itR (0 + ((i + 1 : Nat) : Int)) ((3 : Int) - ((i + 1 : Nat) : Int))), (q, listOf us.toArray nu)] (by k_mem) (by k_subL) (by k_offL) ⟨_, _, by ktr_unf, by ktr_unf, by ktr_unf, lab_no (ok_2 (by assumption) (by assumption)) hu3, by omega, rfl⟩
        · refine UnrEnd.intro3 (by assumption) N8 [(i2, itR (0 + ((j + 1 : Nat) : Int)) ((3 : Nat) - ((j + 1 : Nat) : Int))), (i1, itR (0 + ((i + 1 : Nat) : Int)) ((3 : Int) - ((i + 1 : Nat) : Int))), (q, listOf (us ++ [_]).toArray _)] (by k_mem) (by k_subL) (by k_offL) ⟨_, _, by ktr_unf, by ktr_unf, by ktr_unf, lab_add hi hj hk (ok_3 (by assumption) (by assumption)) hu3, by simp only [List.length_append, List.length_cons, List.length_nil]; omega, rfl⟩
        · refine UnrEnd.intro3 (by assumption) N8 [(i2, itR (0 + ((j + 1 : Nat) : Int)) ((3 : Nat) - ((j + 1 : Nat) : Int))), (i1, itR (0 + ((i + 1 : Nat) : Int)) ((3 : Int) - ((i + 1 : Nat) : Int))), (q, listOf us.toArray nu)] (by k_mem) (by k_subL) (by k_offL) ⟨_, _, by ktr_unf, by ktr_unf, by ktr_unf, lab_no (ok_4 (by assumption) (by assumption)) hu3, by omega, rfl⟩
      case fin3 =>
        rintro m3 nw h tk ⟨us, nu, e4, e5, e6, hu3, hl3, rfl⟩ F11 N11
        k_steps
        unfold Stop
        refine UnrEnd.intro3 F11 N11 [(i1, itR (0 + ((i + 1 : Nat) : Int)) ((3 : Int) - ((i + 1 : Nat) : Int))), (q, listOf us.toArray nu)] (by k_mem) (by k_subL) (by k_offL) ⟨_, _, e4, e5, by rw [row2_step, ← List.append_assoc]; exact hu3, by omega, rfl⟩
    case fin2 =>
      rintro m2 nw h tk ⟨us, nu, e4, e5, hu3, hl3, rfl⟩ F11 N11
      k_steps
      unfold Stop
      refine UnrEnd.intro3 F11 N11 [(q, listOf us.toArray nu)] (by k_mem) (by k_subL) (by k_offL) ⟨_, _, e4, by rw [row1_step]; exact hu3, by omega, rfl⟩
  case fin =>
    rintro m1 nw h tk ⟨vs, n, e1, hv, hl, rfl⟩ F9 N9
    k_steps
    rename Fr g _ _ _ => Fg
    exact hret _ _ _ _ _ (fun b o e => Fg.keep b o (kg b o e List.not_mem_nil)) (fresh_all N9 kg List.not_mem_nil) (by assumption) (by assumption) hv
end
end
theorem cx17 {p : Program} {w : World} {A : Around} {Q : Value → Shared → Prop} {E : Value → Shared → Prop} {s : Shared} (h : wpAny (model p w) A (pyIter Value.none) Q E s) : wpAny (model p w) A (pyIter Value.none) Q E s := by first | (walk1; fail "x") | exact h
section
local macro_rules | `(tactic| k_all) => `(tactic| first | (refine' tl_up (by assumption) (by omega)) | (refine' tl_low (by assumption) (by omega)) | fail "k_all")
local macro_rules | `(tactic| k_mem) => `(tactic| assumption)
local macro_rules | `(tactic| k_upd) => `(tactic| exact Repl.tail (by assumption))
local macro_rules | `(tactic| walk_at "call builtin:str.swapcase") => `(tactic| (k_here; k_dflt (refine' swap_K (by assumption) ?_); intro t' k'))
local macro_rules | `(tactic| k_enter) => `(tactic| ((with_reducible show codeAny _ _ (Code.call (Value.ref 118) _) _ _); refine Stop.out ?_))
theorem panL : Str.ofString "l" = tx [108] := by decide
theorem panR : Str.ofString "r" = tx [114] := by decide
theorem pan_is {l : List Nat} {n k : Nat} {S : Str} (h : (tx [(tx l).cps.toList.getD (n : Int).toNat 0] == S) = true) (e : S = tx [k]) : l.getD n 0 = k := by
  subst e
  have h1 := tx_inj (beq_iff_eq.mp h)
  rw [List.toList_toArray, Int.toNat_natCast] at h1
  exact (List.cons.inj h1).1
theorem pan_no {l : List Nat} {n k : Nat} {S : Str} (h : (tx [(tx l).cps.toList.getD (n : Int).toNat 0] == S) = false) (e : S = tx [k]) : ¬ l.getD n 0 = k := by
  subst e
  intro h1
  refine beq_eq_false_iff_ne.mp h ?_
  rw [List.toList_toArray, Int.toNat_natCast, h1]
theorem wl_step1 {ct : List C3} {x : C3} {i n k : Nat} (hx : ct[i]? = some x) (h : x.l.getD n 0 = k) : List.replicate (wl n k (ct.take i)) 32 ++ List.replicate x.m 32 = List.replicate (wl n k (ct.take (i + 1))) 32 := by
  rw [rep_add, List.take_add_one, hx]
  show _ = List.replicate (wl n k (ct.take i ++ [x])) 32
  rw [wl_snoc, if_pos h]
theorem wl_step0 {ct : List C3} {x : C3} {i n k : Nat} (hx : ct[i]? = some x) (h : ¬ x.l.getD n 0 = k) : wl n k (ct.take (i + 1)) = wl n k (ct.take i) := by
  rw [List.take_add_one, hx]
  show wl n k (ct.take i ++ [x]) = _
  rw [wl_snoc, if_neg h, Nat.add_zero]
section
variable {w : World} {dp un : Nat} {gd : Option (List Code)} {cn : Str} {nm : List (Str × NameKind)} {ig ic : Bool} {mo : List (Str × Const)} {a : Addr} {ccd : Value} {cl : List (Str × Addr)} {outer : List Env} {A₀ : Around} {base h₀ : Heap} {L : Addr} {m : Str → Option Value} {news : List (Addr × Obj)} {s : Shared} {p : Program} {loose : List Str} {mean : ExcName → Option Value} {mg mb : Str → Option Value} {R : Result → Shared → Prop}
set_option maxHeartbeats 0 in
theorem weigh_spec {P : LexP} {H : HdrP} {ln : Int} {tl tn : Tok} {us sg rs : List Value} {pe le nh n : Nat} {ct : List C3} {ps : List (List Nat × List Nat)} {TL : List (Addr × Obj)} (B : Below A₀ base outer h₀) (F : Fr h₀ L s.heap m) (X : (hd2.heap_1 w.params).In h₀) (T : Top p loose mean mg mb h₀) (hd : dp + 20 < recursionLimit) (hu : un + 200 < cLine) (O : P.Ok) (OH : H.Ok2)
    (N : News h₀ L s.heap (lexLed w P ln tl us pe sg le ++ (hdrLed w H rs nh ++ TL))) (ax1 : AllNe H.x P.addrs) (ax2 : AllNe H.d P.addrs) (ax3 : AllNe H.hl P.addrs) (hTp : ∀ p ∈ TL, p.1 ∉ P.addrs)
    (hp : Prs TL rs ps) (hps : ∀ q z z2 t1 t2, (q, pairO z z2 t1 t2) ∈ TL → z.all reOk = true ∧ z.length < 1000) (hr : rs.length < 1000) (h12 : ct.length = 12) (hus : Txs us (ct.map C3.word))
    (hct : ∀ x ∈ ct, Ltr x.c ∧ x.m ≤ 4 ∧ x.l.length = 3 ∧ ∀ d ∈ x.l, d = 108 ∨ d = 109 ∨ d = 114) (hget : ∀ x ∈ ct, ∀ v, GetIs ps [swp x.c] .none v → ∃ t, v = .str (tx x.l) t) (hn : n < 3)
    (hret : ∀ i t pe' h' tk', i = scI (List.replicate (wl n 108 ct) 32) (List.replicate (wl n 114 ct) 32) → (∀ (b : Nat) o, s.heap.get? b = some o → b ∉ P.addrs → h'.get? b = some o) → Fr h₀ L h' m → News h₀ L h' (lexLed w P ln tl us pe' sg le) → R (.ok (.ret (.int i t))) { s with heap := h', toks := tk' }) :
    codeAny (model PP w) (ktrTop dp un gd cn ⟨.function, nm, ig, ic, mo⟩ L a ccd cl outer) (.call (.ref 250) ⟨[.ref P.x2, .ref H.x, .int (n : Int) tn], []⟩) R s := by
  have hul : us.length = 12 := by rw [hus.length, List.length_map, h12]
  have N0 := N
  simp only [lexLed, hdrLed, List.cons_append, List.nil_append] at N
  k_dflt (refine' codeK ?k1 ?k2 ?k3 ?k4 ?k5 ?kA ?kF ?kK ?k6 ?k7 ?k8 ?k9 ?kB ?_ ?c2 ?c3 ?c4 ?c5; (case kA => exact rfl); (case kF => exact rfl); (case kK => exact rfl); (case k1 => exact B); (case k2 => exact F); (case k3 => exact X); (case k4 => exact N); (case k5 => exact T); (case k6 => k_is); (case k7 => k_is); (case k8 => k_room); (case k9 => first | exact BindsTo.of_eq rfl | exact binds_K (by k_in) rfl (by k_is) rfl rfl rfl); (case c5 => decide); (case kB => exact locs rfl); (case c2 => exact rfl); (case c3 => exact rfl); (case c4 => exact rfl); k_whole; intro g L' h' kg kl l1 FG F' N' B' X' T'; (try k_lt l1); (have codeHd := codeHd_of_K (c := 230) (P := 226) X' (by kernel_rfl)); (try dsimp only); (try k_lift B'); (try k_fold))
  have hT := allLt_mem (show AllLt L' TL from by simp only [l1])
  k_steps
  unfold Stop
  rename IsRange _ _ 0 12 1 _ _ _ => r9
  rename Fr g L' _ _ => F1
  rename News _ _ _ _ => N1
  refine iter_rangeUnr (n := 12) rfl r9 (by decide) (by decide) F1 N1 fun i1 l2 => ?_
  have l2' := l2
  k_lt l2
  clear r9
  refine range_inv (fun i m' nw => ∃ (pe' : Nat) (ta tb : Tok), m' (Str.ofString "lexer") = some (.ref P.x2) ∧ m' (Str.ofString "table") = some (.ref H.x) ∧ m' (Str.ofString "n") = some (.int (n : Int) tn) ∧ m' (Str.ofString "left") = some (.str (tx (List.replicate (wl n 108 (ct.take i)) 32)) ta) ∧ m' (Str.ofString "right") = some (.str (tx (List.replicate (wl n 114 (ct.take i)) 32)) tb) ∧ nw = lexLed w P ln tl (us.drop i ++ us.take i) pe' sg le ++ (hdrLed w H rs nh ++ TL)) ?init ?turn ?fin
  case init =>
    exact ⟨pe, _, _, by ktr_unf, by ktr_unf, by ktr_unf, by ktr_unf, by ktr_unf, by simp⟩
  case turn =>
    rintro i t m1 nw h tk hi ⟨pe', ta, tb, e1, e2, e3, e4, e5, rfl⟩ F9 N9
    obtain ⟨x, hx⟩ : ∃ x, ct[i]? = some x := ⟨ct[i], List.getElem?_eq_getElem _⟩
    obtain ⟨hx1, hx2, hx3, hx4⟩ := hct x (List.mem_of_getElem? hx)
    have hui : us[i]? = some us[i] := List.getElem?_eq_getElem (by omega)
    obtain ⟨y, ty, hy1, hy2⟩ := hus.at hui
    rw [List.getElem?_map, hx] at hy1
    obtain rfl := Option.some.inj hy1
    obtain ⟨pv, hpv, hnx, hpl⟩ : ∃ pv, us.drop i ++ us.take i = .str (tx x.word) ty :: pv ∧ pv ++ [.str (tx x.word) ty] = us.drop (i + 1) ++ us.take (i + 1) ∧ pv.length = 11 := ⟨us.drop (i + 1) ++ us.take i, by rw [List.drop_eq_getElem_cons (by omega), hy2]; rfl, by rw [List.take_add_one, hui, hy2, List.append_assoc]; rfl, by simp; omega⟩
    rw [hpv] at N9
    simp only [lexLed, hdrLed, List.cons_append, List.nil_append] at N9
    have gi : AllNe i1 P.addrs := O.hi (by omega)
    unfold C3.word at N9
    have hrl : (List.replicate x.m 32).length ≤ 4 := by simpa using hx2
    have htk : (ct.take i).length ≤ 12 := by rw [List.length_take]; omega
    have hra : (List.replicate (wl n 108 (ct.take i)) 32).length ≤ 48 := by
      have := wl_le n 108 (ct.take i) fun y hy => (hct y (List.mem_of_mem_take hy)).2.1
      rw [List.length_replicate]; omega
    have hrb : (List.replicate (wl n 114 (ct.take i)) 32).length ≤ 48 := by
      have := wl_le n 114 (ct.take i) fun y hy => (hct y (List.mem_of_mem_take hy)).2.1
      rw [List.length_replicate]; omega
    have hsz : (tx x.l).cps.size = 3 := by rw [← hx3]; exact tx_len _
    have hsz' : (tx x.l).cps.size ≤ sizeLine := by rw [hsz, PySem.sizeLine_eq]; decide
    k_steps
    unfold Stop
    rename Fr _ _ _ _ => F8
    rename News _ _ _ _ => N8
    k_dflt (refine' hdr_get ?cB ?cF ?cX ?cT ?cd ?cu OH ?cN hp hps hr (swp_ok hx1) (by show 1 < 1000; decide) ?_; (case cB => k_asm); (case cF => exact F8); (case cX => k_asm); (case cT => k_asm); (case cd => exact room1 (by assumption) rfl); (case cu => exact unit1 3 (by assumption) rfl (by decide)); (case cN => exact news_sub N8 (subs_app (by simp only [hdrLed]; k_upd) (fun p hp => by repeat (first | exact hp | apply List.mem_cons_of_mem)))))
    intro v h' tk' kp F7 hg
    obtain ⟨t2, rfl⟩ := hget x (List.mem_of_getElem? hx) v hg
    k_dflt (refine' repl_go0 kp N8 ?_)
    intro N7
    clear kp hg F8 N8
    dsimp only
    k_steps
    · exact absurd ((beq_iff_eq.mp (by assumption : (tx [_] == Str.ofString "l") = true)).symm.trans (beq_iff_eq.mp (by assumption : (tx [_] == Str.ofString "r") = true))) (by decide)
    all_goals unfold Stop
    all_goals rename News _ _ _ _ => N8
    all_goals have N8' : News g L' _ ((i1, _) :: (lexLed w P ln tl (pv ++ [Value.str (tx x.word) ty]) _ sg le ++ (hdrLed w H rs nh ++ TL))) := N8
    · refine UnrEnd.intro (by assumption) N8' (lexLed w P ln tl (pv ++ [Value.str (tx x.word) ty]) _ sg le ++ (hdrLed w H rs nh ++ TL)) (fun p hp => hp) (off_map l2' rfl) ⟨_, _, _, by ktr_unf, by ktr_unf, by ktr_unf, by rw [← wl_step1 hx (pan_is (by assumption) panL)]; ktr_unf, by rw [wl_step0 hx (k := 114) (by rw [pan_is (by assumption) panL]; decide)]; ktr_unf, by rw [hnx]; rfl⟩
    · refine UnrEnd.intro (by assumption) N8' (lexLed w P ln tl (pv ++ [Value.str (tx x.word) ty]) _ sg le ++ (hdrLed w H rs nh ++ TL)) (fun p hp => hp) (off_map l2' rfl) ⟨_, _, _, by ktr_unf, by ktr_unf, by ktr_unf, by rw [wl_step0 hx (k := 108) (by rw [pan_is (by assumption) panR]; decide)]; ktr_unf, by rw [← wl_step1 hx (pan_is (by assumption) panR)]; ktr_unf, by rw [hnx]; rfl⟩
    · refine UnrEnd.intro (by assumption) N8' (lexLed w P ln tl (pv ++ [Value.str (tx x.word) ty]) _ sg le ++ (hdrLed w H rs nh ++ TL)) (fun p hp => hp) (off_map l2' rfl) ⟨_, _, _, by ktr_unf, by ktr_unf, by ktr_unf, by rw [wl_step0 hx (k := 108) (pan_no (by assumption) panL)]; ktr_unf, by rw [wl_step0 hx (k := 114) (pan_no (by assumption) panR)]; ktr_unf, by rw [hnx]; rfl⟩
  case fin =>
    rintro m1 nw h tk ⟨pe', ta, tb, e1, e2, e3, e4, e5, rfl⟩ F9 N9
    rw [List.take_of_length_le (by omega)] at e4 e5
    rw [List.drop_of_length_le (by omega), List.take_of_length_le (by omega), List.nil_append] at N9
    simp only [lexLed, hdrLed, List.cons_append, List.nil_append] at N9
    k_steps
    rename Fr g _ _ _ => Fg
    rename News h₀ _ _ _ => N8
    refine hret _ _ _ _ _ rfl (kept_tl (X := lexLed w P ln tl us pe sg le) N0 (fun p hp => (N8 p ?_).1) fun b o e hb => Fg.keep b o (kg b o e hb)) (by assumption) (news_sub N8 (by simp only [lexLed]; k_upd))
    exact List.mem_append_right (lexLed w P ln tl us _ sg le) hp
end
end
theorem cx18 {p : Program} {w : World} {A : Around} {Q : Value → Shared → Prop} {E : Value → Shared → Prop} {s : Shared} (h : wpAny (model p w) A (pyIter Value.none) Q E s) : wpAny (model p w) A (pyIter Value.none) Q E s := by first | (walk1; fail "x") | exact h
section
/-! the coins as they stand in the text -/
theorem wh_fact (k : Nat) (h : k < 4) : let g := (Str.ofString "\n\t\r ").cps.toList.getD k 0; g = 10 ∨ g = 9 ∨ g = 13 ∨ g = 32 := by
  have e : ∀ k : Fin 4, let g := (Str.ofString "\n\t\r ").cps.toList.getD k.1 0; g = 10 ∨ g = 9 ∨ g = 13 ∨ g = 32 := by decide
  exact e ⟨k, h⟩
theorem all128 {l : List Nat} (h : l.all reOk = true) : l.all (· < 128) = true := by
  simp only [List.all_eq_true, decide_eq_true_eq] at h ⊢
  intro c hc
  have := h c hc
  unfold reOk at this
  simp only [Bool.and_eq_true, decide_eq_true_eq] at this
  omega
theorem up1_ok {l : List Nat} (h : l.all reOk = true) : (l.map up1).all reOk = true := by
  simp only [List.all_eq_true] at h ⊢
  intro c hc
  obtain ⟨d, hd, rfl⟩ := List.mem_map.mp hc
  have := h d hd
  unfold reOk up1 at *
  simp only [Bool.and_eq_true, decide_eq_true_eq] at this ⊢
  split <;> omega
theorem lawWord_len (b : Int) (x wh : List Nat) : (lawWord b x wh).length ≤ 2 * x.length + 2 + wh.length := by
  unfold lawWord
  have h1 := encB_len x
  have h2 := encQ_len x
  split <;> simp only [List.length_append, List.length_cons] <;> omega
theorem nmT {h₀ h : Heap} {L : Addr} {k : Str} {a x : List Nat} {b : Int} {g : Nat} {t : Tok} {m : Str → Option Value} (_ : Fr h₀ L h (fun y => if y = k then some (.str (tx (a ++ lawWord b x [g])) t) else m y)) : ∃ (b' : Int) (g' : Nat) (t' : Tok), b' = b ∧ g' = g ∧ t' = t := ⟨_, _, _, rfl, rfl, rfl⟩
def Lx : List Nat → List (List Nat) → Prop
  | cs, [] => ∃ r, lexA cs = some ([46], r) ∧ lexA r = some ([], [])
  | cs, y :: ys => ∃ r, lexA cs = some (y, r) ∧ Lx r ys
theorem lexA_skip {c : Nat} {r : List Nat} (h : ws c = true) : lexA (c :: r) = lexA r := by simp [lexA, h]
theorem Lx_ws {c : Nat} {r : List Nat} {ys : List (List Nat)} (h : ws c = true) (k : Lx r ys) : Lx (c :: r) ys := by
  cases ys with
  | nil => obtain ⟨a, h1, h2⟩ := k; exact ⟨a, by rw [lexA_skip h]; exact h1, h2⟩
  | cons y ys => obtain ⟨a, h1, h2⟩ := k; exact ⟨a, by rw [lexA_skip h]; exact h1, h2⟩
theorem lexQ_enc : ∀ (x acc r : List Nat), lexQ (encQ x ++ 34 :: r) acc = some (acc ++ x, r)
  | [], acc, r => by cases r <;> simp [encQ, lexQ]
  | c :: x, acc, r => by
    have ih := lexQ_enc x (acc ++ [c]) r
    have e : encQ (c :: x) = (if c = 34 ∨ c = 92 then [92, c] else [c]) ++ encQ x := rfl
    rw [e]
    have en : ∃ d l, encQ x ++ 34 :: r = d :: l := by
      cases hx : encQ x ++ 34 :: r with
      | nil => simp at hx
      | cons d l => exact ⟨d, l, rfl⟩
    obtain ⟨d, l, hd⟩ := en
    by_cases h : c = 34 ∨ c = 92
    · rw [if_pos h]
      show lexQ (92 :: c :: (encQ x ++ 34 :: r)) acc = _
      have : lexQ (92 :: c :: (encQ x ++ 34 :: r)) acc = lexQ (encQ x ++ 34 :: r) (acc ++ [c]) := by simp [lexQ]
      rw [this, ih]; simp
    · rw [if_neg h]
      show lexQ (c :: (encQ x ++ 34 :: r)) acc = _
      rw [hd]
      have : lexQ (c :: d :: l) acc = lexQ (d :: l) (acc ++ [c]) := by
        have h1 : c ≠ 34 := fun e => h (.inl e)
        have h2 : c ≠ 92 := fun e => h (.inr e)
        simp [lexQ, h1, h2]
      rw [this, ← hd, ih]; simp
theorem lexB_enc : ∀ (x acc r : List Nat) (g : Nat), ws g = true → lexB (encB x ++ g :: r) acc = some (acc ++ x, r)
  | [], acc, r, g, hg => by cases r <;> simp [encB, lexB, hg]
  | c :: x, acc, r, g, hg => by
    have ih := lexB_enc x (acc ++ [c]) r g hg
    show lexB (92 :: c :: (encB x ++ g :: r)) acc = _
    have : lexB (92 :: c :: (encB x ++ g :: r)) acc = lexB (encB x ++ g :: r) (acc ++ [c]) := by simp [lexB, ws]
    rw [this, ih]; simp
theorem Lx_word {b : Int} {c g : Nat} {x r : List Nat} {ys : List (List Nat)} (hg : ws g = true) (k : Lx r ys) : Lx (lawWord b (c :: x) [g] ++ r) ((c :: x) :: ys) := by
  unfold lawWord
  by_cases h : b = 1
  · rw [if_pos h]
    refine ⟨r, ?_, k⟩
    show lexA (92 :: c :: (encB x ++ [g] ++ r)) = _
    have : lexA (92 :: c :: (encB x ++ [g] ++ r)) = lexB (encB x ++ [g] ++ r) [c] := by simp [lexA, ws]
    rw [this, List.append_assoc]
    exact lexB_enc x [c] r g hg
  · rw [if_neg h]
    refine ⟨g :: r, ?_, Lx_ws hg k⟩
    show lexA (34 :: (encQ (c :: x) ++ 34 :: [g] ++ r)) = _
    have : lexA (34 :: (encQ (c :: x) ++ 34 :: [g] ++ r)) = lexQ (encQ (c :: x) ++ 34 :: [g] ++ r) [] := by simp [lexA, ws]
    rw [this, List.append_assoc]
    exact lexQ_enc (c :: x) [] (g :: r)
theorem lexQ_le : ∀ (cs acc t r : List Nat), lexQ cs acc = some (t, r) → r.length ≤ cs.length
  | [], acc, t, r, h => by simp [lexQ] at h
  | [c], acc, t, r, h => by
    simp only [lexQ] at h
    split at h
    · cases h; simp
    · cases h
  | c :: d :: l, acc, t, r, h => by
    simp only [lexQ] at h
    split at h
    · cases h; simp
    · split at h
      · have := lexQ_le l _ t r h; simp only [List.length_cons]; omega
      · have := lexQ_le (d :: l) _ t r h; simp only [List.length_cons] at this ⊢; omega
theorem lexB_le : ∀ (cs acc t r : List Nat), lexB cs acc = some (t, r) → r.length ≤ cs.length
  | [], acc, t, r, h => by simp [lexB] at h; rw [h.2]; simp
  | [c], acc, t, r, h => by
    simp only [lexB] at h
    split at h
    · cases h; simp
    · split at h
      · cases h
      · cases h; simp
  | c :: d :: l, acc, t, r, h => by
    simp only [lexB] at h
    split at h
    · cases h; simp
    · split at h
      · have := lexB_le l _ t r h; simp only [List.length_cons]; omega
      · have := lexB_le (d :: l) _ t r h; simp only [List.length_cons] at this ⊢; omega
theorem lexA_le : ∀ (cs t r : List Nat), lexA cs = some (t, r) → r.length ≤ cs.length
  | [], t, r, h => by simp [lexA] at h; rw [h.2]; simp
  | c :: l, t, r, h => by
    simp only [lexA] at h
    split at h
    · have := lexA_le l t r h; simp only [List.length_cons]; omega
    · split at h
      · have := lexQ_le l _ t r h; simp only [List.length_cons]; omega
      · split at h
        · cases l with
          | nil => cases h
          | cons d l' => have := lexB_le l' _ t r h; simp only [List.length_cons]; omega
        · have := lexB_le l _ t r h; simp only [List.length_cons]; omega
theorem count_single (T : List Nat) (k : Nat) : (T.map fun n => [n]).count [k] = T.count k := by
  induction T with
  | nil => rfl
  | cons a r ih =>
    rw [List.map_cons, List.count_cons, List.count_cons, ih]
    by_cases h : a = k <;> simp [h]
theorem count_nl (T : List Nat) : PySem.Txt.count (tx T) (Str.ofString "\n") = nls T := by
  rw [is_nl, count_is]
  have e : ((tx T).cps.toList.map fun n => PyData.str ⟨#[n]⟩) = ((T.map fun n => [n]).map tx).map PyData.str := by
    rw [List.map_map, List.map_map]
    show T.toArray.toList.map _ = _
    simp
  rw [e]
  have := countIn_tx [10] (T.map fun n => [n])
  rw [count_single] at this
  exact this
theorem nls_dot (T : List Nat) : nls (T ++ [46]) = nls T := by
  unfold nls
  rw [List.count_append]
  rfl
structure R2 where
  (c n : Nat) (ba : Int) (wh : Nat)
noncomputable def R2.word (r : R2) : List Nat := r.c :: List.replicate r.n 32
noncomputable def R2.enc (r : R2) : List Nat := lawWord r.ba r.word [r.wh]
structure R2.Ok (r : R2) : Prop where
  c : Ltr r.c
  n : r.n ≤ 4
  ba : r.ba = 0 ∨ r.ba = 1
  wh : r.wh = 10 ∨ r.wh = 9 ∨ r.wh = 13 ∨ r.wh = 32
/-- the k-th coin of twelve: its letter, and what it weighs -/
structure R2.At (us od wi k : Nat) (r : R2) : Prop where
  ok : r.Ok
  low : lowC r.c = 97 + k
  n : r.n = if k = wi then od else us
theorem enc_snoc (rs : List R2) (r : R2) : ((rs ++ [r]).map R2.enc).flatten = (rs.map R2.enc).flatten ++ r.enc := by simp
theorem Lx_all : ∀ rs : List R2, (∀ r ∈ rs, r.Ok) → Lx ((rs.map R2.enc).flatten ++ [46]) (rs.map R2.word)
  | [], _ => ⟨[], by simp [lexA, lexB, ws], by simp [lexA]⟩
  | r :: rs, h => by
    have hg : ws r.wh = true := by
      rcases (h r List.mem_cons_self).wh with e | e | e | e <;> rw [e] <;> rfl
    have := Lx_word (b := r.ba) (c := r.c) (x := List.replicate r.n 32) hg (Lx_all rs fun q hq => h q (List.mem_cons_of_mem _ hq))
    rw [List.map_cons, List.flatten_cons, List.append_assoc]
    exact this
theorem rep_ok (n : Nat) : (List.replicate n 32).all reOk = true := by
  rw [List.all_eq_true]
  intro d hd
  rw [(List.mem_replicate.mp hd).2]; rfl
theorem reOk_word {r : R2} (h : r.Ok) : r.word.all reOk = true := by
  have h1 := ltr_ok h.c
  rw [List.all_cons, List.all_nil, Bool.and_true] at h1
  unfold R2.word
  rw [List.all_cons, h1, rep_ok]; rfl
theorem len_word {r : R2} (h : r.Ok) : r.word.length ≤ 5 := by
  have := h.n
  unfold R2.word
  rw [List.length_cons, List.length_replicate]
  omega
theorem enc_len {r : R2} (h : r.Ok) : r.enc.length ≤ 16 := by
  have h1 := lawWord_len r.ba r.word [r.wh]
  have h2 := len_word h
  unfold R2.enc
  rw [List.length_cons, List.length_nil] at h1
  omega
theorem fm4_lo (z : Int) : 0 ≤ z.fmod 4 := (fmod_rng z (by decide)).1
theorem fm4_hi (z : Int) : z.fmod 4 < ((Str.ofString "\n\t\r ").cps.size : Nat) := by
  rw [show (Str.ofString "\n\t\r ").cps.size = 4 from by decide]
  exact (fmod_rng z (by decide)).2
theorem wh_any (z : Int) : (Str.ofString "\n\t\r ").cps.toList.getD (z.fmod 4).toNat 0 = 10 ∨ (Str.ofString "\n\t\r ").cps.toList.getD (z.fmod 4).toNat 0 = 9 ∨ (Str.ofString "\n\t\r ").cps.toList.getD (z.fmod 4).toNat 0 = 13 ∨ (Str.ofString "\n\t\r ").cps.toList.getD (z.fmod 4).toNat 0 = 32 := by
  have h := fmod_rng z (k := 4) (by decide)
  exact wh_fact _ (by omega)
theorem abc_fact {i : Nat} (h : i < 12) : (Str.ofString "abcdefghijkl").cps.toList.getD (0 + (i : Int)).toNat 0 = 97 + i := by
  have e : ∀ k : Fin 12, (Str.ofString "abcdefghijkl").cps.toList.getD k.1 0 = 97 + k.1 := by decide
  rw [Int.zero_add, Int.toNat_natCast]
  exact e ⟨i, h⟩
theorem abc_size : (Str.ofString "abcdefghijkl").cps.size = 12 := by decide
theorem blank_is : Str.ofString " " = tx [32] := by decide
theorem mul_blank (n : Nat) (h : n ≤ 4) : Txt.mul (tx [32]) (n : Int) = tx (List.replicate n 32) := by
  have e : ∀ k : Fin 5, Txt.mul (tx [32]) (k.1 : Int) = tx (List.replicate k.1 32) := by decide +kernel
  exact e ⟨n, by omega⟩
theorem blanks_K {prog : Program} {w : World} {A : Around} {E : Value → Shared → Prop} {s : Shared} {n : Nat} {z : Int} {t u : Tok} {Q : Value → Shared → Prop} (hz : z = n) (hn : n ≤ 4) (h : ∀ t' k, Q (.str (tx (List.replicate n 32)) t') { s with toks := k }) :
    wpAny (model prog w) A (binaryOp .Mult (.str (Str.ofString " ") t) (.int z u)) Q E s := by
  subst hz
  rw [blank_is]
  refine SB.mul (mulOk_of 16 1048576 (by decide) (by omega) (by omega) (by decide) (by decide)) fun t' k => ?_
  rw [mul_blank n hn]
  exact h t' k
theorem nmI {h₀ h : Heap} {L : Addr} {k : Str} {z : Int} {t : Tok} {m : Str → Option Value} (_ : Fr h₀ L h (fun y => if y = k then some (.int z t) else m y)) : ∃ (z' : Int) (t' : Tok), z' = z ∧ t' = t := ⟨_, _, rfl, rfl⟩
theorem usual_nat (z : Int) : ∃ u : Nat, 1 + z.fmod 3 = (u : Int) ∧ 1 ≤ u ∧ u ≤ 3 := by
  have h := fmod_rng z (k := 3) (by decide)
  exact ⟨(1 + z.fmod 3).toNat, by omega, by omega, by omega⟩
theorem odd_nat (z : Int) : ∃ u : Nat, (z.fdiv 3).fmod 5 = (u : Int) ∧ u ≤ 4 := by
  have h := fmod_rng (z.fdiv 3) (k := 5) (by decide)
  exact ⟨((z.fdiv 3).fmod 5).toNat, by omega, by omega⟩
theorem which_nat (z : Int) : ∃ u : Nat, (z.fdiv 15).fmod 12 = (u : Int) ∧ u < 12 := by
  have h := fmod_rng (z.fdiv 15) (k := 12) (by decide)
  exact ⟨((z.fdiv 15).fmod 12).toNat, by omega, by omega⟩
end
theorem cx19 {p : Program} {w : World} {A : Around} {Q : Value → Shared → Prop} {E : Value → Shared → Prop} {s : Shared} (h : wpAny (model p w) A (pyIter Value.none) Q E s) : wpAny (model p w) A (pyIter Value.none) Q E s := by first | (walk1; fail "x") | exact h
section
/-! the coins with their labels -/
noncomputable def ctOf (rs : List R2) (labs : List (List Nat)) : List C3 := (rs.zip labs).map fun p : R2 × List Nat => (⟨p.1.c, p.1.n, p.2⟩ : C3)
noncomputable def markOf (ct : List C3) (n : Nat) : Int := scI (List.replicate (wl n 108 ct) 32) (List.replicate (wl n 114 ct) 32)
theorem ct_len {rs : List R2} {labs : List (List Nat)} (h : rs.length = 12) (k : labs.length = 12) : (ctOf rs labs).length = 12 := by
  unfold ctOf
  rw [List.length_map, List.length_zip, h, k]; rfl
theorem ct_word : ∀ {rs : List R2} {labs : List (List Nat)}, rs.length = labs.length → (ctOf rs labs).map C3.word = rs.map R2.word
  | [], [], _ => rfl
  | [], _ :: _, h => by simp at h
  | _ :: _, [], h => by simp at h
  | r :: rs, l :: labs, h => by
    have ih := ct_word (rs := rs) (labs := labs) (by simpa using h)
    unfold ctOf at ih ⊢
    rw [List.zip_cons_cons, List.map_cons, List.map_cons, List.map_cons, ih]
    rfl
theorem ct_mem {rs : List R2} {labs : List (List Nat)} {x : C3} (h : x ∈ ctOf rs labs) : ∃ (i : Nat) (r : R2) (l : List Nat), rs[i]? = some r ∧ labs[i]? = some l ∧ x = ⟨r.c, r.n, l⟩ := by
  obtain ⟨⟨r, l⟩, hp, rfl⟩ := List.mem_map.mp h
  obtain ⟨i, hi⟩ := List.mem_iff_getElem?.mp hp
  obtain ⟨h1, h2⟩ := List.getElem?_zip_eq_some.mp hi
  exact ⟨i, r, l, h1, h2, rfl⟩
theorem row1_lab : ∀ y ∈ row1 3, y.length = 3 ∧ ∀ d ∈ y, d = 108 ∨ d = 109 ∨ d = 114 := by decide
theorem low_swp {c : Nat} (h : Ltr c) : lowC (swp c) = lowC c := by
  unfold Ltr at h
  unfold swp lowC
  split <;> split <;> split <;> omega
/-- what get tells of a letter in the other size: the coin's label -/
theorem get_lab {rs : List R2} {labs : List (List Nat)} {us od wi i : Nat} {r : R2} {lb : List Nat} {v : Value} (hR : ∀ (k : Nat) (r : R2), rs[k]? = some r → r.At us od wi k) (hl : rs.length = labs.length) (hr : rs[i]? = some r) (hlb : labs[i]? = some lb)
    (h : GetIs (((rs.zip labs).map fun p : R2 × List Nat => ([p.1.c], p.2)) ++ (rs.map fun r : R2 => ([swp r.c], [109, 109, 109]))) [swp r.c] .none v) : ∃ t, v = .str (tx lb) t := by
  have hi : i < rs.length := (List.getElem?_eq_some_iff.mp hr).1
  have hz : (rs.zip labs)[i]? = some (r, lb) := List.getElem?_zip_eq_some.mpr ⟨hr, hlb⟩
  have hA := hR i r hr
  have hf : (((rs.zip labs).map fun p : R2 × List Nat => ([p.1.c], p.2)) ++ (rs.map fun r : R2 => ([swp r.c], [109, 109, 109]))).find? (fun p => decide (p.1.map lowC = [swp r.c].map lowC)) = some ([r.c], lb) := by
    rw [List.find?_append]
    have : ((rs.zip labs).map fun p : R2 × List Nat => ([p.1.c], p.2)).find? (fun p => decide (p.1.map lowC = [swp r.c].map lowC)) = some ([r.c], lb) := by
      rw [List.find?_eq_some_iff_getElem]
      refine ⟨by simp [low_swp hA.ok.c], i, by rw [List.length_map, List.length_zip, ← hl, Nat.min_self]; exact hi, ?_, ?_⟩
      · have := List.getElem?_eq_some_iff.mp hz
        obtain ⟨h1, h2⟩ := this
        rw [List.getElem_map, h2]
      · intro j hj
        have hjz : j < (rs.zip labs).length := by rw [List.length_zip, ← hl, Nat.min_self]; omega
        rw [List.getElem_map]
        obtain ⟨h1, h2⟩ := List.getElem?_zip_eq_some.mp (show (rs.zip labs)[j]? = some ((rs.zip labs)[j].1, (rs.zip labs)[j].2) from List.getElem?_eq_getElem hjz)
        have hB := hR j _ h1
        simp only [List.map_cons, List.map_nil, List.cons.injEq, and_true, Bool.not_eq_true', decide_eq_false_iff_not]
        rw [low_swp hA.ok.c, hB.low, hA.low]
        omega
    rw [this]; rfl
  unfold GetIs at h
  rw [hf] at h
  exact h
end
theorem cx20 {p : Program} {w : World} {A : Around} {Q : Value → Shared → Prop} {E : Value → Shared → Prop} {s : Shared} (h : wpAny (model p w) A (pyIter Value.none) Q E s) : wpAny (model p w) A (pyIter Value.none) Q E s := by first | (walk1; fail "x") | exact h
section
/-! Dyson's twelve coins -/
noncomputable def mlr (z : Int) : Nat := if z = 1 then 76 else if z = 0 then 77 else 82
noncomputable def dl (d : Nat) : Int := if d = 108 then 1 else if d = 114 then -1 else 0
theorem dl_val (d : Nat) : dl d = 1 ∨ dl d = -1 ∨ dl d = 0 := by
  unfold dl
  split
  · exact .inl rfl
  · split
    · exact .inr (.inl rfl)
    · exact .inr (.inr rfl)
theorem wl_cons (n k : Nat) (x : C3) (cs : List C3) : wl n k (x :: cs) = (if x.l.getD n 0 = k then x.m else 0) + wl n k cs := by
  unfold wl
  rw [List.map_cons, List.sum_cons]
theorem wl_diff (n : Nat) : ∀ cs : List C3, (wl n 108 cs : Int) - (wl n 114 cs : Int) = (cs.map fun x => dl (x.l.getD n 0) * (x.m : Int)).sum
  | [] => rfl
  | x :: cs => by
    have ih := wl_diff n cs
    rw [wl_cons, wl_cons, List.map_cons, List.sum_cons, ← ih]
    unfold dl
    by_cases h1 : x.l.getD n 0 = 108
    · rw [if_pos h1, if_pos h1, if_neg (by rw [h1]; decide)]; omega
    · by_cases h2 : x.l.getD n 0 = 114
      · rw [if_neg h1, if_pos h2, if_neg h1, if_pos h2]; omega
      · rw [if_neg h1, if_neg h2, if_neg h1, if_neg h2]; omega
theorem sum_w (n us od wi : Nat) : ∀ (rs : List R2) (labs : List (List Nat)) (k0 : Nat), rs.length = labs.length → (∀ (k : Nat) (r : R2), rs[k]? = some r → r.n = if k + k0 = wi then od else us) →
    ((ctOf rs labs).map fun x => dl (x.l.getD n 0) * (x.m : Int)).sum = (us : Int) * (labs.map fun l => dl (l.getD n 0)).sum + (if k0 ≤ wi ∧ wi < k0 + rs.length then ((od : Int) - us) * dl ((labs.getD (wi - k0) []).getD n 0) else 0)
  | [], [], k0, _, _ => by simp [ctOf]; omega
  | [], _ :: _, _, h, _ => by simp at h
  | _ :: _, [], _, h, _ => by simp at h
  | r :: rs, l :: labs, k0, h, hR => by
    have ih := sum_w n us od wi rs labs (k0 + 1) (by simpa using h) (fun k r' hk => by
      have := hR (k + 1) r' (by simpa using hk)
      rw [this]
      congr 1
      exact propext ⟨fun e => by omega, fun e => by omega⟩)
    have hr := hR 0 r rfl
    have e1 : ctOf (r :: rs) (l :: labs) = ⟨r.c, r.n, l⟩ :: ctOf rs labs := rfl
    rw [e1, List.map_cons, List.sum_cons, ih, List.map_cons, List.sum_cons, List.length_cons]
    dsimp only
    rw [Nat.zero_add] at hr
    rw [Int.mul_add]
    generalize (us : Int) * (labs.map fun l => dl (l.getD n 0)).sum = X
    by_cases hk : k0 = wi
    · subst hk
      rw [if_pos rfl] at hr
      rw [if_neg (by omega), if_pos (by omega), Nat.sub_self, hr]
      show dl (l.getD n 0) * (od : Int) + (X + 0) = (us : Int) * dl (l.getD n 0) + X + ((od : Int) - us) * dl (l.getD n 0)
      rcases dl_val (l.getD n 0) with e | e | e <;> rw [e] <;> omega
    · rw [if_neg hk] at hr
      rw [hr]
      by_cases hc : k0 + 1 ≤ wi ∧ wi < k0 + 1 + rs.length
      · rw [if_pos hc, if_pos (by omega)]
        have e2 : wi - k0 = (wi - (k0 + 1)) + 1 := by omega
        rw [e2, List.getD_cons_succ]
        generalize ((od : Int) - us) * dl ((labs.getD (wi - (k0 + 1)) []).getD n 0) = Y
        rcases dl_val (l.getD n 0) with e | e | e <;> rw [e] <;> omega
      · rw [if_neg hc, if_neg (by omega)]
        rcases dl_val (l.getD n 0) with e | e | e <;> rw [e] <;> omega
theorem perm_sum {f : List Nat → Int} {a b : List (List Nat)} (h : a.Perm b) : (a.map f).sum = (b.map f).sum := by
  induction h with
  | nil => rfl
  | cons x _ ih => rw [List.map_cons, List.map_cons, List.sum_cons, List.sum_cons, ih]
  | swap x y l => simp only [List.map_cons, List.sum_cons]; omega
  | trans _ _ h1 h2 => exact h1.trans h2
theorem row1_sum : ∀ n : Fin 3, ((row1 3).map fun l => dl (l.getD n.1 0)).sum = 0 := by decide
theorem mark_sgn (ct : List C3) (n : Nat) : markOf ct n = if wl n 114 ct < wl n 108 ct then 1 else if wl n 108 ct < wl n 114 ct then -1 else 0 := by
  unfold markOf scI
  have h1 := lt_rep (wl n 114 ct) (wl n 108 ct)
  have h2 := lt_rep (wl n 108 ct) (wl n 114 ct)
  simp only [h1, h2]
  by_cases a : wl n 114 ct < wl n 108 ct
  · rw [if_pos a, decide_eq_true a, decide_eq_false (by omega : ¬ wl n 108 ct < wl n 114 ct)]; rfl
  · rw [if_neg a, decide_eq_false a]
    by_cases b : wl n 108 ct < wl n 114 ct
    · rw [if_pos b, decide_eq_true b]; rfl
    · rw [if_neg b, decide_eq_false b]; rfl
section
variable {rs : List R2} {labs : List (List Nat)} {us od wi : Nat} (h12 : rs.length = 12) (hlab : labs.Perm (row1 3)) (hR : ∀ (k : Nat) (r : R2), rs[k]? = some r → r.At us od wi k) (hwi : wi < 12)
include h12 hlab hR hwi
theorem mark_diff (n : Nat) (hn : n < 3) : (wl n 108 (ctOf rs labs) : Int) - (wl n 114 (ctOf rs labs) : Int) = ((od : Int) - us) * dl ((labs.getD wi []).getD n 0) := by
  have hl : labs.length = 12 := by rw [hlab.length_eq]; decide
  rw [wl_diff, sum_w n us od wi rs labs 0 (by rw [h12, hl]) (fun k r hk => (hR k r hk).n), perm_sum hlab, row1_sum ⟨n, hn⟩, if_pos ⟨Nat.zero_le _, by omega⟩, Int.mul_zero, Int.zero_add, Nat.sub_zero]
theorem mark_hi (h : us < od) (n : Nat) (hn : n < 3) : markOf (ctOf rs labs) n = dl ((labs.getD wi []).getD n 0) := by
  have hd := mark_diff h12 hlab hR hwi n hn
  rw [mark_sgn]
  rcases dl_val ((labs.getD wi []).getD n 0) with e | e | e <;> rw [e] at hd ⊢
  · rw [if_pos (by omega)]
  · rw [if_neg (by omega), if_pos (by omega)]
  · rw [if_neg (by omega), if_neg (by omega)]
theorem mark_lo (h : od < us) (n : Nat) (hn : n < 3) : markOf (ctOf rs labs) n = - dl ((labs.getD wi []).getD n 0) := by
  have hd := mark_diff h12 hlab hR hwi n hn
  rw [mark_sgn]
  rcases dl_val ((labs.getD wi []).getD n 0) with e | e | e <;> rw [e] at hd ⊢
  · rw [if_neg (by omega), if_pos (by omega)]
  · rw [if_pos (by omega)]; rfl
  · rw [if_neg (by omega), if_neg (by omega)]; rfl
theorem mark_eq (h : us = od) (n : Nat) (hn : n < 3) : markOf (ctOf rs labs) n = 0 := by
  have hd := mark_diff h12 hlab hR hwi n hn
  rw [h, Int.sub_self, Int.zero_mul] at hd
  rw [mark_sgn, if_neg (by omega), if_neg (by omega)]
end
theorem mark_val (ct : List C3) (n : Nat) : markOf ct n = -1 ∨ markOf ct n = 0 ∨ markOf ct n = 1 := by
  rw [mark_sgn]
  split
  · exact .inr (.inr rfl)
  · split
    · exact .inl rfl
    · exact .inr (.inl rfl)
noncomputable def hwW (ct : List C3) : List Nat := [mlr (markOf ct 0), mlr (markOf ct 1), mlr (markOf ct 2)]
noncomputable def lwW (ct : List C3) : List Nat := [mlr (-markOf ct 0), mlr (-markOf ct 1), mlr (-markOf ct 2)]
theorem dy1 : ∀ l ∈ row1 3, [mlr (dl (l.getD 0 0)), mlr (dl (l.getD 1 0)), mlr (dl (l.getD 2 0))].map lowC = l := by decide
theorem dy2 : ∀ l ∈ row1 3, [mlr (-dl (l.getD 0 0)), mlr (-dl (l.getD 1 0)), mlr (-dl (l.getD 2 0))].map lowC ∉ row1 3 := by decide
theorem dy3 : [mlr 0, mlr 0, mlr 0].map lowC ∉ row1 3 := by decide
theorem row1_low : ∀ y ∈ row1 3, y.map lowC = y := by decide
theorem none_is : Str.ofString "none" = tx [110, 111, 110, 101] := by decide
theorem book_hit {rs : List R2} {labs : List (List Nat)} {wi : Nat} {r : R2} {y : List Nat} {d v : Value} (h12 : rs.length = 12) (hlab : labs.Perm (row1 3)) (hr : rs[wi]? = some r) (hwi : wi < 12) (hy : y.map lowC = labs.getD wi []) (h : GetIs ((rs.zip labs).map fun p : R2 × List Nat => (p.2, [p.1.c])) y d v) : ∃ t, v = .str (tx [r.c]) t := by
  have hl : labs.length = 12 := by rw [hlab.length_eq]; decide
  have hnd : labs.Nodup := hlab.nodup_iff.mpr (by decide)
  have hlb : labs[wi]? = some (labs.getD wi []) := by
    rw [List.getD_eq_getElem?_getD, List.getElem?_eq_getElem (by omega)]; rfl
  have hmem := hlab.mem_iff.mp (List.mem_of_getElem? hlb)
  have hz : (rs.zip labs)[wi]? = some (r, labs.getD wi []) := List.getElem?_zip_eq_some.mpr ⟨hr, hlb⟩
  have hf : ((rs.zip labs).map fun p : R2 × List Nat => (p.2, [p.1.c])).find? (fun p => decide (p.1.map lowC = y.map lowC)) = some (labs.getD wi [], [r.c]) := by
    rw [List.find?_eq_some_iff_getElem]
    have hi : wi < (rs.zip labs).length := by rw [List.length_zip, h12, hl]; exact hwi
    refine ⟨by rw [hy, decide_eq_true_eq]; exact row1_low _ hmem, wi, by rw [List.length_map]; exact hi, ?_, ?_⟩
    · obtain ⟨_, h2⟩ := List.getElem?_eq_some_iff.mp hz
      rw [List.getElem_map, h2]
    · intro j hj
      have hjz : j < (rs.zip labs).length := by omega
      rw [List.getElem_map]
      obtain ⟨_, h2⟩ := List.getElem?_zip_eq_some.mp (show (rs.zip labs)[j]? = some ((rs.zip labs)[j].1, (rs.zip labs)[j].2) from List.getElem?_eq_getElem hjz)
      simp only [Bool.not_eq_true', decide_eq_false_iff_not]
      rw [hy, row1_low _ (hlab.mem_iff.mp (List.mem_of_getElem? h2))]
      intro e
      rw [e] at h2
      obtain ⟨h3, _⟩ := List.getElem?_eq_some_iff.mp h2
      have := (List.getElem?_inj h3 hnd).mp (h2.trans hlb.symm)
      omega
  unfold GetIs at h
  rw [hf] at h
  exact h
theorem book_miss {rs : List R2} {labs : List (List Nat)} {y : List Nat} {d v : Value} (hlab : labs.Perm (row1 3)) (hy : y.map lowC ∉ row1 3) (h : GetIs ((rs.zip labs).map fun p : R2 × List Nat => (p.2, [p.1.c])) y d v) : v = d := by
  have hf : ((rs.zip labs).map fun p : R2 × List Nat => (p.2, [p.1.c])).find? (fun p => decide (p.1.map lowC = y.map lowC)) = none := by
    rw [List.find?_eq_none]
    intro p hp
    obtain ⟨⟨a, b⟩, hab, rfl⟩ := List.mem_map.mp hp
    have hb := hlab.mem_iff.mp (List.of_mem_zip hab).2
    rw [decide_eq_true_eq]
    intro e
    rw [row1_low b hb] at e
    exact hy (e ▸ hb)
  unfold GetIs at h
  rw [hf] at h
  exact h
section
variable {rs : List R2} {labs : List (List Nat)} {us od wi : Nat} {r : R2} {v : Value} {td : Tok} (h12 : rs.length = 12) (hlab : labs.Perm (row1 3)) (hR : ∀ (k : Nat) (r : R2), rs[k]? = some r → r.At us od wi k) (hwi : wi < 12) (hr : rs[wi]? = some r)
include h12 hlab hR hwi hr
theorem heavy_is (h : GetIs ((rs.zip labs).map fun p : R2 × List Nat => (p.2, [p.1.c])) (hwW (ctOf rs labs)) (.str (Str.ofString "none") td) v) : ∃ t, v = .str (tx (if us < od then [r.c] else [110, 111, 110, 101])) t := by
  have hl : labs.length = 12 := by rw [hlab.length_eq]; decide
  have hmem : labs.getD wi [] ∈ row1 3 := hlab.mem_iff.mp (by rw [List.getD_eq_getElem?_getD, List.getElem?_eq_getElem (by omega)]; exact List.getElem_mem _)
  rcases Nat.lt_trichotomy us od with e | e | e
  · rw [if_pos e]
    refine book_hit h12 hlab hr hwi ?_ h
    unfold hwW
    rw [mark_hi h12 hlab hR hwi e 0 (by decide), mark_hi h12 hlab hR hwi e 1 (by decide), mark_hi h12 hlab hR hwi e 2 (by decide)]
    exact dy1 _ hmem
  · rw [if_neg (by omega)]
    refine ⟨td, (book_miss hlab ?_ h).trans (by rw [none_is])⟩
    unfold hwW
    rw [mark_eq h12 hlab hR hwi e 0 (by decide), mark_eq h12 hlab hR hwi e 1 (by decide), mark_eq h12 hlab hR hwi e 2 (by decide)]
    exact dy3
  · rw [if_neg (by omega)]
    refine ⟨td, (book_miss hlab ?_ h).trans (by rw [none_is])⟩
    unfold hwW
    rw [mark_lo h12 hlab hR hwi e 0 (by decide), mark_lo h12 hlab hR hwi e 1 (by decide), mark_lo h12 hlab hR hwi e 2 (by decide)]
    exact dy2 _ hmem
theorem light_is (h : GetIs ((rs.zip labs).map fun p : R2 × List Nat => (p.2, [p.1.c])) (lwW (ctOf rs labs)) (.str (Str.ofString "none") td) v) : ∃ t, v = .str (tx (if od < us then [r.c] else [110, 111, 110, 101])) t := by
  have hl : labs.length = 12 := by rw [hlab.length_eq]; decide
  have hmem : labs.getD wi [] ∈ row1 3 := hlab.mem_iff.mp (by rw [List.getD_eq_getElem?_getD, List.getElem?_eq_getElem (by omega)]; exact List.getElem_mem _)
  rcases Nat.lt_trichotomy us od with e | e | e
  · rw [if_neg (by omega)]
    refine ⟨td, (book_miss hlab ?_ h).trans (by rw [none_is])⟩
    unfold lwW
    rw [mark_hi h12 hlab hR hwi e 0 (by decide), mark_hi h12 hlab hR hwi e 1 (by decide), mark_hi h12 hlab hR hwi e 2 (by decide)]
    exact dy2 _ hmem
  · rw [if_neg (by omega)]
    refine ⟨td, (book_miss hlab ?_ h).trans (by rw [none_is])⟩
    unfold lwW
    rw [mark_eq h12 hlab hR hwi e 0 (by decide), mark_eq h12 hlab hR hwi e 1 (by decide), mark_eq h12 hlab hR hwi e 2 (by decide)]
    exact dy3
  · rw [if_pos e]
    refine book_hit h12 hlab hr hwi ?_ h
    unfold lwW
    rw [mark_lo h12 hlab hR hwi e 0 (by decide), mark_lo h12 hlab hR hwi e 1 (by decide), mark_lo h12 hlab hR hwi e 2 (by decide)]
    simp only [Int.neg_neg]
    exact dy1 _ hmem
end
theorem mlr_ok (z : Int) : [mlr z].all reOk = true := by
  unfold mlr
  split
  · decide
  · split <;> decide
theorem hw_ok (ct : List C3) : (hwW ct).all reOk = true ∧ (lwW ct).all reOk = true := by
  have h := fun z => mlr_ok z
  simp only [List.all_cons, List.all_nil, Bool.and_true] at h
  simp [hwW, lwW, h]
theorem itemMLR_K {prog : Program} {w : World} {A : Around} {E : Value → Shared → Prop} {s : Shared} {Q : Value → Shared → Prop} {value slice : Expr} {z : Int} {t u : Tok} (hz : z = -1 ∨ z = 0 ∨ z = 1) (h : ∀ t' tk, Q (.str (tx [mlr z]) t') { s with toks := tk })
    (hs : subscripted slice false (.str (Str.ofString "MLR") t) (.int z u) = operate [.str (Str.ofString "MLR") t, .int z u] (getItem (.str (Str.ofString "MLR") t) (.int z u)))
    (ht : ∀ r, letTemporaryGo value (.str (Str.ofString "MLR") t) r = pure ()) :
    wpAny (model prog w) A (subscriptTail value slice (.str (Str.ofString "MLR") t) (.int z u)) Q E s := by
  refine KXi.item (n := 3) (by decide) (by omega) (by omega) (by decide) (fun _ => ?_) hs ht
  have e : Txt.item (Str.ofString "MLR") z = tx [mlr z] := by
    rcases hz with rfl | rfl | rfl <;> decide
  rw [e]
  exact h _ _
end
section
local macro_rules | `(tactic| k_ne) => `(tactic| (refine neN ?_; (try dsimp only); first | exact neW_of (by with_reducible assumption) (by k_mem) | exact Ne.symm (neW_of (by with_reducible assumption) (by k_mem)) | fail "k_ne"))
local macro_rules | `(tactic| k_all) => `(tactic| first | (refine' tl_up (by assumption) (by omega)) | (refine' tl_low (by assumption) (by omega)) | fail "k_all")
local macro_rules | `(tactic| k_mem) => `(tactic| assumption)
local macro_rules | `(tactic| k_upd) => `(tactic| first | exact Repl.tail (by assumption) | (refine' Repl.hit ?ca; (case ca => k_upd)) | (refine' Repl.miss ?ca ?cb; (case ca => exact AllNe.notin (by assumption)); (case cb => k_upd)) | fail "k_upd")
local macro_rules | `(tactic| walk_at "compareOp NotEq ref ref") => `(tactic| (k_here; k_dflt (refine' neSame_K (by kmk_list) (by kmk_list) (by assumption) (by assumption) (by assumption) (by ke_room) ?_)))
local macro_rules | `(tactic| k_enter) => `(tactic| ((first
  | (with_reducible show codeAny _ _ (Code.call (Value.ref 231) _) _ _)
  | (with_reducible show codeAny _ _ (Code.call (Value.ref 243) _) _ _)
  | (with_reducible show codeAny _ _ (Code.call (Value.ref 118) _) _ _)
  | (with_reducible show codeAny _ _ (Code.call (Value.ref 135) _) _ _)
  | (with_reducible show codeAny _ _ (Code.call (Value.ref 161) _) _ _)
  | (with_reducible show codeAny _ _ (Code.call (Value.ref 250) _) _ _)); refine Stop.out ?_))
local macro_rules | `(tactic| omega) => `(tactic| omega +splitDisjunctions)
theorem cx21 {p : Program} {w : World} {A : Around} {Q : Value → Shared → Prop} {E : Value → Shared → Prop} {s : Shared} (h : wpAny (model p w) A (pyIter Value.none) Q E s) : wpAny (model p w) A (pyIter Value.none) Q E s := by first | (walk1; fail "x") | exact h
section
local macro_rules | `(tactic| k_enter) => `(tactic| ((with_reducible show codeAny _ _ (Code.call (Value.ref 210) _) _ _); refine Stop.out ?_))
local macro_rules | `(tactic| walk_at "CompSrc") => `(tactic| (k_here; refine Stop.out ?_))
theorem off3_eq_qg {I C D : Addr} : ∀ {A B : List (Addr × Obj)}, LCg.Off3 I C D A → B.map (·.1) = A.map (·.1) → LCg.Off3 I C D B
  | [], [], _, _ => trivial
  | [], _ :: _, _, e => (nomatch e)
  | _ :: _, [], _, e => (nomatch e)
  | a :: A, b :: B, h, e => by
    rw [List.map_cons, List.map_cons] at e
    obtain ⟨e1, e2⟩ := List.cons.inj e
    have e1 : b.1 = a.1 := e1
    exact ⟨by rw [e1]; exact h.1, off3_eq_qg h.2 e2⟩
theorem off1_addrs_qg {D : Addr} {P : LexP} {l : List (Addr × Obj)} (h : LCg.Off1 D l) (k : ∀ a ∈ P.addrs, ∃ o, (a, o) ∈ l) : AllNe D P.addrs := by
  have f : ∀ a ∈ P.addrs, a ≠ D := fun a ha => by
    obtain ⟨o, ho⟩ := k a ha
    exact off_new h (a, o) ho
  exact ⟨f _ (by simp), f _ (by simp), f _ (by simp), f _ (by simp), f _ (by simp), f _ (by simp), f _ (by simp), f _ (by simp), f _ (by simp), trivial⟩
section
variable {w : World} {L : Addr} {base : Heap} {m : Str → Option Value} {s : Shared} {p : Program} {loose : List Str} {mean : ExcName → Option Value} {mg mb : Str → Option Value} {fa : Addr} {cd : Value} {Q : Flow → Shared → Prop} {scv : List Value} {scn : List Int} {sc : Addr}
set_option maxHeartbeats 0 in
theorem stG {rs : List R2} {wv rv : List Value} {tt : Tok} {n1 le pe : Nat} {wl : Nat} {p4 : Obj} {P : LexP} {ln : Int} {tl : Tok} {vs : List Value} {cs : List Nat} {tps : Array Value} (B : Below callerA base [] base) (F : Fr base L s.heap m) (X : (hd2.heap_1 w.params).In base) (T : Top p loose mean mg mb base) (h237 : @LT.lt Nat _ 226 L) (hsl : base.IsList sc scv.toArray) (hIs : IntsAre scv scn) (hc63 : scv.length ≤ 63)
    (N : News base L s.heap (lexLed w P ln tl rv pe vs.reverse le ++ [(wl, listOf wv.toArray n1), (L + 1 + 1 + 1 + 1, p4), (226, tabObj tps)]))
    (O : P.Ok) (lo : @LT.lt Nat _ (L + 1 + 1 + 1 + 1) wl ∧ @LT.lt Nat _ wl P.cs) (d4 : p4.data = .cell (some (.ref P.x2)))
    (h12 : rs.length = 12) (hok : ∀ r ∈ rs, r.Ok) (hwv : Txs wv (rs.map R2.word)) (hrv : Txs rv (rs.map R2.word)) (hT : (rs.map R2.enc).flatten.length ≤ 192)
    (a1 : Lx cs []) (a2 : Chs vs cs) (a3 : ln + nls cs = 1 + nls ((rs.map R2.enc).flatten ++ [46])) (a4 : vs.length ≤ 200)
    (mt : m (Str.ofString "text") = some (.str (tx (rs.map R2.enc).flatten) tt)) (mwl : m (Str.ofString "words") = some (.ref wl))
    (hQ : ∀ (h' : Heap) (tk : Nat) (ps : Array Value) m', Fr base L h' m' → News base L h' [(226, tabObj ps)] → Q (.ret (.bool true)) { s with heap := h', toks := tk }) : RestW w fa L cd 24 Q s := by
  refine ⟨_, _, _, _, _, _, _, _, _, _, _, _, _, _, _, by k_is, ?_⟩
  dsimp only [List.drop]
  have hrl : rv.length = 12 := by rw [hrv.length, List.length_map, h12]
  have gw : AllNe wl P.addrs := O.lo lo.2
  have g4 : AllNe (L + 1 + 1 + 1 + 1) P.addrs := O.lo (Nat.lt_trans lo.1 lo.2)
  have gt : AllNe 226 P.addrs := O.lo (by omega)
  have hokw : ∀ y ∈ rs.map R2.word, y.all reOk = true := fun y hy => by
    obtain ⟨r, hr, rfl⟩ := List.mem_map.mp hy
    exact reOk_word (hok r hr)
  simp only [lexLed, List.cons_append, List.nil_append] at N
  k_steps
  unfold Stop
  have F1 := F
  k_dflt (refine' LCg.ListComp_U ?c0 ?c1 ?c2 ?c3 ?c4 ?c5 ?c8 ?c7; (case c0 => exact F1); (case c1 => rfl); (case c2 => decide); (case c3 => rfl); (case c4 => decide); (case c5 => rfl); (case c7 => intro _; rfl))
  k_steps
  unfold Stop
  rename Fr _ _ _ _ => F2
  rename News _ _ _ _ => N2
  rename IsRange _ _ 0 12 1 _ _ _ => r9
  refine LCg.CompSrc.range (n := 12) rfl F2 N2 r9 (by decide) (by decide) (by decide) fun g2 => ?_
  refine rest_inv (fun i ys nw => ∃ pe : Nat, ys = rv.take i ∧ nw = lexLed w P ln tl (rv.drop i) pe vs.reverse le ++ [(wl, listOf wv.toArray n1), (L + 1 + 1 + 1 + 1, p4), (226, tabObj tps)]) ⟨pe, rfl, rfl⟩ ?turn ?fin
  case turn =>
    rintro i ys nw v I oI C oC D2 m₂ h tk E' hi ⟨pe, rfl, rfl⟩ ⟨t, rfl⟩ hns hm F9 N9 off hne
    obtain ⟨nI, nC, nD2⟩ := off_addrs off lex_has
    obtain ⟨v0, pv, hv0, hpv⟩ : ∃ v0 pv, rv[i]? = some v0 ∧ rv.drop i = v0 :: pv := ⟨rv[i], rv.drop (i + 1), List.getElem?_eq_getElem _, List.drop_eq_getElem_cons _⟩
    have hpn : rv.drop (i + 1) = pv := by rw [← List.drop_drop, hpv]; rfl
    have hpl : pv.length ≤ 12 := by rw [← hpn, List.length_drop]; omega
    have off' := off
    rw [hpv] at N9
    simp only [lexLed, List.cons_append, List.nil_append] at N9 off
    k_steps
    unfold Stop
    rename Fr _ _ _ _ => F8
    rename News _ _ _ _ => N8
    k_dflt (refine' tok_pop ?wB ?wF ?wX ?wT ?wd ?wu O ?wN ?wz ?_; (case wB => k_asm); (case wF => exact F8); (case wX => k_asm); (case wT => k_asm); (case wd => decide); (case wu => decide); (case wN => exact news_sub N8 (by k_upd)); (case wz => ktr_rel))
    intro pe' h' tk' kp F7 N7
    k_dflt (refine' repl_go kp N7 N8 ?wq ?_; (case wq => k_upd))
    clear kp N7
    intro N7
    clear F8 N8
    dsimp only
    k_steps
    rename Fr _ _ _ _ => F8
    rw [← hpn] at N7
    exact ⟨_, _, _, rfl, F8, N7, off3_eq_qg off' rfl, trivial, pe', by rw [List.take_add_one, hv0]; rfl, rfl⟩
  case fin =>
    rintro ys nw ⟨pe, rfl, rfl⟩
    rw [List.take_of_length_le (by omega), List.drop_of_length_le (by omega)]
    intro D2 h tk F9 N9 off9
    have nD := off_new off9
    have nm1 := off1_addrs_qg off9 lex_has
    clear off9
    (try clear r9)
    (try clear F2 N2)
    obtain ⟨cs1, hx1, hx2⟩ := a1
    have hcl : cs.length ≤ 200 := by rw [← a2.length]; exact a4
    have hcl1 : cs1.length ≤ 200 := Nat.le_trans (lexA_le _ _ _ hx1) hcl
    have N9 : News base L h ((D2, listOf rv.toArray rv.length) :: _) := N9
    simp only [lexLed, List.cons_append, List.nil_append] at N9
    k_steps
    unfold Stop
    rename Fr _ _ _ _ => F8
    rename News _ _ _ _ => N8
    k_dflt (refine' tok_lex ?uB ?uF ?uX ?uT ?ud ?uu O ?uN a2 ?uz hx1 ?_; (case uB => k_asm); (case uF => exact F8); (case uX => k_asm); (case uT => k_asm); (case ud => decide); (case uu => decide); (case uN => exact news_sub N8 (by k_upd)); (case uz => (rw [(a2).length]; ktr_rel)))
    intro lnu tlu vsu leu ttu hu tku a3u a2u kp F7 N7
    k_dflt (refine' repl_go kp N7 N8 ?ur ?_; (case ur => k_upd))
    clear kp N7
    intro N7
    (try simp only [List.cons_append, List.nil_append] at N7)
    clear F8 N8
    dsimp only
    k_steps
    unfold Stop
    rename Fr _ _ _ _ => F8
    rename News _ _ _ _ => N8
    k_dflt (refine' tok_lex ?vB ?vF ?vX ?vT ?vd ?vu O ?vN a2u ?vz hx2 ?_; (case vB => k_asm); (case vF => exact F8); (case vX => k_asm); (case vT => k_asm); (case vd => decide); (case vu => decide); (case vN => exact news_sub N8 (by k_upd)); (case vz => (rw [(a2u).length]; ktr_rel)))
    intro lnv tlv vsv lev ttv hv tkv a3v a2v kp F7 N7
    k_dflt (refine' repl_go kp N7 N8 ?vr ?_; (case vr => k_upd))
    clear kp N7
    intro N7
    (try simp only [List.cons_append, List.nil_append] at N7)
    clear F8 N8
    dsimp only
    k_steps
    rename Fr _ _ _ _ => F8
    rename News _ _ _ _ => N8
    have hln : lnv = 1 + nls (rs.map R2.enc).flatten := by
      rw [nls_nil] at a3v
      rw [nls_dot] at a3
      omega
    rw [count_nl, hln, beq_self_eq_true]
    exact hQ _ _ tps _ F8 (news_sub N8 (by k_upd))
end
end
theorem cx22 {p : Program} {w : World} {A : Around} {Q : Value → Shared → Prop} {E : Value → Shared → Prop} {s : Shared} (h : wpAny (model p w) A (pyIter Value.none) Q E s) : wpAny (model p w) A (pyIter Value.none) Q E s := by first | (walk1; fail "x") | exact h
section
local macro_rules | `(tactic| walk_at "CompSrc") => `(tactic| (k_here; refine Stop.out ?_))
local macro_rules | `(tactic| walk_at "subscriptTail") => `(tactic| (k_here; k_dflt (refine' itemMLR_K (by assumption) ?_ (by with_unfolding_all rfl) (by intro _; with_unfolding_all rfl)); intro t' k'))
local macro_rules | `(tactic| walk_at "execs cons") => `(tactic| ((with_reducible show wpAny _ _ (execs (Stmt.If (Expr.Compare (Expr.ListComp _ _ _ _) _ _ _) _ _ _ :: _) _) _ _ _); refine Stop.out ?_))
theorem ints_at {ms : List Value} {f : Nat → Int} {i : Nat} {v : Value} (h : IntsAre ms ((List.range 3).map f)) (hv : ms[i]? = some v) (hi : i < 3) : ∃ t, v = .int (f i) t := by
  have e : (List.range 3).map f = [f 0, f 1, f 2] := rfl
  rw [e] at h
  cases h with
  | cons _ t0 h => cases h with
    | cons _ t1 h => cases h with
      | cons _ t2 h =>
        match i, hi with
        | 0, _ => exact ⟨_, (Option.some.inj hv).symm⟩
        | 1, _ => exact ⟨_, (Option.some.inj hv).symm⟩
        | 2, _ => exact ⟨_, (Option.some.inj hv).symm⟩
section
variable {w : World} {L : Addr} {base : Heap} {m : Str → Option Value} {s : Shared} {p : Program} {loose : List Str} {mean : ExcName → Option Value} {mg mb : Str → Option Value} {fa : Addr} {cd : Value} {Q : Flow → Shared → Prop} {scv : List Value} {scn : List Int} {sc : Addr}
set_option maxHeartbeats 0 in
theorem stF {rs : List R2} {sv wv rv prs brs : List Value} {us od wi : Nat} {tt tu to tw : Tok} {n1 n2 n4 le nh nb : Nat} {wl sl rd : Nat} {p7 p5 p4 : Obj} {P : LexP} {H B2 : HdrP} {ln : Int} {tl : Tok} {vs : List Value} {cs : List Nat} {tps : Array Value} {labs : List (List Nat)} {ms : List Value} {mkl n5 pe : Nat} {TL TB : List (Addr × Obj)} (B : Below callerA base [] base) (F : Fr base L s.heap m) (X : (hd2.heap_1 w.params).In base) (T : Top p loose mean mg mb base) (h237 : @LT.lt Nat _ 226 L) (hsl : base.IsList sc scv.toArray) (hIs : IntsAre scv scn) (hc63 : scv.length ≤ 63)
    (N : News base L s.heap ((mkl, listOf ms.toArray n5) :: ((lexLed w P ln tl rv pe vs.reverse le ++ (hdrLed w H prs nh ++ [(rd, listOf rv.toArray n4), (wl, listOf wv.toArray n1), (sl, listOf sv.toArray n2), (L + 1 + 1 + 1 + 1 + 1 + 1 + 1, p7), (L + 1 + 1 + 1 + 1 + 1, p5), (L + 1 + 1 + 1 + 1, p4), (226, tabObj tps)])) ++ hdrLed w B2 brs nb) ++ (TL ++ TB)))
    (O : P.Ok) (lo : @LT.lt Nat _ (L + 1 + 1 + 1 + 1 + 1 + 1 + 1) sl ∧ @LT.lt Nat _ sl wl ∧ @LT.lt Nat _ wl P.cs) (lh : P.pb2 < H.hl ∧ @LT.lt Nat _ rd H.hl ∧ H.hl < H.d ∧ H.d < H.x) (OB : B2.Ok2) (gb : AllNe B2.x P.addrs ∧ AllNe B2.d P.addrs ∧ AllNe B2.hl P.addrs)
    (nm1 : AllNe mkl P.addrs) (hms : IntsAre ms ((List.range 3).map (markOf (ctOf rs labs)))) (nr1 : AllNe rd P.addrs) (nr2 : AllNe rd [wl, sl, L + 1 + 1 + 1 + 1 + 1 + 1 + 1, L + 1 + 1 + 1 + 1 + 1, L + 1 + 1 + 1 + 1, 226]) (hTL : ∀ p ∈ TL ++ TB, @LT.lt Nat _ P.pb2 p.1 ∧ @LT.lt Nat _ rd p.1)
    (d7 : p7.data = .cell (some (.ref H.x))) (d5 : p5.data = .cell (some (.ref rd))) (d4 : p4.data = .cell (some (.ref P.x2)))
    (h12 : rs.length = 12) (hR : ∀ (k : Nat) (r : R2), rs[k]? = some r → r.At us od wi k) (hsv : Txs sv (rs.map fun r => [r.c])) (hwv : Txs wv (rs.map R2.word)) (hrv : Txs rv (rs.map R2.word)) (hT : (rs.map R2.enc).flatten.length ≤ 192)
    (hlab : labs.Perm (row1 3)) (hP : Prs TL prs (((rs.zip labs).map fun p => ([p.1.c], p.2)) ++ (rs.map fun r => ([swp r.c], [109, 109, 109])))) (hps : ∀ q z z2 t1 t2, (q, pairO z z2 t1 t2) ∈ TL → z.all reOk = true ∧ z.length < 1000)
    (hB : Prs TB brs ((rs.zip labs).map fun p => (p.2, [p.1.c]))) (hbs : ∀ q z z2 t1 t2, (q, pairO z z2 t1 t2) ∈ TB → z.all reOk = true ∧ z.length < 1000)
    (hu1 : 1 ≤ us) (hu2 : us ≤ 3) (ho1 : od ≤ 4) (hwi : wi < 12) (a1 : Lx cs []) (a2 : Chs vs cs) (a3 : ln + nls cs = 1 + nls ((rs.map R2.enc).flatten ++ [46])) (a4 : vs.length ≤ 200)
    (mt : m (Str.ofString "text") = some (.str (tx (rs.map R2.enc).flatten) tt)) (mu : m (Str.ofString "usual") = some (.int (us : Int) tu)) (mo : m (Str.ofString "odd") = some (.int (od : Int) to)) (mw : m (Str.ofString "which") = some (.int (wi : Int) tw)) (mwl : m (Str.ofString "words") = some (.ref wl)) (msl : m (Str.ofString "spelled") = some (.ref sl)) (mm : m (Str.ofString "marks") = some (.ref mkl)) (mb : m (Str.ofString "book") = some (.ref B2.x))
    (hQ : ∀ (h' : Heap) (tk : Nat) (ps : Array Value) m', Fr base L h' m' → News base L h' [(226, tabObj ps)] → Q (.ret (.bool true)) { s with heap := h', toks := tk }) : RestW w fa L cd 20 Q s := by
  refine ⟨_, _, _, _, _, _, _, _, _, _, _, _, _, _, _, by k_is, ?_⟩
  dsimp only [List.drop]
  have hlbl : labs.length = 12 := by rw [hlab.length_eq]; decide
  have hml : ms.length = 3 := by rw [hms.length, List.length_map, List.length_range]
  have hsl12 : (rs.map fun r => [r.c]).length = 12 := by rw [List.length_map, h12]
  obtain ⟨r, hr⟩ : ∃ r, rs[wi]? = some r := ⟨rs[wi], List.getElem?_eq_getElem (by omega)⟩
  have hsp : (rs.map fun r => [r.c]).getD ((wi : Nat) : Int).toNat [] = [r.c] := by
    rw [Int.toNat_natCast, List.getD_eq_getElem?_getD, List.getElem?_map, hr]; rfl
  simp only [lexLed, hdrLed, List.cons_append, List.nil_append] at N
  k_steps
  unfold Stop
  have F1 := F
  k_dflt (refine' LCg.ListComp_U ?c0 ?c1 ?c2 ?c3 ?c4 ?c5 ?c8 ?c7; (case c0 => exact F1); (case c1 => rfl); (case c2 => decide); (case c3 => rfl); (case c4 => decide); (case c5 => rfl); (case c7 => intro _; rfl))
  k_steps
  unfold Stop
  rename Fr _ _ _ _ => F2
  rename News _ _ _ _ => N2
  have N2 : News base L _ ((mkl, listOf ms.toArray n5) :: (((lexLed w P ln tl rv pe vs.reverse le ++ (hdrLed w H prs nh ++ [(rd, listOf rv.toArray n4), (wl, listOf wv.toArray n1), (sl, listOf sv.toArray n2), (L + 1 + 1 + 1 + 1 + 1 + 1 + 1, p7), (L + 1 + 1 + 1 + 1 + 1, p5), (L + 1 + 1 + 1 + 1, p4), (226, tabObj tps)])) ++ hdrLed w B2 brs nb) ++ (TL ++ TB))) := news_sub N2 (by intro p hp; repeat (first | exact hp | apply List.mem_cons_of_mem))
  refine LCg.CompSrc.ledger (its := ms.toArray) (k := n5) rfl F2 N2 (.head _) (by rw [List.size_toArray, PySem.sizeLine_eq]; omega) fun g1 => ?_
  refine rest_inv (fun i ys nw => Txs ys ((List.range i).map fun n => [mlr (markOf (ctOf rs labs) n)]) ∧ nw = (mkl, listOf ms.toArray n5) :: (((lexLed w P ln tl rv pe vs.reverse le ++ (hdrLed w H prs nh ++ [(rd, listOf rv.toArray n4), (wl, listOf wv.toArray n1), (sl, listOf sv.toArray n2), (L + 1 + 1 + 1 + 1 + 1 + 1 + 1, p7), (L + 1 + 1 + 1 + 1 + 1, p5), (L + 1 + 1 + 1 + 1, p4), (226, tabObj tps)])) ++ hdrLed w B2 brs nb) ++ (TL ++ TB))) ⟨Txs.nil, rfl⟩ ?turn1 ?fin1
  case turn1 =>
    rintro i ys nw v I oI C oC D2 m₂ h tk E' hi ⟨b1, rfl⟩ hv hns hm F9 N9 off hne
    have hi3 : i < 3 := by rw [List.size_toArray, hml] at hi; exact hi
    obtain ⟨t, rfl⟩ := ints_at hms (show ms[i]? = some v by simpa using hv) hi3
    have off' := off
    have hmv : markOf (ctOf rs labs) i = -1 ∨ markOf (ctOf rs labs) i = 0 ∨ markOf (ctOf rs labs) i = 1 := by have := mark_val (ctOf rs labs) i; omega
    simp only [lexLed, hdrLed, List.cons_append, List.nil_append] at N9 off
    k_steps
    rename Fr _ _ _ _ => F8
    rename News _ _ _ _ => N8
    refine ⟨_, _, _, rfl, F8, N8, off', .inr ⟨listOf ms.toArray n5, .head _, rfl, _, rfl⟩, ?_, rfl⟩
    rw [List.range_succ, List.map_append]
    exact b1.append (Txs.cons (y := [mlr (markOf (ctOf rs labs) i)]) Txs.nil)
  case fin1 =>
  rintro ys nw ⟨b1, rfl⟩ D1 h tk F9 N9 off9
  rw [List.size_toArray, hml] at b1
  clear off9
  (try clear F2 N2)
  have hS1 : StrsAre ys ([[mlr (markOf (ctOf rs labs) 0)], [mlr (markOf (ctOf rs labs) 1)], [mlr (markOf (ctOf rs labs) 2)]].map tx) := b1
  clear b1
  have hz1 : [[mlr (markOf (ctOf rs labs) 0)], [mlr (markOf (ctOf rs labs) 1)], [mlr (markOf (ctOf rs labs) 2)]].flatten.length ≤ sizeLine := by show 3 ≤ sizeLine; rw [PySem.sizeLine_eq]; decide
  have N9 : News base L h ((D1, listOf ys.toArray ys.length) :: _) := N9
  simp only [lexLed, hdrLed, List.cons_append, List.nil_append] at N9
  k_steps
  unfold Stop
  rename Fr _ _ _ _ => F8
  rename News _ _ _ _ => N8
  have hg1 : [[mlr (markOf (ctOf rs labs) 0)], [mlr (markOf (ctOf rs labs) 1)], [mlr (markOf (ctOf rs labs) 2)]].flatten = hwW (ctOf rs labs) := rfl
  rw [hg1]
  k_dflt (refine' hdr_get_d (P := B2) (rs := brs) (n := nb) (TL := TB) ?aB ?aF ?aX ?aT ?ad ?au OB ?aN hB hbs ?ar ?ay ?az ?_; (case aB => k_asm); (case aF => exact F8); (case aX => k_asm); (case aT => k_asm); (case ad => decide); (case au => decide); (case aN => exact news_sub N8 (subs_app (by simp only [hdrLed]; k_upd) (fun p hp => by repeat (first | exact List.mem_append_right _ hp | apply List.mem_cons_of_mem)))))
  case ar => rw [hB.1, List.length_map, List.length_zip, h12, hlbl]; decide
  case ay => exact (hw_ok _).1
  case az => show 3 < 1000; decide
  intro v1 h' tk' kp F7 hg
  obtain ⟨t1, e1⟩ := heavy_is h12 hlab hR hwi hr hg
  subst e1
  k_dflt (refine' repl_go0 kp N8 ?_)
  intro N7
  clear kp hg F8 N8
  dsimp only
  k_steps
  unfold Stop
  rename Fr _ _ _ _ => F1
  k_dflt (refine' LCg.ListComp_U ?z0 ?z1 ?z2 ?z3 ?z4 ?z5 ?z8 ?z7; (case z0 => exact F1); (case z1 => rfl); (case z2 => decide); (case z3 => rfl); (case z4 => decide); (case z5 => rfl); (case z7 => intro _; rfl))
  k_steps
  unfold Stop
  rename Fr _ _ _ _ => F2
  rename News _ _ _ _ => N2
  have N2 : News base L _ ((mkl, listOf ms.toArray n5) :: (((lexLed w P ln tl rv pe vs.reverse le ++ (hdrLed w H prs nh ++ [(rd, listOf rv.toArray n4), (wl, listOf wv.toArray n1), (sl, listOf sv.toArray n2), (L + 1 + 1 + 1 + 1 + 1 + 1 + 1, p7), (L + 1 + 1 + 1 + 1 + 1, p5), (L + 1 + 1 + 1 + 1, p4), (226, tabObj tps)])) ++ hdrLed w B2 brs nb) ++ (TL ++ TB))) := news_sub N2 (by intro p hp; repeat (first | exact hp | apply List.mem_cons_of_mem))
  refine LCg.CompSrc.ledger (its := ms.toArray) (k := n5) rfl F2 N2 (.head _) (by rw [List.size_toArray, PySem.sizeLine_eq]; omega) fun g2 => ?_
  refine rest_inv (fun i ys nw => Txs ys ((List.range i).map fun n => [mlr (-markOf (ctOf rs labs) n)]) ∧ nw = (mkl, listOf ms.toArray n5) :: (((lexLed w P ln tl rv pe vs.reverse le ++ (hdrLed w H prs nh ++ [(rd, listOf rv.toArray n4), (wl, listOf wv.toArray n1), (sl, listOf sv.toArray n2), (L + 1 + 1 + 1 + 1 + 1 + 1 + 1, p7), (L + 1 + 1 + 1 + 1 + 1, p5), (L + 1 + 1 + 1 + 1, p4), (226, tabObj tps)])) ++ hdrLed w B2 brs nb) ++ (TL ++ TB))) ⟨Txs.nil, rfl⟩ ?turn2 ?fin2
  case turn2 =>
    rintro i ys nw v I oI C oC D2 m₂ h tk E' hi ⟨b1, rfl⟩ hv hns hm F9 N9 off hne
    have hi3 : i < 3 := by rw [List.size_toArray, hml] at hi; exact hi
    obtain ⟨t, rfl⟩ := ints_at hms (show ms[i]? = some v by simpa using hv) hi3
    have off' := off
    have hmv : -markOf (ctOf rs labs) i = -1 ∨ -markOf (ctOf rs labs) i = 0 ∨ -markOf (ctOf rs labs) i = 1 := by have := mark_val (ctOf rs labs) i; omega
    simp only [lexLed, hdrLed, List.cons_append, List.nil_append] at N9 off
    k_steps
    rename Fr _ _ _ _ => F8
    rename News _ _ _ _ => N8
    refine ⟨_, _, _, rfl, F8, N8, off', .inr ⟨listOf ms.toArray n5, .head _, rfl, _, rfl⟩, ?_, rfl⟩
    rw [List.range_succ, List.map_append]
    exact b1.append (Txs.cons (y := [mlr (-markOf (ctOf rs labs) i)]) Txs.nil)
  case fin2 =>
  rintro ys nw ⟨b1, rfl⟩ D2 h tk F9 N9 off9
  rw [List.size_toArray, hml] at b1
  clear off9
  (try clear F2 N2)
  have hS2 : StrsAre ys ([[mlr (-markOf (ctOf rs labs) 0)], [mlr (-markOf (ctOf rs labs) 1)], [mlr (-markOf (ctOf rs labs) 2)]].map tx) := b1
  clear b1
  have hz2 : [[mlr (-markOf (ctOf rs labs) 0)], [mlr (-markOf (ctOf rs labs) 1)], [mlr (-markOf (ctOf rs labs) 2)]].flatten.length ≤ sizeLine := by show 3 ≤ sizeLine; rw [PySem.sizeLine_eq]; decide
  have N9 : News base L h ((D2, listOf ys.toArray ys.length) :: _) := N9
  simp only [lexLed, hdrLed, List.cons_append, List.nil_append] at N9
  k_steps
  unfold Stop
  rename Fr _ _ _ _ => F8
  rename News _ _ _ _ => N8
  have hg2 : [[mlr (-markOf (ctOf rs labs) 0)], [mlr (-markOf (ctOf rs labs) 1)], [mlr (-markOf (ctOf rs labs) 2)]].flatten = lwW (ctOf rs labs) := rfl
  rw [hg2]
  k_dflt (refine' hdr_get_d (P := B2) (rs := brs) (n := nb) (TL := TB) ?eB ?eF ?eX ?eT ?ed ?eu OB ?eN hB hbs ?er ?ey ?ez ?_; (case eB => k_asm); (case eF => exact F8); (case eX => k_asm); (case eT => k_asm); (case ed => decide); (case eu => decide); (case eN => exact news_sub N8 (subs_app (by simp only [hdrLed]; k_upd) (fun p hp => by repeat (first | exact List.mem_append_right _ hp | apply List.mem_cons_of_mem)))))
  case er => rw [hB.1, List.length_map, List.length_zip, h12, hlbl]; decide
  case ey => exact (hw_ok _).2
  case ez => show 3 < 1000; decide
  intro v2 h' tk' kp F7 hg
  obtain ⟨t2, e2⟩ := light_is h12 hlab hR hwi hr hg
  subst e2
  k_dflt (refine' repl_go0 kp N8 ?_)
  intro N7
  clear kp hg F8 N8
  dsimp only
  have mk : MkA := trivial
  k_steps
  unfold Stop
  rename Heap => h9
  refine wpAny_mono (Q := fun v s' => HoldP (∃ (t' : Tok) (tk' : Nat), v = .str (tx (if us < od then [r.c] else [110, 111, 110, 101])) t' ∧ s' = { s with heap := h9, toks := tk' })) (E := fun _ _ => False) ?ie1 (fun v s' hv => ?_) (fun _ _ h => h)
  case ie1 =>
    clear mk
    k_steps
    · exact ⟨_, _, by rw [hsp, if_pos (by omega)], rfl⟩
    · exact ⟨_, _, by rw [if_neg (by omega), none_is], rfl⟩
  obtain ⟨t8, tk8, rfl, rfl⟩ := hv
  k_steps
  unfold Stop
  rename Heap => h9
  refine wpAny_mono (Q := fun v s' => HoldP (∃ (t' : Tok) (tk' : Nat), v = .str (tx (if od < us then [r.c] else [110, 111, 110, 101])) t' ∧ s' = { s with heap := h9, toks := tk' })) (E := fun _ _ => False) ?ie2 (fun v s' hv => ?_) (fun _ _ h => h)
  case ie2 =>
    clear mk
    k_steps
    · exact ⟨_, _, by rw [hsp, if_pos (by omega)], rfl⟩
    · exact ⟨_, _, by rw [if_neg (by omega), none_is], rfl⟩
  obtain ⟨t9, tk9, rfl, rfl⟩ := hv
  clear mk
  k_steps
  unfold Stop
  rename Fr _ _ _ _ => F8
  rename News _ _ _ _ => N8
  refine (stG (s := ⟨_, s.gens, s.drawn, _, s.os⟩) B F8 X T h237 hsl (by assumption) hc63 (news_sub N8 (by simp only [lexLed, List.cons_append, List.nil_append]; k_upd)) O ⟨by omega, lo.2.2⟩ d4 h12 (fun r hr => (let ⟨k, hk⟩ := List.mem_iff_getElem?.mp hr; (hR k r hk).ok)) hwv hrv hT a1 a2 a3 a4 (by ktr_unf) (by ktr_unf) ?_).use (by k_is)
  intro h' tk ps m' F' N'
  exact hQ h' tk ps m' F' N'
end
end
theorem cx23 {p : Program} {w : World} {A : Around} {Q : Value → Shared → Prop} {E : Value → Shared → Prop} {s : Shared} (h : wpAny (model p w) A (pyIter Value.none) Q E s) : wpAny (model p w) A (pyIter Value.none) Q E s := by first | (walk1; fail "x") | exact h
section
local macro_rules | `(tactic| walk_at "CompSrc") => `(tactic| (k_here; refine Stop.out ?_))
local macro_rules | `(tactic| walk_at "execs cons") => `(tactic| ((with_reducible show wpAny _ _ (execs (Stmt.Assign [Expr.Name (Str.ofString "heavy") _] _ _ :: _) _) _ _ _); refine Stop.out ?_))
theorem lex_has4 {w : World} {P : LexP} {ln : Int} {tl : Tok} {pv sg : List Value} {pe le : Nat} {r s t : List (Addr × Obj)} : ∀ x ∈ P.addrs, ∃ o, (x, o) ∈ ((lexLed w P ln tl pv pe sg le ++ r) ++ s) ++ t := by
  intro x hx
  obtain ⟨o, ho⟩ := lex_has (w := w) (P := P) (ln := ln) (tl := tl) (pv := pv) (sg := sg) (pe := pe) (le := le) (r := r) x hx
  exact ⟨o, List.mem_append_left _ (List.mem_append_left _ ho)⟩
theorem off3_eq_qe {I C D : Addr} : ∀ {A B : List (Addr × Obj)}, LCg.Off3 I C D A → B.map (·.1) = A.map (·.1) → LCg.Off3 I C D B
  | [], [], _, _ => trivial
  | [], _ :: _, _, e => (nomatch e)
  | _ :: _, [], _, e => (nomatch e)
  | a :: A, b :: B, h, e => by
    rw [List.map_cons, List.map_cons] at e
    obtain ⟨e1, e2⟩ := List.cons.inj e
    have e1 : b.1 = a.1 := e1
    exact ⟨by rw [e1]; exact h.1, off3_eq_qe h.2 e2⟩
theorem off1_addrs_qe {D : Addr} {P : LexP} {l : List (Addr × Obj)} (h : LCg.Off1 D l) (k : ∀ a ∈ P.addrs, ∃ o, (a, o) ∈ l) : AllNe D P.addrs := by
  have f : ∀ a ∈ P.addrs, a ≠ D := fun a ha => by
    obtain ⟨o, ho⟩ := k a ha
    exact off_new h (a, o) ho
  exact ⟨f _ (by simp), f _ (by simp), f _ (by simp), f _ (by simp), f _ (by simp), f _ (by simp), f _ (by simp), f _ (by simp), f _ (by simp), trivial⟩
section
variable {w : World} {L : Addr} {base : Heap} {m : Str → Option Value} {s : Shared} {p : Program} {loose : List Str} {mean : ExcName → Option Value} {mg mb : Str → Option Value} {fa : Addr} {cd : Value} {Q : Flow → Shared → Prop} {scv : List Value} {scn : List Int} {sc : Addr}
set_option maxHeartbeats 0 in
theorem stE {rs : List R2} {sv wv rv prs brs : List Value} {us od wi : Nat} {tt tu to tw : Tok} {n1 n2 n4 le nh nb : Nat} {wl sl rd : Nat} {p7 p5 p4 : Obj} {P : LexP} {H B2 : HdrP} {ln : Int} {tl : Tok} {vs : List Value} {cs : List Nat} {tps : Array Value} {labs : List (List Nat)} {TL TB : List (Addr × Obj)} (B : Below callerA base [] base) (F : Fr base L s.heap m) (X : (hd2.heap_1 w.params).In base) (T : Top p loose mean mg mb base) (h237 : @LT.lt Nat _ 226 L) (hsl : base.IsList sc scv.toArray) (hIs : IntsAre scv scn) (hc63 : scv.length ≤ 63)
    (N : News base L s.heap (((lexLed w P ln tl [] 0 vs.reverse le ++ (hdrLed w H prs nh ++ [(rd, listOf rv.toArray n4), (wl, listOf wv.toArray n1), (sl, listOf sv.toArray n2), (L + 1 + 1 + 1 + 1 + 1 + 1 + 1, p7), (L + 1 + 1 + 1 + 1 + 1, p5), (L + 1 + 1 + 1 + 1, p4), (226, tabObj tps)])) ++ hdrLed w B2 brs nb) ++ (TL ++ TB)))
    (O : P.Ok) (lo : @LT.lt Nat _ (L + 1 + 1 + 1 + 1 + 1 + 1 + 1) sl ∧ @LT.lt Nat _ sl wl ∧ @LT.lt Nat _ wl P.cs) (lh : P.pb2 < H.hl ∧ @LT.lt Nat _ rd H.hl ∧ H.hl < H.d ∧ H.d < H.x) (OB : B2.Ok2) (gb : AllNe B2.x P.addrs ∧ AllNe B2.d P.addrs ∧ AllNe B2.hl P.addrs)
    (nr1 : AllNe rd P.addrs) (nr2 : AllNe rd [wl, sl, L + 1 + 1 + 1 + 1 + 1 + 1 + 1, L + 1 + 1 + 1 + 1 + 1, L + 1 + 1 + 1 + 1, 226]) (hTL : ∀ p ∈ TL ++ TB, @LT.lt Nat _ P.pb2 p.1 ∧ @LT.lt Nat _ rd p.1)
    (d7 : p7.data = .cell (some (.ref H.x))) (d5 : p5.data = .cell (some (.ref rd))) (d4 : p4.data = .cell (some (.ref P.x2)))
    (h12 : rs.length = 12) (hR : ∀ (k : Nat) (r : R2), rs[k]? = some r → r.At us od wi k) (hsv : Txs sv (rs.map fun r => [r.c])) (hwv : Txs wv (rs.map R2.word)) (hrv : Txs rv (rs.map R2.word)) (hT : (rs.map R2.enc).flatten.length ≤ 192)
    (hlab : labs.Perm (row1 3)) (hP : Prs TL prs (((rs.zip labs).map fun p => ([p.1.c], p.2)) ++ (rs.map fun r => ([swp r.c], [109, 109, 109])))) (hps : ∀ q z z2 t1 t2, (q, pairO z z2 t1 t2) ∈ TL → z.all reOk = true ∧ z.length < 1000)
    (hB : Prs TB brs ((rs.zip labs).map fun p => (p.2, [p.1.c]))) (hbs : ∀ q z z2 t1 t2, (q, pairO z z2 t1 t2) ∈ TB → z.all reOk = true ∧ z.length < 1000)
    (hu1 : 1 ≤ us) (hu2 : us ≤ 3) (ho1 : od ≤ 4) (hwi : wi < 12) (a1 : Lx cs []) (a2 : Chs vs cs) (a3 : ln + nls cs = 1 + nls ((rs.map R2.enc).flatten ++ [46])) (a4 : vs.length ≤ 200)
    (mt : m (Str.ofString "text") = some (.str (tx (rs.map R2.enc).flatten) tt)) (mu : m (Str.ofString "usual") = some (.int (us : Int) tu)) (mo : m (Str.ofString "odd") = some (.int (od : Int) to)) (mw : m (Str.ofString "which") = some (.int (wi : Int) tw)) (mwl : m (Str.ofString "words") = some (.ref wl)) (msl : m (Str.ofString "spelled") = some (.ref sl)) (mb : m (Str.ofString "book") = some (.ref B2.x))
    (hQ : ∀ (h' : Heap) (tk : Nat) (ps : Array Value) m', Fr base L h' m' → News base L h' [(226, tabObj ps)] → Q (.ret (.bool true)) { s with heap := h', toks := tk }) : RestW w fa L cd 18 Q s := by
  refine ⟨_, _, _, _, _, _, _, _, _, _, _, _, _, _, _, by k_is, ?_⟩
  dsimp only [List.drop]
  have hlbl : labs.length = 12 := by rw [hlab.length_eq]; decide
  have hrl : rv.length = 12 := by rw [hrv.length, List.length_map, h12]
  have hprl : prs.length = 24 := by
    rw [hP.1, List.length_append, List.length_map, List.length_map, List.length_zip, h12, hlbl]
    decide
  obtain ⟨gw, gs1, _, g7, _, g5, g4, _, gt⟩ := qAds (gl := L + 1 + 1 + 1) O ⟨lo.1, by omega, lo.2.1, lo.2.2⟩ h237
  have gx3 : AllNe H.hl P.addrs := O.hi lh.1
  have gx2 : AllNe H.d P.addrs := O.hi (Nat.lt_trans lh.1 lh.2.2.1)
  have gx1 : AllNe H.x P.addrs := O.hi (Nat.lt_trans lh.1 (Nat.lt_trans lh.2.2.1 lh.2.2.2))
  obtain ⟨gb1, gb2, gb3⟩ := gb
  have hTp : ∀ p ∈ TL ++ TB, p.1 ∉ P.addrs := fun p hp => (O.hi (hTL p hp).1).notin
  have hTp1 : ∀ p ∈ TL, p.1 ∉ P.addrs := fun p hp => hTp p (List.mem_append_left _ hp)
  simp only [lexLed, hdrLed, List.cons_append, List.nil_append] at N
  k_steps
  rename Fr _ _ _ _ => F3
  rename News _ _ _ _ => N3
  have N3 : News base L _ (((lexLed w P ln tl [] 0 vs.reverse le ++ (hdrLed w H prs nh ++ [(rd, listOf rv.toArray n4), (wl, listOf wv.toArray n1), (sl, listOf sv.toArray n2), (L + 1 + 1 + 1 + 1 + 1 + 1 + 1, p7), (L + 1 + 1 + 1 + 1 + 1, p5), (L + 1 + 1 + 1 + 1, p4), (226, tabObj tps)])) ++ hdrLed w B2 brs nb) ++ (TL ++ TB)) := N3
  refine iter_listUnr (lo := listOf rv.toArray n4) (vs := rv) (n := n4) rfl F3 N3 (by simp) rfl rfl fun Ip l7 => ?_
  have hIp : AllNe Ip P.addrs := O.hi (l7 (P.pb2, _) (List.mem_append_left _ (List.mem_append_left _ (List.mem_append_left _ (.tail _ (.tail _ (.head _)))))))
  refine listRest_inv (fun i m' nw => ∃ pe : Nat, m' (Str.ofString "text") = some (.str (tx (rs.map R2.enc).flatten) tt) ∧ m' (Str.ofString "usual") = some (.int (us : Int) tu) ∧ m' (Str.ofString "odd") = some (.int (od : Int) to) ∧ m' (Str.ofString "which") = some (.int (wi : Int) tw) ∧ m' (Str.ofString "words") = some (.ref wl) ∧ m' (Str.ofString "spelled") = some (.ref sl) ∧ m' (Str.ofString "book") = some (.ref B2.x) ∧ nw = ((lexLed w P ln tl (rv.take i) pe vs.reverse le ++ (hdrLed w H prs nh ++ [(rd, listOf rv.toArray n4), (wl, listOf wv.toArray n1), (sl, listOf sv.toArray n2), (L + 1 + 1 + 1 + 1 + 1 + 1 + 1, p7), (L + 1 + 1 + 1 + 1 + 1, p5), (L + 1 + 1 + 1 + 1, p4), (226, tabObj tps)])) ++ hdrLed w B2 brs nb) ++ (TL ++ TB)) ⟨0, by ktr_unf, by ktr_unf, by ktr_unf, by ktr_unf, by ktr_unf, by ktr_unf, by ktr_unf, rfl⟩ (fun i m' nw ⟨pe, _, _, _, _, _, _, _, en⟩ => by rw [en]; simp) ?turn ?fin
  case turn =>
    rintro i v m' nw it h tk hv ⟨pe, e1, e2, e3, e4, e5, e6, e7, rfl⟩ hit F9 N9
    have hil : i < 12 := by rw [← hrl]; exact (List.getElem?_eq_some_iff.mp hv).1
    obtain ⟨pv, hpv⟩ : ∃ pv, pv = rv.take i := ⟨_, rfl⟩
    have hpl : pv.length ≤ 12 := by rw [hpv, List.length_take]; omega
    have hpn : pv ++ [v] = rv.take (i + 1) := by rw [hpv, List.take_add_one, hv]; rfl
    rw [← hpv] at N9
    simp only [lexLed, hdrLed, List.cons_append, List.nil_append] at N9
    k_steps
    unfold Stop
    rename News _ _ _ _ => N8
    have N8' : News base L _ ((Ip, _) :: (((lexLed w P ln tl (pv ++ [v]) _ vs.reverse le ++ (hdrLed w H prs nh ++ [(rd, listOf rv.toArray n4), (wl, listOf wv.toArray n1), (sl, listOf sv.toArray n2), (L + 1 + 1 + 1 + 1 + 1 + 1 + 1, p7), (L + 1 + 1 + 1 + 1 + 1, p5), (L + 1 + 1 + 1 + 1, p4), (226, tabObj tps)])) ++ hdrLed w B2 brs nb) ++ (TL ++ TB))) := N8
    exact UnrEnd.intro (by assumption) N8' (((lexLed w P ln tl (pv ++ [v]) _ vs.reverse le ++ (hdrLed w H prs nh ++ [(rd, listOf rv.toArray n4), (wl, listOf wv.toArray n1), (sl, listOf sv.toArray n2), (L + 1 + 1 + 1 + 1 + 1 + 1 + 1, p7), (L + 1 + 1 + 1 + 1 + 1, p5), (L + 1 + 1 + 1 + 1, p4), (226, tabObj tps)])) ++ hdrLed w B2 brs nb) ++ (TL ++ TB)) (fun p hp => hp) (off_map l7 rfl) ⟨_, by ktr_unf, by ktr_unf, by ktr_unf, by ktr_unf, by ktr_unf, by ktr_unf, by ktr_unf, by rw [hpn]; rfl⟩
  case fin =>
    rintro m' nw h tk ⟨pe, e1, e2, e3, e4, e5, e6, e7, rfl⟩ F9 N9
    rw [List.take_of_length_le (by omega)] at N9
    simp only [lexLed, hdrLed, List.cons_append, List.nil_append] at N9
    k_steps
    unfold Stop
    rename Fr _ _ _ _ => F1
    k_dflt (refine' LCg.Assign_ListComp_U ?c0 ?cL ?cW ?c1 ?c2 ?c3 ?c4 ?c5 ?cY ?cP ?c8 ?c7; (case c0 => exact F1); (case cL => rfl); (case cW => with_unfolding_all rfl); (case c1 => rfl); (case c2 => decide); (case c3 => rfl); (case c4 => decide); (case c5 => rfl); (case cY => rfl); (case cP => rfl); (case c7 => intro _; rfl))
    k_steps
    unfold Stop
    rename Fr _ _ _ _ => F2
    rename News _ _ _ _ => N2
    rename IsRange _ _ 0 3 1 _ _ _ => r9
    have N2 : News base L _ (((lexLed w P ln tl rv pe vs.reverse le ++ (hdrLed w H prs nh ++ [(rd, listOf rv.toArray n4), (wl, listOf wv.toArray n1), (sl, listOf sv.toArray n2), (L + 1 + 1 + 1 + 1 + 1 + 1 + 1, p7), (L + 1 + 1 + 1 + 1 + 1, p5), (L + 1 + 1 + 1 + 1, p4), (226, tabObj tps)])) ++ hdrLed w B2 brs nb) ++ (TL ++ TB)) := N2
    refine LCg.CompSrc.range (n := 3) rfl F2 N2 r9 (by decide) (by decide) (by decide) fun g2 => ?_
    refine rest_inv (fun i ys nw => ∃ pe : Nat, IntsAre ys ((List.range i).map (markOf (ctOf rs labs))) ∧ nw = ((lexLed w P ln tl rv pe vs.reverse le ++ (hdrLed w H prs nh ++ [(rd, listOf rv.toArray n4), (wl, listOf wv.toArray n1), (sl, listOf sv.toArray n2), (L + 1 + 1 + 1 + 1 + 1 + 1 + 1, p7), (L + 1 + 1 + 1 + 1 + 1, p5), (L + 1 + 1 + 1 + 1, p4), (226, tabObj tps)])) ++ hdrLed w B2 brs nb) ++ (TL ++ TB)) ⟨pe, .nil, rfl⟩ ?turn2 ?fin2
    case turn2 =>
      rintro i ys nw v I oI C oC D2 m₂ h tk E' hi ⟨pe, b1, rfl⟩ ⟨t, rfl⟩ hns hm F9 N9 off hne
      rw [Int.zero_add] at hm
      obtain ⟨nI, nC, nD2⟩ := off_addrs off lex_has4
      have off' := off
      simp only [lexLed, hdrLed, List.cons_append, List.nil_append] at N9 off
      k_steps
      unfold Stop
      rename Fr _ _ _ _ => F8
      rename News _ _ _ _ => N8
      have hl0 : rs.length = labs.length := by rw [h12, hlbl]
      k_dflt (refine' weigh_spec (H := H) (us := rv) (rs := prs) (nh := nh) (n := i) (ct := ctOf rs labs) (TL := TL) ?wB ?wF ?wX ?wT ?wd ?wu O ⟨lh.2.2.2, Ne.symm (Nat.ne_of_lt (Nat.lt_trans lh.2.2.1 lh.2.2.2)), Ne.symm (Nat.ne_of_lt lh.2.2.1)⟩ ?wN gx1 gx2 gx3 hTp1 hP hps ?wr (ct_len h12 hlbl) ?ws ?wc ?wg hi ?_; (case wB => k_asm); (case wF => exact F8); (case wX => k_asm); (case wT => k_asm); (case wd => decide); (case wu => decide))
      case wN =>
        exact news_sub N8 (subs_app (by simp only [lexLed]; k_upd) (subs_app (by simp only [hdrLed]; k_upd) (fun p hp => by repeat (first | exact List.mem_append_left _ hp | apply List.mem_cons_of_mem))))
      case wr => rw [hprl]; decide
      case ws => rw [ct_word hl0]; exact hrv
      case wc =>
        intro x hx
        obtain ⟨k, r, l, k1, k2, rfl⟩ := ct_mem hx
        have hA := hR k r k1
        have hl3 := row1_lab l (hlab.mem_iff.mp (List.mem_of_getElem? k2))
        exact ⟨hA.ok.c, hA.ok.n, hl3.1, hl3.2⟩
      case wg =>
        intro x hx v hv
        obtain ⟨k, r, l, k1, k2, rfl⟩ := ct_mem hx
        exact get_lab hR hl0 k1 k2 hv
      intro z u pe' h' tk' hz kp F7 N7
      k_dflt (refine' repl_go kp N7 N8 ?wq ?_; (case wq => k_upd))
      clear kp N7
      intro N7
      clear F8 N8
      dsimp only
      k_steps
      rename Fr _ _ _ _ => F8
      refine ⟨_, _, _, rfl, F8, N7, off3_eq_qe off' rfl, trivial, pe', ?_, rfl⟩
      rw [List.range_succ, List.map_append, hz]
      exact b1.append (.cons _ _ .nil)
    case fin2 =>
      rintro ms nw ⟨pe, b1, rfl⟩ mkl h tk F9 N9 off9
      have nm1 := off1_addrs_qe off9 lex_has4
      (try clear off9)
      (try clear r9)
      have N9 : News base L h ((mkl, listOf ms.toArray ms.length) :: (((lexLed w P ln tl rv pe vs.reverse le ++ (hdrLed w H prs nh ++ [(rd, listOf rv.toArray n4), (wl, listOf wv.toArray n1), (sl, listOf sv.toArray n2), (L + 1 + 1 + 1 + 1 + 1 + 1 + 1, p7), (L + 1 + 1 + 1 + 1 + 1, p5), (L + 1 + 1 + 1 + 1, p4), (226, tabObj tps)])) ++ hdrLed w B2 brs nb) ++ (TL ++ TB))) := N9
      k_steps
      unfold Stop
      refine (stF (B2 := B2) (s := ⟨_, s.gens, s.drawn, _, s.os⟩) B F9 X T h237 hsl (by assumption) hc63 N9 O lo lh OB ⟨gb1, gb2, gb3⟩ nm1 b1 nr1 nr2 hTL d7 d5 d4 h12 hR hsv hwv hrv hT hlab hP hps hB hbs hu1 hu2 ho1 hwi a1 a2 a3 a4 (by ktr_unf) (by ktr_unf) (by ktr_unf) (by ktr_unf) (by ktr_unf) (by ktr_unf) (by ktr_unf) (by ktr_unf) ?_).use (by k_is)
      intro h' tk ps m' F' N'
      exact hQ h' tk ps m' F' N'
end
end
theorem cx24 {p : Program} {w : World} {A : Around} {Q : Value → Shared → Prop} {E : Value → Shared → Prop} {s : Shared} (h : wpAny (model p w) A (pyIter Value.none) Q E s) : wpAny (model p w) A (pyIter Value.none) Q E s := by first | (walk1; fail "x") | exact h
section
local macro_rules | `(tactic| k_enter) => `(tactic| ((with_reducible show codeAny _ _ (Code.call (Value.ref 63) _) _ _); refine Stop.out ?_))
local macro_rules | `(tactic| walk_at "exec For Tuple Subscript cons nil") => `(tactic| (k_here; refine Stop.out ?_))
local macro_rules | `(tactic| walk_at "UnrEndW") => `(tactic| ((with_reducible show UnrEndW _ _ _ _ _ _); refine Stop.out ?_))
local macro_rules | `(tactic| walk_at "execs cons") => `(tactic| ((with_reducible show wpAny _ _ (execs (Stmt.For (Expr.Name (Str.ofString "word") _) _ _ _ _ :: _) _) _ _ _); refine Stop.out ?_))
theorem kms_12 (l : List Value) (h : l.length = 24) : kms_pick l.toArray.toList none (some 12) = l.take 12 := by
  rw [List.toList_toArray]
  show (l.drop 0).take ((if (12 : Int) < 0 then l.length - (-(12 : Int)).toNat else min (12 : Int).toNat l.length) - 0) = l.take 12
  rw [h, List.drop_zero, if_neg (by decide)]
  rfl
theorem row1_ok_qd : ∀ y ∈ row1 3, y.all reOk = true ∧ y.length = 3 ∧ y.map lowC = y := by decide
theorem news_lt {h₀ h : Heap} {L : Addr} {l : List (Addr × Obj)} (N : News h₀ L h l) : ∀ p ∈ l, @LT.lt Nat _ p.1 h.objs.size := fun p hp => Heap.lt_size (N p hp).1
theorem labs_no {rs : List R2} {labs : List (List Nat)} {lb : List Nat} {i : Nat} (hnd : labs.Nodup) (hlow : ∀ l ∈ labs, l.map lowC = l) (hi : labs[i]? = some lb) : ∀ p ∈ ((rs.zip labs).take i).map (fun p => (p.2, [p.1.c])), ¬ p.1.map lowC = lb.map lowC := by
  intro p hp e
  obtain ⟨⟨a, b⟩, hab, rfl⟩ := List.mem_map.mp hp
  obtain ⟨k, hk⟩ := List.mem_iff_getElem?.mp hab
  have hki : k < i := by
    have := (List.getElem?_eq_some_iff.mp hk).1
    rw [List.length_take] at this
    omega
  rw [List.getElem?_take_of_lt hki] at hk
  have hb := (List.getElem?_zip_eq_some.mp hk).2
  dsimp only at e hb
  rw [hlow b (List.mem_of_getElem? hb), hlow lb (List.mem_of_getElem? hi)] at e
  subst e
  obtain ⟨h1, e1⟩ := List.getElem?_eq_some_iff.mp hb
  have := (List.getElem?_inj h1 hnd).mp (hb.trans hi.symm)
  omega
theorem news_setd {h₀ h h' : Heap} {L : Addr} {ads : List Nat} {X Z Z' TL TB : List (Addr × Obj)} {q : Addr × Obj} (N : News h₀ L h ((X ++ Z) ++ (TL ++ TB))) (N' : News h₀ L h' (q :: (Z' ++ TB))) (k : ∀ (b : Nat) o, h.get? b = some o → b ∉ ads → h'.get? b = some o) (hX : ∀ p ∈ X, p.1 ∉ ads) (hT : ∀ p ∈ TL, p.1 ∉ ads) : News h₀ L h' ((X ++ Z') ++ (TL ++ (TB ++ [q]))) := by
  intro p hp
  have kk : p ∈ (X ++ Z) ++ (TL ++ TB) → p.1 ∉ ads → h'.get? p.1 = some p.2 ∧ p.1 ≠ L ∧ h₀.get? p.1 = none := fun hm hn => ⟨k _ _ (N p hm).1 hn, (N p hm).2⟩
  rcases List.mem_append.mp hp with hp | hp
  · rcases List.mem_append.mp hp with hp | hp
    · exact kk (List.mem_append_left _ (List.mem_append_left _ hp)) (hX p hp)
    · exact N' p (List.mem_cons_of_mem _ (List.mem_append_left _ hp))
  · rcases List.mem_append.mp hp with hp | hp
    · exact kk (List.mem_append_right _ (List.mem_append_left _ hp)) (hT p hp)
    · rcases List.mem_append.mp hp with hp | hp
      · exact N' p (List.mem_cons_of_mem _ (List.mem_append_right _ hp))
      · rw [List.mem_singleton.mp hp]; exact N' q (.head _)
theorem names_b {h₀ h : Heap} {L x d : Addr} {o1 o2 : Obj} {r : List (Addr × Obj)} (_ : News h₀ L h ((x, o1) :: (d, o2) :: r)) : ∃ (x' d' : Addr), x' = x ∧ d' = d := ⟨x, d, rfl, rfl⟩
theorem news_mix2 {h₀ h : Heap} {L : Addr} {A Z T : List (Addr × Obj)} (N : News h₀ L h (A ++ T)) (N' : News h₀ L h Z) : News h₀ L h ((A ++ Z) ++ (T ++ [])) := by
  rw [List.append_nil]
  intro p hp
  rcases List.mem_append.mp hp with hp | hp
  · rcases List.mem_append.mp hp with hp | hp
    · exact N p (List.mem_append_left _ hp)
    · exact N' p hp
  · exact N p (List.mem_append_right _ hp)
theorem new_addrs {D : Addr} {P : LexP} {l : List (Addr × Obj)} (h : ∀ p ∈ l, NeW p.1 D) (k : ∀ a ∈ P.addrs, ∃ o, (a, o) ∈ l) : AllNe D P.addrs := by
  have f : ∀ a ∈ P.addrs, a ≠ D := fun a ha => by
    obtain ⟨o, ho⟩ := k a ha
    exact h (a, o) ho
  exact ⟨f _ (by simp), f _ (by simp), f _ (by simp), f _ (by simp), f _ (by simp), f _ (by simp), f _ (by simp), f _ (by simp), f _ (by simp), trivial⟩
theorem lex_has3 {w : World} {P : LexP} {ln : Int} {tl : Tok} {pv sg : List Value} {pe le : Nat} {r s : List (Addr × Obj)} : ∀ x ∈ P.addrs, ∃ o, (x, o) ∈ (lexLed w P ln tl pv pe sg le ++ r) ++ s := by
  intro x hx
  obtain ⟨o, ho⟩ := lex_has (w := w) (P := P) (ln := ln) (tl := tl) (pv := pv) (sg := sg) (pe := pe) (le := le) (r := r) x hx
  exact ⟨o, List.mem_append_left _ ho⟩
section
variable {w : World} {L : Addr} {base : Heap} {m : Str → Option Value} {s : Shared} {p : Program} {loose : List Str} {mean : ExcName → Option Value} {mg mb : Str → Option Value} {fa : Addr} {cd : Value} {Q : Flow → Shared → Prop} {scv : List Value} {scn : List Int} {sc : Addr}
set_option maxHeartbeats 0 in
theorem stD {rs : List R2} {sv wv rv prs : List Value} {us od wi : Nat} {tt tu to tw : Tok} {n1 n2 n4 le nh : Nat} {wl sl rd : Nat} {p7 p5 p4 : Obj} {P : LexP} {H : HdrP} {ln : Int} {tl : Tok} {vs : List Value} {cs : List Nat} {tps : Array Value} {labs : List (List Nat)} {TL : List (Addr × Obj)} (B : Below callerA base [] base) (F : Fr base L s.heap m) (X : (hd2.heap_1 w.params).In base) (T : Top p loose mean mg mb base) (h237 : @LT.lt Nat _ 226 L) (hsl : base.IsList sc scv.toArray) (hIs : IntsAre scv scn) (hc63 : scv.length ≤ 63)
    (N : News base L s.heap ((lexLed w P ln tl [] 0 vs.reverse le ++ (hdrLed w H prs nh ++ [(rd, listOf rv.toArray n4), (wl, listOf wv.toArray n1), (sl, listOf sv.toArray n2), (L + 1 + 1 + 1 + 1 + 1 + 1 + 1, p7), (L + 1 + 1 + 1 + 1 + 1, p5), (L + 1 + 1 + 1 + 1, p4), (226, tabObj tps)])) ++ TL))
    (O : P.Ok) (lo : @LT.lt Nat _ (L + 1 + 1 + 1 + 1 + 1 + 1 + 1) sl ∧ @LT.lt Nat _ sl wl ∧ @LT.lt Nat _ wl P.cs) (lh : P.pb2 < H.hl ∧ @LT.lt Nat _ rd H.hl ∧ H.hl < H.d ∧ H.d < H.x)
    (nr1 : AllNe rd P.addrs) (nr2 : AllNe rd [wl, sl, L + 1 + 1 + 1 + 1 + 1 + 1 + 1, L + 1 + 1 + 1 + 1 + 1, L + 1 + 1 + 1 + 1, 226]) (hTL : ∀ p ∈ TL, @LT.lt Nat _ P.pb2 p.1 ∧ @LT.lt Nat _ rd p.1 ∧ @LT.lt Nat _ p.1 H.hl)
    (d7 : p7.data = .cell (some (.ref H.x))) (d5 : p5.data = .cell (some (.ref rd))) (d4 : p4.data = .cell (some (.ref P.x2)))
    (h12 : rs.length = 12) (hR : ∀ (k : Nat) (r : R2), rs[k]? = some r → r.At us od wi k) (hsv : Txs sv (rs.map fun r => [r.c])) (hwv : Txs wv (rs.map R2.word)) (hrv : Txs rv (rs.map R2.word)) (hT : (rs.map R2.enc).flatten.length ≤ 192)
    (hlab : labs.Perm (row1 3)) (hP : Prs TL prs (((rs.zip labs).map fun p => ([p.1.c], p.2)) ++ (rs.map fun r => ([swp r.c], [109, 109, 109])))) (hps : ∀ q z z2 t1 t2, (q, pairO z z2 t1 t2) ∈ TL → (z.all reOk = true ∧ z.length < 1000) ∧ (z2.all reOk = true ∧ z2.length < 1000))
    (hu1 : 1 ≤ us) (hu2 : us ≤ 3) (ho1 : od ≤ 4) (hwi : wi < 12) (a1 : Lx cs []) (a2 : Chs vs cs) (a3 : ln + nls cs = 1 + nls ((rs.map R2.enc).flatten ++ [46])) (a4 : vs.length ≤ 200)
    (mt : m (Str.ofString "text") = some (.str (tx (rs.map R2.enc).flatten) tt)) (mu : m (Str.ofString "usual") = some (.int (us : Int) tu)) (mo : m (Str.ofString "odd") = some (.int (od : Int) to)) (mw : m (Str.ofString "which") = some (.int (wi : Int) tw)) (mwl : m (Str.ofString "words") = some (.ref wl)) (msl : m (Str.ofString "spelled") = some (.ref sl))
    (hQ : ∀ (h' : Heap) (tk : Nat) (ps : Array Value) m', Fr base L h' m' → News base L h' [(226, tabObj ps)] → Q (.ret (.bool true)) { s with heap := h', toks := tk }) : RestW w fa L cd 16 Q s := by
  refine ⟨_, _, _, _, _, _, _, _, _, _, _, _, _, _, _, by k_is, ?_⟩
  dsimp only [List.drop]
  obtain ⟨r1, r2, r4, r6, r7, r10, _⟩ := nr2
  obtain ⟨lh1, lh2, lh3, lh4⟩ := lh
  simp only [lexLed, hdrLed, List.cons_append, List.nil_append] at N
  have hlbl : labs.length = 12 := by rw [hlab.length_eq]; decide
  have hprl : prs.length = 24 := by
    rw [hP.1, List.length_append, List.length_map, List.length_map, List.length_zip, h12, hlbl]
    decide
  have hnd : labs.Nodup := hlab.nodup_iff.mpr (by decide)
  have hlow : ∀ l ∈ labs, l.map lowC = l := fun l hl => (row1_ok_qd l (hlab.mem_iff.mp hl)).2.2
  k_steps
  unfold Stop
  rename Fr _ _ _ _ => F8
  rename News _ _ _ _ => N8
  obtain ⟨x, d, e1, e2⟩ := names_b N8
  subst e1 e2
  rename d < x => ldx
  rename P.x2 < d ∧ _ => lld
  have hlt : ∀ p ∈ (lexLed w P ln tl [] 0 vs.reverse le ++ (hdrLed w H prs nh ++ [(rd, listOf rv.toArray n4), (wl, listOf wv.toArray n1), (sl, listOf sv.toArray n2), (L + 1 + 1 + 1 + 1 + 1 + 1 + 1, p7), (L + 1 + 1 + 1 + 1 + 1, p5), (L + 1 + 1 + 1 + 1, p4), (226, tabObj tps)])) ++ TL, @LT.lt Nat _ p.1 d := allLt_mem (by obtain ⟨v1, v2, v3, v4, v5, v6, v7, v8, v9, v10, v11, v12, v13, v14, v15, v16, v17, v18, v19, lTd⟩ := lld; exact ⟨v1, v2, v3, v4, v5, v6, v7, v8, v9, v10, v11, v12, v13, v14, v15, v16, v17, v18, v19, lTd⟩)
  have lpb : P.pb2 < d := lld.2.2.1
  have lhx : H.x < d := lld.2.2.2.2.2.2.2.2.2.1
  have lrd : @LT.lt Nat _ rd d := lld.2.2.2.2.2.2.2.2.2.2.2.2.1
  clear lld
  k_dflt (refine' hdr_init0 (x := x) (d := d) ?cB ?cF ?cX ?cT ?cd ?cu ldx ?cN ?_; (case cB => k_asm); (case cF => exact F8); (case cX => k_asm); (case cT => k_asm); (case cd => with_unfolding_all exact Nat.le_of_ble_eq_true rfl); (case cu => with_unfolding_all exact Nat.le_of_ble_eq_true rfl); (case cN => exact news_sub N8 (sub := [(x, instObj 171 d), (d, dictOf [] 0)]) (by intro p hp; simp only [List.mem_cons, List.not_mem_nil, or_false] at hp ⊢; rcases hp with h | h <;> simp [h])))
  intro hb tB h' tk' kp fq nxh ndh F7 N7
  have Nr : News base L _ ((lexLed w P ln tl [] 0 vs.reverse le ++ (hdrLed w H prs nh ++ [(rd, listOf rv.toArray n4), (wl, listOf wv.toArray n1), (sl, listOf sv.toArray n2), (L + 1 + 1 + 1 + 1 + 1 + 1 + 1, p7), (L + 1 + 1 + 1 + 1 + 1, p5), (L + 1 + 1 + 1 + 1, p4), (226, tabObj tps)])) ++ TL) := news_tail (news_tail N8)
  have Nr' := news_kept Nr fun p hp e => kp _ _ e (by
    have h1 := hlt p hp
    simp only [List.mem_cons, List.not_mem_nil, or_false, not_or]
    exact ⟨Nat.ne_of_lt (Nat.lt_trans h1 ldx), Nat.ne_of_lt h1⟩)
  have nbh : ∀ p ∈ (lexLed w P ln tl [] 0 vs.reverse le ++ (hdrLed w H prs nh ++ [(rd, listOf rv.toArray n4), (wl, listOf wv.toArray n1), (sl, listOf sv.toArray n2), (L + 1 + 1 + 1 + 1 + 1 + 1 + 1, p7), (L + 1 + 1 + 1 + 1 + 1, p5), (L + 1 + 1 + 1 + 1, p4), (226, tabObj tps)])) ++ TL, NeW p.1 hb := led_new Nr fq
  have Nf := news_mix2 Nr' N7
  clear Nr Nr' N7 N8 kp F8 fq
  obtain ⟨B2, eB⟩ : ∃ B2 : HdrP, B2 = ⟨x, d, hb, tB⟩ := ⟨_, rfl⟩
  have OB : B2.Ok2 := by rw [eB]; exact ⟨ldx, nxh, ndh⟩
  have gb1 : AllNe B2.x P.addrs := by rw [eB]; exact O.hi (Nat.lt_trans lpb ldx)
  have gb2 : AllNe B2.d P.addrs := by rw [eB]; exact O.hi lpb
  have gb3 : AllNe B2.hl P.addrs := by rw [eB]; exact new_addrs nbh lex_has3
  have ebx : x = B2.x := by rw [eB]
  have hAT : ∀ p ∈ (lexLed w P ln tl [] 0 vs.reverse le ++ (hdrLed w H prs nh ++ [(rd, listOf rv.toArray n4), (wl, listOf wv.toArray n1), (sl, listOf sv.toArray n2), (L + 1 + 1 + 1 + 1 + 1 + 1 + 1, p7), (L + 1 + 1 + 1 + 1 + 1, p5), (L + 1 + 1 + 1 + 1, p4), (226, tabObj tps)])) ++ TL, p.1 ∉ B2.addrs := by
    rw [eB]
    intro p hp
    have h1 := hlt p hp
    have h2 : p.1 ≠ hb := nbh p hp
    simp only [HdrP.addrs, List.mem_cons, List.not_mem_nil, or_false, not_or]
    exact ⟨Nat.ne_of_lt (Nat.lt_trans h1 ldx), Nat.ne_of_lt h1, h2⟩
  rw [← eB] at Nf
  rw [ebx]
  simp only [lexLed, hdrLed, List.cons_append, List.nil_append] at Nf
  refine ⟨rfl, ?_⟩
  dsimp only
  k_steps
  unfold Stop
  rename Fr _ _ _ _ => F1
  rename News _ _ _ _ => N1
  with_unfolding_all refine' For_turns F1 ?_
  k_steps
  unfold Stop
  rename Fr _ _ _ _ => F2
  rename News _ _ _ _ => N2
  k_dflt (refine' hdr_items (P := H) (rs := prs) (n := nh) ?yB ?yF ?yX ?yT ?yd ?yu ⟨lh4, Ne.symm (Nat.ne_of_lt (Nat.lt_trans lh3 lh4)), Ne.symm (Nat.ne_of_lt lh3)⟩ ?yN ?yr ?_; (case yB => k_asm); (case yF => exact F2); (case yX => k_asm); (case yT => k_asm); (case yd => decide); (case yu => decide); (case yN => exact news_sub N2 (by simp only [hdrLed]; k_upd)))
  case yr => rw [hprl]; decide
  intro q h' tk' kp fq F7 N7
  have nq := led_new N2 fq
  k_dflt (refine' repl_go0 kp N2 ?_)
  intro N3
  have N4 := news_join N7 N3
  clear N3 N7 F2 N2 kp fq
  (try clear F1 N1)
  simp only [List.cons_append, List.nil_append] at N4
  dsimp only
  have hsz4 := news_lt N4
  k_steps
  rename Fr _ _ _ _ => F5
  rename News _ _ _ _ => N5
  obtain ⟨ax, l0, ea, eo⟩ := names1 N5
  rw [← ea, ← eo] at N5
  rw [← ea]
  have eo2 : l0 = listOf (prs.take 12).toArray 0 := by
    rw [eo, kms_pick_eq, kms_12 prs hprl]
  have hax : ∀ p ∈ ((lexLed w P ln tl [] 0 vs.reverse le ++ (hdrLed w H prs nh ++ [(rd, listOf rv.toArray n4), (wl, listOf wv.toArray n1), (sl, listOf sv.toArray n2), (L + 1 + 1 + 1 + 1 + 1 + 1 + 1, p7), (L + 1 + 1 + 1 + 1 + 1, p5), (L + 1 + 1 + 1 + 1, p4), (226, tabObj tps)])) ++ hdrLed w B2 [] 0) ++ (TL ++ []), @LT.lt Nat _ p.1 ax := fun p hp => by
    have h1 := hsz4 p (List.mem_cons_of_mem _ hp)
    have e2 : ax = h'.objs.size + 1 := ea
    exact Nat.lt_of_lt_of_le h1 (e2 ▸ Nat.le_succ _)
  subst eo2
  clear ea eo hsz4
  have N5 : News base L _ ((ax, listOf (prs.take 12).toArray 0) :: (((lexLed w P ln tl [] 0 vs.reverse le ++ (hdrLed w H prs nh ++ [(rd, listOf rv.toArray n4), (wl, listOf wv.toArray n1), (sl, listOf sv.toArray n2), (L + 1 + 1 + 1 + 1 + 1 + 1 + 1, p7), (L + 1 + 1 + 1 + 1 + 1, p5), (L + 1 + 1 + 1 + 1, p4), (226, tabObj tps)])) ++ hdrLed w B2 [] 0) ++ (TL ++ []))) := news_sub N5 (by intro p hp; rcases List.mem_cons.mp hp with h | h; exact List.mem_cons.mpr (.inl h); exact List.mem_cons_of_mem _ (List.mem_cons_of_mem _ h))
  refine iter_listTurns (vs := prs.take 12) (n := 0) rfl F5 N5 (.head _) rfl rfl fun I l2 => ?_
  have hI : ∀ p ∈ ((lexLed w P ln tl [] 0 vs.reverse le ++ (hdrLed w H prs nh ++ [(rd, listOf rv.toArray n4), (wl, listOf wv.toArray n1), (sl, listOf sv.toArray n2), (L + 1 + 1 + 1 + 1 + 1 + 1 + 1, p7), (L + 1 + 1 + 1 + 1 + 1, p5), (L + 1 + 1 + 1 + 1, p4), (226, tabObj tps)])) ++ hdrLed w B2 [] 0) ++ (TL ++ []), @LT.lt Nat _ p.1 I := fun p hp => l2 p (List.mem_cons_of_mem _ hp)
  have hIax : @LT.lt Nat _ ax I := l2 _ (.head _)
  clear N4
  refine items_inv (fun i m' nw => ∃ (brs : List Value) (nb : Nat) (TB : List (Addr × Obj)), Prs TB brs (((rs.zip labs).take i).map fun p => (p.2, [p.1.c])) ∧ (∀ p ∈ TB, @LT.lt Nat _ P.pb2 p.1 ∧ @LT.lt Nat _ rd p.1 ∧ @LT.lt Nat _ B2.hl p.1 ∧ p.1 ≠ I) ∧ (∀ q z z2 t1 t2, (q, pairO z z2 t1 t2) ∈ TB → z.all reOk = true ∧ z.length < 1000) ∧
    m' (Str.ofString "text") = some (.str (tx (rs.map R2.enc).flatten) tt) ∧ m' (Str.ofString "usual") = some (.int (us : Int) tu) ∧ m' (Str.ofString "odd") = some (.int (od : Int) to) ∧ m' (Str.ofString "which") = some (.int (wi : Int) tw) ∧ m' (Str.ofString "words") = some (.ref wl) ∧ m' (Str.ofString "spelled") = some (.ref sl) ∧ m' (Str.ofString "book") = some (.ref B2.x) ∧
    nw = (ax, listOf (prs.take 12).toArray 0) :: (((lexLed w P ln tl [] 0 vs.reverse le ++ (hdrLed w H prs nh ++ [(rd, listOf rv.toArray n4), (wl, listOf wv.toArray n1), (sl, listOf sv.toArray n2), (L + 1 + 1 + 1 + 1 + 1 + 1 + 1, p7), (L + 1 + 1 + 1 + 1 + 1, p5), (L + 1 + 1 + 1 + 1, p4), (226, tabObj tps)])) ++ hdrLed w B2 brs nb) ++ (TL ++ TB))) ?init ?turn ?fin
  case init =>
    exact ⟨[], 0, [], ⟨rfl, fun i v h => by simp at h⟩, fun _ h => (nomatch h), fun _ _ _ _ _ h => (nomatch h), by ktr_unf, by ktr_unf, by ktr_unf, by ktr_unf, by ktr_unf, by ktr_unf, by ktr_unf, rfl⟩
  case turn =>
    rintro i v m' nw h tk hv ⟨brs, nb, TB, b1, b2, b3, e1, e2, e3, e4, e5, e6, e7, rfl⟩ F9
    have hi : i < 12 := by
      have := (List.getElem?_eq_some_iff.mp hv).1
      rw [List.length_take, hprl] at this
      omega
    obtain ⟨q2, y, z, t1, t2, rfl, hp1, hq⟩ := hP.2 i v (by rw [List.getElem?_take_of_lt hi] at hv; exact hv)
    obtain ⟨r, hr⟩ : ∃ r, rs[i]? = some r := ⟨rs[i], List.getElem?_eq_getElem (by omega)⟩
    obtain ⟨lb, hlb⟩ : ∃ lb, labs[i]? = some lb := ⟨labs[i], List.getElem?_eq_getElem (by omega)⟩
    have hz : (rs.zip labs)[i]? = some (r, lb) := List.getElem?_zip_eq_some.mpr ⟨hr, hlb⟩
    rw [List.getElem?_append_left (by rw [List.length_map, List.length_zip, h12, hlbl]; exact hi), List.getElem?_map, hz] at hp1
    obtain ⟨rfl, rfl⟩ := Prod.mk.inj (Option.some.inj hp1)
    have hq' : (q2, pairO [r.c] lb t1 t2) ∈ TL ++ TB := List.mem_append_left _ hq
    have hrO := (hR i r hr).ok
    have hlbo := row1_ok_qd lb (hlab.mem_iff.mp (List.mem_of_getElem? hlb))
    simp only [lexLed, hdrLed, List.cons_append, List.nil_append]
    ktu_objs
    k_steps
    unfold Stop
    rename Fr _ _ _ _ => F8
    rename News _ _ _ _ => N8
    obtain ⟨J, it, eJ, eit⟩ := names1 N8
    rw [← eit] at N8
    k_dflt (refine' hdr_setd (P := B2) (rs := brs) (n := nb) (TL := TB) ?wB ?wF ?wX ?wT ?wd ?wu OB ?wN b1 b3 ?wr hlbo.1 ?wl (ltr_ok hrO.c) ?wz ?wo (fun p hp => (b2 p hp).2.2.1) ?_; (case wB => k_asm); (case wF => exact F8); (case wX => k_asm); (case wT => k_asm); (case wd => decide); (case wu => decide); (case wN => exact news_sub N8 (by intro p hp; simp only [hdrLed, List.cons_append, List.nil_append, List.mem_cons, List.mem_append] at hp ⊢; rcases hp with h | h | h | h <;> simp [h])); (case wr => rw [b1.1, List.length_map, List.length_take]; omega); (case wl => rw [hlbo.2.1]; decide); (case wz => show 1 < 1000; decide); (case wo => exact labs_no hnd hlow hlb))
    intro q3 n3 h3 tk3 kp fq hlq hdq F7 N7
    have fqI : I ≠ q3 := fq I it (N8 _ (.head _)).1
    have N8' : News base L _ ((((I, it) :: (ax, listOf (prs.take 12).toArray 0) :: (lexLed w P ln tl [] 0 vs.reverse le ++ (hdrLed w H prs nh ++ [(rd, listOf rv.toArray n4), (wl, listOf wv.toArray n1), (sl, listOf sv.toArray n2), (L + 1 + 1 + 1 + 1 + 1 + 1 + 1, p7), (L + 1 + 1 + 1 + 1 + 1, p5), (L + 1 + 1 + 1 + 1, p4), (226, tabObj tps)]))) ++ hdrLed w B2 brs nb) ++ (TL ++ TB)) := N8
    have Nf := news_setd N8' N7 kp (by
      intro p hp
      rcases List.mem_cons.mp hp with rfl | hp
      · simp only [HdrP.addrs, List.mem_cons, List.not_mem_nil, or_false, not_or]
        exact ⟨Nat.ne_of_gt (hI (B2.x, _) (List.mem_append_left _ (List.mem_append_right _ (.head _)))), Nat.ne_of_gt (hI (B2.d, _) (List.mem_append_left _ (List.mem_append_right _ (.tail _ (.head _))))), Nat.ne_of_gt (hI (B2.hl, _) (List.mem_append_left _ (List.mem_append_right _ (.tail _ (.tail _ (.head _))))))⟩
      · rcases List.mem_cons.mp hp with rfl | hp
        · simp only [HdrP.addrs, List.mem_cons, List.not_mem_nil, or_false, not_or]
          exact ⟨Nat.ne_of_gt (hax (B2.x, _) (List.mem_append_left _ (List.mem_append_right _ (.head _)))), Nat.ne_of_gt (hax (B2.d, _) (List.mem_append_left _ (List.mem_append_right _ (.tail _ (.head _))))), Nat.ne_of_gt (hax (B2.hl, _) (List.mem_append_left _ (List.mem_append_right _ (.tail _ (.tail _ (.head _))))))⟩
        · exact hAT p (List.mem_append_left _ hp)) (fun p hp => hAT p (List.mem_append_right _ hp))
    clear N8 N8' F8 kp fq
    rw [eit] at Nf
    dsimp only
    k_steps
    unfold Stop
    rename Fr _ _ _ _ => F9
    have hpq : @LT.lt Nat _ P.pb2 q3 := Nat.lt_trans (by rw [eB]; exact lpb) hdq
    have hrq : @LT.lt Nat _ rd q3 := Nat.lt_trans (by rw [eB]; exact lrd) hdq
    refine ⟨_, _, _, (ax, listOf (prs.take 12).toArray 0) :: (((lexLed w P ln tl [] 0 vs.reverse le ++ (hdrLed w H prs nh ++ [(rd, listOf rv.toArray n4), (wl, listOf wv.toArray n1), (sl, listOf sv.toArray n2), (L + 1 + 1 + 1 + 1 + 1 + 1 + 1, p7), (L + 1 + 1 + 1 + 1 + 1, p5), (L + 1 + 1 + 1 + 1, p4), (226, tabObj tps)])) ++ hdrLed w B2 (brs ++ [Value.ref q3]) n3) ++ (TL ++ (TB ++ [(q3, pairO lb [r.c] t2 t1)]))), rfl, F9, Nf, ?_, ⟨.head _, trivial⟩, brs ++ [Value.ref q3], n3, TB ++ [(q3, pairO lb [r.c] t2 t1)], ?_, ?_, ?_, by ktr_unf, by ktr_unf, by ktr_unf, by ktr_unf, by ktr_unf, by ktr_unf, by ktr_unf, rfl⟩
    · intro p hp p' hp'
      rw [List.mem_singleton.mp hp']
      rcases List.mem_cons.mp hp with rfl | hp
      · exact Nat.ne_of_lt hIax
      · rcases List.mem_append.mp hp with hp | hp
        · exact off_map (A := (lexLed w P ln tl [] 0 vs.reverse le ++ (hdrLed w H prs nh ++ [(rd, listOf rv.toArray n4), (wl, listOf wv.toArray n1), (sl, listOf sv.toArray n2), (L + 1 + 1 + 1 + 1 + 1 + 1 + 1, p7), (L + 1 + 1 + 1 + 1 + 1, p5), (L + 1 + 1 + 1 + 1, p4), (226, tabObj tps)])) ++ hdrLed w B2 [] 0) (B := (lexLed w P ln tl [] 0 vs.reverse le ++ (hdrLed w H prs nh ++ [(rd, listOf rv.toArray n4), (wl, listOf wv.toArray n1), (sl, listOf sv.toArray n2), (L + 1 + 1 + 1 + 1 + 1 + 1 + 1, p7), (L + 1 + 1 + 1 + 1 + 1, p5), (L + 1 + 1 + 1 + 1, p4), (226, tabObj tps)])) ++ hdrLed w B2 (brs ++ [Value.ref q3]) n3) (fun p hp => hI p (List.mem_append_left _ hp)) rfl p hp
        · rcases List.mem_append.mp hp with hp | hp
          · exact Nat.ne_of_lt (hI p (List.mem_append_right _ (List.mem_append_left _ hp)))
          · rcases List.mem_append.mp hp with hp | hp
            · exact (b2 p hp).2.2.2
            · rw [List.mem_singleton.mp hp]; exact Ne.symm fqI
    · rw [List.take_add_one, hz, List.map_append]
      exact b1.snoc
    · intro p hp
      rcases List.mem_append.mp hp with hp | hp
      · exact b2 p hp
      · rw [List.mem_singleton.mp hp]; exact ⟨hpq, hrq, hlq, Ne.symm fqI⟩
    · intro q' z' z2 u1 u2 hq
      rcases List.mem_append.mp hq with hq | hq
      · exact b3 q' z' z2 u1 u2 hq
      · obtain ⟨rfl, _⟩ := pairO_inj (Prod.mk.inj (List.mem_singleton.mp hq)).2
        exact ⟨hlbo.1, by rw [hlbo.2.1]; decide⟩
  case fin =>
    rintro m' nw h tk ⟨brs, nb, TB, b1, b2, b3, e1, e2, e3, e4, e5, e6, e7, rfl⟩ F9 N9
    rw [List.length_take, hprl, show min 12 24 = 12 from rfl, List.take_of_length_le (by rw [List.length_zip, h12, hlbl]; decide)] at b1
    have N9 := news_tail N9
    k_steps
    unfold Stop
    refine (stE (B2 := B2) (s := ⟨_, s.gens, s.drawn, _, s.os⟩) B F9 X T h237 hsl hIs hc63 N9 O lo ⟨lh1, lh2, lh3, lh4⟩ OB ⟨gb1, gb2, gb3⟩ nr1 ⟨r1, r2, r4, r6, r7, r10, trivial⟩ (fun p hp => (List.mem_append.mp hp).elim (fun h => ⟨(hTL p h).1, (hTL p h).2.1⟩) (fun h => ⟨(b2 p h).1, (b2 p h).2.1⟩)) d7 d5 d4 h12 hR hsv hwv hrv hT hlab hP (fun q z z2 t1 t2 h => (hps q z z2 t1 t2 h).1) b1 b3 hu1 hu2 ho1 hwi a1 a2 a3 a4 e1 e2 e3 e4 e5 e6 e7 ?_).use (by k_is)
    intro h' tk ps m' F' N'
    exact hQ h' tk ps m' F' N'
end
end
theorem cx25 {p : Program} {w : World} {A : Around} {Q : Value → Shared → Prop} {E : Value → Shared → Prop} {s : Shared} (h : wpAny (model p w) A (pyIter Value.none) Q E s) : wpAny (model p w) A (pyIter Value.none) Q E s := by first | (walk1; fail "x") | exact h
section
local macro_rules | `(tactic| k_enter) => `(tactic| ((with_reducible show codeAny _ _ (Code.call (Value.ref 63) _) _ _); refine Stop.out ?_))
local macro_rules | `(tactic| walk_at "CompSrc") => `(tactic| (k_here; refine Stop.out ?_))
local macro_rules | `(tactic| walk_at "newTuple") => `(tactic| (k_here; k_dflt (refine' kup_newTuple (by k_asm) (by k_asm) ?_ (by kmk_size)); intro D' h' F' N' l1; (try k_lt l1)))
local macro_rules | `(tactic| walk_at "call builtin:list.pop") => `(tactic| (k_here; (with_reducible show wpAny _ _ (call (Value.builtin _) [Value.ref _, Value.int (Int.fmod _ _) _]) _ _ _); refine Stop.out ?_))
local macro_rules | `(tactic| walk_at "subscriptTail Name Name ref int") => `(tactic| (k_here; k_dflt (refine' itemEq_K (by kmk_list) (by assumption) (by assumption) (by l_idx) (by l_idx) (by ktr_rel) ?_ (by with_unfolding_all rfl) (by intro _; with_unfolding_all rfl)); intro t'))
local macro_rules | `(tactic| walk_at "call builtin:str.swapcase") => `(tactic| (k_here; k_dflt (refine' swap_K (by assumption) ?_); intro t' k'))
local macro_rules | `(tactic| walk_at "execs cons") => `(tactic| ((with_reducible show wpAny _ _ (execs (Stmt.Assign [Expr.Name (Str.ofString "book") _] _ _ :: _) _) _ _ _); refine Stop.out ?_))
theorem txs_cons {v : Value} {vs : List Value} {u : List Nat} {us : List (List Nat)} (h : Txs (v :: vs) (u :: us)) : (∃ t, v = .str (tx u) t) ∧ Txs vs us := by
  cases h with
  | cons x t h => exact ⟨⟨_, rfl⟩, h⟩
theorem row1_len : (row1 3).length = 12 := by decide
theorem Txs.split {vs p q : List Value} {y : Value} {ys : List (List Nat)} : vs = p ++ y :: q → Txs vs ys → ∃ yp u yq t, ys = yp ++ u :: yq ∧ Txs p yp ∧ Txs q yq ∧ y = .str (tx u) t := by
  intro e h
  subst e
  induction p generalizing ys with
  | nil =>
    cases ys with
    | nil => exact absurd h.length (by simp)
    | cons u yq =>
      obtain ⟨h1, h2⟩ := txs_cons h
      obtain ⟨t, e⟩ := h1
      exact ⟨[], u, yq, t, rfl, Txs.nil, h2, e⟩
  | cons a p ih =>
    cases ys with
    | nil => exact absurd h.length (by simp)
    | cons u yq =>
      obtain ⟨⟨t, e⟩, h2⟩ := txs_cons h
      obtain ⟨yp, u', yq', t', e1, e2, e3, e4⟩ := ih h2
      subst e
      exact ⟨u :: yp, u', yq', t', by rw [e1]; rfl, Txs.cons e2, e3, e4⟩
theorem row1_ok_qc : ∀ y ∈ row1 3, y.all reOk = true ∧ y.length = 3 ∧ y.all (fun d => d == 108 || d == 109 || d == 114) = true := by decide
theorem sub_tail3 {α : Type} {a b c q : α} {X TL : List α} : ∀ p ∈ a :: b :: c :: (X ++ (TL ++ [q])), p ∈ q :: a :: b :: c :: (X ++ TL) := by
  intro p hp
  simp only [List.mem_cons, List.mem_append, List.not_mem_nil, or_false] at hp ⊢
  rcases hp with h | h | h | h | h | h <;> simp [h]
theorem off3_snoc {I C D : Addr} {X X' TL : List (Addr × Obj)} {q : Addr × Obj} (h : LCg.Off3 I C D (X ++ TL)) (e : X'.map (·.1) = X.map (·.1)) (k : q.1 ≠ I ∧ q.1 ≠ C ∧ q.1 ≠ D) : LCg.Off3 I C D (X' ++ (TL ++ [q])) := by
  refine LCg.Off3.of fun p hp => ?_
  rcases List.mem_append.mp hp with hp | hp
  · have h1 : p.1 ∈ X.map (·.1) := e ▸ List.mem_map.mpr ⟨p, hp, rfl⟩
    obtain ⟨o, ho, e2⟩ := List.mem_map.mp h1
    have := LCg.Off3.mem h o (List.mem_append_left _ ho)
    rw [e2] at this
    exact this
  · rcases List.mem_append.mp hp with hp | hp
    · exact LCg.Off3.mem h p (List.mem_append_right _ hp)
    · rw [List.mem_singleton.mp hp]; exact k
theorem off1_addrs_qc {D : Addr} {P : LexP} {l : List (Addr × Obj)} (h : LCg.Off1 D l) (k : ∀ a ∈ P.addrs, ∃ o, (a, o) ∈ l) : AllNe D P.addrs := by
  have f : ∀ a ∈ P.addrs, a ≠ D := fun a ha => by
    obtain ⟨o, ho⟩ := k a ha
    exact off_new h (a, o) ho
  exact ⟨f _ (by simp), f _ (by simp), f _ (by simp), f _ (by simp), f _ (by simp), f _ (by simp), f _ (by simp), f _ (by simp), f _ (by simp), trivial⟩
theorem lex_has2 {w : World} {P : LexP} {ln : Int} {tl : Tok} {pv sg : List Value} {pe le : Nat} {a b : Addr × Obj} {r s : List (Addr × Obj)} : ∀ x ∈ P.addrs, ∃ o, (x, o) ∈ (a :: b :: (lexLed w P ln tl pv pe sg le ++ r)) ++ s := by
  intro x hx
  obtain ⟨o, ho⟩ := lex_has (w := w) (P := P) (ln := ln) (tl := tl) (pv := pv) (sg := sg) (pe := pe) (le := le) (r := r) x hx
  exact ⟨o, List.mem_append_left _ (List.mem_cons_of_mem _ (List.mem_cons_of_mem _ ho))⟩
theorem sub_c {α : Type} {pl lq rd a1 a2 a3 a4 a5 a6 a7 a8 a9 wl sl gl c7 c6 c5 c4 c3 tb : α} {TL : List α} : ∀ p ∈ pl :: rd :: a1 :: a2 :: a3 :: a4 :: a5 :: a6 :: a7 :: a8 :: a9 :: wl :: sl :: c7 :: c5 :: c4 :: tb :: TL, p ∈ pl :: lq :: rd :: a1 :: a2 :: a3 :: a4 :: a5 :: a6 :: a7 :: a8 :: a9 :: wl :: sl :: gl :: c7 :: c6 :: c5 :: c4 :: c3 :: tb :: TL := by
  intro p hp
  simp only [List.mem_cons] at hp ⊢
  rcases hp with h | h | h | h | h | h | h | h | h | h | h | h | h | h | h | h | h | h <;> simp [h]
theorem mmm_is : Str.ofString "mmm" = tx [109, 109, 109] := by decide
theorem Prs.app {TL TL2 : List (Addr × Obj)} {a b : List Value} {p q : List (List Nat × List Nat)} (h : Prs TL a p) (k : Prs TL2 b q) : Prs (TL ++ TL2) (a ++ b) (p ++ q) := by
  refine ⟨by rw [List.length_append, List.length_append, h.1, k.1], fun i v hv => ?_⟩
  by_cases hi : i < a.length
  · rw [List.getElem?_append_left hi] at hv
    obtain ⟨q', y', z', u1, u2, e1, e2, e3⟩ := h.2 i v hv
    exact ⟨q', y', z', u1, u2, e1, by rw [List.getElem?_append_left (h.1 ▸ hi)]; exact e2, List.mem_append_left _ e3⟩
  · rw [List.getElem?_append_right (by omega)] at hv
    obtain ⟨q', y', z', u1, u2, e1, e2, e3⟩ := k.2 _ v hv
    refine ⟨q', y', z', u1, u2, e1, ?_, List.mem_append_right _ e3⟩
    rw [List.getElem?_append_right (by rw [← h.1]; omega), ← h.1]
    exact e2
theorem names_init {h₀ h : Heap} {L x d hl : Addr} {o1 o2 o3 : Obj} {r : List (Addr × Obj)} (_ : News h₀ L h ((x, o1) :: (d, o2) :: (hl, o3) :: r)) : ∃ (x' d' hl' : Addr) (o : Obj), x' = x ∧ d' = d ∧ hl' = hl := ⟨x, d, hl, o1, rfl, rfl, rfl⟩
theorem sub_d {α : Type} {x d hl ml pl rd a1 a2 a3 a4 a5 a6 a7 a8 a9 wl sl c7 c5 c4 tb : α} {TL : List α} : ∀ p ∈ x :: d :: hl :: TL, p ∈ x :: d :: hl :: ml :: pl :: rd :: a1 :: a2 :: a3 :: a4 :: a5 :: a6 :: a7 :: a8 :: a9 :: wl :: sl :: c7 :: c5 :: c4 :: tb :: TL := by
  intro p hp
  simp only [List.mem_cons] at hp ⊢
  rcases hp with h | h | h | h <;> simp [h]
theorem sub_e {α : Type} {x d hl ml pl rd a1 a2 a3 a4 a5 a6 a7 a8 a9 wl sl c7 c5 c4 tb : α} {TL : List α} : ∀ p ∈ a1 :: a2 :: a3 :: a4 :: a5 :: a6 :: a7 :: a8 :: a9 :: [rd, wl, sl, c7, c5, c4, tb], p ∈ x :: d :: hl :: ml :: pl :: rd :: a1 :: a2 :: a3 :: a4 :: a5 :: a6 :: a7 :: a8 :: a9 :: wl :: sl :: c7 :: c5 :: c4 :: tb :: TL := by
  intro p hp
  simp only [List.mem_cons, List.not_mem_nil, or_false] at hp ⊢
  rcases hp with h | h | h | h | h | h | h | h | h | h | h | h | h | h | h | h <;> simp [h]
theorem news_mix {h₀ h : Heap} {L : Addr} {X Y Z T : List (Addr × Obj)} (N : News h₀ L h (X ++ Y)) (N' : News h₀ L h (Z ++ T)) : News h₀ L h ((X ++ (Z ++ Y)) ++ T) := by
  intro p hp
  rcases List.mem_append.mp hp with hp | hp
  · rcases List.mem_append.mp hp with hp | hp
    · exact N p (List.mem_append_left _ hp)
    · rcases List.mem_append.mp hp with hp | hp
      · exact N' p (List.mem_append_left _ hp)
      · exact N p (List.mem_append_right _ hp)
  · exact N' p (List.mem_append_right _ hp)
theorem nameC_qc {o : Obj} {a : Addr} (_ : o.data = .cell (some (.ref a))) : ∃ o', o' = o := ⟨_, rfl⟩
section
variable {w : World} {L : Addr} {base : Heap} {m : Str → Option Value} {s : Shared} {p : Program} {loose : List Str} {mean : ExcName → Option Value} {mg mb : Str → Option Value} {fa : Addr} {cd : Value} {Q : Flow → Shared → Prop} {scv : List Value} {scn : List Int} {sc : Addr}
set_option maxHeartbeats 0 in
theorem stC {rs : List R2} {sv wv gv rv : List Value} {gs : List Int} {us od wi : Nat} {tt tu to tw : Tok} {n1 n2 n3 n4 le : Nat} {wl sl gl rd : Nat} {o7 o6 p5 p4 p3 : Obj} {x7 x6 : Option Value} {P : LexP} {ln : Int} {tl : Tok} {vs : List Value} {cs : List Nat} {tps : Array Value} (B : Below callerA base [] base) (F : Fr base L s.heap m) (X : (hd2.heap_1 w.params).In base) (T : Top p loose mean mg mb base) (h237 : @LT.lt Nat _ 226 L) (hsl : base.IsList sc scv.toArray) (hIs : IntsAre scv scn) (hc63 : scv.length ≤ 63)
    (N : News base L s.heap ((rd, listOf rv.toArray n4) :: (lexLed w P ln tl [] 0 vs.reverse le ++ [(wl, listOf wv.toArray n1), (sl, listOf sv.toArray n2), (gl, listOf gv.toArray n3), (L + 1 + 1 + 1 + 1 + 1 + 1 + 1, o7), (L + 1 + 1 + 1 + 1 + 1 + 1, o6), (L + 1 + 1 + 1 + 1 + 1, p5), (L + 1 + 1 + 1 + 1, p4), (L + 1 + 1 + 1, p3), (226, tabObj tps)])))
    (O : P.Ok) (lo : @LT.lt Nat _ (L + 1 + 1 + 1 + 1 + 1 + 1 + 1) sl ∧ @LT.lt Nat _ gl sl ∧ @LT.lt Nat _ sl wl ∧ @LT.lt Nat _ wl P.cs)
    (ng : @Ne Nat gl (L + 1 + 1 + 1 + 1 + 1 + 1 + 1) ∧ @Ne Nat gl (L + 1 + 1 + 1 + 1 + 1 + 1) ∧ @Ne Nat gl (L + 1 + 1 + 1 + 1 + 1) ∧ @Ne Nat gl (L + 1 + 1 + 1 + 1) ∧ @Ne Nat gl (L + 1 + 1 + 1) ∧ @Ne Nat gl 226)
    (nr1 : AllNe rd P.addrs) (nr2 : AllNe rd [wl, sl, gl, L + 1 + 1 + 1 + 1 + 1 + 1 + 1, L + 1 + 1 + 1 + 1 + 1 + 1, L + 1 + 1 + 1 + 1 + 1, L + 1 + 1 + 1 + 1, L + 1 + 1 + 1, 226])
    (d7 : o7.data = .cell x7) (d6 : o6.data = .cell x6) (d5 : p5.data = .cell (some (.ref rd))) (d4 : p4.data = .cell (some (.ref P.x2))) (d3 : p3.data = .cell (some (.ref gl)))
    (h12 : rs.length = 12) (hR : ∀ (k : Nat) (r : R2), rs[k]? = some r → r.At us od wi k) (hsv : Txs sv (rs.map fun r => [r.c])) (hwv : Txs wv (rs.map R2.word)) (hrv : Txs rv (rs.map R2.word)) (hT : (rs.map R2.enc).flatten.length ≤ 192) (hgv : gv.length = 12) (hgs : IntsAre gv gs)
    (hu1 : 1 ≤ us) (hu2 : us ≤ 3) (ho1 : od ≤ 4) (hwi : wi < 12) (a1 : Lx cs []) (a2 : Chs vs cs) (a3 : ln + nls cs = 1 + nls ((rs.map R2.enc).flatten ++ [46])) (a4 : vs.length ≤ 200)
    (mt : m (Str.ofString "text") = some (.str (tx (rs.map R2.enc).flatten) tt)) (mu : m (Str.ofString "usual") = some (.int (us : Int) tu)) (mo : m (Str.ofString "odd") = some (.int (od : Int) to)) (mw : m (Str.ofString "which") = some (.int (wi : Int) tw)) (mwl : m (Str.ofString "words") = some (.ref wl)) (msl : m (Str.ofString "spelled") = some (.ref sl))
    (hQ : ∀ (h' : Heap) (tk : Nat) (ps : Array Value) m', Fr base L h' m' → News base L h' [(226, tabObj ps)] → Q (.ret (.bool true)) { s with heap := h', toks := tk }) : RestW w fa L cd 13 Q s := by
  refine ⟨_, _, _, _, _, _, _, _, _, _, _, _, _, _, _, by k_is, ?_⟩
  dsimp only [List.drop]
  obtain ⟨ng7, ng6, ng5, ng4, ng3, ngt⟩ := ng
  obtain ⟨r1, r2, r3, r4, r5, r6, r7, r8, r10, _⟩ := nr2
  obtain ⟨gw, gs1, gg, g7, g6, g5, g4, g3, gt⟩ := qAds O lo h237
  simp only [lexLed, List.cons_append, List.nil_append] at N
  k_steps
  unfold Stop
  have F1 := F
  k_dflt (refine' labels_spec ?cB ?cF ?cX ?cT ?cd ?cu ?_; (case cB => k_asm); (case cF => exact F1); (case cX => k_asm); (case cT => k_asm); (case cd => decide); (case cu => decide))
  intro lq lv nl h' tk' kp fq F2 N2 hlv
  have nq := led_new N fq
  k_dflt (refine' repl_go0 kp N ?_)
  intro N3
  have N4 := news_join N2 N3
  clear N3 N2 kp fq F N F1
  simp only [List.cons_append, List.nil_append] at N4
  dsimp only
  k_steps
  unfold Stop
  obtain ⟨p6, ep6⟩ := nameC_qc (a := lq) (by assumption)
  subst ep6
  rename Fr _ _ _ _ => F1
  have hrl : rv.length = 12 := by rw [hrv.length, List.length_map, h12]
  have hml : (rs.map R2.word).length = 12 := by rw [List.length_map, h12]
  k_dflt (refine' LCg.Assign_ListComp_U ?c0 ?cL ?cW ?c1 ?c2 ?c3 ?c4 ?c5 ?cY ?cP ?c8 ?c7; (case c0 => exact F1); (case cL => rfl); (case cW => with_unfolding_all rfl); (case c1 => rfl); (case c2 => decide); (case c3 => rfl); (case c4 => decide); (case c5 => rfl); (case cY => rfl); (case cP => rfl); (case c7 => intro _; rfl))
  k_steps
  unfold Stop
  rename Fr _ _ _ _ => F2
  rename News _ _ _ _ => N2
  rename IsRange _ _ 0 12 1 _ _ _ => r9
  refine LCg.CompSrc.range (n := 12) rfl F2 N2 r9 (by decide) (by decide) (by decide) fun g2 => ?_
  refine rest_inv (fun i ys nw => ∃ (labs left : List (List Nat)) (lv : List Value) (nl : Nat) (TL : List (Addr × Obj)), labs.length = i ∧ (labs ++ left).Perm (row1 3) ∧ Txs lv left ∧ Prs TL ys (((rs.take i).zip labs).map fun p => ([p.1.c], p.2)) ∧ (∀ p ∈ TL, @LT.lt Nat _ P.pb2 p.1 ∧ @LT.lt Nat _ rd p.1 ∧ @LT.lt Nat _ lq p.1) ∧ (∀ q z z2 t1 t2, (q, pairO z z2 t1 t2) ∈ TL → (z.all reOk = true ∧ z.length < 1000) ∧ (z2.all reOk = true ∧ z2.length < 1000)) ∧
    nw = ((lq, listOf lv.toArray nl) :: (rd, listOf rv.toArray n4) :: (lexLed w P ln tl [] 0 vs.reverse le ++ [(wl, listOf wv.toArray n1), (sl, listOf sv.toArray n2), (gl, listOf gv.toArray n3), (L + 1 + 1 + 1 + 1 + 1 + 1 + 1, o7), (L + 1 + 1 + 1 + 1 + 1 + 1, p6), (L + 1 + 1 + 1 + 1 + 1, p5), (L + 1 + 1 + 1 + 1, p4), (L + 1 + 1 + 1, p3), (226, tabObj tps)])) ++ TL)
    ⟨[], _, lv, nl, [], rfl, .refl _, hlv, ⟨rfl, fun i v h => by simp at h⟩, fun _ h => (nomatch h), fun _ _ _ _ _ h => (nomatch h), by simp only [lexLed, List.cons_append, List.nil_append, List.append_nil]⟩ ?turn ?fin
  case turn =>
    rintro i ys nw v I oI C oC D2 m₂ h tk E' hi ⟨labs, left, lv, nl, TL, q1, q2, q3, q4, q6, q7, rfl⟩ ⟨t, rfl⟩ hns hm F9 N9 off hne
    have hll : labs.length + left.length = 12 := by rw [← List.length_append, q2.length_eq, row1_len]
    have hlvl : lv.length = left.length := q3.length
    have off' := off
    simp only [lexLed, List.cons_append, List.nil_append] at N9 off
    obtain ⟨r, hr⟩ : ∃ r, rs[i]? = some r := ⟨rs[i], List.getElem?_eq_getElem _⟩
    have hrO := (hR i r hr).ok
    have hrd : (rs.map R2.word).getD (0 + (i : Int)).toNat [] = r.c :: List.replicate r.n 32 := by
      rw [Int.zero_add, Int.toNat_natCast, List.getD_eq_getElem?_getD, List.getElem?_map, hr]; rfl
    have hrep : (List.replicate r.n 32).length ≤ 4 := by rw [List.length_replicate]; exact hrO.n
    have hTq : ∀ p ∈ TL, @LT.lt Nat _ lq p.1 := fun p hp => (q6 p hp).2.2
    have f1 := off.1.1
    have f2 := off.1.2.1
    have f3 := off.1.2.2
    k_steps
    unfold Stop
    rename Fr _ _ _ _ => F8
    rename News _ _ _ _ => N8
    refine popF_K (vs := lv) (n := nl) F8 N8 (by first | rfl | omega) (by omega) (by rw [PySem.sizeLine_eq]; omega) fun vp y vq ev => ⟨_, by k_upd, fun h' F' N' => ?_⟩
    obtain ⟨lp, yl, lq', t9, e9, hp9, hq9, rfl⟩ := Txs.split ev q3
    have hyl : yl ∈ row1 3 := q2.mem_iff.mp (by rw [e9]; simp)
    have hyo := row1_ok_qc yl hyl
    clear F8 N8
    k_steps
    rename Fr _ _ _ _ => F8
    rename News _ _ _ _ => N8
    rename _ ∧ _ => l3
    refine ⟨_, _, _, rfl, F8, (fun p hp => N8 p (sub_tail3 p hp) : News base L _ (_ :: _ :: _ :: (((lq, listOf (vp ++ vq).toArray _) :: (rd, listOf rv.toArray n4) :: (lexLed w P ln tl [] 0 vs.reverse le ++ [(wl, listOf wv.toArray n1), (sl, listOf sv.toArray n2), (gl, listOf gv.toArray n3), (L + 1 + 1 + 1 + 1 + 1 + 1 + 1, o7), (L + 1 + 1 + 1 + 1 + 1 + 1, p6), (L + 1 + 1 + 1 + 1 + 1, p5), (L + 1 + 1 + 1 + 1, p4), (L + 1 + 1 + 1, p3), (226, tabObj tps)])) ++ (TL ++ [(_, pairO [r.c] yl _ _)])))), ?_, trivial, labs ++ [yl], lp ++ lq', vp ++ vq, _, TL ++ [(_, pairO [r.c] yl _ _)], ?_, ?_, ?_, ?_, ?_, ?_, rfl⟩
    · obtain ⟨k1, k2, k3, _⟩ := l3
      exact off3_snoc off' rfl ⟨Nat.ne_of_gt k1, Nat.ne_of_gt k2, Nat.ne_of_gt k3⟩
    · rw [List.length_append, q1]; rfl
    · rw [List.append_assoc]
      refine (List.Perm.append_left labs (List.perm_middle (a := yl) (l₁ := lp) (l₂ := lq')).symm).trans ?_
      rw [← e9]
      exact q2
    · exact hp9.append hq9
    · rw [List.take_add_one, hr, show (some r).toList = [r] from rfl, List.zip_append (by rw [List.length_take, q1]; omega), List.map_append]
      exact q4.snoc
    · obtain ⟨k1, k2, k3, k4, k5, k6, k7, k8, _⟩ := l3
      intro p hp
      rcases List.mem_append.mp hp with hp | hp
      · exact q6 p hp
      · rw [List.mem_singleton.mp hp]
        exact ⟨k8, k5, k4⟩
    · intro q' z z2 u1 u2 hq
      rcases List.mem_append.mp hq with hq | hq
      · exact q7 q' z z2 u1 u2 hq
      · obtain ⟨rfl, rfl⟩ := pairO_inj (Prod.mk.inj (List.mem_singleton.mp hq)).2
        exact ⟨⟨ltr_ok hrO.c, by show 1 < 1000; decide⟩, hyo.1, by rw [hyo.2.1]; decide⟩
  case fin =>
    rintro pv nw ⟨labs, left, lv, nl, TL, q1, q2, q3, q4, q6, q7, rfl⟩ pl h tk F9 N9 off9
    have npl := off_new off9
    have n1' := off1_addrs_qc off9 lex_has2
    clear off9
    (try clear r9)
    (try clear F2 N2)
    (try clear F N)
    have hlabl : left = [] := by
      have := q2.length_eq
      rw [List.length_append, q1, row1_len] at this
      exact List.eq_nil_of_length_eq_zero (by omega)
    subst hlabl
    rw [List.append_nil] at q2
    rw [List.take_of_length_le (by omega)] at q4
    have N9 : News base L h ((pl, listOf pv.toArray pv.length) :: _) := N9
    simp only [lexLed, List.cons_append, List.nil_append] at N9
    have hpvl : pv.length = 12 := by rw [q4.1, List.length_map, List.length_zip, h12, q1]; rfl
    k_steps
    unfold Stop
    rename Fr _ _ _ _ => F1
    rename News _ _ _ _ => N1
    have N1 : News base L _ (((pl, listOf pv.toArray pv.length) :: (rd, listOf rv.toArray n4) :: (lexLed w P ln tl [] 0 vs.reverse le ++ [(wl, listOf wv.toArray n1), (sl, listOf sv.toArray n2), (L + 1 + 1 + 1 + 1 + 1 + 1 + 1, o7), (L + 1 + 1 + 1 + 1 + 1, p5), (L + 1 + 1 + 1 + 1, p4), (226, tabObj tps)])) ++ TL) := news_sub N1 (by simp only [lexLed, List.cons_append, List.nil_append]; exact sub_c)
    k_dflt (refine' LCg.ListComp_U ?z0 ?z1 ?z2 ?z3 ?z4 ?z5 ?z8 ?z7; (case z0 => exact F1); (case z1 => rfl); (case z2 => decide); (case z3 => rfl); (case z4 => decide); (case z5 => rfl); (case z7 => intro _; rfl))
    k_steps
    unfold Stop
    rename Fr _ _ _ _ => F2
    rename News _ _ _ _ => N2
    refine LCg.CompSrc.ledger (its := rv.toArray) (k := n4) rfl F2 N2 (by simp) (by rw [List.size_toArray, PySem.sizeLine_eq]; omega) fun g2 => ?_
    refine rest_inv (fun i ys nw => ∃ TL2 : List (Addr × Obj), Prs TL2 ys ((rs.take i).map fun r => ([swp r.c], [109, 109, 109])) ∧ (∀ p ∈ TL2, @LT.lt Nat _ P.pb2 p.1 ∧ @LT.lt Nat _ rd p.1) ∧ (∀ q z z2 t1 t2, (q, pairO z z2 t1 t2) ∈ TL2 → (z.all reOk = true ∧ z.length < 1000) ∧ (z2.all reOk = true ∧ z2.length < 1000)) ∧
      nw = ((pl, listOf pv.toArray pv.length) :: (rd, listOf rv.toArray n4) :: (lexLed w P ln tl [] 0 vs.reverse le ++ [(wl, listOf wv.toArray n1), (sl, listOf sv.toArray n2), (L + 1 + 1 + 1 + 1 + 1 + 1 + 1, o7), (L + 1 + 1 + 1 + 1 + 1, p5), (L + 1 + 1 + 1 + 1, p4), (226, tabObj tps)])) ++ (TL ++ TL2))
      ⟨[], ⟨rfl, fun i v h => by simp at h⟩, fun _ h => (nomatch h), fun _ _ _ _ _ h => (nomatch h), by rw [List.append_nil]⟩ ?turn2 ?fin2
    case turn2 =>
      rintro i ys nw v I oI C oC D2 m₂ h tk E' hi ⟨TL2, b1, b2, b3, rfl⟩ hv hns hm F9 N9 off hne
      obtain ⟨y, ty, hy1, rfl⟩ := hrv.at (show rv[i]? = some v by simpa using hv)
      rw [List.getElem?_map] at hy1
      obtain ⟨r, hr, hy2⟩ := Option.map_eq_some_iff.mp hy1
      subst hy2
      have hrO := (hR i r hr).ok
      have hrc := hrO.c
      have hrep : (List.replicate r.n 32).length ≤ 4 := by rw [List.length_replicate]; exact hrO.n
      have off' := off
      unfold R2.word at hm
      simp only [lexLed, List.cons_append, List.nil_append] at N9 off
      k_steps
      rename Fr _ _ _ _ => F8
      rename News _ _ _ _ => N8
      rename _ ∧ _ => l3
      rw [mmm_is] at N8
      refine ⟨_, _, _, rfl, F8, (fun p hp => N8 p (sub_tail3 p hp) : News base L _ (_ :: _ :: _ :: (((pl, listOf pv.toArray pv.length) :: (rd, listOf rv.toArray n4) :: (lexLed w P ln tl [] 0 vs.reverse le ++ [(wl, listOf wv.toArray n1), (sl, listOf sv.toArray n2), (L + 1 + 1 + 1 + 1 + 1 + 1 + 1, o7), (L + 1 + 1 + 1 + 1 + 1, p5), (L + 1 + 1 + 1 + 1, p4), (226, tabObj tps)])) ++ ((TL ++ TL2) ++ [(_, pairO [swp r.c] [109, 109, 109] _ _)])))), ?_, .inr ⟨listOf rv.toArray n4, by simp, rfl, _, rfl⟩, TL2 ++ [(_, pairO [swp r.c] [109, 109, 109] _ _)], ?_, ?_, ?_, by rw [List.append_assoc]⟩
      · obtain ⟨k1, k2, k3, _⟩ := l3
        exact off3_snoc off' rfl ⟨Nat.ne_of_gt k1, Nat.ne_of_gt k2, Nat.ne_of_gt k3⟩
      · rw [List.take_add_one, hr, List.map_append]
        exact b1.snoc
      · obtain ⟨k1, k2, k3, k4, k5, k6, k7, k8, _⟩ := l3
        intro p hp
        rcases List.mem_append.mp hp with hp | hp
        · exact b2 p hp
        · rw [List.mem_singleton.mp hp]
          exact ⟨k8, k5⟩
      · intro q' z z2 u1 u2 hq
        rcases List.mem_append.mp hq with hq | hq
        · exact b3 q' z z2 u1 u2 hq
        · obtain ⟨rfl, rfl⟩ := pairO_inj (Prod.mk.inj (List.mem_singleton.mp hq)).2
          exact ⟨⟨swp_ok hrO.c, by show 1 < 1000; decide⟩, by decide, by decide⟩
    case fin2 =>
      rintro mv nw ⟨TL2, b1, b2, b3, rfl⟩ ml h tk F9 N9 off9
      rw [List.size_toArray, List.take_of_length_le (by omega)] at b1
      clear off9
      (try clear F2 N2)
      have hmvl : mv.length = 12 := by rw [b1.1, List.length_map, h12]
      obtain ⟨TA, eTA⟩ : ∃ TA, TA = TL ++ TL2 := ⟨_, rfl⟩
      rw [← eTA] at N9
      have hPa : Prs TA (pv ++ mv) (((rs.zip labs).map fun p => ([p.1.c], p.2)) ++ (rs.map fun r => ([swp r.c], [109, 109, 109]))) := by rw [eTA]; exact q4.app b1
      have hTa : ∀ p ∈ TA, @LT.lt Nat _ P.pb2 p.1 ∧ @LT.lt Nat _ rd p.1 := by
        rw [eTA]
        exact fun p hp => (List.mem_append.mp hp).elim (fun h => ⟨(q6 p h).1, (q6 p h).2.1⟩) (b2 p)
      have hpsa : ∀ q z z2 t1 t2, (q, pairO z z2 t1 t2) ∈ TA → (z.all reOk = true ∧ z.length < 1000) ∧ (z2.all reOk = true ∧ z2.length < 1000) := by
        rw [eTA]
        exact fun q z z2 t1 t2 hq => (List.mem_append.mp hq).elim (q7 q z z2 t1 t2) (b3 q z z2 t1 t2)
      have N9 : News base L h ((ml, listOf mv.toArray mv.length) :: _) := N9
      simp only [lexLed, List.cons_append, List.nil_append] at N9
      k_steps
      unfold Stop
      rename Fr _ _ _ _ => F8
      rename News _ _ _ _ => N8
      have nI := names_init N8
      obtain ⟨x, d, hl, hlo, e1, e2, e3⟩ := nI
      subst e1 e2 e3
      rename d < x => ldx
      rename hl < d ∧ _ => lld
      rename ml < hl ∧ _ => llh
      obtain ⟨lhd, _, _, _, _, _, _, _, _, _, _, _, _, _, _, _, _, _, _, lTd⟩ := lld
      obtain ⟨_, _, u1, u2, u3, u4, u5, u6, u7, u8, u9, u10, u11, u12, u13, u14, u15, u16, lTh⟩ := llh
      have hTd := allLt_mem lTd
      have hTh := allLt_mem lTh
      k_dflt (refine' hdr_init (x := x) (d := d) (hl := hl) (TL := TA) ?cB ?cF ?cX ?cT ?cd ?cu ldx (Ne.symm (Nat.ne_of_lt (Nat.lt_trans lhd ldx))) (Ne.symm (Nat.ne_of_lt lhd)) ?cN hPa hpsa ?cr (fun p hp => Nat.ne_of_lt (Nat.lt_trans (hTd p hp) ldx)) (fun p hp => Nat.ne_of_lt (hTd p hp)) ?_; (case cB => k_asm); (case cF => exact F8); (case cX => k_asm); (case cT => k_asm); (case cd => with_unfolding_all exact Nat.le_of_ble_eq_true rfl); (case cu => with_unfolding_all exact Nat.le_of_ble_eq_true rfl); (case cN => exact news_sub N8 sub_d); (case cr => rw [List.length_append]; omega))
      intro tH h' tk' kp F7 N7
      have hlt9 : ∀ p ∈ (lexLed w P ln tl [] 0 vs.reverse le ++ [(rd, listOf rv.toArray n4), (wl, listOf wv.toArray n1), (sl, listOf sv.toArray n2), (L + 1 + 1 + 1 + 1 + 1 + 1 + 1, o7), (L + 1 + 1 + 1 + 1 + 1, p5), (L + 1 + 1 + 1 + 1, p4), (226, tabObj tps)]), @LT.lt Nat _ p.1 hl := allLt_mem ⟨u2, u3, u4, u5, u6, u7, u8, u9, u10, u1, u11, u12, u13, u14, u15, u16, trivial⟩
      have Nr : News base L _ (lexLed w P ln tl [] 0 vs.reverse le ++ [(rd, listOf rv.toArray n4), (wl, listOf wv.toArray n1), (sl, listOf sv.toArray n2), (L + 1 + 1 + 1 + 1 + 1 + 1 + 1, o7), (L + 1 + 1 + 1 + 1 + 1, p5), (L + 1 + 1 + 1 + 1, p4), (226, tabObj tps)]) := news_sub N8 (by simp only [lexLed, List.cons_append, List.nil_append]; exact sub_e)
      have Nr' := news_kept Nr fun p hp e => kp _ _ e (by
        have h1 := hlt9 p hp
        simp only [List.mem_cons, List.not_mem_nil, or_false, not_or]
        exact ⟨Nat.ne_of_lt (Nat.lt_trans h1 (Nat.lt_trans lhd ldx)), Nat.ne_of_lt (Nat.lt_trans h1 lhd), Nat.ne_of_lt h1⟩)
      have Nf := news_mix Nr' N7
      clear Nr Nr' N7 N8 kp F8
      have q7x : @LT.lt Nat _ (L + 1 + 1 + 1 + 1 + 1 + 1 + 1) x := Nat.lt_trans u13 (Nat.lt_trans lhd ldx)
      have q7d : @LT.lt Nat _ (L + 1 + 1 + 1 + 1 + 1 + 1 + 1) d := Nat.lt_trans u13 lhd
      have e7x := Nat.ne_of_lt q7x
      have e7d := Nat.ne_of_lt q7d
      have e7h := Nat.ne_of_lt u13
      have hT7 : ∀ p ∈ TA, @LT.lt Nat _ (L + 1 + 1 + 1 + 1 + 1 + 1 + 1) p.1 := fun p hp => by
        have h1 := (hTa p hp).1
        have h2 := (O.tops h1).2.2.2.2.2.2.2
        omega
      simp only [lexLed, hdrLed, List.cons_append, List.nil_append] at Nf
      refine ⟨rfl, ?_⟩
      dsimp only
      k_steps
      unfold Stop
      obtain ⟨p7, ep7⟩ := nameC_qc (a := x) (by assumption)
      subst ep7
      rename Fr _ _ _ _ => F8
      rename News _ _ _ _ => N8
      have Nf : News base L _ ((lexLed w P ln tl [] 0 vs.reverse le ++ (hdrLed w ⟨x, d, hl, tH⟩ (pv ++ mv) 0 ++ [(rd, listOf rv.toArray n4), (wl, listOf wv.toArray n1), (sl, listOf sv.toArray n2), (L + 1 + 1 + 1 + 1 + 1 + 1 + 1, p7), (L + 1 + 1 + 1 + 1 + 1, p5), (L + 1 + 1 + 1 + 1, p4), (226, tabObj tps)])) ++ TA) := N8
      refine (stD (H := ⟨x, d, hl, tH⟩) (s := ⟨_, s.gens, s.drawn, _, s.os⟩) B F8 X T h237 hsl hIs hc63 Nf O ⟨lo.1, lo.2.2.1, lo.2.2.2⟩ ⟨u4, u1, lhd, ldx⟩ nr1 ⟨r1, r2, r4, r6, r7, r10, trivial⟩ (fun p hp => ⟨(hTa p hp).1, (hTa p hp).2, hTh p hp⟩) (by assumption) d5 d4 h12 hR hsv hwv hrv hT q2 hPa hpsa hu1 hu2 ho1 hwi a1 a2 a3 a4 (by ktr_unf) (by ktr_unf) (by ktr_unf) (by ktr_unf) (by ktr_unf) (by ktr_unf) ?_).use (by k_is)
      intro h' tk ps m' F' N'
      exact hQ h' tk ps m' F' N'
end
end
theorem cx26 {p : Program} {w : World} {A : Around} {Q : Value → Shared → Prop} {E : Value → Shared → Prop} {s : Shared} (h : wpAny (model p w) A (pyIter Value.none) Q E s) : wpAny (model p w) A (pyIter Value.none) Q E s := by first | (walk1; fail "x") | exact h
section
local macro_rules | `(tactic| k_enter) => `(tactic| ((with_reducible show codeAny _ _ (Code.call (Value.ref 210) _) _ _); refine Stop.out ?_))
local macro_rules | `(tactic| walk_at "exec Assign cons ListComp") => `(tactic| (k_here; k_dflt (refine' wpAny_Assign_Name ?_ ?hs; (case hs => with_unfolding_all rfl))))
local macro_rules | `(tactic| walk_at "CompSrc") => `(tactic| (k_here; refine Stop.out ?_))
local macro_rules | `(tactic| walk_at "binaryOp Add str str") => `(tactic| (k_here; (with_reducible show wpAny _ _ (binaryOp _ (Value.str (tx _) _) (Value.str (Str.ofString ".") _)) _ _ _); (refine' addLit_K (z := [46]) (by decide) ?_ (by ktr_rel)); intro t' tk'))
local macro_rules | `(tactic| walk_at "execs cons") => `(tactic| ((with_reducible show wpAny _ _ (execs (Stmt.Assign [Expr.Name (Str.ofString "labels") _] _ _ :: _) _) _ _ _); refine Stop.out ?_))
theorem off3_eq_qb {I C D : Addr} : ∀ {A B : List (Addr × Obj)}, LCg.Off3 I C D A → B.map (·.1) = A.map (·.1) → LCg.Off3 I C D B
  | [], [], _, _ => trivial
  | [], _ :: _, _, e => (nomatch e)
  | _ :: _, [], _, e => (nomatch e)
  | a :: A, b :: B, h, e => by
    rw [List.map_cons, List.map_cons] at e
    obtain ⟨e1, e2⟩ := List.cons.inj e
    have e1 : b.1 = a.1 := e1
    exact ⟨by rw [e1]; exact h.1, off3_eq_qb h.2 e2⟩
theorem off_same {I C D : Addr} {A B : List (Addr × Obj)} (h : LCg.Off3 I C D A) (e : B.map (·.1) = A.map (·.1)) : LCg.Off3 I C D B := off3_eq_qb h e
theorem off1_addrs_qb {D : Addr} {P : LexP} {l : List (Addr × Obj)} (h : LCg.Off1 D l) (k : ∀ a ∈ P.addrs, ∃ o, (a, o) ∈ l) : AllNe D P.addrs := by
  have f : ∀ a ∈ P.addrs, a ≠ D := fun a ha => by
    obtain ⟨o, ho⟩ := k a ha
    exact off_new h (a, o) ho
  exact ⟨f _ (by simp), f _ (by simp), f _ (by simp), f _ (by simp), f _ (by simp), f _ (by simp), f _ (by simp), f _ (by simp), f _ (by simp), trivial⟩
theorem nameC_qb {o : Obj} {a : Addr} (_ : o.data = .cell (some (.ref a))) : ∃ o', o' = o := ⟨_, rfl⟩
section
variable {w : World} {L : Addr} {base : Heap} {m : Str → Option Value} {s : Shared} {p : Program} {loose : List Str} {mean : ExcName → Option Value} {mg mb : Str → Option Value} {fa : Addr} {cd : Value} {Q : Flow → Shared → Prop} {scv : List Value} {scn : List Int} {sc : Addr}
set_option maxHeartbeats 0 in
theorem stB {rs : List R2} {sv wv gv : List Value} {gs : List Int} {us od wi : Nat} {tt tu to tw : Tok} {n1 n2 n3 : Nat} {wl sl gl : Nat} {o7 o6 o5 o4 p3 : Obj} {x7 x6 x5 x4 : Option Value} (B : Below callerA base [] base) (F : Fr base L s.heap m) (X : (hd2.heap_1 w.params).In base) (T : Top p loose mean mg mb base) (h237 : @LT.lt Nat _ 226 L) (hsl : base.IsList sc scv.toArray) (hIs : IntsAre scv scn) (hc63 : scv.length ≤ 63)
    (N : News base L s.heap [(wl, listOf wv.toArray n1), (sl, listOf sv.toArray n2), (gl, listOf gv.toArray n3), (L + 1 + 1 + 1 + 1 + 1 + 1 + 1, o7), (L + 1 + 1 + 1 + 1 + 1 + 1, o6), (L + 1 + 1 + 1 + 1 + 1, o5), (L + 1 + 1 + 1 + 1, o4), (L + 1 + 1 + 1, p3), (226, tabObj #[])])
    (lo : @LT.lt Nat _ (L + 1 + 1 + 1 + 1 + 1 + 1 + 1) sl ∧ @LT.lt Nat _ gl sl ∧ @LT.lt Nat _ sl wl)
    (ng : @Ne Nat gl (L + 1 + 1 + 1 + 1 + 1 + 1 + 1) ∧ @Ne Nat gl (L + 1 + 1 + 1 + 1 + 1 + 1) ∧ @Ne Nat gl (L + 1 + 1 + 1 + 1 + 1) ∧ @Ne Nat gl (L + 1 + 1 + 1 + 1) ∧ @Ne Nat gl (L + 1 + 1 + 1) ∧ @Ne Nat gl 226)
    (d7 : o7.data = .cell x7) (d6 : o6.data = .cell x6) (d5 : o5.data = .cell x5) (d4 : o4.data = .cell x4) (d3 : p3.data = .cell (some (.ref gl)))
    (h12 : rs.length = 12) (hR : ∀ (k : Nat) (r : R2), rs[k]? = some r → r.At us od wi k) (hsv : Txs sv (rs.map fun r => [r.c])) (hwv : Txs wv (rs.map R2.word)) (hT : (rs.map R2.enc).flatten.length ≤ 192) (hgv : gv.length = 12) (hgs : IntsAre gv gs)
    (hu1 : 1 ≤ us) (hu2 : us ≤ 3) (ho1 : od ≤ 4) (hwi : wi < 12)
    (mt : m (Str.ofString "text") = some (.str (tx (rs.map R2.enc).flatten) tt)) (mu : m (Str.ofString "usual") = some (.int (us : Int) tu)) (mo : m (Str.ofString "odd") = some (.int (od : Int) to)) (mw : m (Str.ofString "which") = some (.int (wi : Int) tw)) (mwl : m (Str.ofString "words") = some (.ref wl)) (msl : m (Str.ofString "spelled") = some (.ref sl))
    (hQ : ∀ (h' : Heap) (tk : Nat) (ps : Array Value) m', Fr base L h' m' → News base L h' [(226, tabObj ps)] → Q (.ret (.bool true)) { s with heap := h', toks := tk }) : RestW w fa L cd 10 Q s := by
  refine ⟨_, _, _, _, _, _, _, _, _, _, _, _, _, _, _, by k_is, ?_⟩
  dsimp only [List.drop]
  obtain ⟨ng7, ng6, ng5, ng4, ng3, ngt⟩ := ng
  k_steps
  unfold Stop
  rename Fr _ _ _ _ => F1
  rename News _ _ _ _ => N1
  k_dflt (refine' lexer_spec ?cB ?cF ?cX ?cT ?cd ?cu ?cN ?cx ?_; (case cB => k_asm); (case cF => exact F1); (case cX => k_asm); (case cT => k_asm); (case cd => decide); (case cu => decide); (case cN => exact news_sub N1 (by k_upd)); (case cx => show (List.toArray _).size ≤ _; ktr_rel))
  intro P vs le tl tps h1 k1 O fr hc kp F2 N2
  have l3 := led_lt N1 fr
  k_lt l3
  k_dflt (refine' repl_go (ads := [226]) ?ck ?cM ?cN ?cr ?_; (case ck => exact fun b o e hb => kp b o e (by simpa using hb)); (case cM => exact news_sub (sub := [(226, tabObj tps)]) N2 (by k_upd)); (case cN => exact N1); (case cr => k_upd))
  intro N3
  have N4 := news_join (news_tail N2) N3
  clear N3 N2 N1 F1 kp fr
  have lo' : @LT.lt Nat _ (L + 1 + 1 + 1 + 1 + 1 + 1 + 1) sl ∧ @LT.lt Nat _ gl sl ∧ @LT.lt Nat _ sl wl ∧ @LT.lt Nat _ wl P.cs := ⟨lo.1, lo.2.1, lo.2.2, l3.1⟩
  obtain ⟨gw, gs1, gg, g7, g6, g5, g4, g3, gt⟩ := qAds O lo' h237
  unfold lexLed at N4
  simp only [List.cons_append, List.nil_append] at N4
  dsimp only
  k_steps
  unfold Stop
  obtain ⟨p4, ep4⟩ := nameC_qb (a := P.x2) (by assumption)
  subst ep4
  rename Fr _ _ _ _ => F1
  have hz0 : vs.length ≤ 200 := by
    rw [hc.length]
    show ((rs.map R2.enc).flatten ++ [46]).toArray.toList.length ≤ 200
    simp only [List.toList_toArray, List.length_append, List.length_cons, List.length_nil]
    omega
  k_dflt (refine' LCg.ListComp_U ?c0 ?c1 ?c2 ?c3 ?c4 ?c5 ?c8 ?c7; (case c0 => exact F1); (case c1 => rfl); (case c2 => decide); (case c3 => rfl); (case c4 => decide); (case c5 => rfl); (case c7 => intro _; rfl))
  k_steps
  unfold Stop
  rename Fr _ _ _ _ => F2
  rename News _ _ _ _ => N2
  rename IsRange _ _ 0 12 1 _ _ _ => r9
  have hok : ∀ r ∈ rs, r.Ok := fun r hr => (let ⟨k, hk⟩ := List.mem_iff_getElem?.mp hr; (hR k r hk).ok)
  refine LCg.CompSrc.range (n := 12) rfl F2 N2 r9 (by decide) (by decide) (by decide) fun g2 => ?_
  refine rest_inv (fun i ys nw => ∃ (ln : Int) (tl : Tok) (vs : List Value) (le : Nat) (cs : List Nat), Lx cs ((rs.drop i).map R2.word) ∧ Chs vs cs ∧ ln + nls cs = 1 + nls ((rs.map R2.enc).flatten ++ [46]) ∧ vs.length ≤ 200 ∧ Txs ys ((rs.take i).map R2.word) ∧
    nw = lexLed w P ln tl [] 0 vs.reverse le ++ [(wl, listOf wv.toArray n1), (sl, listOf sv.toArray n2), (gl, listOf gv.toArray n3), (L + 1 + 1 + 1 + 1 + 1 + 1 + 1, o7), (L + 1 + 1 + 1 + 1 + 1 + 1, o6), (L + 1 + 1 + 1 + 1 + 1, o5), (L + 1 + 1 + 1 + 1, p4), (L + 1 + 1 + 1, p3), (226, tabObj tps)])
    ⟨1, tl, vs, le, _, Lx_all rs hok, hc, rfl, hz0, Txs.nil, rfl⟩ ?turn ?fin
  case turn =>
    rintro i ys nw v I oI C oC D2 m₂ h tk E' hi ⟨ln, tl, vs, le, cs, a1, a2, a3, a4, a5, rfl⟩ ⟨t, rfl⟩ hns hm F9 N9 off hne
    obtain ⟨nI, nC, nD2⟩ := off_addrs off lex_has
    have hdr : rs.drop i = rs[i] :: rs.drop (i + 1) := List.drop_eq_getElem_cons (by omega)
    obtain ⟨r, hr⟩ : ∃ r, r = rs[i] := ⟨_, rfl⟩
    rw [← hr] at hdr
    rw [hdr] at a1
    obtain ⟨cs', hlex, a1'⟩ := a1
    have hlex : lexA cs = some (r.word, cs') := hlex
    have off' := off
    simp only [lexLed, List.cons_append, List.nil_append] at N9 off
    k_steps
    unfold Stop
    rename Fr _ _ _ _ => F8
    rename News _ _ _ _ => N8
    k_dflt (refine' tok_lex ?cB ?cF ?cX ?cT ?cd ?cu O ?cN a2 ?cz hlex ?_; (case cB => k_asm); (case cF => exact F8); (case cX => k_asm); (case cT => k_asm); (case cd => decide); (case cu => decide); (case cN => exact news_sub N8 (by k_upd)); (case cz => ktr_rel))
    intro ln' tl' vs' le' tt' h' tk' a3' a2' kp F7 N7
    k_dflt (refine' repl_go kp N7 N8 ?cr ?_; (case cr => k_upd))
    clear kp N7
    intro N7
    clear F8 N8
    dsimp only
    k_steps
    rename Fr _ _ _ _ => F8
    refine ⟨_, _, _, rfl, F8, N7, off_same off' rfl, trivial, ln', tl', vs', le', cs', a1', a2', a3'.trans a3, ?_, ?_, rfl⟩
    · rw [a2'.length]
      have := lexA_le _ _ _ hlex
      rw [← a2.length] at this
      omega
    · rw [List.take_add_one, List.getElem?_eq_getElem (by omega), ← hr, List.map_append]
      exact a5.append (Txs.cons (y := r.word) Txs.nil)
  case fin =>
    rintro rv nw ⟨ln, tl, vs, le, cs, a1, a2, a3, a4, a5, rfl⟩ rd h tk F9 N9 off9
    rw [List.drop_of_length_le (by omega)] at a1
    rw [List.take_of_length_le (by omega)] at a5
    have hokw : ∀ y ∈ rs.map R2.word, y.all reOk = true := fun y hy => by
      obtain ⟨r, hr, rfl⟩ := List.mem_map.mp hy
      exact reOk_word (hok r hr)
    have nr1 := off1_addrs_qb off9 lex_has
    have nr2 : AllNe rd [wl, sl, gl, L + 1 + 1 + 1 + 1 + 1 + 1 + 1, L + 1 + 1 + 1 + 1 + 1 + 1, L + 1 + 1 + 1 + 1 + 1, L + 1 + 1 + 1 + 1, L + 1 + 1 + 1, 226] := by
      simp only [lexLed, List.cons_append, List.nil_append, LCg.Off1] at off9
      exact off9.2.2.2.2.2.2.2.2.2
    clear off9
    (try clear r9)
    (try clear F2 N2)
    (try clear F N)
    obtain ⟨r1, r2, r3, r4, r5, r6, r7, r8, r10, _⟩ := nr2
    have N9 : News base L h ((rd, listOf rv.toArray rv.length) :: _) := N9
    simp only [lexLed, List.cons_append, List.nil_append] at N9
    k_steps
    unfold Stop
    obtain ⟨p5, ep5⟩ := nameC_qb (a := rd) (by assumption)
    subst ep5
    rename Fr _ _ _ _ => F8
    rename News _ _ _ _ => N8
    have Nf : News base L _ ((rd, listOf rv.toArray rv.length) :: (lexLed w P ln tl [] 0 vs.reverse le ++ [(wl, listOf wv.toArray n1), (sl, listOf sv.toArray n2), (gl, listOf gv.toArray n3), (L + 1 + 1 + 1 + 1 + 1 + 1 + 1, o7), (L + 1 + 1 + 1 + 1 + 1 + 1, o6), (L + 1 + 1 + 1 + 1 + 1, p5), (L + 1 + 1 + 1 + 1, p4), (L + 1 + 1 + 1, p3), (226, tabObj tps)])) := N8
    refine (stC (s := ⟨_, s.gens, s.drawn, _, s.os⟩) B F8 X T h237 hsl hIs hc63 Nf O lo' ⟨ng7, ng6, ng5, ng4, ng3, ngt⟩ nr1 ⟨r1, r2, r3, r4, r5, r6, r7, r8, r10, trivial⟩ d7 d6 (by assumption) (by assumption) d3 h12 hR hsv hwv a5 hT hgv hgs hu1 hu2 ho1 hwi a1 a2 a3 a4 mt mu mo mw mwl msl ?_).use (by k_is)
    intro h' tk ps m' F' N'
    exact hQ h' tk ps m' F' N'
end
end
theorem cx27 {p : Program} {w : World} {A : Around} {Q : Value → Shared → Prop} {E : Value → Shared → Prop} {s : Shared} (h : wpAny (model p w) A (pyIter Value.none) Q E s) : wpAny (model p w) A (pyIter Value.none) Q E s := by first | (walk1; fail "x") | exact h
section
local macro_rules | `(tactic| walk_at "exec Assign cons ListComp") => `(tactic| (k_here; k_dflt (refine' wpAny_Assign_Name ?_ ?hs; (case hs => with_unfolding_all rfl))))
local macro_rules | `(tactic| walk_at "CompSrc") => `(tactic| (k_here; refine Stop.out ?_))
local macro_rules | `(tactic| l_idx) => `(tactic| first | assumption | exact fm4_lo _ | exact fm4_hi _ | omega)
local macro_rules | `(tactic| k_enter) => `(tactic| ((with_reducible show codeAny _ _ (Code.call (Value.ref 236) _) _ _); k_dflt (refine' word_any (by k_asm) (by k_asm) (by k_asm) (by k_asm) (by decide) (by decide) (by exact fmod2 _) (by ktr_rel) (by ktr_rel) (by assumption) ?_); intro t' h' tk' kp' F9'; (k_dflt (refine' repl_go0 kp' (by k_asm) ?_)); clear kp'; intro N9'; (try k_sweep); (try dsimp only)))
local macro_rules | `(tactic| walk_at "subscriptTail Name Name ref int") => `(tactic| (k_here; k_dflt (refine' itemLast_K (by kmk_list) (by l_idx) (by ktr_rel) ?_ (by with_unfolding_all rfl) (by intro _; with_unfolding_all rfl))))
local macro_rules | `(tactic| walk_at "binaryOp Add str str") => `(tactic| (k_here; (with_reducible show wpAny _ _ (binaryOp _ (Value.str (tx _) _) (Value.str (tx (lawWord _ _ _)) _)) _ _ _); (refine' addTx_K ?_ (by (refine Nat.le_trans (Nat.add_le_add_left (lawWord_len _ _ _) _) ?_; ktr_rel))); intro t' tk'))
local macro_rules | `(tactic| walk_at "binaryOp Mult str int") => `(tactic| (k_here; k_dflt (refine' blanks_K (by rfl) (by assumption) ?_); intro t' k'))
theorem usual_of {h₀ h : Heap} {L : Addr} {m : Str → Option Value} {z : Int} {t : Tok} {k : Str} (_ : Fr h₀ L h m) (e : m k = some (.int (1 + z.fmod 3) t)) : ∃ (u : Nat) (t' : Tok), m k = some (.int (u : Int) t') ∧ 1 ≤ u ∧ u ≤ 3 := by
  obtain ⟨u, eu, h1, h2⟩ := usual_nat z
  exact ⟨u, t, eu ▸ e, h1, h2⟩
theorem odd_of {h₀ h : Heap} {L : Addr} {m : Str → Option Value} {z : Int} {t : Tok} {k : Str} (_ : Fr h₀ L h m) (e : m k = some (.int ((z.fdiv 3).fmod 5) t)) : ∃ (u : Nat) (t' : Tok), m k = some (.int (u : Int) t') ∧ u ≤ 4 := by
  obtain ⟨u, eu, h1⟩ := odd_nat z
  exact ⟨u, t, eu ▸ e, h1⟩
theorem which_of {h₀ h : Heap} {L : Addr} {m : Str → Option Value} {z : Int} {t : Tok} {k : Str} (_ : Fr h₀ L h m) (e : m k = some (.int ((z.fdiv 15).fmod 12) t)) : ∃ (u : Nat) (t' : Tok), m k = some (.int (u : Int) t') ∧ u < 12 := by
  obtain ⟨u, eu, h1⟩ := which_nat z
  exact ⟨u, t, eu ▸ e, h1⟩
theorem ltr_up {i : Nat} (h : i < 12) : Ltr (up1 (97 + i)) ∧ lowC (up1 (97 + i)) = 97 + i := by
  have e : ∀ k : Fin 12, up1 (97 + k.1) = 65 + k.1 ∧ lowC (65 + k.1) = 97 + k.1 := by decide
  obtain ⟨h1, h2⟩ := e ⟨i, h⟩
  dsimp only at h1 h2
  rw [h1]
  exact ⟨.inr (by omega), h2⟩
theorem ltr_lo {i : Nat} (h : i < 12) : Ltr (97 + i) ∧ lowC (97 + i) = 97 + i := by
  have e : ∀ k : Fin 12, lowC (97 + k.1) = 97 + k.1 := by decide
  exact ⟨.inl (by omega), e ⟨i, h⟩⟩
theorem at_snoc {rs : List R2} {x : R2} {us od wi i : Nat} (h1 : rs.length = i) (hR : ∀ (k : Nat) (r : R2), rs[k]? = some r → r.At us od wi k) (hx : x.At us od wi i) : ∀ (k : Nat) (r : R2), (rs ++ [x])[k]? = some r → r.At us od wi k := by
  intro k r h
  by_cases hk : k < rs.length
  · rw [List.getElem?_append_left hk] at h
    exact hR k r h
  · have hil := (List.getElem?_eq_some_iff.mp h).1
    rw [List.length_append, List.length_cons, List.length_nil] at hil
    have hk' : k = rs.length := by omega
    subst hk'
    rw [List.getElem?_append_right (Nat.le_refl _), Nat.sub_self] at h
    rw [← Option.some.inj h, h1]
    exact hx
theorem nameC_qa {o : Obj} {a : Addr} (_ : o.data = .cell (some (.ref a))) : ∃ o', o' = o := ⟨_, rfl⟩
section
variable {w : World} {L : Addr} {base : Heap} {m : Str → Option Value} {s : Shared} {p : Program} {loose : List Str} {mean : ExcName → Option Value} {mg mb : Str → Option Value} {fa : Addr} {cd : Value} {Q : Flow → Shared → Prop} {scv : List Value} {scn : List Int} {sc : Addr}
set_option maxHeartbeats 0 in
theorem stA {o7 o6 o5 o4 o3 o2 o1 : Obj} {x7 x6 x5 x4 x3 x2 : Option Value} (B : Below callerA base [] base) (F : Fr base L s.heap m) (X : (hd2.heap_1 w.params).In base) (T : Top p loose mean mg mb base) (h237 : @LT.lt Nat _ 226 L) (hsl : base.IsList sc scv.toArray) (hIs : IntsAre scv scn) (hc63 : scv.length ≤ 63) (N : News base L s.heap [(L + 1 + 1 + 1 + 1 + 1 + 1 + 1, o7), (L + 1 + 1 + 1 + 1 + 1 + 1, o6), (L + 1 + 1 + 1 + 1 + 1, o5), (L + 1 + 1 + 1 + 1, o4), (L + 1 + 1 + 1, o3), (L + 1 + 1, o2), (L + 1, o1), (226, tabObj #[])])
    (d7 : o7.data = .cell x7) (d6 : o6.data = .cell x6) (d5 : o5.data = .cell x5) (d4 : o4.data = .cell x4) (d3 : o3.data = .cell x3) (d2 : o2.data = .cell x2) (d1 : o1.data = .cell (some (.ref sc)))
    (hQ : ∀ (h' : Heap) (tk : Nat) (ps : Array Value) m', Fr base L h' m' → News base L h' [(226, tabObj ps)] → Q (.ret (.bool true)) { s with heap := h', toks := tk }) : RestW w fa L cd 0 Q s := by
  have hscl : scv.length ≤ sizeLine := by rw [PySem.sizeLine_eq]; omega
  refine ⟨_, _, _, _, _, _, _, _, _, _, _, _, _, _, _, by k_is, ?_⟩
  dsimp only [List.drop]
  k_steps
  unfold Stop
  rename Fr _ _ _ _ => F1
  rename News _ _ _ _ => N1
  obtain ⟨bs, b0, e1, e2⟩ := names1 N1
  rw [← e2] at N1
  subst e1
  obtain ⟨bv, eb1, hbv⟩ : ∃ bv : List Value, b0 = listOf bv.toArray 0 ∧ IntsAre bv [5, 30, 17, 40, 61, 22, 75, 9, 50, 13, 88, 34] := ⟨_, e2, .cons _ _ (.cons _ _ (.cons _ _ (.cons _ _ (.cons _ _ (.cons _ _ (.cons _ _ (.cons _ _ (.cons _ _ (.cons _ _ (.cons _ _ (.cons _ _ .nil)))))))))))⟩
  rw [eb1] at N1
  clear e2 eb1
  obtain ⟨p2, ep2⟩ := nameC_qa (a := bs) (by assumption)
  subst ep2
  k_dflt (refine' LCg.ListComp_U ?c0 ?c1 ?c2 ?c3 ?c4 ?c5 ?c8 ?c7; (case c0 => exact F1); (case c1 => rfl); (case c2 => decide); (case c3 => rfl); (case c4 => decide); (case c5 => rfl); (case c7 => intro _; rfl))
  k_steps
  unfold Stop
  rename Fr _ _ _ _ => F2
  rename News _ _ _ _ => N2
  rename IsRange _ _ 0 12 1 _ _ _ => r9
  refine LCg.CompSrc.range (n := 12) rfl F2 N2 r9 (by decide) (by decide) (by decide) fun g2 => ?_
  refine rest_inv (fun i ys nw => (∃ gs : List Int, gs.length = i ∧ IntsAre ys gs) ∧ nw = [(bs, listOf bv.toArray 0), (L + 1 + 1 + 1 + 1 + 1 + 1 + 1, o7), (L + 1 + 1 + 1 + 1 + 1 + 1, o6), (L + 1 + 1 + 1 + 1 + 1, o5), (L + 1 + 1 + 1 + 1, o4), (L + 1 + 1 + 1, o3), (L + 1 + 1, p2), (L + 1, o1), (226, tabObj #[])]) ⟨⟨[], rfl, .nil⟩, rfl⟩ ?turn ?fin
  case turn =>
    rintro i ys nw v I oI C oC D2 m₂ h tk E' hi ⟨⟨gs, hgl, hgs⟩, rfl⟩ ⟨t, rfl⟩ hns hm F9 N9 off hne
    k_steps
    rename Fr _ _ _ _ => F8
    rename News _ _ _ _ => N8
    exact ⟨_, _, _, rfl, F8, news_sub N8 (by k_upd), off, trivial, ⟨gs ++ [_], by rw [List.length_append, hgl]; rfl, hgs.append (.cons _ _ .nil)⟩, rfl⟩
  case fin =>
    rintro gv nw ⟨⟨gs, hgl, hgs⟩, rfl⟩ gl h tk F9 N9 off9
    have nD := off_new off9
    clear off9
    (try clear r9)
    (try clear F2 N2)
    (try clear N1)
    (try clear F N)
    have hgvl : gv.length = 12 := by rw [hgs.length, hgl]
    have N9 : News base L h ((gl, listOf gv.toArray gv.length) :: _) := N9
    k_steps
    unfold Stop
    rename Fr _ _ _ _ => F1
    rename News _ _ _ _ => N1
    rename IsRange _ _ 0 12 1 _ _ _ => r9
    obtain ⟨us, tu, eus, hu1, hu2⟩ := usual_of F1 (k := Str.ofString "usual") (by ktr_unf)
    obtain ⟨od, to, eod, ho1⟩ := odd_of F1 (k := Str.ofString "odd") (by ktr_unf)
    obtain ⟨wi, tw, ewi, hwi⟩ := which_of F1 (k := Str.ofString "which") (by ktr_unf)
    obtain ⟨wl, w0, sl, s0, e1, e2, e3, e4⟩ := names2 N1
    subst e1 e2 e3 e4
    obtain ⟨p3, ep3⟩ := nameC_qa (a := gl) (by assumption)
    subst ep3
    have N1 : News base L _ [(wl, listOf ([] : List Value).toArray 0), (sl, listOf ([] : List Value).toArray 0), (gl, listOf gv.toArray gv.length), (L + 1 + 1 + 1 + 1 + 1 + 1 + 1, o7), (L + 1 + 1 + 1 + 1 + 1 + 1, o6), (L + 1 + 1 + 1 + 1 + 1, o5), (L + 1 + 1 + 1 + 1, o4), (L + 1 + 1 + 1, p3), (L + 1 + 1, p2), (L + 1, o1), (226, tabObj #[])] := news_sub N1 (by k_upd)
    refine iter_rangeUnr (n := 12) rfl r9 (by decide) (by decide) F1 N1 fun i' l2 => ?_
    k_lt l2
    clear r9
    refine range_inv (fun i m' nw => ∃ (rs : List R2) (sv wv : List Value) (tt : Tok) (n1 n2 : Nat), rs.length = i ∧ (∀ (k : Nat) (r : R2), rs[k]? = some r → r.At us od wi k) ∧ Txs sv (rs.map fun r => [r.c]) ∧ Txs wv (rs.map R2.word) ∧ (rs.map R2.enc).flatten.length ≤ 16 * i ∧ m' (Str.ofString "text") = some (.str (tx (rs.map R2.enc).flatten) tt) ∧ m' (Str.ofString "usual") = some (.int (us : Int) tu) ∧ m' (Str.ofString "odd") = some (.int (od : Int) to) ∧ m' (Str.ofString "which") = some (.int (wi : Int) tw) ∧ m' (Str.ofString "words") = some (.ref wl) ∧ m' (Str.ofString "spelled") = some (.ref sl) ∧
      nw = [(wl, listOf wv.toArray n1), (sl, listOf sv.toArray n2), (gl, listOf gv.toArray gv.length), (L + 1 + 1 + 1 + 1 + 1 + 1 + 1, o7), (L + 1 + 1 + 1 + 1 + 1 + 1, o6), (L + 1 + 1 + 1 + 1 + 1, o5), (L + 1 + 1 + 1 + 1, o4), (L + 1 + 1 + 1, p3), (L + 1 + 1, p2), (L + 1, o1), (226, tabObj #[])]) ?init ?turn2 ?fin2
    case init =>
      exact ⟨[], [], [], _, _, _, rfl, fun _ _ h => by simp at h, Txs.nil, Txs.nil, Nat.le_refl _, by ktr_unf, eus, eod, ewi, by ktr_unf, by ktr_unf, rfl⟩
    case turn2 =>
      rintro i t m' nw h tk hi ⟨rs, sv, wv, tt, n1, n2, q1, hR, q8, q9, q10, e1, e2, e3, e4, e5, e6, rfl⟩ F9 N9
      have hsn : sv.length = i := by rw [q8.length, List.length_map]; exact q1
      have hwn : wv.length = i := by rw [q9.length, List.length_map]; exact q1
      have hsz := abc_size
      have g4 := abc_fact hi
      have g5 : ([(Str.ofString "abcdefghijkl").cps.toList.getD (0 + (i : Int)).toNat 0] : List Nat).all reOk = true := by
        rw [g4]; exact ltr_ok (.inl (by omega))
      have mk : MkA := trivial
      k_steps
      unfold Stop
      rename Heap => h9
      refine wpAny_mono (Q := fun v s' => HoldP (∃ (c : Nat) (t' : Tok) (tk' : Nat), v = .str (tx [c]) t' ∧ (Ltr c ∧ lowC c = 97 + i) ∧ s' = { s with heap := h9, toks := tk' })) (E := fun _ _ => False) ?ie (fun v s' hv => ?_) (fun _ _ h => h)
      case ie =>
        clear mk
        k_steps
        · exact ⟨_, _, _, rfl, by rw [g4]; exact ltr_up hi, rfl⟩
        · exact ⟨_, _, _, rfl, by rw [g4]; exact ltr_lo hi, rfl⟩
      obtain ⟨c, t8, tk8, rfl, hc, rfl⟩ := hv
      k_steps
      unfold Stop
      rename Heap => h9
      refine wpAny_mono (Q := fun v s' => HoldP (∃ (n : Nat) (t' : Tok) (tk' : Nat), v = .int (n : Int) t' ∧ (n ≤ 4 ∧ n = if i = wi then od else us) ∧ s' = { s with heap := h9, toks := tk' })) (E := fun _ _ => False) ?ie2 (fun v s' hv => ?_) (fun _ _ h => h)
      case ie2 =>
        clear mk
        k_steps
        · exact ⟨od, _, _, rfl, ⟨ho1, (if_pos (by omega)).symm⟩, rfl⟩
        · exact ⟨us, _, _, rfl, ⟨by omega, (if_neg (by omega)).symm⟩, rfl⟩
      obtain ⟨n, t8, tk8, rfl, ⟨hn4, hn⟩, rfl⟩ := hv
      clear mk
      have hrep : (List.replicate n 32).length ≤ 4 := by rw [List.length_replicate]; exact hn4
      have g8 : ([c] ++ List.replicate n 32).all (· < 128) = true := all128 (by rw [List.all_append, ltr_ok hc.1, rep_ok]; rfl)
      k_steps
      unfold Stop
      rename Fr _ _ _ _ => F8
      rename News _ _ _ _ => N8
      obtain ⟨bi, g, u9, eb, eg, eu⟩ := nmT F8
      have hA : R2.At us od wi i ⟨c, n, bi, g⟩ := ⟨⟨hc.1, hn4, by rw [eb]; exact fmod2 _, by rw [eg]; exact wh_any _⟩, hc.2, hn⟩
      have hl9 := enc_len hA.ok
      refine UnrEnd.intro3 (by assumption) N8 [(wl, listOf (wv ++ [_]).toArray _), (sl, listOf (sv ++ [_]).toArray _), (gl, listOf gv.toArray gv.length), (L + 1 + 1 + 1 + 1 + 1 + 1 + 1, o7), (L + 1 + 1 + 1 + 1 + 1 + 1, o6), (L + 1 + 1 + 1 + 1 + 1, o5), (L + 1 + 1 + 1 + 1, o4), (L + 1 + 1 + 1, p3), (L + 1 + 1, p2), (L + 1, o1), (226, tabObj #[])] (by k_mem) (by k_subL) (by k_offL)
        ⟨rs ++ [⟨c, n, bi, g⟩], sv ++ [_], wv ++ [_], u9, _, _, by rw [List.length_append, q1]; rfl, at_snoc q1 hR hA, by rw [List.map_append]; exact q8.append (Txs.cons (y := [c]) Txs.nil), by rw [List.map_append]; exact q9.append (Txs.cons (y := R2.word ⟨c, n, bi, g⟩) Txs.nil), by rw [enc_snoc, List.length_append]; omega, ?_, by ktr_unf, by ktr_unf, by ktr_unf, by ktr_unf, by ktr_unf, rfl⟩
      rw [enc_snoc, eu]
      show _ = some (Value.str (tx (_ ++ lawWord bi (R2.word ⟨c, n, bi, g⟩) [g])) _)
      rw [eb, eg]
      ktr_unf
    case fin2 =>
      rintro m' nw h tk ⟨rs, sv, wv, tt, n1, n2, q1, hR, q8, q9, q10, e1, e2, e3, e4, e5, e6, rfl⟩ F9 N9
      refine (stB (L := L) (s := ⟨h, s.gens, s.drawn, tk, s.os⟩) B F9 X T h237 hsl hIs hc63 (news_sub N9 (by k_upd)) ?_ ?_ d7 d6 d5 d4 (by assumption) q1 hR q8 q9 (by omega) hgvl hgs hu1 hu2 ho1 hwi e1 e2 e3 e4 e5 e6 ?_).use (by k_is)
      · omega
      · exact ⟨Ne.symm (neW_of nD (by k_mem)), Ne.symm (neW_of nD (by k_mem)), Ne.symm (neW_of nD (by k_mem)), Ne.symm (neW_of nD (by k_mem)), Ne.symm (neW_of nD (by k_mem)), Ne.symm (neW_of nD (by k_mem))⟩
      · intro h' tk ps m' F' N'
        exact hQ h' tk ps m' F' N'
end
end
end
end
theorem cx28 {p : Program} {w : World} {A : Around} {Q : Value → Shared → Prop} {E : Value → Shared → Prop} {s : Shared} (h : wpAny (model p w) A (pyIter Value.none) Q E s) : wpAny (model p w) A (pyIter Value.none) Q E s := by first | (walk1; fail "x") | exact h
section
theorem main_step {w : World} {Q : Flow → Shared → Prop} {E : Value → Shared → Prop} {s : Shared} {L fa : Addr} {cd : Value} {name qual : Str} {params : Arguments} {body : List Stmt} {scope : Scope} {dV kV doc pm cdv ct oc : Value} {an od : Option Addr} {osl : Array (Option Value)}
    (ho : (hd2.heap_1 w.params).lookup 255 = some ⟨oc, od, .func (fnOf name qual params body scope dV kV doc pm an cdv ct), osl⟩) (h : RestW w fa L cd 0 Q s) :
    wpAny (model PP w) (callerA.deeper (envOfC qual scope L fa cd)) (execs body (envOfC qual scope L fa cd)) Q E s :=
  wpAny_mono (h.use ho) (fun _ _ h => h) (fun _ _ h => h.elim)
set_option maxHeartbeats 0 in
theorem main1 : PySem.Challenge.rw_st0023_02.Holds := by
  refine hd2.2 ?_
  unfold hd2
  dsimp only
  k_go0
  all_goals try k_fold
  rename IntsAre _ _ => hIs
  rename (¬ ((63 : Nat) : Int) < _) => hc63
  rename Heap.IsList (ghostOf _ _) _ _ => hsl
  rename Fr _ _ _ _ => F1
  rename News _ _ _ _ => N1
  rename Below _ _ _ _ => B1
  rename Frag.In _ _ => X1
  rename Top _ _ _ _ _ _ => T1
  have hl := hIs.length
  rename Shared => s₁
  rename Heap => h1
  refine' main_step ?ho ?hs
  case ho => k_is
  case hs =>
    refine' stA (s := ⟨h1, s₁.gens, s₁.drawn, _, s₁.os⟩) B1 F1 X1 T1 ?q1 hsl hIs ?q2 N1 ?q3 ?q4 ?q5 ?q6 ?q7 ?q8 ?q9 ?hq
    case q1 => omega
    case q2 => omega
    case q3 => assumption
    case q4 => assumption
    case q5 => assumption
    case q6 => assumption
    case q7 => assumption
    case q8 => assumption
    case q9 => assumption
    intro h' tk ps m' F' N'
    k_steps
    all_goals (try k_data)
end
end
end Mine
set_option maxRecDepth 100000 in
theorem PySem.Challenge.cw_st0023_02_holds : PySem.Challenge.rw_st0023_02.Holds :=
  Mine.main1
