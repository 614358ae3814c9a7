import PyProof.Rows.All
import Wide.All
import OpenK.AllK
import Wide.FinOn
import KE.KParD
import Lean
import PySem.Challenge.RW_st0023_01
set_option Elab.async false
set_option maxRecDepth 100000
set_option compiler.extract_closed false
section
/-! what the lexer reads, in plain lists of signs -/
namespace Mine
noncomputable def ws (c : Nat) : Bool := c == 10 || c == 9 || c == 13 || c == 32
noncomputable def lexQ : List Nat → List Nat → Option (List Nat × List Nat)
  | [], _ => none
  | [c], acc => if c = 34 then some (acc, []) else none
  | c :: d :: r, acc => if c = 34 then some (acc, d :: r) else if c = 92 then lexQ r (acc ++ [d]) else lexQ (d :: r) (acc ++ [c])
noncomputable def lexB : List Nat → List Nat → Option (List Nat × List Nat)
  | [], acc => some (acc, [])
  | [c], acc => if ws c then some (acc, []) else if c = 92 then none else some (acc ++ [c], [])
  | c :: d :: r, acc => if ws c then some (acc, d :: r) else if c = 92 then lexB r (acc ++ [d]) else lexB (d :: r) (acc ++ [c])
noncomputable def lexA : List Nat → Option (List Nat × List Nat)
  | [] => some ([], [])
  | c :: r => if ws c then lexA r else if c = 34 then lexQ r [] else if c = 92 then (match r with | [] => none | d :: r' => lexB r' [d]) else lexB r [c]
theorem lexQ_quote {r acc : List Nat} {o} (h : lexQ (34 :: r) acc = some o) : o = (acc, r) := by
  cases r <;> simp [lexQ] at h <;> exact h.symm
theorem lexQ_back {r acc : List Nat} {o} (h : lexQ (92 :: r) acc = some o) : ∃ d r', r = d :: r' ∧ lexQ r' (acc ++ [d]) = some o := by
  cases r with
  | nil => simp [lexQ] at h
  | cons d r' => exact ⟨d, r', rfl, by simpa [lexQ] using h⟩
theorem lexQ_other {c : Nat} {r acc : List Nat} {o} (h1 : c ≠ 34) (h2 : c ≠ 92) (h : lexQ (c :: r) acc = some o) : lexQ r (acc ++ [c]) = some o := by
  cases r with
  | nil => simp [lexQ, h1] at h
  | cons d r' => simpa [lexQ, h1, h2] using h
theorem lexB_ws {c : Nat} {r acc : List Nat} {o} (hc : ws c = true) (h : lexB (c :: r) acc = some o) : o = (acc, r) := by
  cases r <;> simp [lexB, hc] at h <;> exact h.symm
theorem lexB_back {r acc : List Nat} {o} (h : lexB (92 :: r) acc = some o) : ∃ d r', r = d :: r' ∧ lexB r' (acc ++ [d]) = some o := by
  cases r with
  | nil => simp [lexB, ws] at h
  | cons d r' => exact ⟨d, r', rfl, by simpa [lexB, ws] using h⟩
theorem lexB_other {c : Nat} {r acc : List Nat} {o} (h1 : ws c = false) (h2 : c ≠ 92) (h : lexB (c :: r) acc = some o) : lexB r (acc ++ [c]) = some o := by
  cases r with
  | nil => simpa [lexB, h1, h2] using h
  | cons d r' => simpa [lexB, h1, h2] using h
/-- how many line ends -/
noncomputable def nls (l : List Nat) : Int := (l.count 10 : Nat)
theorem nls_cons (c : Nat) (l : List Nat) : nls (c :: l) = (if c = 10 then 1 else 0) + nls l := by
  unfold nls
  rw [List.count_cons]
  by_cases h : c = 10 <;> simp [h] <;> omega
theorem nls_nil : nls [] = 0 := rfl
end Mine
namespace Mine
noncomputable def encB (l : List Nat) : List Nat := (l.map fun c => [92, c]).flatten
noncomputable def encQ (l : List Nat) : List Nat := (l.map fun c => if c = 34 ∨ c = 92 then [92, c] else [c]).flatten
/-- what _law_word makes of a word -/
noncomputable def lawWord (bare : Int) (x wh : List Nat) : List Nat := if bare = 1 then encB x ++ wh else 34 :: encQ x ++ 34 :: wh
end Mine
namespace Mine
theorem encB_len (l : List Nat) : (encB l).length = 2 * l.length := by
  unfold encB
  induction l with
  | nil => rfl
  | cons c r ih => simp only [List.map_cons, List.flatten_cons, List.length_append, List.length_cons, List.length_nil] at *; omega
theorem encQ_len (l : List Nat) : (encQ l).length ≤ 2 * l.length := by
  unfold encQ
  induction l with
  | nil => exact Nat.le_refl _
  | cons c r ih =>
    simp only [List.map_cons, List.flatten_cons, List.length_append, List.length_cons] at *
    split <;> simp only [List.length_cons, List.length_nil] <;> omega
end Mine
namespace Mine
/-- a letter's small form -/
noncomputable def lowC (c : Nat) : Nat := if 65 ≤ c ∧ c ≤ 90 then c + 32 else c
end Mine
end
section
open PySem PySem.W PySem.Spec PySem.Calls PyProof.Rows
set_option Elab.async false
set_option maxRecDepth 100000
namespace Mine

theorem news_sub {h₀ h : Heap} {L : Addr} {news sub : List (Addr × Obj)} (N : News h₀ L h news) (hs : ∀ p ∈ sub, p ∈ news) : News h₀ L h sub := fun p hp => N p (hs p hp)
/-- a part of the ledger that was kept -/
theorem news_kept {h₀ h h' : Heap} {L : Addr} {news : List (Addr × Obj)} (N : News h₀ L h news) (k : ∀ p ∈ news, h.get? p.1 = some p.2 → h'.get? p.1 = some p.2) : News h₀ L h' news := fun p hp => ⟨k p hp (N p hp).1, (N p hp).2⟩
theorem news_join {h₀ h : Heap} {L : Addr} {a b : List (Addr × Obj)} (Na : News h₀ L h a) (Nb : News h₀ L h b) : News h₀ L h (a ++ b) := fun p hp => (List.mem_append.mp hp).elim (Na p) (Nb p)
theorem news_head {h₀ h : Heap} {L : Addr} {x : Addr × Obj} {a : List (Addr × Obj)} (N : News h₀ L h (x :: a)) : News h₀ L h [x] := fun p hp => N p (List.mem_cons.mpr (.inl (List.mem_singleton.mp hp)))
theorem news_tail {h₀ h : Heap} {L : Addr} {x : Addr × Obj} {a : List (Addr × Obj)} (N : News h₀ L h (x :: a)) : News h₀ L h a := fun p hp => N p (List.mem_cons_of_mem _ hp)
/-- a stop of the walk, to go on by hand -/
def Stop (P : Prop) : Prop := P
theorem Stop.out {P : Prop} (h : Stop P) : P := h
/-- `vs` are the one-sign texts of the signs `cs` -/
def Chs : List Value → List Nat → Prop
  | [], [] => True
  | v :: vs, c :: cs => (∃ t, v = Value.str ⟨#[c]⟩ t) ∧ Chs vs cs
  | _, _ => False
theorem Chs.of_get : ∀ {vs : List Value} {cs : List Nat}, vs.length = cs.length → (∀ (j : Nat) v, vs[j]? = some v → ∃ c t, cs[j]? = some c ∧ v = Value.str ⟨#[c]⟩ t) → Chs vs cs
  | [], [], _, _ => trivial
  | [], _ :: _, h, _ => by cases h
  | _ :: _, [], h, _ => by cases h
  | v :: vs, c :: cs, h, k => by
    refine ⟨?_, Chs.of_get (by simpa using h) fun j u hj => ?_⟩
    · obtain ⟨c', t, e, r⟩ := k 0 v rfl
      cases e; exact ⟨t, r⟩
    · simpa using k (j + 1) u (by simpa using hj)
theorem Chs.length : ∀ {vs : List Value} {cs : List Nat}, Chs vs cs → vs.length = cs.length
  | [], [], _ => rfl
  | _ :: _, _ :: _, h => congrArg (· + 1) (Chs.length h.2)

theorem Chs.cons_inv {vs : List Value} {c : Nat} {cs : List Nat} (h : Chs vs (c :: cs)) : ∃ t vs', vs = Value.str ⟨#[c]⟩ t :: vs' ∧ Chs vs' cs := by
  cases vs with
  | nil => exact h.elim
  | cons v vs' =>
    obtain ⟨⟨t, rfl⟩, h2⟩ := h
    exact ⟨t, vs', rfl, h2⟩
theorem Chs.nil_inv {vs : List Value} (h : Chs vs []) : vs = [] := by
  cases vs with
  | nil => rfl
  | cons v vs' => exact h.elim
theorem one_beq {c d : Nat} {x : Str} (hx : x = ⟨#[d]⟩) : (Str.mk #[c] == x) = decide (c = d) := by
  subst hx
  by_cases h : c = d
  · subst h; simp
  · rw [decide_eq_false h]
    refine beq_eq_false_iff_ne.mpr fun e => h ?_
    have := Str.mk.inj e
    simpa using this
theorem is_nl : Str.ofString "\n" = ⟨#[10]⟩ := by decide
theorem is_quote : Str.ofString "\"" = ⟨#[34]⟩ := by decide
theorem is_back : Str.ofString "\\" = ⟨#[92]⟩ := by decide
theorem one_nl {c : Nat} : (Str.mk #[c] == Str.ofString "\n") = decide (c = 10) := one_beq is_nl
theorem one_quote {c : Nat} : (Str.mk #[c] == Str.ofString "\"") = decide (c = 34) := one_beq is_quote
theorem one_back {c : Nat} : (Str.mk #[c] == Str.ofString "\\") = decide (c = 92) := one_beq is_back

theorem wsStr_is : (Str.ofString "\n\t\r ") = ⟨#[10, 9, 13, 32]⟩ := by decide
theorem ws_in (c : Nat) : (Builtin.Str.occurrences (Str.ofString "\n\t\r ") (Str.mk #[c]) 0 (Str.length (Str.ofString "\n\t\r ")) 1).isEmpty = !ws c := by
  have h := StrLaws.found_one (Str.ofString "\n\t\r ") c
  have e : ws c = decide (c ∈ (Str.ofString "\n\t\r ").cps.toList) := by
    rw [wsStr_is]
    unfold ws
    simp [Bool.beq_eq_decide_eq, Bool.or_assoc]
  rw [e, ← h, Bool.not_not]
theorem len_mk {a : Array Nat} : (Str.mk a).length = a.size := rfl
theorem len_empty : (Str.ofString "").length = 0 := by decide
theorem len_quote : (Str.ofString "\"").length = 1 := by decide
theorem len_back : (Str.ofString "\\").length = 1 := by decide
theorem str_empty : Str.ofString "" = ⟨#[]⟩ := by decide
theorem str_append_mk (a b : Array Nat) : (Str.mk a ++ Str.mk b) = Str.mk (a ++ b) := by
  apply Str.ext'
  rw [Str.cps_append]
theorem str_push (acc : List Nat) (c : Nat) : (Str.mk acc.toArray ++ Str.mk #[c]) = Str.mk (acc ++ [c]).toArray := by
  rw [str_append_mk]
  congr 1
  apply Array.ext'
  simp
/-- texts by their signs -/
abbrev tx (l : List Nat) : Str := ⟨l.toArray⟩
theorem tx_append (a b : List Nat) : tx a ++ tx b = tx (a ++ b) := by
  rw [str_append_mk]; congr 1; apply Array.ext'; simp
theorem tx_len (a : List Nat) : (tx a).length = a.length := by show a.toArray.size = _; simp
theorem tx_inj {a b : List Nat} (h : tx a = tx b) : a = b := by
  have := congrArg (fun x : Str => x.cps.toList) h
  simpa using this
theorem tx_cps (x : Str) : x = tx x.cps.toList := by
  apply Str.ext'
  simp
theorem end_str {R : Result → Shared → Prop} {S S' : Str} {t : Tok} {st : Shared} (e : S = S') (h : R (.ok (.ret (.str S' t))) st) : R (.ok (.ret (.str S t))) st := e ▸ h
theorem join_empty : ∀ ls : List (List Nat), Txt.join (Str.ofString "") (ls.map tx) = tx ls.flatten
  | [] => by rfl
  | x :: rest => by
    have e : ∀ (x : List Nat) (rest : List (List Nat)), Str.join (Str.ofString "") ((x :: rest).map tx) = tx (x :: rest).flatten := by
      intro x rest
      induction rest generalizing x with
      | nil => simp [Str.join]
      | cons y r ih =>
        show tx x ++ Str.ofString "" ++ Str.join (Str.ofString "") ((y :: r).map tx) = _
        rw [ih, str_empty]
        show tx x ++ tx [] ++ tx (y :: r).flatten = _
        rw [tx_append, tx_append]
        simp
    exact (StrLaws.glued_eq_join _ _).trans (e x rest)
section
variable {prog : Program} {w : World} {A : Around} {E : Value → Shared → Prop} {s : Shared} {h₀ : Heap} {L : Addr} {m : Str → Option Value} {news : List (Addr × Obj)}

theorem ldX {a : Addr} {cn : Str} {cs : Scope} {ccd : Value} {cl : List (Str × Addr)} {x : Str} {v : Value} {Q : Value → Shared → Prop} (F : Fr h₀ L s.heap m) (hv : m x = some v) (h : Q v s)
    (hk : cs.kind = .function := by rfl) (hx : (envX cn cs L a ccd cl).kindOf x = some .local := by rfl) : wpAny (model prog w) A (loadName (envX cn cs L a ccd cl) x) Q E s := wpAny_loadName_local hk hx F.ns hv h
theorem listStr_K {x : Str} {t : Tok} {Q : Value → Shared → Prop} (hh : A.handled = none) (F : Fr h₀ L s.heap m) (N : News h₀ L s.heap news) (hsz : x.cps.size ≤ sizeLine)
    (h : ∀ l c vs h' tk, Fr h₀ L h' m → News h₀ L h' ((l, listOf vs.toArray c) :: news) → (∀ q ∈ news, q.1 < l) → Chs vs x.cps.toList → Q (.ref l) { s with heap := h', toks := tk }) :
    wpAny (model prog w) A (call (.type "list") [.str x t]) Q E s := by
  refine call_list_str hh x t (hn := hsz) fun h' tk acc' c' hk hS' hacc => ?_
  refine h _ c' acc'.toList h' tk (F.keeps hk) (fun q hq => ?_) (fun q hq => Heap.lt_size (N q hq).1) (Chs.of_get (by simp [hacc.1]) fun j v hj => ?_)
  · rcases List.mem_cons.mp hq with rfl | hq
    · exact ⟨by simpa using hS', Nat.ne_of_gt F.ns.lt, none_at_size F⟩
    · exact ⟨hk _ _ (N q hq).1, (N q hq).2⟩
  · obtain ⟨c, u, hc, rfl⟩ := hacc.2 j v (by simpa using hj)
    exact ⟨c, u, by simpa using hc, rfl⟩

theorem rev_K {D : Addr} {vs : List Value} {n : Nat} {news' : List (Addr × Obj)} {Q : Value → Shared → Prop} (F : Fr h₀ L s.heap m) (N : News h₀ L s.heap news) (U : Upd D (listOf vs.toArray n) (listOf vs.reverse.toArray n) news news') (hz : vs.length ≤ sizeLine)
    (h : ∀ h', Fr h₀ L h' m → News h₀ L h' news' → Q .none { s with heap := h' }) : wpAny (model prog w) A (call (.builtin "list.reverse") [.ref D]) Q E s :=
  kl_reverse F N (by simp) U (by simpa using hz) h
theorem pop_K {D : Addr} {p : List Value} {y : Value} {n : Nat} {news' : List (Addr × Obj)} {Q : Value → Shared → Prop} (F : Fr h₀ L s.heap m) (N : News h₀ L s.heap news) (U : Upd D (listOf (p ++ [y]).toArray n) (listOf p.toArray (n + 1)) news news') (hz : p.length < sizeLine)
    (h : ∀ h', Fr h₀ L h' m → News h₀ L h' news' → Q y { s with heap := h' }) : wpAny (model prog w) A (call (.builtin "list.pop") [.ref D]) Q E s :=
  kl_pop F N (p := p) (y := y) (by simpa using kpa_last y p) U (by simpa using Nat.succ_le_of_lt hz) h
theorem cut_at : ∀ (p q : List Value) (y : Value), kl_cut (p ++ y :: q) p.length = some (p, y, q)
  | [], _, _ => rfl
  | x :: p, q, y => by
    show (match kl_cut (p ++ y :: q) p.length with | some (p, y, q) => some (x :: p, y, q) | none => none) = some (x :: p, y, q)
    rw [cut_at p q y]
theorem popI_K {D : Addr} {vs : List Value} {i : Int} {k : Nat} {u : Tok} {n : Nat} {news' : List (Addr × Obj)} {Q : Value → Shared → Prop} (F : Fr h₀ L s.heap m) (N : News h₀ L s.heap news) (hi : i = k) (hk : k < vs.length) (U : Upd D (listOf vs.toArray n) (listOf (vs.eraseIdx k).toArray (n + 1)) news news') (hz : vs.length ≤ sizeLine)
    (h : ∀ h', Fr h₀ L h' m → News h₀ L h' news' → Q vs[k] { s with heap := h' }) : wpAny (model prog w) A (call (.builtin "list.pop") [.ref D, .int i u]) Q E s := by
  have hs : sizeLine = 16777216 := PySem.sizeLine_eq
  have e : vs = vs.take k ++ vs[k] :: vs.drop (k + 1) := by
    rw [List.getElem_cons_drop, List.take_append_drop]
  have e2 : vs.eraseIdx k = vs.take k ++ vs.drop (k + 1) := List.eraseIdx_eq_take_drop_succ ..
  have hl : (vs.take k).length = k := by rw [List.length_take]; omega
  subst hi
  refine kl_popAt F N (its := vs.toArray) (k := k) (p := vs.take k) (q := vs.drop (k + 1)) (y := vs[k]) ?_ ?_ ?_ (e2 ▸ U) (by simpa using hz) h
  · have h1 : (k : Int) < 2 ^ 63 := by omega
    have h2 : -(2 ^ 63 : Int) ≤ (k : Int) := by omega
    unfold Builtin.List.listFitsIndex
    simp only [Bool.and_eq_true, decide_eq_true_eq]
    omega
  · have h0 : ¬ ((k : Int) < 0) := by omega
    have h1 : (decide (0 ≤ (k : Int)) && decide ((k : Int) < (vs.length : Int))) = true := by
      rw [Bool.and_eq_true]
      exact ⟨decide_eq_true (Int.natCast_nonneg k), decide_eq_true (by omega)⟩
    unfold seqIndex?
    simp only [List.size_toArray, if_neg h0]
    rw [if_pos h1, Int.toNat_natCast]
  · have := cut_at (vs.take k) (vs.drop (k + 1)) vs[k]
    rw [hl, ← e] at this
    simpa using this
theorem pop0_K {D : Addr} {p : List Value} {y : Value} {u : Tok} {n : Nat} {news' : List (Addr × Obj)} {Q : Value → Shared → Prop} (F : Fr h₀ L s.heap m) (N : News h₀ L s.heap news) (U : Upd D (listOf (y :: p).toArray n) (listOf p.toArray (n + 1)) news news') (hz : p.length < sizeLine)
    (h : ∀ h', Fr h₀ L h' m → News h₀ L h' news' → Q y { s with heap := h' }) : wpAny (model prog w) A (call (.builtin "list.pop") [.ref D, .int 0 u]) Q E s :=
  popI_K (vs := y :: p) (k := 0) F N rfl (Nat.succ_pos _) U (Nat.succ_le_of_lt hz) h
theorem appendV_K {D : Addr} {vs : List Value} {y : Value} {n : Nat} {news' : List (Addr × Obj)} {Q : Value → Shared → Prop} (F : Fr h₀ L s.heap m) (N : News h₀ L s.heap news) (U : Upd D (listOf vs.toArray n) (listOf (vs ++ [y]).toArray (n + 1)) news news') (hz : vs.length ≤ sizeLine)
    (h : ∀ h', Fr h₀ L h' m → News h₀ L h' news' → Q .none { s with heap := h' }) : wpAny (model prog w) A (call (.builtin "list.append") [.ref D, y]) Q E s := by
  refine append_K F N (its := vs.toArray) (n := n) (by simpa using U) ?_ (by simpa using hz)
  exact h
theorem sum_len_flatten : ∀ ls : List (List Nat), ((ls.map tx).map (·.length)).sum = ls.flatten.length
  | [] => rfl
  | l :: r => by
    simp only [List.map_cons, List.sum_cons, List.flatten_cons, List.length_append, tx_len, sum_len_flatten r]
theorem joinTx_K {D : Addr} {vs : List Value} {ls : List (List Nat)} {t : Tok} {n : Nat} {Q : Value → Shared → Prop} (N : News h₀ L s.heap news) (hm : (D, listOf vs.toArray n) ∈ news) (hs : StrsAre vs (ls.map tx)) (hz : ls.flatten.length ≤ sizeLine)
    (h : ∀ t' k, Q (.str (tx ls.flatten) t') { s with toks := k }) : wpAny (model prog w) A (call (.builtin "str.join") [.str (Str.ofString "") t, .ref D]) Q E s := by
  refine join_list (items := vs.toArray) ⟨_, (N _ hm).1, rfl, n, rfl⟩ (by simpa using hs) ?_ fun t' k => ?_
  · rw [sum_len_flatten, len_empty, Nat.mul_zero]; exact hz
  · rw [join_empty]; exact h t' k
theorem truthyNe_K {D : Addr} {vs : List Value} {n : Nat} {Q : Bool → Shared → Prop} (N : News h₀ L s.heap news) (hm : (D, listOf vs.toArray n) ∈ news) (hz : vs.length ≤ sizeLine) (hne : vs ≠ []) (h : ∀ tk, Q true { s with toks := tk }) :
    wpAny (model prog w) A (truthy (.ref D)) Q E s := by
  have hb : sizeLine = 16777216 := PySem.sizeLine_eq
  refine wpAny_truthy_list (items := vs.toArray) ⟨_, (N _ hm).1, rfl, n, rfl⟩ (by rw [List.size_toArray]; omega) ?_
  have e : (!vs.toArray.isEmpty) = true := by
    cases vs with
    | nil => exact absurd rfl hne
    | cons _ _ => rfl
  rw [e]; exact h _
theorem truthyNil_K {D : Addr} {n : Nat} {Q : Bool → Shared → Prop} (N : News h₀ L s.heap news) (hm : (D, listOf #[] n) ∈ news) (h : ∀ tk, Q false { s with toks := tk }) :
    wpAny (model prog w) A (truthy (.ref D)) Q E s := by
  refine wpAny_truthy_list (items := #[]) ⟨_, (N _ hm).1, rfl, n, rfl⟩ (by decide) ?_
  exact h _
end

section
variable {prog : Program} {w : World} {A A₀ : Around} {s : Shared} {K : Frag} {L : Addr} {h₀ base : Heap} {m mg mb : Str → Option Value} {news : List (Addr × Obj)} {p : Program} {loose : List Str} {mean : ExcName → Option Value}
/-- code_def that also tells what the callee's ground keeps -/
theorem codeK {env : Env} {outer : List Env} {R : Result → Shared → Prop} {name qual : Str} {params : Arguments} {body : List Stmt} {scope : Scope} {dV kV doc pm cdv ct oc : Value} {an od : Option Addr} {osl : Array (Option Value)} {f : Addr} {args : Args} {binds : List (Str × Value)}
    (B : Below A₀ base outer h₀) (F : Fr h₀ L s.heap m) (X₀ : K.In h₀) (N : News h₀ L s.heap news) (T : Top p loose mean mg mb h₀) (hA : A.frames = some (env :: outer)) (hf : env.frame = some L) (hke : env.scope.kind = .function)
    (ho : K.lookup f = some ⟨oc, od, .func (fnOf name qual params body scope dV kV doc pm an cdv ct), osl⟩) (hcd : codeIn K cdv qual = true) (hroom : A.depth < recursionLimit)
    (hbind : BindsTo s (fnOf name qual params body scope dV kV doc pm an cdv ct) args binds) (hloc : ∀ y ∈ binds, scope.names.lookup y.1 = some .local)
    (h : ∀ g L' h₁, (∀ b o, s.heap.get? b = some o → b ∉ news.map (·.1) → g.get? b = some o) → (∀ (b : Nat) o, s.heap.get? b = some o → @LT.lt Nat _ b L') → (∀ p ∈ news, p.1 < L') → Fr h₀ L g m → Fr g L' h₁ (fun y => binds.reverse.lookup y) → News g L' h₁ news → Below A base (env :: outer) g → K.In g → Top p loose mean mg mb g →
      wpAny (model prog w) (A.deeper (envOf qual scope L' f cdv)) (execs body (envOf qual scope L' f cdv))
        (fun fl s' => LeaveK h₀ L m g R (match fl with | .ret v => v | _ => .none) s')
        (fun e s' => wpAny (model prog w) (A.deeper (envOf qual scope L' f cdv)) (leaving (envOf qual scope L' f cdv) e) (fun _ s'' => R (.error e) s'') (fun e' s'' => R (.error e') s'') s')
        { s with heap := h₁, toks := s.toks + binds.length })
    (hco : scope.isCoroutine = false) (hgen : scope.isGenerator = false) (hk : scope.kind = .function)
    (hcell : ∀ x ∈ scope.names, x.2 ≠ .cell) : codeAny (model prog w) A (.call (.ref f) args) R s := by
  obtain ⟨FG, BG, st, lv⟩ := groundX (R := R) B F N hA hf hke
  refine codeAny_call_def (fd := fnOf name qual params body scope dV kV doc pm an cdv ct) (body := body) (binds := binds) hroom ((X₀.keeps F.keep) _ _ ho) rfl (T.nolimit.keeps F.keep) (codeRec_of (X₀.keeps F.keep) hcd) rfl hbind hcell hloc (fun h₁ hns hk₁ => ?_) hco hgen hk
  exact wpAny_mono (h _ s.heap.objs.size h₁ (fun b o e q => hideAll_get _ e q) (fun _ _ e => Heap.lt_size e) (fun p hp => Heap.lt_size (N p hp).1) FG ⟨hns, fun b o e => hk₁ b o (of_hideAll _ e), Nat.le_of_eq (hideAll_size _ _)⟩
    (fun p hp => ⟨hk₁ _ _ (N p hp).1, Nat.ne_of_lt (Heap.lt_size (N p hp).1), hideAll_none _ (List.mem_map_of_mem hp)⟩) BG (X₀.keeps st) (T.keeps st)) (fun fl s' hl => lv _ _ hl) fun _ _ y => y

theorem codeKC {env : Env} {outer : List Env} {R : Result → Shared → Prop} {name qual : Str} {params : Arguments} {body : List Stmt} {scope : Scope} {dV kV doc pm cdv ct oc : Value} {an od : Option Addr} {osl : Array (Option Value)} {f : Addr} {args : Args} {binds : List (Str × Value)}
    (B : Below A₀ base outer h₀) (F : Fr h₀ L s.heap m) (X₀ : K.In h₀) (N : News h₀ L s.heap news) (T : Top p loose mean mg mb h₀) (hA : A.frames = some (env :: outer)) (hf : env.frame = some L) (hke : env.scope.kind = .function)
    (ho : K.lookup f = some ⟨oc, od, .func (fnOf name qual params body scope dV kV doc pm an cdv ct), osl⟩) (hcd : codeIn K cdv qual = true) (hroom : A.depth < recursionLimit)
    (hbind : BindsTo s (fnOf name qual params body scope dV kV doc pm an cdv ct) args binds) (hkind : (binds.all fun y => scope.names.lookup y.1 == some .local || scope.names.lookup y.1 == some .cell) = true)
    (hnd : ((cellsFrom 0 scope.names []).map (·.1)).Nodup)
    (h : ∀ g L' h₁ tk cells, (∀ b o, s.heap.get? b = some o → b ∉ news.map (·.1) → g.get? b = some o) → (∀ (b : Nat) o, s.heap.get? b = some o → @LT.lt Nat _ b L') → Fr h₀ L g m → Fr g L' h₁ (bindL (envOfC qual scope L' f cdv).kindOf binds fun _ => none) → News g L' h₁ (cells ++ news) →
      CellsAre (bindC (envOfC qual scope L' f cdv).kindOf binds fun _ => none) (cellsFrom (L' + 1) scope.names []) cells → Below A base (env :: outer) g → K.In g → Top p loose mean mg mb g → (∀ p ∈ news, p.1 < L') →
      wpAny (model prog w) (A.deeper (envOfC qual scope L' f cdv)) (execs body (envOfC qual scope L' f cdv))
        (fun fl s' => LeaveK h₀ L m g R (match fl with | .ret v => v | _ => .none) s')
        (fun e s' => wpAny (model prog w) (A.deeper (envOfC qual scope L' f cdv)) (leaving (envOfC qual scope L' f cdv) e) (fun _ s'' => R (.error e) s'') (fun e' s'' => R (.error e') s'') s')
        { s with heap := h₁, toks := tk })
    (hco : scope.isCoroutine = false) (hgen : scope.isGenerator = false) (hk : scope.kind = .function) : codeAny (model prog w) A (.call (.ref f) args) R s := by
  obtain ⟨FG, BG, st, lv⟩ := groundX (R := R) B F N hA hf hke
  refine codeAny_call_function hroom ((X₀.keeps F.keep) _ _ ho) rfl hco hgen rfl (codeRec_of (X₀.keeps F.keep) hcd) (hbind _ _ _ _ ?_)
  refine wpAny_newFunctionEnv_cells hk (kindsX hkind _) fun env' he s' x => ?_
  subst he
  refine ⟨(T.nolimit.keeps F.keep).keeps x.toInCall.keep, codeAny_func ?_⟩
  obtain ⟨h₁, tk, rfl, _⟩ := x.done
  have hk₁ := x.toInCall.keep
  obtain ⟨cells, NC, Y⟩ := Cl.news (h₀ := s.heap) (Nat.le_refl _) fun n c hm => ⟨x.cell n c (lookup_of_mem_nodup (cellsFrom_names scope.names 0 (s.heap.objs.size + 1) [] [] rfl ▸ hnd) hm), x.above n c hm⟩
  refine wpAny_mono (h _ s.heap.objs.size h₁ tk cells (fun b o e q => hideAll_get _ e q) (fun _ _ e => Heap.lt_size e) FG ⟨x.toInCall.ns, fun b o e => hk₁ b o (of_hideAll _ e), Nat.le_of_eq (hideAll_size _ _)⟩ (fun p hp => ?_) Y BG (X₀.keeps st) (T.keeps st) (fun p hp => Heap.lt_size (N p hp).1)) (fun fl s' hl => lv _ _ hl) fun _ _ y => y
  rcases List.mem_append.mp hp with hp | hp
  · refine ⟨(NC p hp).1, (NC p hp).2.1, ?_⟩
    cases q : (hideAll s.heap (news.map (·.1))).get? p.1 with
    | none => rfl
    | some o => have := of_hideAll _ q; rw [(NC p hp).2.2] at this; cases this
  · exact ⟨hk₁ _ _ (N p hp).1, Nat.ne_of_lt (Heap.lt_size (N p hp).1), hideAll_none _ (List.mem_map_of_mem hp)⟩
end
end Mine
end
section
open PySem PySem.W PySem.Spec PySem.Calls PyProof.Rows
set_option Elab.async false
set_option maxRecDepth 100000
namespace Mine
theorem slot_ci_next : Slot "callable_iterator" "__next__" "callable_iterator.__next__" :=
  .of (owner := "callable_iterator") (n := "__next__") (by rw [typeLookup_type, builtinLookup_eq_fast]; kernel_rfl) (by decide +kernel) (by decide +kernel) (by decide +kernel)
    (by first | exact .inl (by decide +kernel) | exact .inr (by decide +kernel)) (by rw [isSubtype_type]; kernel_rfl)
theorem entry_ci_next : entryFor table "callable_iterator.__next__" = some Builtin.«callable_iterator.__next__» := entryFor_of_tree (by kernel_rfl)
theorem args_ci_next (a : Value) : argsOk "callable_iterator.__next__" ⟨[a], []⟩ := by unfold argsOk; kernel_rfl
theorem slot_ci_iter : Slot "callable_iterator" "__iter__" "callable_iterator.__iter__" :=
  .of (owner := "callable_iterator") (n := "__iter__") (by rw [typeLookup_type, builtinLookup_eq_fast]; kernel_rfl) (by decide +kernel) (by decide +kernel) (by decide +kernel)
    (by first | exact .inl (by decide +kernel) | exact .inr (by decide +kernel)) (by rw [isSubtype_type]; kernel_rfl)
theorem entry_ci_iter : entryFor table "callable_iterator.__iter__" = some Builtin.«dict_keyiterator.__iter__» :=
  entryFor_alias (id' := "dict_keyiterator.__iter__") (by kernel_rfl) rfl (by decide +kernel) (by kernel_rfl)
theorem args_ci_iter (a : Value) : argsOk "callable_iterator.__iter__" ⟨[a], []⟩ := by unfold argsOk; kernel_rfl

theorem slot_method_call : Slot "method" "__call__" "method.__call__" :=
  .of (owner := "method") (n := "__call__") (by rw [typeLookup_type, builtinLookup_eq_fast]; kernel_rfl) (by decide +kernel) (by decide +kernel) (by decide +kernel)
    (by first | exact .inl (by decide +kernel) | exact .inr (by decide +kernel)) (by rw [isSubtype_type]; kernel_rfl)
theorem entry_iter : entryFor table "iter" = some Builtin.«iter» := entryFor_of_fast (by kernel_rfl)
theorem args_iter2 (a b : Value) : argsOk "iter" ⟨[a, b], []⟩ := by unfold argsOk; kernel_rfl
noncomputable abbrev ciObj (f snt : Value) (b : Bool) : Obj := { cls := .type "callable_iterator", data := .fields #[f, snt, .bool b] }
section
variable {prog : Program} {w : World} {A : Around} {E : Value → Shared → Prop} {s : Shared}

theorem ci_iter {it : Addr} {f snt : Value} {b : Bool} {Q : Value → Shared → Prop} (hi : s.heap.get? it = some (ciObj f snt b)) (h : Q (.ref it) s) : wpAny (model prog w) A (pyIter (.ref it)) Q E s := by
  have hT : s.TypeIs (.ref it) "callable_iterator" := ⟨_, hi, rfl⟩
  refine wpAny_pyIter_slot hT slot_ci_iter (wpAny_call_entry slot_ci_iter hT entry_ci_iter ?_ (args_ci_iter _))
  show wpAny _ _ (ret (.ref it)) _ _ s
  exact wpAny_pure ⟨_, rfl, "callable_iterator", _, hT, slot_ci_next.lookup, h⟩

theorem borrows_method {q g : Addr} {self : Value} {Q : Bool → Shared → Prop} {og : Obj} {fd : FuncData} (hq : s.heap.get? q = some (methodObj (.ref g) self)) (hg : s.heap.get? g = some og) (hf : og.data = .func fd) (h : Q true s) :
    wpAny (model prog w) A (borrowsExactly (.ref q)) Q E s := by
  obtain ⟨oc, od, dt, os⟩ := og
  dsimp only at hf
  subst hf
  unfold borrowsExactly
  refine wpAny_bind (wpAny_load hq ?_)
  refine wpAny_bind (wpAny_load hg ?_)
  exact wpAny_pure h

theorem ci_next {it q g : Addr} {self : Value} {x0 : Str} {t0 : Tok} {og : Obj} {fd : FuncData} {Q : Option Value → Shared → Prop} (hh : A.handled = none)
    (hi : s.heap.get? it = some (ciObj (.ref q) (.str x0 t0) false)) (hq : s.heap.get? q = some (methodObj (.ref g) self)) (hg : s.heap.get? g = some og) (hf : og.data = .func fd)
    (hc : codeAny (model prog w) A.in1 (.call (.ref g) ⟨[self], []⟩) (fun r s' => ∃ y t, r = .ok (.ret (.str y t)) ∧ s'.heap.get? it = some (ciObj (.ref q) (.str x0 t0) false) ∧
      s'.heap.get? q = some (methodObj (.ref g) self) ∧ s'.heap.get? g = some og ∧
      (x0 ≠ y → Q (some (.str y t)) s') ∧ (x0 = y → ∀ h', (∀ b o, b ≠ it → s'.heap.get? b = some o → h'.get? b = some o) → h'.get? it = some (ciObj .none .none true) → Q none { s' with heap := h' })) s) :
    wpAny (model prog w) A (pyNext (.ref it)) Q E s := by
  have hT : s.TypeIs (.ref it) "callable_iterator" := ⟨_, hi, rfl⟩
  unfold pyNext
  refine wpAny_bind (wpAny_attempt (wpAny_callSpecial?_slot (name := Str.ofString "__next__") hT slot_ci_next
    (wpAny_call_entry slot_ci_next hT entry_ci_next ?_ (args_ci_next _))))
  show wpAny _ _ (field (.ref it) 2 >>= _) _ _ s
  refine wpAny_bind (wpAny_field hi rfl (x := .bool false) rfl ?_)
  show wpAny _ _ (field (.ref it) 0 >>= _) _ _ s
  refine wpAny_bind (wpAny_field hi rfl (x := .ref q) rfl ?_)
  refine wpAny_bind (wpAny_attempt ?_)
  unfold callOutOfASlot
  refine wpAny_bind (borrows_method hq hg hf ?_)
  rw [if_pos rfl]
  unfold callBorrowed
  refine W.X.x_call ?_ (by intro h; cases h)
  refine W.method_call hq ?_
  refine codeAny_mono hc fun r s' hr => ?_
  obtain ⟨y, t, rfl, hi', hq', hg', h1, h2⟩ := hr
  refine wpAny_pure ?_
  dsimp only
  refine wpAny_bind (wpAny_field hi' rfl (x := .bool false) rfl ?_)
  show wpAny _ _ (field (.ref it) 1 >>= _) _ _ s'
  refine wpAny_bind (wpAny_field hi' rfl (x := .str x0 t0) rfl ?_)
  refine wpAny_bind (wpAny_holding (eqBool_str ?_))
  by_cases e : x0 = y
  · have e' : (x0 == y) = true := beq_iff_eq.mpr e
    rw [e', if_neg (by decide)]
    refine wpAny_bind (wpAny_rule ?_)
    show wpAny _ _ ((field (.ref it) 0 >>= fun v => slotLetsGo _ v _ >>= _) >>= _) _ _ s'
    refine wpAny_bind (wpAny_bind (wpAny_field hi' rfl (x := .ref q) rfl ?_))
    unfold slotLetsGo
    refine wpAny_bind (wpAny_bind (borrows_method hq' hg' hf ?_))
    rw [if_pos rfl]
    refine wpAny_pure ?_
    refine wpAny_bind (wpAny_setField_rec hi' (by simp) fun ha ga sa => ?_)
    refine wpAny_bind (wpAny_setField_rec ga (by simp) fun hb gb sb => ?_)
    refine wpAny_setField_rec gb (by simp) fun hd gd sd => ?_
    show wpAny _ _ (newExc (.type "StopIteration") [] >>= _) _ _ _
    refine wpAny_bind ?_
    simp only [newExc, newTuple]
    refine wpAny_bind (wpAny_newObj_type ?_ (by size_fits))
    refine wpAny_bind (m := firstArgMember _ _) (wpAny_of_eq (a := Value.none) (by first | rfl | (simp only [firstArgMember]; rfl)) ?_)
    refine wpAny_newObj_type ?_ (by size_fits)
    simp only [raiseNew]
    refine wpAny_bind (wpAny_handled ?_)
    rw [show A.in1.handled = none from hh]
    refine wpAny_bind (wpAny_pure (wpAny_throw ?_))
    refine wpAny_bind (wpAny_isInstance (T := "StopIteration") (b := true) ⟨_, Heap.get?_push_size _ rfl, rfl⟩ isSubtype_stop ?_)
    refine wpAny_pure (h2 e _ (fun b o hb he => ?_) ?_)
    · exact Heap.get?_push_of_some _ (Heap.get?_push_of_some _ (sd.extBut _ _ hb (sb.extBut _ _ hb (sa.extBut _ _ hb he))))
    · exact Heap.get?_push_of_some _ (Heap.get?_push_of_some _ gd)
  · have e' : (x0 == y) = false := beq_eq_false_iff_ne.mpr e
    rw [e', if_pos (by decide)]
    exact wpAny_pure ⟨_, rfl, wpAny_pure (h1 e)⟩

theorem ci_done {it : Addr} {Q : Option Value → Shared → Prop} (hh : A.handled = none) (hi : s.heap.get? it = some (ciObj .none .none true))
    (h : ∀ h', (∀ b o, s.heap.get? b = some o → h'.get? b = some o) → Q none { s with heap := h' }) : wpAny (model prog w) A (pyNext (.ref it)) Q E s := by
  have hT : s.TypeIs (.ref it) "callable_iterator" := ⟨_, hi, rfl⟩
  unfold pyNext
  refine wpAny_bind (wpAny_attempt (wpAny_callSpecial?_slot (name := Str.ofString "__next__") hT slot_ci_next
    (wpAny_call_entry slot_ci_next hT entry_ci_next ?_ (args_ci_next _))))
  show wpAny _ _ (field (.ref it) 2 >>= _) _ _ s
  refine wpAny_bind (wpAny_field hi rfl (x := .bool true) rfl ?_)
  refine wpAny_bind (wpAny_rule ?_)
  show wpAny _ _ ((newExc (.type "StopIteration") [] >>= _) >>= _) _ _ _
  refine wpAny_bind (wpAny_bind ?_)
  simp only [newExc, newTuple]
  refine wpAny_bind (wpAny_newObj_type ?_ (by size_fits))
  refine wpAny_bind (m := firstArgMember _ _) (wpAny_of_eq (a := Value.none) (by first | rfl | (simp only [firstArgMember]; rfl)) ?_)
  refine wpAny_newObj_type ?_ (by size_fits)
  simp only [raiseNew]
  refine wpAny_bind (wpAny_handled ?_)
  rw [show A.in1.handled = none from hh]
  refine wpAny_bind (wpAny_pure (wpAny_throw ?_))
  refine wpAny_bind (wpAny_isInstance (T := "StopIteration") (b := true) ⟨_, Heap.get?_push_size _ rfl, rfl⟩ isSubtype_stop ?_)
  exact wpAny_pure (h _ fun b o he => Heap.get?_push_of_some _ (Heap.get?_push_of_some _ he))

theorem iter2_K {h₀ : Heap} {L : Addr} {m : Str → Option Value} {news : List (Addr × Obj)} {q : Addr} {f self snt : Value} {Q : Value → Shared → Prop} (F : Fr h₀ L s.heap m) (N : News h₀ L s.heap news) (hm : (q, methodObj f self) ∈ news)
    (h : ∀ it h', Fr h₀ L h' m → News h₀ L h' ((it, ciObj (.ref q) snt false) :: news) → (∀ p ∈ news, p.1 < it) → Q (.ref it) { s with heap := h' }) :
    wpAny (model prog w) A (call (.builtin "iter") [.ref q, snt]) Q E s := by
  refine call_function_entry (by decide +kernel) (by decide +kernel) entry_iter (args_iter2 _ _) ?_
  unfold Builtin.«iter»
  refine wpAny_bind (m := someArgs "iter" 1 2 _) (wpAny_of_eq (a := [Value.ref q, snt]) (by first | rfl | kernel_rfl!) ?_)
  dsimp only
  refine wpAny_bind (wpAny_specialOf (name := Str.ofString "__call__") ⟨_, (N _ hm).1, rfl⟩ slot_method_call.lookup ?_)
  refine wpAny_ite_split (fun hab => absurd hab (by decide)) (fun _ => ?_)
  refine wpAny_bind (wpAny_rule (wpAny_bind (wpAny_newObj_type ?_)))
  refine wpAny_pure ⟨_, rfl, h _ _ (F.push _) (fun p hp => ?_) (fun p hp => Heap.lt_size (N p hp).1)⟩
  rcases List.mem_cons.mp hp with rfl | hp
  · exact ⟨Heap.get?_push_size _ rfl, Nat.ne_of_gt F.ns.lt, none_at_size F⟩
  · exact ⟨Heap.get?_push_of_some _ (N p hp).1, (N p hp).2⟩
end
end Mine
end
section
open PySem PySem.W PySem.Spec PySem.Calls PyProof.Rows
set_option Elab.async false
set_option maxRecDepth 100000
namespace Mine
section
variable {prog : Program} {w : World} {A : Around} {E : Value → Shared → Prop} {s : Shared} {env : Env}

def TurnEnd (I : Nat → Shared → Prop) (Q : Flow → Shared → Prop) (n : Nat) (f : Flow) (s₃ : Shared) : Prop := match f with
  | .next => ∃ k, k < n ∧ I k s₃
  | .cont => ∃ k, k < n ∧ I k s₃
  | .brk => Q .next s₃
  | .ret v => Q (.ret v) s₃
def TurnOf (prog : Program) (w : World) (A : Around) (E : Value → Shared → Prop) (env : Env) (x : Str) (body : List Stmt) (I : Nat → Shared → Prop) (Q : Flow → Shared → Prop) (n : Nat) (r : Option Value) (s₁ : Shared) : Prop := match r with
  | none => Q .next s₁
  | some v => wpAny (model prog w) A (storeName env x v) (fun _ s₂ => wpAny (model prog w) A (execs body env) (TurnEnd I Q n) E s₂) E s₁

/-- a for over an iterator that stands, by an invariant with a measure -/
theorem for_inv {x : Str} {px pos : Pos} {iter : Expr} {body : List Stmt} {Q : Flow → Shared → Prop} (J : Addr) (n : Nat) (I : Nat → Shared → Prop)
    (h : wpAny (model prog w) A (eval iter env) (fun xv s₁ => wpAny (model prog w) A (pyIter xv) (fun it s₂ => it = .ref J ∧ I n s₂) E s₁) E s)
    (turn : ∀ n s, I n s → wpAny (model prog w) A (pyNext (.ref J)) (TurnOf prog w A E env x body I Q n) E s)
    (hE : PassesOwn (model prog w) A env E) (hs : ∀ x, foldedSetIterable iter env x = pure x := by intro _; rfl) :
    wpAny (model prog w) A (exec (.For (.Name x px) iter body [] pos) env) Q E s := by
  refine wpAny_For (wpAny_mono h (fun xv s₁ h₁ => wpAny_mono h₁ (fun it s₂ h₂ => ?_) fun _ _ z => z) fun _ _ z => z) hs
  obtain ⟨rfl, h₂⟩ := h₂
  refine codeAny_forLoop (R := fun r s' => match r with | .ok f => Q f s' | .error e => cameBackBy (model prog w) A env E e s') I ?_ n h₂
  intro k s' hk
  refine wpAny_passesOwn hE (wpAny_mono (turn k s' hk) (fun r s₁ hr => ?_) fun _ _ z => z)
  cases r with
  | none => exact wpAny_execs_nil hr
  | some y =>
    refine wpAny_passesOwn hE (wpAny_assign_Name (wpAny_mono hr (fun _ s₂ h₂ => ?_) fun _ _ z => z))
    refine wpAny_passesOwn hE (wpAny_mono h₂ (fun f s₃ h₃ => ?_) fun _ _ z => z)
    cases f with
    | next => exact h₃
    | cont => exact h₃
    | brk => exact h₃
    | ret _ => exact h₃
end
section
variable {prog : Program} {w : World} {A : Around} {E : Value → Shared → Prop} {s : Shared} {env : Env} {h₀ : Heap} {x : Str} {body : List Stmt} {Q : Flow → Shared → Prop} {target : Expr} {m : Str → Option Value} {news : List (Addr × Obj)}
theorem AllObj.mono' : ∀ {ws : List (Addr × String)} {k k' : List (Addr × Obj) → Prop}, (∀ its, k its → k' its) → AllObj ws k → AllObj ws k'
  | [], _, _, f, h => f _ h
  | _ :: _, _, _, f, h => fun o ho => AllObj.mono' (fun _ => f _) (h o ho)
theorem UnrPostW.mono' {L : Addr} {s₁ s₂ : Shared} {its : List (Addr × Obj)} {r r' : (Str → Option Value) → List (Addr × Obj) → Prop} {f : Flow} (hr : ∀ m nw, r m nw → r' m nw) (h : UnrPostW h₀ L s₁ its r Q f s₂) : UnrPostW h₀ L s₁ its r' Q f s₂ := by
  cases f with
  | ret v => exact h
  | brk => exact h
  | next => obtain ⟨h', tk, m', nw, e, F, N, o, z⟩ := h; exact ⟨h', tk, m', nw, e, F, N, o, hr _ _ z⟩
  | cont => obtain ⟨h', tk, m', nw, e, F, N, o, z⟩ := h; exact ⟨h', tk, m', nw, e, F, N, o, hr _ _ z⟩
theorem UnrPost.mono' {L I : Addr} {it : Obj} {s₁ s₂ : Shared} {r r' : (Str → Option Value) → List (Addr × Obj) → Prop} {f : Flow} (hr : ∀ m nw, r m nw → r' m nw) (h : UnrPost h₀ L s₁ I it r Q f s₂) : UnrPost h₀ L s₁ I it r' Q f s₂ := by
  cases f with
  | ret v => exact h
  | brk => exact h
  | next => obtain ⟨h', tk, m', nw, e, F, N, o, z⟩ := h; exact ⟨h', tk, m', nw, e, F, N, o, hr _ _ z⟩
  | cont => obtain ⟨h', tk, m', nw, e, F, N, o, z⟩ := h; exact ⟨h', tk, m', nw, e, F, N, o, hr _ _ z⟩
/-- a for over a list or a tuple, by an invariant over the frame's names and the ledger -/
theorem items_inv {ws : List (Addr × String)} {keep : List (Addr × Obj)} {vs : List Value} (Inv : Nat → (Str → Option Value) → List (Addr × Obj) → Prop) (h0 : Inv 0 m news)
    (H : ∀ i v m nw h tk, vs[i]? = some v → Inv i m nw → Fr h₀ env.locals h m → AllObj ws (fun its => News h₀ env.locals h (its ++ nw) →
      wpAny (model prog w) A (assign target env v) (fun _ s₂ => wpAny (model prog w) A (execs body env) (UnrPostW h₀ env.locals { s with heap := h, toks := tk } its (fun m' n' => SubL keep n' ∧ Inv (i + 1) m' n') Q) E s₂) E { s with heap := h, toks := tk }))
    (fin : ∀ m nw h tk, Inv vs.length m nw → Fr h₀ env.locals h m → News h₀ env.locals h nw → Q .next { s with heap := h, toks := tk }) :
    ItemsRest prog w A E h₀ env target body Q s ws keep (vs.map .val) m news := by
  have key : ∀ (r : List Value) i m nw, i + r.length = vs.length → (∀ j v, r[j]? = some v → vs[i + j]? = some v) → Inv i m nw → ItemsRest prog w A E h₀ env target body Q s ws keep (r.map .val) m nw := by
    intro r
    induction r with
    | nil =>
      intro i m nw e _ hi
      exact ItemsRest.zero fun h tk F N => fin m nw h tk (by rw [← e, List.length_nil, Nat.add_zero]; exact hi) F N
    | cons v r ih =>
      intro i m nw e hv hi
      refine ItemsRest.val fun h tk F => AllObj.mono' (fun its k N => ?_) (H i v m nw h tk (by simpa using hv 0 v rfl) hi F)
      refine wpAny_mono (k N) (fun _ s₂ h₂ => wpAny_mono h₂ (fun f s₃ h₃ => UnrPostW.mono' (fun m' nw' z => ?_) h₃) fun _ _ z => z) fun _ _ z => z
      refine ⟨z.1, ih (i + 1) m' nw' (by rw [List.length_cons] at e; omega) (fun j u hj => ?_) z.2⟩
      have := hv (j + 1) u (by simpa using hj)
      rw [← this]; congr 1; omega
  exact key vs 0 m news (by omega) (fun j v hj => by simpa using hj) h0
/-- a for over a range, by an invariant -/
theorem range_inv {I : Addr} {a : Int} {n : Nat} (Inv : Nat → (Str → Option Value) → List (Addr × Obj) → Prop) (h0 : Inv 0 m news)
    (H : ∀ i t m nw h tk, i < n → Inv i m nw → Fr h₀ env.locals h (fun y => if y = x then some (.int (a + (i : Int)) t) else m y) → News h₀ env.locals h ((I, itR (a + ((i + 1 : Nat) : Int)) ((n : Int) - ((i + 1 : Nat) : Int))) :: nw) →
      wpAny (model prog w) A (execs body env) (UnrPost h₀ env.locals { s with heap := h, toks := tk } I (itR (a + ((i + 1 : Nat) : Int)) ((n : Int) - ((i + 1 : Nat) : Int))) (fun m' n' => Inv (i + 1) m' n') Q) E { s with heap := h, toks := tk })
    (fin : ∀ m nw h tk, Inv n m nw → Fr h₀ env.locals h m → News h₀ env.locals h nw → Q .next { s with heap := h, toks := tk }) :
    RangeRest prog w A E h₀ env x body Q s I a n n 0 m news := by
  have key : ∀ k i m nw, i + k = n → Inv i m nw → RangeRest prog w A E h₀ env x body Q s I a n k i m nw := by
    intro k
    induction k with
    | zero =>
      intro i m nw e hi
      exact RangeRest.zero fun h tk F N => fin m nw h tk (by rw [← e, Nat.add_zero]; exact hi) F N
    | succ k ih =>
      intro i m nw e hi
      refine RangeRest.succ fun t h tk F N => ?_
      exact wpAny_mono (H i t m nw h tk (by omega) hi F N) (fun f s₃ h₃ => UnrPost.mono' (fun m' nw' z => ih (i + 1) m' nw' (by omega) z) h₃) fun _ _ z => z
  exact key n 0 m news (by omega) h0
end
end Mine
end
section
open PySem PySem.W PySem.Spec PySem.Calls PyProof.Rows
set_option Elab.async false
set_option maxRecDepth 100000
namespace Mine
section
variable {prog : Program} {w : World} {A : Around} {E : Value → Shared → Prop} {s : Shared} {h₀ : Heap} {L : Addr} {m : Str → Option Value} {env : Env} {elt : Expr} {x : Str} {scope : Scope} {cl : List (Str × Addr)}
  {S : List (Addr × Obj) → Prop} {P : Nat → Value → Prop} {Fin : List Value → List (Addr × Obj) → Prop} {news : List (Addr × Obj)}

/-- a comprehension's turns by an invariant over what was made so far and the ledger -/
theorem rest_inv (Inv : Nat → List Value → List (Addr × Obj) → Prop) {n : Nat} (h0 : Inv 0 [] news)
    (H : ∀ i ys nw v I oI C oC D m₂ h tk (E' : Value → Shared → Prop), i < n → Inv i ys nw → P i v → LCg.NsObj oC m₂ → m₂ x = some v → Fr h₀ L h m → News h₀ L h ((I, oI) :: (C, oC) :: (D, LCg.lst ys) :: nw) → LCg.Off3 I C D nw → ((@Ne Nat I C) ∧ (@Ne Nat I D) ∧ (@Ne Nat C D)) →
      wpAny (model prog w) A (eval elt (compEnvC scope cl C env)) (LCg.CompEnd h₀ L m { s with heap := h, toks := tk } I oI C oC D (LCg.lst ys) S (fun y nw' => Inv (i + 1) (ys ++ [y]) nw')) E' { s with heap := h, toks := tk })
    (fin : ∀ ys nw, Inv n ys nw → Fin ys nw) : LCg.CompRest prog w A h₀ L m env elt x scope cl s S P Fin n 0 [] news := by
  have key : ∀ k i ys nw, i + k = n → Inv i ys nw → LCg.CompRest prog w A h₀ L m env elt x scope cl s S P Fin k i ys nw := by
    intro k
    induction k with
    | zero =>
      intro i ys nw e hi
      exact LCg.CompRest.zero (fin ys nw (by rw [← e, Nat.add_zero]; exact hi))
    | succ k ih =>
      intro i ys nw e hi
      refine LCg.CompRest.succ ?_
      intro v I oI C oC D m₂ h tk E' hP hns hm F N off hne
      refine wpAny_mono (H i ys nw v I oI C oC D m₂ h tk E' (by omega) hi hP hns hm F N off hne) (fun y s₂ hy => ?_) fun _ _ z => z
      obtain ⟨h', tk', nw', e1, F', N', off', hS', hr⟩ := hy
      exact ⟨h', tk', nw', e1, F', N', off', hS', ih (i + 1) _ _ (by omega) hr⟩
  exact key n 0 [] news (by omega) h0

/-- the same with a test -/
theorem restT_inv {ct : Expr} (Inv : Nat → List Value → List (Addr × Obj) → Prop) {n : Nat} (h0 : Inv 0 [] news)
    (H : ∀ i ys nw v I oI C oC D m₂ h tk (E' : Value → Shared → Prop), i < n → Inv i ys nw → P i v → LCg.NsObj oC m₂ → m₂ x = some v → Fr h₀ L h m → News h₀ L h ((I, oI) :: (C, oC) :: (D, LCg.lst ys) :: nw) → LCg.Off3 I C D nw → ((@Ne Nat I C) ∧ (@Ne Nat I D) ∧ (@Ne Nat C D)) →
      wpAny (model prog w) A (isTrue ct (compEnvC scope cl C env) (eval ct (compEnvC scope cl C env))) (fun ok s' => if ok = true then
        wpAny (model prog w) A (eval elt (compEnvC scope cl C env)) (LCg.CompEnd h₀ L m { s with heap := h, toks := tk } I oI C oC D (LCg.lst ys) S (fun y nw' => Inv (i + 1) (ys ++ [y]) nw')) E' s'
        else LCg.CompEnd h₀ L m { s with heap := h, toks := tk } I oI C oC D (LCg.lst ys) S (fun _ nw' => Inv (i + 1) ys nw') Value.none s') E' { s with heap := h, toks := tk })
    (fin : ∀ ys nw, Inv n ys nw → Fin ys nw) : LCt.CompRestT prog w A h₀ L m env ct elt x scope cl s S P Fin n 0 [] news := by
  have key : ∀ k i ys nw, i + k = n → Inv i ys nw → LCt.CompRestT prog w A h₀ L m env ct elt x scope cl s S P Fin k i ys nw := by
    intro k
    induction k with
    | zero =>
      intro i ys nw e hi
      exact LCt.CompRestT.zero (fin ys nw (by rw [← e, Nat.add_zero]; exact hi))
    | succ k ih =>
      intro i ys nw e hi
      refine LCt.CompRestT.succ ?_
      intro v I oI C oC D m₂ h tk E' hP hns hm F N off hne
      refine wpAny_mono (H i ys nw v I oI C oC D m₂ h tk E' (by omega) hi hP hns hm F N off hne) (fun ok s₂ hy => ?_) fun _ _ z => z
      cases ok with
      | true =>
        simp only [if_true] at hy ⊢
        refine wpAny_mono hy (fun y s₃ hz => ?_) fun _ _ z => z
        obtain ⟨h', tk', nw', e1, F', N', off', hS', hr⟩ := hz
        exact ⟨h', tk', nw', e1, F', N', off', hS', ih (i + 1) _ _ (by omega) hr⟩
      | false =>
        simp only [Bool.false_eq_true, if_false] at hy ⊢
        obtain ⟨h', tk', nw', e1, F', N', off', hS', hr⟩ := hy
        exact ⟨h', tk', nw', e1, F', N', off', hS', ih (i + 1) _ _ (by omega) hr⟩
  exact key n 0 [] news (by omega) h0

/-- the same for pairs -/
theorem restP_inv {x₂ : Str} (Inv : Nat → List Value → List (Addr × Obj) → Prop) {n : Nat} (h0 : Inv 0 [] news)
    (H : ∀ i ys nw v, i < n → Inv i ys nw → P i v → ∃ (t : Addr) (ot : Obj) (v₁ v₂ : Value) (nt : Nat), v = .ref t ∧ (t, ot) ∈ nw ∧ ot.cls = .type "tuple" ∧ ot.data = .seq #[v₁, v₂] nt ∧
      ∀ I oI C oC D m₂ h tk (E' : Value → Shared → Prop), LCg.NsObj oC m₂ → m₂ x = some v₁ → m₂ x₂ = some v₂ → Fr h₀ L h m → News h₀ L h ((I, oI) :: (C, oC) :: (D, LCg.lst ys) :: nw) → LCg.Off3 I C D nw → ((@Ne Nat I C) ∧ (@Ne Nat I D) ∧ (@Ne Nat C D)) →
      wpAny (model prog w) A (eval elt (compEnvC scope cl C env)) (LCg.CompEnd h₀ L m { s with heap := h, toks := tk } I oI C oC D (LCg.lst ys) S (fun y nw' => Inv (i + 1) (ys ++ [y]) nw')) E' { s with heap := h, toks := tk })
    (fin : ∀ ys nw, Inv n ys nw → Fin ys nw) : LCp.CompRestP prog w A h₀ L m env elt x x₂ scope cl s S P Fin n 0 [] news := by
  have key : ∀ k i ys nw, i + k = n → Inv i ys nw → LCp.CompRestP prog w A h₀ L m env elt x x₂ scope cl s S P Fin k i ys nw := by
    intro k
    induction k with
    | zero =>
      intro i ys nw e hi
      exact LCp.CompRestP.zero (fin ys nw (by rw [← e, Nat.add_zero]; exact hi))
    | succ k ih =>
      intro i ys nw e hi
      refine LCp.CompRestP.succ ?_
      intro v hP
      obtain ⟨t, ot, v₁, v₂, nt, e1, e2, e3, e4, K⟩ := H i ys nw v (by omega) hi hP
      refine ⟨t, ot, v₁, v₂, nt, e1, e2, e3, e4, ?_⟩
      intro I oI C oC D m₂ h tk E' hns hm hm2 F N off hne
      refine wpAny_mono (K I oI C oC D m₂ h tk E' hns hm hm2 F N off hne) (fun y s₂ hy => ?_) fun _ _ z => z
      obtain ⟨h', tk', nw', e1, F', N', off', hS', hr⟩ := hy
      exact ⟨h', tk', nw', e1, F', N', off', hS', ih (i + 1) _ _ (by omega) hr⟩
  exact key n 0 [] news (by omega) h0

theorem str_st {I : Addr} {x : Str} {t : Tok} : ∀ i (h h' : Heap) (o : Obj) (nw : List (Addr × Obj)), h.IsStrIter I "str_ascii_iterator" x t i → h.get? I = some o → h'.get? I = some o → (∀ b o, h₀.get? b = some o → h'.get? b = some o) → News h₀ L h' nw → True → h'.IsStrIter I "str_ascii_iterator" x t i :=
  fun i h h' o nw st e e' _ _ _ => by
    obtain ⟨o', q, r⟩ := st
    rw [e] at q; cases q
    exact ⟨o, e', r⟩

/-- a list comprehension over a text's signs -/
theorem ListComp_S {iter : Expr} {px pos : Pos} {Q : Value → Shared → Prop} (_F₀ : Fr h₀ L s.heap m)
    (hclos : closureFor scope env = pure cl) (hcell : ∀ y ∈ scope.names, y.2 ≠ .cell) (hkind : scope.kind = .function)
    (hnames : ∀ y ∈ scope.names, y.2 = .local → scope.names.lookup y.1 = some .local) (hx : scope.names.lookup x = some .local)
    (h : wpAny (model prog w) A (eval iter env) (fun xv s₁ => ∃ y t news, xv = .str y t ∧ A.handled = none ∧ y.cps.all (· < 128) = true ∧ y.cps.size ≤ sizeLine ∧ Fr h₀ L s₁.heap m ∧ News h₀ L s₁.heap news ∧
      ∀ g, LCg.CompRest prog w A h₀ L m env elt x scope cl { s₁ with heap := g } (fun _ => True) (SignAt y) (LCg.FinE h₀ L m { s₁ with heap := g } Q) y.cps.size 0 [] news) E s)
    (hs : ∀ x, foldedSetIterable iter env x = pure x := by intro _; rfl) :
    wpAny (model prog w) A (eval (.ListComp elt [⟨.Name x px, iter, [], 0⟩] scope pos) env) Q E s := by
  rw [eval_ListComp]
  refine wpAny_comprehension_free (use := none) rfl hs hclos hkind hnames (wpAny_mono h (fun xv s₁ h₁ => ?_) fun _ _ e => e)
  obtain ⟨y, t, news, rfl, hh, ha, hsz, F, N, R⟩ := h₁
  refine wpAny_pyIter_ascii ha ?_
  refine LCg.block_U (Walks.strAscii hh _ y t) hsz (fun i h st => by obtain ⟨o, e, _⟩ := st; exact ⟨o, e⟩) str_st hcell hkind hx ⟨_, Heap.get?_push_size _ rfl, rfl, rfl⟩ (fun b hb => ?_)
    (F.keeps fun _ _ e => Heap.get?_push_of_some _ e) (N.grown fun _ _ e => Heap.get?_push_of_some _ e) (Nat.ne_of_lt F.ns.lt) (next_is_new F) (fun p hp => Nat.ne_of_lt (Heap.lt_size (N p hp).1)) trivial (R _) ?_
  · rw [List.mem_singleton.mp hb]
    show s₁.heap.objs.size < (s₁.heap.push _).objs.size
    rw [Heap.size_push]; exact Nat.lt_succ_self _
  · intro D C h tk m' ys news' F' N' o1 hn hC₀ hD₀ hCL hDL hCD offC fin
    refine ⟨m', hn, fun h'' hs'' => fin D h'' tk (F'.change hs'' hCL hC₀) (fun p hp => ?_) o1⟩
    refine ⟨hs''.extBut _ _ ?_ (N' p hp).1, (N' p hp).2⟩
    rcases List.mem_cons.mp hp with rfl | hp
    · exact Ne.symm hCD
    · exact offC p hp
/-- what a comprehension made lies apart from all that was there -/
theorem fresh_of {g h h0 : Heap} {L D : Addr} {o : Obj} {led rest : List (Addr × Obj)} (kg : ∀ b o, h0.get? b = some o → b ∉ led.map (·.1) → g.get? b = some o) (N : News g L h ((D, o) :: rest)) (off : LCg.Off1 D led) : ∀ (b : Nat) o', h0.get? b = some o' → b ≠ D := by
  intro b o' e q
  have mem : ∀ {l : List (Addr × Obj)}, LCg.Off1 D l → D ∉ l.map (·.1) := by
    intro l
    induction l with
    | nil => intro _ h; cases h
    | cons p r ih =>
      intro x h
      rcases List.mem_cons.mp h with z | z
      · exact x.1 z.symm
      · exact ih x.2 z
  have e' : h0.get? D = some o' := q ▸ e
  have := kg D o' e' (mem off)
  rw [(N _ List.mem_cons_self).2.2] at this
  cases this
end
end Mine
end
section
open PySem PySem.W PySem.Spec PySem.Calls PyProof.Rows
set_option Elab.async false
set_option maxRecDepth 100000
namespace Mine
/-! the two patterns of wsgiref.headers: no sign of the words is barred -/
open PySem.Builtin PySem.Builtin.Re in
theorem slot_re_search : Slot "re.Pattern" "search" "re.Pattern.search" :=
  .of (owner := "re.Pattern") (n := "search") (by rw [typeLookup_type, builtinLookup_eq_fast]; kernel_rfl) (by decide +kernel) (by decide +kernel) (by decide +kernel)
    (by first | exact .inl (by decide +kernel) | exact .inr (by decide +kernel)) (by rw [isSubtype_type]; kernel_rfl)
theorem plainAttrs_re : PlainAttrs "re.Pattern" :=
  ⟨⟨"object.__getattribute__", by rw [typeLookup_type, builtinLookup_eq_fast]; kernel_rfl, by decide +kernel⟩, by rw [typeLookup_type, builtinLookup_eq_fast]; kernel_rfl⟩
theorem type_re_search : typeOf (.builtin "re.Pattern.search") = pure (.type "method_descriptor") := by show builtinType _ = _; rw [builtinType_eq_fast]; kernel_rfl
theorem entry_re_search : entryFor table "re.Pattern.search" = some Builtin.«re.Pattern.search» := entryFor_of_tree (by kernel_rfl)
theorem args_re_search (a b : Value) : argsOk "re.Pattern.search" ⟨[a, b], []⟩ := by unfold argsOk; kernel_rfl

noncomputable def reName : Array Nat := #[14, 10, 4, 1, 1, 22, 0, 31, 16, 127, 0, 13, 7, 22, 0, 31, 16, 127, 0, 1]
noncomputable def reValue : Array Nat := #[14, 14, 4, 1, 1, 9, 4294966783, 0, 0, 2147483648, 0, 0, 0, 0, 0, 13, 11, 9, 4294966783, 0, 0, 2147483648, 0, 0, 0, 0, 0, 1]
/-- signs that both patterns let pass -/
noncomputable def reOk (c : Nat) : Bool := (32 ≤ c) && (c < 127)
def RePass (code : Array Nat) : Prop := ∀ c, reOk c = true → ∀ seen, ∃ seen', Sre.inSet code c code.size 5 true seen = .ok (false, seen')
theorem pass_of (code : Array Nat) (h : ∀ c : Fin 127, 32 ≤ c.1 → ∀ seen, ∃ seen', Sre.inSet code c.1 code.size 5 true seen = .ok (false, seen')) : RePass code := by
  intro c hc
  unfold reOk at hc
  rw [Bool.and_eq_true, decide_eq_true_eq, decide_eq_true_eq] at hc
  exact h ⟨c, hc.2⟩ hc.1
theorem reName_pass : RePass reName := by
  intro c hc seen
  unfold reOk at hc
  rw [Bool.and_eq_true, decide_eq_true_eq, decide_eq_true_eq] at hc
  refine ⟨((seen.add 22).add 16).add 0, ?_⟩
  show (if (decide (0 ≤ c) && decide (c ≤ 31)) = true then _ else if (c == 127) = true then _ else _) = _
  rw [if_neg (by simp; omega), if_neg (by simp; omega)]
  rfl
theorem bits_none : ∀ c : Fin 127, 32 ≤ c.1 → (decide (c.1 < 256) && (reValue.getD (5 + (1 + c.1 / 32)) 0).testBit (c.1 % 32)) = false := by decide +kernel
theorem reValue_pass : RePass reValue := by
  intro c hc seen
  unfold reOk at hc
  rw [Bool.and_eq_true, decide_eq_true_eq, decide_eq_true_eq] at hc
  refine ⟨(seen.add 9).add 0, ?_⟩
  show (if (decide (c < 256) && (reValue.getD (5 + (1 + c / 32)) 0).testBit (c % 32)) = true then _ else _) = _
  rw [bits_none ⟨c, hc.2⟩ hc.1, if_neg (by decide)]
  rfl
theorem admitted_none {m : Sre.M} (hp : RePass m.code) (ht : ∀ c ∈ m.text.toList, reOk c = true) (hl : m.lim ≤ m.text.size) : ∀ fuel s seen, ∃ seen', Sre.M.admitted m fuel s seen = .ok (none, seen')
  | 0, _, seen => ⟨seen, rfl⟩
  | fuel + 1, s, seen => by
    unfold Sre.M.admitted
    split
    · exact ⟨seen, rfl⟩
    · rename_i hs
      have hs' : s < m.text.size := by omega
      obtain ⟨seen', e⟩ := hp (m.text.getD s 0) (ht _ (by
        rw [Array.getD, dif_pos hs']
        simp)) seen
      rw [e]
      exact admitted_none hp ht hl fuel (s + 1) seen'
structure ReCode (code : Array Nat) : Prop where
  pass : RePass code
  set : ∀ m : Sre.M, m.code = code → m.hasFirstSet = true
  least : (Sre.header code).1 = 1
theorem reName_code : ReCode reName := ⟨reName_pass, fun m h => by unfold Sre.M.hasFirstSet; rw [h]; rfl, rfl⟩
theorem reValue_code : ReCode reValue := ⟨reValue_pass, fun m h => by unfold Sre.M.hasFirstSet; rw [h]; rfl, rfl⟩
theorem search_says {code text : Array Nat} (hc : ReCode code) (ht : ∀ c ∈ text.toList, reOk c = true) :
    (Sre.forSearch code text 0 0 text.size false).answer = some false ∧ (Sre.forSearch code text 0 0 text.size false).frames = [] ∧ (Sre.forSearch code text 0 0 text.size false).outcome = none := by
  have key : ∀ m : Sre.M, m.code = code → m.text = text → m.lim = text.size → m.frames = [] → m.outcome = none → ((m.attemptFrom 0 true).answer = some false ∧ (m.attemptFrom 0 true).frames = [] ∧ (m.attemptFrom 0 true).outcome = none) := by
    intro m e1 e2 e3 e4 e5
    unfold Sre.M.attemptFrom
    rw [hc.set m e1]
    obtain ⟨seen', e⟩ := admitted_none (m := m) (by rw [e1]; exact hc.pass) (by rw [e2]; exact ht) (by rw [e2, e3]; exact Nat.le_refl _) (m.lim + 1 - 0) 0 m.seen
    rw [e]
    exact ⟨rfl, e4, e5⟩
  unfold Sre.forSearch
  dsimp only
  split
  · exact ⟨rfl, rfl, rfl⟩
  · exact key _ rfl rfl rfl rfl rfl

section
variable {prog : Program} {w : World} {A : Around} {E : Value → Shared → Prop} {s : Shared}
theorem runFor_done (m : Sre.M) (h1 : m.answer = some false) (h2 : m.frames = []) (h3 : m.outcome = none) : (m.runFor 4).outcome = some .failed := by
  have e : m.step = { m with outcome := some .failed } := by
    unfold Sre.M.step
    rw [h3, h1, h2]
    rfl
  unfold Sre.M.runFor
  rw [h3, if_neg (by decide), e]
  unfold Sre.M.runFor
  rfl
theorem drive_done (m : Sre.M) (h1 : m.answer = some false) (h2 : m.frames = []) (h3 : m.outcome = none) : ∀ k, Builtin.Re.reDrive (k + 1) m = pure (m.runFor 4) := by
  intro k
  have e := runFor_done m h1 h2 h3
  show (if (m.runFor 4).outcome.isSome = true then pure (m.runFor 4) else _) = _
  rw [e]
  rfl
theorem run_none (m : Sre.M) (h1 : m.answer = some false) (h2 : m.frames = []) (h3 : m.outcome = none) {Q : Option Sre.M → Shared → Prop} (h : Q none s) : wpAny (model prog w) A (Builtin.Re.reRunToEnd m) Q E s := by
  have e := runFor_done m h1 h2 h3
  obtain ⟨k, hk⟩ : ∃ k, 2 ^ 64 = k + 1 := ⟨2 ^ 64 - 1, by decide⟩
  unfold Builtin.Re.reRunToEnd
  rw [hk, drive_done m h1 h2 h3 k]
  refine wpAny_bind (wpAny_pure ?_)
  refine wpAny_bind (wpAny_forIn_list _ (fun _ _ s' => s' = s) _ ?_ ?_ _ _ rfl)
  · rintro x rest b s' rfl
    split
    · exact wpAny_bind (wpAny_rule (wpAny_pure rfl))
    · exact wpAny_pure rfl
  · rintro b s' rfl
    rw [e]
    exact wpAny_pure h
theorem search_none {P T : Addr} {oP oT : Obj} {fs items : Array Value} {n : Nat} {x : Str} {t : Tok} {code : Array Nat} {Q : Value → Shared → Prop} (hP : s.heap.get? P = some oP) (hcl : oP.cls = .type "re.Pattern") (hd : oP.data = .fields fs)
    (h2 : fs.getD 2 .none = .int 0 0) (h5 : fs.getD 5 .none = .ref T) (h6 : fs.getD 6 .none = .int 0 0) (hT : s.heap.get? T = some oT) (hi : oT.data = .seq items n)
    (hcd : (items.map Builtin.Re.reRawOf).map (·.toNat) = code) (hc : ReCode code) (hx : x.cps.toList.all reOk = true) (hz : x.cps.size ≤ sizeLine)
    (h : Q .none s) : wpAny (model prog w) A (call (.builtin "re.Pattern.search") [.ref P, .str x t]) Q E s := by
  refine wpAny_call_entry slot_re_search ⟨_, hP, hcl⟩ entry_re_search ?_ (args_re_search _ _)
  unfold Builtin.«re.Pattern.search» Builtin.Re.reTarget
  dsimp only
  refine wpAny_bind ?_
  refine wpAny_bind (m := Builtin.Re.reNamed _ _ _ _ _ _) (wpAny_of_eq (a := [some (Value.str x t), none, none]) (by first | rfl | kernel_rfl!) ?_)
  dsimp only
  refine wpAny_bind (wpAny_pure ?_)
  refine wpAny_bind (wpAny_pure ?_)
  refine wpAny_bind (wpAny_fieldsOf hP hd ?_)
  refine wpAny_bind (m := Builtin.Re.reTextOf _) (wpAny_of_eq (a := (x.cps, 0)) rfl ?_)
  dsimp only
  rw [h6, h5, h2]
  refine wpAny_bind (m := Builtin.Re.reNoCollectionInside _ _) (wpAny_of_eq (a := ()) rfl ?_)
  unfold Builtin.Re.reRawItems
  refine wpAny_bind (wpAny_bind (wpAny_seqItems hT hi (wpAny_pure ?_)))
  refine wpAny_pure ?_
  dsimp only
  rw [show (some items).getD #[] = items from rfl, hcd, show min (Int.toNat 0) x.cps.size = 0 from Nat.zero_min _, show min (2 ^ 63 - 1 : Int).toNat x.cps.size = x.cps.size from by
    have := PySem.sizeLine_eq
    omega]
  unfold Builtin.Re.reAnswer
  obtain ⟨h1, h2, h3⟩ := search_says (text := x.cps) hc (List.all_eq_true.mp hx)
  refine wpAny_bind (run_none _ h1 h2 h3 ?_)
  exact wpAny_pure ⟨_, rfl, h⟩
theorem re_method {K : Frag} {P : Addr} {o : Obj} {pl : Sem Bool} {Q : Value × List Value → Shared → Prop} (X : K.In s.heap) (ho : K.lookup P = some o) (hc : o.cls = .type "re.Pattern") (hd : o.dict = none)
    (h : Q (.builtin "re.Pattern.search", [.ref P]) s) : wpAny (model prog w) A (getMethod (.ref P) (Str.ofString "search") pl) Q E s :=
  getMethod_builtin ⟨_, X _ _ ho, hc⟩ plainAttrs_re slot_re_search type_re_search (fun a e => by cases e; exact ⟨_, X _ _ ho, hd⟩) h
theorem re_search {K : Frag} {P T : Addr} {oP oT : Obj} {fs items : Array Value} {n : Nat} {x : Str} {t : Tok} {Q : Value → Shared → Prop} (X : K.In s.heap) (ho : K.lookup P = some oP) (hcl : oP.cls = .type "re.Pattern") (hd : oP.data = .fields fs)
    (h2 : fs.getD 2 .none = .int 0 0) (h5 : fs.getD 5 .none = .ref T) (h6 : fs.getD 6 .none = .int 0 0) (hT : K.lookup T = some oT) (hi : oT.data = .seq items n)
    (hc : ∃ code, ReCode code ∧ (items.toList.map Builtin.Re.reRawOf).map (·.toNat) = code.toList) (hx : x.cps.toList.all reOk = true) (hz : x.length ≤ sizeLine)
    (h : Q .none s) : wpAny (model prog w) A (call (.builtin "re.Pattern.search") [.ref P, .str x t]) Q E s :=
  by
  obtain ⟨code, hc, e⟩ := hc
  exact search_none (X _ _ ho) hcl hd h2 h5 h6 (X _ _ hT) hi (Array.ext' (by simpa using e)) hc hx hz h
theorem joinOne_K {D : Addr} {h₀ : Heap} {L : Addr} {news : List (Addr × Obj)} {vs : List Value} {sep x : Str} {t u : Tok} {n : Nat} {Q : Value → Shared → Prop} (N : News h₀ L s.heap news) (hm : (D, listOf vs.toArray n) ∈ news) (hs : vs = [.str x u]) (hz : x.length < 100000) (hp : sep.length < 1000)
    (h : ∀ t' k, Q (.str x t') { s with toks := k }) : wpAny (model prog w) A (call (.builtin "str.join") [.str sep t, .ref D]) Q E s := by
  subst hs
  refine join_list (items := #[.str x u]) (ys := [x]) ⟨_, (N _ hm).1, rfl, n, rfl⟩ (.cons _ _ .nil) ?_ fun t' k => ?_
  · simp only [List.map_cons, List.map_nil, List.sum_cons, List.sum_nil, List.length_cons, List.length_nil]; omega
  · rw [show Txt.join sep [x] = x from (StrLaws.glued_eq_join _ _).trans rfl]; exact h t' k
theorem tx_ok {y : List Nat} (h : y.all reOk = true) : (tx y).cps.toList.all reOk = true := h
theorem low_tx {y : List Nat} (ha : y.all reOk = true) : Txt.lower (tx y) = tx (y.map lowC) := by
  have hA : ∀ c ∈ (tx y).cps.toList, c < 128 := fun c hc => by
    have := List.all_eq_true.mp ha c hc
    unfold reOk at this
    rw [Bool.and_eq_true, decide_eq_true_eq, decide_eq_true_eq] at this
    omega
  rw [lower_ascii hA]
  apply Str.ext'
  apply Array.ext'
  simp only [Array.toList_map]
  refine List.map_congr_left fun c _ => ?_
  unfold lo1 lowC
  simp
theorem low_ok {y : List Nat} (ha : y.all reOk = true) : (y.map lowC).all reOk = true := by
  rw [List.all_map]
  refine List.all_eq_true.mpr fun c hc => ?_
  have := List.all_eq_true.mp ha c hc
  unfold reOk at this
  rw [Bool.and_eq_true, decide_eq_true_eq, decide_eq_true_eq] at this
  show reOk (lowC c) = true
  unfold reOk lowC
  split <;> (rw [Bool.and_eq_true, decide_eq_true_eq, decide_eq_true_eq]; omega)
theorem lower_tx {y : List Nat} {t : Tok} {Q : Value → Shared → Prop} (ha : y.all reOk = true) (hz : y.length ≤ sizeLine) (hz' : y.length < 100000) (h : ∀ t' k, Q (.str (tx (y.map lowC)) t') { s with toks := k }) : wpAny (model prog w) A (call (.builtin "str.lower") [.str (tx y) t]) Q E s := by
  refine SCL.lower (by rw [tx_len]; omega) fun _ => ?_
  rw [low_tx ha]
  exact h _ _
theorem tl_up {TL : List (Addr × Obj)} {hi e : Nat} (h : ∀ p ∈ TL, @LT.lt Nat _ p.1 hi) (hh : hi ≤ e) : ∀ p ∈ TL, p.1 ≠ e := fun p hp => Nat.ne_of_lt (Nat.lt_of_lt_of_le (h p hp) hh)
theorem tl_low {TL : List (Addr × Obj)} {lo e : Nat} (h : ∀ p ∈ TL, @LT.lt Nat _ lo p.1) (hh : e ≤ lo) : ∀ p ∈ TL, p.1 ≠ e := fun p hp => Ne.symm (Nat.ne_of_lt (Nat.lt_of_le_of_lt hh (h p hp)))
theorem allLt_mem {d : Addr} : ∀ {l : List (Addr × Obj)}, AllLt d l → ∀ p ∈ l, @LT.lt Nat _ p.1 d
  | [], _, _, h => nomatch h
  | _ :: _, x, p, h => by
    rcases List.mem_cons.mp h with rfl | h
    · exact x.1
    · exact allLt_mem x.2 p h
end
end Mine
end
section
open PySem PySem.W PySem.Spec PySem.Calls PyProof.Rows
set_option Elab.async false
set_option maxRecDepth 100000
namespace Mine
/-- a call whose binding makes one object: what was there stays -/
theorem peekA_keeps {α : Type} {K : Frag} {M : Model} {A : Around} {E : Value → Shared → Prop} {Q : α → Shared → Prop} {s : Shared} {h₀ : Heap} {L : Addr} {m : Str → Option Value} {news : List (Addr × Obj)} {o : Obj}
    (F : Fr h₀ L s.heap m) (N : News h₀ L s.heap news) (X : K.In s.heap) (hf : o.isFreed = false) :
    ∀ (t : Sem α) (g : Addr → Sem α), peekA K ⟨M.prog, M.w.params⟩ t = some (o, g) →
      (∀ h', Fr h₀ L h' m → News h₀ L h' ((s.heap.objs.size, o) :: news) → (∀ p ∈ news, p.1 < s.heap.objs.size) → (∀ b o, s.heap.get? b = some o → h'.get? b = some o) → wpAny M A (g s.heap.objs.size) Q E { s with heap := h' }) → wpAny M A t Q E s := by
  intro t
  induction t with
  | rule _ k ih => intro g e q Γ p hΓ; exact ih () g e q Γ p hΓ
  | point _ k ih => intro g e q Γ p hΓ; exact ih () g e q Γ p hΓ
  | ask k ih => intro g e q Γ p hΓ; exact ih _ g e q Γ p hΓ
  | load a _ k ih =>
    intro g e q Γ p hΓ
    simp only [peekA] at e
    split at e
    · rename_i ob ho; exact ⟨ob, X _ _ ho, ih ob g e q Γ p hΓ⟩
    · cases e
  | alloc ob k _ =>
    intro g e q
    have e : some (ob, k) = some (o, g) := e
    obtain ⟨e1, e2⟩ := Prod.mk.inj (Option.some.inj e)
    subst e1
    subst e2
    show wpAny M A (alloc ob >>= k) Q E s
    exact wpAny_bind (wpAny_alloc (q _ (F.push ob) (News.push F N ob hf) (fun p hp => Heap.lt_size (N p hp).1) fun _ _ e => Heap.get?_push_of_some _ e))
  | _ => intro g e; cases e
section
variable {prog : Program} {w : World} {A A₀ : Around} {s : Shared} {K : Frag} {L : Addr} {h₀ base : Heap} {m mg mb : Str → Option Value} {news : List (Addr × Obj)} {p : Program} {loose : List Str} {mean : ExcName → Option Value}
/-- codeK for a function that takes further keywords, called with none -/
theorem codeKM {env : Env} {outer : List Env} {R : Result → Shared → Prop} {name qual : Str} {params : Arguments} {body : List Stmt} {scope : Scope} {dV kV doc pm cdv ct oc : Value} {an od : Option Addr} {osl : Array (Option Value)} {f : Addr} {args : Args} {g₁ : Addr → Sem (List (Str × Value))} {binds : Addr → List (Str × Value)}
    (B : Below A₀ base outer h₀) (F : Fr h₀ L s.heap m) (X₀ : K.In h₀) (N : News h₀ L s.heap news) (T : Top p loose mean mg mb h₀) (hA : A.frames = some (env :: outer)) (hf : env.frame = some L) (hke : env.scope.kind = .function)
    (ho : K.lookup f = some ⟨oc, od, .func (fnOf name qual params body scope dV kV doc pm an cdv ct), osl⟩) (hcd : codeIn K cdv qual = true) (hroom : A.depth < recursionLimit)
    (hp : peekA K ⟨prog, w.params⟩ (bindArgs (fnOf name qual params body scope dV kV doc pm an cdv ct) args) = some (dictOf [] 0, g₁))
    (hk₁ : ∀ D, g₁ D = pure (binds D)) (hloc : ∀ D, ∀ y ∈ binds D, scope.names.lookup y.1 = some .local)
    (h : ∀ D ob g L' h₁ tk, (D == sysModules) = false → ob.IsDictOf (strKind prog w) [] → PyProof.V.FlatPairs PyData.str [] [] → (∀ b o, s.heap.get? b = some o → b ∉ news.map (·.1) → g.get? b = some o) → (∀ (b : Nat) o, s.heap.get? b = some o → @LT.lt Nat _ b L') → (∀ (b : Nat) o, s.heap.get? b = some o → @LT.lt Nat _ b D) → (∀ p ∈ news, p.1 < D) → Fr h₀ L g m → Fr g L' h₁ (fun y => (binds D).reverse.lookup y) → News g L' h₁ ((D, ob) :: news) → Below A base (env :: outer) g → K.In g → Top p loose mean mg mb g →
      wpAny (model prog w) (A.deeper (envOf qual scope L' f cdv)) (execs body (envOf qual scope L' f cdv))
        (fun fl s' => LeaveK h₀ L m g R (match fl with | .ret v => v | _ => .none) s')
        (fun e s' => wpAny (model prog w) (A.deeper (envOf qual scope L' f cdv)) (leaving (envOf qual scope L' f cdv) e) (fun _ s'' => R (.error e) s'') (fun e' s'' => R (.error e') s'') s')
        { s with heap := h₁, toks := tk })
    (hco : scope.isCoroutine = false) (hgen : scope.isGenerator = false) (hk : scope.kind = .function)
    (hcell : ∀ x ∈ scope.names, x.2 ≠ .cell) : codeAny (model prog w) A (.call (.ref f) args) R s := by
  refine codeAny_call_function (fd := fnOf name qual params body scope dV kV doc pm an cdv ct) (body := body) hroom ((X₀.keeps F.keep) _ _ ho) rfl hco hgen rfl (codeRec_of (X₀.keeps F.keep) hcd) ?_
  refine peekA_keeps (o := dictOf [] 0) F N (X₀.keeps F.keep) rfl _ g₁ hp fun h' F' N' l k => ?_
  rw [hk₁]
  refine wpAny_pure ?_
  obtain ⟨FG, BG, st, lv⟩ := groundX (s := { s with heap := h' }) (R := R) B F' N' hA hf hke
  refine wpAny_newFunctionEnv hcell (hloc _) (fun h₁ hns hsb => ⟨(T.nolimit.keeps F'.keep).fresh _ hsb, codeAny_func ?_⟩) hk
  have hk₁ : ∀ b o, h'.get? b = some o → h₁.get? b = some o := fun b o e => hsb.extBut b o (Nat.ne_of_lt (Heap.lt_size e)) (Heap.get?_push_of_some _ e)
  refine wpAny_mono (h s.heap.objs.size _ _ h'.objs.size h₁ _ (F.notModules (modules_low T.nolimit)) (kp_isDict s.toks 0 List.nodup_nil) PyProof.V.FlatPairs.nil (fun b o e q => hideAll_get _ (k b o e) (fun z => ?_)) (fun _ _ e => Heap.lt_size (k _ _ e)) (fun _ _ e => Heap.lt_size e) l FG ⟨hns, fun b o e => hk₁ b o (of_hideAll _ e), Nat.le_of_eq (hideAll_size _ _)⟩
    (fun p hp => ⟨hk₁ _ _ (N' p hp).1, Nat.ne_of_lt (Heap.lt_size (N' p hp).1), hideAll_none _ (List.mem_map_of_mem hp)⟩) BG (X₀.keeps st) (T.keeps st)) (fun fl s' hl => lv _ _ hl) fun _ _ y => y
  rcases List.mem_cons.mp z with z | z
  · have : b < s.heap.objs.size := Heap.lt_size e
    rw [z] at this
    exact Nat.lt_irrefl _ this
  · exact q z
end
def AllNe (d : Nat) : List Nat → Prop
  | [] => True
  | a :: r => @Ne Nat a d ∧ AllNe d r
theorem AllNe.notin {d : Nat} : ∀ {l : List Nat}, AllNe d l → d ∉ l
  | [], _, h => nomatch h
  | _ :: _, x, h => by
    rcases List.mem_cons.mp h with h | h
    · exact x.1 h.symm
    · exact AllNe.notin x.2 h
/-- a contract's part of a ledger, put back in its places -/
inductive Repl (ads : List Nat) : List (Addr × Obj) → List (Addr × Obj) → List (Addr × Obj) → Prop
  | nil : Repl ads [] [] []
  | hit {a : Addr} {o o' : Obj} {l s' l' : List (Addr × Obj)} : Repl ads l s' l' → Repl ads ((a, o) :: l) ((a, o') :: s') ((a, o') :: l')
  | miss {p : Addr × Obj} {l s' l' : List (Addr × Obj)} : p.1 ∉ ads → Repl ads l s' l' → Repl ads (p :: l) s' (p :: l')
  | tail {l : List (Addr × Obj)} : (∀ p ∈ l, p.1 ∉ ads) → Repl ads l [] l
theorem Repl.join {ads : List Nat} {h₀ h h' : Heap} {L : Addr} {l s' l' : List (Addr × Obj)} (r : Repl ads l s' l') (N : News h₀ L h l) (k : ∀ (b : Nat) o, h.get? b = some o → b ∉ ads → h'.get? b = some o) (N' : News h₀ L h' s') : News h₀ L h' l' := by
  induction r with
  | nil => exact N'
  | hit r ih =>
    intro p hp
    rcases List.mem_cons.mp hp with rfl | hp
    · exact N' _ List.mem_cons_self
    · exact ih (fun q hq => N q (List.mem_cons_of_mem _ hq)) (fun q hq => N' q (List.mem_cons_of_mem _ hq)) p hp
  | miss hn r ih =>
    intro p hp
    rcases List.mem_cons.mp hp with rfl | hp
    · exact ⟨k _ _ (N _ List.mem_cons_self).1 hn, (N _ List.mem_cons_self).2⟩
    · exact ih (fun q hq => N q (List.mem_cons_of_mem _ hq)) N' p hp
  | tail ha => exact fun p hp => ⟨k _ _ (N p hp).1 (ha p hp), (N p hp).2⟩
theorem repl_go {ads : List Nat} {h₀ h h' : Heap} {L : Addr} {l s' l' : List (Addr × Obj)} {G : Prop} (k : ∀ (b : Nat) o, h.get? b = some o → b ∉ ads → h'.get? b = some o) (N' : News h₀ L h' s') (N : News h₀ L h l) (r : Repl ads l s' l') (go : News h₀ L h' l' → G) : G := go (r.join N k N')
theorem repl_go0 {h₀ h h' : Heap} {L : Addr} {l : List (Addr × Obj)} {G : Prop} (k : ∀ (b : Nat) o, h.get? b = some o → h'.get? b = some o) (N : News h₀ L h l) (go : News h₀ L h' l → G) : G := go fun p hp => ⟨k _ _ (N p hp).1, (N p hp).2⟩
theorem subs_nil {l : List (Addr × Obj)} : ∀ p ∈ ([] : List (Addr × Obj)), p ∈ l := fun _ h => nomatch h
theorem subs_cons {x : Addr × Obj} {l r : List (Addr × Obj)} (h : x ∈ l) (k : ∀ p ∈ r, p ∈ l) : ∀ p ∈ x :: r, p ∈ l := List.forall_mem_cons.mpr ⟨h, k⟩
theorem sc_lt {x y : List Nat} : b2i (decide (y < x)) - b2i (decide (x < y)) = -1 ↔ x < y := by
  by_cases h1 : x < y
  · have h2 : ¬ y < x := List.lt_asymm h1
    rw [decide_eq_true h1, decide_eq_false h2]
    exact ⟨fun _ => h1, fun _ => rfl⟩
  · rw [decide_eq_false h1]
    refine ⟨fun h => ?_, fun h => absurd h h1⟩
    cases hd : decide (y < x) <;> (rw [hd] at h; exact absurd h (by decide))
theorem lt_of_not {x y : List Nat} (hn : x ≠ y) (h : ¬ x < y) : y < x := by
  rcases Decidable.em (y < x) with h2 | h2
  · exact h2
  · exact absurd (List.le_antisymm (List.not_lt.mp h2) (List.not_lt.mp h)) hn
theorem room1 {a d : Nat} (h : d + 20 < recursionLimit) (e : a = d + 1) : a + 10 < recursionLimit := by omega
theorem unit1 {a u : Nat} (k : Nat) (h : u + 200 < cLine) (e : a = u + k) (hk : k < 100) : a + 100 < cLine := by omega
end Mine
end
section
open PySem PySem.W PySem.Spec PySem.Calls PyProof.Rows PySem.SeqAt
set_option Elab.async false
set_option maxRecDepth 100000
namespace Mine
theorem strs_sameAll : ∀ ys zs : List (List Nat), PySem.Spec.sameAll ((ys.map tx).map PyData.str) ((zs.map tx).map PyData.str) = decide (ys = zs)
  | [], [] => by simp [PySem.Spec.sameAll]
  | [], _ :: _ => by simp [PySem.Spec.sameAll]
  | _ :: _, [] => by simp [PySem.Spec.sameAll]
  | a :: r, b :: t => by
    simp only [List.map_cons, PySem.Spec.sameAll, PySem.Spec.same, strs_sameAll r t]
    by_cases h : a = b
    · subst h; by_cases h' : r = t <;> simp [h']
    · have : tx a ≠ tx b := fun e => h (tx_inj e)
      by_cases h' : r = t <;> simp [h, h', this]
theorem strs_noMix : ∀ ys zs : List Str, noMixAll (ys.map PyData.str) (zs.map PyData.str) = true
  | [], [] => by simp [noMixAll]
  | [], _ :: _ => by simp [noMixAll]
  | _ :: _, [] => by simp [noMixAll]
  | _ :: r, _ :: q => by simp [noMixAll, noMix, strs_noMix r q]
theorem strOk_tx {y : List Nat} (h : y.all reOk = true) : PyData.strOk (tx y) = true := by
  unfold PyData.strOk
  rw [← Array.all_toList]
  show y.toArray.toList.all _ = true
  simp only [List.all_eq_true, decide_eq_true_eq] at h ⊢
  intro c hc
  have := h c (by simpa using hc)
  unfold reOk at this
  simp only [Bool.and_eq_true, decide_eq_true_eq] at this
  omega
theorem strs_shaped {ys : List (List Nat)} (h : ∀ y ∈ ys, y.all reOk = true) : SeqAt.shaped (.list ((ys.map tx).map PyData.str)) = true := by
  have e : (ys.map tx).all PyData.strOk = true := by
    rw [List.all_map, List.all_eq_true]
    exact fun y hy => strOk_tx (h y hy)
  unfold SeqAt.shaped
  simp only [PyData.canLay0, PyData.depth, canLayAll_strs', depthAll_strs', e, Bool.true_and]
  decide
theorem names1 {h₀ h : Heap} {L a : Addr} {o : Obj} {r : List (Addr × Obj)} (_ : News h₀ L h ((a, o) :: r)) : ∃ (a' : Addr) (o' : Obj), a' = a ∧ o' = o := ⟨_, _, rfl, rfl⟩
theorem names2 {h₀ h : Heap} {L a b : Addr} {o p : Obj} {r : List (Addr × Obj)} (_ : News h₀ L h ((a, o) :: (b, p) :: r)) : ∃ (a' : Addr) (o' : Obj) (b' : Addr) (p' : Obj), a' = a ∧ o' = o ∧ b' = b ∧ p' = p := ⟨_, _, _, _, rfl, rfl, rfl, rfl⟩
theorem names3 {h₀ h : Heap} {L a b c : Addr} {o p q : Obj} {r : List (Addr × Obj)} (_ : News h₀ L h ((a, o) :: (b, p) :: (c, q) :: r)) : ∃ (a' : Addr) (o' : Obj) (b' : Addr) (p' : Obj) (c' : Addr) (q' : Obj), a' = a ∧ o' = o ∧ b' = b ∧ p' = p ∧ c' = c ∧ q' = q := ⟨_, _, _, _, _, _, rfl, rfl, rfl, rfl, rfl, rfl⟩
/-- values that are texts, by their signs -/
def Txs (vs : List Value) (ys : List (List Nat)) : Prop := StrsAre vs (ys.map tx)
theorem Txs.nil : Txs [] [] := StrsAre.nil
theorem Txs.cons {y : List Nat} {t : Tok} {vs : List Value} {ys : List (List Nat)} (h : Txs vs ys) : Txs (.str (tx y) t :: vs) (y :: ys) := StrsAre.cons _ _ h
theorem Txs.append {vs us : List Value} {ys zs : List (List Nat)} (h : Txs vs ys) (h' : Txs us zs) : Txs (vs ++ us) (ys ++ zs) := by
  show StrsAre _ ((ys ++ zs).map tx)
  rw [List.map_append]; exact StrsAre.append' h h'
theorem Txs.length {vs : List Value} {ys : List (List Nat)} (h : Txs vs ys) : vs.length = ys.length := by
  rw [StrsAre.length h, List.length_map]
theorem Txs.reverse : ∀ {vs : List Value} {ys : List (List Nat)}, Txs vs ys → Txs vs.reverse ys.reverse
  | _, [], StrsAre.nil => Txs.nil
  | _, y :: ys, StrsAre.cons _ t h => by
    rw [List.reverse_cons, List.reverse_cons]
    exact (Txs.reverse (ys := ys) h).append (Txs.cons Txs.nil)
theorem Txs.at {vs : List Value} {ys : List (List Nat)} (h : Txs vs ys) {i : Nat} {v : Value} (e : vs[i]? = some v) : ∃ y t, ys[i]? = some y ∧ v = .str (tx y) t := by
  have hi : i < vs.length := (List.getElem?_eq_some_iff.mp e).1
  have hi' : i < ys.length := h.length ▸ hi
  obtain ⟨t, ht⟩ := StrsAre.get h i (tx ys[i]) (by rw [List.getElem?_map, List.getElem?_eq_getElem hi']; rfl)
  rw [e] at ht
  exact ⟨ys[i], t, List.getElem?_eq_getElem hi', Option.some.inj ht⟩
section
variable {prog : Program} {w : World} {A : Around} {E : Value → Shared → Prop} {s : Shared} {h₀ : Heap} {L a b : Addr} {m : Str → Option Value} {news : List (Addr × Obj)} {vs us : List Value} {ys zs : List (List Nat)} {Q : Value → Shared → Prop}
theorem eqS_K (ha : s.heap.IsList a vs.toArray) (hb : s.heap.IsList b us.toArray) (hi : Txs vs ys) (hj : Txs us zs) (oi : ∀ y ∈ ys, y.all reOk = true) (oj : ∀ y ∈ zs, y.all reOk = true) (hu : A.units + 64 < cLine) (h : Q (.bool (decide (ys = zs))) s) :
    wpAny (model prog w) A (compareOp .Eq (.ref a) (.ref b)) Q E s :=
  eq_dataH_same (reads_newData ha (StrsAre.carried hi)) (reads_newData hb (StrsAre.carried hj)) (strs_shaped oi) (strs_shaped oj) hu (by simp only [noMix]; exact strs_noMix _ _) (by simp only [PySem.Spec.same]; rw [strs_sameAll]; exact h)
theorem neS_K (ha : s.heap.IsList a vs.toArray) (hb : s.heap.IsList b us.toArray) (hi : Txs vs ys) (hj : Txs us zs) (oi : ∀ y ∈ ys, y.all reOk = true) (oj : ∀ y ∈ zs, y.all reOk = true) (hu : A.units + 64 < cLine) (h : Q (.bool (!decide (ys = zs))) s) :
    wpAny (model prog w) A (compareOp .NotEq (.ref a) (.ref b)) Q E s :=
  ne_dataH_same (reads_newData ha (StrsAre.carried hi)) (reads_newData hb (StrsAre.carried hj)) (strs_shaped oi) (strs_shaped oj) hu (by simp only [noMix]; exact strs_noMix _ _) (by simp only [PySem.Spec.same]; rw [strs_sameAll]; exact h)
theorem addL_K (F : Fr h₀ L s.heap m) (N : News h₀ L s.heap news) (ha : s.heap.IsList a vs.toArray) (hb : s.heap.IsList b us.toArray)
    (h : ∀ D h', Fr h₀ L h' m → News h₀ L h' ((D, listOf (vs ++ us).toArray 0) :: news) → (∀ p ∈ news, p.1 < D) → Q (.ref D) { s with heap := h' })
    (hz : vs.length + us.length ≤ sizeLine) : wpAny (model prog w) A (binaryOp .Add (.ref a) (.ref b)) Q E s :=
  add_lists F N ha hb (fun h' F' N' => h _ h' F' N' fun p hp => Heap.lt_size (N p hp).1) hz
theorem revS_K {value slice : Expr} {vk : Value} {ops : List Value} (F : Fr h₀ L s.heap m) (N : News h₀ L s.heap news) (hl : s.heap.IsList a vs.toArray) (pk : IsPart vk (some (-1)))
    (h : ∀ D h', Fr h₀ L h' m → News h₀ L h' ((D, listOf vs.reverse.toArray 0) :: news) → (∀ p ∈ news, p.1 < D) → Q (.ref D) { s with heap := h' })
    (hs : subscripted slice false (.ref a) (.ref s.heap.objs.size) = operate ops (getItem (.ref a) (.ref s.heap.objs.size))) (ht : ∀ r, letTemporaryGo value (.ref a) r = pure ()) (hz : vs.length ≤ sizeLine) :
    wpAny (model prog w) A (subscriptTail value slice (.ref a) (.ref s.heap.objs.size)) Q E { s with heap := s.heap.push { cls := .type "slice", data := .fields #[.none, .none, vk] } } :=
  krv_lit F N hl pk rfl h hs ht (by simpa using hz)
theorem itemS_K {value slice : Expr} {k : Int} {u : Tok} (hl : s.heap.IsList a vs.toArray) (hi : Txs vs ys) (h0 : 0 ≤ k) (hk : k < ys.length) (hz : ys.length ≤ sizeLine) (h : ∀ t', Q (.str (tx (ys.getD k.toNat [])) t') s)
    (hs : subscripted slice false (.ref a) (.int k u) = operate [.ref a, .int k u] (getItem (.ref a) (.int k u))) (hg : ∀ r, letTemporaryGo value (.ref a) r = pure ()) :
    wpAny (model prog w) A (subscriptTail value slice (.ref a) (.int k u)) Q E s := by
  have hb : sizeLine = 16777216 := PySem.sizeLine_eq
  refine item_strsA hl hi h0 (by rw [List.length_map]; exact hk) (by omega) (fun t' => ?_) hs hg
  have hk' : k.toNat < ys.length := by omega
  have e : (ys.map tx).getD k.toNat Str.empty = tx (ys.getD k.toNat []) := by
    simp [List.getD, hk']
  rw [e]; exact h t'
theorem beq_tx (y k : List Nat) : (tx y == tx k) = (y == k) := by
  by_cases h : y = k
  · subst h; simp
  · rw [beq_eq_false_iff_ne.mpr h, beq_eq_false_iff_ne.mpr fun e => h (tx_inj e)]
theorem count_tx (k : List Nat) : ∀ ys : List (List Nat), (ys.map tx).count (tx k) = ys.count k
  | [] => rfl
  | y :: r => by rw [List.map_cons, List.count_cons, List.count_cons, count_tx k r, beq_tx]
theorem countIn_tx (k : List Nat) (ys : List (List Nat)) : Spec.countIn (.str (tx k)) ((ys.map tx).map PyData.str) = ys.count k := by
  rw [cnt_strs, count_tx]
theorem isStr_at (k : Str) : ∀ {vs : List Value} {ns : List Str}, StrsAre vs ns → ∀ (j : Nat) (h1 : j < vs.length) (h2 : j < ns.length), isStrOf k vs[j] = (ns[j] == k)
  | _, _, .cons n t r, 0, _, _ => rfl
  | _, _, .cons n t r, j + 1, h1, h2 => isStr_at k r j (Nat.lt_of_succ_lt_succ h1) (Nat.lt_of_succ_lt_succ h2)
theorem ne_lt_idx {k : Str} : ∀ {ns : List Str} {j : Nat}, j < ns.idxOf k → ∀ (h2 : j < ns.length), (ns[j] == k) = false
  | n :: r, 0, h, _ => by
    by_cases e : n = k
    · subst e; simp at h
    · simpa using e
  | n :: r, j + 1, h, h2 => by
    by_cases e : n = k
    · subst e; simp at h
    · have hb : (n == k) = false := by simpa using e
      have h' : j < r.idxOf k := by
        rw [List.idxOf_cons, hb] at h
        exact Nat.lt_of_succ_lt_succ h
      exact ne_lt_idx h' (Nat.lt_of_succ_lt_succ h2)
theorem idxOf_tx (k : List Nat) : ∀ ys : List (List Nat), (ys.map tx).idxOf (tx k) = ys.idxOf k
  | [] => rfl
  | y :: r => by
    have e : (tx y == tx k) = (y == k) := by
      by_cases h : y = k
      · subst h; simp
      · rw [beq_eq_false_iff_ne.mpr h, beq_eq_false_iff_ne.mpr fun e => h (tx_inj e)]
    rw [List.map_cons, List.idxOf_cons, List.idxOf_cons, e, idxOf_tx k r]
theorem indexS_K {k : List Nat} {t : Tok} (hl : s.heap.IsList a vs.toArray) (hi : Txs vs ys) (hz : ys.length < 100000) (hk : k ∈ ys) (h : ∀ t' tk, Q (.int (ys.idxOf k : Nat) t') { s with toks := tk }) :
    wpAny (model prog w) A (call (.builtin "list.index") [.ref a, .str (tx k) t]) Q E s := by
  obtain ⟨⟨cls, dd, data, sl⟩, ho, hc, n, hd⟩ := id hl
  simp only at hc hd
  subst hc hd
  have hlen := hi.length
  have hj : ys.idxOf k < ys.length := List.idxOf_lt_length_iff.mpr hk
  refine call_meets PySem.F.slot_list_index ⟨_, ho, rfl⟩ PySem.F.entry_list_index (PySem.F.args_list_index_2 _ _)
    (list_indexAt a vs.toArray n dd sl (.str (tx k) t) (isStrOf (tx k)) (ys.idxOf k) (by simpa [hlen] using hj) (by simp; omega) ?_ ?_) ⟨ho, fun y hy => (eq_isStrOf (tx k) t hi y (by simpa using hy)).at _ _, h _ _⟩
  · show isStrOf (tx k) vs[ys.idxOf k] = true
    rw [isStr_at (tx k) hi _ (by omega) (by rw [List.length_map]; exact hj)]
    simp
  · intro j hjs hlt
    show isStrOf (tx k) vs[j] = false
    rw [isStr_at (tx k) hi j (by simpa using hjs) (by rw [List.length_map]; omega)]
    exact ne_lt_idx (by rw [idxOf_tx]; exact hlt) _
theorem countS_K {k : List Nat} {t : Tok} (hl : s.heap.IsList a vs.toArray) (hi : Txs vs ys) (h : ∀ t' tk, Q (.int (ys.count k : Nat) t') { s with toks := tk }) :
    wpAny (model prog w) A (call (.builtin "list.count") [.ref a, .str (tx k) t]) Q E s :=
  count_list_strs hl hi (by rw [countIn_tx]; exact h _ _)
/-- the least first, as sorted leaves them -/
def SortedL : List (List Nat) → Prop
  | [] => True
  | [_] => True
  | y :: z :: r => ¬ z < y ∧ SortedL (z :: r)
theorem sortedL_of : ∀ {zs : List (List Nat)}, sortedS (zs.map tx) = true → SortedL zs
  | [], _ => trivial
  | [_], _ => trivial
  | y :: z :: r, h => by
    have h : (!ltCps (tx z).cps.toList (tx y).cps.toList && risingS (tx z) (r.map tx)) = true := h
    rw [Bool.and_eq_true, Bool.not_eq_true', ltCps_eq, decide_eq_false_iff_not] at h
    exact ⟨h.1, sortedL_of (zs := z :: r) h.2⟩
theorem sum_le {f : List Nat → Nat} {k : Nat} : ∀ {ys : List (List Nat)}, (∀ y ∈ ys, f y ≤ k) → (ys.map f).sum ≤ ys.length * k
  | [], _ => Nat.zero_le _
  | y :: r, h => by
    have h1 := h y List.mem_cons_self
    have h2 := sum_le (ys := r) (fun z hz => h z (List.mem_cons_of_mem _ hz))
    rw [List.map_cons, List.sum_cons, List.length_cons, Nat.succ_mul]
    omega
theorem map_tx_of : ∀ {ss : List Str}, ∃ zs : List (List Nat), ss = zs.map tx
  | [] => ⟨[], rfl⟩
  | x :: r => by
    obtain ⟨zs, e⟩ := map_tx_of (ss := r)
    exact ⟨x.cps.toList :: zs, by rw [List.map_cons, ← e, ← tx_cps]⟩
theorem perm_tx {zs ys : List (List Nat)} (h : (zs.map tx).Perm (ys.map tx)) : zs.Perm ys := by
  have := h.map (fun x : Str => x.cps.toList)
  simpa [List.map_map, Function.comp_def] using this
theorem sortedS_K (F : Fr h₀ L s.heap m) (N : News h₀ L s.heap news) (hl : s.heap.IsList a vs.toArray) (hS : Txs vs ys) (oi : ∀ y ∈ ys, y.all reOk = true ∧ y.length < 1000) (h64 : ys.length < 64)
    (h : ∀ D h' us zs e, Fr h₀ L h' m → News h₀ L h' ((D, listOf (List.toArray us) e) :: news) → (∀ p ∈ news, p.1 < D) → Txs us zs → zs.Perm ys → SortedL zs → Q (.ref D) { s with heap := h' }) :
    wpAny (model prog w) A (call (.builtin "sorted") [.ref a]) Q E s := by
  refine sorted_N2_str F N hl hS ?_ (by rw [hS.length]; exact h64) fun h' vs' ss' e F' N' _ hS' _ _ _ hp hs => ?_
  · have e1 : (ys.map tx).all PyData.strOk = true := by
      rw [List.all_map, List.all_eq_true]
      exact fun y hy => strOk_tx (oi y hy).1
    have e2 : ((ys.map tx).map fun x => x.cps.size + 1).sum ≤ ys.length * 1000 := by
      rw [List.map_map]
      refine sum_le fun y hy => ?_
      have := (oi y hy).2
      show (tx y).cps.size + 1 ≤ _
      have e := tx_len y
      have e' : (tx y).cps.size = y.length := e
      omega
    simp only [PyData.layable0, PyData.canLay0, canLayAll_strs', PyData.depth, depthAll_strs', PyData.weight, weightAll_strs', e1, Bool.and_eq_true, decide_eq_true_eq, Bool.true_and]
    omega
  · obtain ⟨zs, rfl⟩ := map_tx_of (ss := ss')
    exact h _ h' vs' zs e F' N' (fun p hp => Nat.lt_succ_of_lt (Heap.lt_size (N p hp).1)) hS' (perm_tx hp) (sortedL_of hs)
end
end Mine
end
section
open PySem PySem.W PySem.Spec PySem.Calls PyProof.Rows PySem.SeqAt PyProof PySem.Builtin.Str
namespace Mine
theorem kept_all {h₀ h0 g h' : Heap} {L L' : Addr} {led led' : List (Addr × Obj)} (N : News h₀ L h0 led) (N' : News g L' h' led') (sub : ∀ p ∈ led, p ∈ led') (k : ∀ (b : Nat) o, h0.get? b = some o → b ∉ led.map (·.1) → h'.get? b = some o) : ∀ (b : Nat) o, h0.get? b = some o → h'.get? b = some o := by
  intro b o e
  by_cases hb : b ∈ led.map (·.1)
  · obtain ⟨p, hp, rfl⟩ := List.mem_map.mp hb
    have e2 := (N p hp).1
    have e3 : h0.get? p.1 = some o := e
    rw [e2] at e3
    rw [← Option.some.inj e3]
    exact (N' p (sub p hp)).1
  · exact k b o e hb
theorem fresh_all {h0 g h' : Heap} {L' D : Addr} {o' : Obj} {led r : List (Addr × Obj)} (N' : News g L' h' ((D, o') :: r)) (kg : ∀ (b : Nat) o, h0.get? b = some o → b ∉ led.map (·.1) → g.get? b = some o) (hD : D ∉ led.map (·.1)) : ∀ (b : Nat) o, h0.get? b = some o → b ≠ D := by
  rintro b o e rfl
  have := kg _ _ e hD
  rw [(N' _ List.mem_cons_self).2.2] at this
  cases this
def AllLe (lo : Nat) : List Nat → Prop
  | [] => True
  | a :: r => @LE.le Nat _ a lo ∧ AllLe lo r
theorem AllLe.at {lo : Nat} : ∀ {l : List Nat}, AllLe lo l → ∀ a ∈ l, a ≤ lo
  | _ :: _, x, a, h => by
    rcases List.mem_cons.mp h with rfl | h
    · exact x.1
    · exact AllLe.at x.2 a h
theorem tl_off {TL : List (Addr × Obj)} {lo : Nat} {ads : List Nat} (h : ∀ p ∈ TL, @LT.lt Nat _ lo p.1) (k : AllLe lo ads) : ∀ p ∈ TL, p.1 ∉ ads := fun p hp hq => Nat.lt_irrefl _ (Nat.lt_of_lt_of_le (h p hp) (k.at _ hq))
theorem sc_zero {x y : List Nat} : b2i (decide (y < x)) - b2i (decide (x < y)) = 0 ↔ x = y := by
  constructor
  · intro h
    by_cases h1 : x < y
    · rw [decide_eq_true h1, decide_eq_false (List.lt_asymm h1)] at h
      exact absurd h (by decide)
    · by_cases h2 : y < x
      · rw [decide_eq_true h2, decide_eq_false h1] at h
        exact absurd h (by decide)
      · exact List.le_antisymm (List.not_lt.mp h2) (List.not_lt.mp h1)
  · rintro rfl
    omega
/-- what _strcoll tells -/
noncomputable def scI (x y : List Nat) : Int := b2i (decide (y < x)) - b2i (decide (x < y))
theorem slice_to1 (c : Nat) (y : List Nat) : PySem.Txt.slice (tx (c :: y)) none (some 1) = tx [c] := by
  unfold PySem.Txt.slice
  have e : strSliceIndices none (some 1) 1 (tx (c :: y)).length = [0] := by
    rw [tx_len]
    unfold strSliceIndices sliceRange
    simp
    have e1 : max (0 : Int) (min 1 (↑y.length + 1)) = 1 := by omega
    rw [e1]; rfl
  rw [e]
  cases y with
  | nil => rfl
  | cons d r =>
    rw [if_neg (by rw [tx_len]; simp)]
    rfl
theorem slice_from1 (c : Nat) (y : List Nat) : PySem.Txt.slice (tx (c :: y)) (some 1) none = tx y := by
  unfold PySem.Txt.slice
  have e : strSliceIndices (some 1) none 1 (tx (c :: y)).length = (List.range y.length).map (1 + ·) := by
    rw [tx_len]
    unfold strSliceIndices sliceRange
    simp
    have e1 : max (0 : Int) (min 1 (↑y.length + 1)) = 1 := by omega
    rw [e1]
    have e2 : (if (1 : Int) < ↑y.length + 1 then (↑y.length : Int) + 1 - 1 else 0).toNat = y.length := by split <;> omega
    rw [e2]
    apply List.map_congr_left
    intro k _
    omega
  rw [e, if_neg (by rw [tx_len]; simp), pick_run (tx (c :: y)).cps 1 y.length]
  show Str.mk ((c :: y).toArray.toList.drop 1 |>.take y.length).toArray = _
  simp
section
variable {prog : Program} {w : World} {A : Around} {E : Value → Shared → Prop} {s : Shared} {h₀ : Heap} {L : Addr} {m : Str → Option Value} {news : List (Addr × Obj)} {value slice : Expr} {c : Nat} {y : List Nat} {t : Tok} {Q : Value → Shared → Prop}
theorem to1_K {u : Tok} (hF : Fr h₀ L s.heap m) (hN : News h₀ L s.heap news) (h : ∀ h' t' k, Fr h₀ L h' m → News h₀ L h' news → Q (.str (tx [c]) t') { s with heap := h', toks := k })
    (hs : subscripted slice false (.str (tx (c :: y)) t) (.ref s.heap.objs.size) = operate [.ref s.heap.objs.size, .str (tx (c :: y)) t] (getItem (.str (tx (c :: y)) t) (.ref s.heap.objs.size)))
    (ht : ∀ r, letTemporaryGo value (.str (tx (c :: y)) t) r = pure ()) (hsz : y.length + 1 ≤ sizeLine) :
    wpAny (model prog w) A (subscriptTail value slice (.str (tx (c :: y)) t) (.ref s.heap.objs.size)) Q E { s with heap := s.heap.push { cls := .type "slice", data := .fields #[.none, .int 1 u, .none] } } :=
  slice_strN_ns hF hN (fun h' t' k F' N' => by rw [slice_to1]; exact h h' t' k F' N') hs ht (by rw [tx_len]; exact hsz)
theorem from1_K {u : Tok} (hF : Fr h₀ L s.heap m) (hN : News h₀ L s.heap news) (h : ∀ h' t' k, Fr h₀ L h' m → News h₀ L h' news → Q (.str (tx y) t') { s with heap := h', toks := k })
    (hs : subscripted slice false (.str (tx (c :: y)) t) (.ref s.heap.objs.size) = operate [.ref s.heap.objs.size, .str (tx (c :: y)) t] (getItem (.str (tx (c :: y)) t) (.ref s.heap.objs.size)))
    (ht : ∀ r, letTemporaryGo value (.str (tx (c :: y)) t) r = pure ()) (hsz : y.length + 1 ≤ sizeLine) :
    wpAny (model prog w) A (subscriptTail value slice (.str (tx (c :: y)) t) (.ref s.heap.objs.size)) Q E { s with heap := s.heap.push { cls := .type "slice", data := .fields #[.int 1 u, .none, .none] } } :=
  slice_strN_sn hF hN (fun h' t' k F' N' => by rw [slice_from1]; exact h h' t' k F' N') hs ht (by rw [tx_len]; exact hsz)
end
end Mine
end
section
open PySem PySem.W PySem.Spec PySem.Calls PyProof.Rows PyProof
set_option Elab.async false
set_option maxRecDepth 100000
namespace Mine
section
variable {prog : Program} {w : World} {A : Around} {E : Value → Shared → Prop} {s : Shared} {h₀ : Heap} {L a b : Addr} {m : Str → Option Value} {news : List (Addr × Obj)} {vs us : List Value} {ys zs : List (List Nat)} {Q : Value → Shared → Prop}
/-- the last item of a list -/
theorem itemLast_K {value slice : Expr} {k : Int} {u : Tok} {y : Value} (hl : s.heap.IsList a (vs ++ [y]).toArray) (hk : k = (vs.length : Nat)) (hz : vs.length < sizeLine) (h : Q y s)
    (hs : subscripted slice false (.ref a) (.int k u) = operate [.ref a, .int k u] (getItem (.ref a) (.int k u))) (hg : ∀ r, letTemporaryGo value (.ref a) r = pure ()) :
    wpAny (model prog w) A (subscriptTail value slice (.ref a) (.int k u)) Q E s := by
  have hb : sizeLine = 16777216 := PySem.sizeLine_eq
  subst hk
  exact item_listL hl (Int.natCast_nonneg _) (by omega) (show (vs ++ [y])[((vs.length : Nat) : Int).toNat]? = some y by rw [Int.toNat_natCast]; simp) h hs hg
theorem addTx_K {x y : List Nat} {t u : Tok} (h : ∀ t' tk, Q (.str (tx (x ++ y)) t') { s with toks := tk }) (hz : x.length + y.length ≤ sizeLine) : wpAny (model prog w) A (binaryOp .Add (.str (tx x) t) (.str (tx y) u)) Q E s :=
  PyProof.Rows.add_str (fun t' tk => by rw [tx_append]; exact h t' tk) (by rw [tx_len, tx_len]; exact hz)
theorem addLit_K {x z : List Nat} {y : Str} {t u : Tok} (e : y = tx z) (h : ∀ t' tk, Q (.str (tx (x ++ z)) t') { s with toks := tk }) (hz : x.length + z.length ≤ sizeLine) : wpAny (model prog w) A (binaryOp .Add (.str (tx x) t) (.str y u)) Q E s := by
  subst e; exact addTx_K h hz
theorem itemStr_K {value slice : Expr} {x : Str} {t u : Tok} {i : Int} (h0 : 0 ≤ i) (h1 : i < x.cps.size) (hz : x.cps.size ≤ sizeLine) (h : ∀ t' tk, Q (.str (tx [x.cps.toList.getD i.toNat 0]) t') { s with toks := tk })
    (hs : subscripted slice false (.str x t) (.int i u) = operate [.str x t, .int i u] (getItem (.str x t) (.int i u)))
    (ht : ∀ r, letTemporaryGo value (.str x t) r = pure ()) :
    wpAny (model prog w) A (subscriptTail value slice (.str x t) (.int i u)) Q E s := by
  have hb : sizeLine = 16777216 := PySem.sizeLine_eq
  have h1' : i < x.length := h1
  refine PyProof.Rows.item_str ?_ (by omega) h1' (fun _ => ?_) hs ht
  · unfold fitsSsize
    simp only [Bool.not_eq_true', Bool.or_eq_false_iff, decide_eq_false_iff_not]
    omega
  · have hl : i.toNat < x.cps.size := by omega
    have e : x.cps[i.toNat]? = some (x.cps.toList.getD i.toNat 0) := by
      rw [Array.getElem?_eq_getElem hl, List.getD_eq_getElem?_getD, Array.getElem?_toList, Array.getElem?_eq_getElem hl]
      rfl
    rw [item_meets h0 e]
    exact h _ _
theorem up_tx {y : List Nat} (ha : y.all reOk = true) : Txt.upper (tx y) = tx (y.map up1) := by
  have hA : ∀ c ∈ (tx y).cps.toList, c < 128 := fun c hc => by
    have := List.all_eq_true.mp ha c hc
    unfold reOk at this
    rw [Bool.and_eq_true, decide_eq_true_eq, decide_eq_true_eq] at this
    omega
  rw [upper_ascii hA]
  apply Str.ext'
  apply Array.ext'
  simp only [Array.toList_map]
theorem upper_tx {y : List Nat} {t : Tok} (ha : y.all reOk = true) (hz : y.length < 100000) (h : ∀ t' k, Q (.str (tx (y.map up1)) t') { s with toks := k }) : wpAny (model prog w) A (call (.builtin "str.upper") [.str (tx y) t]) Q E s := by
  refine SCL.upper (by rw [tx_len]; omega) fun _ => ?_
  rw [up_tx ha]
  exact h _ _
/-- a list comprehended by a range of a list's slice: any ints -/
theorem sliceI_K {value slice : Expr} {ns : List Int} {vl vu vk : Value} {lo hi st : Option Int} {ops : List Value} (F : Fr h₀ L s.heap m) (N : News h₀ L s.heap news) (hl : s.heap.IsList a vs.toArray) (pl : IsPart vl lo) (pu : IsPart vu hi) (pk : IsPart vk st) (h0 : st ≠ some 0) (hi' : IntsAre vs ns)
    (h : ∀ D us ms h', Fr h₀ L h' m → News h₀ L h' ((D, listOf (List.toArray us) 0) :: news) → (∀ p ∈ news, p.1 < D) → IntsAre us ms → Q (.ref D) { s with heap := h' })
    (hs : subscripted slice false (.ref a) (.ref s.heap.objs.size) = operate ops (getItem (.ref a) (.ref s.heap.objs.size))) (ht : ∀ r, letTemporaryGo value (.ref a) r = pure ()) (hz : vs.length ≤ sizeLine) :
    wpAny (model prog w) A (subscriptTail value slice (.ref a) (.ref s.heap.objs.size)) Q E { s with heap := s.heap.push { cls := .type "slice", data := .fields #[vl, vu, vk] } } := by
  refine slice_list3 F N hl pl pu pk h0 (fun h' F' N' => h _ (slicePick vs.toArray lo hi st).toList (pickNums ns lo hi st) h' F' (by rw [Array.toArray_toList]; exact N') (fun p hp => Nat.lt_succ_of_lt (Heap.lt_size (N p hp).1)) (hi'.pick lo hi st)) hs ht (by simpa using hz)
theorem popF_K {D : Addr} {z d : Int} {u : Tok} {n : Nat} (F : Fr h₀ L s.heap m) (N : News h₀ L s.heap news) (hd : d = (vs.length : Nat)) (hpos : 0 < vs.length) (hz : vs.length ≤ sizeLine)
    (k : ∀ p y q, vs = p ++ y :: q → ∃ news', Upd D (listOf vs.toArray n) (listOf (p ++ q).toArray (n + 1)) news news' ∧ ∀ h', Fr h₀ L h' m → News h₀ L h' news' → Q y { s with heap := h' }) :
    wpAny (model prog w) A (call (.builtin "list.pop") [.ref D, .int (z.fmod d) u]) Q E s := by
  subst hd
  have h1 : 0 ≤ z.fmod (vs.length : Nat) ∧ z.fmod (vs.length : Nat) < (vs.length : Nat) := by
    rw [Int.fmod_eq_emod_of_nonneg _ (Int.natCast_nonneg _)]
    exact ⟨Int.emod_nonneg _ (by omega), Int.emod_lt_of_pos _ (by omega)⟩
  have hk : (z.fmod (vs.length : Nat)).toNat < vs.length := by omega
  have e : vs = vs.take (z.fmod (vs.length : Nat)).toNat ++ vs[(z.fmod (vs.length : Nat)).toNat] :: vs.drop ((z.fmod (vs.length : Nat)).toNat + 1) := by
    rw [List.getElem_cons_drop, List.take_append_drop]
  obtain ⟨news', U, h⟩ := k _ _ _ e
  refine popI_K (n := n) F N (k := (z.fmod (vs.length : Nat)).toNat) (by omega) hk ?_ hz h
  rw [List.eraseIdx_eq_take_drop_succ]
  exact U
theorem led_lt {D : Addr} {h : Heap} (N : News h₀ L h news) (fr : ∀ (b : Nat) o, h.get? b = some o → @LT.lt Nat _ b D) : ∀ p ∈ news, p.1 < D := fun p hp => fr _ _ (N p hp).1
theorem led_ne {D : Addr} {h : Heap} (N : News h₀ L h news) (fr : ∀ (b : Nat) o, h.get? b = some o → b ≠ D) : ∀ p ∈ news, @Ne Nat p.1 D := fun p hp => fr _ _ (N p hp).1
theorem neSame_K (ha : s.heap.IsList a vs.toArray) (hb : s.heap.IsList b us.toArray) (hi : Txs vs ys) (hj : Txs us ys) (oi : ∀ y ∈ ys, y.all reOk = true) (hu : A.units + 64 < cLine) (h : Q (.bool false) s) :
    wpAny (model prog w) A (compareOp .NotEq (.ref a) (.ref b)) Q E s := by
  refine neS_K ha hb hi hj oi oi hu ?_
  rw [decide_eq_true rfl]; exact h
theorem subs_app {x y l : List (Addr × Obj)} (h : ∀ p ∈ x, p ∈ l) (k : ∀ p ∈ y, p ∈ l) : ∀ p ∈ x ++ y, p ∈ l := fun p hp => (List.mem_append.mp hp).elim (h p) (k p)
theorem news_cons {h₀ h : Heap} {L : Addr} {x : Addr × Obj} {l : List (Addr × Obj)} (N : News h₀ L h [x]) (N' : News h₀ L h l) : News h₀ L h (x :: l) := fun p hp => (List.mem_cons.mp hp).elim (fun e => N p (List.mem_singleton.mpr e)) (N' p)
theorem lenL_K (hl : s.heap.IsList a vs.toArray) (hz : vs.length ≤ sizeLine) (h : ∀ t' tk, Q (.int (vs.length : Nat) t') { s with toks := tk }) : wpAny (model prog w) A (call (.builtin "len") [.ref a]) Q E s := by
  have hb : sizeLine = 16777216 := PySem.sizeLine_eq
  refine len_list hl (by rw [List.size_toArray]; omega) ?_
  rw [List.size_toArray]
  exact h _ _
theorem itemEq_K {value slice : Expr} {k : Int} {u : Tok} {y : List Nat} (hl : s.heap.IsList a vs.toArray) (hi : Txs vs ys) (e : ys.getD k.toNat [] = y) (h0 : 0 ≤ k) (hk : k < ys.length) (hz : ys.length ≤ sizeLine) (h : ∀ t', Q (.str (tx y) t') s)
    (hs : subscripted slice false (.ref a) (.int k u) = operate [.ref a, .int k u] (getItem (.ref a) (.int k u))) (hg : ∀ r, letTemporaryGo value (.ref a) r = pure ()) :
    wpAny (model prog w) A (subscriptTail value slice (.ref a) (.int k u)) Q E s := by
  subst e
  exact itemS_K hl hi h0 hk hz h hs hg
theorem nameS {o : Obj} {x : Str} {t : Tok} (_ : o.data = .cell (some (.str x t))) : ∃ o', o' = o := ⟨_, rfl⟩
theorem off_of {I : Addr} {X TL : List (Addr × Obj)} (hX : AllLt I X) (hT : ∀ p ∈ TL, @LT.lt Nat _ p.1 I) : ∀ p ∈ X ++ TL, p.1 ≠ I := fun p hp => Nat.ne_of_lt ((List.mem_append.mp hp).elim (allLt_mem hX p) (hT p))
/-- two addresses apart, kept out of sight of omega -/
def NeW (a b : Nat) : Prop := a ≠ b
theorem led_new {D : Addr} {h : Heap} (N : News h₀ L h news) (fr : ∀ (b : Nat) o, h.get? b = some o → b ≠ D) : ∀ p ∈ news, NeW p.1 D := fun p hp => fr _ _ (N p hp).1
theorem off_new {D : Addr} : ∀ {l : List (Addr × Obj)}, LCg.Off1 D l → ∀ p ∈ l, NeW p.1 D := by
  intro l
  induction l with
  | nil => intro _ p h; cases h
  | cons q r ih =>
    intro x p h
    have x1 : (@Ne Nat q.1 D) ∧ LCg.Off1 D r := x
    rcases List.mem_cons.mp h with h | h
    · rw [h]; exact x1.1
    · exact ih x1.2 p h
theorem neW_of {D a : Addr} {o : Obj} {l : List (Addr × Obj)} (h : ∀ p ∈ l, NeW p.1 D) (hm : (a, o) ∈ l) : @Ne Nat a D := h _ hm
theorem allNe_mem {d : Nat} : ∀ {l : List Nat}, AllNe d l → ∀ a ∈ l, a ≠ d
  | _ :: _, x, a, h => by
    rcases List.mem_cons.mp h with h | h
    · rw [h]; exact x.1
    · exact allNe_mem x.2 a h
theorem allNe_new {q : Addr} {l : List (Addr × Obj)} (h : AllNe q (l.map fun p => (p.1 : Nat))) : ∀ p ∈ l, NeW p.1 q := fun p hp => allNe_mem h p.1 (List.mem_map.mpr ⟨p, hp, rfl⟩)
theorem fmod2 (n : Int) : n.fmod 2 = 0 ∨ n.fmod 2 = 1 := by
  rw [Int.fmod_eq_emod_of_nonneg _ (by decide)]
  omega
theorem fmod_rng (n : Int) {k : Int} (h : 0 < k) : 0 ≤ n.fmod k ∧ n.fmod k < k := by
  rw [Int.fmod_eq_emod_of_nonneg _ (Int.le_of_lt h)]
  exact ⟨Int.emod_nonneg _ (by omega), Int.emod_lt_of_pos _ h⟩
theorem fdiv_nat (c k : Nat) : ((c : Int).fdiv (k : Nat)) = ((c / k : Nat) : Int) := by
  rw [Int.fdiv_eq_ediv_of_nonneg _ (Int.natCast_nonneg k)]
  rfl
theorem fmod_nat (c k : Nat) : ((c : Int).fmod (k : Nat)) = ((c % k : Nat) : Int) := by
  rw [Int.fmod_eq_emod_of_nonneg _ (Int.natCast_nonneg k)]
  rfl
end
theorem IntsAre.split {vs p q : List Value} {y : Value} {ns : List Int} : vs = p ++ y :: q → IntsAre vs ns → ∃ np n nq t, ns = np ++ n :: nq ∧ IntsAre p np ∧ IntsAre q nq ∧ y = .int n t := by
  intro e h
  subst e
  induction p generalizing ns with
  | nil =>
    cases h with
    | cons n t r => exact ⟨[], n, _, t, rfl, .nil, r, rfl⟩
  | cons v p ih =>
    cases h with
    | cons n t r =>
      obtain ⟨np, n', nq, t', e1, h1, h2, h3⟩ := ih r
      exact ⟨n :: np, n', nq, t', by rw [e1]; rfl, .cons n t h1, h2, h3⟩
end Mine
end
section
open PySem PySem.W PySem.Spec PySem.Calls PyProof.Rows
set_option Elab.async false
set_option maxRecDepth 100000
namespace Mine
section
variable {prog : Program} {w : World} {A : Around} {E : Value → Shared → Prop} {s : Shared} {env : Env} {h₀ : Heap} {x : Str} {px : Pos} {body : List Stmt} {Q : Flow → Shared → Prop} {m : Str → Option Value} {news : List (Addr × Obj)}
theorem iter_strTurns {y : Str} {t : Tok} {m₀ : Str → Option Value}
    (hh : A.handled = none) (ha : y.cps.all (· < 128) = true) (F : Fr h₀ env.locals s.heap m₀) (N : News h₀ env.locals s.heap news)
    (rest₀ : ∀ I : Addr, (∀ p ∈ news, p.1 < I) → ItemsRest prog w A E h₀ env (.Name x px) body Q s [(I, "str_ascii_iterator")] [] (y.cps.toList.map fun c => Itm.tok fun t => .str ⟨#[c]⟩ t) m₀ news) :
    wpAny (model prog w) A (pyIter (.str y t)) (fun it s₂ => TurnsAt prog w A h₀ env (.Name x px) body Q E it s₂) E s := by
  refine wpAny_pyIter_ascii ha ?_
  refine ktu_core (tk0 := s.toks) (keep := []) (KTurns.ofWalks (Walks.strAscii hh s.heap.objs.size y t) fun i v s Q E st q => wpAny_pure q) (by simp) (fun i v h hp => ?_) (fun i h st => ?_) (fun b hb => ?_) (fun b hb => by simpa using hb) (fun b hb => ?_) ?_ (fun p hp hI => ?_) ?_ (F.push _) (fun p hp => ⟨Heap.get?_push_of_some _ (N p hp).1, (N p hp).2⟩) trivial (rest₀ _ fun p hp => Heap.lt_size (N p hp).1)
  · obtain ⟨c, u, hc, rfl⟩ := hp
    exact ⟨.tok fun t => .str ⟨#[c]⟩ t, by rw [List.getElem?_map, Array.getElem?_toList, hc]; rfl, ⟨u, rfl⟩⟩
  · obtain ⟨it, hit, hic, _⟩ := st
    exact ⟨[(s.heap.objs.size, it)], ⟨⟨rfl, hic⟩, trivial⟩, fun p hp => by rw [List.mem_singleton.mp hp]; exact hit⟩
  · have hb' : b = s.heap.objs.size := by simpa using hb
    rw [hb']
    exact ⟨List.mem_cons_self .., next_is_new F⟩
  · exact .inl (by simpa using hb)
  · intro hI
    exact absurd F.ns.lt ((List.mem_singleton.mp hI) ▸ Nat.lt_irrefl _)
  · exact absurd (Heap.lt_size (N p hp).1) ((List.mem_singleton.mp hI) ▸ Nat.lt_irrefl _)
  · exact ⟨_, Heap.get?_push_size _ rfl, rfl, rfl⟩
/-- a for over a text's signs, by an invariant -/
theorem str_inv {target : Expr} {ws : List (Addr × String)} {keep : List (Addr × Obj)} {cs : List Nat} (Inv : Nat → (Str → Option Value) → List (Addr × Obj) → Prop) (h0 : Inv 0 m news)
    (H : ∀ i c t m nw h tk, cs[i]? = some c → Inv i m nw → Fr h₀ env.locals h m → AllObj ws (fun its => News h₀ env.locals h (its ++ nw) →
      wpAny (model prog w) A (assign target env (.str ⟨#[c]⟩ t)) (fun _ s₂ => wpAny (model prog w) A (execs body env) (UnrPostW h₀ env.locals { s with heap := h, toks := tk } its (fun m' n' => SubL keep n' ∧ Inv (i + 1) m' n') Q) E s₂) E { s with heap := h, toks := tk }))
    (fin : ∀ m nw h tk, Inv cs.length m nw → Fr h₀ env.locals h m → News h₀ env.locals h nw → Q .next { s with heap := h, toks := tk }) :
    ItemsRest prog w A E h₀ env target body Q s ws keep (cs.map fun c => Itm.tok fun t => .str ⟨#[c]⟩ t) m news := by
  have key : ∀ (r : List Nat) i m nw, i + r.length = cs.length → (∀ j v, r[j]? = some v → cs[i + j]? = some v) → Inv i m nw → ItemsRest prog w A E h₀ env target body Q s ws keep (r.map fun c => Itm.tok fun t => .str ⟨#[c]⟩ t) m nw := by
    intro r
    induction r with
    | nil =>
      intro i m nw e _ hi
      exact ItemsRest.zero fun h tk F N => fin m nw h tk (by rw [← e, List.length_nil, Nat.add_zero]; exact hi) F N
    | cons v r ih =>
      intro i m nw e hv hi
      refine ItemsRest.tok fun t h tk F => AllObj.mono' (fun its k N => ?_) (H i v t m nw h tk (by simpa using hv 0 v rfl) hi F)
      refine wpAny_mono (k N) (fun _ s₂ h₂ => wpAny_mono h₂ (fun f s₃ h₃ => UnrPostW.mono' (fun m' nw' z => ?_) h₃) fun _ _ z => z) fun _ _ z => z
      refine ⟨z.1, ih (i + 1) m' nw' (by rw [List.length_cons] at e; omega) (fun j u hj => ?_) z.2⟩
      have := hv (j + 1) u (by simpa using hj)
      rw [← this]; congr 1; omega
  exact key cs 0 m news (by omega) (fun j v hj => by simpa using hj) h0
/-- a for over a list, a local name its target, by an invariant -/
theorem listRest_inv {I : Addr} {lp : Addr × Obj} {vs : List Value} (Inv : Nat → (Str → Option Value) → List (Addr × Obj) → Prop) (h0 : Inv 0 m news) (hlp : ∀ i m nw, Inv i m nw → lp ∈ nw)
    (H : ∀ i v m nw it h tk, vs[i]? = some v → Inv i m nw → it.cls = .type "list_iterator" → Fr h₀ env.locals h (fun y => if y = x then some v else m y) → News h₀ env.locals h ((I, it) :: nw) →
      wpAny (model prog w) A (execs body env) (UnrPost h₀ env.locals { s with heap := h, toks := tk } I it (fun m' n' => Inv (i + 1) m' n') Q) E { s with heap := h, toks := tk })
    (fin : ∀ m nw h tk, Inv vs.length m nw → Fr h₀ env.locals h m → News h₀ env.locals h nw → Q .next { s with heap := h, toks := tk }) :
    ListRest prog w A E h₀ env x body Q s I lp vs m news := by
  have key : ∀ (r : List Value) i m nw, i + r.length = vs.length → (∀ j v, r[j]? = some v → vs[i + j]? = some v) → Inv i m nw → ListRest prog w A E h₀ env x body Q s I lp r m nw := by
    intro r
    induction r with
    | nil =>
      intro i m nw e _ hi
      exact ListRest.zero fun h tk F N => fin m nw h tk (by rw [← e, List.length_nil, Nat.add_zero]; exact hi) F N
    | cons v r ih =>
      intro i m nw e hv hi
      refine ListRest.succ fun it h tk hc F N => ?_
      refine wpAny_mono (H i v m nw it h tk (by simpa using hv 0 v rfl) hi hc F N) (fun f s₃ h₃ => UnrPost.mono' (fun m' nw' z => ⟨hlp _ _ _ z, ih (i + 1) m' nw' (by rw [List.length_cons] at e; omega) (fun j u hj => ?_) z⟩) h₃) fun _ _ z => z
      have := hv (j + 1) u (by simpa using hj)
      rw [← this]; congr 1; omega
  exact key vs 0 m news (by omega) (fun j v hj => by simpa using hj) h0
end
end Mine
end
section
open PySem PySem.W PyProof.Rows
set_option Elab.async false
namespace Mine
def vw1 : Program := view PySem.Challenge.rw_st0023_01.row.toRowW.prog [0, 1, 3, 5, 7, 8, 9, 11, 13, 14, 15, 16, 17, 18]
def loose1 : List Str := [Str.ofString "tspecials", Str.ofString "_name_disallowed_re", Str.ofString "_value_disallowed_re", Str.ofString "_formatparam"]
local macro_rules | `(tactic| o_head $H) => `(tactic| (
  refine holds_open (q := vw1) (loose := loose1) (Xt := fun s => xlAt vw1 [] s && recOk (RowW.records (PySem.Challenge.rw_st0023_01.row.toRowW)) s) (XP := XL vw1 []) (Yf := Hook.obs $H) (Ya := Hook.val $H) (YP := Hook.says $H) (N := 3284) ?hl (Hook.of $H) (Hook.keeps $H) (fun s e => xl_of s (Bool.and_eq_true_iff.mp e).1) XL.keeps (by rfl) (by rfl) (by rfl) (fun s e => recFacts_of (Bool.and_eq_true_iff.mp e).2) (by rfl) (by first | assumption | decide +kernel) (by decide +kernel) ⟨rfl, rfl, rfl, rfl, rfl, by decide +kernel⟩ ?hw ?hc
  case hl => (intro w; kernel_rfl)
  case hw => w_witness2))
set_option maxRecDepth 100000 in
set_option maxHeartbeats 0 in
noncomputable def hd1 : { T : Prop // T → PySem.Challenge.rw_st0023_01.Holds } := ⟨_, by
  intro h
  w_on; (refine holds_law (by decide +kernel) fun said => ?_)
  k_head
  exact h⟩
#check (hd1.1)
end Mine
end
open PySem PySem.W PySem.Spec PySem.Calls PyProof.Rows
namespace Mine
theorem topOff : True := by w_top off; trivial
theorem fill_all : PySem.Challenge.rw_st0023_01 = PySem.Challenge.rw_st0023_01 → hd1.heap_1 = hd1.heap_1 := by k_fill; intro _; rfl
section
-- the kit's ktr_rel stands here for: a length is below the size line
local macro_rules | `(tactic| ktr_rel) => `(tactic| first | assumption | ((try simp only [List.length_append, List.length_reverse, List.length_cons, List.length_nil, List.size_toArray, len_mk, len_empty, len_quote, len_back, Str.length_append, tx_len]); (have hb9 := PySem.sizeLine_eq); omega))
local macro_rules | `(tactic| k_room) => `(tactic| ktr_room)
local macro_rules | `(tactic| k_units) => `(tactic| ktr_units)
local macro_rules | `(tactic| walk_at "call type:list") => `(tactic| (k_here; k_dflt (refine' listStr_K (by exact rfl) (by k_asm) (by k_asm) (by assumption) ?_; k_whole); intro l' c' vs' h' tk' F' N' l1 hc'; (try k_lt l1); (try k_sweep)))
local macro_rules | `(tactic| walk_at "call builtin:list.reverse") => `(tactic| (k_here; k_dflt (refine' rev_K (by k_asm) (by k_asm) (by k_upd) (by (rename Chs _ _ => hc'; rw [Chs.length hc']; simpa using (by assumption))) ?_); (intro h' F' N'); (try k_sweep)))
local macro_rules | `(tactic| walk_at "call builtin:list.pop") => `(tactic| (k_here; k_dflt (refine' pop_K (by k_asm) (by k_asm) (by k_upd) (by ktr_rel) ?_); (intro h' F' N'); (try k_sweep)))
local macro_rules | `(tactic| walk_at "truthy ref") => `(tactic| (k_here; k_dflt (first
  | (refine' truthyNil_K (by k_asm) (by k_mem) ?_; k_whole; intro tk')
  | (refine' truthyNe_K (by k_asm) (by k_mem) (by ktr_rel) (by simp) ?_; k_whole; intro tk'))))
-- the kit's ktr_unf stands here for: what a name of the frame holds, by the facts of an open map
local macro_rules | `(tactic| ktr_unf) => `(tactic| first | exact rfl | assumption | (refine (if_neg (by decide)).trans ?_; ktr_unf))
local macro_rules | `(tactic| walk_at "last eval Name") => `(tactic| (k_here; k_dflt (refine' nameX_L (by k_asm) ?v ?_ (by rfl) (by rfl); (case v => ktr_unf); k_whole)))
local macro_rules | `(tactic| walk_at "last loadName") => `(tactic| (k_here; k_dflt (refine' ldX (by k_asm) ?v ?_ (by rfl) (by rfl); (case v => ktr_unf); k_whole)))
local macro_rules | `(tactic| walk_at "inplaceOp Add str str") => `(tactic| (k_here; refine' iadd_str ?_ (by ktr_rel); intro t' tk'))
local macro_rules | `(tactic| walk_at "binaryOp Add str str") => `(tactic| (k_here; refine' add_str ?_ (by ktr_rel); intro t' tk'))
local macro_rules | `(tactic| walk_at "call builtin:list.append") => `(tactic| (k_here; k_dflt (refine' appendV_K (by k_asm) (by k_asm) (by k_upd) (by ktr_rel) ?_); (intro h' F' N'); (try k_sweep)))
local macro_rules | `(tactic| walk_at "call builtin:list.pop") => `(tactic| (k_here; k_dflt (refine' pop0_K (by k_asm) (by k_asm) (by k_upd) (by ktr_rel) ?_); (intro h' F' N'); (try k_sweep)))
local macro_rules | `(tactic| walk_at "call builtin:str.join") => `(tactic| (k_here; k_dflt (refine' joinTx_K (by k_asm) (by k_mem) (by assumption) (by ktr_rel) ?_); intro t' k'))
local macro_rules | `(tactic| walk_at "getMethod ref") => `(tactic| (k_here; (with_reducible show wpAny _ _ (getMethod (Value.ref _) (PySem.Str.ofString "search") _) _ _ _); k_dflt (refine' re_method (by k_in) (by k_is) (by rfl) (by rfl) ?_; k_whole)))
local macro_rules | `(tactic| walk_at "call builtin:re.Pattern.search") => `(tactic| (k_here; k_dflt (refine' re_search (by k_in) (by k_is) (by rfl) (by rfl) (by rfl) (by rfl) (by rfl) (by k_is) (by rfl) (by first | exact ⟨_, reName_code, rfl⟩ | exact ⟨_, reValue_code, rfl⟩) (by exact tx_ok (by assumption)) (by ktr_rel) ?_; k_whole)))
local macro_rules | `(tactic| walk_at "call builtin:str.lower") => `(tactic| (k_here; k_dflt (refine' lower_tx (by assumption) (by ktr_rel) (by ktr_rel) ?_); intro t' k'))
local macro_rules | `(tactic| walk_at "eval ListComp") => `(tactic| (k_here; refine Stop.out ?_))
local macro_rules | `(tactic| omega) => `(tactic| first | lia | omega +splitDisjunctions)
noncomputable abbrev PP : Program := PySem.Challenge.rw_st0023_01.row.prog
theorem fill1 : PySem.Challenge.rw_st0023_01 = PySem.Challenge.rw_st0023_01 → hd1.heap_1 = hd1.heap_1 := by k_fill; intro _; rfl
/-- where a lexer's objects lie, and what of them never turns -/
structure LexP where
  (x2 d2 pb2 f c x1 d1 pb1 ls cs : Nat)
  (oc ocell : Obj)
  (ovs : Array Value)
  (ot : Tok)
  (pm ct : Value)
  (t1 t2 t3 t3v t4 u1 u1v u2 u3 u3v u4 u5 : Tok)
noncomputable abbrev lamQual : Str := (Str.ofString "_law_lexer" ++ Str.ofString ".<locals>.") ++ Str.ofString "<lambda>"
structure LexP.Ok (P : LexP) : Prop where
  cell : P.ocell.data = .cell (some (.ref P.ls))
  code : P.oc.data = .fields P.ovs
  qual : P.ovs[1]? = some (.str lamQual P.ot)
  ord : P.cs < P.ls ∧ P.ls < P.d1 ∧ P.d1 < P.x1 ∧ P.x1 < P.pb1 ∧ P.pb1 < P.c ∧ P.c < P.f ∧ P.f < P.d2 ∧ P.d2 < P.x2 ∧ P.x2 < P.pb2
noncomputable abbrev ent (w : World) (n : String) (t : Tok) (v : Value) : DictEntry := ⟨PyData.keyHash w.params (Str.ofString n), .str (Str.ofString n) t, v⟩
noncomputable abbrev d2Of (w : World) (P : LexP) (ln : Int) (tl : Tok) : Obj := dictOf [ent w "lineno" P.t1 (.int ln tl), ent w "instream" P.t2 (.ref P.x1), ent w "whitespace" P.t3 (.str (Str.ofString "\n\t\r ") P.t3v), ent w "pushback" P.t4 (.ref P.pb2)] 4
noncomputable abbrev d1Of (w : World) (P : LexP) : Obj := dictOf [ent w "lineno" P.u1 (.int 1 P.u1v), ent w "instream" P.u2 .none, ent w "whitespace" P.u3 (.str (Str.ofString "\n\t\r ") P.u3v), ent w "pushback" P.u4 (.ref P.pb1), ent w "read" P.u5 (.ref P.f)] 5
noncomputable abbrev lamOf (P : LexP) : Obj := kla_obj (Str.ofString "<lambda>") lamQual ⟨[], [⟨Str.ofString "count", none, ⟨152, 25, 152, 30⟩⟩], none, [], [], none, []⟩
  (Expr.IfExp (Expr.Name (Str.ofString "signs") ⟨152, 47, 152, 52⟩) (Expr.Call (Expr.Attribute (Expr.Name (Str.ofString "signs") ⟨152, 32, 152, 37⟩) (Str.ofString "pop") ⟨152, 32, 152, 41⟩) [] [] ⟨152, 32, 152, 43⟩) (Expr.Constant (Const.str (Str.ofString "")) 0 ⟨152, 58, 152, 60⟩) ⟨152, 32, 152, 60⟩)
  ⟨.function, [(Str.ofString "count", .local), (Str.ofString "signs", .free)], false, false, []⟩ [(Str.ofString "signs", P.cs)] P.pm P.c P.ct
/-- the lexer's part of the ledger: line number, what waits, the signs (the last one is read first) -/
noncomputable abbrev lexLed (w : World) (P : LexP) (ln : Int) (tl : Tok) (pv : List Value) (pe : Nat) (sg : List Value) (le : Nat) : List (Addr × Obj) :=
  [(P.x2, instObj 83 P.d2), (P.d2, d2Of w P ln tl), (P.pb2, listOf pv.toArray pe), (P.f, lamOf P), (P.c, P.oc), (P.x1, instObj 83 P.d1), (P.d1, d1Of w P), (P.ls, listOf sg.toArray le), (P.cs, P.ocell)]
noncomputable abbrev LexP.addrs (P : LexP) : List Nat := [P.x2, P.d2, P.pb2, P.f, P.c, P.x1, P.d1, P.ls, P.cs]
theorem LexP.Ok.lo {P : LexP} (O : P.Ok) {X : Nat} (h : X < P.cs) : AllNe X P.addrs := by
  obtain ⟨o1, o2, o3, o4, o5, o6, o7, o8, o9⟩ := O.ord
  have a2 := Nat.lt_trans h o1
  have a3 := Nat.lt_trans a2 o2
  have a4 := Nat.lt_trans a3 o3
  have a5 := Nat.lt_trans a4 o4
  have a6 := Nat.lt_trans a5 o5
  have a7 := Nat.lt_trans a6 o6
  have a8 := Nat.lt_trans a7 o7
  have a9 := Nat.lt_trans a8 o8
  exact ⟨Nat.ne_of_gt a9, Nat.ne_of_gt a8, Nat.ne_of_gt (Nat.lt_trans a9 o9), Nat.ne_of_gt a7, Nat.ne_of_gt a6, Nat.ne_of_gt a4, Nat.ne_of_gt a3, Nat.ne_of_gt a2, Nat.ne_of_gt h, trivial⟩
theorem LexP.Ok.tops {P : LexP} (O : P.Ok) {X : Nat} (h : P.pb2 < X) : P.x2 < X ∧ P.d2 < X ∧ P.f < X ∧ P.c < X ∧ P.x1 < X ∧ P.d1 < X ∧ P.ls < X ∧ P.cs < X := by
  obtain ⟨o1, o2, o3, o4, o5, o6, o7, o8, o9⟩ := O.ord
  have a9 := Nat.lt_trans o9 h
  have a8 := Nat.lt_trans o8 a9
  have a7 := Nat.lt_trans o7 a8
  have a6 := Nat.lt_trans o6 a7
  have a5 := Nat.lt_trans o5 a6
  have a4 := Nat.lt_trans o4 a5
  have a3 := Nat.lt_trans o3 a4
  have a2 := Nat.lt_trans o2 a3
  exact ⟨a9, a8, a7, a6, a4, a3, a2, Nat.lt_trans o1 a2⟩
theorem LexP.Ok.hi {P : LexP} (O : P.Ok) {X : Nat} (h : P.pb2 < X) : AllNe X P.addrs := by
  obtain ⟨a9, a8, a7, a6, a4, a3, a2, a1⟩ := O.tops h
  exact ⟨Nat.ne_of_lt a9, Nat.ne_of_lt a8, Nat.ne_of_lt h, Nat.ne_of_lt a7, Nat.ne_of_lt a6, Nat.ne_of_lt a4, Nat.ne_of_lt a3, Nat.ne_of_lt a2, Nat.ne_of_lt a1, trivial⟩
theorem LexP.Ok.top {P : LexP} (O : P.Ok) : AllLe P.pb2 P.addrs := by
  obtain ⟨a9, a8, a7, a6, a4, a3, a2, a1⟩ := O.tops (Nat.lt_succ_self _)
  exact ⟨Nat.le_of_lt_succ a9, Nat.le_of_lt_succ a8, Nat.le_refl _, Nat.le_of_lt_succ a7, Nat.le_of_lt_succ a6, Nat.le_of_lt_succ a4, Nat.le_of_lt_succ a3, Nat.le_of_lt_succ a2, Nat.le_of_lt_succ a1, trivial⟩
theorem LexP.Ok.tl {P : LexP} (O : P.Ok) {TL : List (Addr × Obj)} {n : Nat} (h : ∀ p ∈ TL, @LT.lt Nat _ n p.1) (k : P.pb2 < n) : ∀ p ∈ TL, p.1 ∉ P.addrs := fun p hp hq => (O.hi (Nat.lt_trans k (h p hp))).notin hq
theorem cx1 {p : Program} {w : World} {A : Around} {Q : Value → Shared → Prop} {E : Value → Shared → Prop} {s : Shared} (h : wpAny (model p w) A (pyIter Value.none) Q E s) : wpAny (model p w) A (pyIter Value.none) Q E s := by first | (walk1; fail "x") | exact h
section
section
variable {w : World} {dp un : Nat} {gd : Option (List Code)} {cn : Str} {nm : List (Str × NameKind)} {ig ic : Bool} {mo : List (Str × Const)} {a : Addr} {ccd : Value} {cl : List (Str × Addr)} {outer : List Env} {A₀ : Around} {base h₀ : Heap} {L : Addr} {m : Str → Option Value} {news : List (Addr × Obj)} {s : Shared} {p : Program} {loose : List Str} {mean : ExcName → Option Value} {mg mb : Str → Option Value} {R : Result → Shared → Prop}
set_option maxHeartbeats 0 in
theorem lexer_spec {x : Str} {tx : Tok} (B : Below A₀ base outer h₀) (F : Fr h₀ L s.heap m) (X : (hd1.heap_1 w.params).In h₀) (T : Top p loose mean mg mb h₀) (hd : dp + 10 < recursionLimit) (hu : un + 100 < cLine) (N : News h₀ L s.heap [(237, tabObj #[])])
    (hx : x.cps.size ≤ sizeLine)
    (hret : ∀ (P : LexP) (vs : List Value) (le : Nat) (tl : Tok) (tps : Array Value) h' tk', P.Ok → (∀ (b : Nat) o, s.heap.get? b = some o → b < P.cs) → Chs vs x.cps.toList → (∀ b o, s.heap.get? b = some o → b ≠ 237 → h'.get? b = some o) → Fr h₀ L h' m →
      News h₀ L h' ((237, tabObj tps) :: lexLed w P 1 tl [] 0 vs.reverse le) → R (.ok (.ret (.ref P.x2))) { s with heap := h', toks := tk' }) :
    codeAny (model PP w) (ktrTop dp un gd cn ⟨.function, nm, ig, ic, mo⟩ L a ccd cl outer) (.call (.ref 242) ⟨[.str x tx], []⟩) R s := by
  k_dflt (refine' codeKC ?k1 ?k2 ?k3 ?k4 ?k5 ?kA ?kF ?kK ?k6 ?k7 ?k8 ?k9 ?kB ?kD ?_ ?c2 ?c3 ?c4; (case kA => exact rfl); (case kF => exact rfl); (case kK => exact rfl); (case k1 => exact B); (case k2 => exact F); (case k3 => exact X); (case k4 => exact N); (case k5 => exact T); (case k6 => k_is); (case k7 => k_is); (case k8 => k_room); (case k9 => first | exact BindsTo.of_eq rfl | exact binds_K (by k_in) rfl (by k_is) rfl rfl rfl); (case kB => exact rfl); (case kD => decide +kernel); (case c2 => exact rfl); (case c3 => exact rfl); (case c4 => exact rfl); k_whole; intro g L' h' tk' cells kg kl FG F' N' Y' B' X' T' l1; (try k_lt l1); k_cells Y'; (try simp only [List.cons_append, List.nil_append] at N'); (have codeHd := codeHd_of_K (c := 241) (P := 237) X' (by kernel_rfl)); (try dsimp only); (try k_lift B'); (try k_fold))
  k_steps
  (rename News h₀ L _ _ => Nf)
  refine' hret (LexP.mk _ _ _ _ _ _ _ _ _ _ _ _ _ _ _ _ _ _ _ _ _ _ _ _ _ _ _ _) _ _ _ _ _ _ ?ok ?fresh ?chs ?keep (by assumption) ?news
  case news =>
    k_dflt (repeat' (first | exact List.forall_mem_nil _ | (refine' List.forall_mem_cons.mpr ⟨Nf _ ?_, ?_⟩; k_mem)))
  case ok => refine ⟨by assumption, by assumption, by assumption, ?_⟩; dsimp only; omega
  case fresh => intro b o e; have := kl b o e; dsimp only; omega
  case chs => assumption
  case keep => intro b o e hb; rename Fr g _ _ _ => Fg; exact Fg.keep b o (kg b o e (by simpa using hb))
end
end
theorem cx2 {p : Program} {w : World} {A : Around} {Q : Value → Shared → Prop} {E : Value → Shared → Prop} {s : Shared} (h : wpAny (model p w) A (pyIter Value.none) Q E s) : wpAny (model p w) A (pyIter Value.none) Q E s := by first | (walk1; fail "x") | exact h
section
section
variable {w : World} {dp un : Nat} {gd : Option (List Code)} {cn : Str} {nm : List (Str × NameKind)} {ig ic : Bool} {mo : List (Str × Const)} {a : Addr} {ccd : Value} {cl : List (Str × Addr)} {outer : List Env} {A₀ : Around} {base h₀ : Heap} {L : Addr} {m : Str → Option Value} {news : List (Addr × Obj)} {s : Shared} {p : Program} {loose : List Str} {mean : ExcName → Option Value} {mg mb : Str → Option Value} {R : Result → Shared → Prop}
set_option maxHeartbeats 0 in
theorem read_cons {P : LexP} {ln : Int} {tl tc : Tok} {pv vs : List Value} {pe le c : Nat} (B : Below A₀ base outer h₀) (F : Fr h₀ L s.heap m) (X : (hd1.heap_1 w.params).In h₀) (T : Top p loose mean mg mb h₀) (hd : dp + 5 < recursionLimit) (hu : un + 50 < cLine) (O : P.Ok) (N : News h₀ L s.heap (lexLed w P ln tl pv pe (vs.reverse ++ [Value.str ⟨#[c]⟩ tc]) le)) (hz : vs.length < sizeLine)
    (hret : ∀ (ln' : Int) tl' le' h' tk', ln' = (if c = 10 then ln + 1 else ln) → (∀ (b : Nat) o, s.heap.get? b = some o → b ∉ P.addrs → h'.get? b = some o) → Fr h₀ L h' m →
      News h₀ L h' (lexLed w P ln' tl' pv pe vs.reverse le') → R (.ok (.ret (.str ⟨#[c]⟩ tc))) { s with heap := h', toks := tk' }) :
    codeAny (model PP w) (ktrTop dp un gd cn ⟨.function, nm, ig, ic, mo⟩ L a ccd cl outer) (.call (.ref 66) ⟨[.ref P.x2], []⟩) R s := by
  obtain ⟨ocd, ocf, ovq, oord⟩ := O
  unfold lexLed at N
  k_dflt (refine' codeK ?k1 ?k2 ?k3 ?k4 ?k5 ?kA ?kF ?kK ?k6 ?k7 ?k8 ?k9 ?kB ?_ ?c2 ?c3 ?c4 ?c5; (case kA => exact rfl); (case kF => exact rfl); (case kK => exact rfl); (case k1 => exact B); (case k2 => exact F); (case k3 => exact X); (case k4 => exact N); (case k5 => exact T); (case k6 => k_is); (case k7 => k_is); (case k8 => k_room); (case k9 => first | exact BindsTo.of_eq rfl | exact binds_K (by k_in) rfl (by k_is) rfl rfl rfl); (case c5 => decide); (case kB => exact locs rfl); (case c2 => exact rfl); (case c3 => exact rfl); (case c4 => exact rfl); k_whole; intro g L' h' kg kl l1 FG F' N' B' X' T'; (try k_lt l1); (have codeHd := codeHd_of_K (c := 241) (P := 237) X' (by kernel_rfl)); (try dsimp only); (try k_lift B'); (try k_fold))
  k_steps
  · (rename (Str.mk #[c] == _) = true => hc)
    rw [one_nl, decide_eq_true_eq] at hc
    rename Fr g _ _ _ => Fg
    refine hret (ln + 1) _ _ _ _ (by rw [if_pos hc]) (fun b o e hb => Fg.keep b o (kg b o e hb)) (by assumption) (by assumption)
  · (rename (Str.mk #[c] == _) = false => hc)
    rw [one_nl, decide_eq_false_iff_not] at hc
    rename Fr g _ _ _ => Fg
    refine hret ln _ _ _ _ (by rw [if_neg hc]) (fun b o e hb => Fg.keep b o (kg b o e hb)) (by assumption) (by assumption)

set_option maxHeartbeats 0 in
theorem read_nil {P : LexP} {ln : Int} {tl : Tok} {pv : List Value} {pe le : Nat} (B : Below A₀ base outer h₀) (F : Fr h₀ L s.heap m) (X : (hd1.heap_1 w.params).In h₀) (T : Top p loose mean mg mb h₀) (hd : dp + 5 < recursionLimit) (hu : un + 50 < cLine) (O : P.Ok) (N : News h₀ L s.heap (lexLed w P ln tl pv pe [] le))
    (hret : ∀ te h' tk', (∀ (b : Nat) o, s.heap.get? b = some o → b ∉ P.addrs → h'.get? b = some o) → Fr h₀ L h' m →
      News h₀ L h' (lexLed w P ln tl pv pe [] le) → R (.ok (.ret (.str (Str.ofString "") te))) { s with heap := h', toks := tk' }) :
    codeAny (model PP w) (ktrTop dp un gd cn ⟨.function, nm, ig, ic, mo⟩ L a ccd cl outer) (.call (.ref 66) ⟨[.ref P.x2], []⟩) R s := by
  obtain ⟨ocd, ocf, ovq, oord⟩ := O
  unfold lexLed at N
  k_dflt (refine' codeK ?k1 ?k2 ?k3 ?k4 ?k5 ?kA ?kF ?kK ?k6 ?k7 ?k8 ?k9 ?kB ?_ ?c2 ?c3 ?c4 ?c5; (case kA => exact rfl); (case kF => exact rfl); (case kK => exact rfl); (case k1 => exact B); (case k2 => exact F); (case k3 => exact X); (case k4 => exact N); (case k5 => exact T); (case k6 => k_is); (case k7 => k_is); (case k8 => k_room); (case k9 => first | exact BindsTo.of_eq rfl | exact binds_K (by k_in) rfl (by k_is) rfl rfl rfl); (case c5 => decide); (case kB => exact locs rfl); (case c2 => exact rfl); (case c3 => exact rfl); (case c4 => exact rfl); k_whole; intro g L' h' kg kl l1 FG F' N' B' X' T'; (try k_lt l1); (have codeHd := codeHd_of_K (c := 241) (P := 237) X' (by kernel_rfl)); (try dsimp only); (try k_lift B'); (try k_fold))
  k_steps
  rename Fr g _ _ _ => Fg
  exact hret _ _ _ (fun b o e hb => Fg.keep b o (kg b o e hb)) (by assumption) (by assumption)
end
end
theorem cx3 {p : Program} {w : World} {A : Around} {Q : Value → Shared → Prop} {E : Value → Shared → Prop} {s : Shared} (h : wpAny (model p w) A (pyIter Value.none) Q E s) : wpAny (model p w) A (pyIter Value.none) Q E s := by first | (walk1; fail "x") | exact h
section
section
variable {w : World} {dp un : Nat} {gd : Option (List Code)} {cn : Str} {nm : List (Str × NameKind)} {ig ic : Bool} {mo : List (Str × Const)} {a : Addr} {ccd : Value} {cl : List (Str × Addr)} {outer : List Env} {A₀ : Around} {base h₀ : Heap} {L : Addr} {m : Str → Option Value} {news : List (Addr × Obj)} {s : Shared} {p : Program} {loose : List Str} {mean : ExcName → Option Value} {mg mb : Str → Option Value} {R : Result → Shared → Prop}
theorem fn_read {w : World} {h : Heap} (X : (hd1.heap_1 w.params).In h) : ∃ og fd, h.get? 66 = some og ∧ og.data = .func fd := ⟨_, _, X 66 _ (by k_is), rfl⟩
theorem next_cons {P : LexP} {it q : Nat} {ln : Int} {t0 tl tc : Tok} {pv vs : List Value} {pe le c : Nat} {Q : Option Value → Shared → Prop} {E : Value → Shared → Prop} (B : Below A₀ base outer h₀) (F : Fr h₀ L s.heap m) (X : (hd1.heap_1 w.params).In h₀) (T : Top p loose mean mg mb h₀) (hd : dp + 7 < recursionLimit) (hu : un + 70 < cLine) (O : P.Ok) (hz : vs.length < sizeLine)
    (N : News h₀ L s.heap ((it, ciObj (.ref q) (.str (Str.ofString "") t0) false) :: (q, methodObj (.ref 66) (.ref P.x2)) :: lexLed w P ln tl pv pe (vs.reverse ++ [Value.str ⟨#[c]⟩ tc]) le)) (hi : it ∉ P.addrs) (hq : q ∉ P.addrs)
    (k : ∀ (ln' : Int) tl' le' h' tk', ln' = (if c = 10 then ln + 1 else ln) → Fr h₀ L h' m →
      News h₀ L h' ((it, ciObj (.ref q) (.str (Str.ofString "") t0) false) :: (q, methodObj (.ref 66) (.ref P.x2)) :: lexLed w P ln' tl' pv pe vs.reverse le') → Q (some (.str ⟨#[c]⟩ tc)) { s with heap := h', toks := tk' }) :
    wpAny (model PP w) (ktrTop dp un gd cn ⟨.function, nm, ig, ic, mo⟩ L a ccd cl outer) (pyNext (.ref it)) Q E s := by
  have n1 := N _ (.head _)
  have n2 := N _ (.tail _ (.head _))
  obtain ⟨og, fd, hg, hf⟩ := fn_read (X.keeps F.keep)
  refine ci_next (A := ktrTop dp un gd cn ⟨.function, nm, ig, ic, mo⟩ L a ccd cl outer) rfl n1.1 n2.1 hg hf ?_
  refine read_cons (dp := dp) (un := un + 1) B F X T (by omega) (by omega) O (news_sub N fun p hp => .tail _ (.tail _ hp)) hz ?_
  intro ln' tl' le' h' tk' hln keep F' N'
  have hgk : h'.get? 66 = some og := by
    obtain ⟨og', fd', hg', _⟩ := fn_read X
    rw [F.keep _ _ hg'] at hg
    cases hg
    exact F'.keep _ _ hg'
  refine ⟨_, _, rfl, keep _ _ n1.1 hi, keep _ _ n2.1 hq, hgk, fun _ => k ln' tl' le' h' tk' hln F' ?_, fun e => ?_⟩
  · intro p hp
    rcases List.mem_cons.mp hp with rfl | hp
    · exact ⟨keep _ _ n1.1 hi, n1.2⟩
    rcases List.mem_cons.mp hp with rfl | hp
    · exact ⟨keep _ _ n2.1 hq, n2.2⟩
    exact N' p hp
  · exact absurd e (by intro e; have := congrArg (fun x : Str => x.cps.size) e; simp at this; revert this; decide)
theorem next_nil {P : LexP} {it q : Nat} {ln : Int} {t0 tl : Tok} {pv : List Value} {pe le : Nat} {Q : Option Value → Shared → Prop} {E : Value → Shared → Prop} (B : Below A₀ base outer h₀) (F : Fr h₀ L s.heap m) (X : (hd1.heap_1 w.params).In h₀) (T : Top p loose mean mg mb h₀) (hd : dp + 7 < recursionLimit) (hu : un + 70 < cLine) (O : P.Ok)
    (N : News h₀ L s.heap ((it, ciObj (.ref q) (.str (Str.ofString "") t0) false) :: (q, methodObj (.ref 66) (.ref P.x2)) :: lexLed w P ln tl pv pe [] le)) (hi : it ∉ P.addrs) (hq : q ∉ P.addrs) (hiq : it ≠ q)
    (k : ∀ h' tk', Fr h₀ L h' m →
      News h₀ L h' ((it, ciObj .none .none true) :: (q, methodObj (.ref 66) (.ref P.x2)) :: lexLed w P ln tl pv pe [] le) → Q none { s with heap := h', toks := tk' }) :
    wpAny (model PP w) (ktrTop dp un gd cn ⟨.function, nm, ig, ic, mo⟩ L a ccd cl outer) (pyNext (.ref it)) Q E s := by
  have n1 := N _ (.head _)
  have n2 := N _ (.tail _ (.head _))
  obtain ⟨og, fd, hg, hf⟩ := fn_read (X.keeps F.keep)
  refine ci_next (A := ktrTop dp un gd cn ⟨.function, nm, ig, ic, mo⟩ L a ccd cl outer) rfl n1.1 n2.1 hg hf ?_
  refine read_nil (dp := dp) (un := un + 1) B F X T (by omega) (by omega) O (news_sub N fun p hp => .tail _ (.tail _ hp)) ?_
  intro te h' tk' keep F' N'
  have hgk : h'.get? 66 = some og := by
    obtain ⟨og', fd', hg', _⟩ := fn_read X
    rw [F.keep _ _ hg'] at hg
    cases hg
    exact F'.keep _ _ hg'
  refine ⟨_, _, rfl, keep _ _ n1.1 hi, keep _ _ n2.1 hq, hgk, fun e => absurd rfl e, fun _ h₂ hk hit => k h₂ tk' ⟨?_, fun b o e => ?_, F'.above⟩ ?_⟩
  · obtain ⟨oL, es, ep, hL, r⟩ := F'.ns
    exact ⟨oL, es, ep, hk _ _ (Ne.symm n1.2.1) hL, r⟩
  · exact hk _ _ (fun z => by have := n1.2.2; rw [← z, e] at this; cases this) (F'.keep b o e)
  · intro p hp
    rcases List.mem_cons.mp hp with rfl | hp
    · exact ⟨hit, n1.2⟩
    rcases List.mem_cons.mp hp with rfl | hp
    · exact ⟨hk _ _ (Ne.symm hiq) (keep _ _ n2.1 hq), n2.2⟩
    refine ⟨hk _ _ (fun z => hi ?_) (N' p hp).1, (N' p hp).2⟩
    rw [← z]
    exact List.mem_map_of_mem (f := Prod.fst) hp
theorem read_use {P : LexP} {it q : Nat} {ci : Obj} {ln : Int} {tl tc : Tok} {pv vs : List Value} {pe le c : Nat} {Q : Value → Shared → Prop} {E : Value → Shared → Prop} (B : Below A₀ base outer h₀) (F : Fr h₀ L s.heap m) (X : (hd1.heap_1 w.params).In h₀) (T : Top p loose mean mg mb h₀) (hd : dp + 7 < recursionLimit) (hu : un + 70 < cLine) (O : P.Ok) (hz : vs.length < sizeLine)
    (N : News h₀ L s.heap ((it, ci) :: (q, methodObj (.ref 66) (.ref P.x2)) :: lexLed w P ln tl pv pe (vs.reverse ++ [Value.str ⟨#[c]⟩ tc]) le)) (hi : it ∉ P.addrs) (hq : q ∉ P.addrs)
    (k : ∀ (ln' : Int) tl' le' h' tk', ln' = (if c = 10 then ln + 1 else ln) → Fr h₀ L h' m →
      News h₀ L h' ((it, ci) :: (q, methodObj (.ref 66) (.ref P.x2)) :: lexLed w P ln' tl' pv pe vs.reverse le') → Q (.str ⟨#[c]⟩ tc) { s with heap := h', toks := tk' }) :
    wpAny (model PP w) (ktrTop dp un gd cn ⟨.function, nm, ig, ic, mo⟩ L a ccd cl outer) (call (.ref 66) [.ref P.x2]) Q E s := by
  have n1 := N _ (.head _)
  have n2 := N _ (.tail _ (.head _))
  refine wpAny_call (read_cons (dp := dp) (un := un) B F X T (by omega) (by omega) O (news_sub N fun p hp => .tail _ (.tail _ hp)) hz ?_)
  intro ln' tl' le' h' tk' hln keep F' N'
  refine k ln' tl' le' h' tk' hln F' ?_
  intro p hp
  rcases List.mem_cons.mp hp with rfl | hp
  · exact ⟨keep _ _ n1.1 hi, n1.2⟩
  rcases List.mem_cons.mp hp with rfl | hp
  · exact ⟨keep _ _ n2.1 hq, n2.2⟩
  exact N' p hp
end
end
theorem cx4 {p : Program} {w : World} {A : Around} {Q : Value → Shared → Prop} {E : Value → Shared → Prop} {s : Shared} (h : wpAny (model p w) A (pyIter Value.none) Q E s) : wpAny (model p w) A (pyIter Value.none) Q E s := by first | (walk1; fail "x") | exact h
section
local macro_rules | `(tactic| walk_at "exec For Name Name cons nil") => `(tactic| (k_here; refine Stop.out ?_))
local macro_rules | `(tactic| walk_at "call builtin:iter") => `(tactic| (k_here; (with_reducible show wpAny _ _ (call (Value.builtin "iter") [Value.ref _, _]) _ _ _); refine Stop.out ?_))
local macro_rules | `(tactic| walk_at "getAttr ref") => `(tactic| (k_here; (with_reducible show wpAny _ _ (getAttr (Value.ref _) (PySem.Str.ofString "_read_char") _) _ _ _); refine Stop.out ?_))
local macro_rules | `(tactic| walk_at "call ref") => `(tactic| (k_here; (with_reducible show wpAny _ _ (call (Value.ref 66) _) _ _ _); refine Stop.out ?_))
local macro_rules | `(tactic| walk_at "TurnEnd") => `(tactic| (refine Stop.out ?_))
section
variable {w : World} {dp un : Nat} {gd : Option (List Code)} {cn : Str} {nm : List (Str × NameKind)} {ig ic : Bool} {mo : List (Str × Const)} {a : Addr} {ccd : Value} {cl : List (Str × Addr)} {outer : List Env} {A₀ : Around} {base h₀ : Heap} {L : Addr} {m : Str → Option Value} {news : List (Addr × Obj)} {s : Shared} {p : Program} {loose : List Str} {mean : ExcName → Option Value} {mg mb : Str → Option Value} {R : Result → Shared → Prop}
def TokSt (w : World) (P : LexP) (g : Heap) (L' it q : Addr) (pe : Nat) (s : Shared) (T : Int) (live : Bool) (cs : List Nat) (acc : Str) (st : Shared) : Prop :=
  ∃ h tk m1 ln1 tl1 vs1 le1 ta ci t0, st = { s with heap := h, toks := tk } ∧ Fr g L' h m1 ∧ m1 (Str.ofString "self") = some (.ref P.x2) ∧ m1 (Str.ofString "fiter") = some (.ref it) ∧ m1 (Str.ofString "token") = some (.str acc ta) ∧
    ci = (if live = true then ciObj (.ref q) (.str (Str.ofString "") t0) false else ciObj .none .none true) ∧
    News g L' h ((it, ci) :: (q, methodObj (.ref 66) (.ref P.x2)) :: lexLed w P ln1 tl1 [] pe vs1.reverse le1) ∧ Chs vs1 cs ∧ vs1.length + acc.cps.size < sizeLine ∧ ln1 + nls cs = T
def TokEnd (w : World) (P : LexP) (g : Heap) (L' it q : Addr) (pe : Nat) (s : Shared) (T : Int) (rest tok : List Nat) (f : Flow) (st : Shared) : Prop :=
  (f = .next ∧ TokSt w P g L' it q pe s T false rest ⟨tok.toArray⟩ st) ∨ (∃ tt live acc, f = .ret (.str ⟨tok.toArray⟩ tt) ∧ TokSt w P g L' it q pe s T live rest acc st)
theorem lexA_ws {c : Nat} {r : List Nat} {o} (hc : ws c = true) (h : lexA (c :: r) = some o) : lexA r = some o := by simpa [lexA, hc] using h
theorem lexA_quote {r : List Nat} {o} (h : lexA (34 :: r) = some o) : lexQ r [] = some o := by simpa [lexA, ws] using h
theorem lexA_back {r : List Nat} {o} (h : lexA (92 :: r) = some o) : ∃ d r', r = d :: r' ∧ lexB r' [d] = some o := by
  cases r with
  | nil => simp [lexA, ws] at h
  | cons d r' => exact ⟨d, r', rfl, by simpa [lexA, ws] using h⟩
theorem lexA_other {c : Nat} {r : List Nat} {o} (h1 : ws c = false) (h2 : c ≠ 34) (h3 : c ≠ 92) (h : lexA (c :: r) = some o) : lexB r [c] = some o := by simpa [lexA, h1, h2, h3] using h
set_option maxHeartbeats 0 in
theorem tok_lex {P : LexP} {ln : Int} {tl : Tok} {vs : List Value} {pe le : Nat} {cs tok rest : List Nat} (B : Below A₀ base outer h₀) (F : Fr h₀ L s.heap m) (X : (hd1.heap_1 w.params).In h₀) (T : Top p loose mean mg mb h₀) (hd : dp + 10 < recursionLimit) (hu : un + 100 < cLine) (O : P.Ok) (N : News h₀ L s.heap (lexLed w P ln tl [] pe vs.reverse le)) (hc : Chs vs cs) (hz : vs.length < sizeLine)
    (hlex : lexA cs = some (tok, rest))
    (hret : ∀ (ln' : Int) tl' vs' le' tt h' tk', ln' + nls rest = ln + nls cs → Chs vs' rest → (∀ (b : Nat) o, s.heap.get? b = some o → b ∉ P.addrs → h'.get? b = some o) → Fr h₀ L h' m →
      News h₀ L h' (lexLed w P ln' tl' [] pe vs'.reverse le') → R (.ok (.ret (.str ⟨tok.toArray⟩ tt))) { s with heap := h', toks := tk' }) :
    codeAny (model PP w) (ktrTop dp un gd cn ⟨.function, nm, ig, ic, mo⟩ L a ccd cl outer) (.call (.ref 73) ⟨[.ref P.x2], []⟩) R s := by
  have O' := O
  obtain ⟨ocd, ocf, ovq, oord⟩ := O
  unfold lexLed at N
  k_dflt (refine' codeK ?k1 ?k2 ?k3 ?k4 ?k5 ?kA ?kF ?kK ?k6 ?k7 ?k8 ?k9 ?kB ?_ ?c2 ?c3 ?c4 ?c5; (case kA => exact rfl); (case kF => exact rfl); (case kK => exact rfl); (case k1 => exact B); (case k2 => exact F); (case k3 => exact X); (case k4 => exact N); (case k5 => exact T); (case k6 => k_is); (case k7 => k_is); (case k8 => k_room); (case k9 => first | exact BindsTo.of_eq rfl | exact binds_K (by k_in) rfl (by k_is) rfl rfl rfl); (case c5 => decide); (case kB => exact locs rfl); (case c2 => exact rfl); (case c3 => exact rfl); (case c4 => exact rfl); k_whole; intro g L' h' kg kl l1 FG F' N' B' X' T'; (try k_lt l1); (have codeHd := codeHd_of_K (c := 241) (P := 237) X' (by kernel_rfl)); (try dsimp only); (try k_lift B'); (try k_fold))
  k_steps
  unfold Stop
  k_dflt (refine' kbm_bound ?k1 ?k2 ?k3 ?k4 ?k5 ?k6 ?k7 ?k8 ?k9 ?k10 ?k11 ?k12 ?_; (case k4 => k_inst); (case k1 => k_asm); (case k2 => k_asm); (case k7 => k_is); (case k3 => k_asm); (case k5 => k_is); (case k6 => k_is); (case k8 => k_is); (case k9 => k_is); (case k10 => k_is); (case k11 => decide +kernel); (case k12 => k_get); k_whole)
  intro q h2 F2 N2 l2
  k_lt l2
  k_sweep
  k_steps
  unfold Stop
  k_dflt (refine' iter2_K ?F ?N ?M ?_; (case F => k_asm); (case N => k_asm); (case M => k_mem); k_whole)
  intro it h3 F3 N3 l3
  k_lt l3
  k_sweep
  k_steps
  unfold Stop
  rename Fr g L' _ _ => Ff
  rename News g L' _ _ => Nf
  refine wpAny_mono (Q := TokEnd w P g L' it q pe s (ln + nls cs) rest tok) (E := fun _ _ => False) ?loop ?post (fun _ _ x => x.elim)
  case loop =>
    refine for_inv it (cs.length + 2) (fun n st => (∃ cs1, TokSt w P g L' it q pe s (ln + nls cs) true cs1 (Str.ofString "") st ∧ lexA cs1 = some (tok, rest) ∧ n = cs1.length + 2) ∨ (n = 1 ∧ TokSt w P g L' it q pe s (ln + nls cs) false rest ⟨tok.toArray⟩ st)) ?_ ?_ .never
    · k_dflt (refine' nameX_L ?F ?v ?_ ?a ?b; (case F => exact Ff); (case a => rfl); (case b => rfl); (case v => rfl))
      exact ci_iter (Nf _ (.head _)).1 ⟨rfl, .inl ⟨cs, ⟨_, _, _, _, _, _, _, _, _, _, rfl, Ff, rfl, rfl, rfl, rfl, Nf, hc, hz, rfl⟩, hlex, rfl⟩⟩
    clear Ff Nf
    rintro n st (⟨cs1, ⟨h, tk, m1, ln1, tl1, vs1, le1, ta, ci, t0, rfl, Fm, ms, mf, mt, rfl, Nm, hc1, hz1, hT⟩, hl, rfl⟩ | ⟨rfl, h, tk, m1, ln1, tl1, vs1, le1, ta, ci, t0, rfl, Fm, ms, mf, mt, rfl, Nm, hc1, hz1, hT⟩)
    · rw [str_empty] at mt
      cases cs1 with
      | nil =>
        obtain rfl := hc1.nil_inv
        obtain ⟨rfl, rfl⟩ : [] = tok ∧ [] = rest := by simpa [lexA] using hl
        refine next_nil (dp := dp + 1) (un := un + 3) B' Fm X' T' (by omega) (by omega) O' Nm (by simp only [LexP.addrs, List.mem_cons, List.not_mem_nil, or_false, not_or]; omega) (by simp only [LexP.addrs, List.mem_cons, List.not_mem_nil, or_false, not_or]; omega) (by omega) ?_
        intro h4 tk4 F4 N4
        exact .inl ⟨rfl, _, _, _, _, _, [], _, _, _, t0, rfl, F4, ms, mf, mt, rfl, N4, hc1, hz1, hT⟩
      | cons c r =>
        obtain ⟨tc, vs2, rfl, hc2⟩ := hc1.cons_inv
        rw [List.reverse_cons] at Nm
        simp only [List.length_cons, str_empty, List.size_toArray, List.length_nil] at hz1
        refine next_cons (dp := dp + 1) (un := un + 3) B' Fm X' T' (by omega) (by omega) O' (by omega) Nm (by simp only [LexP.addrs, List.mem_cons, List.not_mem_nil, or_false, not_or]; omega) (by simp only [LexP.addrs, List.mem_cons, List.not_mem_nil, or_false, not_or]; omega) ?_
        intro ln4 tl4 le4 h4 tk4 hln F4 N4
        clear Nm Fm
        have hT' : ln4 + nls r = ln + nls cs := by rw [nls_cons] at hT; split at hln <;> rename_i hnl <;> simp only [hnl, if_true, if_false] at hT <;> omega
        unfold TurnOf
        dsimp only
        k_steps
        all_goals (try simp only [ws_in, one_quote, one_back, Bool.not_eq_true', Bool.not_eq_false', decide_eq_true_eq, decide_eq_false_iff_not] at *)
        · -- a quotation mark
          unfold Stop
          (rename Fr g L' _ _ => F9); (rename News g L' _ _ => N9); (try simp only [str_push] at F9)
          (rename c = 34 => hq34); subst hq34
          have hQ := lexA_quote hl
          refine wpAny_mono (Q := TokEnd w P g L' it q pe s (ln + nls cs) rest tok) (E := fun _ _ => False) ?lq ?pq (fun _ _ x => x.elim)
          case pq =>
            rintro f st (⟨rfl, hst⟩ | ⟨tt, live, acc, rfl, hst⟩)
            · dsimp only
              k_steps
              unfold Stop TurnEnd
              exact ⟨1, by omega, .inr ⟨rfl, hst⟩⟩
            · dsimp only
              unfold TurnEnd
              exact .inr ⟨tt, live, acc, rfl, hst⟩
          case lq =>
            refine for_inv it r.length (fun n st => ∃ cs2 acc, TokSt w P g L' it q pe s (ln + nls cs) true cs2 ⟨acc.toArray⟩ st ∧ lexQ cs2 acc = some (tok, rest) ∧ n = cs2.length) ?_ ?_ .never
            · k_dflt (refine' nameX_L ?F ?v ?_ ?a ?b; (case F => exact F9); (case a => rfl); (case b => rfl); (case v => ktr_unf))
              exact ci_iter (N9 _ (.head _)).1 ⟨rfl, r, [], ⟨_, _, _, _, _, _, _, _, _, _, rfl, F9, by ktr_unf, by ktr_unf, by ktr_unf, rfl, N9, hc2, by ((try simp only [List.length_cons, List.size_toArray, List.length_append, List.length_nil, str_empty] at *); omega), hT'⟩, hQ, rfl⟩
            clear F9 N9
            rintro n st ⟨cs2, acc, ⟨h2, tk2, m12, ln12, tl12, vs12, le12, ta2, ci2, t02, rfl, Fm2, ms2, mf2, mt2, rfl, Nm2, hc12, hz12, hT2⟩, hl2, rfl⟩
            cases cs2 with
            | nil => simp [lexQ] at hl2
            | cons c2 r2 =>
              obtain ⟨tc2, vs3, rfl, hc3⟩ := hc12.cons_inv
              rw [List.reverse_cons] at Nm2
              simp only [List.length_cons, List.size_toArray] at hz12
              refine next_cons (dp := dp + 1) (un := un + 3) B' Fm2 X' T' (by omega) (by omega) O' (by omega) Nm2 (by simp only [LexP.addrs, List.mem_cons, List.not_mem_nil, or_false, not_or]; omega) (by simp only [LexP.addrs, List.mem_cons, List.not_mem_nil, or_false, not_or]; omega) ?_
              intro ln5 tl5 le5 h5 tk5 hln5 F5 N5
              clear Nm2 Fm2
              have hT2' : ln5 + nls r2 = ln + nls cs := by rw [nls_cons] at hT2; split at hln5 <;> rename_i hnl <;> simp only [hnl, if_true, if_false] at hT2 <;> omega
              unfold TurnOf
              dsimp only
              k_steps
              all_goals (try simp only [ws_in, one_quote, one_back, Bool.not_eq_true', Bool.not_eq_false', decide_eq_true_eq, decide_eq_false_iff_not] at *)
              · -- the closing sign
                (rename c2 = 34 => hb); subst hb
                obtain ⟨rfl, rfl⟩ := Prod.mk.inj (lexQ_quote hl2)
                unfold Stop TurnEnd
                (rename Fr g L' _ _ => F9); (rename News g L' _ _ => N9); (try simp only [str_push] at F9)
                exact .inr ⟨_, true, _, rfl, ⟨_, _, _, _, _, _, _, _, _, _, rfl, F9, by ktr_unf, by ktr_unf, by ktr_unf, rfl, N9, hc3, by ((try simp only [List.length_cons, List.size_toArray, List.length_append, List.length_nil, str_empty] at *); omega), hT2'⟩⟩
              · -- a backslash
                (rename c2 = 92 => hb); subst hb
                obtain ⟨d9, r9, rfl, hl9⟩ := lexQ_back hl2
                unfold Stop
                (rename Fr g L' _ _ => F9); (rename News g L' _ _ => N9)
                obtain ⟨td, vs9, rfl, hc9⟩ := hc3.cons_inv
                rw [List.reverse_cons] at N9
                refine read_use (dp := dp + 1) (un := un + 3) B' F9 X' T' (by omega) (by omega) O' (by simp only [List.length_cons, List.size_toArray] at *; omega) N9 (by simp only [LexP.addrs, List.mem_cons, List.not_mem_nil, or_false, not_or]; omega) (by simp only [LexP.addrs, List.mem_cons, List.not_mem_nil, or_false, not_or]; omega) ?_
                intro ln9 tl9 le9 h9 tk9 hln9 F8 N8
                clear F9 N9
                have hT2'' : ln9 + nls r9 = ln + nls cs := by rw [nls_cons] at hT2'; split at hln9 <;> rename_i hnl <;> simp only [hnl, if_true, if_false] at hT2' <;> omega
                k_steps
                unfold Stop TurnEnd
                (rename Fr g L' _ _ => F9); (rename News g L' _ _ => N9); (try simp only [str_push] at F9)
                exact ⟨r9.length, by simp only [List.length_cons]; omega, r9, acc ++ [d9], ⟨_, _, _, _, _, _, _, _, _, _, rfl, F9, by ktr_unf, by ktr_unf, by ktr_unf, rfl, N9, hc9, by ((try simp only [List.length_cons, List.size_toArray, List.length_append, List.length_nil, str_empty] at *); omega), hT2''⟩, hl9, rfl⟩
              · -- another sign
                (rename ¬ c2 = 92 => hb); (rename ¬ c2 = 34 => hw)
                unfold Stop TurnEnd
                (rename Fr g L' _ _ => F9); (rename News g L' _ _ => N9); (try simp only [str_push] at F9)
                exact ⟨r2.length, by simp only [List.length_cons]; omega, r2, acc ++ [c2], ⟨_, _, _, _, _, _, _, _, _, _, rfl, F9, by ktr_unf, by ktr_unf, by ktr_unf, rfl, N9, hc3, by ((try simp only [List.length_cons, List.size_toArray, List.length_append, List.length_nil, str_empty] at *); omega), hT2'⟩, lexQ_other hw hb hl2, rfl⟩
        · -- a backslash
          (rename c = 92 => hb); subst hb
          obtain ⟨d9, r9, rfl, hl9⟩ := lexA_back hl
          unfold Stop
          (rename Fr g L' _ _ => F9); (rename News g L' _ _ => N9)
          obtain ⟨td, vs9, rfl, hc9⟩ := hc2.cons_inv
          rw [List.reverse_cons] at N9
          refine read_use (dp := dp + 1) (un := un + 3) B' F9 X' T' (by omega) (by omega) O' (by simp only [List.length_cons, List.size_toArray] at *; omega) N9 (by simp only [LexP.addrs, List.mem_cons, List.not_mem_nil, or_false, not_or]; omega) (by simp only [LexP.addrs, List.mem_cons, List.not_mem_nil, or_false, not_or]; omega) ?_
          intro ln9 tl9 le9 h9 tk9 hln9 F8 N8
          clear F9 N9
          have hT'' : ln9 + nls r9 = ln + nls cs := by rw [nls_cons] at hT'; split at hln9 <;> rename_i hnl <;> simp only [hnl, if_true, if_false] at hT' <;> omega
          k_steps
          unfold Stop
          (rename Fr g L' _ _ => F9); (rename News g L' _ _ => N9); (try simp only [str_push] at F9)
          refine wpAny_mono (Q := TokEnd w P g L' it q pe s (ln + nls cs) rest tok) (E := fun _ _ => False) ?lb ?pb (fun _ _ x => x.elim)
          case pb =>
            rintro f st (⟨rfl, hst⟩ | ⟨tt, live, acc, rfl, hst⟩)
            · dsimp only
              k_steps
              unfold Stop TurnEnd
              exact ⟨1, by omega, .inr ⟨rfl, hst⟩⟩
            · dsimp only
              unfold TurnEnd
              exact .inr ⟨tt, live, acc, rfl, hst⟩
          case lb =>
            refine for_inv it (r9.length + 1) (fun n st => ∃ cs2 acc, TokSt w P g L' it q pe s (ln + nls cs) true cs2 ⟨acc.toArray⟩ st ∧ lexB cs2 acc = some (tok, rest) ∧ n = cs2.length + 1) ?_ ?_ .never
            · k_dflt (refine' nameX_L ?F ?v ?_ ?a ?b; (case F => exact F9); (case a => rfl); (case b => rfl); (case v => ktr_unf))
              exact ci_iter (N9 _ (.head _)).1 ⟨rfl, r9, [d9], ⟨_, _, _, _, _, _, _, _, _, _, rfl, F9, by ktr_unf, by ktr_unf, by ktr_unf, rfl, N9, hc9, by ((try simp only [List.length_cons, List.size_toArray, List.length_append, List.length_nil, str_empty] at *); omega), hT''⟩, hl9, rfl⟩
            clear F9 N9
            rintro n st ⟨cs2, acc, ⟨h2, tk2, m12, ln12, tl12, vs12, le12, ta2, ci2, t02, rfl, Fm2, ms2, mf2, mt2, rfl, Nm2, hc12, hz12, hT2⟩, hl2, rfl⟩
            cases cs2 with
            | nil =>
              obtain rfl := hc12.nil_inv
              obtain ⟨rfl, rfl⟩ : acc = tok ∧ [] = rest := by simpa [lexB] using hl2
              refine next_nil (dp := dp + 1) (un := un + 3) B' Fm2 X' T' (by omega) (by omega) O' Nm2 (by simp only [LexP.addrs, List.mem_cons, List.not_mem_nil, or_false, not_or]; omega) (by simp only [LexP.addrs, List.mem_cons, List.not_mem_nil, or_false, not_or]; omega) (by omega) ?_
              intro h4 tk4 F4 N4
              exact .inl ⟨rfl, _, _, _, _, _, [], _, _, _, t02, rfl, F4, ms2, mf2, mt2, rfl, N4, hc12, hz12, hT2⟩
            | cons c2 r2 =>
              obtain ⟨tc2, vs3, rfl, hc3⟩ := hc12.cons_inv
              rw [List.reverse_cons] at Nm2
              simp only [List.length_cons, List.size_toArray] at hz12
              refine next_cons (dp := dp + 1) (un := un + 3) B' Fm2 X' T' (by omega) (by omega) O' (by omega) Nm2 (by simp only [LexP.addrs, List.mem_cons, List.not_mem_nil, or_false, not_or]; omega) (by simp only [LexP.addrs, List.mem_cons, List.not_mem_nil, or_false, not_or]; omega) ?_
              intro ln5 tl5 le5 h5 tk5 hln5 F5 N5
              clear Nm2 Fm2
              have hT2' : ln5 + nls r2 = ln + nls cs := by rw [nls_cons] at hT2; split at hln5 <;> rename_i hnl <;> simp only [hnl, if_true, if_false] at hT2 <;> omega
              unfold TurnOf
              dsimp only
              k_steps
              all_goals (try simp only [ws_in, one_quote, one_back, Bool.not_eq_true', Bool.not_eq_false', decide_eq_true_eq, decide_eq_false_iff_not] at *)
              · -- a backslash
                (rename c2 = 92 => hb); subst hb
                obtain ⟨d9, r9, rfl, hl9⟩ := lexB_back hl2
                unfold Stop
                (rename Fr g L' _ _ => F9); (rename News g L' _ _ => N9)
                obtain ⟨td, vs9, rfl, hc9⟩ := hc3.cons_inv
                rw [List.reverse_cons] at N9
                refine read_use (dp := dp + 1) (un := un + 3) B' F9 X' T' (by omega) (by omega) O' (by simp only [List.length_cons, List.size_toArray] at *; omega) N9 (by simp only [LexP.addrs, List.mem_cons, List.not_mem_nil, or_false, not_or]; omega) (by simp only [LexP.addrs, List.mem_cons, List.not_mem_nil, or_false, not_or]; omega) ?_
                intro ln9 tl9 le9 h9 tk9 hln9 F8 N8
                clear F9 N9
                have hT2'' : ln9 + nls r9 = ln + nls cs := by rw [nls_cons] at hT2'; split at hln9 <;> rename_i hnl <;> simp only [hnl, if_true, if_false] at hT2' <;> omega
                k_steps
                unfold Stop TurnEnd
                (rename Fr g L' _ _ => F9); (rename News g L' _ _ => N9); (try simp only [str_push] at F9)
                exact ⟨r9.length + 1, by simp only [List.length_cons]; omega, r9, acc ++ [d9], ⟨_, _, _, _, _, _, _, _, _, _, rfl, F9, by ktr_unf, by ktr_unf, by ktr_unf, rfl, N9, hc9, by ((try simp only [List.length_cons, List.size_toArray, List.length_append, List.length_nil, str_empty] at *); omega), hT2''⟩, hl9, rfl⟩
              · -- another sign
                (rename ¬ c2 = 92 => hb); (rename ws c2 = false => hw)
                unfold Stop TurnEnd
                (rename Fr g L' _ _ => F9); (rename News g L' _ _ => N9); (try simp only [str_push] at F9)
                exact ⟨r2.length + 1, by simp only [List.length_cons]; omega, r2, acc ++ [c2], ⟨_, _, _, _, _, _, _, _, _, _, rfl, F9, by ktr_unf, by ktr_unf, by ktr_unf, rfl, N9, hc3, by ((try simp only [List.length_cons, List.size_toArray, List.length_append, List.length_nil, str_empty] at *); omega), hT2'⟩, lexB_other hw hb hl2, rfl⟩
              · -- a white sign: the word ends
                (rename ws c2 = true => hw)
                obtain ⟨rfl, rfl⟩ := Prod.mk.inj (lexB_ws hw hl2)
                unfold Stop TurnEnd
                (rename Fr g L' _ _ => F9); (rename News g L' _ _ => N9); (try simp only [str_push] at F9)
                exact .inr ⟨_, true, _, rfl, ⟨_, _, _, _, _, _, _, _, _, _, rfl, F9, by ktr_unf, by ktr_unf, by ktr_unf, rfl, N9, hc3, by ((try simp only [List.length_cons, List.size_toArray, List.length_append, List.length_nil, str_empty] at *); omega), hT2'⟩⟩
        · -- another sign
          (rename ¬ c = 92 => hb); (rename ws c = false => hw); (rename ¬ c = 34 => hb2)
          have hB := lexA_other hw hb2 hb hl
          unfold Stop
          (rename Fr g L' _ _ => F9); (rename News g L' _ _ => N9); (try simp only [str_push] at F9)
          refine wpAny_mono (Q := TokEnd w P g L' it q pe s (ln + nls cs) rest tok) (E := fun _ _ => False) ?lb ?pb (fun _ _ x => x.elim)
          case pb =>
            rintro f st (⟨rfl, hst⟩ | ⟨tt, live, acc, rfl, hst⟩)
            · dsimp only
              k_steps
              unfold Stop TurnEnd
              exact ⟨1, by omega, .inr ⟨rfl, hst⟩⟩
            · dsimp only
              unfold TurnEnd
              exact .inr ⟨tt, live, acc, rfl, hst⟩
          case lb =>
            refine for_inv it (r.length + 1) (fun n st => ∃ cs2 acc, TokSt w P g L' it q pe s (ln + nls cs) true cs2 ⟨acc.toArray⟩ st ∧ lexB cs2 acc = some (tok, rest) ∧ n = cs2.length + 1) ?_ ?_ .never
            · k_dflt (refine' nameX_L ?F ?v ?_ ?a ?b; (case F => exact F9); (case a => rfl); (case b => rfl); (case v => ktr_unf))
              exact ci_iter (N9 _ (.head _)).1 ⟨rfl, r, [c], ⟨_, _, _, _, _, _, _, _, _, _, rfl, F9, by ktr_unf, by ktr_unf, by ktr_unf, rfl, N9, hc2, by ((try simp only [List.length_cons, List.size_toArray, List.length_append, List.length_nil, str_empty] at *); omega), hT'⟩, hB, rfl⟩
            clear F9 N9
            rintro n st ⟨cs2, acc, ⟨h2, tk2, m12, ln12, tl12, vs12, le12, ta2, ci2, t02, rfl, Fm2, ms2, mf2, mt2, rfl, Nm2, hc12, hz12, hT2⟩, hl2, rfl⟩
            cases cs2 with
            | nil =>
              obtain rfl := hc12.nil_inv
              obtain ⟨rfl, rfl⟩ : acc = tok ∧ [] = rest := by simpa [lexB] using hl2
              refine next_nil (dp := dp + 1) (un := un + 3) B' Fm2 X' T' (by omega) (by omega) O' Nm2 (by simp only [LexP.addrs, List.mem_cons, List.not_mem_nil, or_false, not_or]; omega) (by simp only [LexP.addrs, List.mem_cons, List.not_mem_nil, or_false, not_or]; omega) (by omega) ?_
              intro h4 tk4 F4 N4
              exact .inl ⟨rfl, _, _, _, _, _, [], _, _, _, t02, rfl, F4, ms2, mf2, mt2, rfl, N4, hc12, hz12, hT2⟩
            | cons c2 r2 =>
              obtain ⟨tc2, vs3, rfl, hc3⟩ := hc12.cons_inv
              rw [List.reverse_cons] at Nm2
              simp only [List.length_cons, List.size_toArray] at hz12
              refine next_cons (dp := dp + 1) (un := un + 3) B' Fm2 X' T' (by omega) (by omega) O' (by omega) Nm2 (by simp only [LexP.addrs, List.mem_cons, List.not_mem_nil, or_false, not_or]; omega) (by simp only [LexP.addrs, List.mem_cons, List.not_mem_nil, or_false, not_or]; omega) ?_
              intro ln5 tl5 le5 h5 tk5 hln5 F5 N5
              clear Nm2 Fm2
              have hT2' : ln5 + nls r2 = ln + nls cs := by rw [nls_cons] at hT2; split at hln5 <;> rename_i hnl <;> simp only [hnl, if_true, if_false] at hT2 <;> omega
              unfold TurnOf
              dsimp only
              k_steps
              all_goals (try simp only [ws_in, one_quote, one_back, Bool.not_eq_true', Bool.not_eq_false', decide_eq_true_eq, decide_eq_false_iff_not] at *)
              · -- a backslash
                (rename c2 = 92 => hb); subst hb
                obtain ⟨d9, r9, rfl, hl9⟩ := lexB_back hl2
                unfold Stop
                (rename Fr g L' _ _ => F9); (rename News g L' _ _ => N9)
                obtain ⟨td, vs9, rfl, hc9⟩ := hc3.cons_inv
                rw [List.reverse_cons] at N9
                refine read_use (dp := dp + 1) (un := un + 3) B' F9 X' T' (by omega) (by omega) O' (by simp only [List.length_cons, List.size_toArray] at *; omega) N9 (by simp only [LexP.addrs, List.mem_cons, List.not_mem_nil, or_false, not_or]; omega) (by simp only [LexP.addrs, List.mem_cons, List.not_mem_nil, or_false, not_or]; omega) ?_
                intro ln9 tl9 le9 h9 tk9 hln9 F8 N8
                clear F9 N9
                have hT2'' : ln9 + nls r9 = ln + nls cs := by rw [nls_cons] at hT2'; split at hln9 <;> rename_i hnl <;> simp only [hnl, if_true, if_false] at hT2' <;> omega
                k_steps
                unfold Stop TurnEnd
                (rename Fr g L' _ _ => F9); (rename News g L' _ _ => N9); (try simp only [str_push] at F9)
                exact ⟨r9.length + 1, by simp only [List.length_cons]; omega, r9, acc ++ [d9], ⟨_, _, _, _, _, _, _, _, _, _, rfl, F9, by ktr_unf, by ktr_unf, by ktr_unf, rfl, N9, hc9, by ((try simp only [List.length_cons, List.size_toArray, List.length_append, List.length_nil, str_empty] at *); omega), hT2''⟩, hl9, rfl⟩
              · -- another sign
                (rename ¬ c2 = 92 => hb); (rename ws c2 = false => hw)
                unfold Stop TurnEnd
                (rename Fr g L' _ _ => F9); (rename News g L' _ _ => N9); (try simp only [str_push] at F9)
                exact ⟨r2.length + 1, by simp only [List.length_cons]; omega, r2, acc ++ [c2], ⟨_, _, _, _, _, _, _, _, _, _, rfl, F9, by ktr_unf, by ktr_unf, by ktr_unf, rfl, N9, hc3, by ((try simp only [List.length_cons, List.size_toArray, List.length_append, List.length_nil, str_empty] at *); omega), hT2'⟩, lexB_other hw hb hl2, rfl⟩
              · -- a white sign: the word ends
                (rename ws c2 = true => hw)
                obtain ⟨rfl, rfl⟩ := Prod.mk.inj (lexB_ws hw hl2)
                unfold Stop TurnEnd
                (rename Fr g L' _ _ => F9); (rename News g L' _ _ => N9); (try simp only [str_push] at F9)
                exact .inr ⟨_, true, _, rfl, ⟨_, _, _, _, _, _, _, _, _, _, rfl, F9, by ktr_unf, by ktr_unf, by ktr_unf, rfl, N9, hc3, by ((try simp only [List.length_cons, List.size_toArray, List.length_append, List.length_nil, str_empty] at *); omega), hT2'⟩⟩
        · -- a white sign
          (rename ws c = true => hw)
          unfold Stop TurnEnd
          (rename Fr g L' _ _ => F9); (rename News g L' _ _ => N9); (try simp only [str_push] at F9)
          exact ⟨r.length + 2, by simp only [List.length_cons]; omega, .inl ⟨r, ⟨_, _, _, _, _, _, _, _, _, _, rfl, F9, by ktr_unf, by ktr_unf, by ktr_unf, rfl, N9, hc2, by ((try simp only [List.length_cons, List.size_toArray, List.length_append, List.length_nil, str_empty] at *); omega), hT'⟩, lexA_ws hw hl, rfl⟩⟩
    · refine ci_done rfl (Nm _ (.head _)).1 fun h4 hk => ?_
      refine .inl ⟨rfl, h4, tk, m1, ln1, tl1, vs1, le1, ta, _, t0, rfl, ⟨?_, fun b o e => hk _ _ (Fm.keep b o e), Fm.above⟩, ms, mf, mt, rfl, fun p hp => ⟨hk _ _ (Nm p hp).1, (Nm p hp).2⟩, hc1, hz1, hT⟩
      obtain ⟨oL, es, ep, hL, r⟩ := Fm.ns
      exact ⟨oL, es, ep, hk _ _ hL, r⟩
  case post =>
    rintro f st (⟨rfl, h, tk, m1, ln1, tl1, vs1, le1, ta, ci, t0, rfl, Fm, ms, mf, mt, rfl, Nm, hc1, hz1, hT⟩ | ⟨tt, live, acc, rfl, h, tk, m1, ln1, tl1, vs1, le1, ta, ci, t0, rfl, Fm, ms, mf, mt, rfl, Nm, hc1, hz1, hT⟩)
    · dsimp only
      k_steps
      rename Fr g L' _ _ => F9
      refine hret ln1 tl1 vs1 le1 _ _ _ hT hc1 (fun b o e hb => F9.keep b o (kg b o e hb)) (by assumption) ?_
      rename News h₀ L _ _ => N9
      exact news_sub N9 fun p hp => .tail _ (.tail _ hp)
    · dsimp only
      k_steps
      rename Fr g L' _ _ => F9
      refine hret ln1 tl1 vs1 le1 _ _ _ hT hc1 (fun b o e hb => F9.keep b o (kg b o e hb)) (by assumption) ?_
      rename News h₀ L _ _ => N9
      exact news_sub N9 fun p hp => .tail _ (.tail _ hp)
end
end
theorem cx5 {p : Program} {w : World} {A : Around} {Q : Value → Shared → Prop} {E : Value → Shared → Prop} {s : Shared} (h : wpAny (model p w) A (pyIter Value.none) Q E s) : wpAny (model p w) A (pyIter Value.none) Q E s := by first | (walk1; fail "x") | exact h
section
section
variable {w : World} {dp un : Nat} {gd : Option (List Code)} {cn : Str} {nm : List (Str × NameKind)} {ig ic : Bool} {mo : List (Str × Const)} {a : Addr} {ccd : Value} {cl : List (Str × Addr)} {outer : List Env} {A₀ : Around} {base h₀ : Heap} {L : Addr} {m : Str → Option Value} {news : List (Addr × Obj)} {s : Shared} {p : Program} {loose : List Str} {mean : ExcName → Option Value} {mg mb : Str → Option Value} {R : Result → Shared → Prop}
set_option maxHeartbeats 0 in
theorem tok_pop {P : LexP} {ln : Int} {tl : Tok} {v0 : Value} {pv sg : List Value} {pe le : Nat} (B : Below A₀ base outer h₀) (F : Fr h₀ L s.heap m) (X : (hd1.heap_1 w.params).In h₀) (T : Top p loose mean mg mb h₀) (hd : dp + 10 < recursionLimit) (hu : un + 100 < cLine) (O : P.Ok) (N : News h₀ L s.heap (lexLed w P ln tl (v0 :: pv) pe sg le)) (hz : pv.length + 1 < sizeLine)
    (hret : ∀ pe' h' tk', (∀ (b : Nat) o, s.heap.get? b = some o → b ∉ P.addrs → h'.get? b = some o) → Fr h₀ L h' m →
      News h₀ L h' (lexLed w P ln tl pv pe' sg le) → R (.ok (.ret v0)) { s with heap := h', toks := tk' }) :
    codeAny (model PP w) (ktrTop dp un gd cn ⟨.function, nm, ig, ic, mo⟩ L a ccd cl outer) (.call (.ref 73) ⟨[.ref P.x2], []⟩) R s := by
  obtain ⟨ocd, ocf, ovq, oord⟩ := O
  unfold lexLed at N
  k_dflt (refine' codeK ?k1 ?k2 ?k3 ?k4 ?k5 ?kA ?kF ?kK ?k6 ?k7 ?k8 ?k9 ?kB ?_ ?c2 ?c3 ?c4 ?c5; (case kA => exact rfl); (case kF => exact rfl); (case kK => exact rfl); (case k1 => exact B); (case k2 => exact F); (case k3 => exact X); (case k4 => exact N); (case k5 => exact T); (case k6 => k_is); (case k7 => k_is); (case k8 => k_room); (case k9 => first | exact BindsTo.of_eq rfl | exact binds_K (by k_in) rfl (by k_is) rfl rfl rfl); (case c5 => decide); (case kB => exact locs rfl); (case c2 => exact rfl); (case c3 => exact rfl); (case c4 => exact rfl); k_whole; intro g L' h' kg kl l1 FG F' N' B' X' T'; (try k_lt l1); (have codeHd := codeHd_of_K (c := 241) (P := 237) X' (by kernel_rfl)); (try dsimp only); (try k_lift B'); (try k_fold))
  k_steps
  rename Fr g _ _ _ => Fg
  exact hret _ _ _ (fun b o e hb => Fg.keep b o (kg b o e hb)) (by assumption) (by assumption)
set_option maxHeartbeats 0 in
theorem tok_push {P : LexP} {ln : Int} {tl : Tok} {v0 : Value} {pv sg : List Value} {pe le : Nat} (B : Below A₀ base outer h₀) (F : Fr h₀ L s.heap m) (X : (hd1.heap_1 w.params).In h₀) (T : Top p loose mean mg mb h₀) (hd : dp + 10 < recursionLimit) (hu : un + 100 < cLine) (O : P.Ok) (N : News h₀ L s.heap (lexLed w P ln tl pv pe sg le)) (hz : pv.length + 1 < sizeLine)
    (hret : ∀ pe' h' tk', (∀ (b : Nat) o, s.heap.get? b = some o → b ∉ P.addrs → h'.get? b = some o) → Fr h₀ L h' m →
      News h₀ L h' (lexLed w P ln tl (pv ++ [v0]) pe' sg le) → R (.ok (.ret .none)) { s with heap := h', toks := tk' }) :
    codeAny (model PP w) (ktrTop dp un gd cn ⟨.function, nm, ig, ic, mo⟩ L a ccd cl outer) (.call (.ref 80) ⟨[.ref P.x2, v0], []⟩) R s := by
  obtain ⟨ocd, ocf, ovq, oord⟩ := O
  unfold lexLed at N
  k_dflt (refine' codeK ?k1 ?k2 ?k3 ?k4 ?k5 ?kA ?kF ?kK ?k6 ?k7 ?k8 ?k9 ?kB ?_ ?c2 ?c3 ?c4 ?c5; (case kA => exact rfl); (case kF => exact rfl); (case kK => exact rfl); (case k1 => exact B); (case k2 => exact F); (case k3 => exact X); (case k4 => exact N); (case k5 => exact T); (case k6 => k_is); (case k7 => k_is); (case k8 => k_room); (case k9 => first | exact BindsTo.of_eq rfl | exact binds_K (by k_in) rfl (by k_is) rfl rfl rfl); (case c5 => decide); (case kB => exact locs rfl); (case c2 => exact rfl); (case c3 => exact rfl); (case c4 => exact rfl); k_whole; intro g L' h' kg kl l1 FG F' N' B' X' T'; (try k_lt l1); (have codeHd := codeHd_of_K (c := 241) (P := 237) X' (by kernel_rfl)); (try dsimp only); (try k_lift B'); (try k_fold))
  k_steps
  rename Fr g _ _ _ => Fg
  exact hret _ _ _ (fun b o e hb => Fg.keep b o (kg b o e hb)) (by assumption) (by assumption)
set_option maxHeartbeats 0 in
theorem strcoll_spec {x y : Str} {tx ty : Tok} (B : Below A₀ base outer h₀) (F : Fr h₀ L s.heap m) (X : (hd1.heap_1 w.params).In h₀) (T : Top p loose mean mg mb h₀) (hd : dp + 10 < recursionLimit) (hu : un + 100 < cLine)
    (hret : ∀ i t h' tk', i = b2i (decide (y.cps.toList < x.cps.toList)) - b2i (decide (x.cps.toList < y.cps.toList)) → (∀ (b : Nat) o, s.heap.get? b = some o → h'.get? b = some o) → Fr h₀ L h' m → R (.ok (.ret (.int i t))) { s with heap := h', toks := tk' }) :
    codeAny (model PP w) (ktrTop dp un gd cn ⟨.function, nm, ig, ic, mo⟩ L a ccd cl outer) (.call (.ref 45) ⟨[.str x tx, .str y ty], []⟩) R s := by
  have N : News h₀ L s.heap [] := News.nil
  k_dflt (refine' codeK ?k1 ?k2 ?k3 ?k4 ?k5 ?kA ?kF ?kK ?k6 ?k7 ?k8 ?k9 ?kB ?_ ?c2 ?c3 ?c4 ?c5; (case kA => exact rfl); (case kF => exact rfl); (case kK => exact rfl); (case k1 => exact B); (case k2 => exact F); (case k3 => exact X); (case k4 => exact N); (case k5 => exact T); (case k6 => k_is); (case k7 => k_is); (case k8 => k_room); (case k9 => first | exact BindsTo.of_eq rfl | exact binds_K (by k_in) rfl (by k_is) rfl rfl rfl); (case c5 => decide); (case kB => exact locs rfl); (case c2 => exact rfl); (case c3 => exact rfl); (case c4 => exact rfl); k_whole; intro g L' h' kg kl l1 FG F' N' B' X' T'; (try k_lt l1); (have codeHd := codeHd_of_K (c := 241) (P := 237) X' (by kernel_rfl)); (try dsimp only); (try k_lift B'); (try k_fold))
  k_steps
  rename Fr g _ _ _ => Fg
  exact hret _ _ _ _ rfl (fun b o e => Fg.keep b o (kg b o e List.not_mem_nil)) (by assumption)
end
end
theorem cx6 {p : Program} {w : World} {A : Around} {Q : Value → Shared → Prop} {E : Value → Shared → Prop} {s : Shared} (h : wpAny (model p w) A (pyIter Value.none) Q E s) : wpAny (model p w) A (pyIter Value.none) Q E s := by first | (walk1; fail "x") | exact h
section
section
variable {w : World} {dp un : Nat} {gd : Option (List Code)} {cn : Str} {nm : List (Str × NameKind)} {ig ic : Bool} {mo : List (Str × Const)} {a : Addr} {ccd : Value} {cl : List (Str × Addr)} {outer : List Env} {A₀ : Around} {base h₀ : Heap} {L : Addr} {m : Str → Option Value} {news : List (Addr × Obj)} {s : Shared} {p : Program} {loose : List Str} {mean : ExcName → Option Value} {mg mb : Str → Option Value} {R : Result → Shared → Prop}
theorem take_succ_some {l : List Nat} {i c : Nat} (h : l[i]? = some c) : l.take (i + 1) = l.take i ++ [c] := by
  rw [List.take_add_one, h]; rfl
theorem quote_in (c : Nat) : (Builtin.Str.occurrences (Str.ofString "\"\\") (Str.mk #[c]) 0 (Str.length (Str.ofString "\"\\")) 1).isEmpty = !decide (c = 34 ∨ c = 92) := by
  have h := StrLaws.found_one (Str.ofString "\"\\") c
  have e : (Str.ofString "\"\\") = ⟨#[34, 92]⟩ := by decide
  rw [show decide (c = 34 ∨ c = 92) = decide (c ∈ (Str.ofString "\"\\").cps.toList) from by rw [e]; simp, ← h, Bool.not_not]
set_option maxHeartbeats 0 in
theorem word_bare {x wh : List Nat} {tx' tw tb : Tok} (B : Below A₀ base outer h₀) (F : Fr h₀ L s.heap m) (X : (hd1.heap_1 w.params).In h₀) (T : Top p loose mean mg mb h₀) (hd : dp + 10 < recursionLimit) (hu : un + 100 < cLine) (hx : x.length < 1000) (hw : wh.length < 1000) (ha : x.all (· < 128) = true)
    (hret : ∀ t h' tk', (∀ (b : Nat) o, s.heap.get? b = some o → h'.get? b = some o) → Fr h₀ L h' m → R (.ok (.ret (.str (tx (lawWord 1 x wh)) t))) { s with heap := h', toks := tk' }) :
    codeAny (model PP w) (ktrTop dp un gd cn ⟨.function, nm, ig, ic, mo⟩ L a ccd cl outer) (.call (.ref 247) ⟨[.str (tx x) tx', .int 1 tb, .str (tx wh) tw], []⟩) R s := by
  have N : News h₀ L s.heap [] := News.nil
  have hb9 := PySem.sizeLine_eq
  have hl9 := encB_len x
  k_dflt (refine' codeK ?k1 ?k2 ?k3 ?k4 ?k5 ?kA ?kF ?kK ?k6 ?k7 ?k8 ?k9 ?kB ?_ ?c2 ?c3 ?c4 ?c5; (case kA => exact rfl); (case kF => exact rfl); (case kK => exact rfl); (case k1 => exact B); (case k2 => exact F); (case k3 => exact X); (case k4 => exact N); (case k5 => exact T); (case k6 => k_is); (case k7 => k_is); (case k8 => k_room); (case k9 => first | exact BindsTo.of_eq rfl | exact binds_K (by k_in) rfl (by k_is) rfl rfl rfl); (case c5 => decide); (case kB => exact locs rfl); (case c2 => exact rfl); (case c3 => exact rfl); (case c4 => exact rfl); k_whole; intro g L' h' kg kl l1 FG F' N' B' X' T'; (try k_lt l1); (have codeHd := codeHd_of_K (c := 241) (P := 237) X' (by kernel_rfl)); (try dsimp only); (try k_lift B'); (try k_fold))
  k_steps
  unfold Stop
  rename Fr g L' _ _ => F1
  rename News g L' _ _ => N1
  k_dflt (refine' ListComp_S ?c0 ?c1 ?c2 ?c3 ?c4 ?c5 ?c6 ?c7; (case c0 => exact F1); (case c1 => rfl); (case c2 => decide); (case c3 => rfl); (case c4 => decide); (case c5 => rfl); (case c7 => intro _; rfl))
  k_dflt (refine' nameX_L ?F ?v ?_ ?a ?b; (case F => exact F1); (case a => rfl); (case b => rfl); (case v => rfl))
  refine ⟨_, _, [], rfl, rfl, by simpa using ha, by simp; omega, F1, N1, fun g2 => ?_⟩
  refine rest_inv (fun i ys nw => nw = [] ∧ StrsAre ys (((x.take i).map fun c => [92, c]).map tx)) ⟨rfl, .nil⟩ ?turn ?fin
  case turn =>
    rintro i ys nw v I oI C oC D m₂ h tk E' hi ⟨rfl, hs⟩ ⟨c, u, hc, rfl⟩ hns hm F9 N9 off hne
    k_steps
    rw [take_succ_some (by simpa using hc), List.map_append, List.map_append, show Str.ofString "\\" ++ Str.mk #[c] = tx [92, c] from by rw [is_back, str_append_mk]; rfl]
    exact hs.append' (.cons _ _ .nil)
  case fin =>
    rintro ys nw ⟨rfl, hs⟩
    rw [show (tx x).cps.size = x.length from by simp, List.take_length] at hs
    have hz9 : (x.map fun c => [92, c]).flatten.length ≤ sizeLine := by
      show (encB x).length ≤ _
      omega
    have hz8 : (x.map fun c => [92, c]).flatten.length ≤ 2 * x.length := by
      show (encB x).length ≤ _
      omega
    k_steps
    rename Fr g _ _ _ => Fg
    rw [tx_append]
    exact hret _ _ _ (fun b o e => Fg.keep b o (kg b o e List.not_mem_nil)) (by assumption)
set_option maxHeartbeats 0 in
theorem word_quoted {x wh : List Nat} {tx' tw tb : Tok} (B : Below A₀ base outer h₀) (F : Fr h₀ L s.heap m) (X : (hd1.heap_1 w.params).In h₀) (T : Top p loose mean mg mb h₀) (hd : dp + 10 < recursionLimit) (hu : un + 100 < cLine) (hx : x.length < 1000) (hw : wh.length < 1000) (ha : x.all (· < 128) = true)
    (hret : ∀ t h' tk', (∀ (b : Nat) o, s.heap.get? b = some o → h'.get? b = some o) → Fr h₀ L h' m → R (.ok (.ret (.str (tx (lawWord 0 x wh)) t))) { s with heap := h', toks := tk' }) :
    codeAny (model PP w) (ktrTop dp un gd cn ⟨.function, nm, ig, ic, mo⟩ L a ccd cl outer) (.call (.ref 247) ⟨[.str (tx x) tx', .int 0 tb, .str (tx wh) tw], []⟩) R s := by
  have N : News h₀ L s.heap [] := News.nil
  have hb9 := PySem.sizeLine_eq
  have hl9 := encQ_len x
  k_dflt (refine' codeK ?k1 ?k2 ?k3 ?k4 ?k5 ?kA ?kF ?kK ?k6 ?k7 ?k8 ?k9 ?kB ?_ ?c2 ?c3 ?c4 ?c5; (case kA => exact rfl); (case kF => exact rfl); (case kK => exact rfl); (case k1 => exact B); (case k2 => exact F); (case k3 => exact X); (case k4 => exact N); (case k5 => exact T); (case k6 => k_is); (case k7 => k_is); (case k8 => k_room); (case k9 => first | exact BindsTo.of_eq rfl | exact binds_K (by k_in) rfl (by k_is) rfl rfl rfl); (case c5 => decide); (case kB => exact locs rfl); (case c2 => exact rfl); (case c3 => exact rfl); (case c4 => exact rfl); k_whole; intro g L' h' kg kl l1 FG F' N' B' X' T'; (try k_lt l1); (have codeHd := codeHd_of_K (c := 241) (P := 237) X' (by kernel_rfl)); (try dsimp only); (try k_lift B'); (try k_fold))
  k_steps
  unfold Stop
  rename Fr g L' _ _ => F1
  rename News g L' _ _ => N1
  k_dflt (refine' ListComp_S ?c0 ?c1 ?c2 ?c3 ?c4 ?c5 ?c6 ?c7; (case c0 => exact F1); (case c1 => rfl); (case c2 => decide); (case c3 => rfl); (case c4 => decide); (case c5 => rfl); (case c7 => intro _; rfl))
  k_dflt (refine' nameX_L ?F ?v ?_ ?a ?b; (case F => exact F1); (case a => rfl); (case b => rfl); (case v => rfl))
  refine ⟨_, _, [], rfl, rfl, by simpa using ha, by simp; omega, F1, N1, fun g2 => ?_⟩
  refine rest_inv (fun i ys nw => nw = [] ∧ StrsAre ys (((x.take i).map fun c => if c = 34 ∨ c = 92 then [92, c] else [c]).map tx)) ⟨rfl, .nil⟩ ?turn ?fin
  case turn =>
    rintro i ys nw v I oI C oC D m₂ h tk E' hi ⟨rfl, hs⟩ ⟨c, u, hc, rfl⟩ hns hm F9 N9 off hne
    k_steps
    all_goals (try simp only [quote_in, Bool.not_not, Bool.not_eq_true', Bool.not_eq_false', decide_eq_true_eq, decide_eq_false_iff_not] at *)
    · (rename ¬ (c = 34 ∨ c = 92) => hq)
      rw [take_succ_some (by simpa using hc), List.map_append, List.map_append]
      refine hs.append' ?_
      simp only [List.map_cons, List.map_nil, if_neg hq]
      exact .cons _ _ .nil
    · (rename c = 34 ∨ c = 92 => hq)
      rw [take_succ_some (by simpa using hc), List.map_append, List.map_append, show Str.ofString "\\" ++ Str.mk #[c] = tx [92, c] from by rw [is_back, str_append_mk]; rfl]
      refine hs.append' ?_
      simp only [List.map_cons, List.map_nil, if_pos hq]
      exact .cons _ _ .nil
  case fin =>
    rintro ys nw ⟨rfl, hs⟩
    rw [show (tx x).cps.size = x.length from by simp, List.take_length] at hs
    have hz9 : (x.map fun c => if c = 34 ∨ c = 92 then [92, c] else [c]).flatten.length ≤ sizeLine := by
      show (encQ x).length ≤ _
      omega
    have hz8 : (x.map fun c => if c = 34 ∨ c = 92 then [92, c] else [c]).flatten.length ≤ 2 * x.length := by
      show (encQ x).length ≤ _
      omega
    k_steps
    rename Fr g _ _ _ => Fg
    refine end_str ?_ (hret _ _ _ (fun b o e => Fg.keep b o (kg b o e List.not_mem_nil)) (by assumption))
    rw [is_quote]
    apply Str.ext'
    apply Array.ext'
    simp [lawWord, encQ, Str.cps_append]
end
section
variable {w : World} {dp un : Nat} {gd : Option (List Code)} {cn : Str} {nm : List (Str × NameKind)} {ig ic : Bool} {mo : List (Str × Const)} {a : Addr} {ccd : Value} {cl : List (Str × Addr)} {outer : List Env} {A₀ : Around} {base h₀ : Heap} {L : Addr} {m : Str → Option Value} {news : List (Addr × Obj)} {s : Shared} {p : Program} {loose : List Str} {mean : ExcName → Option Value} {mg mb : Str → Option Value} {R : Result → Shared → Prop}
theorem word_any {x wh : List Nat} {tx' tw tb : Tok} {bi : Int} (B : Below A₀ base outer h₀) (F : Fr h₀ L s.heap m) (X : (hd1.heap_1 w.params).In h₀) (T : Top p loose mean mg mb h₀) (hd : dp + 10 < recursionLimit) (hu : un + 100 < cLine) (hb : bi = 0 ∨ bi = 1) (hx : x.length < 1000) (hw : wh.length < 1000) (ha : x.all (· < 128) = true)
    (hret : ∀ t h' tk', (∀ (b : Nat) o, s.heap.get? b = some o → h'.get? b = some o) → Fr h₀ L h' m → R (.ok (.ret (.str (tx (lawWord bi x wh)) t))) { s with heap := h', toks := tk' }) :
    codeAny (model PP w) (ktrTop dp un gd cn ⟨.function, nm, ig, ic, mo⟩ L a ccd cl outer) (.call (.ref 247) ⟨[.str (tx x) tx', .int bi tb, .str (tx wh) tw], []⟩) R s := by
  rcases hb with rfl | rfl
  · exact word_quoted B F X T hd hu hx hw ha hret
  · exact word_bare B F X T hd hu hx hw ha hret
end
end
theorem cx7 {p : Program} {w : World} {A : Around} {Q : Value → Shared → Prop} {E : Value → Shared → Prop} {s : Shared} (h : wpAny (model p w) A (pyIter Value.none) Q E s) : wpAny (model p w) A (pyIter Value.none) Q E s := by first | (walk1; fail "x") | exact h
section
structure HdrP where
  (x d hl : Nat)
  (t : Tok)
noncomputable abbrev hdrLed (w : World) (P : HdrP) (rs : List Value) (n : Nat) : List (Addr × Obj) :=
  [(P.x, instObj 231 P.d), (P.d, dictOf [ent w "_headers" P.t (.ref P.hl)] 1), (P.hl, listOf rs.toArray n)]
noncomputable abbrev HdrP.addrs (P : HdrP) : List Nat := [P.x, P.d, P.hl]
abbrev HdrP.Ok (P : HdrP) : Prop := P.d < P.x ∧ P.x < P.hl
noncomputable abbrev pairO (y z : List Nat) (ty tz : Tok) : Obj := { cls := .type "tuple", data := .seq #[.str (tx y) ty, .str (tx z) tz] }
/-- the list's values are refs to pairs that lie in the ledger's tail -/
def Prs (TL : List (Addr × Obj)) (rs : List Value) (ps : List (List Nat × List Nat)) : Prop :=
  rs.length = ps.length ∧ ∀ (i : Nat) v, rs[i]? = some v → ∃ (q : Addr) (y z : List Nat) (t1 t2 : Tok), v = .ref q ∧ ps[i]? = some (y, z) ∧ (q, pairO y z t1 t2) ∈ TL
theorem hdr_names {w : World} {h₀ h : Heap} {L hl x d hl' d' : Addr} {t : Tok} {r : List (Addr × Obj)} {k0 : Nat} (_ : News h₀ L h ((hl, listOf #[] k0) :: (x, instObj 231 d) :: (d', dictOf [ent w "_headers" t (.ref hl')] 1) :: r)) : ∃ H : HdrP, H.hl = hl ∧ H.x = x ∧ H.d = d ∧ H.t = t := ⟨⟨x, d, hl, t⟩, rfl, rfl, rfl, rfl⟩
theorem pairO_inj {y z y' z' : List Nat} {t1 t2 t1' t2' : Tok} (h : pairO y z t1 t2 = pairO y' z' t1' t2') : y = y' ∧ z = z' := by
  have h1 := (Data.seq.inj (congrArg Obj.data h)).1
  have h2 := congrArg Array.toList h1
  have h3 := (List.cons.inj h2).1
  have h4 := (List.cons.inj (List.cons.inj h2).2).1
  exact ⟨tx_inj (Value.str.inj h3).1, tx_inj (Value.str.inj h4).1⟩
theorem Prs.snoc {TL : List (Addr × Obj)} {rs : List Value} {ps : List (List Nat × List Nat)} {q : Addr} {y z : List Nat} {t1 t2 : Tok} (h : Prs TL rs ps) : Prs (TL ++ [(q, pairO y z t1 t2)]) (rs ++ [.ref q]) (ps ++ [(y, z)]) := by
  refine ⟨by rw [List.length_append, List.length_append, h.1]; rfl, fun i v hv => ?_⟩
  by_cases hi : i < rs.length
  · rw [List.getElem?_append_left hi] at hv
    obtain ⟨q', y', z', u1, u2, e1, e2, e3⟩ := h.2 i v hv
    exact ⟨q', y', z', u1, u2, e1, by rw [List.getElem?_append_left (h.1 ▸ hi)]; exact e2, List.mem_append_left _ e3⟩
  · have hil := (List.getElem?_eq_some_iff.mp hv).1
    rw [List.length_append, List.length_cons, List.length_nil] at hil
    have hi' : i = rs.length := by omega
    subst hi'
    rw [List.getElem?_append_right (Nat.le_refl _), Nat.sub_self] at hv
    refine ⟨q, y, z, t1, t2, (Option.some.inj hv).symm, ?_, List.mem_append_right _ List.mem_cons_self⟩
    rw [List.getElem?_append_right (Nat.le_of_eq h.1.symm), h.1, Nat.sub_self]; rfl
end
theorem cx8 {p : Program} {w : World} {A : Around} {Q : Value → Shared → Prop} {E : Value → Shared → Prop} {s : Shared} (h : wpAny (model p w) A (pyIter Value.none) Q E s) : wpAny (model p w) A (pyIter Value.none) Q E s := by first | (walk1; fail "x") | exact h
section
theorem lawAds {P : LexP} {H : HdrP} {L ra sl wl : Nat} (O : P.Ok) (OH : H.Ok) (lo : @LT.lt Nat _ (L + 1 + 1 + 1 + 1 + 1 + 1) ra ∧ @LT.lt Nat _ ra sl ∧ @LT.lt Nat _ sl wl ∧ @LT.lt Nat _ wl P.cs ∧ P.pb2 < H.d) (h237 : @LT.lt Nat _ 237 L) :
    (AllNe H.x P.addrs ∧ AllNe H.d P.addrs ∧ AllNe H.hl P.addrs ∧ AllNe wl P.addrs ∧ AllNe sl P.addrs ∧ AllNe ra P.addrs) ∧ (AllNe (L + 1) P.addrs ∧ AllNe (L + 1 + 1) P.addrs ∧ AllNe (L + 1 + 1 + 1) P.addrs ∧ AllNe (L + 1 + 1 + 1 + 1) P.addrs ∧ AllNe (L + 1 + 1 + 1 + 1 + 1) P.addrs ∧ AllNe (L + 1 + 1 + 1 + 1 + 1 + 1) P.addrs ∧ AllNe 237 P.addrs) ∧ P.pb2 < H.hl := by
  obtain ⟨k6, k7, k8, k9, kd⟩ := lo
  have w8 := Nat.lt_trans k8 k9
  have w7 := Nat.lt_trans k7 w8
  have c6 := Nat.lt_trans k6 w7
  have c5 := Nat.lt_trans (Nat.lt_succ_self _) c6
  have c4 := Nat.lt_trans (Nat.lt_succ_self _) c5
  have c3 := Nat.lt_trans (Nat.lt_succ_self _) c4
  have c2 := Nat.lt_trans (Nat.lt_succ_self _) c3
  have c1 := Nat.lt_trans (Nat.lt_succ_self _) c2
  have c0 := Nat.lt_trans h237 (Nat.lt_trans (Nat.lt_succ_self _) c1)
  have x1 := Nat.lt_trans kd OH.1
  have x2 := Nat.lt_trans x1 OH.2
  exact ⟨⟨O.hi x1, O.hi kd, O.hi x2, O.lo k9, O.lo w8, O.lo w7⟩, ⟨O.lo c1, O.lo c2, O.lo c3, O.lo c4, O.lo c5, O.lo c6, O.lo c0⟩, x2⟩
theorem HdrP.Ok.hi {H : HdrP} (OH : H.Ok) {X : Nat} (h : H.hl < X) : AllNe X H.addrs := ⟨Nat.ne_of_lt (Nat.lt_trans OH.2 h), Nat.ne_of_lt (Nat.lt_trans OH.1 (Nat.lt_trans OH.2 h)), Nat.ne_of_lt h, trivial⟩
theorem HdrP.Ok.tl {H : HdrP} (OH : H.Ok) {TL : List (Addr × Obj)} {n : Nat} (h : ∀ p ∈ TL, @LT.lt Nat _ n p.1) (k : H.hl < n) : ∀ p ∈ TL, p.1 ∉ H.addrs := fun p hp hq => (HdrP.Ok.hi OH (Nat.lt_trans k (h p hp))).notin hq
theorem HdrP.Ok.lo {H : HdrP} (OH : H.Ok) {X : Nat} (h : X < H.d) : AllNe X H.addrs := ⟨Nat.ne_of_gt (Nat.lt_trans h OH.1), Nat.ne_of_gt h, Nat.ne_of_gt (Nat.lt_trans (Nat.lt_trans h OH.1) OH.2), trivial⟩
theorem lawAdsH {P : LexP} {H : HdrP} {L ra sl wl : Nat} (O : P.Ok) (OH : H.Ok) (lo : @LT.lt Nat _ (L + 1 + 1 + 1 + 1 + 1 + 1) ra ∧ @LT.lt Nat _ ra sl ∧ @LT.lt Nat _ sl wl ∧ @LT.lt Nat _ wl P.cs ∧ P.pb2 < H.d) (h237 : @LT.lt Nat _ 237 L) :
    (AllNe P.x2 H.addrs ∧ AllNe P.d2 H.addrs ∧ AllNe P.pb2 H.addrs ∧ AllNe P.f H.addrs ∧ AllNe P.c H.addrs ∧ AllNe P.x1 H.addrs ∧ AllNe P.d1 H.addrs ∧ AllNe P.ls H.addrs ∧ AllNe P.cs H.addrs) ∧ (AllNe wl H.addrs ∧ AllNe sl H.addrs ∧ AllNe ra H.addrs) ∧ (AllNe (L + 1) H.addrs ∧ AllNe (L + 1 + 1) H.addrs ∧ AllNe (L + 1 + 1 + 1) H.addrs ∧ AllNe (L + 1 + 1 + 1 + 1) H.addrs ∧ AllNe (L + 1 + 1 + 1 + 1 + 1) H.addrs ∧ AllNe (L + 1 + 1 + 1 + 1 + 1 + 1) H.addrs ∧ AllNe 237 H.addrs) := by
  obtain ⟨a9, a8, a7, a6, a4, a3, a2, a1⟩ := O.tops lo.2.2.2.2
  obtain ⟨k6, k7, k8, k9, kd⟩ := lo
  have w9 := Nat.lt_trans k9 a1
  have w8 := Nat.lt_trans k8 w9
  have w7 := Nat.lt_trans k7 w8
  have c6 := Nat.lt_trans k6 w7
  have c5 := Nat.lt_trans (Nat.lt_succ_self _) c6
  have c4 := Nat.lt_trans (Nat.lt_succ_self _) c5
  have c3 := Nat.lt_trans (Nat.lt_succ_self _) c4
  have c2 := Nat.lt_trans (Nat.lt_succ_self _) c3
  have c1 := Nat.lt_trans (Nat.lt_succ_self _) c2
  have c0 := Nat.lt_trans h237 (Nat.lt_trans (Nat.lt_succ_self _) c1)
  have f := fun {X : Nat} (h : X < H.d) => HdrP.Ok.lo OH h
  exact ⟨⟨f a9, f a8, f kd, f a7, f a6, f a4, f a3, f a2, f a1⟩, ⟨f w9, f w8, f w7⟩, ⟨f c1, f c2, f c3, f c4, f c5, f c6, f c0⟩⟩
theorem HdrP.Ok.tl0 {H : HdrP} (OH : H.Ok) {TL : List (Addr × Obj)} (h : ∀ p ∈ TL, @LT.lt Nat _ H.hl p.1) : ∀ p ∈ TL, p.1 ∉ H.addrs := fun p hp hq => (HdrP.Ok.hi OH (h p hp)).notin hq
theorem AllLt.at {D a : Addr} {o : Obj} {l : List (Addr × Obj)} (h : AllLt D l) (m : (a, o) ∈ l) : @LT.lt Nat _ a D := allLt_mem h _ m
theorem allNeLt {D : Addr} {l : List (Addr × Obj)} (h : AllLt D l) : ∀ p ∈ l, @Ne Nat p.1 D := fun p hp => Nat.ne_of_lt (allLt_mem h p hp)
section
variable {P : LexP} {H : HdrP} {c : Nat}
theorem neP1 (h : AllNe c P.addrs) : @Ne Nat P.x2 c := h.1
theorem neP2 (h : AllNe c P.addrs) : @Ne Nat P.d2 c := h.2.1
theorem neP3 (h : AllNe c P.addrs) : @Ne Nat P.pb2 c := h.2.2.1
theorem neP4 (h : AllNe c P.addrs) : @Ne Nat P.f c := h.2.2.2.1
theorem neP5 (h : AllNe c P.addrs) : @Ne Nat P.c c := h.2.2.2.2.1
theorem neP6 (h : AllNe c P.addrs) : @Ne Nat P.x1 c := h.2.2.2.2.2.1
theorem neP7 (h : AllNe c P.addrs) : @Ne Nat P.d1 c := h.2.2.2.2.2.2.1
theorem neP8 (h : AllNe c P.addrs) : @Ne Nat P.ls c := h.2.2.2.2.2.2.2.1
theorem neP9 (h : AllNe c P.addrs) : @Ne Nat P.cs c := h.2.2.2.2.2.2.2.2.1
theorem neH1 (h : AllNe c H.addrs) : @Ne Nat H.x c := h.1
theorem neH2 (h : AllNe c H.addrs) : @Ne Nat H.d c := h.2.1
theorem neH3 (h : AllNe c H.addrs) : @Ne Nat H.hl c := h.2.2.1
theorem cne {L a b : Nat} (h : Nat.beq a b = false) : @Ne Nat (L + a) (L + b) := fun e => by
  have := Nat.ne_of_beq_eq_false h
  omega
end
section
variable {P : LexP} {H : HdrP} {L ra sl wl : Nat}
theorem adP_Hx (O : P.Ok) (OH : H.Ok) (lo : @LT.lt Nat _ (L + 1 + 1 + 1 + 1 + 1 + 1) ra ∧ @LT.lt Nat _ ra sl ∧ @LT.lt Nat _ sl wl ∧ @LT.lt Nat _ wl P.cs ∧ P.pb2 < H.d) (h237 : @LT.lt Nat _ 237 L) : AllNe (H.x) P.addrs := (lawAds O OH lo h237).1.1
theorem adP_Hd (O : P.Ok) (OH : H.Ok) (lo : @LT.lt Nat _ (L + 1 + 1 + 1 + 1 + 1 + 1) ra ∧ @LT.lt Nat _ ra sl ∧ @LT.lt Nat _ sl wl ∧ @LT.lt Nat _ wl P.cs ∧ P.pb2 < H.d) (h237 : @LT.lt Nat _ 237 L) : AllNe (H.d) P.addrs := (lawAds O OH lo h237).1.2.1
theorem adP_Hhl (O : P.Ok) (OH : H.Ok) (lo : @LT.lt Nat _ (L + 1 + 1 + 1 + 1 + 1 + 1) ra ∧ @LT.lt Nat _ ra sl ∧ @LT.lt Nat _ sl wl ∧ @LT.lt Nat _ wl P.cs ∧ P.pb2 < H.d) (h237 : @LT.lt Nat _ 237 L) : AllNe (H.hl) P.addrs := (lawAds O OH lo h237).1.2.2.1
theorem adP_wl (O : P.Ok) (OH : H.Ok) (lo : @LT.lt Nat _ (L + 1 + 1 + 1 + 1 + 1 + 1) ra ∧ @LT.lt Nat _ ra sl ∧ @LT.lt Nat _ sl wl ∧ @LT.lt Nat _ wl P.cs ∧ P.pb2 < H.d) (h237 : @LT.lt Nat _ 237 L) : AllNe (wl) P.addrs := (lawAds O OH lo h237).1.2.2.2.1
theorem adP_sl (O : P.Ok) (OH : H.Ok) (lo : @LT.lt Nat _ (L + 1 + 1 + 1 + 1 + 1 + 1) ra ∧ @LT.lt Nat _ ra sl ∧ @LT.lt Nat _ sl wl ∧ @LT.lt Nat _ wl P.cs ∧ P.pb2 < H.d) (h237 : @LT.lt Nat _ 237 L) : AllNe (sl) P.addrs := (lawAds O OH lo h237).1.2.2.2.2.1
theorem adP_ra (O : P.Ok) (OH : H.Ok) (lo : @LT.lt Nat _ (L + 1 + 1 + 1 + 1 + 1 + 1) ra ∧ @LT.lt Nat _ ra sl ∧ @LT.lt Nat _ sl wl ∧ @LT.lt Nat _ wl P.cs ∧ P.pb2 < H.d) (h237 : @LT.lt Nat _ 237 L) : AllNe (ra) P.addrs := (lawAds O OH lo h237).1.2.2.2.2.2
theorem adP_c1 (O : P.Ok) (OH : H.Ok) (lo : @LT.lt Nat _ (L + 1 + 1 + 1 + 1 + 1 + 1) ra ∧ @LT.lt Nat _ ra sl ∧ @LT.lt Nat _ sl wl ∧ @LT.lt Nat _ wl P.cs ∧ P.pb2 < H.d) (h237 : @LT.lt Nat _ 237 L) : AllNe (L + 1) P.addrs := (lawAds O OH lo h237).2.1.1
theorem adP_c2 (O : P.Ok) (OH : H.Ok) (lo : @LT.lt Nat _ (L + 1 + 1 + 1 + 1 + 1 + 1) ra ∧ @LT.lt Nat _ ra sl ∧ @LT.lt Nat _ sl wl ∧ @LT.lt Nat _ wl P.cs ∧ P.pb2 < H.d) (h237 : @LT.lt Nat _ 237 L) : AllNe (L + 1 + 1) P.addrs := (lawAds O OH lo h237).2.1.2.1
theorem adP_c3 (O : P.Ok) (OH : H.Ok) (lo : @LT.lt Nat _ (L + 1 + 1 + 1 + 1 + 1 + 1) ra ∧ @LT.lt Nat _ ra sl ∧ @LT.lt Nat _ sl wl ∧ @LT.lt Nat _ wl P.cs ∧ P.pb2 < H.d) (h237 : @LT.lt Nat _ 237 L) : AllNe (L + 1 + 1 + 1) P.addrs := (lawAds O OH lo h237).2.1.2.2.1
theorem adP_c4 (O : P.Ok) (OH : H.Ok) (lo : @LT.lt Nat _ (L + 1 + 1 + 1 + 1 + 1 + 1) ra ∧ @LT.lt Nat _ ra sl ∧ @LT.lt Nat _ sl wl ∧ @LT.lt Nat _ wl P.cs ∧ P.pb2 < H.d) (h237 : @LT.lt Nat _ 237 L) : AllNe (L + 1 + 1 + 1 + 1) P.addrs := (lawAds O OH lo h237).2.1.2.2.2.1
theorem adP_c5 (O : P.Ok) (OH : H.Ok) (lo : @LT.lt Nat _ (L + 1 + 1 + 1 + 1 + 1 + 1) ra ∧ @LT.lt Nat _ ra sl ∧ @LT.lt Nat _ sl wl ∧ @LT.lt Nat _ wl P.cs ∧ P.pb2 < H.d) (h237 : @LT.lt Nat _ 237 L) : AllNe (L + 1 + 1 + 1 + 1 + 1) P.addrs := (lawAds O OH lo h237).2.1.2.2.2.2.1
theorem adP_c6 (O : P.Ok) (OH : H.Ok) (lo : @LT.lt Nat _ (L + 1 + 1 + 1 + 1 + 1 + 1) ra ∧ @LT.lt Nat _ ra sl ∧ @LT.lt Nat _ sl wl ∧ @LT.lt Nat _ wl P.cs ∧ P.pb2 < H.d) (h237 : @LT.lt Nat _ 237 L) : AllNe (L + 1 + 1 + 1 + 1 + 1 + 1) P.addrs := (lawAds O OH lo h237).2.1.2.2.2.2.2.1
theorem adP_tab (O : P.Ok) (OH : H.Ok) (lo : @LT.lt Nat _ (L + 1 + 1 + 1 + 1 + 1 + 1) ra ∧ @LT.lt Nat _ ra sl ∧ @LT.lt Nat _ sl wl ∧ @LT.lt Nat _ wl P.cs ∧ P.pb2 < H.d) (h237 : @LT.lt Nat _ 237 L) : AllNe (237) P.addrs := (lawAds O OH lo h237).2.1.2.2.2.2.2.2
theorem adP_hi (O : P.Ok) (OH : H.Ok) (lo : @LT.lt Nat _ (L + 1 + 1 + 1 + 1 + 1 + 1) ra ∧ @LT.lt Nat _ ra sl ∧ @LT.lt Nat _ sl wl ∧ @LT.lt Nat _ wl P.cs ∧ P.pb2 < H.d) (h237 : @LT.lt Nat _ 237 L) : P.pb2 < H.hl := (lawAds O OH lo h237).2.2
theorem adH_x2 (O : P.Ok) (OH : H.Ok) (lo : @LT.lt Nat _ (L + 1 + 1 + 1 + 1 + 1 + 1) ra ∧ @LT.lt Nat _ ra sl ∧ @LT.lt Nat _ sl wl ∧ @LT.lt Nat _ wl P.cs ∧ P.pb2 < H.d) (h237 : @LT.lt Nat _ 237 L) : AllNe (P.x2) H.addrs := (lawAdsH O OH lo h237).1.1
theorem adH_d2 (O : P.Ok) (OH : H.Ok) (lo : @LT.lt Nat _ (L + 1 + 1 + 1 + 1 + 1 + 1) ra ∧ @LT.lt Nat _ ra sl ∧ @LT.lt Nat _ sl wl ∧ @LT.lt Nat _ wl P.cs ∧ P.pb2 < H.d) (h237 : @LT.lt Nat _ 237 L) : AllNe (P.d2) H.addrs := (lawAdsH O OH lo h237).1.2.1
theorem adH_pb2 (O : P.Ok) (OH : H.Ok) (lo : @LT.lt Nat _ (L + 1 + 1 + 1 + 1 + 1 + 1) ra ∧ @LT.lt Nat _ ra sl ∧ @LT.lt Nat _ sl wl ∧ @LT.lt Nat _ wl P.cs ∧ P.pb2 < H.d) (h237 : @LT.lt Nat _ 237 L) : AllNe (P.pb2) H.addrs := (lawAdsH O OH lo h237).1.2.2.1
theorem adH_f (O : P.Ok) (OH : H.Ok) (lo : @LT.lt Nat _ (L + 1 + 1 + 1 + 1 + 1 + 1) ra ∧ @LT.lt Nat _ ra sl ∧ @LT.lt Nat _ sl wl ∧ @LT.lt Nat _ wl P.cs ∧ P.pb2 < H.d) (h237 : @LT.lt Nat _ 237 L) : AllNe (P.f) H.addrs := (lawAdsH O OH lo h237).1.2.2.2.1
theorem adH_c (O : P.Ok) (OH : H.Ok) (lo : @LT.lt Nat _ (L + 1 + 1 + 1 + 1 + 1 + 1) ra ∧ @LT.lt Nat _ ra sl ∧ @LT.lt Nat _ sl wl ∧ @LT.lt Nat _ wl P.cs ∧ P.pb2 < H.d) (h237 : @LT.lt Nat _ 237 L) : AllNe (P.c) H.addrs := (lawAdsH O OH lo h237).1.2.2.2.2.1
theorem adH_x1 (O : P.Ok) (OH : H.Ok) (lo : @LT.lt Nat _ (L + 1 + 1 + 1 + 1 + 1 + 1) ra ∧ @LT.lt Nat _ ra sl ∧ @LT.lt Nat _ sl wl ∧ @LT.lt Nat _ wl P.cs ∧ P.pb2 < H.d) (h237 : @LT.lt Nat _ 237 L) : AllNe (P.x1) H.addrs := (lawAdsH O OH lo h237).1.2.2.2.2.2.1
theorem adH_d1 (O : P.Ok) (OH : H.Ok) (lo : @LT.lt Nat _ (L + 1 + 1 + 1 + 1 + 1 + 1) ra ∧ @LT.lt Nat _ ra sl ∧ @LT.lt Nat _ sl wl ∧ @LT.lt Nat _ wl P.cs ∧ P.pb2 < H.d) (h237 : @LT.lt Nat _ 237 L) : AllNe (P.d1) H.addrs := (lawAdsH O OH lo h237).1.2.2.2.2.2.2.1
theorem adH_ls (O : P.Ok) (OH : H.Ok) (lo : @LT.lt Nat _ (L + 1 + 1 + 1 + 1 + 1 + 1) ra ∧ @LT.lt Nat _ ra sl ∧ @LT.lt Nat _ sl wl ∧ @LT.lt Nat _ wl P.cs ∧ P.pb2 < H.d) (h237 : @LT.lt Nat _ 237 L) : AllNe (P.ls) H.addrs := (lawAdsH O OH lo h237).1.2.2.2.2.2.2.2.1
theorem adH_cs (O : P.Ok) (OH : H.Ok) (lo : @LT.lt Nat _ (L + 1 + 1 + 1 + 1 + 1 + 1) ra ∧ @LT.lt Nat _ ra sl ∧ @LT.lt Nat _ sl wl ∧ @LT.lt Nat _ wl P.cs ∧ P.pb2 < H.d) (h237 : @LT.lt Nat _ 237 L) : AllNe (P.cs) H.addrs := (lawAdsH O OH lo h237).1.2.2.2.2.2.2.2.2
theorem adH_wl (O : P.Ok) (OH : H.Ok) (lo : @LT.lt Nat _ (L + 1 + 1 + 1 + 1 + 1 + 1) ra ∧ @LT.lt Nat _ ra sl ∧ @LT.lt Nat _ sl wl ∧ @LT.lt Nat _ wl P.cs ∧ P.pb2 < H.d) (h237 : @LT.lt Nat _ 237 L) : AllNe (wl) H.addrs := (lawAdsH O OH lo h237).2.1.1
theorem adH_sl (O : P.Ok) (OH : H.Ok) (lo : @LT.lt Nat _ (L + 1 + 1 + 1 + 1 + 1 + 1) ra ∧ @LT.lt Nat _ ra sl ∧ @LT.lt Nat _ sl wl ∧ @LT.lt Nat _ wl P.cs ∧ P.pb2 < H.d) (h237 : @LT.lt Nat _ 237 L) : AllNe (sl) H.addrs := (lawAdsH O OH lo h237).2.1.2.1
theorem adH_ra (O : P.Ok) (OH : H.Ok) (lo : @LT.lt Nat _ (L + 1 + 1 + 1 + 1 + 1 + 1) ra ∧ @LT.lt Nat _ ra sl ∧ @LT.lt Nat _ sl wl ∧ @LT.lt Nat _ wl P.cs ∧ P.pb2 < H.d) (h237 : @LT.lt Nat _ 237 L) : AllNe (ra) H.addrs := (lawAdsH O OH lo h237).2.1.2.2
theorem adH_c1 (O : P.Ok) (OH : H.Ok) (lo : @LT.lt Nat _ (L + 1 + 1 + 1 + 1 + 1 + 1) ra ∧ @LT.lt Nat _ ra sl ∧ @LT.lt Nat _ sl wl ∧ @LT.lt Nat _ wl P.cs ∧ P.pb2 < H.d) (h237 : @LT.lt Nat _ 237 L) : AllNe (L + 1) H.addrs := (lawAdsH O OH lo h237).2.2.1
theorem adH_c2 (O : P.Ok) (OH : H.Ok) (lo : @LT.lt Nat _ (L + 1 + 1 + 1 + 1 + 1 + 1) ra ∧ @LT.lt Nat _ ra sl ∧ @LT.lt Nat _ sl wl ∧ @LT.lt Nat _ wl P.cs ∧ P.pb2 < H.d) (h237 : @LT.lt Nat _ 237 L) : AllNe (L + 1 + 1) H.addrs := (lawAdsH O OH lo h237).2.2.2.1
theorem adH_c3 (O : P.Ok) (OH : H.Ok) (lo : @LT.lt Nat _ (L + 1 + 1 + 1 + 1 + 1 + 1) ra ∧ @LT.lt Nat _ ra sl ∧ @LT.lt Nat _ sl wl ∧ @LT.lt Nat _ wl P.cs ∧ P.pb2 < H.d) (h237 : @LT.lt Nat _ 237 L) : AllNe (L + 1 + 1 + 1) H.addrs := (lawAdsH O OH lo h237).2.2.2.2.1
theorem adH_c4 (O : P.Ok) (OH : H.Ok) (lo : @LT.lt Nat _ (L + 1 + 1 + 1 + 1 + 1 + 1) ra ∧ @LT.lt Nat _ ra sl ∧ @LT.lt Nat _ sl wl ∧ @LT.lt Nat _ wl P.cs ∧ P.pb2 < H.d) (h237 : @LT.lt Nat _ 237 L) : AllNe (L + 1 + 1 + 1 + 1) H.addrs := (lawAdsH O OH lo h237).2.2.2.2.2.1
theorem adH_c5 (O : P.Ok) (OH : H.Ok) (lo : @LT.lt Nat _ (L + 1 + 1 + 1 + 1 + 1 + 1) ra ∧ @LT.lt Nat _ ra sl ∧ @LT.lt Nat _ sl wl ∧ @LT.lt Nat _ wl P.cs ∧ P.pb2 < H.d) (h237 : @LT.lt Nat _ 237 L) : AllNe (L + 1 + 1 + 1 + 1 + 1) H.addrs := (lawAdsH O OH lo h237).2.2.2.2.2.2.1
theorem adH_c6 (O : P.Ok) (OH : H.Ok) (lo : @LT.lt Nat _ (L + 1 + 1 + 1 + 1 + 1 + 1) ra ∧ @LT.lt Nat _ ra sl ∧ @LT.lt Nat _ sl wl ∧ @LT.lt Nat _ wl P.cs ∧ P.pb2 < H.d) (h237 : @LT.lt Nat _ 237 L) : AllNe (L + 1 + 1 + 1 + 1 + 1 + 1) H.addrs := (lawAdsH O OH lo h237).2.2.2.2.2.2.2.1
theorem adH_tab (O : P.Ok) (OH : H.Ok) (lo : @LT.lt Nat _ (L + 1 + 1 + 1 + 1 + 1 + 1) ra ∧ @LT.lt Nat _ ra sl ∧ @LT.lt Nat _ sl wl ∧ @LT.lt Nat _ wl P.cs ∧ P.pb2 < H.d) (h237 : @LT.lt Nat _ 237 L) : AllNe (237) H.addrs := (lawAdsH O OH lo h237).2.2.2.2.2.2.2.2
end
section
variable {P : LexP} {H : HdrP} {L ra sl wl : Nat}
theorem adC6 (O : P.Ok) (OH : H.Ok) (lo : @LT.lt Nat _ (L + 1 + 1 + 1 + 1 + 1 + 1) ra ∧ @LT.lt Nat _ ra sl ∧ @LT.lt Nat _ sl wl ∧ @LT.lt Nat _ wl P.cs ∧ P.pb2 < H.d) (h237 : @LT.lt Nat _ 237 L) : @LT.lt Nat _ (L + 1 + 1 + 1 + 1 + 1 + 1) H.hl := by
  obtain ⟨_, _, _, _, _, _, _, a1⟩ := O.tops lo.2.2.2.2
  obtain ⟨k6, k7, k8, k9, _⟩ := lo
  exact Nat.lt_trans k6 (Nat.lt_trans k7 (Nat.lt_trans k8 (Nat.lt_trans k9 (Nat.lt_trans a1 (Nat.lt_trans OH.1 OH.2)))))
theorem adN_wl4 (_ : P.Ok) (_ : H.Ok) (lo : @LT.lt Nat _ (L + 1 + 1 + 1 + 1 + 1 + 1) ra ∧ @LT.lt Nat _ ra sl ∧ @LT.lt Nat _ sl wl ∧ @LT.lt Nat _ wl P.cs ∧ P.pb2 < H.d) (_h237 : @LT.lt Nat _ 237 L) : @Ne Nat wl (L + 1 + 1 + 1 + 1) := by omega
theorem adN_sl4 (_ : P.Ok) (_ : H.Ok) (lo : @LT.lt Nat _ (L + 1 + 1 + 1 + 1 + 1 + 1) ra ∧ @LT.lt Nat _ ra sl ∧ @LT.lt Nat _ sl wl ∧ @LT.lt Nat _ wl P.cs ∧ P.pb2 < H.d) (_h237 : @LT.lt Nat _ 237 L) : @Ne Nat sl (L + 1 + 1 + 1 + 1) := by omega
theorem adN_ra4 (_ : P.Ok) (_ : H.Ok) (lo : @LT.lt Nat _ (L + 1 + 1 + 1 + 1 + 1 + 1) ra ∧ @LT.lt Nat _ ra sl ∧ @LT.lt Nat _ sl wl ∧ @LT.lt Nat _ wl P.cs ∧ P.pb2 < H.d) (_h237 : @LT.lt Nat _ 237 L) : @Ne Nat ra (L + 1 + 1 + 1 + 1) := by omega
theorem adN_tab4 (h237 : @LT.lt Nat _ 237 L) : @Ne Nat 237 (L + 1 + 1 + 1 + 1) := by omega
theorem nc4 {h X : Nat} (c : @LT.lt Nat _ (L + 1 + 1 + 1 + 1 + 1 + 1) h) (k : @LT.lt Nat _ h X) : @Ne Nat X (L + 1 + 1 + 1 + 1) := by omega
theorem adN_wl5 (_ : P.Ok) (_ : H.Ok) (lo : @LT.lt Nat _ (L + 1 + 1 + 1 + 1 + 1 + 1) ra ∧ @LT.lt Nat _ ra sl ∧ @LT.lt Nat _ sl wl ∧ @LT.lt Nat _ wl P.cs ∧ P.pb2 < H.d) (_h237 : @LT.lt Nat _ 237 L) : @Ne Nat wl (L + 1 + 1 + 1 + 1 + 1) := by omega
theorem adN_sl5 (_ : P.Ok) (_ : H.Ok) (lo : @LT.lt Nat _ (L + 1 + 1 + 1 + 1 + 1 + 1) ra ∧ @LT.lt Nat _ ra sl ∧ @LT.lt Nat _ sl wl ∧ @LT.lt Nat _ wl P.cs ∧ P.pb2 < H.d) (_h237 : @LT.lt Nat _ 237 L) : @Ne Nat sl (L + 1 + 1 + 1 + 1 + 1) := by omega
theorem adN_ra5 (_ : P.Ok) (_ : H.Ok) (lo : @LT.lt Nat _ (L + 1 + 1 + 1 + 1 + 1 + 1) ra ∧ @LT.lt Nat _ ra sl ∧ @LT.lt Nat _ sl wl ∧ @LT.lt Nat _ wl P.cs ∧ P.pb2 < H.d) (_h237 : @LT.lt Nat _ 237 L) : @Ne Nat ra (L + 1 + 1 + 1 + 1 + 1) := by omega
theorem adN_tab5 (h237 : @LT.lt Nat _ 237 L) : @Ne Nat 237 (L + 1 + 1 + 1 + 1 + 1) := by omega
theorem nc5 {h X : Nat} (c : @LT.lt Nat _ (L + 1 + 1 + 1 + 1 + 1 + 1) h) (k : @LT.lt Nat _ h X) : @Ne Nat X (L + 1 + 1 + 1 + 1 + 1) := by omega
theorem adN_wl6 (_ : P.Ok) (_ : H.Ok) (lo : @LT.lt Nat _ (L + 1 + 1 + 1 + 1 + 1 + 1) ra ∧ @LT.lt Nat _ ra sl ∧ @LT.lt Nat _ sl wl ∧ @LT.lt Nat _ wl P.cs ∧ P.pb2 < H.d) (_h237 : @LT.lt Nat _ 237 L) : @Ne Nat wl (L + 1 + 1 + 1 + 1 + 1 + 1) := by omega
theorem adN_sl6 (_ : P.Ok) (_ : H.Ok) (lo : @LT.lt Nat _ (L + 1 + 1 + 1 + 1 + 1 + 1) ra ∧ @LT.lt Nat _ ra sl ∧ @LT.lt Nat _ sl wl ∧ @LT.lt Nat _ wl P.cs ∧ P.pb2 < H.d) (_h237 : @LT.lt Nat _ 237 L) : @Ne Nat sl (L + 1 + 1 + 1 + 1 + 1 + 1) := by omega
theorem adN_ra6 (_ : P.Ok) (_ : H.Ok) (lo : @LT.lt Nat _ (L + 1 + 1 + 1 + 1 + 1 + 1) ra ∧ @LT.lt Nat _ ra sl ∧ @LT.lt Nat _ sl wl ∧ @LT.lt Nat _ wl P.cs ∧ P.pb2 < H.d) (_h237 : @LT.lt Nat _ 237 L) : @Ne Nat ra (L + 1 + 1 + 1 + 1 + 1 + 1) := by omega
theorem adN_tab6 (h237 : @LT.lt Nat _ 237 L) : @Ne Nat 237 (L + 1 + 1 + 1 + 1 + 1 + 1) := by omega
theorem nc6 {h X : Nat} (c : @LT.lt Nat _ (L + 1 + 1 + 1 + 1 + 1 + 1) h) (k : @LT.lt Nat _ h X) : @Ne Nat X (L + 1 + 1 + 1 + 1 + 1 + 1) := by omega
end
def HoldP (P : Prop) : Prop := P
def MkA : Prop := True
def MkB : Prop := True
/-- a fact kept out of the tactics' sight -/
def Box (p : Prop) : Prop := p
theorem Box.out {p : Prop} (h : Box p) : p := h
end
theorem cx9 {p : Program} {w : World} {A : Around} {Q : Value → Shared → Prop} {E : Value → Shared → Prop} {s : Shared} (h : wpAny (model p w) A (pyIter Value.none) Q E s) : wpAny (model p w) A (pyIter Value.none) Q E s := by first | (walk1; fail "x") | exact h
section
local macro_rules | `(tactic| walk_at "call builtin:str.join") => `(tactic| (k_here; k_dflt (refine' joinOne_K (by k_asm) (by k_mem) (by rfl) (by ktr_rel) (by decide) ?_); intro t' k'))
section
variable {w : World} {dp un : Nat} {gd : Option (List Code)} {cn : Str} {nm : List (Str × NameKind)} {ig ic : Bool} {mo : List (Str × Const)} {a : Addr} {ccd : Value} {cl : List (Str × Addr)} {outer : List Env} {A₀ : Around} {base h₀ : Heap} {L : Addr} {m : Str → Option Value} {news : List (Addr × Obj)} {s : Shared} {p : Program} {loose : List Str} {mean : ExcName → Option Value} {mg mb : Str → Option Value} {R : Result → Shared → Prop}
set_option maxHeartbeats 0 in
theorem hdr_add {P : HdrP} {rs : List Value} {n : Nat} {y z : List Nat} {ty tz : Tok} (B : Below A₀ base outer h₀) (F : Fr h₀ L s.heap m) (X : (hd1.heap_1 w.params).In h₀) (T : Top p loose mean mg mb h₀) (hd : dp + 10 < recursionLimit) (hu : un + 100 < cLine) (O : P.Ok) (N : News h₀ L s.heap (hdrLed w P rs n)) (hr : rs.length < 1000) (hy : y.all reOk = true) (hz : z.all reOk = true) (ly : y.length < 1000) (lz : z.length < 1000)
    (hret : ∀ (q : Nat) t' n' h' tk', (∀ (b : Nat) o, s.heap.get? b = some o → b ∉ P.addrs → h'.get? b = some o) → (∀ (b : Nat) o, s.heap.get? b = some o → b < q) → Fr h₀ L h' m → News h₀ L h' (hdrLed w P (rs ++ [.ref q]) n') → News h₀ L h' [(q, pairO y z ty t')] → R (.ok (.ret .none)) { s with heap := h', toks := tk' }) :
    codeAny (model PP w) (ktrTop dp un gd cn ⟨.function, nm, ig, ic, mo⟩ L a ccd cl outer) (.call (.ref 228) ⟨[.ref P.x, .str (tx y) ty, .str (tx z) tz], []⟩) R s := by
  obtain ⟨o1, o2⟩ := O
  unfold hdrLed at N
  k_dflt (refine' codeKM ?k1 ?k2 ?k3 ?k4 ?k5 ?kA ?kF ?kK ?k6 ?k7 ?k8 ?kP ?kT ?kB ?_ ?c2 ?c3 ?c4 ?c5; (case kA => exact rfl); (case kF => exact rfl); (case kK => exact rfl); (case k1 => exact B); (case k2 => exact F); (case k3 => exact X); (case k4 => exact N); (case k5 => exact T); (case k6 => k_is); (case k7 => k_is); (case k8 => k_room); (case kP => exact rfl); (case kT => exact fun _ => rfl); (case kB => exact fun _ => locs rfl); (case c5 => decide); (case c2 => exact rfl); (case c3 => exact rfl); (case c4 => exact rfl); k_whole; intro D' o' g L' h' tk' lo' hs' fs' kg kl kD l1 FG F' N' B' X' T'; (try k_lt l1); (have codeHd := codeHd_of_K (c := 241) (P := 237) X' (by kernel_rfl)); (try dsimp only); (try k_lift B'); (try k_fold))
  k_steps
  rename Fr g _ _ _ => Fg
  rename News _ _ _ _ => N9
  refine hret _ _ _ _ _ (fun b o e hb => Fg.keep b o (kg b o e hb)) (fun b o e => ?_) (by assumption) (news_tail (news_tail (news_tail N9))) (news_head N9)
  · have := kD b o e
    omega
end
end
theorem cx10 {p : Program} {w : World} {A : Around} {Q : Value → Shared → Prop} {E : Value → Shared → Prop} {s : Shared} (h : wpAny (model p w) A (pyIter Value.none) Q E s) : wpAny (model p w) A (pyIter Value.none) Q E s := by first | (walk1; fail "x") | exact h
section
local macro_rules | `(tactic| k_all) => `(tactic| first | (refine' tl_up (by assumption) (by omega)) | (refine' tl_low (by assumption) (by omega)) | fail "k_all")
local macro_rules | `(tactic| k_mem) => `(tactic| assumption)
section
variable {w : World} {dp un : Nat} {gd : Option (List Code)} {cn : Str} {nm : List (Str × NameKind)} {ig ic : Bool} {mo : List (Str × Const)} {a : Addr} {ccd : Value} {cl : List (Str × Addr)} {outer : List Env} {A₀ : Around} {base h₀ : Heap} {L : Addr} {m : Str → Option Value} {news : List (Addr × Obj)} {s : Shared} {p : Program} {loose : List Str} {mean : ExcName → Option Value} {mg mb : Str → Option Value} {R : Result → Shared → Prop}
set_option maxHeartbeats 0 in
theorem hdr_values {P : HdrP} {rs : List Value} {n : Nat} {ps : List (List Nat × List Nat)} {TL : List (Addr × Obj)} (B : Below A₀ base outer h₀) (F : Fr h₀ L s.heap m) (X : (hd1.heap_1 w.params).In h₀) (T : Top p loose mean mg mb h₀) (hd : dp + 10 < recursionLimit) (hu : un + 100 < cLine) (O : P.Ok) (N : News h₀ L s.heap (hdrLed w P rs n ++ TL)) (hp : Prs TL rs ps) (hr : rs.length < 1000)
    (hret : ∀ (q : Nat) vs h' tk', (∀ (b : Nat) o, s.heap.get? b = some o → b ∉ P.addrs → b ∉ TL.map (·.1) → h'.get? b = some o) → (∀ (b : Nat) o, s.heap.get? b = some o → b ≠ q) → Fr h₀ L h' m → News h₀ L h' ((q, LCg.lst vs) :: hdrLed w P rs n ++ TL) → StrsAre vs (ps.map fun p => tx p.2) → R (.ok (.ret (.ref q))) { s with heap := h', toks := tk' }) :
    codeAny (model PP w) (ktrTop dp un gd cn ⟨.function, nm, ig, ic, mo⟩ L a ccd cl outer) (.call (.ref 188) ⟨[.ref P.x], []⟩) R s := by
  obtain ⟨o1, o2⟩ := O
  simp only [hdrLed, List.cons_append, List.nil_append] at N
  k_dflt (refine' codeK ?k1 ?k2 ?k3 ?k4 ?k5 ?kA ?kF ?kK ?k6 ?k7 ?k8 ?k9 ?kB ?_ ?c2 ?c3 ?c4 ?c5; (case kA => exact rfl); (case kF => exact rfl); (case kK => exact rfl); (case k1 => exact B); (case k2 => exact F); (case k3 => exact X); (case k4 => exact N); (case k5 => exact T); (case k6 => k_is); (case k7 => k_is); (case k8 => k_room); (case k9 => first | exact BindsTo.of_eq rfl | exact binds_K (by k_in) rfl (by k_is) rfl rfl rfl); (case c5 => decide); (case kB => exact locs rfl); (case c2 => exact rfl); (case c3 => exact rfl); (case c4 => exact rfl); k_whole; intro g L' h' kg kl l1 FG F' N' B' X' T'; (try k_lt l1); (have codeHd := codeHd_of_K (c := 241) (P := 237) X' (by kernel_rfl)); (try dsimp only); (try k_lift B'); (try k_fold))
  k_steps
  unfold Stop
  rename Fr g L' _ _ => F1
  rename News g L' _ _ => N1
  k_dflt (refine' LCp.ListComp_P ?c0 ?c1 ?c2 ?c3 ?c4 ?c5 ?c6 ?cx ?c8 ?c7; (case c0 => exact F1); (case c1 => rfl); (case c2 => decide); (case c3 => rfl); (case c4 => decide); (case c5 => rfl); (case c6 => rfl); (case cx => decide); (case c7 => intro _; rfl))
  k_steps
  refine LCp.SrcLP.ledger rfl F1 N1 (by k_mem) (by rw [List.size_toArray]; have := PySem.sizeLine_eq; omega) fun g2 => ?_
  refine restP_inv (fun i ys nw => nw = hdrLed w P rs n ++ TL ∧ StrsAre ys ((ps.take i).map fun p => tx p.2)) ⟨rfl, .nil⟩ ?turn ?fin
  case turn =>
    rintro i ys nw v hi ⟨rfl, hs⟩ hv
    obtain ⟨q, y, z, t1, t2, rfl, hp1, hq⟩ := hp.2 i v (by simpa using hv)
    simp only [hdrLed, List.cons_append, List.nil_append]
    refine ⟨q, _, _, _, _, rfl, by k_mem, rfl, rfl, ?_⟩
    intro I oI C oC D m₂ h tk E' hns hm hm2 F9 N9 off hne
    k_steps
    refine ⟨h, tk, _, rfl, F9, N9, off, .inr ⟨_, by k_mem, rfl, _, rfl⟩, rfl, ?_⟩
    rw [List.take_add_one, hp1, List.map_append]
    exact hs.append' (.cons _ _ .nil)
  case fin =>
    rintro ys nw ⟨rfl, hs⟩
    rw [List.size_toArray, hp.1, List.take_length] at hs
    simp only [hdrLed, List.cons_append, List.nil_append]
    intro D h tk F9 N9 off9
    have fr9 := fresh_of kg N9 off9
    k_steps
    rename Fr g _ _ _ => Fg
    rename News _ _ _ _ => N8
    refine hret _ _ _ _ (fun b o e h1 h2 => Fg.keep b o (kg b o e ?_)) fr9 (by assumption) N8 hs
    simp only [HdrP.addrs, List.mem_cons, List.not_mem_nil, or_false, not_or, List.map_cons] at h1 ⊢
    exact ⟨h1.1, h1.2.1, h1.2.2, h2⟩
set_option maxHeartbeats 0 in
theorem hdr_get_all {P : HdrP} {rs : List Value} {n : Nat} {y : List Nat} {ty : Tok} {ps : List (List Nat × List Nat)} {TL : List (Addr × Obj)} (B : Below A₀ base outer h₀) (F : Fr h₀ L s.heap m) (X : (hd1.heap_1 w.params).In h₀) (T : Top p loose mean mg mb h₀) (hd : dp + 10 < recursionLimit) (hu : un + 100 < cLine) (O : P.Ok) (N : News h₀ L s.heap (hdrLed w P rs n ++ TL)) (hp : Prs TL rs ps) (hps : ∀ q z z2 t1 t2, (q, pairO z z2 t1 t2) ∈ TL → z.all reOk = true ∧ z.length < 1000) (hr : rs.length < 1000) (hy : y.all reOk = true) (ly : y.length < 1000)
    (hret : ∀ (q : Nat) vs h' tk', (∀ (b : Nat) o, s.heap.get? b = some o → b ∉ P.addrs → b ∉ TL.map (·.1) → h'.get? b = some o) → (∀ (b : Nat) o, s.heap.get? b = some o → b ≠ q) → Fr h₀ L h' m → News h₀ L h' ((q, LCg.lst vs) :: hdrLed w P rs n ++ TL) → StrsAre vs ((ps.filter fun p => decide (p.1.map lowC = y.map lowC)).map fun p => tx p.2) → R (.ok (.ret (.ref q))) { s with heap := h', toks := tk' }) :
    codeAny (model PP w) (ktrTop dp un gd cn ⟨.function, nm, ig, ic, mo⟩ L a ccd cl outer) (.call (.ref 170) ⟨[.ref P.x, .str (tx y) ty], []⟩) R s := by
  obtain ⟨o1, o2⟩ := O
  have hyl := low_ok hy
  have lyl : (y.map lowC).length < 1000 := by rw [List.length_map]; exact ly
  simp only [hdrLed, List.cons_append, List.nil_append] at N
  k_dflt (refine' codeKC ?k1 ?k2 ?k3 ?k4 ?k5 ?kA ?kF ?kK ?k6 ?k7 ?k8 ?k9 ?kB ?kD ?_ ?c2 ?c3 ?c4; (case kA => exact rfl); (case kF => exact rfl); (case kK => exact rfl); (case k1 => exact B); (case k2 => exact F); (case k3 => exact X); (case k4 => exact N); (case k5 => exact T); (case k6 => k_is); (case k7 => k_is); (case k8 => k_room); (case k9 => first | exact BindsTo.of_eq rfl | exact binds_K (by k_in) rfl (by k_is) rfl rfl rfl); (case kB => exact rfl); (case kD => decide +kernel); (case c2 => exact rfl); (case c3 => exact rfl); (case c4 => exact rfl); k_whole; intro g L' h' tk' cells kg kl FG F' N' Y' B' X' T' l1; (try k_lt l1); k_cells Y'; (try simp only [List.cons_append, List.nil_append] at N'); (have codeHd := codeHd_of_K (c := 241) (P := 237) X' (by kernel_rfl)); (try dsimp only); (try k_lift B'); (try k_fold))
  have hT := allLt_mem (show AllLt L' TL from by simp only [l1])
  k_steps
  unfold Stop
  rename Fr g L' _ _ => F1
  rename News g L' _ _ => N1
  k_dflt (refine' LCt.ListComp_T ?c0 ?c1 ?c2 ?c3 ?c4 ?c5 ?c8 ?c7; (case c0 => exact F1); (case c1 => rfl); (case c2 => decide); (case c3 => rfl); (case c4 => decide); (case c5 => rfl); (case c7 => intro _; rfl))
  k_steps
  rename Obj => o9
  rename Fr g L' _ _ => F2
  rename News g L' _ _ => N2
  refine LCt.CompSrcT.ledger rfl F2 N2 (by k_mem) (by rw [List.size_toArray]; have := PySem.sizeLine_eq; omega) fun g2 => ?_
  refine restT_inv (fun i ys nw => nw = (L' + 1, o9) :: (hdrLed w P rs n ++ TL) ∧ StrsAre ys (((ps.take i).filter fun p => decide (p.1.map lowC = y.map lowC)).map fun p => tx p.2)) ⟨rfl, .nil⟩ ?turn ?fin
  case turn =>
    rintro i ys nw v I oI C oC D m₂ h tk E' hi ⟨rfl, hs⟩ hv hns hm F9 N9 off hne
    obtain ⟨q, z, z2, t1, t2, rfl, hp1, hq⟩ := hp.2 i v (by simpa using hv)
    simp only [hdrLed, List.cons_append, List.nil_append] at N9 ⊢
    obtain ⟨hz1, hz2⟩ := hps q z z2 t1 t2 hq
    have hzl := low_ok hz1
    k_steps
    · have hc : z.map lowC = y.map lowC := tx_inj (beq_iff_eq.mp (by assumption))
      refine ⟨h, _, _, rfl, F9, N9, off, .inr ⟨_, by k_mem, rfl, _, rfl⟩, rfl, ?_⟩
      rw [List.take_add_one, hp1, List.filter_append, List.map_append]
      refine hs.append' ?_
      rw [show (some (z, z2)).toList = [(z, z2)] from rfl, List.filter_cons_of_pos (by simpa using hc)]
      exact .cons _ _ .nil
    · have hc : ¬ z.map lowC = y.map lowC := fun e => beq_eq_false_iff_ne.mp (by assumption) (congrArg tx e)
      refine ⟨h, _, _, rfl, F9, N9, off, .inr ⟨_, by k_mem, rfl, _, rfl⟩, rfl, ?_⟩
      rw [List.take_add_one, hp1, List.filter_append, show (some (z, z2)).toList = [(z, z2)] from rfl, List.filter_cons_of_neg (by simpa using hc), List.filter_nil, List.append_nil]
      exact hs
  case fin =>
    rintro ys nw ⟨rfl, hs⟩
    rw [List.size_toArray, hp.1, List.take_length] at hs
    simp only [hdrLed, List.cons_append, List.nil_append]
    intro D h tk F9 N9 off9
    have fr9 := fresh_of (fun b o e hb => kg b o e hb) N9 off9.2
    k_steps
    rename Fr g _ _ _ => Fg
    rename News _ _ _ _ => N8
    refine hret _ _ _ _ (fun b o e h1 h2 => Fg.keep b o (kg b o e ?_)) fr9 (by assumption) (fun p hp => N8 p (by rcases List.mem_cons.mp hp with h | h; exact List.mem_cons.mpr (.inl h); exact List.mem_cons_of_mem _ (List.mem_cons_of_mem _ h))) hs
    simp only [HdrP.addrs, List.mem_cons, List.not_mem_nil, or_false, not_or, List.map_cons] at h1 ⊢
    exact ⟨h1.1, h1.2.1, h1.2.2, h2⟩
end
end
section
-- a part of a ledger, and a contract's part put back (the kit's k_upd, for these goals)
local macro_rules | `(tactic| k_upd) => `(tactic| first
  | exact subs_nil
  | (refine' subs_cons ?ca ?cb; (case ca => k_mem); (case cb => k_upd))
  | exact Repl.nil
  | (refine' Repl.hit ?ca; (case ca => k_upd))
  | (refine' Repl.miss ?ca ?cb; (case ca => first | (refine AllNe.notin ?_; assumption) | (refine AllNe.notin (LexP.Ok.hi (by assumption) (by omega))) | (refine AllNe.notin ?_; simp only [AllNe, and_true]; omega)); (case cb => k_upd))
  | fail "k_upd")
local macro_rules | `(tactic| k_enter) => `(tactic| ((first
  | ((with_reducible show codeAny _ _ (Code.call (Value.ref 80) _) _ _); k_dflt (refine' tok_push (by k_asm) (by k_asm) (by k_asm) (by k_asm) (by first | decide | exact room1 (by assumption) rfl | fail "hd") (by first | decide | exact unit1 3 (by assumption) rfl (by decide) | fail "hu") (by assumption) (by exact news_sub (by k_asm) (by k_upd)) (by ktr_rel) ?_))
  | ((with_reducible show codeAny _ _ (Code.call (Value.ref 73) _) _ _); k_dflt (refine' tok_pop (by k_asm) (by k_asm) (by k_asm) (by k_asm) (by first | decide | exact room1 (by assumption) rfl | fail "hd") (by first | decide | exact unit1 3 (by assumption) rfl (by decide) | fail "hu") (by assumption) (by exact news_sub (by k_asm) (by k_upd)) (by ktr_rel) ?_))); intro pe' h' tk' kp' F9' N9'; k_dflt (refine' repl_go kp' N9' (by k_asm) (by k_upd) ?_); clear kp' N9'; intro N9'; (try simp only [List.cons_append, List.nil_append, List.append_eq] at N9'); (try k_sweep); (try dsimp only)))
local macro_rules | `(tactic| k_ne) => `(tactic| (refine neN ?_; (try dsimp only); first
  | with_reducible assumption
  | (refine Ne.symm ?_; with_reducible assumption)
  | (refine neP1 ?_; with_reducible assumption)
  | (refine neP2 ?_; with_reducible assumption)
  | (refine neP3 ?_; with_reducible assumption)
  | (refine neP4 ?_; with_reducible assumption)
  | (refine neP5 ?_; with_reducible assumption)
  | (refine neP6 ?_; with_reducible assumption)
  | (refine neP7 ?_; with_reducible assumption)
  | (refine neP8 ?_; with_reducible assumption)
  | (refine neP9 ?_; with_reducible assumption)
  | (refine neH1 ?_; with_reducible assumption)
  | (refine neH2 ?_; with_reducible assumption)
  | (refine neH3 ?_; with_reducible assumption)
  | lia))
theorem cx11 {p : Program} {w : World} {A : Around} {Q : Value → Shared → Prop} {E : Value → Shared → Prop} {s : Shared} (h : wpAny (model p w) A (pyIter Value.none) Q E s) : wpAny (model p w) A (pyIter Value.none) Q E s := by first | (walk1; fail "x") | exact h
section
section
variable {w : World} {dp un : Nat} {gd : Option (List Code)} {cn : Str} {nm : List (Str × NameKind)} {ig ic : Bool} {mo : List (Str × Const)} {a : Addr} {ccd : Value} {cl : List (Str × Addr)} {outer : List Env} {A₀ : Around} {base h₀ : Heap} {L : Addr} {m : Str → Option Value} {news : List (Addr × Obj)} {s : Shared} {p : Program} {loose : List Str} {mean : ExcName → Option Value} {mg mb : Str → Option Value} {R : Result → Shared → Prop}
local macro_rules | `(tactic| omega) => `(tactic| omega +splitDisjunctions)
local macro_rules | `(tactic| walk_at "pyIter ref") => `(tactic| (k_here; (with_reducible show wpAny _ _ (pyIter (Value.ref _)) (fun it s₂ => LoopAtV _ _ _ _ _ _ _ _ _ it s₂) _ _); (first | (rename IsRange _ _ 0 2 1 _ _ _ => r9) | (rename IsRange _ _ 0 1 1 _ _ _ => r9)); refine Stop.out ?_))
local macro_rules | `(tactic| walk_at "UnrEnd") => `(tactic| ((with_reducible show UnrEnd _ _ _ _ _ _ _); (first | (rename @LT.lt Nat _ _ 2 => z9) | (rename @LT.lt Nat _ _ 1 => z9)); refine Stop.out ?_))
set_option maxHeartbeats 0 in
theorem sort_line {P : LexP} {ln : Int} {tl : Tok} {sg : List Value} {pe le th n3 : Nat} {x y z : List Nat} {t1 t2 t3 : Tok} (B : Below A₀ base outer h₀) (F : Fr h₀ L s.heap m) (X : (hd1.heap_1 w.params).In h₀) (T : Top p loose mean mg mb h₀) (hd : dp + 20 < recursionLimit) (hu : un + 200 < cLine) (O : P.Ok) (N : News h₀ L s.heap ((th, listOf #[.str (tx x) t1, .str (tx y) t2, .str (tx z) t3] n3) :: lexLed w P ln tl [] pe sg le)) (h9 : AllNe th P.addrs)
    (hne : x ≠ y ∧ x ≠ z ∧ y ≠ z) (hret : ∀ (rw : Nat) (r0 r1 r2 : List Nat) (u0 u1 u2 : Tok) nr pe' h' tk', News h₀ L h' ((rw, listOf #[.str (tx r0) u0, .str (tx r1) u1, .str (tx r2) u2] nr) :: (th, listOf #[.str (tx x) t1, .str (tx y) t2, .str (tx z) t3] n3) :: lexLed w P ln tl [] pe' sg le) → Fr h₀ L h' m →
      (∀ (b : Nat) o, s.heap.get? b = some o → b ∉ th :: P.addrs → h'.get? b = some o) → (∀ (b : Nat) o, s.heap.get? b = some o → b ≠ rw) → r0 < r1 → r1 < r2 → [r0, r1, r2].Perm [x, y, z] → R (.ok (.ret (.ref rw))) { s with heap := h', toks := tk' }) :
    codeAny (model PP w) (ktrTop dp un gd cn ⟨.function, nm, ig, ic, mo⟩ L a ccd cl outer) (.call (.ref 254) ⟨[.ref P.x2, .ref th], []⟩) R s := by
  have O' := O
  obtain ⟨ocd, ocf, ovq, oord⟩ := O
  unfold lexLed at N
  have h9' := h9
  simp only [LexP.addrs, AllNe, and_true] at h9
  k_dflt (refine' codeK ?k1 ?k2 ?k3 ?k4 ?k5 ?kA ?kF ?kK ?k6 ?k7 ?k8 ?k9 ?kB ?_ ?c2 ?c3 ?c4 ?c5; (case kA => exact rfl); (case kF => exact rfl); (case kK => exact rfl); (case k1 => exact B); (case k2 => exact F); (case k3 => exact X); (case k4 => exact N); (case k5 => exact T); (case k6 => k_is); (case k7 => k_is); (case k8 => k_room); (case k9 => first | exact BindsTo.of_eq rfl | exact binds_K (by k_in) rfl (by k_is) rfl rfl rfl); (case c5 => decide); (case kB => exact locs rfl); (case c2 => exact rfl); (case c3 => exact rfl); (case c4 => exact rfl); k_whole; intro g L' h' kg kl l1 FG F' N' B' X' T'; (try k_lt l1); (have codeHd := codeHd_of_K (c := 241) (P := 237) X' (by kernel_rfl)); (try dsimp only); (try k_lift B'); (try k_fold))
  k_steps
  unfold Stop
  rename IsRange _ _ 0 2 1 _ _ _ => r9
  rename Fr g L' _ _ => F1
  rename News _ _ _ _ => N1
  obtain ⟨i1, o1, D1, b1, q1, p1, e1, e2, e3, e4, e5, e6⟩ := names3 N1
  rw [← e4] at N1
  clear e6 p1
  subst e1 e2 e3 e5
  refine iter_rangeUnr (n := 2) rfl r9 (by decide) (by decide) F1 N1 fun i' l2 => ?_
  k_lt l2
  clear r9
  obtain ⟨IvS, IvSi, IvSe⟩ : ∃ IvS : Nat → (Str → Option Value) → List (Addr × Obj) → Prop, (∀ i m' nw, (∃ (a b c : List Nat) (ta tb tc : Tok) (pe' : Nat), m' (Str.ofString "least") = some (.str (tx a) ta) ∧ m' (Str.ofString "lexer") = some (.ref P.x2) ∧ m' (Str.ofString "row") = some (.ref q1) ∧ [a, b, c].Perm [x, y, z] ∧ (1 ≤ i → a < c) ∧ (2 ≤ i → a < b) ∧ nw = (i1, o1) :: (D1, b1) :: (q1, W.listOf #[] 0) :: (th, listOf #[.str (tx x) t1, .str (tx y) t2, .str (tx z) t3] n3) :: lexLed w P ln tl [.str (tx b) tb, .str (tx c) tc] pe' sg le) → IvS i m' nw) ∧ (∀ i m' nw (G : Prop), IvS i m' nw → (∀ (a b c : List Nat) (ta tb tc : Tok) (pe' : Nat), (m' (Str.ofString "least") = some (.str (tx a) ta)) → (m' (Str.ofString "lexer") = some (.ref P.x2)) → (m' (Str.ofString "row") = some (.ref q1)) → ([a, b, c].Perm [x, y, z]) → ((1 ≤ i → a < c)) → ((2 ≤ i → a < b)) → (nw = (i1, o1) :: (D1, b1) :: (q1, W.listOf #[] 0) :: (th, listOf #[.str (tx x) t1, .str (tx y) t2, .str (tx z) t3] n3) :: lexLed w P ln tl [.str (tx b) tb, .str (tx c) tc] pe' sg le) → G) → G) := ⟨fun i m' nw => ∃ (a b c : List Nat) (ta tb tc : Tok) (pe' : Nat), m' (Str.ofString "least") = some (.str (tx a) ta) ∧ m' (Str.ofString "lexer") = some (.ref P.x2) ∧ m' (Str.ofString "row") = some (.ref q1) ∧ [a, b, c].Perm [x, y, z] ∧ (1 ≤ i → a < c) ∧ (2 ≤ i → a < b) ∧ nw = (i1, o1) :: (D1, b1) :: (q1, W.listOf #[] 0) :: (th, listOf #[.str (tx x) t1, .str (tx y) t2, .str (tx z) t3] n3) :: lexLed w P ln tl [.str (tx b) tb, .str (tx c) tc] pe' sg le, fun _ _ _ h => h, fun _ _ _ _ h k => by obtain ⟨a, b, c, ta, tb, tc, pe', z0, z1, z2, z3, z4, z5, z6⟩ := h; exact k a b c ta tb tc pe' z0 z1 z2 z3 z4 z5 z6⟩
  refine range_inv IvS (IvSi _ _ _ ⟨x, y, z, _, _, _, _, rfl, rfl, rfl, .refl _, fun h => absurd h (by decide), fun h => absurd h (by decide), rfl⟩) ?turn ?fin
  case turn =>
    rintro i t m' nw h tk hi hv9 F9 N9
    refine IvSe _ _ _ _ hv9 fun a b c ta tb tc pe' e1 e2 e3 hp h1 h2 en => ?_
    clear hv9
    subst en
    unfold lexLed at N9
    k_steps
    all_goals unfold Stop
    · rename News _ _ _ _ => N8
      have ha := sc_lt.mp (by assumption)
      refine UnrEnd.intro3 (by assumption) N8 ((i1, o1) :: (D1, b1) :: (q1, W.listOf #[] 0) :: (th, listOf #[.str (tx x) t1, .str (tx y) t2, .str (tx z) t3] n3) :: lexLed w P ln tl [.str (tx c) tc, .str (tx a) ta] _ sg le) (by k_mem) (by k_subL) (by k_offL)
        (IvSi _ _ _ ⟨b, c, a, _, _, _, _, by ktr_unf, by ktr_unf, by ktr_unf, ((List.perm_append_comm (l₁ := [a]) (l₂ := [b, c])).symm).trans hp, fun _ => ha, fun h => List.lt_trans ha (h1 (by omega)), rfl⟩)
    · rename News _ _ _ _ => N8
      have nd : [a, b, c].Nodup := hp.nodup_iff.mpr (by simp [hne.1, hne.2.1, hne.2.2])
      have ha : a < b := lt_of_not (x := b) (y := a) (by rintro rfl; simp at nd) (fun h => absurd (sc_lt.mpr h) (by assumption))
      refine UnrEnd.intro3 (by assumption) N8 ((i1, o1) :: (D1, b1) :: (q1, W.listOf #[] 0) :: (th, listOf #[.str (tx x) t1, .str (tx y) t2, .str (tx z) t3] n3) :: lexLed w P ln tl [.str (tx c) tc, .str (tx b) tb] _ sg le) (by k_mem) (by k_subL) (by k_offL)
        (IvSi _ _ _ ⟨a, c, b, _, _, _, _, by ktr_unf, by ktr_unf, by ktr_unf, (List.Perm.cons a (List.Perm.swap b c [])).trans hp, fun _ => ha, fun h => h1 (by omega), rfl⟩)
  case fin =>
    subst e4
    rintro m' nw h tk hv9 F9 N9
    refine IvSe _ _ _ _ hv9 fun a b c ta tb tc pe' e1 e2 e3 hp h1 h2 en => ?_
    clear hv9 IvSe IvSi IvS
    subst en
    unfold lexLed at N9
    have ac := h1 (by decide)
    have ab := h2 (by decide)
    have hq : q1 ∉ ([th, P.x2, P.d2, P.pb2, P.f, P.c, P.x1, P.d1, P.ls, P.cs] : List Nat) := by
      refine AllNe.notin ?_
      simp only [AllNe, and_true]
      omega
    have fr : ∀ (b : Nat) o, s.heap.get? b = some o → b ≠ q1 := fun b o e e' => by
      subst e'
      have := kg _ _ e hq
      rw [(N9 _ (show (b, W.listOf _ _) ∈ _ by k_mem)).2.2] at this
      cases this
    k_steps
    unfold Stop
    rename IsRange _ _ 0 1 1 _ _ _ => r9
    rename Fr g L' _ _ => F5
    rename News _ _ _ _ => N5
    obtain ⟨z1, o5, z2, b5, z4, z5, y1, y2, y3, y4, y5, y6⟩ := names3 N5
    rw [← y4] at N5
    clear y6 z5 y1 z1 y3 z2 y5 z4
    subst y2
    refine iter_rangeUnr (n := 1) rfl r9 (by decide) (by decide) F5 N5 fun i2 l4 => ?_
    k_lt l4
    clear r9
    obtain ⟨IvT, IvTi, IvTe⟩ : ∃ IvT : Nat → (Str → Option Value) → List (Addr × Obj) → Prop, (∀ i m' nw, (∃ (p q : List Nat) (tp tq : Tok) (pe' : Nat), m' (Str.ofString "least") = some (.str (tx p) tp) ∧ m' (Str.ofString "lexer") = some (.ref P.x2) ∧ m' (Str.ofString "row") = some (.ref q1) ∧ [p, q].Perm [b, c] ∧ (1 ≤ i → p < q) ∧ nw = (i1, o5) :: (D1, b5) :: (q1, W.listOf #[.str (tx a) ta] (0 + 1)) :: (th, listOf #[.str (tx x) t1, .str (tx y) t2, .str (tx z) t3] n3) :: lexLed w P ln tl [.str (tx q) tq] pe' sg le) → IvT i m' nw) ∧ (∀ i m' nw (G : Prop), IvT i m' nw → (∀ (p q : List Nat) (tp tq : Tok) (pe' : Nat), (m' (Str.ofString "least") = some (.str (tx p) tp)) → (m' (Str.ofString "lexer") = some (.ref P.x2)) → (m' (Str.ofString "row") = some (.ref q1)) → ([p, q].Perm [b, c]) → ((1 ≤ i → p < q)) → (nw = (i1, o5) :: (D1, b5) :: (q1, W.listOf #[.str (tx a) ta] (0 + 1)) :: (th, listOf #[.str (tx x) t1, .str (tx y) t2, .str (tx z) t3] n3) :: lexLed w P ln tl [.str (tx q) tq] pe' sg le) → G) → G) := ⟨fun i m' nw => ∃ (p q : List Nat) (tp tq : Tok) (pe' : Nat), m' (Str.ofString "least") = some (.str (tx p) tp) ∧ m' (Str.ofString "lexer") = some (.ref P.x2) ∧ m' (Str.ofString "row") = some (.ref q1) ∧ [p, q].Perm [b, c] ∧ (1 ≤ i → p < q) ∧ nw = (i1, o5) :: (D1, b5) :: (q1, W.listOf #[.str (tx a) ta] (0 + 1)) :: (th, listOf #[.str (tx x) t1, .str (tx y) t2, .str (tx z) t3] n3) :: lexLed w P ln tl [.str (tx q) tq] pe' sg le, fun _ _ _ h => h, fun _ _ _ _ h k => by obtain ⟨p, q, tp, tq, pe', z0, z1, z2, z3, z4, z5⟩ := h; exact k p q tp tq pe' z0 z1 z2 z3 z4 z5⟩
    refine range_inv IvT (IvTi _ _ _ ⟨b, c, _, _, _, by ktr_unf, by ktr_unf, by ktr_unf, .refl _, fun h => absurd h (by decide), rfl⟩) ?turn2 ?fin2
    case turn2 =>
      rintro i t m2 nw h2 tk2 hi hv9 F9 N9
      refine IvTe _ _ _ _ hv9 fun p q tp tq pe2 e1 e2 e3 hpq hlt en => ?_
      clear hv9
      subst en
      unfold lexLed at N9
      k_steps
      all_goals unfold Stop
      · rename News _ _ _ _ => N8
        have ha := sc_lt.mp (by assumption)
        exact UnrEnd.intro3 (by assumption) N8 ((i1, o5) :: (D1, b5) :: (q1, W.listOf #[.str (tx a) ta] (0 + 1)) :: (th, listOf #[.str (tx x) t1, .str (tx y) t2, .str (tx z) t3] n3) :: lexLed w P ln tl [.str (tx p) tp] _ sg le) (by k_mem) (by k_subL) (by k_offL)
          (IvTi _ _ _ ⟨q, p, _, _, _, by ktr_unf, by ktr_unf, by ktr_unf, (List.Perm.swap p q []).trans hpq, fun _ => ha, rfl⟩)
      · rename News _ _ _ _ => N8
        have nd : [p, q].Nodup := hpq.nodup_iff.mpr (List.Nodup.sublist (List.sublist_cons_self a [b, c]) (hp.nodup_iff.mpr (by simp [hne.1, hne.2.1, hne.2.2])))
        have ha : p < q := lt_of_not (x := q) (y := p) (by rintro rfl; simp at nd) (fun h => absurd (sc_lt.mpr h) (by assumption))
        exact UnrEnd.intro3 (by assumption) N8 ((i1, o5) :: (D1, b5) :: (q1, W.listOf #[.str (tx a) ta] (0 + 1)) :: (th, listOf #[.str (tx x) t1, .str (tx y) t2, .str (tx z) t3] n3) :: lexLed w P ln tl [.str (tx q) tq] _ sg le) (by k_mem) (by k_subL) (by k_offL)
          (IvTi _ _ _ ⟨p, q, _, _, _, by ktr_unf, by ktr_unf, by ktr_unf, hpq, fun _ => ha, rfl⟩)
    case fin2 =>
      subst y4
      rintro m2 nw h2 tk2 hv9 F9 N9
      refine IvTe _ _ _ _ hv9 fun p q tp tq pe2 e1 e2 e3 hpq hlt en => ?_
      clear hv9 IvTe IvTi IvT
      subst en
      unfold lexLed at N9
      have hap : a < p := by
        rcases List.mem_cons.mp (hpq.mem_iff.mp List.mem_cons_self) with e | e
        · rw [e]; exact ab
        · rw [List.mem_singleton.mp e]; exact ac
      k_steps

      rename Fr g _ _ _ => Fg
      rename News _ _ _ _ => N8
      exact hret q1 a p q _ _ _ _ _ _ _ (news_sub N8 (by k_upd)) (by assumption) (fun b o e hb => Fg.keep b o (kg b o e hb)) fr hap (hlt (by decide)) ((List.Perm.cons a hpq).trans hp)
end
end
section
local macro_rules | `(tactic| kct_strs) => `(tactic| first | assumption | exact Txs.nil | (refine Txs.cons ?_; kct_strs) | exact Txs.append (by kct_strs) (by kct_strs) | exact Txs.reverse (by kct_strs))
local macro_rules | `(tactic| walk_at "binaryOp Add ref ref") => `(tactic| (k_here; k_dflt (refine' addL_K (by k_asm) (by k_asm) (by kmk_list) (by kmk_list) ?_ (by ktr_rel)); intro D' h' F' N' l1; (try k_lt l1); (try k_sweep)))
local macro_rules | `(tactic| walk_at "subscriptTail Name Slice ref ref") => `(tactic| (k_here; (with_reducible show wpAny _ _ (subscriptTail _ (PySem.Expr.Slice none none (some _) _) (Value.ref _) (Value.ref _)) _ _ _); k_dflt (refine' revS_K (by k_asm) (by k_asm) (by kmk_list) (by exact IsPart.int _ _) ?_ (by with_unfolding_all rfl) (by intro _; with_unfolding_all rfl) (by ktr_rel)); intro D' h' F' N' l1; (try k_lt l1); (try k_sweep)))
local macro_rules | `(tactic| l_idx) => `(tactic| first | assumption | omega)
local macro_rules | `(tactic| walk_at "subscriptTail Name BinOp ref int") => `(tactic| (k_here; k_dflt (refine' itemS_K (by kmk_list) (by kct_strs) (by l_idx) (by l_idx) (by ktr_rel) ?_ (by with_unfolding_all rfl) (by intro _; with_unfolding_all rfl)); intro t'))
local macro_rules | `(tactic| walk_at "subscriptTail Name Name ref int") => `(tactic| (k_here; k_dflt (refine' itemS_K (by kmk_list) (by kct_strs) (by l_idx) (by l_idx) (by ktr_rel) ?_ (by with_unfolding_all rfl) (by intro _; with_unfolding_all rfl)); intro t'))
local macro_rules | `(tactic| walk_at "call builtin:list.index") => `(tactic| (k_here; k_dflt (refine' indexS_K (by kmk_list) (by kct_strs) (by first | assumption | decide | ktr_rel) (by first | assumption | decide) ?_); intro t' k'))
local macro_rules | `(tactic| walk_at "call builtin:list.count") => `(tactic| (k_here; k_dflt (refine' countS_K (by kmk_list) (by kct_strs) ?_); intro t' k'))
local macro_rules | `(tactic| walk_at "exec Assign cons ListComp") => `(tactic| (k_here; refine Stop.out ?_))
local macro_rules | `(tactic| walk_at "subscriptTail Name Slice str ref") => `(tactic| (k_here; (with_reducible show wpAny _ _ (subscriptTail _ (Expr.Slice none (some _) none _) _ _) _ _ _); k_dflt (refine' to1_K (s := ⟨_, _, _, _, _⟩) (by k_asm) (by k_asm) ?_ (by with_unfolding_all rfl) (by intro _; with_unfolding_all rfl) (by ktr_rel)); intro h' t' k' F' N'; (try k_sweep)))
local macro_rules | `(tactic| walk_at "subscriptTail Name Slice str ref") => `(tactic| (k_here; (with_reducible show wpAny _ _ (subscriptTail _ (Expr.Slice (some _) none none _) _ _) _ _ _); k_dflt (refine' from1_K (s := ⟨_, _, _, _, _⟩) (by k_asm) (by k_asm) ?_ (by with_unfolding_all rfl) (by intro _; with_unfolding_all rfl) (by ktr_rel)); intro h' t' k' F' N'; (try k_sweep)))
local macro_rules | `(tactic| walk_at "call builtin:len") => `(tactic| (k_here; k_dflt (refine' lenL_K (by kmk_list) (by ktr_rel) ?_); intro t' tk'))
theorem cx12 {p : Program} {w : World} {A : Around} {Q : Value → Shared → Prop} {E : Value → Shared → Prop} {s : Shared} (h : wpAny (model p w) A (pyIter Value.none) Q E s) : wpAny (model p w) A (pyIter Value.none) Q E s := by first | (walk1; fail "x") | exact h
section
noncomputable def laidP (key : List Nat) (rs : List (List Nat)) (st : Int) : List (List Nat) :=
  let mid := rs.getD ((st - 1).fdiv 2).toNat []
  let oth := rs.filter fun y => decide (y ≠ mid)
  key :: mid :: (if st.fmod 2 = 0 then oth.reverse else oth)
section
variable {w : World} {dp un : Nat} {gd : Option (List Code)} {cn : Str} {nm : List (Str × NameKind)} {ig ic : Bool} {mo : List (Str × Const)} {a : Addr} {ccd : Value} {cl : List (Str × Addr)} {outer : List Env} {A₀ : Around} {base h₀ : Heap} {L : Addr} {m : Str → Option Value} {news : List (Addr × Obj)} {s : Shared} {p : Program} {loose : List Str} {mean : ExcName → Option Value} {mg mb : Str → Option Value} {R : Result → Shared → Prop}
set_option maxHeartbeats 0 in
theorem law_laid {rw n : Nat} {vs : List Value} {rs : List (List Nat)} {key : List Nat} {tk' ts : Tok} {st : Int} (B : Below A₀ base outer h₀) (F : Fr h₀ L s.heap m) (X : (hd1.heap_1 w.params).In h₀) (T : Top p loose mean mg mb h₀) (hd : dp + 10 < recursionLimit) (hu : un + 100 < cLine) (N : News h₀ L s.heap [(rw, listOf vs.toArray n)]) (hv : Txs vs rs) (h3 : rs.length = 3) (h0 : 0 ≤ (st - 1).fdiv 2) (h1 : (st - 1).fdiv 2 < 3)
    (hret : ∀ (q : Nat) us n' h' tk', (∀ (b : Nat) o, s.heap.get? b = some o → h'.get? b = some o) → (∀ (b : Nat) o, s.heap.get? b = some o → b ≠ q) → Fr h₀ L h' m → News h₀ L h' [(q, listOf us.toArray n')] → Txs us (laidP key rs st) → R (.ok (.ret (.ref q))) { s with heap := h', toks := tk' }) :
    codeAny (model PP w) (ktrTop dp un gd cn ⟨.function, nm, ig, ic, mo⟩ L a ccd cl outer) (.call (.ref 259) ⟨[.str (tx key) tk', .ref rw, .int st ts], []⟩) R s := by
  have hl3 : vs.length = 3 := hv.length.trans h3
  have h1' : (st - 1).fdiv 2 < rs.length := by omega
  have hz3 : rs.length ≤ sizeLine := by rw [h3]; decide
  k_dflt (refine' codeKC ?k1 ?k2 ?k3 ?k4 ?k5 ?kA ?kF ?kK ?k6 ?k7 ?k8 ?k9 ?kB ?kD ?_ ?c2 ?c3 ?c4; (case kA => exact rfl); (case kF => exact rfl); (case kK => exact rfl); (case k1 => exact B); (case k2 => exact F); (case k3 => exact X); (case k4 => exact N); (case k5 => exact T); (case k6 => k_is); (case k7 => k_is); (case k8 => k_room); (case k9 => first | exact BindsTo.of_eq rfl | exact binds_K (by k_in) rfl (by k_is) rfl rfl rfl); (case kB => exact rfl); (case kD => decide +kernel); (case c2 => exact rfl); (case c3 => exact rfl); (case c4 => exact rfl); k_whole; intro g L' h' tk' cells kg kl FG F' N' Y' B' X' T' l1; (try k_lt l1); k_cells Y'; (try simp only [List.cons_append, List.nil_append] at N'); (have codeHd := codeHd_of_K (c := 241) (P := 237) X' (by kernel_rfl)); (try dsimp only); (try k_lift B'); (try k_fold))
  k_steps
  unfold Stop
  rename Fr g L' _ _ => F1
  rename News g L' _ _ => N1
  obtain ⟨_, o9, e1, e2⟩ := names1 N1
  clear e1
  subst e2
  k_dflt (refine' LCt.Assign_ListComp_T ?c0 ?cL ?cW ?c1 ?c2 ?c3 ?c4 ?c5 ?cY ?cP ?c8 ?c7; (case c0 => exact F1); (case cL => rfl); (case cW => with_unfolding_all rfl); (case c1 => rfl); (case c2 => decide); (case c3 => rfl); (case c4 => decide); (case c5 => rfl); (case cY => rfl); (case cP => rfl); (case c7 => intro _; rfl))
  k_steps
  refine LCt.CompSrcT.ledger rfl F1 N1 (by k_mem) (by rw [List.size_toArray]; have := PySem.sizeLine_eq; omega) fun g2 => ?_
  refine restT_inv (fun i ys nw => nw = [(L' + 1, o9), (rw, listOf vs.toArray n)] ∧ Txs ys ((rs.take i).filter fun y => decide (y ≠ rs.getD ((st - 1).fdiv 2).toNat []))) ⟨rfl, Txs.nil⟩ ?turn ?fin
  case turn =>
    rintro i ys nw v I oI C oC D m₂ h tk E' hi ⟨rfl, hs⟩ hv' hns hm F9 N9 off hne
    obtain ⟨z, t1, hz, rfl⟩ := hv.at (show vs[i]? = some v by simpa using hv')
    k_steps
    · have hc : z ≠ rs.getD ((st - 1).fdiv 2).toNat [] := fun e => by subst e; simp_all
      refine ⟨h, _, _, rfl, F9, N9, off, .inr ⟨_, by k_mem, rfl, _, rfl⟩, rfl, ?_⟩
      rw [List.take_add_one, hz, List.filter_append]
      refine hs.append ?_
      rw [show (some z).toList = [z] from rfl, List.filter_cons_of_pos (by simpa using hc)]
      exact Txs.cons Txs.nil
    · have hc : z = rs.getD ((st - 1).fdiv 2).toNat [] := by
        apply Decidable.byContradiction
        intro hn
        have hn' : tx z ≠ tx (rs.getD ((st - 1).fdiv 2).toNat []) := fun e => hn (tx_inj e)
        simp_all
      refine ⟨h, _, _, rfl, F9, N9, off, .inr ⟨_, by k_mem, rfl, _, rfl⟩, rfl, ?_⟩
      rw [List.take_add_one, hz, List.filter_append, show (some z).toList = [z] from rfl, List.filter_cons_of_neg (by simpa using hc), List.filter_nil, List.append_nil]
      exact hs
  case fin =>
    rintro ys nw ⟨rfl, hs⟩
    rw [List.size_toArray, hv.length, List.take_length] at hs
    intro D h tk F9 N9 off9
    have fr9 := fresh_of (fun b o e hb => kg b o e hb) N9 off9.2
    have hly : ys.length ≤ 3 := by rw [hs.length]; exact Nat.le_trans (List.length_filter_le _ _) (Nat.le_of_eq h3)
    have hsr := hs.reverse
    have N9 : News g L' h ((D, listOf ys.toArray ys.length) :: [(L' + 1, o9), (rw, listOf vs.toArray n)]) := N9
    k_steps
    all_goals (rename Fr g _ _ _ => Fg; rename News h₀ _ _ _ => N8)
    · refine hret _ _ _ _ _ (fun b o e => ?_) (fun b o e => ?_) (by assumption) (news_head N8) ?_
      · by_cases hb : b = rw
        · subst hb
          have e2 := (N _ List.mem_cons_self).1
          rw [e] at e2
          rw [Option.some.inj e2]
          exact (N8 (b, listOf vs.toArray n) (by k_mem)).1
        · exact Fg.keep b o (kg b o e (by simpa using hb))
      · have := kl b o e; omega
      · simp only [laidP]
        rw [if_neg (by assumption)]
        exact (Txs.cons (Txs.cons hs))
    · refine hret _ _ _ _ _ (fun b o e => ?_) (fun b o e => ?_) (by assumption) (news_head N8) ?_
      · by_cases hb : b = rw
        · subst hb
          have e2 := (N _ List.mem_cons_self).1
          rw [e] at e2
          rw [Option.some.inj e2]
          exact (N8 (b, listOf vs.toArray n) (by k_mem)).1
        · exact Fg.keep b o (kg b o e (by simpa using hb))
      · have := kl b o e; omega
      · simp only [laidP]
        rw [if_pos (by assumption)]
        exact (Txs.cons (Txs.cons hsr))
end
end
theorem cx13 {p : Program} {w : World} {A : Around} {Q : Value → Shared → Prop} {E : Value → Shared → Prop} {s : Shared} (h : wpAny (model p w) A (pyIter Value.none) Q E s) : wpAny (model p w) A (pyIter Value.none) Q E s := by first | (walk1; fail "x") | exact h
section
/-! the cards, their words and their texts -/
noncomputable def rkL : List (List Nat) := [[], [32], [32, 32], [32, 32, 32], [34], [34, 34], [34, 92], [35], [35, 35], [35, 34], [92], [92, 92], [92, 35]]
structure R1 where
  (c : Nat) (up : Bool) (ba : Int) (wh : Nat)
noncomputable def R1.su (r : R1) : Nat := 97 + r.c / 13
noncomputable def R1.sp (r : R1) : Nat := if r.up then up1 r.su else r.su
noncomputable def R1.rank (r : R1) : List Nat := rkL.getD (r.c % 13) []
noncomputable def R1.word (r : R1) : List Nat := r.sp :: r.rank
noncomputable def R1.enc (r : R1) : List Nat := lawWord r.ba r.word [r.wh]
structure R1.Ok (r : R1) : Prop where
  c : r.c < 52
  ba : r.ba = 0 ∨ r.ba = 1
  wh : r.wh = 10 ∨ r.wh = 9 ∨ r.wh = 13 ∨ r.wh = 32
theorem rk_ok : ∀ k : Fin 13, (rkL.getD k.1 []).all reOk = true ∧ (rkL.getD k.1 []).length ≤ 3 := by decide
theorem rk_fact (k : Nat) (h : k < 13) : (rkL.getD k []).all reOk = true ∧ (rkL.getD k []).length ≤ 3 := rk_ok ⟨k, h⟩
theorem su_fact (c : Nat) (h : c < 52) : (Str.ofString "abcd").cps.toList.getD (c / 13) 0 = 97 + c / 13 := by
  have e : ∀ k : Fin 4, (Str.ofString "abcd").cps.toList.getD k.1 0 = 97 + k.1 := by decide
  exact e ⟨c / 13, by omega⟩
theorem wh_fact (k : Nat) (h : k < 4) : let g := (Str.ofString "\n\t\r ").cps.toList.getD k 0; g = 10 ∨ g = 9 ∨ g = 13 ∨ g = 32 := by
  have e : ∀ k : Fin 4, let g := (Str.ofString "\n\t\r ").cps.toList.getD k.1 0; g = 10 ∨ g = 9 ∨ g = 13 ∨ g = 32 := by decide
  exact e ⟨k, h⟩
theorem rk_txs {t0 t1 t2 t3 t4 t5 t6 t7 t8 t9 t10 t11 t12 : Tok} : Txs [.str (Str.ofString "") t0, .str (Str.ofString " ") t1, .str (Str.ofString "  ") t2, .str (Str.ofString "   ") t3, .str (Str.ofString "\"") t4, .str (Str.ofString "\"\"") t5, .str (Str.ofString "\"\\") t6, .str (Str.ofString "#") t7, .str (Str.ofString "##") t8, .str (Str.ofString "#\"") t9, .str (Str.ofString "\\") t10, .str (Str.ofString "\\\\") t11, .str (Str.ofString "\\#") t12] rkL := by
  show StrsAre _ (rkL.map tx)
  have hr : rkL.map tx = [Str.ofString "", Str.ofString " ", Str.ofString "  ", Str.ofString "   ", Str.ofString "\"", Str.ofString "\"\"", Str.ofString "\"\\", Str.ofString "#", Str.ofString "##", Str.ofString "#\"", Str.ofString "\\", Str.ofString "\\\\", Str.ofString "\\#"] := by decide
  rw [hr]
  repeat (first | exact StrsAre.nil | refine StrsAre.cons _ _ ?_)
theorem wh_lo (z : Int) : 0 ≤ (z.fmod 16).fdiv 4 := by
  have h := fmod_rng z (k := 16) (by decide)
  rw [Int.fdiv_eq_ediv_of_nonneg _ (by decide)]
  omega
theorem wh_hi (z : Int) : (z.fmod 16).fdiv 4 < ((Str.ofString "\n\t\r ").cps.size : Nat) := by
  have h := fmod_rng z (k := 16) (by decide)
  rw [Int.fdiv_eq_ediv_of_nonneg _ (by decide), show (Str.ofString "\n\t\r ").cps.size = 4 from by decide]
  omega
theorem all128 {l : List Nat} (h : l.all reOk = true) : l.all (· < 128) = true := by
  simp only [List.all_eq_true, decide_eq_true_eq] at h ⊢
  intro c hc
  have := h c hc
  unfold reOk at this
  simp only [Bool.and_eq_true, decide_eq_true_eq] at this
  omega
theorem up1_ok {l : List Nat} (h : l.all reOk = true) : (l.map up1).all reOk = true := by
  simp only [List.all_eq_true] at h ⊢
  intro c hc
  obtain ⟨d, hd, rfl⟩ := List.mem_map.mp hc
  have := h d hd
  unfold reOk up1 at *
  simp only [Bool.and_eq_true, decide_eq_true_eq] at this ⊢
  split <;> omega
theorem lawWord_len (b : Int) (x wh : List Nat) : (lawWord b x wh).length ≤ 2 * x.length + 2 + wh.length := by
  unfold lawWord
  have h1 := encB_len x
  have h2 := encQ_len x
  split <;> simp only [List.length_append, List.length_cons] <;> omega
theorem nmT {h₀ h : Heap} {L : Addr} {k : Str} {a x : List Nat} {b : Int} {g : Nat} {t : Tok} {m : Str → Option Value} (_ : Fr h₀ L h (fun y => if y = k then some (.str (tx (a ++ lawWord b x [g])) t) else m y)) : ∃ (b' : Int) (g' : Nat) (t' : Tok), b' = b ∧ g' = g ∧ t' = t := ⟨_, _, _, rfl, rfl, rfl⟩
theorem enc_snoc (rs : List R1) (r : R1) : ((rs ++ [r]).map R1.enc).flatten = (rs.map R1.enc).flatten ++ r.enc := by simp
theorem su_lt (c : Nat) (h : c < 52) : 97 ≤ 97 + c / 13 ∧ 97 + c / 13 ≤ 100 := by omega
theorem wh_any (z : Int) : (Str.ofString "\n\t\r ").cps.toList.getD ((z.fmod 16).fdiv 4).toNat 0 = 10 ∨ (Str.ofString "\n\t\r ").cps.toList.getD ((z.fmod 16).fdiv 4).toNat 0 = 9 ∨ (Str.ofString "\n\t\r ").cps.toList.getD ((z.fmod 16).fdiv 4).toNat 0 = 13 ∨ (Str.ofString "\n\t\r ").cps.toList.getD ((z.fmod 16).fdiv 4).toNat 0 = 32 := by
  have h1 := wh_lo z
  have h2 := wh_hi z
  rw [show (Str.ofString "\n\t\r ").cps.size = 4 from by decide] at h2
  exact wh_fact _ (by omega)
end
theorem cx14 {p : Program} {w : World} {A : Around} {Q : Value → Shared → Prop} {E : Value → Shared → Prop} {s : Shared} (h : wpAny (model p w) A (pyIter Value.none) Q E s) : wpAny (model p w) A (pyIter Value.none) Q E s := by first | (walk1; fail "x") | exact h
section
/-! what a lexer reads of the cards' texts -/
/-- `cs` is read as the words of `rs`, a full stop and the end -/
def Lx : List Nat → List (List Nat) → Prop
  | cs, [] => ∃ r, lexA cs = some ([46], r) ∧ lexA r = some ([], [])
  | cs, y :: ys => ∃ r, lexA cs = some (y, r) ∧ Lx r ys
theorem lexA_skip {c : Nat} {r : List Nat} (h : ws c = true) : lexA (c :: r) = lexA r := by simp [lexA, h]
theorem Lx_ws {c : Nat} {r : List Nat} {ys : List (List Nat)} (h : ws c = true) (k : Lx r ys) : Lx (c :: r) ys := by
  cases ys with
  | nil => obtain ⟨a, h1, h2⟩ := k; exact ⟨a, by rw [lexA_skip h]; exact h1, h2⟩
  | cons y ys => obtain ⟨a, h1, h2⟩ := k; exact ⟨a, by rw [lexA_skip h]; exact h1, h2⟩
theorem lexQ_enc : ∀ (x acc r : List Nat), lexQ (encQ x ++ 34 :: r) acc = some (acc ++ x, r)
  | [], acc, r => by cases r <;> simp [encQ, lexQ]
  | c :: x, acc, r => by
    have ih := lexQ_enc x (acc ++ [c]) r
    have e : encQ (c :: x) = (if c = 34 ∨ c = 92 then [92, c] else [c]) ++ encQ x := rfl
    rw [e]
    have en : ∃ d l, encQ x ++ 34 :: r = d :: l := by
      cases hx : encQ x ++ 34 :: r with
      | nil => simp at hx
      | cons d l => exact ⟨d, l, rfl⟩
    obtain ⟨d, l, hd⟩ := en
    by_cases h : c = 34 ∨ c = 92
    · rw [if_pos h]
      show lexQ (92 :: c :: (encQ x ++ 34 :: r)) acc = _
      have : lexQ (92 :: c :: (encQ x ++ 34 :: r)) acc = lexQ (encQ x ++ 34 :: r) (acc ++ [c]) := by simp [lexQ]
      rw [this, ih]; simp
    · rw [if_neg h]
      show lexQ (c :: (encQ x ++ 34 :: r)) acc = _
      rw [hd]
      have : lexQ (c :: d :: l) acc = lexQ (d :: l) (acc ++ [c]) := by
        have h1 : c ≠ 34 := fun e => h (.inl e)
        have h2 : c ≠ 92 := fun e => h (.inr e)
        simp [lexQ, h1, h2]
      rw [this, ← hd, ih]; simp
theorem lexB_enc : ∀ (x acc r : List Nat) (g : Nat), ws g = true → lexB (encB x ++ g :: r) acc = some (acc ++ x, r)
  | [], acc, r, g, hg => by cases r <;> simp [encB, lexB, hg]
  | c :: x, acc, r, g, hg => by
    have ih := lexB_enc x (acc ++ [c]) r g hg
    show lexB (92 :: c :: (encB x ++ g :: r)) acc = _
    have : lexB (92 :: c :: (encB x ++ g :: r)) acc = lexB (encB x ++ g :: r) (acc ++ [c]) := by simp [lexB, ws]
    rw [this, ih]; simp
theorem Lx_word {b : Int} {c g : Nat} {x r : List Nat} {ys : List (List Nat)} (hg : ws g = true) (k : Lx r ys) : Lx (lawWord b (c :: x) [g] ++ r) ((c :: x) :: ys) := by
  unfold lawWord
  by_cases h : b = 1
  · rw [if_pos h]
    refine ⟨r, ?_, k⟩
    show lexA (92 :: c :: (encB x ++ [g] ++ r)) = _
    have : lexA (92 :: c :: (encB x ++ [g] ++ r)) = lexB (encB x ++ [g] ++ r) [c] := by simp [lexA, ws]
    rw [this, List.append_assoc]
    exact lexB_enc x [c] r g hg
  · rw [if_neg h]
    refine ⟨g :: r, ?_, Lx_ws hg k⟩
    show lexA (34 :: (encQ (c :: x) ++ 34 :: [g] ++ r)) = _
    have : lexA (34 :: (encQ (c :: x) ++ 34 :: [g] ++ r)) = lexQ (encQ (c :: x) ++ 34 :: [g] ++ r) [] := by simp [lexA, ws]
    rw [this, List.append_assoc]
    exact lexQ_enc (c :: x) [] (g :: r)
theorem Lx_all : ∀ rs : List R1, (∀ r ∈ rs, r.Ok) → Lx ((rs.map R1.enc).flatten ++ [46]) (rs.map R1.word)
  | [], _ => ⟨[], by simp [lexA, lexB, ws], by simp [lexA]⟩
  | r :: rs, h => by
    have hg : ws r.wh = true := by
      rcases (h r List.mem_cons_self).wh with e | e | e | e <;> rw [e] <;> rfl
    have := Lx_word (b := r.ba) (c := r.sp) (x := r.rank) hg (Lx_all rs fun q hq => h q (List.mem_cons_of_mem _ hq))
    rw [List.map_cons, List.flatten_cons, List.append_assoc]
    exact this
theorem Lx_len {ys : List (List Nat)} : ∀ {cs : List Nat}, Lx cs ys → True := fun _ => trivial
theorem R1.su_rng {r : R1} (h : r.Ok) : 97 ≤ r.su ∧ r.su ≤ 100 := by have := h.c; unfold R1.su; omega
theorem R1.sp_ok {r : R1} (h : r.Ok) : reOk r.sp = true := by
  have := R1.su_rng h
  unfold R1.sp reOk up1
  rw [Bool.and_eq_true, decide_eq_true_eq, decide_eq_true_eq]
  split <;> (try split) <;> omega
theorem R1.rank_ok (r : R1) : r.rank.all reOk = true ∧ r.rank.length ≤ 3 := rk_fact _ (Nat.mod_lt _ (by decide))
theorem reOk_word {r : R1} (h : r.Ok) : r.word.all reOk = true := by
  show (reOk r.sp && r.rank.all reOk) = true
  rw [R1.sp_ok h, r.rank_ok.1]; rfl
theorem len_word (r : R1) : r.word.length ≤ 4 := by
  have := r.rank_ok.2
  show r.rank.length + 1 ≤ 4
  omega
theorem lexQ_le : ∀ (cs acc t r : List Nat), lexQ cs acc = some (t, r) → r.length ≤ cs.length
  | [], acc, t, r, h => by simp [lexQ] at h
  | [c], acc, t, r, h => by
    simp only [lexQ] at h
    split at h
    · cases h; simp
    · cases h
  | c :: d :: l, acc, t, r, h => by
    simp only [lexQ] at h
    split at h
    · cases h; simp
    · split at h
      · have := lexQ_le l _ t r h; simp only [List.length_cons]; omega
      · have := lexQ_le (d :: l) _ t r h; simp only [List.length_cons] at this ⊢; omega
theorem lexB_le : ∀ (cs acc t r : List Nat), lexB cs acc = some (t, r) → r.length ≤ cs.length
  | [], acc, t, r, h => by simp [lexB] at h; rw [h.2]; simp
  | [c], acc, t, r, h => by
    simp only [lexB] at h
    split at h
    · cases h; simp
    · split at h
      · cases h
      · cases h; simp
  | c :: d :: l, acc, t, r, h => by
    simp only [lexB] at h
    split at h
    · cases h; simp
    · split at h
      · have := lexB_le l _ t r h; simp only [List.length_cons]; omega
      · have := lexB_le (d :: l) _ t r h; simp only [List.length_cons] at this ⊢; omega
theorem lexA_le : ∀ (cs t r : List Nat), lexA cs = some (t, r) → r.length ≤ cs.length
  | [], t, r, h => by simp [lexA] at h; rw [h.2]; simp
  | c :: l, t, r, h => by
    simp only [lexA] at h
    split at h
    · have := lexA_le l t r h; simp only [List.length_cons]; omega
    · split at h
      · have := lexQ_le l _ t r h; simp only [List.length_cons]; omega
      · split at h
        · cases l with
          | nil => cases h
          | cons d l' => have := lexB_le l' _ t r h; simp only [List.length_cons]; omega
        · have := lexB_le l _ t r h; simp only [List.length_cons]; omega
theorem low_up1 {c : Nat} (h : 97 ≤ c ∧ c ≤ 100) : lowC (up1 c) = c := by
  unfold lowC up1
  rw [if_pos (show 97 ≤ c ∧ c ≤ 122 by omega), if_pos (by omega)]
  omega
theorem low_id {c : Nat} (h : 97 ≤ c) : lowC c = c := by
  unfold lowC
  rw [if_neg (by omega)]
theorem low_sp {r : R1} (h : r.Ok) : lowC r.sp = r.su := by
  have := R1.su_rng h
  unfold R1.sp
  split
  · exact low_up1 this
  · exact low_id this.1
theorem told_eq {y : List Nat} {c : Nat} (hy : y.map lowC = [c]) : ∀ {rs : List R1}, (∀ r ∈ rs, r.Ok) → (((rs.map fun r => ([r.sp], r.word)).filter fun p => decide (p.1.map lowC = y.map lowC)).map fun p => tx p.2) = ((rs.filter fun r => decide (r.su = c)).map R1.word).map tx
  | [], _ => rfl
  | r :: rs, h => by
    have ih := told_eq hy (rs := rs) fun q hq => h q (List.mem_cons_of_mem _ hq)
    have e : decide ([r.sp].map lowC = y.map lowC) = decide (r.su = c) := by
      rw [hy, List.map_cons, low_sp (h r List.mem_cons_self)]
      simp
    rw [List.map_cons, List.filter_cons, List.filter_cons, e]
    by_cases hc : r.su = c
    · simp only [hc, decide_true, if_true, List.map_cons]
      rw [ih]
    · simp only [hc, decide_false, Bool.false_eq_true, if_false]
      rw [ih]
theorem getD_map_at {rs : List R1} {f : R1 → List Nat} {i : Nat} {r : R1} (h : rs[i]? = some r) : (rs.map f).getD (0 + (i : Int)).toNat [] = f r := by
  rw [show (0 + (i : Int)).toNat = i by omega, List.getD_eq_getElem?_getD, List.getElem?_map, h]
  rfl
theorem filter_snoc {rs : List R1} {i : Nat} {r : R1} (h : rs[i]? = some r) (p : R1 → Bool) : (rs.take (i + 1)).filter p = (rs.take i).filter p ++ (if p r then [r] else []) := by
  rw [List.take_add_one, h, List.filter_append]
  congr 1
  show List.filter p [r] = _
  rw [List.filter_cons, List.filter_nil]
theorem R1.rank_mem (r : R1) : r.rank ∈ rkL := by
  have e : ∀ k : Fin 13, rkL.getD k.1 [] ∈ rkL := by decide
  exact e ⟨r.c % 13, Nat.mod_lt _ (by decide)⟩
theorem idx_rank (r : R1) : rkL.idxOf r.rank = r.c % 13 := by
  have e : ∀ k : Fin 13, rkL.idxOf (rkL.getD k.1 []) = k.1 := by decide
  exact e ⟨r.c % 13, Nat.mod_lt _ (by decide)⟩
theorem step_fact {x y : Nat} (hx : x < 13) (hy : y < 13) (h : x ≠ y) : 1 ≤ ((y : Int) - x).fmod 13 ∧ ((y : Int) - x).fmod 13 ≤ 12 ∧ ((x : Int) - y).fmod 13 = 13 - ((y : Int) - x).fmod 13 := by
  rw [Int.fmod_eq_emod_of_nonneg _ (by decide), Int.fmod_eq_emod_of_nonneg _ (by decide)]
  omega
theorem rank_ne {rs K : List R1} {c i j : Nat} {r1 r2 : R1} (hnd : (rs.map (·.c)).Nodup) (hK : K = rs.filter fun r => decide (r.su = c)) (hi : K[i]? = some r1) (hj : K[j]? = some r2) (hij : i < j) : r1.c ≠ r2.c ∧ r1.c % 13 ≠ r2.c % 13 ∧ r1 ∈ rs ∧ r2 ∈ rs ∧ r1.su = c ∧ r2.su = c := by
  have h1 : r1 ∈ K := List.mem_of_getElem? hi
  have h2 : r2 ∈ K := List.mem_of_getElem? hj
  have hn : (K.map (·.c)).Nodup := by
    rw [hK]
    exact hnd.sublist (List.filter_sublist.map _)
  have hlj := (List.getElem?_eq_some_iff.mp hj).1
  have hne : r1.c ≠ r2.c := by
    intro e
    have e1 : (K.map (·.c))[i]? = some r1.c := by rw [List.getElem?_map, hi]; rfl
    have e2 : (K.map (·.c))[j]? = some r2.c := by rw [List.getElem?_map, hj]; rfl
    rw [e] at e1
    have := (List.getElem?_inj (by rw [List.length_map]; omega) hn).mp (e1.trans e2.symm)
    omega
  rw [hK] at h1 h2
  obtain ⟨m1, s1⟩ := List.mem_filter.mp h1
  obtain ⟨m2, s2⟩ := List.mem_filter.mp h2
  have s1 : r1.su = c := by simpa using s1
  have s2 : r2.su = c := by simpa using s2
  refine ⟨hne, ?_, m1, m2, s1, s2⟩
  unfold R1.su at s1 s2
  omega
theorem count_single (T : List Nat) (k : Nat) : (T.map fun n => [n]).count [k] = T.count k := by
  induction T with
  | nil => rfl
  | cons a r ih =>
    rw [List.map_cons, List.count_cons, List.count_cons, ih]
    by_cases h : a = k <;> simp [h]
theorem count_nl (T : List Nat) : PySem.Txt.count (tx T) (Str.ofString "\n") = nls T := by
  rw [is_nl, count_is]
  have e : ((tx T).cps.toList.map fun n => PyData.str ⟨#[n]⟩) = ((T.map fun n => [n]).map tx).map PyData.str := by
    rw [List.map_map, List.map_map]
    show T.toArray.toList.map _ = _
    simp
  rw [e]
  have := countIn_tx [10] (T.map fun n => [n])
  rw [count_single] at this
  exact this
theorem nls_dot (T : List Nat) : nls (T ++ [46]) = nls T := by
  unfold nls
  rw [List.count_append]
  rfl
theorem filt_snoc {W : List (List Nat)} {i : Nat} {y : List Nat} (h : W[i]? = some y) (p : List Nat → Bool) : (W.take (i + 1)).filter p = (W.take i).filter p ++ (if p y then [y] else []) := by
  rw [List.take_add_one, h, List.filter_append]
  congr 1
  show List.filter p [y] = _
  rw [List.filter_cons, List.filter_nil]
theorem any2 (u v y : List Nat) : ([tx u, tx v].any fun x => x == tx y) = decide (u = y ∨ v = y) := by
  simp only [List.any_cons, List.any_nil, beq_tx, Bool.or_false]
  by_cases h1 : u = y <;> by_cases h2 : v = y <;> simp [h1, h2]
end
theorem cx15 {p : Program} {w : World} {A : Around} {Q : Value → Shared → Prop} {E : Value → Shared → Prop} {s : Shared} (h : wpAny (model p w) A (pyIter Value.none) Q E s) : wpAny (model p w) A (pyIter Value.none) Q E s := by first | (walk1; fail "x") | exact h
section

/-- the law's own text, as its code object holds it -/
def LawAt (w : World) (P : Str → List Stmt → Scope → Prop) : Prop := ∃ (name qual : Str) (params : Arguments) (body : List Stmt) (scope : Scope) (dV kV doc pm cdv ct oc : Value) (an od : Option Addr) (osl : Array (Option Value)),
  (hd1.heap_1 w.params).lookup 271 = some ⟨oc, od, .func (fnOf name qual params body scope dV kV doc pm an cdv ct), osl⟩ ∧ P qual body scope
theorem LawAt.use {w : World} {P : Str → List Stmt → Scope → Prop} {name qual : Str} {params : Arguments} {body : List Stmt} {scope : Scope} {dV kV doc pm cdv ct oc : Value} {an od : Option Addr} {osl : Array (Option Value)} (h : LawAt w P)
    (ho : (hd1.heap_1 w.params).lookup 271 = some ⟨oc, od, .func (fnOf name qual params body scope dV kV doc pm an cdv ct), osl⟩) : P qual body scope := by
  obtain ⟨_, _, _, _, _, _, _, _, _, _, _, _, _, _, _, e, k⟩ := h
  rw [ho] at e
  have e2 := Data.func.inj (congrArg Obj.data (Option.some.inj e))
  have e3 := FuncBody.stmts.inj (congrArg FuncData.body e2)
  have e4 := congrArg FuncData.scope e2
  have e5 := congrArg FuncData.qualname e2
  dsimp only at e3 e4 e5
  subst e3 e4 e5
  exact k
abbrev RestW (w : World) (fa L : Addr) (cd : Value) (n : Nat) (Q : Flow → Shared → Prop) (s : Shared) : Prop :=
  LawAt w fun qual body scope => wpAny (model PP w) (callerA.deeper (envOfC qual scope L fa cd)) (execs (body.drop n) (envOfC qual scope L fa cd)) Q (fun _ _ => False) s

noncomputable def bodyAt (n : Nat) (l : List Stmt) : List Stmt := match l.drop n with
  | .For _ _ b _ _ :: _ => b
  | _ => []
end
theorem cx16 {p : Program} {w : World} {A : Around} {Q : Value → Shared → Prop} {E : Value → Shared → Prop} {s : Shared} (h : wpAny (model p w) A (pyIter Value.none) Q E s) : wpAny (model p w) A (pyIter Value.none) Q E s := by first | (walk1; fail "x") | exact h
section
noncomputable def toldP (rs : List (List Nat)) (key x y z : List Nat) : List Nat :=
  rs.getD ((((rs.idxOf key : Nat) : Int) + (1 + 2 * ((List.count 1 [scI x y, scI x z] : Nat) : Int) + ((List.count 1 [scI y z] : Nat) : Int))).fmod 13).toNat []
section
variable {w : World} {dp un : Nat} {gd : Option (List Code)} {cn : Str} {nm : List (Str × NameKind)} {ig ic : Bool} {mo : List (Str × Const)} {a : Addr} {ccd : Value} {cl : List (Str × Addr)} {outer : List Env} {A₀ : Around} {base h₀ : Heap} {L : Addr} {m : Str → Option Value} {news : List (Addr × Obj)} {s : Shared} {p : Program} {loose : List Str} {mean : ExcName → Option Value} {mg mb : Str → Option Value} {R : Result → Shared → Prop}
set_option maxHeartbeats 0 in
theorem law_told {ra fo n n' : Nat} {rv : List Value} {rs : List (List Nat)} {c : Nat} {key x y z : List Nat} {t0 t1 t2 t3 : Tok} (B : Below A₀ base outer h₀) (F : Fr h₀ L s.heap m) (X : (hd1.heap_1 w.params).In h₀) (T : Top p loose mean mg mb h₀) (hd : dp + 20 < recursionLimit) (hu : un + 200 < cLine) (N : News h₀ L s.heap [(ra, listOf rv.toArray n), (fo, listOf #[.str (tx (c :: key)) t0, .str (tx x) t1, .str (tx y) t2, .str (tx z) t3] n')]) (hv : Txs rv rs) (h13 : rs.length = 13) (hk : key ∈ rs) (hc : [c].all reOk = true) (hkl : key.length < 1000)
    (hret : ∀ (q : Nat) u0 u1 h' tk', (∀ (b : Nat) o, s.heap.get? b = some o → h'.get? b = some o) → (∀ (b : Nat) o, s.heap.get? b = some o → b ≠ q) → Fr h₀ L h' m → News h₀ L h' [(q, pairO ([c].map lowC) (toldP rs key x y z) u0 u1)] → R (.ok (.ret (.ref q))) { s with heap := h', toks := tk' }) :
    codeAny (model PP w) (ktrTop dp un gd cn ⟨.function, nm, ig, ic, mo⟩ L a ccd cl outer) (.call (.ref 266) ⟨[.ref ra, .ref fo], []⟩) R s := by
  have hz3 : rs.length ≤ sizeLine := by rw [h13]; decide
  k_dflt (refine' codeK ?k1 ?k2 ?k3 ?k4 ?k5 ?kA ?kF ?kK ?k6 ?k7 ?k8 ?k9 ?kB ?_ ?c2 ?c3 ?c4 ?c5; (case kA => exact rfl); (case kF => exact rfl); (case kK => exact rfl); (case k1 => exact B); (case k2 => exact F); (case k3 => exact X); (case k4 => exact N); (case k5 => exact T); (case k6 => k_is); (case k7 => k_is); (case k8 => k_room); (case k9 => first | exact BindsTo.of_eq rfl | exact binds_K (by k_in) rfl (by k_is) rfl rfl rfl); (case c5 => decide); (case kB => exact locs rfl); (case c2 => exact rfl); (case c3 => exact rfl); (case c4 => exact rfl); k_whole; intro g L' h' kg kl l1 FG F' N' B' X' T'; (try k_lt l1); (have codeHd := codeHd_of_K (c := 241) (P := 237) X' (by kernel_rfl)); (try dsimp only); (try k_lift B'); (try k_fold))
  k_steps
  rename Fr g _ _ _ => Fg
  rename News g _ _ _ => N7
  rename News h₀ _ _ _ => N8
  obtain ⟨D, oD, e1, e2⟩ := names1 N7
  clear e2
  subst e1
  refine hret D _ _ _ _ (kept_all N N8 (by k_upd) fun b o e hb => Fg.keep b o (kg b o e hb)) (fresh_all N7 kg (AllNe.notin ?_)) (by assumption) (news_head N8)
  simp only [List.map_cons, List.map_nil, AllNe, and_true]
  omega
end
end
theorem cx17 {p : Program} {w : World} {A : Around} {Q : Value → Shared → Prop} {E : Value → Shared → Prop} {s : Shared} (h : wpAny (model p w) A (pyIter Value.none) Q E s) : wpAny (model p w) A (pyIter Value.none) Q E s := by first | (walk1; fail "x") | exact h
section
/-! the order of three words tells a number -/
theorem Txs3 {vs : List Value} {x y z : List Nat} (h : Txs vs [x, y, z]) : ∃ t1 t2 t3, vs = [.str (tx x) t1, .str (tx y) t2, .str (tx z) t3] := by
  cases h with
  | cons _ t1 h => cases h with
    | cons _ t2 h => cases h with
      | cons _ t3 h => cases h with
        | nil => exact ⟨t1, t2, t3, rfl⟩
theorem Txs4 {vs : List Value} {k x y z : List Nat} (h : Txs vs [k, x, y, z]) : ∃ t0 t1 t2 t3, vs = [.str (tx k) t0, .str (tx x) t1, .str (tx y) t2, .str (tx z) t3] := by
  cases h with
  | cons _ t0 h =>
    obtain ⟨t1, t2, t3, e⟩ := Txs3 h
    subst e
    exact ⟨t0, t1, t2, t3, rfl⟩
theorem sc1 {x y : List Nat} (h : x < y) : scI x y = -1 := by
  unfold scI
  rw [decide_eq_true h, decide_eq_false (List.lt_asymm h)]; rfl
theorem sc2 {x y : List Nat} (h : x < y) : scI y x = 1 := by
  unfold scI
  rw [decide_eq_true h, decide_eq_false (List.lt_asymm h)]; rfl
theorem laid_told {k : List Nat} {s : Nat} {r0 r1 r2 : List Nat} {st : Int} (h1 : r0 < r1) (h2 : r1 < r2) (a : 1 ≤ st) (b : st ≤ 6) :
    ∃ x y z, laidP (s :: k) [r0, r1, r2] st = [s :: k, x, y, z] ∧ ∀ rs : List (List Nat), toldP rs k x y z = rs.getD ((((rs.idxOf k : Nat) : Int) + st).fmod 13).toNat [] := by
  have h3 : r0 < r2 := List.lt_trans h1 h2
  have n1 : r0 ≠ r1 := fun e => List.lt_irrefl _ (e ▸ h1)
  have n2 : r1 ≠ r2 := fun e => List.lt_irrefl _ (e ▸ h2)
  have n3 : r0 ≠ r2 := fun e => List.lt_irrefl _ (e ▸ h3)
  have c : st = 1 ∨ st = 2 ∨ st = 3 ∨ st = 4 ∨ st = 5 ∨ st = 6 := by omega
  rcases c with rfl | rfl | rfl | rfl | rfl | rfl
  · refine ⟨r0, r1, r2, ?_, fun rs => ?_⟩
    · simp [laidP, n1, n2, n3, Ne.symm n1, Ne.symm n2, Ne.symm n3]
    · simp [toldP, sc1 h1, sc1 h2, sc1 h3]
  · refine ⟨r0, r2, r1, ?_, fun rs => ?_⟩
    · simp [laidP, n1, n2, n3, Ne.symm n1, Ne.symm n2, Ne.symm n3]
    · simp [toldP, sc1 h1, sc2 h2, sc1 h3]
  · refine ⟨r1, r0, r2, ?_, fun rs => ?_⟩
    · simp [laidP, n1, n2, n3, Ne.symm n1, Ne.symm n2, Ne.symm n3]
    · simp [toldP, sc2 h1, sc1 h2, sc1 h3]
  · refine ⟨r1, r2, r0, ?_, fun rs => ?_⟩
    · simp [laidP, n1, n2, n3, Ne.symm n1, Ne.symm n2, Ne.symm n3]
    · simp [toldP, sc2 h1, sc1 h2, sc2 h3]
  · refine ⟨r2, r0, r1, ?_, fun rs => ?_⟩
    · simp [laidP, n1, n2, n3, Ne.symm n1, Ne.symm n2, Ne.symm n3]
    · simp [toldP, sc1 h1, sc2 h2, sc2 h3]
  · refine ⟨r2, r1, r0, ?_, fun rs => ?_⟩
    · simp [laidP, n1, n2, n3, Ne.symm n1, Ne.symm n2, Ne.symm n3]
    · simp [toldP, sc2 h1, sc2 h2, sc2 h3]
theorem sorted3 {r0 r1 r2 x y z : List Nat} {zs : List (List Nat)} (h1 : r0 < r1) (h2 : r1 < r2) (hp : [r0, r1, r2].Perm [x, y, z]) (hz : zs.Perm [x, y, z]) (hs : SortedL zs) : zs = [r0, r1, r2] := by
  have hq : zs.Perm [r0, r1, r2] := hz.trans hp.symm
  have hl := hq.length_eq
  have h3 : r0 < r2 := List.lt_trans h1 h2
  match zs, hl, hs, hq with
  | [p, q, t], _, hs, hq =>
    refine List.Perm.eq_of_pairwise (le := fun a b : List Nat => a ≤ b) (fun a b _ _ e1 e2 => List.le_antisymm e1 e2) ?_ ?_ hq
    · have e1 : p ≤ q := List.not_lt.mp hs.1
      have e2 : q ≤ t := List.not_lt.mp hs.2.1
      have e3 : p ≤ t := List.le_trans e1 e2
      simp [e1, e2, e3]
    · simp [List.le_of_lt h1, List.le_of_lt h2, List.le_of_lt h3]
theorem word_inj {a b : R1} (ha : a.Ok) (hb : b.Ok) (h : a.word = b.word) : a.c = b.c := by
  have h1 : a.sp = b.sp := (List.cons.inj h).1
  have h2 : a.rank = b.rank := (List.cons.inj h).2
  have e1 : a.su = b.su := by rw [← low_sp ha, ← low_sp hb, h1]
  have e2 : a.c % 13 = b.c % 13 := by rw [← idx_rank a, ← idx_rank b, h2]
  unfold R1.su at e1
  omega
theorem words_nodup {rs : List R1} (hok : ∀ r ∈ rs, r.Ok) (hnd : (rs.map (·.c)).Nodup) : (rs.map R1.word).Nodup := by
  induction rs with
  | nil => exact List.nodup_nil
  | cons r rs ih =>
    rw [List.map_cons, List.nodup_cons] at hnd ⊢
    refine ⟨fun h => ?_, ih (fun q hq => hok q (List.mem_cons_of_mem _ hq)) hnd.2⟩
    obtain ⟨q, hq, e⟩ := List.mem_map.mp h
    exact hnd.1 (List.mem_map.mpr ⟨q, hq, word_inj (hok q (List.mem_cons_of_mem _ hq)) (hok r List.mem_cons_self) e⟩)
theorem filter3 {rs : List R1} {a b : R1} (h5 : rs.length = 5) (hok : ∀ r ∈ rs, r.Ok) (hnd : (rs.map (·.c)).Nodup) (ha : a ∈ rs) (hb : b ∈ rs) (hab : a.c ≠ b.c) :
    ∃ x y z, (rs.map R1.word).filter (fun w => decide (w ≠ a.word ∧ w ≠ b.word)) = [x, y, z] ∧ x ≠ y ∧ x ≠ z ∧ y ≠ z := by
  have hn := words_nodup hok hnd
  have hwa : a.word ∈ rs.map R1.word := List.mem_map_of_mem ha
  have hwb : b.word ∈ rs.map R1.word := List.mem_map_of_mem hb
  have hne : b.word ≠ a.word := fun e => hab (word_inj (hok b hb) (hok a ha) e).symm
  have e : (rs.map R1.word).filter (fun w => decide (w ≠ a.word ∧ w ≠ b.word)) = ((rs.map R1.word).erase a.word).erase b.word := by
    rw [(hn.erase _).erase_eq_filter, hn.erase_eq_filter, List.filter_filter]
    apply List.filter_congr
    intro w _
    by_cases h1 : w = a.word <;> by_cases h2 : w = b.word <;> simp [h1, h2]
  have hl : ((rs.map R1.word).filter (fun w => decide (w ≠ a.word ∧ w ≠ b.word))).length = 3 := by
    rw [e, List.length_erase_of_mem (by rw [hn.erase_eq_filter]; exact List.mem_filter.mpr ⟨hwb, by simpa using hne⟩), List.length_erase_of_mem hwa, List.length_map, h5]
  have hf : ((rs.map R1.word).filter (fun w => decide (w ≠ a.word ∧ w ≠ b.word))).Nodup := hn.filter _
  generalize (rs.map R1.word).filter (fun w => decide (w ≠ a.word ∧ w ≠ b.word)) = l at hl hf
  match l, hl, hf with
  | [x, y, z], _, hf =>
    simp only [List.nodup_cons, List.mem_cons, List.not_mem_nil, or_false, not_or, List.nodup_nil, and_true, not_false_eq_true] at hf
    exact ⟨x, y, z, rfl, hf.1.1, hf.1.2, hf.2⟩
end
section
local macro_rules | `(tactic| walk_at "pyIter ref") => `(tactic| (k_here; (with_reducible show wpAny _ _ (pyIter (Value.ref _)) (fun it s₂ => LoopAtV _ _ _ _ _ _ _ _ _ it s₂) _ _); (rename IsRange _ _ _ _ _ _ _ _ => r9); refine Stop.out ?_))
local macro_rules | `(tactic| walk_at "UnrEnd") => `(tactic| ((with_reducible show UnrEnd _ _ _ _ _ _ _); refine Stop.out ?_))
local macro_rules | `(tactic| walk_at "call builtin:str.upper") => `(tactic| (k_here; (refine' upper_tx (by assumption) (by ktr_rel) ?_); intro t' k'))
local macro_rules | `(tactic| walk_at "eval IfExp") => `(tactic| (k_here; (have zz : MkA := by assumption); clear zz; refine Stop.out ?_))
section
local macro_rules | `(tactic| k_ne) => `(tactic| (refine neN ?_; (try dsimp only); first | exact neW_of (by with_reducible assumption) (by k_mem) | exact Ne.symm (neW_of (by with_reducible assumption) (by k_mem))))
local macro_rules | `(tactic| k_all) => `(tactic| first | (refine' tl_up (by assumption) (by omega)) | (refine' tl_low (by assumption) (by omega)) | fail "k_all")
local macro_rules | `(tactic| k_mem) => `(tactic| assumption)
local macro_rules | `(tactic| k_upd) => `(tactic| first | exact Repl.tail (by assumption) | (refine' Repl.hit ?ca; (case ca => k_upd)) | (refine' Repl.miss ?ca ?cb; (case ca => exact AllNe.notin (by assumption)); (case cb => k_upd)) | fail "k_upd")
local macro_rules | `(tactic| walk_at "compareOp NotEq ref ref") => `(tactic| (k_here; k_dflt (refine' neSame_K (by kmk_list) (by kmk_list) (by assumption) (by assumption) (by assumption) (by ke_room) ?_)))
local macro_rules | `(tactic| k_enter) => `(tactic| ((first
  | (with_reducible show codeAny _ _ (Code.call (Value.ref 254) _) _ _)
  | (with_reducible show codeAny _ _ (Code.call (Value.ref 259) _) _ _)
  | (with_reducible show codeAny _ _ (Code.call (Value.ref 266) _) _ _)
  | (with_reducible show codeAny _ _ (Code.call (Value.ref 170) _) _ _)
  | (with_reducible show codeAny _ _ (Code.call (Value.ref 242) _) _ _)
  | (with_reducible show codeAny _ _ (Code.call (Value.ref 228) _) _ _)
  | (with_reducible show codeAny _ _ (Code.call (Value.ref 188) _) _ _)); refine Stop.out ?_))
local macro_rules | `(tactic| omega) => `(tactic| omega +splitDisjunctions)
theorem cx18 {p : Program} {w : World} {A : Around} {Q : Value → Shared → Prop} {E : Value → Shared → Prop} {s : Shared} (h : wpAny (model p w) A (pyIter Value.none) Q E s) : wpAny (model p w) A (pyIter Value.none) Q E s := by first | (walk1; fail "x") | exact h
section
local macro_rules | `(tactic| walk_at "compareOp NotEq ref ref") => `(tactic| (k_here; refine Stop.out ?_))
local macro_rules | `(tactic| walk_at "call builtin:sorted") => `(tactic| (k_here; refine Stop.out ?_))
local macro_rules | `(tactic| walk_at "CompSrc") => `(tactic| (k_here; refine Stop.out ?_))
theorem pair_shaped {y z : List Nat} (hy : y.all reOk = true) (hz : z.all reOk = true) : SeqAt.shaped (.tuple [.str (tx y), .str (tx z)]) = true := by
  have e : ([y, z].map tx).all PyData.strOk = true := by
    simp only [List.map_cons, List.map_nil, List.all_cons, List.all_nil, strOk_tx hy, strOk_tx hz, Bool.and_true]
  show SeqAt.shaped (.tuple (([y, z].map tx).map PyData.str)) = true
  unfold SeqAt.shaped
  simp only [PyData.canLay0, PyData.depth, canLayAll_strs', depthAll_strs', e, Bool.true_and]
  decide
theorem pairNe_K {prog : Program} {w : World} {A : Around} {E : Value → Shared → Prop} {s : Shared} {u v : Addr} {ou ov : Obj} {y z : List Nat} {ty tz sy sz : Tok} {n k : Nat} {Q : Value → Shared → Prop} (hu : s.heap.get? u = some ou) (hv : s.heap.get? v = some ov)
    (cu : ou.cls = .type "tuple") (du : ou.data = .seq #[.str (tx y) ty, .str (tx z) tz] n) (cv : ov.cls = .type "tuple") (dv : ov.data = .seq #[.str (tx y) sy, .str (tx z) sz] k) (hy : y.all reOk = true) (hz : z.all reOk = true) (hr : A.units + 64 < cLine) (h : Q (.bool false) s) :
    wpAny (model prog w) A (compareOp .NotEq (.ref u) (.ref v)) Q E s := by
  refine ne_dataH (reads_tuple_at hu cu du (ReadsAll.cons (Reads.str _ _) (ReadsAll.cons (Reads.str _ _) ReadsAll.nil))) (reads_tuple_at hv cv dv (ReadsAll.cons (Reads.str _ _) (ReadsAll.cons (Reads.str _ _) ReadsAll.nil))) (pair_shaped hy hz) (pair_shaped hy hz) hr ?_
  simp only [PyData.eqv, PyData.eqvAll, beq_self_eq_true, Bool.and_true, Bool.not_true]
  exact h
theorem getD_rank {k : Int} {b : R1} (h : k = ((rkL.idxOf b.rank : Nat) : Int)) : rkL.getD k.toNat [] = b.rank := by
  subst h
  rw [Int.toNat_natCast, List.getD_eq_getElem?_getD, List.getElem?_eq_getElem (List.idxOf_lt_length_of_mem b.rank_mem), List.getElem_idxOf]
  rfl
theorem told_idx {a b : R1} {st : Int} (h : (((rkL.idxOf b.rank : Nat) : Int) - ((rkL.idxOf a.rank : Nat) : Int)).fmod 13 = st) : (((rkL.idxOf a.rank : Nat) : Int) + st).fmod 13 = ((rkL.idxOf b.rank : Nat) : Int) := by
  have h1 : rkL.idxOf a.rank < 13 := List.idxOf_lt_length_of_mem a.rank_mem
  have h2 : rkL.idxOf b.rank < 13 := List.idxOf_lt_length_of_mem b.rank_mem
  rw [Int.fmod_eq_emod_of_nonneg _ (by decide)] at h ⊢
  omega
theorem su_ok {a : R1} (ha : a.Ok) : [a.su].all reOk = true := by
  have h := ha.c
  have h4 : a.c / 13 = 0 ∨ a.c / 13 = 1 ∨ a.c / 13 = 2 ∨ a.c / 13 = 3 := by omega
  unfold R1.su
  rcases h4 with e | e | e | e <;> (rw [e]; decide)
theorem laidP_ok {k : List Nat} {rs : List (List Nat)} {st : Int} (hk : k.all reOk = true) (hr : ∀ u ∈ rs, u.all reOk = true) (h3 : ((st - 1).fdiv 2).toNat < rs.length) : ∀ u ∈ laidP k rs st, u.all reOk = true := by
  intro u hu
  unfold laidP at hu
  dsimp only at hu
  rcases List.mem_cons.mp hu with rfl | hu
  · exact hk
  rcases List.mem_cons.mp hu with rfl | hu
  · rw [List.getD_eq_getElem?_getD, List.getElem?_eq_getElem h3]
    exact hr _ (List.getElem_mem _)
  split at hu
  · exact hr u (List.mem_filter.mp (List.mem_reverse.mp hu)).1
  · exact hr u (List.mem_filter.mp hu).1
section
variable {w : World} {L : Addr} {base : Heap} {m : Str → Option Value} {s : Shared} {p : Program} {loose : List Str} {mean : ExcName → Option Value} {mg mb : Str → Option Value} {fa : Addr} {cd : Value} {Q : Flow → Shared → Prop} {scv : List Value} {scn : List Int} {sc : Addr}
set_option maxHeartbeats 0 in
theorem stE {rs : List R1} {sv wv rv us : List Value} {tt tj : Tok} {jv : Int} {n1 n2 pe : Nat} {wl sl ra q D n3 : Nat} {x y z x' y' z' r0 r1 r2 : List Nat} {t1 t2 t3 s0 s1 s2 s3 : Tok} {q6 q5 q4 q3 p2 p1 : Obj} {P : LexP} {H : HdrP} {ln : Int} {tl : Tok} {vs rv' : List Value} {le n : Nat} {TL : List (Addr × Obj)} {tps : Array Value} {it1 it2 it3 : Addr × Obj} {a b : R1} {st : Int} {ta tb ts tc : Tok} (B : Below callerA base [] base) (F : Fr base L s.heap m) (X : (hd1.heap_1 w.params).In base) (T : Top p loose mean mg mb base) (h237 : @LT.lt Nat _ 237 L) (hsl : base.IsList sc scv.toArray) (hIs : IntsAre scv scn) (hc63 : scv.length ≤ 63)
    (N : News base L s.heap ((D, listOf #[.str (tx x) t1, .str (tx y) t2, .str (tx z) t3] n3) :: it1 :: it2 :: (q, listOf us.toArray us.length) :: it3 :: ((lexLed w P ln tl [.str (tx (a.sp :: a.rank)) s0, .str (tx x') s1, .str (tx y') s2, .str (tx z') s3] pe vs.reverse le ++ (hdrLed w H rv' n ++ [(wl, listOf wv.toArray n1), (sl, listOf sv.toArray n2), (ra, listOf rv.toArray 0), (L + 1 + 1 + 1 + 1 + 1 + 1, q6), (L + 1 + 1 + 1 + 1 + 1, q5), (L + 1 + 1 + 1 + 1, q4), (L + 1 + 1 + 1, q3), (L + 1 + 1, p2), (L + 1, p1), (237, tabObj tps)])) ++ TL))) (lo : @LT.lt Nat _ (L + 1 + 1 + 1 + 1 + 1 + 1) ra ∧ @LT.lt Nat _ ra sl ∧ @LT.lt Nat _ sl wl ∧ @LT.lt Nat _ wl P.cs ∧ P.pb2 < H.d) (O : P.Ok) (OH : H.Ok) (a7 : ∀ p ∈ TL, @LT.lt Nat _ H.hl p.1)
    (li : @LT.lt Nat _ H.hl it1.1 ∧ @LT.lt Nat _ H.hl it2.1 ∧ @LT.lt Nat _ H.hl it3.1) (lq : AllNe q [P.x2, P.d2, P.pb2, P.f, P.c, P.x1, P.d1, P.ls, P.cs, L + 1 + 1 + 1 + 1 + 1 + 1, L + 1 + 1 + 1 + 1 + 1, L + 1 + 1 + 1 + 1, L + 1 + 1 + 1, L + 1 + 1, L + 1])
    (d6 : q6.data = .cell (some (.str (tx (b.sp :: b.rank)) tb))) (d5 : q5.data = .cell (some (.str (tx (a.sp :: a.rank)) ta))) (d4 : q4.data = .cell (some (.str ⟨#[a.su]⟩ tc))) (d3 : q3.data = .cell (some (.ref P.x2))) (d2 : p2.data = .cell (some (.ref wl))) (d1 : p1.data = .cell (some (.ref sl)))
    (gD : AllNe D P.addrs) (hrv : Txs rv rkL) (hao : a.Ok) (hbo : b.Ok) (hsu : b.su = a.su) (hst1 : 1 ≤ st) (hst2 : st ≤ 6) (hst3 : (((rkL.idxOf b.rank : Nat) : Int) - ((rkL.idxOf a.rank : Nat) : Int)).fmod 13 = st)
    (hl1 : r0 < r1) (hl2 : r1 < r2) (hperm : [r0, r1, r2].Perm [x, y, z]) (hokT : ∀ u ∈ [x, y, z], u.all reOk = true ∧ u.length < 1000) (el : laidP (a.sp :: a.rank) [r0, r1, r2] st = [a.sp :: a.rank, x', y', z']) (etd : ∀ rs : List (List Nat), toldP rs a.rank x' y' z' = rs.getD ((((rs.idxOf a.rank : Nat) : Int) + st).fmod 13).toNat [])
    (f0 : m (Str.ofString "steps") = some (.int st ts)) (f1 : m (Str.ofString "three") = some (.ref D)) (hm : m (Str.ofString "table") = some (.ref H.x) ∧ m (Str.ofString "script") = some (.ref sc) ∧ m (Str.ofString "ranks") = some (.ref ra) ∧ m (Str.ofString "text") = some (.str (tx (rs.map R1.enc).flatten) tt) ∧ m (Str.ofString "told") = some (.ref q) ∧ m (Str.ofString "j") = some (.int jv tj))
    (hQ : ∀ (pe' : Nat) (h' : Heap) (tk : Nat) m', Fr base L h' m' → News base L h' (it1 :: it2 :: (q, listOf us.toArray us.length) :: it3 :: ((lexLed w P ln tl [] pe' vs.reverse le ++ (hdrLed w H rv' n ++ [(wl, listOf wv.toArray n1), (sl, listOf sv.toArray n2), (ra, listOf rv.toArray 0), (L + 1 + 1 + 1 + 1 + 1 + 1, q6), (L + 1 + 1 + 1 + 1 + 1, q5), (L + 1 + 1 + 1 + 1, q4), (L + 1 + 1 + 1, q3), (L + 1 + 1, p2), (L + 1, p1), (237, tabObj tps)])) ++ TL)) → (m' (Str.ofString "table") = some (.ref H.x) ∧ m' (Str.ofString "script") = some (.ref sc) ∧ m' (Str.ofString "ranks") = some (.ref ra) ∧ m' (Str.ofString "text") = some (.str (tx (rs.map R1.enc).flatten) tt) ∧ m' (Str.ofString "told") = some (.ref q) ∧ m' (Str.ofString "j") = some (.int jv tj)) → Q .next { s with heap := h', toks := tk }) :
    LawAt w fun qual body scope => wpAny (model PP w) (callerA.deeper (envOfC qual scope L fa cd)) (execs ((bodyAt 0 (bodyAt 2 (bodyAt 11 body))).drop 7) (envOfC qual scope L fa cd)) Q (fun _ _ => False) s := by
  obtain ⟨hm1, hm2, hm3, hm4, hm5, hm6⟩ := hm
  obtain ⟨li1, li2, li3⟩ := li
  obtain ⟨I1, o1⟩ := it1
  obtain ⟨I2, o2⟩ := it2
  obtain ⟨I3, o3⟩ := it3
  dsimp only at li1 li2 li3
  have O' := O
  obtain ⟨ocd, ocf, ovq, oord⟩ := O'
  have OH' := OH
  obtain ⟨oh1, oh2⟩ := OH'
  have gg5 := adP_Hx O OH lo h237
  have gg6 := adP_Hd O OH lo h237
  have gg7 := adP_Hhl O OH lo h237
  have gg8 := adP_wl O OH lo h237
  have gg9 := adP_sl O OH lo h237
  have gg10 := adP_ra O OH lo h237
  have gg11 := adP_c1 O OH lo h237
  have gg12 := adP_c2 O OH lo h237
  have gg13 := adP_c3 O OH lo h237
  have gg14 := adP_c4 O OH lo h237
  have gg15 := adP_c5 O OH lo h237
  have gg16 := adP_c6 O OH lo h237
  have gg17 := adP_tab O OH lo h237
  have hph := adP_hi O OH lo h237
  have hTp : ∀ p ∈ TL, p.1 ∉ P.addrs := O.tl a7 hph
  have gg1 : AllNe I1 P.addrs := O.hi (Nat.lt_trans hph li1)
  have gg2 : AllNe I2 P.addrs := O.hi (Nat.lt_trans hph li2)
  have gg3 : AllNe I3 P.addrs := O.hi (Nat.lt_trans hph li3)
  have gg4 : AllNe q P.addrs := ⟨lq.1, lq.2.1, lq.2.2.1, lq.2.2.2.1, lq.2.2.2.2.1, lq.2.2.2.2.2.1, lq.2.2.2.2.2.2.1, lq.2.2.2.2.2.2.2.1, lq.2.2.2.2.2.2.2.2.1, trivial⟩
  obtain ⟨lit, elit⟩ : ∃ lit : List Value, lit = [.str (tx (a.sp :: a.rank)) s0, .str (tx x') s1, .str (tx y') s2, .str (tx z') s3] := ⟨_, rfl⟩
  have hll : lit.length = 4 := by rw [elit]; rfl
  rw [← elit] at N
  simp only [lexLed, hdrLed, List.cons_append, List.nil_append] at N
  refine ⟨_, _, _, _, _, _, _, _, _, _, _, _, _, _, _, by k_is, ?_⟩
  dsimp only [List.drop, bodyAt]
  k_steps
  unfold Stop
  have F1 := F
  k_dflt (refine' LCg.Assign_ListComp_U ?c0 ?cL ?cW ?c1 ?c2 ?c3 ?c4 ?c5 ?cY ?cP ?c8 ?c7; (case c0 => exact F1); (case cL => rfl); (case cW => with_unfolding_all rfl); (case c1 => rfl); (case c2 => decide); (case c3 => rfl); (case c4 => decide); (case c5 => rfl); (case cY => rfl); (case cP => rfl); (case c7 => intro _; rfl))
  k_steps
  unfold Stop
  rename Fr _ _ _ _ => F2
  rename News _ _ _ _ => N2
  rename IsRange _ _ 0 _ 1 _ _ _ => r9
  refine LCg.CompSrc.range (n := 4) rfl F2 N2 r9 (by decide) (by decide) (by decide) fun g2 => ?_
  refine rest_inv (fun i ys nw => ∃ pe' : Nat, ys = lit.take i ∧ nw = (D, listOf #[.str (tx x) t1, .str (tx y) t2, .str (tx z) t3] n3) :: (I1, o1) :: (I2, o2) :: (q, listOf us.toArray us.length) :: (I3, o3) :: ((lexLed w P ln tl (lit.drop i) pe' vs.reverse le ++ (hdrLed w H rv' n ++ [(wl, listOf wv.toArray n1), (sl, listOf sv.toArray n2), (ra, listOf rv.toArray 0), (L + 1 + 1 + 1 + 1 + 1 + 1, q6), (L + 1 + 1 + 1 + 1 + 1, q5), (L + 1 + 1 + 1 + 1, q4), (L + 1 + 1 + 1, q3), (L + 1 + 1, p2), (L + 1, p1), (237, tabObj tps)])) ++ TL)) ⟨pe, rfl, rfl⟩ ?turn ?fin
  case turn =>
    rintro i ys nw v I oI C oC D2 m₂ h tk E' hi ⟨pe', rfl, rfl⟩ hv hns hm F9 N9 off hne
    obtain ⟨v0, pv, hv0, hpv⟩ : ∃ v0 pv, lit[i]? = some v0 ∧ lit.drop i = v0 :: pv := ⟨lit[i], lit.drop (i + 1), List.getElem?_eq_getElem _, List.drop_eq_getElem_cons _⟩
    have hpn : lit.drop (i + 1) = pv := by rw [← List.drop_drop, hpv]; rfl
    have hpl : pv.length ≤ 4 := by rw [← hpn, List.length_drop]; omega
    have off' := off
    rw [hpv] at N9 off
    simp only [lexLed, hdrLed, List.cons_append, List.nil_append] at N9 ⊢
    have nI : AllNe I P.addrs := by
      simp only [lexLed, hdrLed, List.cons_append, List.nil_append, LCg.Off3] at off
      simp only [LexP.addrs, AllNe, and_true]
      simp only [off, not_false_eq_true, and_self, ne_eq]
    have nC : AllNe C P.addrs := by
      simp only [lexLed, hdrLed, List.cons_append, List.nil_append, LCg.Off3] at off
      simp only [LexP.addrs, AllNe, and_true]
      simp only [off, not_false_eq_true, and_self, ne_eq]
    have nD2 : AllNe D2 P.addrs := by
      simp only [lexLed, hdrLed, List.cons_append, List.nil_append, LCg.Off3] at off
      simp only [LexP.addrs, AllNe, and_true]
      simp only [off, not_false_eq_true, and_self, ne_eq]
    k_steps
    rename Fr _ _ _ _ => F8
    rename News _ _ _ _ => N8
    refine ⟨_, _, _, rfl, F8, N8, off', trivial, ?_⟩
    rw [hpn]
    exact ⟨_, by rw [List.take_add_one, hv0]; rfl, rfl⟩
  case fin =>
    rintro ys nw ⟨pe', rfl, rfl⟩
    rw [List.take_of_length_le (by omega), List.drop_of_length_le (by omega)]
    intro D2 h tk F9 N9 off9
    have nD2 := off_new off9
    clear off9
    clear r9 F2 N2 F
    rw [elit] at N9
    simp only [lexLed, hdrLed, List.cons_append, List.nil_append] at N9 nD2
    have N9 : News base L h ((D2, listOf (List.toArray [.str (tx (a.sp :: a.rank)) s0, .str (tx x') s1, .str (tx y') s2, .str (tx z') s3]) 4) :: _) := N9
    have hTs : Txs [Value.str (tx x) t1, .str (tx y) t2, .str (tx z) t3] [x, y, z] := Txs.cons (Txs.cons (Txs.cons Txs.nil))
    k_steps
    unfold Stop
    rename Fr _ _ _ _ => F3
    rename News _ _ _ _ => N3
    k_dflt (refine' sortedS_K ?F ?N ?l ?S ?o ?h ?_; (case F => exact F3); (case N => exact N3); (case l => kmk_list); (case S => exact hTs); (case o => assumption); (case h => exact (by decide : 3 < 64)))
    intro D' h' us' zs' e' F' N' l1 hS3 hp' hs'
    have e3 := sorted3 hl1 hl2 hperm hp' hs'
    subst e3
    (try simp only [lexLed, hdrLed, List.cons_append, List.nil_append] at l1)
    k_lt l1
    clear F3 N3
    k_steps
    unfold Stop
    rename Fr _ _ _ _ => F3
    rename News _ _ _ _ => N3
    have hd0 : 0 ≤ (st - 1).fdiv 2 ∧ (st - 1).fdiv 2 < 3 := by
      rw [Int.fdiv_eq_ediv_of_nonneg _ (by decide)]
      omega
    k_dflt (refine' law_laid ?lB ?lF ?lX ?lT ?ld ?lu ?lN hS3 rfl hd0.1 hd0.2 ?_; (case lB => k_asm); (case lF => exact F3); (case lX => k_asm); (case lT => k_asm); (case ld => decide); (case lu => decide); (case lN => exact news_sub N3 (by k_upd)))
    intro qa us1 n1' h2' tk2' kp fr F7 N7 hu1
    rw [el] at hu1
    have nqa := led_new N3 fr
    k_dflt (refine' repl_go0 kp N3 ?_)
    intro N6
    have N5 := news_cons (news_head N7) N6
    clear N3 N6 N7 F3 kp fr
    dsimp only
    have hokL : ∀ u ∈ [a.sp :: a.rank, x', y', z'], u.all reOk = true := by
      rw [← el]
      exact laidP_ok (reOk_word hao) (fun u hu => (hokT u (hperm.mem_iff.mp hu)).1) (by show _ < 3; omega)
    have hTl : Txs [Value.str (tx (a.sp :: a.rank)) s0, .str (tx x') s1, .str (tx y') s2, .str (tx z') s3] [a.sp :: a.rank, x', y', z'] := Txs.cons (Txs.cons (Txs.cons (Txs.cons Txs.nil)))
    k_dflt (refine' neSame_K ?xa ?xb ?xi ?xj ?xo ?xu ?_; (case xa => kmk_list); (case xb => kmk_list); (case xi => exact hTl); (case xj => exact hu1); (case xo => exact hokL); (case xu => ke_room))
    k_steps
    unfold Stop
    rename Fr _ _ _ _ => F3
    rename News _ _ _ _ => N3
    have hspo : [a.sp].all reOk = true := by
      have := reOk_word hao
      simp only [R1.word, List.all_cons, Bool.and_eq_true] at this
      simp only [List.all_cons, List.all_nil, this.1, Bool.and_true]
    k_dflt (refine' law_told ?lB ?lF ?lX ?lT ?ld ?lu ?lN hrv rfl a.rank_mem hspo ?lk ?_; (case lB => k_asm); (case lF => exact F3); (case lX => k_asm); (case lT => k_asm); (case ld => decide); (case lu => decide); (case lN => exact news_sub N3 (by k_upd)); (case lk => (have := a.rank_ok.2; omega)))
    intro qt u0 u1 h3' tk3' kp fr F7 N7
    have nqt := led_new N3 fr
    k_dflt (refine' repl_go0 kp N3 ?_)
    intro N6
    have N5 := news_cons (news_head N7) N6
    clear N3 N6 N7 F3 kp fr
    dsimp only
    rw [etd, getD_rank (told_idx hst3), List.map_cons, List.map_nil, low_sp hao] at N5
    have hbl : b.rank.length < 1000 := by have := b.rank_ok.2; omega
    k_steps
    unfold Stop
    rename News _ _ _ _ => N3
    k_dflt (refine' pairNe_K ?ya ?yb ?yc ?yd ?ye ?yf ?yg ?yh ?yi ?_; (case ya => exact (N3 _ (List.mem_cons_of_mem _ List.mem_cons_self)).1); (case yb => exact (N3 _ List.mem_cons_self).1); (case yc => rfl); (case yd => rfl); (case ye => rfl); (case yf => rfl); (case yg => exact su_ok hao); (case yh => exact b.rank_ok.1); (case yi => ke_room))
    k_steps
    rename Fr _ _ _ _ => F3
    rename News _ _ _ _ => N3
    exact hQ _ _ _ _ F3 (news_sub N3 (by intro p hp; repeat (first | exact hp | apply List.mem_cons_of_mem))) ⟨by ktr_unf, by ktr_unf, by ktr_unf, by ktr_unf, by ktr_unf, by ktr_unf⟩
end
end
theorem cx19 {p : Program} {w : World} {A : Around} {Q : Value → Shared → Prop} {E : Value → Shared → Prop} {s : Shared} (h : wpAny (model p w) A (pyIter Value.none) Q E s) : wpAny (model p w) A (pyIter Value.none) Q E s := by first | (walk1; fail "x") | exact h
section
section
variable {w : World} {L : Addr} {base : Heap} {m : Str → Option Value} {s : Shared} {p : Program} {loose : List Str} {mean : ExcName → Option Value} {mg mb : Str → Option Value} {fa : Addr} {cd : Value} {Q : Flow → Shared → Prop} {scv : List Value} {scn : List Int} {sc : Addr}
set_option maxHeartbeats 0 in
theorem stD {rs : List R1} {sv wv rv us : List Value} {tt tj : Tok} {jv : Int} {n1 n2 pe : Nat} {wl sl ra q : Nat} {q6 q5 q4 q3 p2 p1 : Obj} {P : LexP} {H : HdrP} {ln : Int} {tl : Tok} {vs rv' : List Value} {le n : Nat} {TL : List (Addr × Obj)} {tps : Array Value} {it1 it2 it3 : Addr × Obj} {a b : R1} {st : Int} {ta tb ts tc : Tok} (B : Below callerA base [] base) (F : Fr base L s.heap m) (X : (hd1.heap_1 w.params).In base) (T : Top p loose mean mg mb base) (h237 : @LT.lt Nat _ 237 L) (hsl : base.IsList sc scv.toArray) (hIs : IntsAre scv scn) (hc63 : scv.length ≤ 63)
    (N : News base L s.heap (it1 :: it2 :: (q, listOf us.toArray us.length) :: it3 :: ((lexLed w P ln tl [] pe vs.reverse le ++ (hdrLed w H rv' n ++ [(wl, listOf wv.toArray n1), (sl, listOf sv.toArray n2), (ra, listOf rv.toArray 0), (L + 1 + 1 + 1 + 1 + 1 + 1, q6), (L + 1 + 1 + 1 + 1 + 1, q5), (L + 1 + 1 + 1 + 1, q4), (L + 1 + 1 + 1, q3), (L + 1 + 1, p2), (L + 1, p1), (237, tabObj tps)])) ++ TL))) (lo : @LT.lt Nat _ (L + 1 + 1 + 1 + 1 + 1 + 1) ra ∧ @LT.lt Nat _ ra sl ∧ @LT.lt Nat _ sl wl ∧ @LT.lt Nat _ wl P.cs ∧ P.pb2 < H.d) (O : P.Ok) (OH : H.Ok) (a7 : ∀ p ∈ TL, @LT.lt Nat _ H.hl p.1)
    (li : @LT.lt Nat _ H.hl it1.1 ∧ @LT.lt Nat _ H.hl it2.1 ∧ @LT.lt Nat _ H.hl it3.1) (lq : AllNe q [P.x2, P.d2, P.pb2, P.f, P.c, P.x1, P.d1, P.ls, P.cs, L + 1 + 1 + 1 + 1 + 1 + 1, L + 1 + 1 + 1 + 1 + 1, L + 1 + 1 + 1 + 1, L + 1 + 1 + 1, L + 1 + 1, L + 1])
    (d6 : q6.data = .cell (some (.str (tx (b.sp :: b.rank)) tb))) (d5 : q5.data = .cell (some (.str (tx (a.sp :: a.rank)) ta))) (d4 : q4.data = .cell (some (.str ⟨#[a.su]⟩ tc))) (d3 : q3.data = .cell (some (.ref P.x2))) (d2 : p2.data = .cell (some (.ref wl))) (d1 : p1.data = .cell (some (.ref sl)))
    (hrv : Txs rv rkL) (hwv : Txs wv (rs.map R1.word)) (h5 : rs.length = 5) (hok : ∀ r ∈ rs, r.Ok) (hnd : (rs.map (·.c)).Nodup) (ham : a ∈ rs) (hbm : b ∈ rs) (habc : a.c ≠ b.c) (hsu : b.su = a.su) (hst1 : 1 ≤ st) (hst2 : st ≤ 6) (hst3 : (((rkL.idxOf b.rank : Nat) : Int) - ((rkL.idxOf a.rank : Nat) : Int)).fmod 13 = st)
    (f0 : m (Str.ofString "steps") = some (.int st ts)) (hm : m (Str.ofString "table") = some (.ref H.x) ∧ m (Str.ofString "script") = some (.ref sc) ∧ m (Str.ofString "ranks") = some (.ref ra) ∧ m (Str.ofString "text") = some (.str (tx (rs.map R1.enc).flatten) tt) ∧ m (Str.ofString "told") = some (.ref q) ∧ m (Str.ofString "j") = some (.int jv tj))
    (hQ : ∀ (pe' : Nat) (h' : Heap) (tk : Nat) m', Fr base L h' m' → News base L h' (it1 :: it2 :: (q, listOf us.toArray us.length) :: it3 :: ((lexLed w P ln tl [] pe' vs.reverse le ++ (hdrLed w H rv' n ++ [(wl, listOf wv.toArray n1), (sl, listOf sv.toArray n2), (ra, listOf rv.toArray 0), (L + 1 + 1 + 1 + 1 + 1 + 1, q6), (L + 1 + 1 + 1 + 1 + 1, q5), (L + 1 + 1 + 1 + 1, q4), (L + 1 + 1 + 1, q3), (L + 1 + 1, p2), (L + 1, p1), (237, tabObj tps)])) ++ TL)) → (m' (Str.ofString "table") = some (.ref H.x) ∧ m' (Str.ofString "script") = some (.ref sc) ∧ m' (Str.ofString "ranks") = some (.ref ra) ∧ m' (Str.ofString "text") = some (.str (tx (rs.map R1.enc).flatten) tt) ∧ m' (Str.ofString "told") = some (.ref q) ∧ m' (Str.ofString "j") = some (.int jv tj)) → Q .next { s with heap := h', toks := tk }) :
    LawAt w fun qual body scope => wpAny (model PP w) (callerA.deeper (envOfC qual scope L fa cd)) (execs ((bodyAt 0 (bodyAt 2 (bodyAt 11 body))).drop 4) (envOfC qual scope L fa cd)) Q (fun _ _ => False) s := by
  obtain ⟨hm1, hm2, hm3, hm4, hm5, hm6⟩ := hm
  obtain ⟨li1, li2, li3⟩ := li
  obtain ⟨I1, o1⟩ := it1
  obtain ⟨I2, o2⟩ := it2
  obtain ⟨I3, o3⟩ := it3
  dsimp only at li1 li2 li3
  have nq : ∀ p ∈ (lexLed w P ln tl [] pe vs.reverse le ++ [(L + 1 + 1 + 1 + 1 + 1 + 1, q6), (L + 1 + 1 + 1 + 1 + 1, q5), (L + 1 + 1 + 1 + 1, q4), (L + 1 + 1 + 1, q3), (L + 1 + 1, p2), (L + 1, p1)]), NeW p.1 q := allNe_new lq
  simp only [lexLed, List.cons_append, List.nil_append] at nq
  have O' := O
  obtain ⟨ocd, ocf, ovq, oord⟩ := O'
  have OH' := OH
  obtain ⟨oh1, oh2⟩ := OH'
  have N1 := N
  simp only [lexLed, hdrLed, List.cons_append, List.nil_append] at N
  refine ⟨_, _, _, _, _, _, _, _, _, _, _, _, _, _, _, by k_is, ?_⟩
  dsimp only [List.drop, bodyAt]
  k_steps
  unfold Stop
  have F1 := F
  k_dflt (refine' LCt.Assign_ListComp_T ?c0 ?cL ?cW ?c1 ?c2 ?c3 ?c4 ?c5 ?cY ?cP ?c8 ?c7; (case c0 => exact F1); (case cL => rfl); (case cW => with_unfolding_all rfl); (case c1 => rfl); (case c2 => decide); (case c3 => rfl); (case c4 => decide); (case c5 => rfl); (case cY => rfl); (case cP => rfl); (case c7 => intro _; rfl))
  k_steps
  refine LCt.CompSrcT.ledger rfl F N (by k_mem) (by rw [List.size_toArray]; have := hwv.length; rw [List.length_map] at this; rw [PySem.sizeLine_eq]; omega) fun g2 => ?_
  refine restT_inv (fun i ys nw => nw = (I1, o1) :: (I2, o2) :: (q, listOf us.toArray us.length) :: (I3, o3) :: ((lexLed w P ln tl [] pe vs.reverse le ++ (hdrLed w H rv' n ++ [(wl, listOf wv.toArray n1), (sl, listOf sv.toArray n2), (ra, listOf rv.toArray 0), (L + 1 + 1 + 1 + 1 + 1 + 1, q6), (L + 1 + 1 + 1 + 1 + 1, q5), (L + 1 + 1 + 1 + 1, q4), (L + 1 + 1 + 1, q3), (L + 1 + 1, p2), (L + 1, p1), (237, tabObj tps)])) ++ TL) ∧ Txs ys (((rs.map R1.word).take i).filter fun y => decide (y ≠ a.word ∧ y ≠ b.word))) ⟨rfl, Txs.nil⟩ ?turn ?fin
  case turn =>
    rintro i ys nw v I oI C oC D m₂ h tk E' hi ⟨rfl, hs⟩ hv hns hm F9 N9 off hne
    obtain ⟨y, t1, hy, rfl⟩ := hwv.at (show wv[i]? = some v by simpa using hv)
    simp only [lexLed, hdrLed, List.cons_append, List.nil_append] at N9 ⊢
    k_steps
    · have h1 : y ≠ a.word := fun e => absurd (sc_zero (x := y) (y := a.sp :: a.rank) |>.mpr e) (by assumption)
      have h2 : y ≠ b.word := fun e => absurd (sc_zero (x := y) (y := b.sp :: b.rank) |>.mpr e) (by assumption)
      rename Fr _ _ _ _ => F8
      rename News _ _ _ _ => N8
      refine ⟨_, _, _, rfl, F8, N8, off, .inr ⟨_, by k_mem, rfl, _, rfl⟩, rfl, ?_⟩
      rw [filt_snoc hy, if_pos (by simp [h1, h2])]
      exact hs.append (Txs.cons Txs.nil)
    · have h2 : y = b.word := sc_zero (x := y) (y := b.sp :: b.rank) |>.mp (by assumption)
      rename Fr _ _ _ _ => F8
      rename News _ _ _ _ => N8
      refine ⟨_, _, _, rfl, F8, N8, off, .inr ⟨_, by k_mem, rfl, _, rfl⟩, rfl, ?_⟩
      rw [filt_snoc hy, if_neg (by simp [h2]), List.append_nil]
      exact hs
    · have h1 : y = a.word := sc_zero (x := y) (y := a.sp :: a.rank) |>.mp (by assumption)
      rename Fr _ _ _ _ => F8
      rename News _ _ _ _ => N8
      refine ⟨_, _, _, rfl, F8, N8, off, .inr ⟨_, by k_mem, rfl, _, rfl⟩, rfl, ?_⟩
      rw [filt_snoc hy, if_neg (by simp [h1]), List.append_nil]
      exact hs
  case fin =>
    rintro ys nw ⟨rfl, hs⟩
    rw [List.size_toArray, hwv.length, List.take_length] at hs
    simp only [lexLed, hdrLed, List.cons_append, List.nil_append]
    intro D h tk F9 N9 off9
    have nD := off_new off9
    clear off9
    have N9 : News base L h ((D, listOf ys.toArray ys.length) :: _) := N9
    clear F1 N1 N F
    k_steps
    unfold Stop
    have hokT : ∀ y ∈ (rs.map R1.word).filter (fun y => decide (y ≠ a.word ∧ y ≠ b.word)), y.all reOk = true := fun y hy => by
      obtain ⟨r, hr, rfl⟩ := List.mem_map.mp (List.mem_filter.mp hy).1
      exact reOk_word (hok r hr)
    have hwl : wv.length = 5 := by rw [hwv.length, List.length_map]; exact h5
    rename Fr _ _ _ _ => F1
    k_dflt (refine' LCt.ListComp_T ?z0 ?z1 ?z2 ?z3 ?z4 ?z5 ?z8 ?z7; (case z0 => exact F1); (case z1 => rfl); (case z2 => decide); (case z3 => rfl); (case z4 => decide); (case z5 => rfl); (case z7 => intro _; rfl))
    k_steps
    rename Fr _ _ _ _ => F2
    rename News _ _ _ _ => N2
    refine LCt.CompSrcT.ledger rfl F2 N2 (by k_mem) (by rw [List.size_toArray, PySem.sizeLine_eq]; omega) fun g2 => ?_
    refine restT_inv (fun i zs nw => nw = (D, listOf ys.toArray ys.length) :: (I1, o1) :: (I2, o2) :: (q, listOf us.toArray us.length) :: (I3, o3) :: ((lexLed w P ln tl [] pe vs.reverse le ++ (hdrLed w H rv' n ++ [(wl, listOf wv.toArray n1), (sl, listOf sv.toArray n2), (ra, listOf rv.toArray 0), (L + 1 + 1 + 1 + 1 + 1 + 1, q6), (L + 1 + 1 + 1 + 1 + 1, q5), (L + 1 + 1 + 1 + 1, q4), (L + 1 + 1 + 1, q3), (L + 1 + 1, p2), (L + 1, p1), (237, tabObj tps)])) ++ TL) ∧ Txs zs (((rs.map R1.word).take i).filter fun y => decide (y ≠ a.word ∧ y ≠ b.word))) ⟨rfl, Txs.nil⟩ ?turn2 ?fin2
    case turn2 =>
      rintro i zs nw v I oI C oC D2 m₂ h tk E' hi ⟨rfl, hz⟩ hv hns hm F9 N9 off hne
      obtain ⟨y, t1, hy, rfl⟩ := hwv.at (show wv[i]? = some v by simpa using hv)
      simp only [lexLed, hdrLed, List.cons_append, List.nil_append] at N9 ⊢
      k_steps
      · have hn : a.word = y ∨ b.word = y := of_decide_eq_true ((any2 _ _ _).symm.trans (by assumption))
        rename Fr _ _ _ _ => F8
        rename News _ _ _ _ => N8
        refine ⟨_, _, _, rfl, F8, news_tail N8, off, .inr ⟨_, by k_mem, rfl, _, rfl⟩, rfl, ?_⟩
        rw [filt_snoc hy, if_neg (by rcases hn with h | h <;> simp [h]), List.append_nil]
        exact hz
      · have hn : ¬ (a.word = y ∨ b.word = y) := of_decide_eq_false ((any2 _ _ _).symm.trans (by assumption))
        rename Fr _ _ _ _ => F8
        rename News _ _ _ _ => N8
        refine ⟨_, _, _, rfl, F8, news_tail N8, off, .inr ⟨_, by k_mem, rfl, _, rfl⟩, rfl, ?_⟩
        rw [filt_snoc hy, if_pos (by simp only [not_or] at hn; simp [Ne.symm hn.1, Ne.symm hn.2])]
        exact hz.append (Txs.cons Txs.nil)
    case fin2 =>
      rintro zs nw ⟨rfl, hz⟩
      rw [List.size_toArray, hwv.length, List.take_length] at hz
      simp only [lexLed, hdrLed, List.cons_append, List.nil_append]
      intro D2 h tk F9 N9 off9
      have nD2 := off_new off9
      clear off9
      have N9 : News base L h ((D2, listOf zs.toArray zs.length) :: _) := N9
      k_steps
      unfold Stop
      rename Fr _ _ _ _ => F3
      rename News _ _ _ _ => N3
      obtain ⟨x, y, z, e3, hne⟩ := filter3 h5 hok hnd ham hbm habc
      rw [e3] at hs
      obtain ⟨t1, t2, t3, rfl⟩ := Txs3 hs
      have gg8 := adP_Hx O OH lo h237
      have gg9 := adP_Hd O OH lo h237
      have gg10 := adP_Hhl O OH lo h237
      have gg11 := adP_wl O OH lo h237
      have gg12 := adP_sl O OH lo h237
      have gg13 := adP_ra O OH lo h237
      have gg14 := adP_c1 O OH lo h237
      have gg15 := adP_c2 O OH lo h237
      have gg16 := adP_c3 O OH lo h237
      have gg17 := adP_c4 O OH lo h237
      have gg18 := adP_c5 O OH lo h237
      have gg19 := adP_c6 O OH lo h237
      have gg20 := adP_tab O OH lo h237
      have hph := adP_hi O OH lo h237
      have gg4 : AllNe I1 P.addrs := O.hi (Nat.lt_trans hph li1)
      have gg5 : AllNe I2 P.addrs := O.hi (Nat.lt_trans hph li2)
      have gg6 : AllNe I3 P.addrs := O.hi (Nat.lt_trans hph li3)
      have gg7 : AllNe q P.addrs := ⟨lq.1, lq.2.1, lq.2.2.1, lq.2.2.2.1, lq.2.2.2.2.1, lq.2.2.2.2.2.1, lq.2.2.2.2.2.2.1, lq.2.2.2.2.2.2.2.1, lq.2.2.2.2.2.2.2.2.1, trivial⟩
      have gg2 : AllNe D2 P.addrs := by (simp only [LexP.addrs, AllNe, and_true]; (repeat' (first | refine And.intro ?_ ?_)); all_goals k_ne)
      have hD : AllNe D P.addrs := by
        simp only [LexP.addrs, AllNe, and_true]
        repeat' (first | refine And.intro ?_ ?_)
        all_goals k_ne
      have hTa : ∀ p ∈ TL, p.1 ∉ D :: P.addrs := fun p hp h => by
        rcases List.mem_cons.mp h with h | h
        · exact nD p (by repeat (first | exact hp | apply List.mem_cons_of_mem)) h
        · exact O.tl a7 hph p hp h
      have hh0 : AllNe (D2) (D :: P.addrs) := ⟨by k_ne, gg2⟩
      have hh1 : AllNe (I1) (D :: P.addrs) := ⟨by k_ne, gg4⟩
      have hh2 : AllNe (I2) (D :: P.addrs) := ⟨by k_ne, gg5⟩
      have hh3 : AllNe (I3) (D :: P.addrs) := ⟨by k_ne, gg6⟩
      have hh4 : AllNe (q) (D :: P.addrs) := ⟨by k_ne, gg7⟩
      have hh5 : AllNe (H.x) (D :: P.addrs) := ⟨by k_ne, gg8⟩
      have hh6 : AllNe (H.d) (D :: P.addrs) := ⟨by k_ne, gg9⟩
      have hh7 : AllNe (H.hl) (D :: P.addrs) := ⟨by k_ne, gg10⟩
      have hh8 : AllNe (wl) (D :: P.addrs) := ⟨by k_ne, gg11⟩
      have hh9 : AllNe (sl) (D :: P.addrs) := ⟨by k_ne, gg12⟩
      have hh10 : AllNe (ra) (D :: P.addrs) := ⟨by k_ne, gg13⟩
      have hh11 : AllNe (L + 1) (D :: P.addrs) := ⟨by k_ne, gg14⟩
      have hh12 : AllNe (L + 1 + 1) (D :: P.addrs) := ⟨by k_ne, gg15⟩
      have hh13 : AllNe (L + 1 + 1 + 1) (D :: P.addrs) := ⟨by k_ne, gg16⟩
      have hh14 : AllNe (L + 1 + 1 + 1 + 1) (D :: P.addrs) := ⟨by k_ne, gg17⟩
      have hh15 : AllNe (L + 1 + 1 + 1 + 1 + 1) (D :: P.addrs) := ⟨by k_ne, gg18⟩
      have hh16 : AllNe (L + 1 + 1 + 1 + 1 + 1 + 1) (D :: P.addrs) := ⟨by k_ne, gg19⟩
      have hh17 : AllNe (237) (D :: P.addrs) := ⟨by k_ne, gg20⟩
      k_dflt (refine' sort_line ?sB ?sF ?sX ?sT ?sd ?su O ?sN hD hne ?_; (case sB => k_asm); (case sF => exact F3); (case sX => k_asm); (case sT => k_asm); (case sd => decide); (case su => decide); (case sN => exact news_sub N3 (by k_upd)))
      intro rw r0 r1 r2 u0 u1 u2 nr pe' h1 tk1 N7 F7 kp fr hl1 hl2 hperm
      have nrw := led_new N3 fr
      k_dflt (refine' repl_go kp (news_tail N7) N3 ?sr ?_; (case sr => k_upd))
      intro N6
      have N5 := news_cons (news_head N7) N6
      clear N3 N6 N7 F3 kp fr
      dsimp only
      k_steps
      unfold Stop
      clear hh0 hh1 hh2 hh3 hh4 hh5 hh6 hh7 hh8 hh9 hh10 hh11 hh12 hh13 hh14 hh15 hh16 hh17
      rename Fr _ _ _ _ => F3
      rename News _ _ _ _ => N3
      obtain ⟨x', y', z', el, etd⟩ := laid_told (k := a.rank) (s := a.sp) hl1 hl2 hst1 hst2
      have hd0 : 0 ≤ (st - 1).fdiv 2 ∧ (st - 1).fdiv 2 < 3 := by
        rw [Int.fdiv_eq_ediv_of_nonneg _ (by decide)]
        omega
      k_dflt (refine' law_laid ?lB ?lF ?lX ?lT ?ld ?lu ?lN (Txs.cons (Txs.cons (Txs.cons Txs.nil))) rfl hd0.1 hd0.2 ?_; (case lB => k_asm); (case lF => exact F3); (case lX => k_asm); (case lT => k_asm); (case ld => decide); (case lu => decide); (case lN => exact news_sub N3 (by k_upd)))
      intro qa us1 n1' h2' tk2' kp fr F7 N7 hu1
      rw [el] at hu1
      obtain ⟨s0, s1, s2, s3, rfl⟩ := Txs4 hu1
      have nqa := led_new N3 fr
      have hTp : ∀ p ∈ TL, p.1 ∉ P.addrs := O.tl a7 hph
      k_dflt (refine' repl_go0 kp N3 ?_)
      intro N6
      have N5 := news_cons (news_head N7) N6
      clear N3 N6 N7 F3 kp fr
      have gg3 := hD
      have gg0 : AllNe (qa) P.addrs := by (simp only [LexP.addrs, AllNe, and_true]; (repeat' (first | refine And.intro ?_ ?_)); all_goals k_ne)
      have gg1 : AllNe (rw) P.addrs := by (simp only [LexP.addrs, AllNe, and_true]; (repeat' (first | refine And.intro ?_ ?_)); all_goals k_ne)
      dsimp only
      k_steps
      rename Fr _ _ _ _ => F3
      rename News _ _ _ _ => N3
      obtain ⟨lit, elit⟩ : ∃ lit : List Value, lit = [.str (tx (a.sp :: a.rank)) s0, .str (tx x') s1, .str (tx y') s2, .str (tx z') s3] := ⟨_, rfl⟩
      obtain ⟨n3, en3⟩ : ∃ n3 : Nat, n3 = [Value.str (tx x) t1, .str (tx y) t2, .str (tx z) t3].length := ⟨_, rfl⟩
      have N4 := news_sub (sub := (qa, listOf ([.str (tx (a.sp :: a.rank)) s0, .str (tx x') s1, .str (tx y') s2, .str (tx z') s3] : List Value).toArray n1') :: (rw, listOf #[.str (tx r0) u0, .str (tx r1) u1, .str (tx r2) u2] nr) :: (D, listOf #[.str (tx x) t1, .str (tx y) t2, .str (tx z) t3] ([Value.str (tx x) t1, .str (tx y) t2, .str (tx z) t3].length)) :: (I1, o1) :: (I2, o2) :: (q, listOf us.toArray us.length) :: (I3, o3) :: ((lexLed w P ln tl [] pe' vs.reverse le ++ (hdrLed w H rv' n ++ [(wl, listOf wv.toArray n1), (sl, listOf sv.toArray n2), (ra, listOf rv.toArray 0), (L + 1 + 1 + 1 + 1 + 1 + 1, q6), (L + 1 + 1 + 1 + 1 + 1, q5), (L + 1 + 1 + 1 + 1, q4), (L + 1 + 1 + 1, q3), (L + 1 + 1, p2), (L + 1, p1), (237, tabObj tps)])) ++ TL)) N3 (subs_cons (by k_mem) (subs_cons (by k_mem) (subs_cons (by k_mem) (subs_cons (by k_mem) (subs_cons (by k_mem) (subs_cons (by k_mem) (subs_cons (by k_mem) (subs_app (by simp only [lexLed, hdrLed, List.cons_append, List.nil_append]; k_upd) (fun p hp => by repeat (first | exact hp | apply List.mem_cons_of_mem))))))))))
      rw [← en3, ← elit] at N4
      have hll : lit.length = 4 := by rw [elit]; rfl
      refine iter_listUnr (lo := listOf lit.toArray n1') (vs := lit) (n := n1') rfl F3 N4 List.mem_cons_self rfl rfl fun Ip l7 => ?_
      have l_Ipa := allLt_of l7
      simp only [lexLed, hdrLed, List.cons_append, List.nil_append] at l7
      k_lt l7
      have hIp : AllNe Ip P.addrs := O.hi (by omega)
      have hIpT : ∀ p ∈ TL, @LT.lt Nat _ p.1 Ip := allLt_mem (show AllLt Ip TL from by simp only [l7])
      obtain ⟨IvP, IvPi, IvPe⟩ : ∃ IvP : Nat → (Str → Option Value) → List (Addr × Obj) → Prop, (∀ i m' nw, (∃ (pe' : Nat), m' (Str.ofString "table") = some (.ref H.x) ∧ m' (Str.ofString "script") = some (.ref sc) ∧ m' (Str.ofString "ranks") = some (.ref ra) ∧ m' (Str.ofString "text") = some (.str (tx (rs.map R1.enc).flatten) tt) ∧ m' (Str.ofString "told") = some (.ref q) ∧ m' (Str.ofString "j") = some (.int jv tj) ∧ m' (Str.ofString "steps") = some (.int st ts) ∧ m' (Str.ofString "three") = some (.ref D) ∧ nw = (qa, listOf (lit).toArray n1') :: (rw, listOf #[.str (tx r0) u0, .str (tx r1) u1, .str (tx r2) u2] nr) :: (D, listOf #[.str (tx x) t1, .str (tx y) t2, .str (tx z) t3] n3) :: (I1, o1) :: (I2, o2) :: (q, listOf us.toArray us.length) :: (I3, o3) :: ((lexLed w P ln tl (lit.take i) pe' vs.reverse le ++ (hdrLed w H rv' n ++ [(wl, listOf wv.toArray n1), (sl, listOf sv.toArray n2), (ra, listOf rv.toArray 0), (L + 1 + 1 + 1 + 1 + 1 + 1, q6), (L + 1 + 1 + 1 + 1 + 1, q5), (L + 1 + 1 + 1 + 1, q4), (L + 1 + 1 + 1, q3), (L + 1 + 1, p2), (L + 1, p1), (237, tabObj tps)])) ++ TL)) → IvP i m' nw) ∧ (∀ i m' nw (G : Prop), IvP i m' nw → (∀ (pe' : Nat), (m' (Str.ofString "table") = some (.ref H.x)) → (m' (Str.ofString "script") = some (.ref sc)) → (m' (Str.ofString "ranks") = some (.ref ra)) → (m' (Str.ofString "text") = some (.str (tx (rs.map R1.enc).flatten) tt)) → (m' (Str.ofString "told") = some (.ref q)) → (m' (Str.ofString "j") = some (.int jv tj)) → (m' (Str.ofString "steps") = some (.int st ts)) → (m' (Str.ofString "three") = some (.ref D)) → (nw = (qa, listOf (lit).toArray n1') :: (rw, listOf #[.str (tx r0) u0, .str (tx r1) u1, .str (tx r2) u2] nr) :: (D, listOf #[.str (tx x) t1, .str (tx y) t2, .str (tx z) t3] n3) :: (I1, o1) :: (I2, o2) :: (q, listOf us.toArray us.length) :: (I3, o3) :: ((lexLed w P ln tl (lit.take i) pe' vs.reverse le ++ (hdrLed w H rv' n ++ [(wl, listOf wv.toArray n1), (sl, listOf sv.toArray n2), (ra, listOf rv.toArray 0), (L + 1 + 1 + 1 + 1 + 1 + 1, q6), (L + 1 + 1 + 1 + 1 + 1, q5), (L + 1 + 1 + 1 + 1, q4), (L + 1 + 1 + 1, q3), (L + 1 + 1, p2), (L + 1, p1), (237, tabObj tps)])) ++ TL)) → G) → G) := ⟨fun i m' nw => ∃ (pe' : Nat), m' (Str.ofString "table") = some (.ref H.x) ∧ m' (Str.ofString "script") = some (.ref sc) ∧ m' (Str.ofString "ranks") = some (.ref ra) ∧ m' (Str.ofString "text") = some (.str (tx (rs.map R1.enc).flatten) tt) ∧ m' (Str.ofString "told") = some (.ref q) ∧ m' (Str.ofString "j") = some (.int jv tj) ∧ m' (Str.ofString "steps") = some (.int st ts) ∧ m' (Str.ofString "three") = some (.ref D) ∧ nw = (qa, listOf (lit).toArray n1') :: (rw, listOf #[.str (tx r0) u0, .str (tx r1) u1, .str (tx r2) u2] nr) :: (D, listOf #[.str (tx x) t1, .str (tx y) t2, .str (tx z) t3] n3) :: (I1, o1) :: (I2, o2) :: (q, listOf us.toArray us.length) :: (I3, o3) :: ((lexLed w P ln tl (lit.take i) pe' vs.reverse le ++ (hdrLed w H rv' n ++ [(wl, listOf wv.toArray n1), (sl, listOf sv.toArray n2), (ra, listOf rv.toArray 0), (L + 1 + 1 + 1 + 1 + 1 + 1, q6), (L + 1 + 1 + 1 + 1 + 1, q5), (L + 1 + 1 + 1 + 1, q4), (L + 1 + 1 + 1, q3), (L + 1 + 1, p2), (L + 1, p1), (237, tabObj tps)])) ++ TL), fun _ _ _ h => h, fun _ _ _ _ h k => by obtain ⟨pe', z0, z1, z2, z3, z4, z5, z6, z7, z8⟩ := h; exact k pe' z0 z1 z2 z3 z4 z5 z6 z7 z8⟩
      refine listRest_inv IvP (IvPi _ _ _ ⟨pe', by ktr_unf, by ktr_unf, by ktr_unf, by ktr_unf, by ktr_unf, by ktr_unf, by ktr_unf, by ktr_unf, rfl⟩) (fun i m' nw h => IvPe _ _ _ _ h fun _ _ _ _ _ _ _ _ _ en => en ▸ List.mem_cons_self) ?turn5 ?fin5
      case turn5 =>
        rintro i v m' nw it h tk hv hv9 hit F9 N9
        refine IvPe _ _ _ _ hv9 fun pe' g1 g2 g3 g4 g5 g6 g7 g8 en => ?_
        clear hv9
        subst en
        have hil : i < lit.length := (List.getElem?_eq_some_iff.mp hv).1
        obtain ⟨pv, hpv⟩ : ∃ pv, pv = lit.take i := ⟨_, rfl⟩
        have hpl : pv.length ≤ 4 := by rw [hpv, List.length_take]; omega
        have hpn : pv ++ [v] = lit.take (i + 1) := by rw [hpv, List.take_add_one, hv]; rfl
        rw [← hpv] at N9
        simp only [lexLed, hdrLed, List.cons_append, List.nil_append] at N9
        k_steps
        unfold Stop
        rename News _ _ _ _ => N8
        refine UnrEnd.intro (by assumption) N8 ((qa, listOf (lit).toArray n1') :: (rw, listOf #[.str (tx r0) u0, .str (tx r1) u1, .str (tx r2) u2] nr) :: (D, listOf #[.str (tx x) t1, .str (tx y) t2, .str (tx z) t3] n3) :: (I1, o1) :: (I2, o2) :: (q, listOf us.toArray us.length) :: (I3, o3) :: ((lexLed w P ln tl (pv ++ [v]) _ vs.reverse le ++ (hdrLed w H rv' n ++ [(wl, listOf wv.toArray n1), (sl, listOf sv.toArray n2), (ra, listOf rv.toArray 0), (L + 1 + 1 + 1 + 1 + 1 + 1, q6), (L + 1 + 1 + 1 + 1 + 1, q5), (L + 1 + 1 + 1 + 1, q4), (L + 1 + 1 + 1, q3), (L + 1 + 1, p2), (L + 1, p1), (237, tabObj tps)])) ++ TL)) (fun p hp => hp) (fun p hp => by refine Nat.ne_of_lt (allLt_mem ?_ p hp); exact l_Ipa)
          (IvPi _ _ _ ⟨_, by ktr_unf, by ktr_unf, by ktr_unf, by ktr_unf, by ktr_unf, by ktr_unf, by ktr_unf, by ktr_unf, by first | (rw [hpn]; done) | (rw [hpn]; rfl)⟩)
      case fin5 =>
        rintro m' nw h tk hv9 F9 N9
        refine IvPe _ _ _ _ hv9 fun pe' g1 g2 g3 g4 g5 g6 g7 g8 en => ?_
        clear hv9
        subst en
        rw [List.take_of_length_le (Nat.le_refl _)] at N9
        rw [elit] at N9
        have hok3 : ∀ u ∈ [x, y, z], u.all reOk = true ∧ u.length < 1000 := fun u hu => by
          rw [← e3] at hu
          obtain ⟨r, hr, rfl⟩ := List.mem_map.mp (List.mem_filter.mp hu).1
          refine ⟨reOk_word (hok r hr), ?_⟩
          have := r.rank_ok.2
          show r.rank.length + 1 < 1000
          omega
        show wpAny _ _ _ _ _ _
        refine (stE (L := L) (s := ⟨h, s.gens, s.drawn, tk, s.os⟩) B F9 X T h237 hsl hIs hc63 (news_sub N9 (fun p hp => List.mem_cons_of_mem _ (List.mem_cons_of_mem _ hp))) lo O OH a7 ⟨li1, li2, li3⟩ lq d6 d5 d4 d3 d2 d1 gg3 hrv (hok a ham) (hok b hbm) hsu hst1 hst2 hst3 hl1 hl2 hperm hok3 el etd g7 g8 ⟨g1, g2, g3, g4, g5, g6⟩ ?_).use (by k_is)
        exact hQ
end
end
section
local macro_rules | `(tactic| k_enter) => `(tactic| ((with_reducible show codeAny _ _ (Code.call (Value.ref 73) _) _ _); refine Stop.out ?_))
theorem cx20 {p : Program} {w : World} {A : Around} {Q : Value → Shared → Prop} {E : Value → Shared → Prop} {s : Shared} (h : wpAny (model p w) A (pyIter Value.none) Q E s) : wpAny (model p w) A (pyIter Value.none) Q E s := by first | (walk1; fail "x") | exact h
section
local macro_rules | `(tactic| walk_at "exec For Name Constant cons nil") => `(tactic| (k_here; refine Stop.out ?_))
local macro_rules | `(tactic| walk_at "pyIter str") => `(tactic| (k_here; refine Stop.out ?_))
local macro_rules | `(tactic| walk_at "exec If") => `(tactic| (k_here; (have zz : MkB := by assumption); clear zz; refine Stop.out ?_))
local macro_rules | `(tactic| walk_at "UnrEndW") => `(tactic| ((with_reducible show UnrEndW _ _ _ _ _ _); refine Stop.out ?_))
local macro_rules | `(tactic| walk_at "subscriptTail Name Name ref int") => `(tactic| (k_here; k_dflt (refine' itemEq_K (by kmk_list) (by assumption) (by assumption) (by l_idx) (by l_idx) (by ktr_rel) ?_ (by with_unfolding_all rfl) (by intro _; with_unfolding_all rfl)); intro t'))
section
variable {w : World} {L : Addr} {base : Heap} {m : Str → Option Value} {s : Shared} {p : Program} {loose : List Str} {mean : ExcName → Option Value} {mg mb : Str → Option Value} {fa : Addr} {cd : Value} {Q : Flow → Shared → Prop} {scv : List Value} {scn : List Int} {sc : Addr}
set_option maxHeartbeats 0 in
theorem stC {rs : List R1} {sv wv rv : List Value} {tt : Tok} {n1 n2 : Nat} {wl sl ra : Nat} {p6 p5 p4 q3 p2 p1 : Obj} {x6 x5 x4 : Option Value} {P : LexP} {H : HdrP} {ln : Int} {tl : Tok} {vs rv' : List Value} {le n : Nat} {cs : List Nat} {TL : List (Addr × Obj)} {tps : Array Value} (B : Below callerA base [] base) (F : Fr base L s.heap m) (X : (hd1.heap_1 w.params).In base) (T : Top p loose mean mg mb base) (h237 : @LT.lt Nat _ 237 L) (hsl : base.IsList sc scv.toArray) (hIs : IntsAre scv scn) (hc63 : scv.length ≤ 63)
    (N : News base L s.heap ((lexLed w P ln tl [] 0 vs.reverse le ++ (hdrLed w H rv' n ++ [(wl, listOf wv.toArray n1), (sl, listOf sv.toArray n2), (ra, listOf rv.toArray 0), (L + 1 + 1 + 1 + 1 + 1 + 1, p6), (L + 1 + 1 + 1 + 1 + 1, p5), (L + 1 + 1 + 1 + 1, p4), (L + 1 + 1 + 1, q3), (L + 1 + 1, p2), (L + 1, p1), (237, tabObj tps)])) ++ TL)) (lo : @LT.lt Nat _ (L + 1 + 1 + 1 + 1 + 1 + 1) ra ∧ @LT.lt Nat _ ra sl ∧ @LT.lt Nat _ sl wl ∧ @LT.lt Nat _ wl P.cs ∧ P.pb2 < H.d) (O : P.Ok) (OH : H.Ok) (a7 : ∀ p ∈ TL, @LT.lt Nat _ H.hl p.1)
    (d6 : p6.data = .cell x6) (d5 : p5.data = .cell x5) (d4 : p4.data = .cell x4) (d3 : q3.data = .cell (some (.ref P.x2))) (d2 : p2.data = .cell (some (.ref wl))) (d1 : p1.data = .cell (some (.ref sl)))
    (hrv : Txs rv rkL) (hsv : Txs sv (rs.map fun r => [r.su])) (hwv : Txs wv (rs.map R1.word)) (h5 : rs.length = 5) (hok : ∀ r ∈ rs, r.Ok) (hnd : (rs.map (·.c)).Nodup) (hT : (rs.map R1.enc).flatten.length ≤ 100)
    (a1 : Lx cs []) (a2 : Chs vs cs) (a3 : ln + nls cs = 1 + nls ((rs.map R1.enc).flatten ++ [46])) (a4 : vs.length ≤ 200) (a5 : Prs TL rv' (rs.map fun r => ([r.sp], r.word))) (a8 : ∀ q z z2 t1 t2, (q, pairO z z2 t1 t2) ∈ TL → z.all reOk = true ∧ z.length < 1000)
    (mb' : m (Str.ofString "table") = some (.ref H.x)) (ms : m (Str.ofString "script") = some (.ref sc)) (mr : m (Str.ofString "ranks") = some (.ref ra)) (mt : m (Str.ofString "text") = some (.str (tx (rs.map R1.enc).flatten) tt))
    (hQ : ∀ (h' : Heap) (tk : Nat) (ps : Array Value) m', Fr base L h' m' → News base L h' [(237, tabObj ps)] → Q (.ret (.bool true)) { s with heap := h', toks := tk }) : RestW w fa L cd 11 Q s := by
  refine ⟨_, _, _, _, _, _, _, _, _, _, _, _, _, _, _, by k_is, ?_⟩
  dsimp only [List.drop]
  have hscl : scv.length ≤ sizeLine := by rw [PySem.sizeLine_eq]; omega
  have O' := O
  obtain ⟨ocd, ocf, ovq, oord⟩ := O'
  have OH' := OH
  obtain ⟨oh1, oh2⟩ := OH'
  have hphh := adP_hi O OH lo h237
  have gbb4 := adP_c4 O OH lo h237
  have gbh4 := adH_c4 O OH lo h237
  have gbb5 := adP_c5 O OH lo h237
  have gbh5 := adH_c5 O OH lo h237
  have gbb6 := adP_c6 O OH lo h237
  have gbh6 := adH_c6 O OH lo h237
  have hc6 := adC6 O OH lo h237
  have kn0 := adN_wl4 O OH lo h237
  have kn1 := adN_sl4 O OH lo h237
  have kn2 := adN_ra4 O OH lo h237
  have kn3 : @Ne Nat 237 (L + 1 + 1 + 1 + 1) := adN_tab4 h237
  have kn4 : @Ne Nat (L + 1) (L + 1 + 1 + 1 + 1) := cne (a := 1) (b := 4) rfl
  have kn5 : @Ne Nat (L + 1 + 1) (L + 1 + 1 + 1 + 1) := cne (a := 2) (b := 4) rfl
  have kn6 : @Ne Nat (L + 1 + 1 + 1) (L + 1 + 1 + 1 + 1) := cne (a := 3) (b := 4) rfl
  have kn7 := adN_wl5 O OH lo h237
  have kn8 := adN_sl5 O OH lo h237
  have kn9 := adN_ra5 O OH lo h237
  have kn10 : @Ne Nat 237 (L + 1 + 1 + 1 + 1 + 1) := adN_tab5 h237
  have kn11 : @Ne Nat (L + 1) (L + 1 + 1 + 1 + 1 + 1) := cne (a := 1) (b := 5) rfl
  have kn12 : @Ne Nat (L + 1 + 1) (L + 1 + 1 + 1 + 1 + 1) := cne (a := 2) (b := 5) rfl
  have kn13 : @Ne Nat (L + 1 + 1 + 1) (L + 1 + 1 + 1 + 1 + 1) := cne (a := 3) (b := 5) rfl
  have kn14 := adN_wl6 O OH lo h237
  have kn15 := adN_sl6 O OH lo h237
  have kn16 := adN_ra6 O OH lo h237
  have kn17 : @Ne Nat 237 (L + 1 + 1 + 1 + 1 + 1 + 1) := adN_tab6 h237
  have kn18 : @Ne Nat (L + 1) (L + 1 + 1 + 1 + 1 + 1 + 1) := cne (a := 1) (b := 6) rfl
  have kn19 : @Ne Nat (L + 1 + 1) (L + 1 + 1 + 1 + 1 + 1 + 1) := cne (a := 2) (b := 6) rfl
  have kn20 : @Ne Nat (L + 1 + 1 + 1) (L + 1 + 1 + 1 + 1 + 1 + 1) := cne (a := 3) (b := 6) rfl
  have cn54 : @Ne Nat (L + 1 + 1 + 1 + 1 + 1) (L + 1 + 1 + 1 + 1) := cne (a := 5) (b := 4) rfl
  have cn64 : @Ne Nat (L + 1 + 1 + 1 + 1 + 1 + 1) (L + 1 + 1 + 1 + 1) := cne (a := 6) (b := 4) rfl
  have cn65 : @Ne Nat (L + 1 + 1 + 1 + 1 + 1 + 1) (L + 1 + 1 + 1 + 1 + 1) := cne (a := 6) (b := 5) rfl
  have N1 := N
  simp only [lexLed, hdrLed, List.cons_append, List.nil_append] at N
  k_steps
  unfold Stop
  refine For_turns F ?_
  k_steps
  unfold Stop
  k_dflt (refine iter_strTurns rfl (by decide +kernel) F N1 fun I l2 => ?_)
  have l_Ia := allLt_of l2
  simp only [lexLed, hdrLed, List.cons_append, List.nil_append] at l2
  k_lt l2
  have hIhi : @LT.lt Nat _ H.hl I := by omega
  have kqI4 := nc4 hc6 hIhi
  have kqI5 := nc5 hc6 hIhi
  have kqI6 := nc6 hc6 hIhi
  have hIT : ∀ p ∈ TL, @LT.lt Nat _ p.1 I := allLt_mem (show AllLt I TL from by simp only [l2])
  obtain ⟨InvA, InvAi, InvAe⟩ : ∃ InvA : Nat → (Str → Option Value) → List (Addr × Obj) → Prop, (∀ i m' nw, (∃ (pe : Nat) (p6 p5 p4 : Obj) (x6 x5 x4 : Option Value), p6.data = .cell x6 ∧ p5.data = .cell x5 ∧ p4.data = .cell x4 ∧ m' (Str.ofString "table") = some (.ref H.x) ∧ m' (Str.ofString "script") = some (.ref sc) ∧ m' (Str.ofString "ranks") = some (.ref ra) ∧ m' (Str.ofString "text") = some (.str (tx (rs.map R1.enc).flatten) tt) ∧ nw = ((lexLed w P ln tl [] pe vs.reverse le ++ (hdrLed w H rv' n ++ [(wl, listOf wv.toArray n1), (sl, listOf sv.toArray n2), (ra, listOf rv.toArray 0), (L + 1 + 1 + 1 + 1 + 1 + 1, p6), (L + 1 + 1 + 1 + 1 + 1, p5), (L + 1 + 1 + 1 + 1, p4), (L + 1 + 1 + 1, q3), (L + 1 + 1, p2), (L + 1, p1), (237, tabObj tps)])) ++ TL)) → InvA i m' nw) ∧ (∀ i m' nw (G : Prop), InvA i m' nw → (∀ (pe : Nat) (p6 p5 p4 : Obj) (x6 x5 x4 : Option Value), (p6.data = .cell x6) → (p5.data = .cell x5) → (p4.data = .cell x4) → (m' (Str.ofString "table") = some (.ref H.x)) → (m' (Str.ofString "script") = some (.ref sc)) → (m' (Str.ofString "ranks") = some (.ref ra)) → (m' (Str.ofString "text") = some (.str (tx (rs.map R1.enc).flatten) tt)) → (nw = ((lexLed w P ln tl [] pe vs.reverse le ++ (hdrLed w H rv' n ++ [(wl, listOf wv.toArray n1), (sl, listOf sv.toArray n2), (ra, listOf rv.toArray 0), (L + 1 + 1 + 1 + 1 + 1 + 1, p6), (L + 1 + 1 + 1 + 1 + 1, p5), (L + 1 + 1 + 1 + 1, p4), (L + 1 + 1 + 1, q3), (L + 1 + 1, p2), (L + 1, p1), (237, tabObj tps)])) ++ TL)) → G) → G) := ⟨fun i m' nw => ∃ (pe : Nat) (p6 p5 p4 : Obj) (x6 x5 x4 : Option Value), p6.data = .cell x6 ∧ p5.data = .cell x5 ∧ p4.data = .cell x4 ∧ m' (Str.ofString "table") = some (.ref H.x) ∧ m' (Str.ofString "script") = some (.ref sc) ∧ m' (Str.ofString "ranks") = some (.ref ra) ∧ m' (Str.ofString "text") = some (.str (tx (rs.map R1.enc).flatten) tt) ∧ nw = ((lexLed w P ln tl [] pe vs.reverse le ++ (hdrLed w H rv' n ++ [(wl, listOf wv.toArray n1), (sl, listOf sv.toArray n2), (ra, listOf rv.toArray 0), (L + 1 + 1 + 1 + 1 + 1 + 1, p6), (L + 1 + 1 + 1 + 1 + 1, p5), (L + 1 + 1 + 1 + 1, p4), (L + 1 + 1 + 1, q3), (L + 1 + 1, p2), (L + 1, p1), (237, tabObj tps)])) ++ TL), fun _ _ _ h => h, fun _ _ _ _ h k => by obtain ⟨pe, p6, p5, p4, x6, x5, x4, z0, z1, z2, z3, z4, z5, z6, z7⟩ := h; exact k pe p6 p5 p4 x6 x5 x4 z0 z1 z2 z3 z4 z5 z6 z7⟩
  refine str_inv InvA (InvAi _ _ _ ⟨_, _, _, _, _, _, _, d6, d5, d4, mb', ms, mr, mt, rfl⟩) ?turn ?fin
  case turn =>
    rintro i c t m' nw h tk hc hv9 F9
    refine InvAe _ _ _ _ hv9 fun pe p6 p5 p4 x6 x5 x4 d6 d5 d4 e1 e2 e3 e4 en => ?_
    clear hv9
    subst en
    refine AllObj.cons fun it hit => AllObj.nil fun N9 => ?_
    simp only [lexLed, hdrLed, List.cons_append, List.nil_append] at N9
    have hTa : ∀ p ∈ TL, p.1 ∉ P.addrs := O.tl a7 hphh
    have hTh : ∀ p ∈ TL, p.1 ∉ H.addrs := HdrP.Ok.tl0 OH a7
    have hab : (Str.ofString "abcd").cps.toList = [97, 98, 99, 100] := by decide
    rw [hab] at hc
    have hcr : 97 ≤ c ∧ c ≤ 100 := by
      have : ∀ k : Nat, ([97, 98, 99, 100] : List Nat)[k]? = some c → 97 ≤ c ∧ c ≤ 100 := by
        intro k hk
        have := List.mem_of_getElem? hk
        simp only [List.mem_cons, List.not_mem_nil, or_false] at this
        omega
      exact this i hc
    have hcO : [c].all reOk = true := by simp [reOk]; omega
    have mk : MkA := trivial
    k_steps
    unfold Stop
    rename Heap => h9
    refine wpAny_mono (Q := fun v s' => ∃ (y : List Nat) (t' : Tok) (tk' : Nat), v = .str (tx y) t' ∧ y.map lowC = [c] ∧ y.all reOk = true ∧ y.length < 1000 ∧ s' = { s with heap := h9, toks := tk' }) (E := fun _ _ => False) ?ie (fun v s' hv => ?_) (fun _ _ h => h)
    case ie =>
      clear mk
      k_steps
      · simp only [List.map_cons, List.map_nil, low_up1 hcr]
      · exact up1_ok hcO
      · show 1 < 1000; decide
      · simp only [List.map_cons, List.map_nil, low_id hcr.1]
    obtain ⟨y, ty, tk2, rfl, hy1, hy2, hy3, rfl⟩ := hv
    clear mk
    dsimp only
    k_steps
    unfold Stop
    rename Fr _ _ _ _ => F8
    rename News _ _ _ _ => N8
    obtain ⟨q4, eq4⟩ := nameS (x := ⟨#[c]⟩) (t := t) (by assumption)
    subst eq4
    have Ns : News base L _ (hdrLed w H rv' n ++ TL) := news_sub N8 (subs_app (by simp only [hdrLed]; k_upd) (fun p hp => by repeat (first | exact hp | apply List.mem_cons_of_mem)))
    k_dflt (refine' hdr_get_all ?cB ?cF ?cX ?cT ?cd ?cu OH Ns a5 a8 ?cr hy2 hy3 ?_; (case cB => k_asm); (case cF => exact F8); (case cX => k_asm); (case cT => k_asm); (case cd => decide); (case cu => decide); (case cr => (have := a5.1); rw [List.length_map] at this; omega))
    intro q us h' tk' kp fq F7 N7 hus
    rw [told_eq hy1 hok] at hus
    have hus : Txs us ((rs.filter fun r => decide (r.su = c)).map R1.word) := hus
    have l3 := led_new N8 fq
    have kp2 := kept_all Ns (news_tail N7) (fun p hp => hp) (fun b o e hb => by
      rw [List.map_append, List.mem_append, not_or] at hb
      exact kp b o e hb.1 hb.2)
    k_dflt (refine' repl_go0 kp2 N8 ?_)
    intro N6
    have N5 : News base L h' ((q, listOf us.toArray us.length) :: _) := news_cons (news_head N7) N6
    clear N9 N6 N7 N8 F8 kp kp2 Ns
    dsimp only
    k_steps
    unfold Stop
    have hl1 : (rs.map fun r => [r.su]).length = 5 := by rw [List.length_map]; exact h5
    have hl2 : (rs.map R1.word).length = 5 := by rw [List.length_map]; exact h5
    have hokK : ∀ y ∈ (rs.filter fun r => decide (r.su = c)).map R1.word, y.all reOk = true := fun y hy => by
      obtain ⟨r, hr, rfl⟩ := List.mem_map.mp hy
      exact reOk_word (hok r (List.mem_filter.mp hr).1)
    have hul : us.length ≤ 5 := by
      rw [hus.length, List.length_map]
      exact Nat.le_trans (List.length_filter_le _ _) (Nat.le_of_eq h5)
    rename Fr _ _ _ _ => F1
    k_dflt (refine' LCt.ListComp_T ?c0 ?c1 ?c2 ?c3 ?c4 ?c5 ?c8 ?c7; (case c0 => exact F1); (case c1 => rfl); (case c2 => decide); (case c3 => rfl); (case c4 => decide); (case c5 => rfl); (case c7 => intro _; rfl))
    k_steps
    rename Fr _ _ _ _ => F2
    rename News _ _ _ _ => N2
    rename IsRange _ _ 0 5 1 _ _ _ => r9
    refine LCt.CompSrcT.range (n := 5) rfl F2 N2 r9 (by decide) (by rfl) (by rw [PySem.sizeLine_eq]; decide) fun g2 => ?_
    clear r9
    refine restT_inv (fun i ys nw => nw = (q, listOf us.toArray us.length) :: (I, it) :: ((lexLed w P ln tl [] pe vs.reverse le ++ (hdrLed w H rv' n ++ [(wl, listOf wv.toArray n1), (sl, listOf sv.toArray n2), (ra, listOf rv.toArray 0), (L + 1 + 1 + 1 + 1 + 1 + 1, p6), (L + 1 + 1 + 1 + 1 + 1, p5), (L + 1 + 1 + 1 + 1, q4), (L + 1 + 1 + 1, q3), (L + 1 + 1, p2), (L + 1, p1), (237, tabObj tps)])) ++ TL) ∧ Txs ys (((rs.take i).filter fun r => decide (r.su = c)).map R1.word)) ⟨rfl, Txs.nil⟩ ?turn2 ?fin2
    case turn2 =>
      rintro i ys nw v I2 oI C oC D m₂ h tk E' hi ⟨rfl, hs⟩ hv hns hm F9 N9 off hne
      obtain ⟨t2, rfl⟩ := hv
      have hi' : i < rs.length := by omega
      have hr : rs[i]? = some rs[i] := List.getElem?_eq_getElem hi'
      obtain ⟨r, er⟩ : ∃ r, r = rs[i] := ⟨_, rfl⟩
      rw [← er] at hr
      have hk1 : (rs.map fun r => [r.su]).getD (0 + (i : Int)).toNat [] = [r.su] := getD_map_at hr
      have hk2 : (rs.map R1.word).getD (0 + (i : Int)).toNat [] = R1.word r := getD_map_at hr
      simp only [lexLed, hdrLed, List.cons_append, List.nil_append] at N9 ⊢
      k_steps
      · have hc' : r.su = c := by
          have := tx_inj (show tx [r.su] = tx [c] from beq_iff_eq.mp (by assumption))
          simpa using this
        refine ⟨h, _, _, rfl, F9, N9, off, trivial, rfl, ?_⟩
        rw [filter_snoc hr, if_pos (by simpa using hc'), List.map_append]
        exact hs.append (Txs.cons Txs.nil)
      · have hc' : ¬ r.su = c := fun e => beq_eq_false_iff_ne.mp (by assumption) (by rw [e])
        refine ⟨h, _, _, rfl, F9, N9, off, trivial, rfl, ?_⟩
        rw [filter_snoc hr, if_neg (by simpa using hc'), List.append_nil]
        exact hs
    case fin2 =>
      rintro ys nw ⟨rfl, hs⟩
      rw [List.take_of_length_le (by omega)] at hs
      simp only [lexLed, hdrLed, List.cons_append, List.nil_append]
      intro D h tk F9 N9 off9
      have N9 : News base L h ((D, listOf ys.toArray ys.length) :: _) := N9
      k_steps
      unfold Stop
      rename Fr _ _ _ _ => F3
      rename News _ _ _ _ => N3
      rename IsRange _ _ 0 _ 1 _ _ _ => r9
      have N3 : News base L _ ((q, listOf us.toArray us.length) :: (I, it) :: ((lexLed w P ln tl [] pe vs.reverse le ++ (hdrLed w H rv' n ++ [(wl, listOf wv.toArray n1), (sl, listOf sv.toArray n2), (ra, listOf rv.toArray 0), (L + 1 + 1 + 1 + 1 + 1 + 1, p6), (L + 1 + 1 + 1 + 1 + 1, p5), (L + 1 + 1 + 1 + 1, q4), (L + 1 + 1 + 1, q3), (L + 1 + 1, p2), (L + 1, p1), (237, tabObj tps)])) ++ TL)) := news_sub N3 (by
        intro p hp
        exact List.mem_cons_of_mem _ hp)
      refine iter_rangeUnr (n := us.length) rfl r9 (small_one (by omega) (by omega) (by omega) (by omega)) (rangeSize_nat _ _) F3 N3 fun Ij l4 => ?_
      clear r9
      have l_Ija := allLt_of l4
      simp only [lexLed, hdrLed, List.cons_append, List.nil_append] at l4
      k_lt l4
      have hIjhi : @LT.lt Nat _ H.hl Ij := by omega
      have kqIj4 := nc4 hc6 hIjhi
      have kqIj5 := nc5 hc6 hIjhi
      have kqIj6 := nc6 hc6 hIjhi
      have hJT : ∀ p ∈ TL, @LT.lt Nat _ p.1 Ij := allLt_mem (show AllLt Ij TL from by simp only [l4])
      obtain ⟨InvJ, InvJi, InvJe⟩ : ∃ InvJ : Nat → (Str → Option Value) → List (Addr × Obj) → Prop, (∀ i m' nw, (∃ (pe : Nat) (p6 p5 : Obj) (x6 x5 : Option Value), p6.data = .cell x6 ∧ p5.data = .cell x5 ∧ m' (Str.ofString "table") = some (.ref H.x) ∧ m' (Str.ofString "script") = some (.ref sc) ∧ m' (Str.ofString "ranks") = some (.ref ra) ∧ m' (Str.ofString "text") = some (.str (tx (rs.map R1.enc).flatten) tt) ∧ m' (Str.ofString "told") = some (.ref q) ∧ nw = (q, listOf us.toArray us.length) :: (I, it) :: ((lexLed w P ln tl [] pe vs.reverse le ++ (hdrLed w H rv' n ++ [(wl, listOf wv.toArray n1), (sl, listOf sv.toArray n2), (ra, listOf rv.toArray 0), (L + 1 + 1 + 1 + 1 + 1 + 1, p6), (L + 1 + 1 + 1 + 1 + 1, p5), (L + 1 + 1 + 1 + 1, q4), (L + 1 + 1 + 1, q3), (L + 1 + 1, p2), (L + 1, p1), (237, tabObj tps)])) ++ TL)) → InvJ i m' nw) ∧ (∀ i m' nw (G : Prop), InvJ i m' nw → (∀ (pe : Nat) (p6 p5 : Obj) (x6 x5 : Option Value), (p6.data = .cell x6) → (p5.data = .cell x5) → (m' (Str.ofString "table") = some (.ref H.x)) → (m' (Str.ofString "script") = some (.ref sc)) → (m' (Str.ofString "ranks") = some (.ref ra)) → (m' (Str.ofString "text") = some (.str (tx (rs.map R1.enc).flatten) tt)) → (m' (Str.ofString "told") = some (.ref q)) → (nw = (q, listOf us.toArray us.length) :: (I, it) :: ((lexLed w P ln tl [] pe vs.reverse le ++ (hdrLed w H rv' n ++ [(wl, listOf wv.toArray n1), (sl, listOf sv.toArray n2), (ra, listOf rv.toArray 0), (L + 1 + 1 + 1 + 1 + 1 + 1, p6), (L + 1 + 1 + 1 + 1 + 1, p5), (L + 1 + 1 + 1 + 1, q4), (L + 1 + 1 + 1, q3), (L + 1 + 1, p2), (L + 1, p1), (237, tabObj tps)])) ++ TL)) → G) → G) := ⟨fun i m' nw => ∃ (pe : Nat) (p6 p5 : Obj) (x6 x5 : Option Value), p6.data = .cell x6 ∧ p5.data = .cell x5 ∧ m' (Str.ofString "table") = some (.ref H.x) ∧ m' (Str.ofString "script") = some (.ref sc) ∧ m' (Str.ofString "ranks") = some (.ref ra) ∧ m' (Str.ofString "text") = some (.str (tx (rs.map R1.enc).flatten) tt) ∧ m' (Str.ofString "told") = some (.ref q) ∧ nw = (q, listOf us.toArray us.length) :: (I, it) :: ((lexLed w P ln tl [] pe vs.reverse le ++ (hdrLed w H rv' n ++ [(wl, listOf wv.toArray n1), (sl, listOf sv.toArray n2), (ra, listOf rv.toArray 0), (L + 1 + 1 + 1 + 1 + 1 + 1, p6), (L + 1 + 1 + 1 + 1 + 1, p5), (L + 1 + 1 + 1 + 1, q4), (L + 1 + 1 + 1, q3), (L + 1 + 1, p2), (L + 1, p1), (237, tabObj tps)])) ++ TL), fun _ _ _ h => h, fun _ _ _ _ h k => by obtain ⟨pe, p6, p5, x6, x5, z0, z1, z2, z3, z4, z5, z6, z7⟩ := h; exact k pe p6 p5 x6 x5 z0 z1 z2 z3 z4 z5 z6 z7⟩
      refine range_inv InvJ (InvJi _ _ _ ⟨_, _, _, _, _, d6, d5, by ktr_unf, by ktr_unf, by ktr_unf, by ktr_unf, by ktr_unf, rfl⟩) ?turn3 ?fin3
      case turn3 =>
        rintro j tj m' nw h tk hj hv9 F9 N9
        refine InvJe _ _ _ _ hv9 fun pe p6 p5 x6 x5 d6 d5 e1 e2 e3 e4 e5 en => ?_
        clear hv9
        subst en
        simp only [lexLed, hdrLed, List.cons_append, List.nil_append] at N9
        k_steps
        unfold Stop
        rename Fr _ _ _ _ => F3
        rename News _ _ _ _ => N3
        rename IsRange _ _ 0 _ 1 _ _ _ => r9
        have N3 : News base L _ ((Ij, itR (0 + ((j + 1 : Nat) : Int)) ((us.length : Nat) - ((j + 1 : Nat) : Int))) :: (q, listOf us.toArray us.length) :: (I, it) :: ((lexLed w P ln tl [] pe vs.reverse le ++ (hdrLed w H rv' n ++ [(wl, listOf wv.toArray n1), (sl, listOf sv.toArray n2), (ra, listOf rv.toArray 0), (L + 1 + 1 + 1 + 1 + 1 + 1, p6), (L + 1 + 1 + 1 + 1 + 1, p5), (L + 1 + 1 + 1 + 1, q4), (L + 1 + 1 + 1, q3), (L + 1 + 1, p2), (L + 1, p1), (237, tabObj tps)])) ++ TL)) := N3
        refine iter_rangeUnr (n := j) rfl r9 (small_one (by omega) (by omega) (by omega) (by omega)) (by rw [rangeSize_nat]; omega) F3 N3 fun Ii l5 => ?_
        clear r9
        have l_Iia := allLt_of l5
        simp only [lexLed, hdrLed, List.cons_append, List.nil_append] at l5
        k_lt l5
        have hIihi : @LT.lt Nat _ H.hl Ii := by omega
        have kqIi4 := nc4 hc6 hIihi
        have kqIi5 := nc5 hc6 hIihi
        have kqIi6 := nc6 hc6 hIihi
        have hIiT : ∀ p ∈ TL, @LT.lt Nat _ p.1 Ii := allLt_mem (show AllLt Ii TL from by simp only [l5])
        obtain ⟨InvI, InvIi, InvIe⟩ : ∃ InvI : Nat → (Str → Option Value) → List (Addr × Obj) → Prop, (∀ i m' nw, (∃ (pe : Nat) (p6 p5 : Obj) (x6 x5 : Option Value), p6.data = .cell x6 ∧ p5.data = .cell x5 ∧ m' (Str.ofString "table") = some (.ref H.x) ∧ m' (Str.ofString "script") = some (.ref sc) ∧ m' (Str.ofString "ranks") = some (.ref ra) ∧ m' (Str.ofString "text") = some (.str (tx (rs.map R1.enc).flatten) tt) ∧ m' (Str.ofString "told") = some (.ref q) ∧ m' (Str.ofString "j") = some (.int (0 + (j : Int)) tj) ∧ nw = (Ij, itR (0 + ((j + 1 : Nat) : Int)) ((us.length : Nat) - ((j + 1 : Nat) : Int))) :: (q, listOf us.toArray us.length) :: (I, it) :: ((lexLed w P ln tl [] pe vs.reverse le ++ (hdrLed w H rv' n ++ [(wl, listOf wv.toArray n1), (sl, listOf sv.toArray n2), (ra, listOf rv.toArray 0), (L + 1 + 1 + 1 + 1 + 1 + 1, p6), (L + 1 + 1 + 1 + 1 + 1, p5), (L + 1 + 1 + 1 + 1, q4), (L + 1 + 1 + 1, q3), (L + 1 + 1, p2), (L + 1, p1), (237, tabObj tps)])) ++ TL)) → InvI i m' nw) ∧ (∀ i m' nw (G : Prop), InvI i m' nw → (∀ (pe : Nat) (p6 p5 : Obj) (x6 x5 : Option Value), (p6.data = .cell x6) → (p5.data = .cell x5) → (m' (Str.ofString "table") = some (.ref H.x)) → (m' (Str.ofString "script") = some (.ref sc)) → (m' (Str.ofString "ranks") = some (.ref ra)) → (m' (Str.ofString "text") = some (.str (tx (rs.map R1.enc).flatten) tt)) → (m' (Str.ofString "told") = some (.ref q)) → (m' (Str.ofString "j") = some (.int (0 + (j : Int)) tj)) → (nw = (Ij, itR (0 + ((j + 1 : Nat) : Int)) ((us.length : Nat) - ((j + 1 : Nat) : Int))) :: (q, listOf us.toArray us.length) :: (I, it) :: ((lexLed w P ln tl [] pe vs.reverse le ++ (hdrLed w H rv' n ++ [(wl, listOf wv.toArray n1), (sl, listOf sv.toArray n2), (ra, listOf rv.toArray 0), (L + 1 + 1 + 1 + 1 + 1 + 1, p6), (L + 1 + 1 + 1 + 1 + 1, p5), (L + 1 + 1 + 1 + 1, q4), (L + 1 + 1 + 1, q3), (L + 1 + 1, p2), (L + 1, p1), (237, tabObj tps)])) ++ TL)) → G) → G) := ⟨fun i m' nw => ∃ (pe : Nat) (p6 p5 : Obj) (x6 x5 : Option Value), p6.data = .cell x6 ∧ p5.data = .cell x5 ∧ m' (Str.ofString "table") = some (.ref H.x) ∧ m' (Str.ofString "script") = some (.ref sc) ∧ m' (Str.ofString "ranks") = some (.ref ra) ∧ m' (Str.ofString "text") = some (.str (tx (rs.map R1.enc).flatten) tt) ∧ m' (Str.ofString "told") = some (.ref q) ∧ m' (Str.ofString "j") = some (.int (0 + (j : Int)) tj) ∧ nw = (Ij, itR (0 + ((j + 1 : Nat) : Int)) ((us.length : Nat) - ((j + 1 : Nat) : Int))) :: (q, listOf us.toArray us.length) :: (I, it) :: ((lexLed w P ln tl [] pe vs.reverse le ++ (hdrLed w H rv' n ++ [(wl, listOf wv.toArray n1), (sl, listOf sv.toArray n2), (ra, listOf rv.toArray 0), (L + 1 + 1 + 1 + 1 + 1 + 1, p6), (L + 1 + 1 + 1 + 1 + 1, p5), (L + 1 + 1 + 1 + 1, q4), (L + 1 + 1 + 1, q3), (L + 1 + 1, p2), (L + 1, p1), (237, tabObj tps)])) ++ TL), fun _ _ _ h => h, fun _ _ _ _ h k => by obtain ⟨pe, p6, p5, x6, x5, z0, z1, z2, z3, z4, z5, z6, z7, z8⟩ := h; exact k pe p6 p5 x6 x5 z0 z1 z2 z3 z4 z5 z6 z7 z8⟩
        refine range_inv InvI (InvIi _ _ _ ⟨_, _, _, _, _, d6, d5, by ktr_unf, by ktr_unf, by ktr_unf, by ktr_unf, by ktr_unf, by ktr_unf, rfl⟩) ?turn4 ?fin4
        case turn4 =>
          rintro i ti m' nw h tk hi hv9 F9 N9
          refine InvIe _ _ _ _ hv9 fun pe p6 p5 x6 x5 d6 d5 e1 e2 e3 e4 e5 e6 en => ?_
          clear hv9
          subst en
          have hKl : us.length = (rs.filter fun r => decide (r.su = c)).length := by rw [hus.length, List.length_map]
          obtain ⟨K, hK⟩ : ∃ K, K = rs.filter fun r => decide (r.su = c) := ⟨_, rfl⟩
          rw [← hK] at hKl hus
          have hri : K[i]? = some (K[i]'(by omega)) := List.getElem?_eq_getElem _
          have hrj : K[j]? = some (K[j]'(by omega)) := List.getElem?_eq_getElem _
          obtain ⟨r1, er1⟩ : ∃ r, r = K[i]'(by omega) := ⟨_, rfl⟩
          obtain ⟨r2, er2⟩ : ∃ r, r = K[j]'(by omega) := ⟨_, rfl⟩
          rw [← er1] at hri
          rw [← er2] at hrj
          have hgi : (K.map R1.word).getD (0 + (i : Int)).toNat [] = r1.sp :: r1.rank := getD_map_at hri
          have hgj : (K.map R1.word).getD (0 + (j : Int)).toNat [] = r2.sp :: r2.rank := getD_map_at hrj
          have hm1 := r1.rank_mem
          have hm2 := r2.rank_mem
          have hrl1 := r1.rank_ok.2
          have hrl2 := r2.rank_ok.2
          have hll : (K.map R1.word).length = us.length := hus.length.symm
          simp only [lexLed, hdrLed, List.cons_append, List.nil_append] at N9
          have mk : MkB := trivial
          k_steps
          unfold Stop
          obtain ⟨hcne, hrne, hr1, hr2, hs1, hs2⟩ := rank_ne hnd hK hri hrj hi
          have hx1 := idx_rank r1
          have hx2 := idx_rank r2
          obtain ⟨hd1, hd2, hd3⟩ := step_fact (Nat.mod_lt r1.c (show 0 < 13 by decide)) (Nat.mod_lt r2.c (show 0 < 13 by decide)) hrne
          rw [← hx1, ← hx2] at hd1 hd2 hd3
          refine wpAny_mono (Q := fun f s' => HoldP (f = .next ∧ ∃ (a b : R1) (st : Int) (ta tb ts : Tok) (q6 q5 : Obj) (m2 : Str → Option Value) (h2 : Heap) (tk2 : Nat), ((a = r1 ∧ b = r2) ∨ (a = r2 ∧ b = r1)) ∧ 1 ≤ st ∧ st ≤ 6 ∧ (((rkL.idxOf b.rank : Nat) : Int) - ((rkL.idxOf a.rank : Nat) : Int)).fmod 13 = st ∧
            q5.data = .cell (some (.str (tx (a.sp :: a.rank)) ta)) ∧ q6.data = .cell (some (.str (tx (b.sp :: b.rank)) tb)) ∧ m2 (Str.ofString "steps") = some (.int st ts) ∧ m2 (Str.ofString "table") = some (.ref H.x) ∧ m2 (Str.ofString "script") = some (.ref sc) ∧ m2 (Str.ofString "ranks") = some (.ref ra) ∧ m2 (Str.ofString "text") = some (.str (tx (rs.map R1.enc).flatten) tt) ∧ m2 (Str.ofString "told") = some (.ref q) ∧ m2 (Str.ofString "j") = some (.int (0 + (j : Int)) tj) ∧ s' = { s with heap := h2, toks := tk2 } ∧ Fr base L h2 m2 ∧ News base L h2 ((Ii, itR (0 + ((i + 1 : Nat) : Int)) ((j : Nat) - ((i + 1 : Nat) : Int))) :: (Ij, itR (0 + ((j + 1 : Nat) : Int)) ((us.length : Nat) - ((j + 1 : Nat) : Int))) :: (q, listOf us.toArray us.length) :: (I, it) :: ((lexLed w P ln tl [] pe vs.reverse le ++ (hdrLed w H rv' n ++ [(wl, listOf wv.toArray n1), (sl, listOf sv.toArray n2), (ra, listOf rv.toArray 0), (L + 1 + 1 + 1 + 1 + 1 + 1, q6), (L + 1 + 1 + 1 + 1 + 1, q5), (L + 1 + 1 + 1 + 1, q4), (L + 1 + 1 + 1, q3), (L + 1 + 1, p2), (L + 1, p1), (237, tabObj tps)])) ++ TL)))) (E := fun _ _ => False) ?ife (fun f s' hv => ?_) (fun _ _ h => h)
          case ife =>
            clear mk
            k_steps
            · rename News _ _ _ _ => N8
              rename Fr _ _ _ _ => F8
              refine show _ ∧ _ from ⟨rfl, r2, r1, _, _, _, _, _, _, _, _, _, .inr ⟨rfl, rfl⟩, ?_, ?_, hd3, by assumption, by assumption, by ktr_unf, by ktr_unf, by ktr_unf, by ktr_unf, by ktr_unf, by ktr_unf, by ktr_unf, rfl, F8, news_sub N8 (by intro p hp; repeat (first | exact hp | apply List.mem_cons_of_mem))⟩
              · omega
              · omega
            · rename News _ _ _ _ => N8
              rename Fr _ _ _ _ => F8
              refine show _ ∧ _ from ⟨rfl, r1, r2, _, _, _, _, _, _, _, _, _, .inl ⟨rfl, rfl⟩, hd1, ?_, rfl, by assumption, by assumption, by ktr_unf, by ktr_unf, by ktr_unf, by ktr_unf, by ktr_unf, by ktr_unf, by ktr_unf, rfl, F8, N8⟩
              omega
          obtain ⟨rfl, a, b, st, ta, tb, ts, q6, q5, m2, h2, tk2, hab2, hst1, hst2, hst3, dk5, dk6, f0, f1, f2, f3, f4, f5, f6, rfl, F2, N2⟩ := hv
          have hab : a ∈ rs ∧ b ∈ rs ∧ a.c ≠ b.c ∧ b.su = a.su ∧ a.su = c := by
            rcases hab2 with ⟨rfl, rfl⟩ | ⟨rfl, rfl⟩
            · exact ⟨hr1, hr2, hcne, hs2.trans hs1.symm, hs1⟩
            · exact ⟨hr2, hr1, Ne.symm hcne, hs1.trans hs2.symm, hs2⟩
          obtain ⟨ham, hbm, habc, hsu, hac⟩ := hab
          refine (stD (L := L) (s := ⟨h2, s.gens, s.drawn, tk2, s.os⟩) (tc := t) (q4 := q4) B F2 X T h237 hsl hIs hc63 N2 lo O OH a7 (by omega) (by simp only [AllNe, and_true]; (repeat' (first | refine And.intro ?_ ?_)); all_goals k_ne) dk6 dk5 (by rw [hac]; assumption) d3 d2 d1 hrv hwv h5 hok hnd ham hbm habc hsu hst1 hst2 hst3 f0 ⟨f1, f2, f3, f4, f5, f6⟩ ?_).use (by k_is)
          intro pe' h' tk' m' F' N' hm'
          obtain ⟨g1, g2, g3, g4, g5, g6⟩ := hm'
          refine UnrEnd.intro F' N' ((Ij, itR (0 + ((j + 1 : Nat) : Int)) ((us.length : Nat) - ((j + 1 : Nat) : Int))) :: (q, listOf us.toArray us.length) :: (I, it) :: ((lexLed w P ln tl [] pe' vs.reverse le ++ (hdrLed w H rv' n ++ [(wl, listOf wv.toArray n1), (sl, listOf sv.toArray n2), (ra, listOf rv.toArray 0), (L + 1 + 1 + 1 + 1 + 1 + 1, q6), (L + 1 + 1 + 1 + 1 + 1, q5), (L + 1 + 1 + 1 + 1, q4), (L + 1 + 1 + 1, q3), (L + 1 + 1, p2), (L + 1, p1), (237, tabObj tps)])) ++ TL)) (fun p hp => hp) (fun p hp => ?_) (InvIi _ _ _ ⟨pe', q6, q5, _, _, dk6, dk5, g1, g2, g3, g4, g5, g6, rfl⟩)
          refine Nat.ne_of_lt (allLt_mem ?_ p hp); exact l_Iia
        case fin4 =>
          rintro m' nw h tk hv9 F9 N9
          refine InvIe _ _ _ _ hv9 fun pe p6 p5 x6 x5 d6 d5 e1 e2 e3 e4 e5 e6 en => ?_
          clear hv9
          subst en
          have N9' := N9
          simp only [lexLed, hdrLed, List.cons_append, List.nil_append] at N9
          k_steps
          unfold Stop
          refine UnrEnd.intro (by assumption) N9' ((q, listOf us.toArray us.length) :: (I, it) :: ((lexLed w P ln tl [] pe vs.reverse le ++ (hdrLed w H rv' n ++ [(wl, listOf wv.toArray n1), (sl, listOf sv.toArray n2), (ra, listOf rv.toArray 0), (L + 1 + 1 + 1 + 1 + 1 + 1, p6), (L + 1 + 1 + 1 + 1 + 1, p5), (L + 1 + 1 + 1 + 1, q4), (L + 1 + 1 + 1, q3), (L + 1 + 1, p2), (L + 1, p1), (237, tabObj tps)])) ++ TL)) (fun p hp => hp) (fun p hp => ?_) (InvJi _ _ _ ⟨pe, p6, p5, x6, x5, d6, d5, e1, e2, e3, e4, e5, rfl⟩)
          refine Nat.ne_of_lt (allLt_mem ?_ p hp); exact l_Ija
      case fin3 =>
        rintro m' nw h tk hv9 F9 N9
        refine InvJe _ _ _ _ hv9 fun pe p6 p5 x6 x5 d6 d5 e1 e2 e3 e4 e5 en => ?_
        clear hv9
        subst en
        have N9' := N9
        simp only [lexLed, hdrLed, List.cons_append, List.nil_append] at N9
        k_steps
        unfold Stop
        refine ⟨_, _, _, ((lexLed w P ln tl [] pe vs.reverse le ++ (hdrLed w H rv' n ++ [(wl, listOf wv.toArray n1), (sl, listOf sv.toArray n2), (ra, listOf rv.toArray 0), (L + 1 + 1 + 1 + 1 + 1 + 1, p6), (L + 1 + 1 + 1 + 1 + 1, p5), (L + 1 + 1 + 1 + 1, q4), (L + 1 + 1 + 1, q3), (L + 1 + 1, p2), (L + 1, p1), (237, tabObj tps)])) ++ TL), rfl, F9, fun p hp => N9' p (List.mem_cons_of_mem _ hp), fun p hp o ho => ?_, trivial, InvAi _ _ _ ⟨pe, p6, p5, q4, _, _, _, d6, d5, by assumption, e1, e2, e3, e4, rfl⟩⟩
        rw [List.mem_singleton.mp ho]
        refine Nat.ne_of_lt (allLt_mem ?_ p hp); exact l_Ia
  case fin =>
    rintro m' nw h tk hv9 F9 N9
    refine InvAe _ _ _ _ hv9 fun pe p6 p5 p4 x6 x5 x4 d6 d5 d4 e1 e2 e3 e4 en => ?_
    clear hv9
    subst en
    simp only [lexLed, hdrLed, List.cons_append, List.nil_append] at N9
    have ga1 := adP_Hx O OH lo h237
    have ga2 := adP_Hd O OH lo h237
    have ga3 := adP_Hhl O OH lo h237
    have ga4 := adP_wl O OH lo h237
    have ga5 := adP_sl O OH lo h237
    have ga6 := adP_ra O OH lo h237
    have gb1 := adP_c1 O OH lo h237
    have gb2 := adP_c2 O OH lo h237
    have gb3 := adP_c3 O OH lo h237
    have gb4 := adP_c4 O OH lo h237
    have gb5 := adP_c5 O OH lo h237
    have gb6 := adP_c6 O OH lo h237
    have gb7 := adP_tab O OH lo h237
    have hph := adP_hi O OH lo h237
    have hTa : ∀ p ∈ TL, p.1 ∉ P.addrs := O.tl a7 hph
    obtain ⟨cs1, hx1, hx2⟩ := a1
    have hcl : cs.length ≤ 200 := by rw [← a2.length]; exact a4
    have hcl1 : cs1.length ≤ 200 := Nat.le_trans (lexA_le _ _ _ hx1) hcl
    k_steps
    unfold Stop
    rename Fr _ _ _ _ => F8
    rename News _ _ _ _ => N8
    k_dflt (refine' tok_lex ?uB ?uF ?uX ?uT ?ud ?uu O ?uN a2 ?uz hx1 ?_; (case uB => k_asm); (case uF => exact F8); (case uX => k_asm); (case uT => k_asm); (case ud => decide); (case uu => decide); (case uN => exact news_sub N8 (by k_upd)); (case uz => (rw [(a2).length]; ktr_rel)))
    intro lnu tlu vsu leu ttu hu tku a3u a2u kp F7 N7
    k_dflt (refine' repl_go kp N7 N8 ?ur ?_; (case ur => k_upd))
    clear kp N7
    intro N7
    (try simp only [List.cons_append, List.nil_append] at N7)
    clear F8 N8
    dsimp only
    k_steps
    unfold Stop
    rename Fr _ _ _ _ => F8
    rename News _ _ _ _ => N8
    k_dflt (refine' tok_lex ?vB ?vF ?vX ?vT ?vd ?vu O ?vN a2u ?vz hx2 ?_; (case vB => k_asm); (case vF => exact F8); (case vX => k_asm); (case vT => k_asm); (case vd => decide); (case vu => decide); (case vN => exact news_sub N8 (by k_upd)); (case vz => (rw [(a2u).length]; ktr_rel)))
    intro lnv tlv vsv lev ttv hv tkv a3v a2v kp F7 N7
    k_dflt (refine' repl_go kp N7 N8 ?vr ?_; (case vr => k_upd))
    clear kp N7
    intro N7
    (try simp only [List.cons_append, List.nil_append] at N7)
    clear F8 N8
    dsimp only
    k_steps
    rename Fr _ _ _ _ => F8
    rename News _ _ _ _ => N8
    have hln : lnv = 1 + nls (rs.map R1.enc).flatten := by
      rw [nls_nil] at a3v
      rw [nls_dot] at a3
      omega
    rw [count_nl, hln, beq_self_eq_true]
    exact hQ _ _ tps _ F8 (news_sub N8 (by k_upd))
end
end
theorem cx21 {p : Program} {w : World} {A : Around} {Q : Value → Shared → Prop} {E : Value → Shared → Prop} {s : Shared} (h : wpAny (model p w) A (pyIter Value.none) Q E s) : wpAny (model p w) A (pyIter Value.none) Q E s := by first | (walk1; fail "x") | exact h
section
local macro_rules | `(tactic| walk_at "binaryOp Add str str") => `(tactic| (k_here; (with_reducible show wpAny _ _ (binaryOp _ (Value.str (tx _) _) (Value.str (Str.ofString ".") _)) _ _ _); (refine' addLit_K (z := [46]) (by decide) ?_ (by ktr_rel)); intro t' tk'))
theorem nameC {o : Obj} {a : Addr} (_ : o.data = .cell (some (.ref a))) : ∃ o', o' = o := ⟨_, rfl⟩
theorem sub_tail {α : Type} {I q : α} {X TL : List α} : ∀ p ∈ I :: (X ++ (TL ++ [q])), p ∈ q :: I :: (X ++ TL) := by
  intro p hp
  simp only [List.mem_cons, List.mem_append, List.not_mem_nil, or_false] at hp ⊢
  rcases hp with h | h | h | h <;> simp [h]
local macro_rules | `(tactic| walk_at "execs cons") => `(tactic| ((with_reducible show wpAny _ _ (execs (Stmt.For (Expr.Name _ _) (Expr.Constant _ _ _) _ _ _ :: _) _) _ _ _); refine Stop.out ?_))
section
variable {w : World} {L : Addr} {base : Heap} {m : Str → Option Value} {s : Shared} {p : Program} {loose : List Str} {mean : ExcName → Option Value} {mg mb : Str → Option Value} {fa : Addr} {cd : Value} {Q : Flow → Shared → Prop} {scv : List Value} {scn : List Int} {sc : Addr}
set_option maxHeartbeats 0 in
theorem stB {rs : List R1} {sv wv rv : List Value} {tt : Tok} {n1 n2 : Nat} {wl sl ra : Nat} {p6 p5 p4 p3 p2 p1 : Obj} {x6 x5 x4 x3 : Option Value} (B : Below callerA base [] base) (F : Fr base L s.heap m) (X : (hd1.heap_1 w.params).In base) (T : Top p loose mean mg mb base) (h237 : @LT.lt Nat _ 237 L) (hsl : base.IsList sc scv.toArray) (hIs : IntsAre scv scn) (hc63 : scv.length ≤ 63)
    (N : News base L s.heap [(wl, listOf wv.toArray n1), (sl, listOf sv.toArray n2), (ra, listOf rv.toArray 0), (L + 1 + 1 + 1 + 1 + 1 + 1, p6), (L + 1 + 1 + 1 + 1 + 1, p5), (L + 1 + 1 + 1 + 1, p4), (L + 1 + 1 + 1, p3), (L + 1 + 1, p2), (L + 1, p1), (237, tabObj #[])]) (lo : @LT.lt Nat _ (L + 1 + 1 + 1 + 1 + 1 + 1) ra ∧ @LT.lt Nat _ ra sl ∧ @LT.lt Nat _ sl wl)
    (d6 : p6.data = .cell x6) (d5 : p5.data = .cell x5) (d4 : p4.data = .cell x4) (d3 : p3.data = .cell x3) (d2 : p2.data = .cell (some (.ref wl))) (d1 : p1.data = .cell (some (.ref sl)))
    (hrv : Txs rv rkL) (hsv : Txs sv (rs.map fun r => [r.su])) (hwv : Txs wv (rs.map R1.word)) (h5 : rs.length = 5) (hok : ∀ r ∈ rs, r.Ok) (hnd : (rs.map (·.c)).Nodup) (hT : (rs.map R1.enc).flatten.length ≤ 100)
    (ms : m (Str.ofString "script") = some (.ref sc)) (mr : m (Str.ofString "ranks") = some (.ref ra)) (mt : m (Str.ofString "text") = some (.str (tx (rs.map R1.enc).flatten) tt))
    (hQ : ∀ (h' : Heap) (tk : Nat) (ps : Array Value) m', Fr base L h' m' → News base L h' [(237, tabObj ps)] → Q (.ret (.bool true)) { s with heap := h', toks := tk }) : RestW w fa L cd 7 Q s := by
  refine ⟨_, _, _, _, _, _, _, _, _, _, _, _, _, _, _, by k_is, ?_⟩
  dsimp only [List.drop]
  k_steps
  unfold Stop
  rename Fr _ _ _ _ => F1
  rename News _ _ _ _ => N1
  k_dflt (refine' lexer_spec ?cB ?cF ?cX ?cT ?cd ?cu ?cN ?cx ?_; (case cB => k_asm); (case cF => exact F1); (case cX => k_asm); (case cT => k_asm); (case cd => decide); (case cu => decide); (case cN => exact news_sub N1 (by k_upd)); (case cx => show (List.toArray _).size ≤ _; ktr_rel))
  intro P vs le tl tps h1 k1 O fr hc kp F2 N2
  have l3 := led_lt N1 fr
  k_lt l3
  k_dflt (refine' repl_go (ads := [237]) ?ck ?cM ?cN ?cr ?_; (case ck => exact fun b o e hb => kp b o e (by simpa using hb)); (case cM => exact news_sub (sub := [(237, tabObj tps)]) N2 (by k_upd)); (case cN => exact N1); (case cr => k_upd))
  intro N3
  have N4 := news_join (news_tail N2) N3
  clear N3 N2 N1 F1 kp fr
  have O' := O
  obtain ⟨ocd, ocf, ovq, oord⟩ := O'
  have gl3 : AllNe (L + 1 + 1 + 1) P.addrs := O.lo (by omega)
  unfold lexLed at N4
  simp only [List.cons_append, List.nil_append] at N4
  dsimp only
  k_steps
  unfold Stop
  rename Fr _ _ _ _ => F1
  rename News _ _ _ _ => N1
  rename IsRange _ _ 0 5 1 _ _ _ => r9
  obtain ⟨H, e1, e2, e3, e4⟩ := hdr_names (w := w) N1
  subst e1 e2 e3
  have N1 : News base L _ ((H.hl, listOf #[] 0) :: (H.x, instObj 231 H.d) :: (H.d, dictOf [ent w "_headers" _ (.ref H.hl)] 1) :: _) := N1
  rw [← e4] at N1
  have OH : H.Ok := ⟨by omega, by omega⟩
  obtain ⟨q3, eq3⟩ := nameC (a := P.x2) (by assumption)
  subst eq3
  have hz0 : vs.length ≤ 200 := by
    rw [hc.length]
    show ((rs.map R1.enc).flatten ++ [46]).toArray.toList.length ≤ 200
    simp only [List.toList_toArray, List.length_append, List.length_cons, List.length_nil]
    omega
  have N1 : News base L _ ((lexLed w P 1 tl [] 0 vs.reverse le ++ (hdrLed w H [] 0 ++ [(wl, listOf wv.toArray n1), (sl, listOf sv.toArray n2), (ra, listOf rv.toArray 0), (L + 1 + 1 + 1 + 1 + 1 + 1, p6), (L + 1 + 1 + 1 + 1 + 1, p5), (L + 1 + 1 + 1 + 1, p4), (L + 1 + 1 + 1, q3), (L + 1 + 1, p2), (L + 1, p1), (237, tabObj tps)])) ++ []) := news_sub N1 (by simp only [lexLed, hdrLed, List.cons_append, List.nil_append, List.append_nil]; k_upd)
  refine iter_rangeUnr (n := 5) rfl r9 (by decide) (by decide) F1 N1 fun i' l2 => ?_
  simp only [lexLed, hdrLed, List.cons_append, List.nil_append, List.append_nil] at l2
  k_lt l2
  clear r9
  refine range_inv (fun i m' nw => ∃ (ln : Int) (tl : Tok) (vs : List Value) (le n : Nat) (cs : List Nat) (rv' : List Value) (TL : List (Addr × Obj)), Lx cs ((rs.drop i).map R1.word) ∧ Chs vs cs ∧ ln + nls cs = 1 + nls ((rs.map R1.enc).flatten ++ [46]) ∧ vs.length ≤ 200 ∧
      Prs TL rv' ((rs.take i).map fun r => ([r.sp], r.word)) ∧ rv'.length = i ∧ (∀ p ∈ TL, @LT.lt Nat _ i' p.1) ∧ (∀ q z z2 t1 t2, (q, pairO z z2 t1 t2) ∈ TL → z.all reOk = true ∧ z.length < 1000) ∧
      m' (Str.ofString "table") = some (.ref H.x) ∧ m' (Str.ofString "script") = some (.ref sc) ∧ m' (Str.ofString "ranks") = some (.ref ra) ∧ m' (Str.ofString "text") = some (.str (tx (rs.map R1.enc).flatten) tt) ∧
      nw = (lexLed w P ln tl [] 0 vs.reverse le ++ (hdrLed w H rv' n ++ [(wl, listOf wv.toArray n1), (sl, listOf sv.toArray n2), (ra, listOf rv.toArray 0), (L + 1 + 1 + 1 + 1 + 1 + 1, p6), (L + 1 + 1 + 1 + 1 + 1, p5), (L + 1 + 1 + 1 + 1, p4), (L + 1 + 1 + 1, q3), (L + 1 + 1, p2), (L + 1, p1), (237, tabObj tps)])) ++ TL) ?init ?turn ?fin
  case init =>
    refine ⟨1, tl, vs, le, 0, _, [], [], Lx_all rs hok, hc, rfl, hz0, ⟨rfl, fun i v h => by simp at h⟩, rfl, fun _ h => (nomatch h), fun _ _ _ _ _ h => (nomatch h), by ktr_unf, by ktr_unf, by ktr_unf, by ktr_unf, rfl⟩
  case turn =>
    rintro i t m' nw h tk hi ⟨ln, tl, vs, le, n, cs, rv', TL, a1, a2, a3, a4, a5, a6, a7, a8, e1, e2, e3, e4', rfl⟩ F9 N9
    simp only [lexLed, hdrLed, List.cons_append, List.nil_append] at N9
    have lo5 : @LT.lt Nat _ (L + 1 + 1 + 1 + 1 + 1 + 1) ra ∧ @LT.lt Nat _ ra sl ∧ @LT.lt Nat _ sl wl ∧ @LT.lt Nat _ wl P.cs ∧ P.pb2 < H.d := by omega
    have ga1 := adP_Hx O OH lo5 h237
    have ga2 := adP_Hd O OH lo5 h237
    have ga3 := adP_Hhl O OH lo5 h237
    have ga4 := adP_wl O OH lo5 h237
    have ga5 := adP_sl O OH lo5 h237
    have ga6 := adP_ra O OH lo5 h237
    have gb1 := adP_c1 O OH lo5 h237
    have gb2 := adP_c2 O OH lo5 h237
    have gb3 := adP_c3 O OH lo5 h237
    have gb4 := adP_c4 O OH lo5 h237
    have gb5 := adP_c5 O OH lo5 h237
    have gb6 := adP_c6 O OH lo5 h237
    have gb7 := adP_tab O OH lo5 h237
    have hph := adP_hi O OH lo5 h237
    have hhi : H.hl < i' := by omega
    have gh0 := adH_x2 O OH lo5 h237
    have gh1 := adH_d2 O OH lo5 h237
    have gh2 := adH_pb2 O OH lo5 h237
    have gh3 := adH_f O OH lo5 h237
    have gh4 := adH_c O OH lo5 h237
    have gh5 := adH_x1 O OH lo5 h237
    have gh6 := adH_d1 O OH lo5 h237
    have gh7 := adH_ls O OH lo5 h237
    have gh8 := adH_cs O OH lo5 h237
    have gh9 := adH_wl O OH lo5 h237
    have gh10 := adH_sl O OH lo5 h237
    have gh11 := adH_ra O OH lo5 h237
    have gh12 := adH_c1 O OH lo5 h237
    have gh13 := adH_c2 O OH lo5 h237
    have gh14 := adH_c3 O OH lo5 h237
    have gh15 := adH_c4 O OH lo5 h237
    have gh16 := adH_c5 O OH lo5 h237
    have gh17 := adH_c6 O OH lo5 h237
    have gh18 := adH_tab O OH lo5 h237
    have gi1 : AllNe i' P.addrs := O.hi (Nat.lt_trans hph hhi)
    have gi2 : AllNe i' H.addrs := HdrP.Ok.hi OH hhi
    have hTa : ∀ p ∈ TL, p.1 ∉ P.addrs := O.tl a7 (Nat.lt_trans hph hhi)
    have hTh : ∀ p ∈ TL, p.1 ∉ H.addrs := HdrP.Ok.tl OH a7 hhi
    have hdr : rs.drop i = rs[i] :: rs.drop (i + 1) := List.drop_eq_getElem_cons (by omega)
    obtain ⟨r, hr⟩ : ∃ r, r = rs[i] := ⟨_, rfl⟩
    rw [← hr] at hdr
    have hrO : r.Ok := hok r (hr ▸ List.getElem_mem _)
    obtain ⟨hrk, hrl⟩ := r.rank_ok
    have hrw : (r.sp :: r.rank).all reOk = true := reOk_word hrO
    have hrs : [r.sp].all reOk = true := by simp [R1.sp_ok hrO]
    rw [hdr] at a1
    obtain ⟨cs', hlex, a1'⟩ := a1
    have hlex : lexA cs = some (r.sp :: r.rank, cs') := hlex
    k_steps
    unfold Stop
    rename Fr _ _ _ _ => F8
    rename News _ _ _ _ => N8
    k_dflt (refine' tok_lex ?cB ?cF ?cX ?cT ?cd ?cu O ?cN a2 ?cz hlex ?_; (case cB => k_asm); (case cF => exact F8); (case cX => k_asm); (case cT => k_asm); (case cd => decide); (case cu => decide); (case cN => exact news_sub N8 (by k_upd)); (case cz => ktr_rel))
    intro ln' tl' vs' le' tt' h' tk' a3' a2' kp F7 N7
    k_dflt (refine' repl_go kp N7 N8 ?cr ?_; (case cr => k_upd))
    clear kp N7
    intro N7
    (try simp only [List.cons_append, List.nil_append] at N7)
    clear F8 N8
    dsimp only
    k_steps
    unfold Stop
    rename Fr _ _ _ _ => F8
    rename News _ _ _ _ => N8
    k_dflt (refine' hdr_add ?cB ?cF ?cX ?cT ?cd ?cu OH ?cN ?cr hrs hrw ?cy ?cz ?_; (case cB => k_asm); (case cF => exact F8); (case cX => k_asm); (case cT => k_asm); (case cd => decide); (case cu => decide); (case cN => exact news_sub N8 (by k_upd)); (case cr => omega); (case cy => (show 1 < 1000); decide); (case cz => simp only [List.length_cons]; omega))
    intro q t' n' h' tk' kp fq F7 N7 Nq
    have l3 := led_lt N8 fq
    k_lt l3
    k_dflt (refine' repl_go kp N7 N8 ?cr ?_; (case cr => k_upd))
    clear kp N7
    intro N7
    have N6 := news_join Nq N7
    clear F8 N8 N7 Nq
    (try simp only [List.cons_append, List.nil_append] at N6)
    dsimp only
    k_steps
    unfold Stop
    rename News _ _ _ _ => N8
    have hX : ∀ p ∈ (lexLed w P ln' tl' [] 0 vs'.reverse le' ++ (hdrLed w H (rv' ++ [.ref q]) n' ++ [(wl, listOf wv.toArray n1), (sl, listOf sv.toArray n2), (ra, listOf rv.toArray 0), (L + 1 + 1 + 1 + 1 + 1 + 1, p6), (L + 1 + 1 + 1 + 1 + 1, p5), (L + 1 + 1 + 1 + 1, p4), (L + 1 + 1 + 1, q3), (L + 1 + 1, p2), (L + 1, p1), (237, tabObj tps)])), @LT.lt Nat _ p.1 i' := allLt_mem (by simp only [lexLed, hdrLed, List.cons_append, List.nil_append, AllLt, and_true]; omega)
    refine UnrEnd.intro (by assumption) N8 ((lexLed w P ln' tl' [] 0 vs'.reverse le' ++ (hdrLed w H (rv' ++ [.ref q]) n' ++ [(wl, listOf wv.toArray n1), (sl, listOf sv.toArray n2), (ra, listOf rv.toArray 0), (L + 1 + 1 + 1 + 1 + 1 + 1, p6), (L + 1 + 1 + 1 + 1 + 1, p5), (L + 1 + 1 + 1 + 1, p4), (L + 1 + 1 + 1, q3), (L + 1 + 1, p2), (L + 1, p1), (237, tabObj tps)])) ++ (TL ++ [(q, pairO [r.sp] (r.sp :: r.rank) _ t')])) sub_tail (fun p hp => ?_)
      ⟨ln', tl', vs', le', n', cs', rv' ++ [.ref q], TL ++ [(q, pairO [r.sp] (r.sp :: r.rank) _ t')], a1', a2', a3'.trans a3, ?_, ?_, ?_, ?_, ?_, by ktr_unf, by ktr_unf, by ktr_unf, by ktr_unf, rfl⟩
    · rcases List.mem_append.mp hp with hp | hp
      · exact Nat.ne_of_lt (hX p hp)
      · rcases List.mem_append.mp hp with hp | hp
        · exact Ne.symm (Nat.ne_of_lt (a7 p hp))
        · rw [List.mem_singleton.mp hp]
          show q ≠ i'
          exact Ne.symm (Nat.ne_of_lt (by omega))
    · rw [a2'.length]
      have := lexA_le _ _ _ hlex
      rw [← a2.length] at this
      omega
    · rw [List.take_add_one, List.getElem?_eq_getElem (by omega), ← hr, List.map_append]
      exact a5.snoc
    · rw [List.length_append, a6]; rfl
    · intro p hp
      rcases List.mem_append.mp hp with hp | hp
      · exact a7 p hp
      · rw [List.mem_singleton.mp hp]
        show @LT.lt Nat _ i' q
        omega
    · intro q' z z2 u1 u2 hq
      rcases List.mem_append.mp hq with hq | hq
      · exact a8 q' z z2 u1 u2 hq
      · obtain ⟨rfl, _⟩ := pairO_inj (Prod.mk.inj (List.mem_singleton.mp hq)).2
        exact ⟨hrs, by show 1 < 1000; decide⟩
  case fin =>
    rintro m' nw h tk ⟨ln, tl, vs, le, n, cs, rv', TL, a1, a2, a3, a4, a5, a6, a7, a8, e1, e2, e3, e4', rfl⟩ F9 N9
    have hdr : rs.drop 5 = [] := List.drop_eq_nil_of_le (by omega)
    have htk : rs.take 5 = rs := List.take_of_length_le (by omega)
    rw [hdr] at a1
    rw [htk] at a5
    have a7' : ∀ p ∈ TL, @LT.lt Nat _ H.hl p.1 := fun p hp => Nat.lt_trans (show @LT.lt Nat _ H.hl i' by omega) (a7 p hp)
    have lo5 : @LT.lt Nat _ (L + 1 + 1 + 1 + 1 + 1 + 1) ra ∧ @LT.lt Nat _ ra sl ∧ @LT.lt Nat _ sl wl ∧ @LT.lt Nat _ wl P.cs ∧ P.pb2 < H.d := by omega
    have ga1 := adP_Hx O OH lo5 h237
    have ga2 := adP_Hd O OH lo5 h237
    have ga3 := adP_Hhl O OH lo5 h237
    have ga4 := adP_wl O OH lo5 h237
    have ga5 := adP_sl O OH lo5 h237
    have ga6 := adP_ra O OH lo5 h237
    have gb1 := adP_c1 O OH lo5 h237
    have gb2 := adP_c2 O OH lo5 h237
    have gb3 := adP_c3 O OH lo5 h237
    have gb4 := adP_c4 O OH lo5 h237
    have gb5 := adP_c5 O OH lo5 h237
    have gb6 := adP_c6 O OH lo5 h237
    have gb7 := adP_tab O OH lo5 h237
    have hph := adP_hi O OH lo5 h237
    have hhi : H.hl < i' := by omega
    have hTa : ∀ p ∈ TL, p.1 ∉ P.addrs := O.tl a7 (Nat.lt_trans hph hhi)
    have hTh : ∀ p ∈ TL, p.1 ∉ H.addrs := HdrP.Ok.tl OH a7 hhi
    have hokw : ∀ y ∈ rs.map R1.word, y.all reOk = true := fun y hy => by
      obtain ⟨r, hr, rfl⟩ := List.mem_map.mp hy
      exact reOk_word (hok r hr)
    simp only [lexLed, hdrLed, List.cons_append, List.nil_append] at N9
    k_steps
    unfold Stop
    have Ns : News base L _ (hdrLed w H rv' n ++ TL) := news_sub N9 (subs_app (by simp only [hdrLed]; k_upd) (fun p hp => by repeat (first | exact hp | apply List.mem_cons_of_mem)))
    k_dflt (refine' hdr_values ?cB ?cF ?cX ?cT ?cd ?cu OH Ns a5 ?cr ?_; (case cB => k_asm); (case cF => exact F9); (case cX => k_asm); (case cT => k_asm); (case cd => decide); (case cu => decide); (case cr => omega))
    intro q us h' tk' kp fq F7 N7 hus
    have hus : Txs us (rs.map R1.word) := by
      have e : ((rs.map fun r => ([r.sp], r.word)).map fun p => tx p.2) = (rs.map R1.word).map tx := by rw [List.map_map, List.map_map]; rfl
      rw [e] at hus
      exact hus
    have l3 := led_ne N9 fq
    have kp2 := kept_all Ns (news_tail N7) (fun p hp => hp) (fun b o e hb => by
      rw [List.map_append, List.mem_append, not_or] at hb
      exact kp b o e hb.1 hb.2)
    k_dflt (refine' repl_go0 kp2 N9 ?_)
    intro N6
    have N5 : News base L h' ((q, listOf us.toArray us.length) :: _) := news_cons (news_head N7) N6
    clear N9 N6 N7 F9 kp kp2 Ns
    (try simp only [List.cons_append, List.nil_append] at N5)
    dsimp only
    k_steps
    unfold Stop
    rename Fr _ _ _ _ => F8
    rename News _ _ _ _ => N8
    have Nf : News base L _ ((lexLed w P ln tl [] 0 vs.reverse le ++ (hdrLed w H rv' n ++ [(wl, listOf wv.toArray n1), (sl, listOf sv.toArray n2), (ra, listOf rv.toArray 0), (L + 1 + 1 + 1 + 1 + 1 + 1, p6), (L + 1 + 1 + 1 + 1 + 1, p5), (L + 1 + 1 + 1 + 1, p4), (L + 1 + 1 + 1, q3), (L + 1 + 1, p2), (L + 1, p1), (237, tabObj tps)])) ++ TL) := news_sub N8 (subs_app (by simp only [lexLed, hdrLed, List.cons_append, List.nil_append]; k_upd) (fun p hp => by repeat (first | exact hp | apply List.mem_cons_of_mem)))
    refine (stC (s := ⟨_, s.gens, s.drawn, _, s.os⟩) B F8 X T h237 hsl hIs hc63 Nf (by omega) O OH a7' d6 d5 d4 (by assumption) d2 d1 hrv hsv hwv h5 hok hnd hT a1 a2 a3 a4 a5 a8 e1 e2 e3 e4' ?_).use (by k_is)
    intro h' tk ps m' F' N'
    exact hQ h' tk ps m' F' N'
end
end
end
end
theorem cx22 {p : Program} {w : World} {A : Around} {Q : Value → Shared → Prop} {E : Value → Shared → Prop} {s : Shared} (h : wpAny (model p w) A (pyIter Value.none) Q E s) : wpAny (model p w) A (pyIter Value.none) Q E s := by first | (walk1; fail "x") | exact h
section
local macro_rules | `(tactic| l_idx) => `(tactic| first | assumption | exact wh_lo _ | exact wh_hi _ | omega)
local macro_rules | `(tactic| walk_at "call type:list") => `(tactic| (k_here; (rename IsRange _ _ _ _ _ _ _ _ => rgX); (with_unfolding_all refine' kll_range (by rfl) (by k_asm) (by k_asm) (by exact rgX) (by decide) (by rfl) (by decide) ?_; k_whole); intro D' vs' c' h' tk' F' N' l1 hI'; (try k_lt l1); (try k_sweep)))
local macro_rules | `(tactic| walk_at "subscriptTail Name Slice ref ref") => `(tactic| (k_here; (with_reducible show wpAny _ _ (subscriptTail _ (PySem.Expr.Slice (some _) none (some _) _) (Value.ref _) (Value.ref _)) _ _ _); k_dflt (refine' sliceI_K (by k_asm) (by k_asm) (by kmk_list) (by exact IsPart.int _ _) (by exact IsPart.none) (by exact IsPart.int _ _) (by decide) (by assumption) ?_ (by with_unfolding_all rfl) (by intro _; with_unfolding_all rfl) (by ktr_rel)); intro D' vs' ms' h' F' N' l1 hI'; (try k_lt l1); (try k_sweep)))
local macro_rules | `(tactic| walk_at "call builtin:list.pop") => `(tactic| (k_here; (with_reducible show wpAny _ _ (call (Value.builtin _) [Value.ref _, Value.int (Int.fmod _ _) _]) _ _ _); refine Stop.out ?_))
local macro_rules | `(tactic| walk_at "subscriptTail Constant BinOp str int") => `(tactic| (k_here; k_dflt (refine' itemStr_K (by l_idx) (by l_idx) (by decide) ?_ (by with_unfolding_all rfl) (by intro _; with_unfolding_all rfl)); intro t' k'))
local macro_rules | `(tactic| walk_at "subscriptTail Name BinOp str int") => `(tactic| (k_here; k_dflt (refine' itemStr_K (by l_idx) (by l_idx) (by decide) ?_ (by with_unfolding_all rfl) (by intro _; with_unfolding_all rfl)); intro t' k'))
local macro_rules | `(tactic| walk_at "binaryOp Add str str") => `(tactic| (k_here; (with_reducible show wpAny _ _ (binaryOp _ (Value.str (tx _) _) (Value.str (tx _) _)) _ _ _); (refine' addTx_K ?_ (by ktr_rel)); intro t' tk'))
local macro_rules | `(tactic| walk_at "subscriptTail Name Name ref int") => `(tactic| (k_here; k_dflt (refine' itemLast_K (by kmk_list) (by l_idx) (by ktr_rel) ?_ (by with_unfolding_all rfl) (by intro _; with_unfolding_all rfl))))
local macro_rules | `(tactic| k_enter) => `(tactic| ((with_reducible show codeAny _ _ (Code.call (Value.ref 247) _) _ _); k_dflt (refine' word_any (by k_asm) (by k_asm) (by k_asm) (by k_asm) (by decide) (by decide) (by exact fmod2 _) (by ktr_rel) (by ktr_rel) (by assumption) ?_); intro t' h' tk' kp' F9'; (k_dflt (refine' repl_go0 kp' (by k_asm) ?_)); clear kp'; intro N9'; (try k_sweep); (try dsimp only)))
local macro_rules | `(tactic| walk_at "subscriptTail") => `(tactic| (k_here; k_dflt (refine' itemStr_K (by l_idx) (by l_idx) (by decide) ?_ (by with_unfolding_all rfl) (by intro _; with_unfolding_all rfl)); intro t' k'))
local macro_rules | `(tactic| walk_at "binaryOp Add str str") => `(tactic| (k_here; (with_reducible show wpAny _ _ (binaryOp _ (Value.str (tx _) _) (Value.str (tx (lawWord _ _ _)) _)) _ _ _); (refine' addTx_K ?_ (by (refine Nat.le_trans (Nat.add_le_add_left (lawWord_len _ _ _) _) ?_; ktr_rel))); intro t' tk'))
theorem names11 {h₀ h : Heap} {L : Addr} {a0 a1 a2 a3 a4 a5 a6 a7 a8 a9 a10 : Addr} {o0 o1 o2 o3 o4 o5 o6 o7 o8 o9 o10 : Obj} {r : List (Addr × Obj)} (_ : News h₀ L h ((a0, o0) :: (a1, o1) :: (a2, o2) :: (a3, o3) :: (a4, o4) :: (a5, o5) :: (a6, o6) :: (a7, o7) :: (a8, o8) :: (a9, o9) :: (a10, o10) :: r)) : ∃ (b0 b1 b2 b3 b4 : Addr) (p0 p1 p2 p3 p4 p5 p6 p7 p8 p9 p10 : Obj), b0 = a0 ∧ b1 = a1 ∧ b2 = a2 ∧ b3 = a3 ∧ b4 = a4 ∧ p0 = o0 ∧ p1 = o1 ∧ p2 = o2 ∧ p3 = o3 ∧ p4 = o4 ∧ p5 = o5 ∧ p6 = o6 ∧ p7 = o7 ∧ p8 = o8 ∧ p9 = o9 ∧ p10 = o10 := ⟨_, _, _, _, _, _, _, _, _, _, _, _, _, _, _, _, rfl, rfl, rfl, rfl, rfl, rfl, rfl, rfl, rfl, rfl, rfl, rfl, rfl, rfl, rfl, rfl⟩
section
variable {w : World} {L : Addr} {base : Heap} {m : Str → Option Value} {s : Shared} {p : Program} {loose : List Str} {mean : ExcName → Option Value} {mg mb : Str → Option Value} {fa : Addr} {cd : Value} {Q : Flow → Shared → Prop} {scv : List Value} {scn : List Int} {sc : Addr}
set_option maxHeartbeats 0 in
theorem stA {o6 o5 o4 o3 o2 o1 : Obj} {x6 x5 x4 x3 x2 x1 : Option Value} (B : Below callerA base [] base) (F : Fr base L s.heap m) (X : (hd1.heap_1 w.params).In base) (T : Top p loose mean mg mb base) (h237 : @LT.lt Nat _ 237 L) (hsl : base.IsList sc scv.toArray) (hIs : IntsAre scv scn) (hc63 : scv.length ≤ 63) (N : News base L s.heap [(L + 1 + 1 + 1 + 1 + 1 + 1, o6), (L + 1 + 1 + 1 + 1 + 1, o5), (L + 1 + 1 + 1 + 1, o4), (L + 1 + 1 + 1, o3), (L + 1 + 1, o2), (L + 1, o1), (237, tabObj #[])])
    (d6 : o6.data = .cell x6) (d5 : o5.data = .cell x5) (d4 : o4.data = .cell x4) (d3 : o3.data = .cell x3) (d2 : o2.data = .cell x2) (d1 : o1.data = .cell x1) (ms : m (Str.ofString "script") = some (.ref sc))
    (hQ : ∀ (h' : Heap) (tk : Nat) (ps : Array Value) m', Fr base L h' m' → News base L h' [(237, tabObj ps)] → Q (.ret (.bool true)) { s with heap := h', toks := tk }) : RestW w fa L cd 0 Q s := by
  have hscl : scv.length ≤ sizeLine := by rw [PySem.sizeLine_eq]; omega
  refine ⟨_, _, _, _, _, _, _, _, _, _, _, _, _, _, _, by k_is, ?_⟩
  dsimp only [List.drop]
  k_steps
  unfold Stop
  rename Fr _ _ _ _ => F1
  rename News _ _ _ _ => N1
  rename IsRange _ _ 0 5 1 _ _ _ => r9
  rename IntsAre _ (rangeKs 0 _) => hI0
  obtain ⟨wl, sl, lf, bs, ra, w0, s0, l0, b0, r0, p6, p5, p4, p3, p2, p1, e1, e2, e3, e4, e5, e6, e7, e8, e9, e10, e11, e12, e13, e14, e15, e16⟩ := names11 N1
  subst e1 e2 e3 e4 e5 e8 e11 e12 e13 e14 e15 e16
  obtain ⟨rv, er1, hrv⟩ : ∃ rv : List Value, r0 = listOf rv.toArray 0 ∧ Txs rv rkL := ⟨_, e10, rk_txs⟩
  obtain ⟨bv, eb1, hbv⟩ : ∃ bv : List Value, b0 = listOf bv.toArray 0 ∧ IntsAre bv [82, 134, 259, 300, 400] := ⟨_, e9, .cons _ _ (.cons _ _ (.cons _ _ (.cons _ _ (.cons _ _ .nil))))⟩
  rw [← e9, ← e10, eb1, er1] at N1
  clear e6 e7 e9 e10 eb1 er1
  refine iter_rangeUnr (n := 5) rfl r9 (by decide) (by decide) F1 N1 fun i' l2 => ?_
  k_lt l2
  clear r9
  obtain ⟨InvX, InvXi, InvXe⟩ : ∃ InvX : Nat → (Str → Option Value) → List (Addr × Obj) → Prop, (∀ i m' nw, (∃ (rs : List R1) (sv wv lv : List Value) (ns : List Int) (tt : Tok) (n1 n2 n3 : Nat), rs.length = i ∧ (∀ r ∈ rs, r.Ok) ∧ (rs.map (·.c)).Nodup ∧ IntsAre lv ns ∧ ns.length = 52 - i ∧ ns.Nodup ∧ (∀ x ∈ ns, ∃ c : Nat, x = (c : Nat) ∧ c < 52 ∧ c ∉ rs.map (·.c)) ∧ Txs sv (rs.map fun r => [r.su]) ∧ Txs wv (rs.map R1.word) ∧ (rs.map R1.enc).flatten.length ≤ 20 * i ∧ m' (Str.ofString "text") = some (.str (tx (rs.map R1.enc).flatten) tt) ∧ m' (Str.ofString "ranks") = some (.ref ra) ∧ m' (Str.ofString "left") = some (.ref lf) ∧ m' (Str.ofString "base") = some (.ref bs) ∧ m' (Str.ofString "script") = some (.ref sc) ∧ nw = [(wl, listOf wv.toArray n1), (sl, listOf sv.toArray n2), (lf, listOf lv.toArray n3), (bs, listOf bv.toArray 0), (ra, listOf rv.toArray 0), (L + 1 + 1 + 1 + 1 + 1 + 1, p6), (L + 1 + 1 + 1 + 1 + 1, p5), (L + 1 + 1 + 1 + 1, p4), (L + 1 + 1 + 1, p3), (L + 1 + 1, p2), (L + 1, p1), (237, tabObj #[])]) → InvX i m' nw) ∧ (∀ i m' nw (G : Prop), InvX i m' nw → (∀ (rs : List R1) (sv wv lv : List Value) (ns : List Int) (tt : Tok) (n1 n2 n3 : Nat), (rs.length = i) → ((∀ r ∈ rs, r.Ok)) → ((rs.map (·.c)).Nodup) → (IntsAre lv ns) → (ns.length = 52 - i) → (ns.Nodup) → ((∀ x ∈ ns, ∃ c : Nat, x = (c : Nat) ∧ c < 52 ∧ c ∉ rs.map (·.c))) → (Txs sv (rs.map fun r => [r.su])) → (Txs wv (rs.map R1.word)) → ((rs.map R1.enc).flatten.length ≤ 20 * i) → (m' (Str.ofString "text") = some (.str (tx (rs.map R1.enc).flatten) tt)) → (m' (Str.ofString "ranks") = some (.ref ra)) → (m' (Str.ofString "left") = some (.ref lf)) → (m' (Str.ofString "base") = some (.ref bs)) → (m' (Str.ofString "script") = some (.ref sc)) → (nw = [(wl, listOf wv.toArray n1), (sl, listOf sv.toArray n2), (lf, listOf lv.toArray n3), (bs, listOf bv.toArray 0), (ra, listOf rv.toArray 0), (L + 1 + 1 + 1 + 1 + 1 + 1, p6), (L + 1 + 1 + 1 + 1 + 1, p5), (L + 1 + 1 + 1 + 1, p4), (L + 1 + 1 + 1, p3), (L + 1 + 1, p2), (L + 1, p1), (237, tabObj #[])]) → G) → G) := ⟨fun i m' nw => ∃ (rs : List R1) (sv wv lv : List Value) (ns : List Int) (tt : Tok) (n1 n2 n3 : Nat), rs.length = i ∧ (∀ r ∈ rs, r.Ok) ∧ (rs.map (·.c)).Nodup ∧ IntsAre lv ns ∧ ns.length = 52 - i ∧ ns.Nodup ∧ (∀ x ∈ ns, ∃ c : Nat, x = (c : Nat) ∧ c < 52 ∧ c ∉ rs.map (·.c)) ∧ Txs sv (rs.map fun r => [r.su]) ∧ Txs wv (rs.map R1.word) ∧ (rs.map R1.enc).flatten.length ≤ 20 * i ∧ m' (Str.ofString "text") = some (.str (tx (rs.map R1.enc).flatten) tt) ∧ m' (Str.ofString "ranks") = some (.ref ra) ∧ m' (Str.ofString "left") = some (.ref lf) ∧ m' (Str.ofString "base") = some (.ref bs) ∧ m' (Str.ofString "script") = some (.ref sc) ∧ nw = [(wl, listOf wv.toArray n1), (sl, listOf sv.toArray n2), (lf, listOf lv.toArray n3), (bs, listOf bv.toArray 0), (ra, listOf rv.toArray 0), (L + 1 + 1 + 1 + 1 + 1 + 1, p6), (L + 1 + 1 + 1 + 1 + 1, p5), (L + 1 + 1 + 1 + 1, p4), (L + 1 + 1 + 1, p3), (L + 1 + 1, p2), (L + 1, p1), (237, tabObj #[])], fun _ _ _ h => h, fun _ _ _ _ h k => by obtain ⟨rs, sv, wv, lv, ns, tt, n1, n2, n3, z0, z1, z2, z3, z4, z5, z6, z7, z8, z9, z10, z11, z12, z13, z14, z15⟩ := h; exact k rs sv wv lv ns tt n1 n2 n3 z0 z1 z2 z3 z4 z5 z6 z7 z8 z9 z10 z11 z12 z13 z14 z15⟩
  refine range_inv InvX (InvXi _ _ _ ?init) ?turn ?fin
  case init =>
    refine ⟨[], [], [], _, _, _, _, _, _, rfl, (fun _ h => nomatch h), List.nodup_nil, hI0, rfl, ?_, ?_, Txs.nil, Txs.nil, Nat.le_refl _, rfl, rfl, rfl, rfl, ms, rfl⟩
    · decide
    · intro x hx
      have hx2 : 0 ≤ x ∧ x < 0 + ((52 : Nat) : Int) := mem_rangeKs (show x ∈ rangeKs 0 52 from hx)
      exact ⟨x.toNat, by omega, by omega, by simp⟩
  case turn =>
    rintro i t m' nw h tk hi hv9 F9 N9
    refine InvXe _ _ _ _ hv9 fun rs sv wv lv ns tt n1 n2 n3 q1 q2 q3 q4 q5 q6 q7 q8 q9 q10 e1 e2 e3 e4 e5 en => ?_
    clear hv9
    subst en
    have hln : lv.length = ns.length := q4.length
    have hsn : sv.length = i := by rw [q8.length, List.length_map]; exact q1
    have hwn : wv.length = i := by rw [q9.length, List.length_map]; exact q1
    k_steps
    unfold Stop
    rename Fr _ _ _ _ => F8
    rename News _ _ _ _ => N8
    refine popF_K (vs := lv) (n := n3) F8 N8 (by first | rfl | omega) (by omega) (by rw [PySem.sizeLine_eq]; omega) fun p y q ev => ⟨_, by k_upd, fun h' F' N' => ?_⟩
    obtain ⟨np, nx, nq, tx9, en, hp, hq, rfl⟩ := IntsAre.split ev q4
    obtain ⟨c, rfl, hc1, hc2⟩ := q7 nx (by rw [en]; simp)
    have g1 : 0 ≤ Int.fdiv (c : Int) 13 := by rw [show (13 : Int) = ((13 : Nat) : Int) from rfl, fdiv_nat]; exact Int.natCast_nonneg _
    have g2 : Int.fdiv (c : Int) 13 < (Str.ofString "abcd").cps.size := by
      rw [show (Str.ofString "abcd").cps.size = 4 from by decide, show (13 : Int) = ((13 : Nat) : Int) from rfl, fdiv_nat]; omega
    obtain ⟨g3, g3'⟩ : 0 ≤ Int.fmod (c : Int) 13 ∧ Int.fmod (c : Int) 13 < (rkL.length : Nat) := fmod_rng _ (by decide)
    have hrz : rkL.length ≤ sizeLine := by rw [PySem.sizeLine_eq]; decide
    have g4 : [(Str.ofString "abcd").cps.toList.getD (Int.fdiv (c : Int) 13).toNat 0] = [97 + c / 13] := by
      rw [show (13 : Int) = ((13 : Nat) : Int) from rfl, fdiv_nat, Int.toNat_natCast, su_fact c hc1]
    have g5 : ([(Str.ofString "abcd").cps.toList.getD (Int.fdiv (c : Int) 13).toNat 0] : List Nat).all reOk = true := by
      rw [g4]; simp [reOk]; omega
    have g0 : (Int.fmod (c : Int) 13).toNat = c % 13 := by rw [show (13 : Int) = ((13 : Nat) : Int) from rfl, fmod_nat, Int.toNat_natCast]
    obtain ⟨r5, g6⟩ : (rkL.getD (Int.fmod (c : Int) 13).toNat []).all reOk = true ∧ (rkL.getD (Int.fmod (c : Int) 13).toNat []).length ≤ 3 := by rw [g0]; exact rk_fact _ (Nat.mod_lt _ (by decide))
    have g7 : (List.map up1 [(Str.ofString "abcd").cps.toList.getD (Int.fdiv (c : Int) 13).toNat 0]).length = 1 := rfl
    have g8 : (List.map up1 [(Str.ofString "abcd").cps.toList.getD (Int.fdiv (c : Int) 13).toNat 0] ++ (rkL.getD (Int.fmod (c : Int) 13).toNat [])).all (· < 128) = true := all128 (by rw [List.all_append, up1_ok g5, r5]; rfl)
    have g9 : ([(Str.ofString "abcd").cps.toList.getD (Int.fdiv (c : Int) 13).toNat 0] ++ (rkL.getD (Int.fmod (c : Int) 13).toNat [])).all (· < 128) = true := all128 (by rw [List.all_append, g5, r5]; rfl)
    have mk : MkA := trivial
    k_steps
    unfold Stop
    rename Heap => h9
    refine wpAny_mono (Q := fun v s' => HoldP (∃ (up : Bool) (t' : Tok) (tk' : Nat), v = .str (tx (if up = true then List.map up1 [(Str.ofString "abcd").cps.toList.getD (Int.fdiv (c : Int) 13).toNat 0] else [(Str.ofString "abcd").cps.toList.getD (Int.fdiv (c : Int) 13).toNat 0])) t' ∧ s' = { s with heap := h9, toks := tk' })) (E := fun _ _ => False) ?ie (fun v s' hv => ?_) (fun _ _ h => h)
    case ie =>
      clear mk
      k_steps
      · exact ⟨true, _, _, rfl, rfl⟩
      · exact ⟨false, _, _, rfl, rfl⟩
    clear mk
    obtain ⟨up, t8, tk8, rfl, rfl⟩ := hv
    obtain ⟨y, ey⟩ : ∃ y, y = (if up = true then List.map up1 [(Str.ofString "abcd").cps.toList.getD (Int.fdiv (c : Int) 13).toNat 0] else [(Str.ofString "abcd").cps.toList.getD (Int.fdiv (c : Int) 13).toNat 0]) := ⟨_, rfl⟩
    rw [← ey]
    have hy1 : y.length = 1 := by rw [ey]; cases up <;> rfl
    have hyo : y.all reOk = true := by rw [ey]; cases up; exact g5; exact up1_ok g5
    have g8y : (y ++ (rkL.getD (Int.fmod (c : Int) 13).toNat [])).all (· < 128) = true := all128 (by rw [List.all_append, hyo, r5]; rfl)
    have hyw : ∀ bi g, y ++ (rkL.getD (Int.fmod (c : Int) 13).toNat []) = R1.word ⟨c, up, bi, g⟩ := by
      intro bi g
      rw [ey]
      cases up
      · rw [if_neg (by decide), g4, g0]; rfl
      · rw [if_pos rfl, g4, g0]; rfl
    k_steps
    unfold Stop
    rename Fr _ _ _ _ => F8
    rename News _ _ _ _ => N8
    obtain ⟨bi, g, u9, eb, eg, eu⟩ := nmT F8
    have hw : y ++ (rkL.getD (Int.fmod (c : Int) 13).toNat []) = R1.word ⟨c, up, bi, g⟩ := hyw bi g
    have hg : g = 10 ∨ g = 9 ∨ g = 13 ∨ g = 32 := by
      rw [eg]
      exact wh_any _
    have hbi : bi = 0 ∨ bi = 1 := by rw [eb]; exact fmod2 _
    have hl9 : (R1.enc ⟨c, up, bi, g⟩).length ≤ 20 := by
      refine Nat.le_trans (lawWord_len _ _ _) ?_
      rw [← hw]
      simp only [List.length_append, List.length_cons, List.length_nil, List.length_map]
      omega
    refine UnrEnd.intro3 (by assumption) N8 [(wl, listOf (wv ++ [_]).toArray _), (sl, listOf (sv ++ [_]).toArray _), (lf, listOf (p ++ q).toArray _), (bs, listOf bv.toArray 0), (ra, listOf rv.toArray 0), (L + 1 + 1 + 1 + 1 + 1 + 1, p6), (L + 1 + 1 + 1 + 1 + 1, p5), (L + 1 + 1 + 1 + 1, p4), (L + 1 + 1 + 1, p3), (L + 1 + 1, p2), (L + 1, p1), (237, tabObj #[])] (by k_mem) (by k_subL) (by k_offL)
      (InvXi _ _ _ ⟨rs ++ [⟨c, up, bi, g⟩], sv ++ [_], wv ++ [_], p ++ q, np ++ nq, u9, _, _, _, ?_, ?_, ?_, ?_, ?_, ?_, ?_, ?_, ?_, ?_, ?_, by ktr_unf, by ktr_unf, by ktr_unf, by ktr_unf, rfl⟩)
    · rw [List.length_append, q1]; rfl
    · intro r hr
      rcases List.mem_append.mp hr with hr | hr
      · exact q2 r hr
      · rw [List.mem_singleton.mp hr]
        exact ⟨hc1, hbi, hg⟩
    · rw [List.map_append, List.nodup_append]
      refine ⟨q3, by simp, fun a ha b hb => ?_⟩
      rintro rfl
      rw [List.mem_singleton.mp hb] at ha
      exact hc2 ha
    · exact hp.append hq
    · rw [List.length_append]
      rw [en, List.length_append, List.length_cons] at q5
      omega
    · rw [en] at q6
      exact (List.nodup_append.mp q6).1 |> fun h1 => List.nodup_append.mpr ⟨h1, (List.nodup_cons.mp (List.nodup_append.mp q6).2.1).2, fun a ha b hb => (List.nodup_append.mp q6).2.2 a ha b (List.mem_cons_of_mem _ hb)⟩
    · intro x hx
      have hx' : x ∈ ns := by
        rw [en]
        rcases List.mem_append.mp hx with h | h
        · exact List.mem_append_left _ h
        · exact List.mem_append_right _ (List.mem_cons_of_mem _ h)
      obtain ⟨d, rfl, hd1, hd2⟩ := q7 x hx'
      refine ⟨d, rfl, hd1, ?_⟩
      rw [List.map_append]
      intro h
      rcases List.mem_append.mp h with h | h
      · exact hd2 h
      · have hdc : d = c := List.mem_singleton.mp h
        subst hdc
        rw [en] at q6
        obtain ⟨_, h2, h3⟩ := List.nodup_append.mp q6
        rcases List.mem_append.mp hx with h | h
        · exact h3 _ h _ List.mem_cons_self rfl
        · exact (List.nodup_cons.mp h2).1 h
    · rw [List.map_append]
      refine q8.append ?_
      show Txs _ [[97 + c / 13]]
      rw [← g4]
      exact Txs.cons Txs.nil
    · rw [List.map_append]
      refine q9.append ?_
      show Txs _ [R1.word ⟨c, up, bi, g⟩]
      rw [← hw]
      exact Txs.cons Txs.nil
    · rw [enc_snoc, List.length_append]
      omega
    · rw [enc_snoc, eu]
      show _ = some (Value.str (tx (_ ++ lawWord bi (R1.word ⟨c, up, bi, g⟩) [g])) _)
      rw [← hw, eb, eg]
      ktr_unf
  case fin =>
    rintro m' nw h tk hv9 F9 N9
    refine InvXe _ _ _ _ hv9 fun rs sv wv lv ns tt n1 n2 n3 q1 q2 q3 q4 q5 q6 q7 q8 q9 q10 e1 e2 e3 e4 e5 en => ?_
    clear hv9
    subst en
    refine (stB (L := L) (s := ⟨h, s.gens, s.drawn, tk, s.os⟩) B F9 X T h237 hsl hIs hc63 (news_sub N9 (by k_upd)) (by omega) d6 d5 d4 d3 (by assumption) (by assumption) hrv q8 q9 q1 q2 q3 q10 e5 e2 e1 ?_).use (by k_is)
    intro h' tk ps m' F' N'
    exact hQ h' tk ps m' F' N'
end
end
end
end
end
theorem cx23 {p : Program} {w : World} {A : Around} {Q : Value → Shared → Prop} {E : Value → Shared → Prop} {s : Shared} (h : wpAny (model p w) A (pyIter Value.none) Q E s) : wpAny (model p w) A (pyIter Value.none) Q E s := by first | (walk1; fail "x") | exact h
section
theorem main_step {w : World} {Q : Flow → Shared → Prop} {E : Value → Shared → Prop} {s : Shared} {L fa : Addr} {cd : Value} {name qual : Str} {params : Arguments} {body : List Stmt} {scope : Scope} {dV kV doc pm cdv ct oc : Value} {an od : Option Addr} {osl : Array (Option Value)}
    (ho : (hd1.heap_1 w.params).lookup 271 = some ⟨oc, od, .func (fnOf name qual params body scope dV kV doc pm an cdv ct), osl⟩) (h : RestW w fa L cd 0 Q s) :
    wpAny (model PP w) (callerA.deeper (envOfC qual scope L fa cd)) (execs body (envOfC qual scope L fa cd)) Q E s :=
  wpAny_mono (h.use ho) (fun _ _ h => h) (fun _ _ h => h.elim)
set_option maxHeartbeats 0 in
theorem main1 : PySem.Challenge.rw_st0023_01.Holds := by
  refine hd1.2 ?_
  unfold hd1
  dsimp only
  k_go0
  all_goals try k_fold
  rename IntsAre _ _ => hIs
  rename (¬ ((63 : Nat) : Int) < _) => hc63
  rename Heap.IsList (ghostOf _ _) _ _ => hsl
  rename Fr _ _ _ _ => F1
  rename News _ _ _ _ => N1
  rename Below _ _ _ _ => B1
  rename Frag.In _ _ => X1
  rename Top _ _ _ _ _ _ => T1
  have hl := hIs.length
  rename Shared => s₁
  rename Heap => h1
  refine' main_step ?ho ?hs
  case ho => k_is
  case hs =>
    refine' stA (s := ⟨h1, s₁.gens, s₁.drawn, _, s₁.os⟩) B1 F1 X1 T1 ?q1 hsl hIs ?q2 N1 ?q3 ?q4 ?q5 ?q6 ?q7 ?q8 ?q9 ?hq
    case q1 => omega
    case q2 => omega
    case q3 => assumption
    case q4 => assumption
    case q5 => assumption
    case q6 => assumption
    case q7 => assumption
    case q8 => assumption
    case q9 => with_unfolding_all rfl
    intro h' tk ps m' F' N'
    k_steps
    all_goals (try k_data)
end
end
end Mine
set_option maxRecDepth 100000 in
theorem PySem.Challenge.cw_st0023_01_holds : PySem.Challenge.rw_st0023_01.Holds :=
  Mine.main1
