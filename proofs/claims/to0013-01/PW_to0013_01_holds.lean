import PyProof.Rows.All
import Wide.All
import OpenK.AllK
import Wide.FinOn
import PySem.Challenge.RW_to0013_01
open PySem PySem.W PyProof.Rows
set_option Elab.async false
set_option linter.all false
set_option compiler.extract_closed false
set_option rowWalk.seconds 0
section
namespace Mine
theorem opq {P : Prop} (h : ∀ G : Prop, (P → G) → G) : P := h P id
theorem opqF {α : Type} {M : Model} {A : Around} {c : Sem α} {Q : α → Shared → Prop} {E : Value → Shared → Prop} {s : Shared} (h : ∀ Q' : α → Shared → Prop, (∀ f s, Q f s → Q' f s) → wpAny M A c Q' (fun _ _ => False) s) : wpAny M A c Q E s := wpAny_noRaise (h Q fun _ _ x => x)
theorem opqT {α : Type} {M : Model} {A : Around} {c : Sem α} {Q : α → Shared → Prop} {E : Value → Shared → Prop} {h : Heap} {g : Array GenState} {d : Drawn} {o : OsState} {tk : Nat} (H : ∀ tk' : Nat, wpAny M A c Q E ⟨h, g, d, tk', o⟩) : wpAny M A c Q E ⟨h, g, d, tk, o⟩ := H tk
-- Top
set_option maxRecDepth 100000 in
set_option maxHeartbeats 8000000 in
open_top hd for PySem.Challenge.rw_to0013_01
end Mine
end
theorem Mine.topOff : True := by
  w_top off
  trivial
section
open PySem.Spec PySem.Calls
namespace Mine
-- B0
abbrev Led := List (Addr × Obj)
/-- a text by its signs -/
abbrev tx (l : List Nat) : Str := ⟨l.toArray⟩
theorem tx_len (l : List Nat) : (tx l).length = l.length := by simp [Str.length]
theorem tx_app (a b : List Nat) : tx a ++ tx b = tx (a ++ b) := by
  apply Str.ext'; rw [Str.cps_append]; simp [tx]
theorem tx_inj {a b : List Nat} (h : tx a = tx b) : a = b := by
  have := congrArg (fun s => s.cps.toList) h; simpa using this
/-- one sign written otherwise -/
noncomputable def rep1 (k : Nat) (r : List Nat) (l : List Nat) : List Nat := l.flatMap fun c => if c = k then r else [c]
theorem rep1_free (k : Nat) (r : List Nat) : ∀ l : List Nat, k ∉ l → rep1 k r l = l
  | [], _ => rfl
  | c :: l, h => by
    have h1 : ¬ c = k := fun e => h (e ▸ List.mem_cons_self ..)
    have h2 : k ∉ l := fun m => h (List.mem_cons_of_mem _ m)
    have := rep1_free k r l h2
    unfold rep1 at this ⊢
    rw [List.flatMap_cons, if_neg h1, this]; rfl
theorem rep1_append (k : Nat) (r a b : List Nat) : rep1 k r (a ++ b) = rep1 k r a ++ rep1 k r b := by
  unfold rep1; rw [List.flatMap_append]
theorem rep1_join (k : Nat) (r : List Nat) : ∀ parts : List Str, (∀ p ∈ parts, k ∉ p.cps.toList) → rep1 k r (Str.join ⟨#[k]⟩ parts).cps.toList = (Str.join (tx r) parts).cps.toList
  | [], _ => rfl
  | [p], h => rep1_free k r _ (h p (List.mem_singleton.mpr rfl))
  | p :: q :: rest, h => by
    have ih := rep1_join k r (q :: rest) fun a ha => h a (List.mem_cons_of_mem _ ha)
    show rep1 k r (p ++ ⟨#[k]⟩ ++ Str.join ⟨#[k]⟩ (q :: rest)).cps.toList = (p ++ tx r ++ Str.join (tx r) (q :: rest)).cps.toList
    simp only [Str.cps_append, Array.toList_append]
    rw [rep1_append, rep1_append, ih, rep1_free k r _ (h p (List.mem_cons_self ..))]
    show p.cps.toList ++ rep1 k r [k] ++ _ = _
    simp [rep1]
theorem replace_tx (l : List Nat) (k : Nat) (r : List Nat) : Txt.replace (tx l) ⟨#[k]⟩ (tx r) = tx (rep1 k r l) := by
  have e : (Txt.replace (tx l) ⟨#[k]⟩ (tx r)).cps.toList = rep1 k r l := by
    rw [StrLaws.replace_one, ← rep1_join k r _ (StrLaws.split_free (tx l) k), StrLaws.join_split]
  apply Str.ext'
  rw [← e]
theorem in_tx (l : List Nat) (k : Nat) : ((Builtin.Str.occurrences (tx l) ⟨#[k]⟩ 0 (tx l).length 1).isEmpty = true) → k ∉ l := by
  intro h hm
  have := StrLaws.found_one (tx l) k
  rw [h] at this
  simp [tx] at this
  exact this hm
noncomputable def Con (w : World) (f : Addr) (vs : List Value) (news : Led) (dd uu : Nat) (Post : Value → Led → Prop) : Prop :=
  ∀ (p : Program) (loose : List Str) (mean : ExcName → Option Value) (mg mb : Str → Option Value)
    (dp un : Nat) (gd : Option (List Code)) (cn : Str) (cs : Scope) (a : Addr) (ccd : Value) (cl : List (Str × Addr)) (outer : List Env) (A₀ : Around) (base h₀ : Heap) (L : Addr) (m : Str → Option Value) (s : Shared)
    (Q E : Value → Shared → Prop),
    Below A₀ base outer h₀ → Fr h₀ L s.heap m → (Mine.hd.heap_39 w.params).In h₀ → News h₀ L s.heap news → Top p loose mean mg mb h₀ → cs.kind = .function → dp + dd < recursionLimit → un + uu < cLine → CodeHd base 111 107 →
    (∀ r nx h' tk', Fr h₀ L h' m → News h₀ L h' nx → Post r nx → Q r { s with heap := h', toks := tk' }) →
    wpAny (model PySem.Challenge.rw_to0013_01.row.prog w) (ktrTop dp un gd cn cs L a ccd cl outer) (call (.ref f) vs) Q E s
/-- one statement, told by what holds behind it -/
theorem cut {M : Model} {A : Around} {E : Value → Shared → Prop} {s : Shared} {env : Env} {st : Stmt} {rest : List Stmt} {Q : Flow → Shared → Prop} (P : Shared → Prop)
    (h1 : wpAny M A (exec st env) (fun fl s' => fl = .next ∧ P s') E s) (h2 : ∀ s', s.toks ≤ s'.toks → P s' → wpAny M A (execs rest env) Q E s') : wpAny M A (execs (st :: rest) env) Q E s := by
  refine wpAny_execs_cons (wpAny_with_toks (Nat.le_refl _) (wpAny_mono h1 (fun fl s' h hle => ?_) fun _ _ e _ => e))
  obtain ⟨rfl, hp⟩ := h
  exact h2 s' hle hp
theorem Fr_eqm {h₀ h : Heap} {L : Addr} {m m' : Str → Option Value} (F : Fr h₀ L h m) (e : ∀ y, m y = m' y) : Fr h₀ L h m' := by
  have : m = m' := funext e
  exact this ▸ F
/-- a table: each sign's spelling -/
abbrev Tab := List (Nat × List Nat)
noncomputable def spell : Tab → Nat → List Nat
  | [], c => [c]
  | (k, r) :: rest, c => if c = k then r else spell rest c
noncomputable def enc (tab : Tab) (x : List Nat) : List Nat := x.flatMap (spell tab)
theorem enc_nil (x : List Nat) : enc [] x = x := by
  induction x with
  | nil => rfl
  | cons c x ih => unfold enc at ih ⊢; rw [List.flatMap_cons, ih]; rfl
theorem enc_append (tab : Tab) (a b : List Nat) : enc tab (a ++ b) = enc tab a ++ enc tab b := by
  unfold enc; rw [List.flatMap_append]
theorem spell_snoc (k : Nat) (r : List Nat) : ∀ (tab : Tab) (c : Nat), tab.all (fun p => p.1 != k && !p.2.contains k) = true → rep1 k r (spell tab c) = spell (tab ++ [(k, r)]) c
  | [], c, _ => by simp [spell, rep1]
  | (j, q) :: rest, c, h => by
    simp only [List.all_cons, Bool.and_eq_true, bne_iff_ne, ne_eq, Bool.not_eq_true'] at h
    obtain ⟨⟨h1, h2⟩, h3⟩ := h
    show rep1 k r (if c = j then q else spell rest c) = if c = j then q else spell (rest ++ [(k, r)]) c
    by_cases e : c = j
    · rw [if_pos e, if_pos e]
      exact rep1_free k r q (by simpa using h2)
    · rw [if_neg e, if_neg e]
      exact spell_snoc k r rest c h3
theorem rep1_enc (k : Nat) (r : List Nat) (tab : Tab) (h : tab.all (fun p => p.1 != k && !p.2.contains k) = true) (x : List Nat) : rep1 k r (enc tab x) = enc (tab ++ [(k, r)]) x := by
  induction x with
  | nil => rfl
  | cons c x ih =>
    unfold enc at ih ⊢
    rw [List.flatMap_cons, List.flatMap_cons, rep1_append, ih, spell_snoc k r tab c h]
theorem spell_le (n : Nat) (hn : 1 ≤ n) : ∀ (tab : Tab) (c : Nat), tab.all (fun p => decide (p.2.length ≤ n)) = true → (spell tab c).length ≤ n
  | [], _, _ => hn
  | (j, q) :: rest, c, h => by
    simp only [List.all_cons, Bool.and_eq_true, decide_eq_true_eq] at h
    unfold spell
    split
    · exact h.1
    · exact spell_le n hn rest c h.2
theorem enc_le (n : Nat) (hn : 1 ≤ n) (tab : Tab) (h : tab.all (fun p => decide (p.2.length ≤ n)) = true) (x : List Nat) : (enc tab x).length ≤ n * x.length := by
  induction x with
  | nil => simp [enc]
  | cons c x ih =>
    unfold enc at ih ⊢
    rw [List.flatMap_cons, List.length_append, List.length_cons, Nat.mul_succ]
    have := spell_le n hn tab c h
    omega
/-- the frame and the ledger behind a statement that turns the name «text» alone -/
inductive EscP (g : Heap) (L : Addr) (news : Led) (s : Shared) (l : List Nat) (s' : Shared) : Prop
  | mk (h' : Heap) (t' : Tok) (tk' : Nat) (e : s' = { s with heap := h', toks := tk' }) (F : Fr g L h' (fun y => if y = Str.ofString "text" then some (.str (tx l) t') else none)) (N : News g L h' news) : EscP g L news s l s'
theorem EscP.same {g h : Heap} {L : Addr} {news : Led} {s : Shared} {tab : Tab} {x : List Nat} {t : Tok} {k : Nat} {r : List Nat} {C : Str} {tk : Nat}
  (F : Fr g L h (fun y => if y = Str.ofString "text" then some (.str (tx (enc tab x)) t) else none)) (N : News g L h news) (hn : (Builtin.Str.occurrences (tx (enc tab x)) C 0 (tx (enc tab x)).length 1).isEmpty = true) (hC : C = ⟨#[k]⟩) (ht : tab.all (fun p => p.1 != k && !p.2.contains k) = true) : EscP g L news s (enc (tab ++ [(k, r)]) x) { s with heap := h, toks := tk } := by
  subst hC
  rw [← rep1_enc k r tab ht, rep1_free k r _ (in_tx _ _ hn)]; exact ⟨h, t, tk, rfl, F, N⟩
theorem EscP.put {g h : Heap} {L : Addr} {news : Led} {s : Shared} {tab : Tab} {x : List Nat} {k : Nat} {r : List Nat} {C R : Str} {v : Value} {t' : Tok} {tk : Nat}
  (F : Fr g L h (fun y => if y = Str.ofString "text" then some (.str (Txt.replace (tx (enc tab x)) C R) t') else if y = Str.ofString "text" then some v else none)) (N : News g L h news)
  (hC : C = ⟨#[k]⟩) (hR : R = tx r) (ht : tab.all (fun p => p.1 != k && !p.2.contains k) = true) : EscP g L news s (enc (tab ++ [(k, r)]) x) { s with heap := h, toks := tk } := by
  subst hC hR
  rw [replace_tx, rep1_enc k r tab ht] at F
  refine ⟨h, t', tk, rfl, Fr_eqm F fun y => ?_, N⟩
  split <;> simp_all
end Mine
end
section
open PySem.Spec PySem.Calls PyProof.V
namespace Mine
-- C0
section
variable {prog : Program} {w : World} {A : Around} {E : Value → Shared → Prop} {s : Shared} {env : Env} {h₀ : Heap} {x : Str} {body : List Stmt} {Q : Flow → Shared → Prop}
/-- a loop over a text, by what holds between the turns (the signs taken, the frame, the ledger) -/
theorem iter_text {xs : List Nat} {t₀ : Tok} {m₀ : Str → Option Value} {news : Led} (J : List Nat → (Str → Option Value) → Led → Prop)
    (hh : A.handled = none) (F : Fr h₀ env.locals s.heap m₀) (N : News h₀ env.locals s.heap news) (hj : J [] m₀ news)
    (turn : ∀ pre c post t m₁ news₁ h tk own, xs = pre ++ c :: post → OwnOff own (news.map (·.1)) → news₁.map (·.1) = news.map (·.1) → J pre m₁ news₁ →
      Fr h₀ env.locals h (fun y => if y = x then some (.str (tx [c]) t) else m₁ y) → News h₀ env.locals h (news₁ ++ own) →
      wpAny (model prog w) A (execs body env) (InvPostN h₀ env.locals (J (pre ++ [c])) own (news.map (·.1)) { s with heap := h, toks := tk } Q) E { s with heap := h, toks := tk })
    (done : ∀ m₁ news₁ h tk, J xs m₁ news₁ → Fr h₀ env.locals h m₁ → News h₀ env.locals h news₁ → Q .next { s with heap := h, toks := tk }) :
    wpAny (model prog w) A (pyIter (.str (tx xs) t₀)) (fun it s₂ => LoopAtV prog w A h₀ env x body Q E it s₂) E s := by
  refine wpAny_pyIter_str fun o St hW hst => ?_
  have W := hW A hh
  refine loop_invN (fun i m nx => J (xs.take i) m nx) W ?_ ?_ ?_ ?_ hst (F.push _) (fun p hp => ⟨Heap.get?_push_of_some _ (N p hp).1, (N p hp).2⟩) (by simpa using hj) ?_ ?_
  · intro hm
    exact absurd F.ns.lt ((List.mem_singleton.mp hm) ▸ Nat.lt_irrefl _)
  · intro b' hb
    rw [List.mem_singleton.mp hb]
    exact next_is_new F
  · intro p hp hI
    exact absurd (Heap.lt_size (N p hp).1) ((List.mem_singleton.mp hI) ▸ Nat.lt_irrefl _)
  · intro p hp hI
    exact absurd (Heap.lt_size (N p hp).1) ((List.mem_singleton.mp hI) ▸ Nat.lt_irrefl _)
  · rintro i v m₁ nx h tk own hi ⟨n, u, hn, rfl⟩ hadr hoff hJ F₁ N₁
    have hn' : xs[i]? = some n := by simpa using hn
    have hs : xs.take (i + 1) = xs.take i ++ [n] := by simp [List.take_add_one, hn']
    have e : xs = xs.take i ++ n :: xs.drop (i + 1) := by
      have ht := List.take_append_drop (i + 1) xs
      rw [hs, List.append_assoc] at ht
      exact ht.symm
    rw [hs]
    exact turn _ n _ u m₁ nx h tk own e hoff hadr hJ F₁ N₁
  · rintro m₁ nx h tk hJ F₁ N₁
    have hl : (tx xs).cps.size = xs.length := by simp
    rw [hl, List.take_length] at hJ
    exact done m₁ nx h tk hJ F₁ N₁
theorem walksList_fp {l I : Addr} {h : Heap} {items : Array Value} (_ : h.IsList l items) : l ∈ [I, l] := by simp
/-- a loop over a list of the ledger's (its entry is not turned by the loop) -/
theorem iter_list {l : Addr} {vs : List Value} {m₀ : Str → Option Value} {news : Led} (J : List Value → (Str → Option Value) → Led → Prop)
    (hh : A.handled = none) (hl : s.heap.IsList l vs.toArray) (hne : l ≠ env.locals) (hln : ∀ p ∈ news, p.1 ≠ l) (F : Fr h₀ env.locals s.heap m₀) (N : News h₀ env.locals s.heap news) (hj : J [] m₀ news)
    (turn : ∀ pre v post m₁ news₁ h tk own, vs = pre ++ v :: post → OwnOff own (news.map (·.1)) → news₁.map (·.1) = news.map (·.1) → J pre m₁ news₁ →
      Fr h₀ env.locals h (fun y => if y = x then some v else m₁ y) → News h₀ env.locals h (news₁ ++ own) →
      wpAny (model prog w) A (execs body env) (InvPostN h₀ env.locals (J (pre ++ [v])) own (news.map (·.1)) { s with heap := h, toks := tk } Q) E { s with heap := h, toks := tk })
    (done : ∀ m₁ news₁ h tk, J vs m₁ news₁ → Fr h₀ env.locals h m₁ → News h₀ env.locals h news₁ → Q .next { s with heap := h, toks := tk }) :
    wpAny (model prog w) A (pyIter (.ref l)) (fun it s₂ => LoopAtV prog w A h₀ env x body Q E it s₂) E s := by
  obtain ⟨ol, hol, _⟩ := id hl
  have hlt : l < s.heap.objs.size := Heap.lt_size hol
  refine wpAny_pyIter_list hl ?_
  have W := Walks.list (prog := prog) (w := w) hh s.heap.objs.size l (Nat.ne_of_lt hlt) vs.toArray
  have hsz : vs.toArray.size = vs.length := by simp
  rw [hsz] at W
  refine loop_invN (fun i m nx => J (vs.take i) m nx) W ?_ ?_ ?_ ?_ ⟨⟨_, Heap.get?_push_size _ rfl, rfl, rfl⟩, hl.at fun o e => Heap.get?_push_of_some _ e⟩ (F.push _) (fun p hp => ⟨Heap.get?_push_of_some _ (N p hp).1, (N p hp).2⟩) (by simpa using hj) ?_ ?_
  · intro hm
    rcases List.mem_cons.mp hm with e | hm
    · exact absurd F.ns.lt (e ▸ Nat.lt_irrefl _)
    · exact hne (List.mem_singleton.mp hm).symm
  · intro b' hb
    rw [List.mem_singleton.mp hb]
    exact next_is_new F
  · intro p hp hI
    exact absurd (Heap.lt_size (N p hp).1) ((List.mem_singleton.mp hI) ▸ Nat.lt_irrefl _)
  · intro p hp hI
    rcases List.mem_cons.mp hI with e | hm
    · exact absurd (Heap.lt_size (N p hp).1) (e ▸ Nat.lt_irrefl _)
    · exact hln p hp (List.mem_singleton.mp hm)
  · rintro i v m₁ nx h tk own hi hP hadr hoff hJ F₁ N₁
    have hn' : vs[i]? = some v := by simpa using hP
    have hs : vs.take (i + 1) = vs.take i ++ [v] := by simp [List.take_add_one, hn']
    have e : vs = vs.take i ++ v :: vs.drop (i + 1) := by
      have ht := List.take_append_drop (i + 1) vs
      rw [hs, List.append_assoc] at ht
      exact ht.symm
    rw [hs]
    exact turn _ v _ m₁ nx h tk own e hoff hadr hJ F₁ N₁
  · rintro m₁ nx h tk hJ F₁ N₁
    rw [List.take_length] at hJ
    exact done m₁ nx h tk hJ F₁ N₁
end
section
variable {prog : Program} {w : World} {A : Around} {E : Value → Shared → Prop} {s : Shared}
theorem add_tx {a b : List Nat} {t u : Tok} {Q : Value → Shared → Prop} (hsz : a.length + b.length ≤ 16777216) (h : ∀ t' k, Q (.str (tx (a ++ b)) t') { s with toks := k }) :
    wpAny (model prog w) A (binaryOp .Add (.str (tx a) t) (.str (tx b) u)) Q E s :=
  PyProof.Rows.add_str (fun t' k => by rw [tx_app]; exact h t' k) (by rw [tx_len, tx_len, sizeLine_eq]; exact hsz)
theorem iadd_tx {a b : List Nat} {t u : Tok} {Q : Value → Shared → Prop} (hsz : a.length + b.length ≤ 16777216) (h : ∀ t' k, Q (.str (tx (a ++ b)) t') { s with toks := k }) :
    wpAny (model prog w) A (inplaceOp .Add (.str (tx a) t) (.str (tx b) u)) Q E s :=
  PyProof.Rows.iadd_str (fun t' k => by rw [tx_app]; exact h t' k) (by rw [tx_len, tx_len, sizeLine_eq]; exact hsz)
end
theorem tx_beq (a b : List Nat) : (tx a == tx b) = decide (a = b) := by
  cases h : decide (a = b) with
  | true => have := of_decide_eq_true h; subst this; simp
  | false =>
    have := of_decide_eq_false h
    refine beq_eq_false_iff_ne.mpr fun e => this (tx_inj e)
theorem occ_tx (l : List Nat) (c : Nat) : (Builtin.Str.occurrences (tx l) (tx [c]) 0 (tx l).length 1).isEmpty = decide (c ∉ l) := by
  have h := StrLaws.found_one (tx l) c
  have e : (tx l).cps.toList = l := by simp
  rw [e] at h
  have h' : (!(Builtin.Str.occurrences (tx l) (tx [c]) 0 (tx l).length 1).isEmpty) = decide (c ∈ l) := h
  rw [decide_not, ← h', Bool.not_not]
section
variable {prog : Program} {w : World} {A : Around} {E : Value → Shared → Prop} {s : Shared}
theorem item_sp {value slice : Expr} {d : Addr} {D : List (PyData × PyData)} {c : Nat} {r : List Nat} {t : Tok} {Q : Value → Shared → Prop} (T : StrTab prog w s.heap d D) (hl : lookup (PyData.str (tx [c])) D = some (PyData.str (tx r)))
    (h : ∀ t', Q (.str (tx r) t') { s with toks := s.toks + 1 })
    (hs : subscripted slice false (.ref d) (.str (tx [c]) t) = operate [.ref d, .str (tx [c]) t] (getItem (.ref d) (.str (tx [c]) t)) := by with_unfolding_all rfl) (hg : ∀ r, letTemporaryGo value (.ref d) r = pure () := by intro _; with_unfolding_all rfl) :
    wpAny (model prog w) A (subscriptTail value slice (.ref d) (.str (tx [c]) t)) Q E s :=
  item_strTab T hl (fun v hv => by obtain ⟨t', rfl⟩ := PyProof.V.Flat.str_inv hv; exact h t') hs hg
end
theorem drop1 {h₀ h : Heap} {L : Addr} {p : Addr × Obj} {news : Led} (N : News h₀ L h (p :: news)) : News h₀ L h news := cb_drop N fun _ hp => List.mem_cons_of_mem _ hp
-- B1
theorem call_pos {id name : Str} {K R : Str} {q apos pos p7 p8 : Pos} {env : Env} (hp : (apos.endLine == pos.line) = true) :
    eval (.Call (.Attribute (.Name id q) name apos) [Expr.Constant (Const.str K) 0 p7, Expr.Constant (Const.str R) 0 p8] [] pos) env = (do
      let ov ← eval (.Name id q) env
      standAt apos.atName
      let (f, first) ← holding [ov] (getMethod ov name (do return (← importBound (.Name id q) env).getD true))
      callWith pos f first (backTo pos (starEach [Expr.Constant (Const.str K) 0 p7, Expr.Constant (Const.str R) 0 p8] env)) []) := by
  show (attributeBase (.Name id q) name env (eval (.Name id q) env) >>= fun ov => standAt apos.atName >>= fun _ => methodCall (.Name id q) name apos pos env ov 2 (backTo pos (starEach [Expr.Constant (Const.str K) 0 p7, Expr.Constant (Const.str R) 0 p8] env)) []) = _
  have hm : ∀ ov, methodCall (.Name id q) name apos pos env ov 2 (backTo pos (starEach [Expr.Constant (Const.str K) 0 p7, Expr.Constant (Const.str R) 0 p8] env)) [] = (do
      let (f, first) ← holding [ov] (getMethod ov name (do return (← importBound (.Name id q) env).getD true))
      callWith pos f first (backTo pos (starEach [Expr.Constant (Const.str K) 0 p7, Expr.Constant (Const.str R) 0 p8] env)) []) := by
    intro ov
    unfold methodCall methodCallPos
    rw [if_pos (by rw [hp, Bool.or_true])]
    rfl
  simp only [hm]
  rfl
set_option maxRecDepth 100000 in
set_option maxHeartbeats 8000000 in
/-- the statement «if K in text: text = text.replace(K, R)» -/
theorem esc_if (w : World) {dp un : Nat} {gd : Option (List Code)} {cn : Str} {cs : Scope} {L a : Addr} {ccd : Value} {cl : List (Str × Addr)} {outer : List Env} {E : Value → Shared → Prop} {nm : Str} {L1 ad : Addr} {cv : Value} {g : Heap} {news : Led} {s s1 : Shared} {tab : Tab} {x : List Nat} (k : Nat) (r : List Nat) {K R : Str} {p1 p2 p3 p4 p5 p6 p7 p8 p9 p10 p11 : Pos}
    (h : EscP g L1 news s (enc tab x) s1) (hK : K = ⟨#[k]⟩) (hR : R = tx r) (hKR : (K == R) = false) (hRl : R.length ≤ 14) (ht : tab.all (fun p => p.1 != k && !p.2.contains k) = true) (hl : (enc tab x).length ≤ 600000) (hp : (p6.endLine == p9.line) = true) :
    wpAny (model PySem.Challenge.rw_to0013_01.row.prog w) ((ktrTop dp un gd cn cs L a ccd cl outer).deeper (envOf nm { kind := ScopeKind.function, names := [(Str.ofString "text", NameKind.local), (Str.ofString "TypeError", NameKind.globalImplicit), (Str.ofString "AttributeError", NameKind.globalImplicit), (Str.ofString "_raise_serialization_error", NameKind.globalImplicit)], isGenerator := false, isCoroutine := false } L1 ad cv)) (exec (Stmt.If ((Expr.Constant (Const.str K) 0 p1).Compare [CmpOp.In] [Expr.Name (Str.ofString "text") p2] p3) [Stmt.Assign [Expr.Name (Str.ofString "text") p4] (((Expr.Name (Str.ofString "text") p5).Attribute (Str.ofString "replace") p6).Call [Expr.Constant (Const.str K) 0 p7, Expr.Constant (Const.str R) 0 p8] [] p9) p10] [] p11) (envOf nm { kind := ScopeKind.function, names := [(Str.ofString "text", NameKind.local), (Str.ofString "TypeError", NameKind.globalImplicit), (Str.ofString "AttributeError", NameKind.globalImplicit), (Str.ofString "_raise_serialization_error", NameKind.globalImplicit)], isGenerator := false, isCoroutine := false } L1 ad cv))
      (fun fl s' => fl = .next ∧ EscP g L1 news s (enc (tab ++ [(k, r)]) x) s') E s1 := by
  obtain ⟨h2, t2, tk2, rfl, F2, N2⟩ := h
  k_steps
  · exact EscP.same (tab := tab) (k := k) (r := r) F2 N2 (by assumption) hK ht
  · refine MethodCall_ ?_ (call_pos hp)
    iterate 8 walk1
    k_dflt (refine' SC.replaceW ?a ?b ?c ?d ?e ?f ?_; (case a => k_ne); (case b => k_ne); (case c => k_ne); (case d => assumption); (case e => (rw [tx_len]; omega)); (case f => assumption))
    intro t9 k9
    k_steps
    exact EscP.put (tab := tab) (k := k) (r := r) (by k_asm) (by k_asm) hK hR ht
noncomputable def tab_cdata : Tab := [(38, [38, 97, 109, 112, 59]), (60, [38, 108, 116, 59]), (62, [38, 103, 116, 59])]
set_option maxRecDepth 100000 in
set_option maxHeartbeats 8000000 in
theorem c77 (w : World) (news : Led) (x : List Nat) (t : Tok) (hlen : x.length ≤ 100000) : Con w 77 [.str (tx x) t] news 1 8 (fun r nx => nx = news ∧ ∃ t', r = .str (tx (enc tab_cdata x)) t') := by
  unfold Con
  k_fill
  intro p loose mean mg mb dp un gd cn cs a ccd cl outer A₀ base h₀ L m s Q E B F X N T hk hd hu hcode hret
  refine wpAny_call ?_
  k_dflt (refine' code_def ?k1 ?k2 ?k3 ?k4 ?k5 ?kA ?kF ?kK ?k6 ?k7 ?k8 ?k9 ?kB ?_ ?c2 ?c3 ?c4 ?c5; (case kA => exact rfl); (case kF => exact rfl); (case kK => assumption); (case k1 => k_asm); (case k2 => k_asm); (case k3 => k_asm); (case k4 => k_asm); (case k5 => k_asm); (case k6 => k_is); (case k7 => k_is); (case k8 => ktr_room); (case k9 => exact BindsTo.of_eq rfl); (case c5 => decide); (case kB => exact locs rfl); (case c2 => exact rfl); (case c3 => exact rfl); (case c4 => exact rfl))
  k_whole
  intro g1 L1 h1 FG1 F1 N1 B1 X1 T1
  try dsimp only
  k_fold
  replace F1 := Fr_eqm (m' := fun y => if y = Str.ofString "text" then some (.str (tx (enc [] x)) t) else none) F1 (fun y => by
    show List.lookup y [(Str.ofString "text", Value.str (tx x) t)] = _
    rw [List.lookup_cons, enc_nil]
    split <;> simp_all)
  generalize s.toks + _ = tk1
  walk1
  walk1
  have l0 := enc_le 6 (by decide) [] (by decide) x
  refine cut (EscP g1 L1 news s (enc [(38, [38, 97, 109, 112, 59])] x)) (esc_if w 38 [38, 97, 109, 112, 59] (tab := []) (x := x) ⟨_, _, _, rfl, F1, N1⟩ (by decide +kernel) (by decide +kernel) (by decide +kernel) (by decide +kernel) (by decide) (by omega) rfl) ?_
  intro s2 _ e2
  have l1 := enc_le 6 (by decide) [(38, [38, 97, 109, 112, 59])] (by decide) x
  refine cut (EscP g1 L1 news s (enc [(38, [38, 97, 109, 112, 59]), (60, [38, 108, 116, 59])] x)) (esc_if w 60 [38, 108, 116, 59] (tab := [(38, [38, 97, 109, 112, 59])]) (x := x) e2 (by decide +kernel) (by decide +kernel) (by decide +kernel) (by decide +kernel) (by decide) (by omega) rfl) ?_
  intro s3 _ e3
  have l2 := enc_le 6 (by decide) [(38, [38, 97, 109, 112, 59]), (60, [38, 108, 116, 59])] (by decide) x
  refine cut (EscP g1 L1 news s (enc [(38, [38, 97, 109, 112, 59]), (60, [38, 108, 116, 59]), (62, [38, 103, 116, 59])] x)) (esc_if w 62 [38, 103, 116, 59] (tab := [(38, [38, 97, 109, 112, 59]), (60, [38, 108, 116, 59])]) (x := x) e3 (by decide +kernel) (by decide +kernel) (by decide +kernel) (by decide +kernel) (by decide) (by omega) rfl) ?_
  intro s4 _ e4
  obtain ⟨h9, t9, tk9, rfl, F9, N9⟩ := e4
  clear F1 N1
  k_steps
  exact hret _ _ _ _ (by k_asm) (by k_asm) ⟨rfl, _, rfl⟩
noncomputable def tab_attrib : Tab := [(38, [38, 97, 109, 112, 59]), (60, [38, 108, 116, 59]), (62, [38, 103, 116, 59]), (34, [38, 113, 117, 111, 116, 59]), (13, [38, 35, 49, 51, 59]), (10, [38, 35, 49, 48, 59]), (9, [38, 35, 48, 57, 59])]
set_option maxRecDepth 100000 in
set_option maxHeartbeats 8000000 in
theorem c84 (w : World) (news : Led) (x : List Nat) (t : Tok) (hlen : x.length ≤ 100000) : Con w 84 [.str (tx x) t] news 1 8 (fun r nx => nx = news ∧ ∃ t', r = .str (tx (enc tab_attrib x)) t') := by
  unfold Con
  k_fill
  intro p loose mean mg mb dp un gd cn cs a ccd cl outer A₀ base h₀ L m s Q E B F X N T hk hd hu hcode hret
  refine wpAny_call ?_
  k_dflt (refine' code_def ?k1 ?k2 ?k3 ?k4 ?k5 ?kA ?kF ?kK ?k6 ?k7 ?k8 ?k9 ?kB ?_ ?c2 ?c3 ?c4 ?c5; (case kA => exact rfl); (case kF => exact rfl); (case kK => assumption); (case k1 => k_asm); (case k2 => k_asm); (case k3 => k_asm); (case k4 => k_asm); (case k5 => k_asm); (case k6 => k_is); (case k7 => k_is); (case k8 => ktr_room); (case k9 => exact BindsTo.of_eq rfl); (case c5 => decide); (case kB => exact locs rfl); (case c2 => exact rfl); (case c3 => exact rfl); (case c4 => exact rfl))
  k_whole
  intro g1 L1 h1 FG1 F1 N1 B1 X1 T1
  try dsimp only
  k_fold
  replace F1 := Fr_eqm (m' := fun y => if y = Str.ofString "text" then some (.str (tx (enc [] x)) t) else none) F1 (fun y => by
    show List.lookup y [(Str.ofString "text", Value.str (tx x) t)] = _
    rw [List.lookup_cons, enc_nil]
    split <;> simp_all)
  generalize s.toks + _ = tk1
  walk1
  walk1
  have l0 := enc_le 6 (by decide) [] (by decide) x
  refine cut (EscP g1 L1 news s (enc [(38, [38, 97, 109, 112, 59])] x)) (esc_if w 38 [38, 97, 109, 112, 59] (tab := []) (x := x) ⟨_, _, _, rfl, F1, N1⟩ (by decide +kernel) (by decide +kernel) (by decide +kernel) (by decide +kernel) (by decide) (by omega) rfl) ?_
  intro s2 _ e2
  have l1 := enc_le 6 (by decide) [(38, [38, 97, 109, 112, 59])] (by decide) x
  refine cut (EscP g1 L1 news s (enc [(38, [38, 97, 109, 112, 59]), (60, [38, 108, 116, 59])] x)) (esc_if w 60 [38, 108, 116, 59] (tab := [(38, [38, 97, 109, 112, 59])]) (x := x) e2 (by decide +kernel) (by decide +kernel) (by decide +kernel) (by decide +kernel) (by decide) (by omega) rfl) ?_
  intro s3 _ e3
  have l2 := enc_le 6 (by decide) [(38, [38, 97, 109, 112, 59]), (60, [38, 108, 116, 59])] (by decide) x
  refine cut (EscP g1 L1 news s (enc [(38, [38, 97, 109, 112, 59]), (60, [38, 108, 116, 59]), (62, [38, 103, 116, 59])] x)) (esc_if w 62 [38, 103, 116, 59] (tab := [(38, [38, 97, 109, 112, 59]), (60, [38, 108, 116, 59])]) (x := x) e3 (by decide +kernel) (by decide +kernel) (by decide +kernel) (by decide +kernel) (by decide) (by omega) rfl) ?_
  intro s4 _ e4
  have l3 := enc_le 6 (by decide) [(38, [38, 97, 109, 112, 59]), (60, [38, 108, 116, 59]), (62, [38, 103, 116, 59])] (by decide) x
  refine cut (EscP g1 L1 news s (enc [(38, [38, 97, 109, 112, 59]), (60, [38, 108, 116, 59]), (62, [38, 103, 116, 59]), (34, [38, 113, 117, 111, 116, 59])] x)) (esc_if w 34 [38, 113, 117, 111, 116, 59] (tab := [(38, [38, 97, 109, 112, 59]), (60, [38, 108, 116, 59]), (62, [38, 103, 116, 59])]) (x := x) e4 (by decide +kernel) (by decide +kernel) (by decide +kernel) (by decide +kernel) (by decide) (by omega) rfl) ?_
  intro s5 _ e5
  have l4 := enc_le 6 (by decide) [(38, [38, 97, 109, 112, 59]), (60, [38, 108, 116, 59]), (62, [38, 103, 116, 59]), (34, [38, 113, 117, 111, 116, 59])] (by decide) x
  refine cut (EscP g1 L1 news s (enc [(38, [38, 97, 109, 112, 59]), (60, [38, 108, 116, 59]), (62, [38, 103, 116, 59]), (34, [38, 113, 117, 111, 116, 59]), (13, [38, 35, 49, 51, 59])] x)) (esc_if w 13 [38, 35, 49, 51, 59] (tab := [(38, [38, 97, 109, 112, 59]), (60, [38, 108, 116, 59]), (62, [38, 103, 116, 59]), (34, [38, 113, 117, 111, 116, 59])]) (x := x) e5 (by decide +kernel) (by decide +kernel) (by decide +kernel) (by decide +kernel) (by decide) (by omega) rfl) ?_
  intro s6 _ e6
  have l5 := enc_le 6 (by decide) [(38, [38, 97, 109, 112, 59]), (60, [38, 108, 116, 59]), (62, [38, 103, 116, 59]), (34, [38, 113, 117, 111, 116, 59]), (13, [38, 35, 49, 51, 59])] (by decide) x
  refine cut (EscP g1 L1 news s (enc [(38, [38, 97, 109, 112, 59]), (60, [38, 108, 116, 59]), (62, [38, 103, 116, 59]), (34, [38, 113, 117, 111, 116, 59]), (13, [38, 35, 49, 51, 59]), (10, [38, 35, 49, 48, 59])] x)) (esc_if w 10 [38, 35, 49, 48, 59] (tab := [(38, [38, 97, 109, 112, 59]), (60, [38, 108, 116, 59]), (62, [38, 103, 116, 59]), (34, [38, 113, 117, 111, 116, 59]), (13, [38, 35, 49, 51, 59])]) (x := x) e6 (by decide +kernel) (by decide +kernel) (by decide +kernel) (by decide +kernel) (by decide) (by omega) rfl) ?_
  intro s7 _ e7
  have l6 := enc_le 6 (by decide) [(38, [38, 97, 109, 112, 59]), (60, [38, 108, 116, 59]), (62, [38, 103, 116, 59]), (34, [38, 113, 117, 111, 116, 59]), (13, [38, 35, 49, 51, 59]), (10, [38, 35, 49, 48, 59])] (by decide) x
  refine cut (EscP g1 L1 news s (enc [(38, [38, 97, 109, 112, 59]), (60, [38, 108, 116, 59]), (62, [38, 103, 116, 59]), (34, [38, 113, 117, 111, 116, 59]), (13, [38, 35, 49, 51, 59]), (10, [38, 35, 49, 48, 59]), (9, [38, 35, 48, 57, 59])] x)) (esc_if w 9 [38, 35, 48, 57, 59] (tab := [(38, [38, 97, 109, 112, 59]), (60, [38, 108, 116, 59]), (62, [38, 103, 116, 59]), (34, [38, 113, 117, 111, 116, 59]), (13, [38, 35, 49, 51, 59]), (10, [38, 35, 49, 48, 59])]) (x := x) e7 (by decide +kernel) (by decide +kernel) (by decide +kernel) (by decide +kernel) (by decide) (by omega) rfl) ?_
  intro s8 _ e8
  obtain ⟨h9, t9, tk9, rfl, F9, N9⟩ := e8
  clear F1 N1
  k_steps
  exact hret _ _ _ _ (by k_asm) (by k_asm) ⟨rfl, _, rfl⟩
noncomputable def tab_html : Tab := [(38, [38, 97, 109, 112, 59]), (62, [38, 103, 116, 59]), (34, [38, 113, 117, 111, 116, 59])]
set_option maxRecDepth 100000 in
set_option maxHeartbeats 8000000 in
theorem c91 (w : World) (news : Led) (x : List Nat) (t : Tok) (hlen : x.length ≤ 100000) : Con w 91 [.str (tx x) t] news 1 8 (fun r nx => nx = news ∧ ∃ t', r = .str (tx (enc tab_html x)) t') := by
  unfold Con
  k_fill
  intro p loose mean mg mb dp un gd cn cs a ccd cl outer A₀ base h₀ L m s Q E B F X N T hk hd hu hcode hret
  refine wpAny_call ?_
  k_dflt (refine' code_def ?k1 ?k2 ?k3 ?k4 ?k5 ?kA ?kF ?kK ?k6 ?k7 ?k8 ?k9 ?kB ?_ ?c2 ?c3 ?c4 ?c5; (case kA => exact rfl); (case kF => exact rfl); (case kK => assumption); (case k1 => k_asm); (case k2 => k_asm); (case k3 => k_asm); (case k4 => k_asm); (case k5 => k_asm); (case k6 => k_is); (case k7 => k_is); (case k8 => ktr_room); (case k9 => exact BindsTo.of_eq rfl); (case c5 => decide); (case kB => exact locs rfl); (case c2 => exact rfl); (case c3 => exact rfl); (case c4 => exact rfl))
  k_whole
  intro g1 L1 h1 FG1 F1 N1 B1 X1 T1
  try dsimp only
  k_fold
  replace F1 := Fr_eqm (m' := fun y => if y = Str.ofString "text" then some (.str (tx (enc [] x)) t) else none) F1 (fun y => by
    show List.lookup y [(Str.ofString "text", Value.str (tx x) t)] = _
    rw [List.lookup_cons, enc_nil]
    split <;> simp_all)
  generalize s.toks + _ = tk1
  walk1
  walk1
  have l0 := enc_le 6 (by decide) [] (by decide) x
  refine cut (EscP g1 L1 news s (enc [(38, [38, 97, 109, 112, 59])] x)) (esc_if w 38 [38, 97, 109, 112, 59] (tab := []) (x := x) ⟨_, _, _, rfl, F1, N1⟩ (by decide +kernel) (by decide +kernel) (by decide +kernel) (by decide +kernel) (by decide) (by omega) rfl) ?_
  intro s2 _ e2
  have l1 := enc_le 6 (by decide) [(38, [38, 97, 109, 112, 59])] (by decide) x
  refine cut (EscP g1 L1 news s (enc [(38, [38, 97, 109, 112, 59]), (62, [38, 103, 116, 59])] x)) (esc_if w 62 [38, 103, 116, 59] (tab := [(38, [38, 97, 109, 112, 59])]) (x := x) e2 (by decide +kernel) (by decide +kernel) (by decide +kernel) (by decide +kernel) (by decide) (by omega) rfl) ?_
  intro s3 _ e3
  have l2 := enc_le 6 (by decide) [(38, [38, 97, 109, 112, 59]), (62, [38, 103, 116, 59])] (by decide) x
  refine cut (EscP g1 L1 news s (enc [(38, [38, 97, 109, 112, 59]), (62, [38, 103, 116, 59]), (34, [38, 113, 117, 111, 116, 59])] x)) (esc_if w 34 [38, 113, 117, 111, 116, 59] (tab := [(38, [38, 97, 109, 112, 59]), (62, [38, 103, 116, 59])]) (x := x) e3 (by decide +kernel) (by decide +kernel) (by decide +kernel) (by decide +kernel) (by decide) (by omega) rfl) ?_
  intro s4 _ e4
  obtain ⟨h9, t9, tk9, rfl, F9, N9⟩ := e4
  clear F1 N1
  k_steps
  exact hret _ _ _ _ (by k_asm) (by k_asm) ⟨rfl, _, rfl⟩
noncomputable def tab_cc14n : Tab := [(38, [38, 97, 109, 112, 59]), (60, [38, 108, 116, 59]), (62, [38, 103, 116, 59]), (13, [38, 35, 120, 68, 59])]
set_option maxRecDepth 100000 in
set_option maxHeartbeats 8000000 in
theorem c98 (w : World) (news : Led) (x : List Nat) (t : Tok) (hlen : x.length ≤ 100000) : Con w 98 [.str (tx x) t] news 1 8 (fun r nx => nx = news ∧ ∃ t', r = .str (tx (enc tab_cc14n x)) t') := by
  unfold Con
  k_fill
  intro p loose mean mg mb dp un gd cn cs a ccd cl outer A₀ base h₀ L m s Q E B F X N T hk hd hu hcode hret
  refine wpAny_call ?_
  k_dflt (refine' code_def ?k1 ?k2 ?k3 ?k4 ?k5 ?kA ?kF ?kK ?k6 ?k7 ?k8 ?k9 ?kB ?_ ?c2 ?c3 ?c4 ?c5; (case kA => exact rfl); (case kF => exact rfl); (case kK => assumption); (case k1 => k_asm); (case k2 => k_asm); (case k3 => k_asm); (case k4 => k_asm); (case k5 => k_asm); (case k6 => k_is); (case k7 => k_is); (case k8 => ktr_room); (case k9 => exact BindsTo.of_eq rfl); (case c5 => decide); (case kB => exact locs rfl); (case c2 => exact rfl); (case c3 => exact rfl); (case c4 => exact rfl))
  k_whole
  intro g1 L1 h1 FG1 F1 N1 B1 X1 T1
  try dsimp only
  k_fold
  replace F1 := Fr_eqm (m' := fun y => if y = Str.ofString "text" then some (.str (tx (enc [] x)) t) else none) F1 (fun y => by
    show List.lookup y [(Str.ofString "text", Value.str (tx x) t)] = _
    rw [List.lookup_cons, enc_nil]
    split <;> simp_all)
  generalize s.toks + _ = tk1
  walk1
  walk1
  have l0 := enc_le 6 (by decide) [] (by decide) x
  refine cut (EscP g1 L1 news s (enc [(38, [38, 97, 109, 112, 59])] x)) (esc_if w 38 [38, 97, 109, 112, 59] (tab := []) (x := x) ⟨_, _, _, rfl, F1, N1⟩ (by decide +kernel) (by decide +kernel) (by decide +kernel) (by decide +kernel) (by decide) (by omega) rfl) ?_
  intro s2 _ e2
  have l1 := enc_le 6 (by decide) [(38, [38, 97, 109, 112, 59])] (by decide) x
  refine cut (EscP g1 L1 news s (enc [(38, [38, 97, 109, 112, 59]), (60, [38, 108, 116, 59])] x)) (esc_if w 60 [38, 108, 116, 59] (tab := [(38, [38, 97, 109, 112, 59])]) (x := x) e2 (by decide +kernel) (by decide +kernel) (by decide +kernel) (by decide +kernel) (by decide) (by omega) rfl) ?_
  intro s3 _ e3
  have l2 := enc_le 6 (by decide) [(38, [38, 97, 109, 112, 59]), (60, [38, 108, 116, 59])] (by decide) x
  refine cut (EscP g1 L1 news s (enc [(38, [38, 97, 109, 112, 59]), (60, [38, 108, 116, 59]), (62, [38, 103, 116, 59])] x)) (esc_if w 62 [38, 103, 116, 59] (tab := [(38, [38, 97, 109, 112, 59]), (60, [38, 108, 116, 59])]) (x := x) e3 (by decide +kernel) (by decide +kernel) (by decide +kernel) (by decide +kernel) (by decide) (by omega) rfl) ?_
  intro s4 _ e4
  have l3 := enc_le 6 (by decide) [(38, [38, 97, 109, 112, 59]), (60, [38, 108, 116, 59]), (62, [38, 103, 116, 59])] (by decide) x
  refine cut (EscP g1 L1 news s (enc [(38, [38, 97, 109, 112, 59]), (60, [38, 108, 116, 59]), (62, [38, 103, 116, 59]), (13, [38, 35, 120, 68, 59])] x)) (esc_if w 13 [38, 35, 120, 68, 59] (tab := [(38, [38, 97, 109, 112, 59]), (60, [38, 108, 116, 59]), (62, [38, 103, 116, 59])]) (x := x) e4 (by decide +kernel) (by decide +kernel) (by decide +kernel) (by decide +kernel) (by decide) (by omega) rfl) ?_
  intro s5 _ e5
  obtain ⟨h9, t9, tk9, rfl, F9, N9⟩ := e5
  clear F1 N1
  k_steps
  exact hret _ _ _ _ (by k_asm) (by k_asm) ⟨rfl, _, rfl⟩
noncomputable def tab_ac14n : Tab := [(38, [38, 97, 109, 112, 59]), (60, [38, 108, 116, 59]), (34, [38, 113, 117, 111, 116, 59]), (9, [38, 35, 120, 57, 59]), (10, [38, 35, 120, 65, 59]), (13, [38, 35, 120, 68, 59])]
set_option maxRecDepth 100000 in
set_option maxHeartbeats 8000000 in
theorem c105 (w : World) (news : Led) (x : List Nat) (t : Tok) (hlen : x.length ≤ 100000) : Con w 105 [.str (tx x) t] news 1 8 (fun r nx => nx = news ∧ ∃ t', r = .str (tx (enc tab_ac14n x)) t') := by
  unfold Con
  k_fill
  intro p loose mean mg mb dp un gd cn cs a ccd cl outer A₀ base h₀ L m s Q E B F X N T hk hd hu hcode hret
  refine wpAny_call ?_
  k_dflt (refine' code_def ?k1 ?k2 ?k3 ?k4 ?k5 ?kA ?kF ?kK ?k6 ?k7 ?k8 ?k9 ?kB ?_ ?c2 ?c3 ?c4 ?c5; (case kA => exact rfl); (case kF => exact rfl); (case kK => assumption); (case k1 => k_asm); (case k2 => k_asm); (case k3 => k_asm); (case k4 => k_asm); (case k5 => k_asm); (case k6 => k_is); (case k7 => k_is); (case k8 => ktr_room); (case k9 => exact BindsTo.of_eq rfl); (case c5 => decide); (case kB => exact locs rfl); (case c2 => exact rfl); (case c3 => exact rfl); (case c4 => exact rfl))
  k_whole
  intro g1 L1 h1 FG1 F1 N1 B1 X1 T1
  try dsimp only
  k_fold
  replace F1 := Fr_eqm (m' := fun y => if y = Str.ofString "text" then some (.str (tx (enc [] x)) t) else none) F1 (fun y => by
    show List.lookup y [(Str.ofString "text", Value.str (tx x) t)] = _
    rw [List.lookup_cons, enc_nil]
    split <;> simp_all)
  generalize s.toks + _ = tk1
  walk1
  walk1
  have l0 := enc_le 6 (by decide) [] (by decide) x
  refine cut (EscP g1 L1 news s (enc [(38, [38, 97, 109, 112, 59])] x)) (esc_if w 38 [38, 97, 109, 112, 59] (tab := []) (x := x) ⟨_, _, _, rfl, F1, N1⟩ (by decide +kernel) (by decide +kernel) (by decide +kernel) (by decide +kernel) (by decide) (by omega) rfl) ?_
  intro s2 _ e2
  have l1 := enc_le 6 (by decide) [(38, [38, 97, 109, 112, 59])] (by decide) x
  refine cut (EscP g1 L1 news s (enc [(38, [38, 97, 109, 112, 59]), (60, [38, 108, 116, 59])] x)) (esc_if w 60 [38, 108, 116, 59] (tab := [(38, [38, 97, 109, 112, 59])]) (x := x) e2 (by decide +kernel) (by decide +kernel) (by decide +kernel) (by decide +kernel) (by decide) (by omega) rfl) ?_
  intro s3 _ e3
  have l2 := enc_le 6 (by decide) [(38, [38, 97, 109, 112, 59]), (60, [38, 108, 116, 59])] (by decide) x
  refine cut (EscP g1 L1 news s (enc [(38, [38, 97, 109, 112, 59]), (60, [38, 108, 116, 59]), (34, [38, 113, 117, 111, 116, 59])] x)) (esc_if w 34 [38, 113, 117, 111, 116, 59] (tab := [(38, [38, 97, 109, 112, 59]), (60, [38, 108, 116, 59])]) (x := x) e3 (by decide +kernel) (by decide +kernel) (by decide +kernel) (by decide +kernel) (by decide) (by omega) rfl) ?_
  intro s4 _ e4
  have l3 := enc_le 6 (by decide) [(38, [38, 97, 109, 112, 59]), (60, [38, 108, 116, 59]), (34, [38, 113, 117, 111, 116, 59])] (by decide) x
  refine cut (EscP g1 L1 news s (enc [(38, [38, 97, 109, 112, 59]), (60, [38, 108, 116, 59]), (34, [38, 113, 117, 111, 116, 59]), (9, [38, 35, 120, 57, 59])] x)) (esc_if w 9 [38, 35, 120, 57, 59] (tab := [(38, [38, 97, 109, 112, 59]), (60, [38, 108, 116, 59]), (34, [38, 113, 117, 111, 116, 59])]) (x := x) e4 (by decide +kernel) (by decide +kernel) (by decide +kernel) (by decide +kernel) (by decide) (by omega) rfl) ?_
  intro s5 _ e5
  have l4 := enc_le 6 (by decide) [(38, [38, 97, 109, 112, 59]), (60, [38, 108, 116, 59]), (34, [38, 113, 117, 111, 116, 59]), (9, [38, 35, 120, 57, 59])] (by decide) x
  refine cut (EscP g1 L1 news s (enc [(38, [38, 97, 109, 112, 59]), (60, [38, 108, 116, 59]), (34, [38, 113, 117, 111, 116, 59]), (9, [38, 35, 120, 57, 59]), (10, [38, 35, 120, 65, 59])] x)) (esc_if w 10 [38, 35, 120, 65, 59] (tab := [(38, [38, 97, 109, 112, 59]), (60, [38, 108, 116, 59]), (34, [38, 113, 117, 111, 116, 59]), (9, [38, 35, 120, 57, 59])]) (x := x) e5 (by decide +kernel) (by decide +kernel) (by decide +kernel) (by decide +kernel) (by decide) (by omega) rfl) ?_
  intro s6 _ e6
  have l5 := enc_le 6 (by decide) [(38, [38, 97, 109, 112, 59]), (60, [38, 108, 116, 59]), (34, [38, 113, 117, 111, 116, 59]), (9, [38, 35, 120, 57, 59]), (10, [38, 35, 120, 65, 59])] (by decide) x
  refine cut (EscP g1 L1 news s (enc [(38, [38, 97, 109, 112, 59]), (60, [38, 108, 116, 59]), (34, [38, 113, 117, 111, 116, 59]), (9, [38, 35, 120, 57, 59]), (10, [38, 35, 120, 65, 59]), (13, [38, 35, 120, 68, 59])] x)) (esc_if w 13 [38, 35, 120, 68, 59] (tab := [(38, [38, 97, 109, 112, 59]), (60, [38, 108, 116, 59]), (34, [38, 113, 117, 111, 116, 59]), (9, [38, 35, 120, 57, 59]), (10, [38, 35, 120, 65, 59])]) (x := x) e6 (by decide +kernel) (by decide +kernel) (by decide +kernel) (by decide +kernel) (by decide) (by omega) rfl) ?_
  intro s7 _ e7
  obtain ⟨h9, t9, tk9, rfl, F9, N9⟩ := e7
  clear F1 N1
  k_steps
  exact hret _ _ _ _ (by k_asm) (by k_asm) ⟨rfl, _, rfl⟩
-- C4
theorem take_snoc {α : Type} {l : List α} {i : Nat} {a : α} (h : l[i]? = some a) : l.take (i + 1) = l.take i ++ [a] := by
  rw [List.take_add_one, h]; rfl
section
variable {prog : Program} {w : World} {A : Around} {E : Value → Shared → Prop} {s : Shared} {h₀ : Heap} {L : Addr} {m : Str → Option Value} {env : Env}
/-- a comprehension's turns, by what holds between them -/
theorem compRest_inv {elt : Expr} {x : Str} {scope : Scope} {cl : List (Str × Addr)} {S : Led → Prop} {P : Nat → Value → Prop} {Fin : List Value → Led → Prop} (n : Nat) (Inv : Nat → List Value → Led → Prop)
    (step : ∀ i ys news v I oI C oC D m₂ h tk (E' : Value → Shared → Prop), i < n → Inv i ys news → P i v → LCg.NsObj oC m₂ → m₂ x = some v → Fr h₀ L h m → News h₀ L h ((I, oI) :: (C, oC) :: (D, LCg.lst ys) :: news) → LCg.Off3 I C D news →
      ((@Ne Nat I C) ∧ (@Ne Nat I D) ∧ (@Ne Nat C D)) →
      wpAny (model prog w) A (eval elt (compEnvC scope cl C env)) (LCg.CompEnd h₀ L m { s with heap := h, toks := tk } I oI C oC D (LCg.lst ys) S (fun y news' => Inv (i + 1) (ys ++ [y]) news')) E' { s with heap := h, toks := tk })
    (fin : ∀ ys news, Inv n ys news → Fin ys news) : ∀ k i ys news, i + k = n → Inv i ys news → LCg.CompRest prog w A h₀ L m env elt x scope cl s S P Fin k i ys news
  | 0, i, ys, news, e, hI => LCg.CompRest.zero (fin ys news ((show i = n from e) ▸ hI))
  | k + 1, i, ys, news, e, hI => LCg.CompRest.succ fun v I oI C oC D m₂ h tk E' hP hC hx F N off ne => by
    refine wpAny_mono (step i ys news v I oI C oC D m₂ h tk E' (by omega) hI hP hC hx F N off ne) (fun y s' hc => ?_) fun _ _ e => e
    refine opq fun G9 hG9 => ?_
    obtain ⟨h', tk', news', e', F', N', off', hS, r⟩ := hc
    refine hG9 ?_
    clear hG9
    exact ⟨h', tk', news', e', F', N', off', hS, compRest_inv n Inv step fin k (i + 1) _ _ (by omega) r⟩
/-- a comprehension over a text -/
theorem ListComp_S {elt iter : Expr} {x : Str} {px : Pos} {scope : Scope} {cl : List (Str × Addr)} {pos : Pos} {Q : Value → Shared → Prop} (F₀ : Fr h₀ L s.heap m)
    (hclos : closureFor scope env = pure cl) (hcell : ∀ y ∈ scope.names, y.2 ≠ .cell) (hkind : scope.kind = .function)
    (hnames : ∀ y ∈ scope.names, y.2 = .local → scope.names.lookup y.1 = some .local) (hx : scope.names.lookup x = some .local)
    (h : wpAny (model prog w) A (eval iter env) (fun xv s₁ => ∃ xs t news, xv = .str (tx xs) t ∧ A.handled = none ∧ Fr h₀ L s₁.heap m ∧ News h₀ L s₁.heap news ∧ xs.length ≤ 16777216 ∧
      ∀ s₂ : Shared, (∃ h, s₂ = { s₁ with heap := h }) → LCg.CompRest prog w A h₀ L m env elt x scope cl s₂ (fun _ => True) (fun i v => ∃ c t, xs[i]? = some c ∧ v = .str (tx [c]) t) (LCg.FinE h₀ L m s₂ Q) xs.length 0 [] news) E s)
    (hs : ∀ x, foldedSetIterable iter env x = pure x := by intro _; rfl) :
    wpAny (model prog w) A (eval (.ListComp elt [⟨.Name x px, iter, [], 0⟩] scope pos) env) Q E s := by
  rw [eval_ListComp]
  refine wpAny_comprehension_free (use := none) rfl hs hclos hkind hnames (wpAny_mono h (fun xv s₁ h₁ => ?_) fun _ _ e => e)
  refine opq fun G9 hG9 => ?_
  obtain ⟨xs, t, news, rfl, hh, F, N, hsz, R⟩ := h₁
  refine hG9 ?_
  clear hG9
  have hsize : (tx xs).cps.size = xs.length := by simp
  have hP : (fun i v => ∃ c t, xs[i]? = some c ∧ v = Value.str (tx [c]) t) = SignAt (tx xs) := by
    funext i v
    refine propext ⟨?_, ?_⟩
    · rintro ⟨c, t, hc, rfl⟩; exact ⟨c, t, by simpa using hc, rfl⟩
    · rintro ⟨c, t, hc, rfl⟩; exact ⟨c, t, by simpa using hc, rfl⟩
  have hR : ∀ {s₂ : Shared} {k i ys nw}, LCg.CompRest prog w A h₀ L m env elt x scope cl s₂ (fun _ => True) (fun i v => ∃ c t, xs[i]? = some c ∧ v = Value.str (tx [c]) t) (LCg.FinE h₀ L m s₂ Q) k i ys nw →
      LCg.CompRest prog w A h₀ L m env elt x scope cl s₂ (fun _ => True) (SignAt (tx xs)) (LCg.FinE h₀ L m s₂ Q) k i ys nw := fun h => hP ▸ h
  cases ha : (tx xs).cps.all (· < 128)
  · refine wpAny_pyIter_wide ha ?_
    have W := Walks.strWide (prog := prog) (w := w) hh s₁.heap.objs.size (tx xs) t
    rw [hsize] at W
    refine LCg.block_U (S := fun _ => True) W (by rw [sizeLine_eq]; exact hsz) (fun i h st => by obtain ⟨o', e, _⟩ := st; exact ⟨o', e⟩)
      (fun i h h' o' nw st e e' _ _ _ => by obtain ⟨o'', q, r⟩ := st; rw [e] at q; cases q; exact ⟨o', e', r⟩) hcell hkind hx ⟨_, Heap.get?_push_size _ rfl, rfl, rfl⟩ (fun b hb => ?_)
      (F.keeps fun _ _ e => Heap.get?_push_of_some _ e) (N.grown fun _ _ e => Heap.get?_push_of_some _ e) (Nat.ne_of_lt F.ns.lt) (next_is_new F) (fun p hp => Nat.ne_of_lt (Heap.lt_size (N p hp).1)) trivial (hR (R _ ⟨_, rfl⟩)) ?_
    · rw [List.mem_singleton.mp hb]
      show s₁.heap.objs.size < (s₁.heap.push _).objs.size
      rw [Heap.size_push]; exact Nat.lt_succ_self _
    · intro D C h tk m' ys news' F' N' o1 hn hC₀ hD₀ hCL hDL hCD offC fin
      refine ⟨m', hn, fun h'' hs'' => fin D h'' tk (F'.change hs'' hCL hC₀) (fun p hp => ?_) o1⟩
      refine ⟨hs''.extBut _ _ ?_ (N' p hp).1, (N' p hp).2⟩
      rcases List.mem_cons.mp hp with rfl | hp
      · exact Ne.symm hCD
      · exact offC p hp
  · refine wpAny_pyIter_ascii ha ?_
    have W := Walks.strAscii (prog := prog) (w := w) hh s₁.heap.objs.size (tx xs) t
    rw [hsize] at W
    refine LCg.block_U (S := fun _ => True) W (by rw [sizeLine_eq]; exact hsz) (fun i h st => by obtain ⟨o', e, _⟩ := st; exact ⟨o', e⟩)
      (fun i h h' o' nw st e e' _ _ _ => by obtain ⟨o'', q, r⟩ := st; rw [e] at q; cases q; exact ⟨o', e', r⟩) hcell hkind hx ⟨_, Heap.get?_push_size _ rfl, rfl, rfl⟩ (fun b hb => ?_)
      (F.keeps fun _ _ e => Heap.get?_push_of_some _ e) (N.grown fun _ _ e => Heap.get?_push_of_some _ e) (Nat.ne_of_lt F.ns.lt) (next_is_new F) (fun p hp => Nat.ne_of_lt (Heap.lt_size (N p hp).1)) trivial (hR (R _ ⟨_, rfl⟩)) ?_
    · rw [List.mem_singleton.mp hb]
      show s₁.heap.objs.size < (s₁.heap.push _).objs.size
      rw [Heap.size_push]; exact Nat.lt_succ_self _
    · intro D C h tk m' ys news' F' N' o1 hn hC₀ hD₀ hCL hDL hCD offC fin
      refine ⟨m', hn, fun h'' hs'' => fin D h'' tk (F'.change hs'' hCL hC₀) (fun p hp => ?_) o1⟩
      refine ⟨hs''.extBut _ _ ?_ (N' p hp).1, (N' p hp).2⟩
      rcases List.mem_cons.mp hp with rfl | hp
      · exact Ne.symm hCD
      · exact offC p hp
end
section
variable {prog : Program} {w : World} {A : Around} {E : Value → Shared → Prop} {s : Shared}
theorem item_at {value slice : PySem.Expr} {l : Addr} {vs : Array Value} {k : Int} {u : Tok} {v : Value} {Q : Value → Shared → Prop}
    (hl : s.heap.IsList l vs) (h0 : 0 ≤ k) (hhi : k < 2 ^ 63) (hx : vs[k.toNat]? = some v) (h : Q v s)
    (hs : subscripted slice false (.ref l) (.int k u) = operate [.ref l, .int k u] (getItem (.ref l) (.int k u)) := by with_unfolding_all rfl) :
    wpAny (model prog w) A (subscriptTail value slice (.ref l) (.int k u)) Q E s :=
  tail_any hl.typeIs slot_list_getitem.lookup (wpAny_getItem_list hl h0 hhi hx h) hs
end
section
variable {prog : Program} {w : World} {A : Around} {E : Value → Shared → Prop} {s : Shared} {env : Env} {h₀ : Heap} {target : Expr} {body : List Stmt} {Q : Flow → Shared → Prop}
/-- a loop over a list of the ledger's that the loop does not turn, whatever its target -/
theorem iter_listT {l : Addr} {vs : List Value} {n : Nat} {m₀ : Str → Option Value} {news : Led} (J : List Value → (Str → Option Value) → Led → Prop)
    (hh : A.handled = none) (hl : (l, listOf vs.toArray n) ∈ news) (F : Fr h₀ env.locals s.heap m₀) (N : News h₀ env.locals s.heap news) (hj : J [] m₀ news)
    (turn : ∀ pre v post m₁ news₁ h tk own, vs = pre ++ v :: post → news₁.map (·.1) = news.map (·.1) → J pre m₁ news₁ → (∀ p ∈ own, p.1 = l ∨ ∀ q ∈ news, q.1 ≠ p.1) →
      Fr h₀ env.locals h m₁ → News h₀ env.locals h (news₁ ++ own) →
      wpAny (model prog w) A (assign target env v) (fun _ s₃ => wpAny (model prog w) A (execs body env) (InvPostN h₀ env.locals (J (pre ++ [v])) own (news.map (·.1)) { s with heap := h, toks := tk } Q) E s₃) E { s with heap := h, toks := tk })
    (done : ∀ m₁ news₁ h tk, J vs m₁ news₁ → Fr h₀ env.locals h m₁ → News h₀ env.locals h news₁ → Q .next { s with heap := h, toks := tk }) :
    wpAny (model prog w) A (pyIter (.ref l)) (fun it s₂ => TurnsAt prog w A h₀ env target body Q E it s₂) E s := by
  have hls := News.isList N hl
  have hol := (N _ hl).1
  have hlt : l < s.heap.objs.size := Heap.lt_size hol
  refine wpAny_pyIter_list hls ?_
  have W := Walks.list (prog := prog) (w := w) hh s.heap.objs.size l (Nat.ne_of_lt hlt) vs.toArray
  have hsz : vs.toArray.size = vs.length := List.size_toArray ..
  rw [hsz] at W
  have hI : ∀ p ∈ news, p.1 ≠ s.heap.objs.size := fun p hp => Nat.ne_of_lt (Heap.lt_size (N p hp).1)
  have hadI : ∀ nx : Led, nx.map (·.1) = news.map (·.1) → ∀ p ∈ nx, p.1 ∉ [s.heap.objs.size] := fun nx e p hp hm => by
    have h1 : p.1 ∈ nx.map (·.1) := List.mem_map.mpr ⟨p, hp, rfl⟩
    rw [e] at h1
    obtain ⟨q, hq, hqe⟩ := List.mem_map.mp h1
    exact hI q hq (hqe.trans (List.mem_singleton.mp hm))
  refine ⟨s.heap.objs.size, _, _, vs.length, _, _, _, m₀, news, fun i m₁ news₁ => news₁.map (·.1) = news.map (·.1) ∧ J (vs.take i) m₁ news₁, rfl,
    KTurns.ofWalks W fun i v s Q E st q => letGo_listiter st.1 q, ?_, ?_, hadI news rfl, ⟨⟨_, Heap.get?_push_size _ rfl, rfl, rfl⟩, hls.at fun o e => Heap.get?_push_of_some _ e⟩, F.push _, (fun p hp => ⟨Heap.get?_push_of_some _ (N p hp).1, (N p hp).2⟩), ⟨rfl, by rw [List.take_zero]; exact hj⟩, ?_, ?_⟩
  · intro hm
    rcases List.mem_cons.mp hm with e | hm
    · exact absurd F.ns.lt (e ▸ Nat.lt_irrefl _)
    · exact (N _ hl).2.1 (List.mem_singleton.mp hm).symm
  · intro b hb
    rw [List.mem_singleton.mp hb]
    exact next_is_new F
  · rintro i v m₁ news₁ hh' tk' own hin hP ⟨hadr, hJ⟩ hoff hown _ _ _ F₁ N₁
    have hown' : ∀ p ∈ own, p.1 = l ∨ ∀ q ∈ news, q.1 ≠ p.1 := fun p hp => by
      rcases List.mem_cons.mp (hown p hp) with e | e
      · exact .inr fun q hq => by rw [e]; exact hI q hq
      · exact .inl (List.mem_singleton.mp e)
    have hn' : vs[i]? = some v := by
      have hP' : vs.toArray[i]? = some v := hP
      rw [List.getElem?_toArray] at hP'; exact hP'
    have hs : vs.take (i + 1) = vs.take i ++ [v] := take_snoc hn'
    have e : vs = vs.take i ++ v :: vs.drop (i + 1) := by
      have ht := List.take_append_drop (i + 1) vs
      rw [hs, List.append_assoc] at ht
      exact ht.symm
    have N₂ : News h₀ env.locals hh' (news₁ ++ own) := fun p hp => N₁ p ((List.mem_append.mp hp).elim (fun h => List.mem_append.mpr (.inr h)) fun h => List.mem_append.mpr (.inl h))
    refine wpAny_mono (turn _ v _ m₁ news₁ hh' tk' own e hadr hJ hown' F₁ N₂) (fun _ s₃ h₃ => wpAny_mono h₃ (fun f s₂ p => ?_) fun _ _ e => e) fun _ _ e => e
    have fin : InvEndN h₀ env.locals (J (vs.take i ++ [v])) own (news.map (·.1)) { s with heap := hh', toks := tk' } s₂ →
        LoopStepU h₀ env.locals [s.heap.objs.size] own (fun m₁ news₁ => news₁.map (·.1) = news.map (·.1) ∧ J (vs.take (i + 1)) m₁ news₁) { s with heap := hh', toks := tk' } .next s₂ := by
      rintro zq26_0
      refine opq fun G9 hG9 => ?_
      obtain ⟨h', tk, m', news', nx, e, F', N', hn, ho, ha, hm⟩ := zq26_0
      refine hG9 ?_
      clear hG9
      exact ⟨rfl, h', tk, m', nx, e, F', fun p hp => N' p ((List.mem_append.mp hp).elim (ho p) (hn p)), hadI nx ha, ha, by rw [hs]; exact hm⟩
    cases f with
    | ret v => exact .ret p
    | brk => exact .brk p
    | next => exact .next (fin p)
    | cont => exact .cont (fin p)
  · rintro h' tk m' news' F' N' _ ⟨_, hJ⟩
    rw [List.take_length] at hJ
    exact done m' news' h' tk hJ F' N'
end
end Mine
end
section
open PySem.Spec PySem.Calls PyProof.V
namespace Mine
-- steps up to a loop or a list comprehension
-- into a def
local macro_rules | `(tactic| walk_at "binaryOp Add str str") => `(tactic| ((refine add_tx (by (first | omega | (simp only [List.length_cons, List.length_nil, List.length_append] at *; omega))) ?_); intro _ _))
local macro_rules | `(tactic| walk_at "inplaceOp Add str str") => `(tactic| ((refine iadd_tx (by (first | omega | (simp only [List.length_cons, List.length_nil, List.length_append] at *; omega))) ?_); intro _ _))
local macro_rules | `(tactic| k_all) => `(tactic| assumption)
local macro_rules | `(tactic| walk_at "subscriptTail") => `(tactic| (k_dflt (refine' item_sp ?T ?l ?_; (case T => k_tabat); (case l => assumption)); intro _))
-- into a def whose locals are captured
local macro_rules | `(tactic| k_mem) => `(tactic| first | assumption | exact List.Mem.head _ | (refine' List.Mem.tail _ ?_; k_mem))
-- a contract taken at a call
-- into a def that the call has made
-- C1
noncomputable def hidStep (a : List Nat × Bool) (c : Nat) : List Nat × Bool := (a.1 ++ (if c = 34 ∧ a.2 = false then [92, c] else [c]), decide (c = 92) && !a.2)
noncomputable def hidF (l : List Nat) : List Nat × Bool := l.foldl hidStep ([], false)
theorem hidF_snoc (l : List Nat) (c : Nat) : hidF (l ++ [c]) = hidStep (hidF l) c := by unfold hidF; rw [List.foldl_append]; rfl
theorem hidStep_le (a : List Nat × Bool) (c : Nat) : (hidStep a c).1.length ≤ a.1.length + 2 := by
  show (a.1 ++ _).length ≤ _
  rw [List.length_append]
  have : (if c = 34 ∧ a.2 = false then [92, c] else [c]).length ≤ 2 := by split <;> simp
  omega
theorem hid_le : ∀ (l : List Nat) (a : List Nat × Bool), (l.foldl hidStep a).1.length ≤ a.1.length + 2 * l.length
  | [], a => by simp
  | c :: l, a => by
    have h1 := hid_le l (hidStep a c)
    have h2 := hidStep_le a c
    simp only [List.foldl_cons, List.length_cons]
    omega
theorem hidF_le (l : List Nat) : (hidF l).1.length ≤ 2 * l.length := by
  have := hid_le l ([], false)
  simpa [hidF] using this
set_option maxRecDepth 100000 in
set_option maxHeartbeats 8000000 in
theorem c150 (w : World) (news : Led) (x : List Nat) (t : Tok) (hlen : x.length ≤ 100000) : Con w 150 [.str (tx x) t] news 1 8 (fun r nx => nx = news ∧ ∃ t', r = .str (tx (hidF x).1) t') := by
  unfold Con
  k_fill
  intro p loose mean mg mb dp un gd cn cs a ccd cl outer A₀ base h₀ L m s Q E B F X N T hk hd hu hcode hret
  refine wpAny_call ?_
  k_dflt (refine' code_def ?k1 ?k2 ?k3 ?k4 ?k5 ?kA ?kF ?kK ?k6 ?k7 ?k8 ?k9 ?kB ?_ ?c2 ?c3 ?c4 ?c5; (case kA => exact rfl); (case kF => exact rfl); (case kK => assumption); (case k1 => k_asm); (case k2 => k_asm); (case k3 => k_asm); (case k4 => k_asm); (case k5 => k_asm); (case k6 => k_is); (case k7 => k_is); (case k8 => ktr_room); (case k9 => exact BindsTo.of_eq rfl); (case c5 => decide); (case kB => exact locs rfl); (case c2 => exact rfl); (case c3 => exact rfl); (case c4 => exact rfl); k_whole)
  intro g1 L1 h1 FG1 F1 N1 B1 X1 T1
  simp only [show Str.ofString "" = tx [] from by decide +kernel, show Str.ofString "\\" = tx [92] from by decide +kernel, show Str.ofString "\"" = tx [34] from by decide +kernel]
  try dsimp only
  k_fold
  (repeat' ((fail_if_success (with_reducible show wpAny _ _ (PySem.exec (PySem.Stmt.For _ _ _ _ _) _) _ _ _)); (fail_if_success (with_reducible show wpAny _ _ (PySem.eval (PySem.Expr.ListComp _ _ _ _) _) _ _ _)); (first | (k_unfold; (try dsimp only)) | (k_end; wrow_close) | walk1 | (dsimp only; walk1) | (leave1; try dsimp only) )))
  rename Fr g1 _ _ _ => F2
  rename News g1 _ _ _ => N2
  replace N2 := cb_drop (news := news) N2 (fun p hp => List.mem_cons_of_mem _ hp)
  k_dflt (refine' For_invVF F2 ?k1 ?k2 ?_; (case k1 => exact rfl); (case k2 => exact rfl))
  walk1
  k_dflt (refine' iter_text (J := fun pre m' nx => nx = news ∧ (∃ t1, m' (Str.ofString "shown") = some (.str (tx (hidF pre).1) t1)) ∧ m' (Str.ofString "hidden") = some (.bool (hidF pre).2)) ?hh F2 N2 ?hj ?_ ?_; (case hh => exact rfl); (case hj => exact ⟨rfl, ⟨_, rfl⟩, rfl⟩))
  · rintro pre c post t3 m3 _ h3 tk3 own hxs - - zq27_12 F3 N3
    refine opq fun G9 hG9 => ?_
    obtain ⟨rfl, ⟨t4, hs⟩, hh⟩ := zq27_12
    refine hG9 ?_
    clear hG9
    replace F3 := Fr_eqm (m' := fun y => if y = Str.ofString "sign" then some (.str (tx [c]) t3) else if y = Str.ofString "hidden" then some (.bool (hidF pre).2) else if y = Str.ofString "shown" then some (.str (tx (hidF pre).1) t4) else m3 y) F3 (fun y => by
      split <;> (try split) <;> (try split) <;> simp_all)
    dsimp only [envOf] at F3 N3
    dsimp only
    have hlp : (hidF pre).1.length ≤ 2 * pre.length := hidF_le pre
    have hlx : pre.length < x.length := by rw [hxs]; simp
    clear F2 N2 hxs
    k_steps
    all_goals (
      simp only [tx_beq, decide_eq_true_eq, decide_eq_false_iff_not, List.cons.injEq, and_true] at *
      refine' InvEndN.intro (by k_asm) (by k_asm) ⟨rfl, ?a, ?b⟩ rfl (fun p hp => List.mem_append_left _ hp) (fun p hp => List.mem_append_right _ hp)
      case a =>
        rw [hidF_snoc]
        simp only [hidStep, *]
        exact ⟨_, rfl⟩
      case b =>
        rw [hidF_snoc]
        simp only [hidStep, *]
        rfl)
  · rintro m3 _ h3 tk3 zq28_4 F3 N3
    refine opq fun G9 hG9 => ?_
    obtain ⟨rfl, ⟨t4, hs⟩, hh⟩ := zq28_4
    refine hG9 ?_
    clear hG9
    replace F3 := Fr_eqm (m' := fun y => if y = Str.ofString "shown" then some (.str (tx (hidF x).1) t4) else m3 y) F3 (fun y => by split <;> simp_all)
    dsimp only [envOf] at F3 N3
    dsimp only
    clear F2 N2
    k_steps
    exact hret _ _ _ _ (by k_asm) (by k_asm) ⟨rfl, _, rfl⟩
-- C2
inductive Md where
  | btw | mks | bare
noncomputable def mdS : Md → Str
  | .btw => Str.ofString "between"
  | .mks => Str.ofString "marks"
  | .bare => Str.ofString "bare"
structure WS where
  words : List (List Nat)
  word : List Nat
  st : Md
  hid : Bool
noncomputable def Md.open : Md → Md
  | .btw => .bare
  | m => m
noncomputable def wsL : List Nat := [10, 9, 13, 32]
noncomputable def wStep (sp : Nat → List Nat) (a : WS) (c : Nat) : WS :=
  if a.hid = true then { a with word := a.word ++ sp c, hid := false }
  else if c = 92 then { a with st := a.st.open, hid := true }
  else if sp c ≠ [c] then { a with word := a.word ++ sp c, st := a.st.open }
  else match a.st with
    | .btw => if c = 34 then { a with st := .mks } else if c ∈ wsL then a else { a with word := a.word ++ [c], st := .bare }
    | .mks => if c = 34 then { a with words := a.words ++ [a.word], word := [], st := .btw } else { a with word := a.word ++ [c] }
    | .bare => if c ∈ wsL then { a with words := a.words ++ [a.word], word := [], st := .btw } else { a with word := a.word ++ [c] }
noncomputable def wF (sp : Nat → List Nat) (l : List Nat) : WS := l.foldl (wStep sp) ⟨[], [], .btw, false⟩
noncomputable def wEnd (a : WS) : List (List Nat) := match a.st with
  | .btw => a.words
  | _ => a.words ++ [a.word]
noncomputable def lawWords (sp : Nat → List Nat) (l : List Nat) : List (List Nat) := wEnd (wF sp l)
theorem wF_snoc (sp : Nat → List Nat) (l : List Nat) (c : Nat) : wF sp (l ++ [c]) = wStep sp (wF sp l) c := by unfold wF; rw [List.foldl_append]; rfl
noncomputable def JW (news : Led) (sp : Nat → List Nat) (sd : Addr) (pre : List Nat) (m' : Str → Option Value) (nx : Led) : Prop :=
  ∃ (wl : Addr) (vs : Array Value) (n : Nat), nx = (wl, listOf vs n) :: news ∧ (∀ p ∈ news, p.1 < wl) ∧ StrsAre vs.toList ((wF sp pre).words.map tx) ∧ m' (Str.ofString "words") = some (.ref wl) ∧
     (∃ t1, m' (Str.ofString "word") = some (.str (tx (wF sp pre).word) t1)) ∧ (∃ t1, m' (Str.ofString "state") = some (.str (mdS (wF sp pre).st) t1)) ∧ m' (Str.ofString "hidden") = some (.bool (wF sp pre).hid) ∧ m' (Str.ofString "spelled") = some (.ref sd)
theorem wStep_le (sp : Nat → List Nat) (a : WS) (c : Nat) (h : (sp c).length ≤ 1000) : (wStep sp a c).word.length ≤ a.word.length + 1000 ∧ (wStep sp a c).words.length ≤ a.words.length + 1 := by
  obtain ⟨ws, wd, st, hd⟩ := a
  unfold wStep
  dsimp only
  (repeat' split) <;> (try cases st) <;> (try dsimp only) <;> (try (repeat' split)) <;> constructor <;> simp <;> omega
theorem wF_le (sp : Nat → List Nat) : ∀ (l : List Nat) (a : WS), (∀ c ∈ l, (sp c).length ≤ 1000) → (l.foldl (wStep sp) a).word.length ≤ a.word.length + 1000 * l.length ∧ (l.foldl (wStep sp) a).words.length ≤ a.words.length + l.length
  | [], a, _ => by simp
  | c :: l, a, h => by
    have h1 := wF_le sp l (wStep sp a c) fun d hd => h d (List.mem_cons_of_mem _ hd)
    have h2 := wStep_le sp a c (h c (List.mem_cons_self ..))
    simp only [List.foldl_cons, List.length_cons]
    omega
theorem tx_bne (a b : List Nat) : (tx a != tx b) = !decide (a = b) := by rw [bne, tx_beq]
theorem strs_push {vs : Array Value} {ws : List (List Nat)} {wd : List Nat} {t : Tok} (h : StrsAre vs.toList (ws.map tx)) : StrsAre (vs.push (.str (tx wd) t)).toList ((ws ++ [wd]).map tx) := by
  rw [Array.toList_push, List.map_append]
  exact h.append' (.cons _ _ .nil)
theorem strs_app {vs : Array Value} {ws : List (List Nat)} {wd : List Nat} {t : Tok} (h : StrsAre vs.toList (ws.map tx)) : StrsAre (vs.toList ++ (#[Value.str (tx wd) t] : Array Value).toList).toArray.toList ((ws ++ [wd]).map tx) := by
  have := strs_push (wd := wd) (t := t) h
  simpa using this
theorem jw_end {g h : Heap} {L : Addr} {m' : Str → Option Value} {wl sd : Addr} {od : Obj} {arr : Array Value} {n : Nat} {news own : Led} {pre : List Nat} {c : Nat} {sp : Nat → List Nat} {ws : List (List Nat)} {wd : List Nat} {st : Md} {hid : Bool} {s₁ : Shared} {tk : Nat}
    (F : Fr g L h m') (N : News g L h ((wl, listOf arr n) :: (sd, od) :: (news ++ own))) (h1 : m' (Str.ofString "words") = some (.ref wl)) (h2 : ∃ t1, m' (Str.ofString "word") = some (.str (tx wd) t1))
    (h3 : ∃ t1, m' (Str.ofString "state") = some (.str (mdS st) t1)) (h4 : m' (Str.ofString "hidden") = some (.bool hid)) (h5 : m' (Str.ofString "spelled") = some (.ref sd)) (hv : StrsAre arr.toList (ws.map tx)) (hlt : ∀ p ∈ news, p.1 < wl)
    (hs : wF sp (pre ++ [c]) = ⟨ws, wd, st, hid⟩) : InvEndN g L (JW news sp sd (pre ++ [c])) own (wl :: news.map (·.1)) s₁ { s₁ with heap := h, toks := tk } := by
  refine InvEndN.intro F N (nx := (wl, listOf arr n) :: news) ?_ rfl ?_ ?_
  · refine ⟨wl, arr, n, rfl, hlt, ?_, h1, ?_, ?_, ?_, h5⟩
    · rw [hs]; exact hv
    · rw [hs]; exact h2
    · rw [hs]; exact h3
    · rw [hs]; exact h4
  · intro p hp
    simp only [List.mem_cons, List.mem_append] at hp ⊢
    exact hp.elim .inl fun h => .inr (.inr (.inl h))
  · intro p hp
    simp only [List.mem_cons, List.mem_append]
    exact .inr (.inr (.inr hp))
set_option maxRecDepth 100000 in
set_option maxHeartbeats 8000000 in
theorem c143 (w : World) (news : Led) (x : List Nat) (t : Tok) (sd : Addr) (od : Obj) (kvs : List (Str × Value)) (D : List (PyData × PyData)) (sp : Nat → List Nat) (hlen : x.length ≤ 1000)
    (hmem : (sd, od) ∈ news) (hsys : (sd == sysModules) = false) (hdo : od.IsDictOf (strKind PySem.Challenge.rw_to0013_01.row.prog w) kvs) (hfp : FlatPairs PyData.str kvs D)
    (hsp : ∀ c ∈ x, lookup (.str (tx [c])) D = some (.str (tx (sp c)))) (hspl : ∀ c ∈ x, (sp c).length ≤ 1000) :
    Con w 143 [.str (tx x) t, .ref sd] news 1 8 (fun r nx => ∃ a vs n, r = .ref a ∧ nx = (a, listOf vs n) :: news ∧ StrsAre vs.toList ((lawWords sp x).map tx)) := by
  unfold Con
  k_fill
  intro p loose mean mg mb dp un gd cn cs a ccd cl outer A₀ base h₀ L m s Q E B F X N T hk hd hu hcode hret
  refine wpAny_call ?_
  k_dflt (refine' code_def ?k1 ?k2 ?k3 ?k4 ?k5 ?kA ?kF ?kK ?k6 ?k7 ?k8 ?k9 ?kB ?_ ?c2 ?c3 ?c4 ?c5; (case kA => exact rfl); (case kF => exact rfl); (case kK => assumption); (case k1 => k_asm); (case k2 => k_asm); (case k3 => k_asm); (case k4 => k_asm); (case k5 => k_asm); (case k6 => k_is); (case k7 => k_is); (case k8 => ktr_room); (case k9 => exact BindsTo.of_eq rfl); (case c5 => decide); (case kB => exact locs rfl); (case c2 => exact rfl); (case c3 => exact rfl); (case c4 => exact rfl); k_whole)
  intro g1 L1 h1 FG1 F1 N1 B1 X1 T1
  simp only [show Str.ofString "" = tx [] from by decide +kernel, show Str.ofString "\\" = tx [92] from by decide +kernel, show Str.ofString "\"" = tx [34] from by decide +kernel, show Str.ofString "\n\t\r " = tx [10, 9, 13, 32] from by decide +kernel]
  try dsimp only
  k_fold
  (repeat' ((fail_if_success (with_reducible show wpAny _ _ (PySem.exec (PySem.Stmt.For _ _ _ _ _) _) _ _ _)); (fail_if_success (with_reducible show wpAny _ _ (PySem.eval (PySem.Expr.ListComp _ _ _ _) _) _ _ _)); (first | (k_unfold; (try dsimp only)) | (k_end; wrow_close) | walk1 | (dsimp only; walk1) | (leave1; try dsimp only) )))
  rename Fr g1 _ _ _ => F2
  rename News g1 _ _ _ => N2
  rename ∀ p ∈ news, @LT.lt Nat _ p.1 _ => lw
  replace N2 := cb_drop (news := (_, listOf (#[] : Array Value) 0) :: news) N2 (fun p hp => List.mem_cons_of_mem _ hp)
  k_dflt (refine' For_invVF F2 ?k1 ?k2 ?_; (case k1 => exact rfl); (case k2 => exact rfl))
  walk1
  k_dflt (refine' iter_text (J := JW news sp sd) ?hh F2 N2 ?hj ?_ ?_; (case hh => exact rfl); (case hj => exact ⟨_, #[], 0, rfl, lw, .nil, rfl, ⟨_, rfl⟩, ⟨_, rfl⟩, rfl, rfl⟩))
  · rintro pre c post t3 m3 _ h3 tk3 own hxs hoff hadr zq29_12 F3 N3
    refine opq fun G9 hG9 => ?_
    obtain ⟨wl, vs, n, rfl, hlt, hvs, hm1, ⟨t4, hm2⟩, ⟨t5, hm3⟩, hm4, hm5⟩ := zq29_12
    refine hG9 ?_
    clear hG9
    have hwl := (List.cons.inj hadr).1
    dsimp only at hwl
    rw [List.map_cons] at hoff ⊢
    rw [← hwl] at hoff ⊢
    clear hadr F2 N2 lw hwl
    replace N3 := cb_drop (news := (wl, listOf vs n) :: (sd, od) :: (news ++ own)) N3 (fun p hp => by
      simp only [List.mem_cons, List.mem_append] at hp ⊢
      rcases hp with h | h | h | h
      · exact .inl (.inl h)
      · subst h; exact .inl (.inr hmem)
      · exact .inl (.inr h)
      · exact .inr h)
    replace F3 := Fr_eqm (m' := fun y => if y = Str.ofString "sign" then some (.str (tx [c]) t3) else if y = Str.ofString "hidden" then some (.bool (wF sp pre).hid) else if y = Str.ofString "state" then some (.str (mdS (wF sp pre).st) t5)
      else if y = Str.ofString "word" then some (.str (tx (wF sp pre).word) t4) else if y = Str.ofString "words" then some (.ref wl) else if y = Str.ofString "spelled" then some (.ref sd) else m3 y) F3 (fun y => by
      split <;> (try split) <;> (try split) <;> (try split) <;> (try split) <;> (try split) <;> simp_all)
    have hcx : c ∈ x := by rw [hxs]; simp
    have hlc := hsp c hcx
    have hsl := hspl c hcx
    have hle := wF_le sp pre ⟨[], [], .btw, false⟩ (fun d hd => hspl d (by rw [hxs]; simp [hd]))
    change (wF sp pre).word.length ≤ _ ∧ (wF sp pre).words.length ≤ _ at hle
    have hlx : pre.length < x.length := by rw [hxs]; simp
    have hvl : vs.size = (wF sp pre).words.length := by rw [← Array.length_toList, hvs.length, List.length_map]
    have hall : ∀ p ∈ news ++ own, p.1 ≠ wl := fun p hp => (List.mem_append.mp hp).elim (fun h => Nat.ne_of_lt (hlt p h)) (fun h => hoff p h wl (List.mem_cons_self ..))
    have hsw : @LT.lt Nat _ sd wl := hlt _ hmem
    have hallw : ∀ p ∈ (sd, od) :: (news ++ own), p.1 ≠ wl := fun p hp => (List.mem_cons.mp hp).elim (fun e => e ▸ Nat.ne_of_lt hsw) (hall p)
    dsimp only [envOf] at F3 N3
    dsimp only
    clear hm1 hm2 hm3 hm4 hm5 hxs hsp hspl
    have hsn := wF_snoc sp pre c
    generalize ha : wF sp pre = a at *
    refine opq fun G9 hG9 => ?_
    obtain ⟨ws, wd, st, hid⟩ := a
    refine hG9 ?_
    clear hG9
    dsimp only at *
    cases hid with
    | true =>
      k_steps
      rename Fr g1 _ _ _ => F9
      rename News g1 _ _ _ => N9
      refine jw_end (st := st) F9 (by first | exact N9 | exact drop1 N9) rfl ⟨_, rfl⟩ ⟨_, rfl⟩ rfl rfl (by first | exact hvs | exact strs_push hvs) hlt (hsn.trans ?_)
      simp [wStep]
    | false =>
      cases st with
      | btw =>
        k_steps
        all_goals (
          rename Fr g1 _ _ _ => F9
          rename News g1 _ _ _ => N9
          try simp only [tx_beq, tx_bne, occ_tx, decide_eq_true_eq, decide_eq_false_iff_not, Decidable.not_not, List.cons.injEq, and_true, Bool.not_eq_true', Bool.not_eq_false'] at *
          try (rename c = 34 => h34; subst h34)
          try (rename c = 92 => h92; subst h92)
          first
          | (refine jw_end (st := .btw) F9 (by first | exact N9 | exact drop1 N9) rfl ⟨_, rfl⟩ ⟨_, rfl⟩ rfl rfl (by first | exact hvs | exact strs_push hvs) hlt (hsn.trans ?_); (simp [wStep, Md.open, wsL, *]; done))
          | (refine jw_end (st := .mks) F9 (by first | exact N9 | exact drop1 N9) rfl ⟨_, rfl⟩ ⟨_, rfl⟩ rfl rfl (by first | exact hvs | exact strs_push hvs) hlt (hsn.trans ?_); (simp [wStep, Md.open, wsL, *]; done))
          | (refine jw_end (st := .bare) F9 (by first | exact N9 | exact drop1 N9) rfl ⟨_, rfl⟩ ⟨_, rfl⟩ rfl rfl (by first | exact hvs | exact strs_push hvs) hlt (hsn.trans ?_); (simp [wStep, Md.open, wsL, *]; done))
          | fail "jw_end")
      | mks =>
        k_steps
        all_goals (
          rename Fr g1 _ _ _ => F9
          rename News g1 _ _ _ => N9
          try simp only [tx_beq, tx_bne, occ_tx, decide_eq_true_eq, decide_eq_false_iff_not, Decidable.not_not, List.cons.injEq, and_true, Bool.not_eq_true', Bool.not_eq_false'] at *
          try (rename c = 34 => h34; subst h34)
          try (rename c = 92 => h92; subst h92)
          first
          | (refine jw_end (st := .btw) F9 (by first | exact N9 | exact drop1 N9) rfl ⟨_, rfl⟩ ⟨_, rfl⟩ rfl rfl (by first | exact hvs | exact strs_push hvs) hlt (hsn.trans ?_); (simp [wStep, Md.open, wsL, *]; done))
          | (refine jw_end (st := .mks) F9 (by first | exact N9 | exact drop1 N9) rfl ⟨_, rfl⟩ ⟨_, rfl⟩ rfl rfl (by first | exact hvs | exact strs_push hvs) hlt (hsn.trans ?_); (simp [wStep, Md.open, wsL, *]; done))
          | (refine jw_end (st := .bare) F9 (by first | exact N9 | exact drop1 N9) rfl ⟨_, rfl⟩ ⟨_, rfl⟩ rfl rfl (by first | exact hvs | exact strs_push hvs) hlt (hsn.trans ?_); (simp [wStep, Md.open, wsL, *]; done))
          | fail "jw_end")
      | bare =>
        k_steps
        all_goals (
          rename Fr g1 _ _ _ => F9
          rename News g1 _ _ _ => N9
          try simp only [tx_beq, tx_bne, occ_tx, decide_eq_true_eq, decide_eq_false_iff_not, Decidable.not_not, List.cons.injEq, and_true, Bool.not_eq_true', Bool.not_eq_false'] at *
          try (rename c = 34 => h34; subst h34)
          try (rename c = 92 => h92; subst h92)
          first
          | (refine jw_end (st := .btw) F9 (by first | exact N9 | exact drop1 N9) rfl ⟨_, rfl⟩ ⟨_, rfl⟩ rfl rfl (by first | exact hvs | exact strs_push hvs) hlt (hsn.trans ?_); (simp [wStep, Md.open, wsL, *]; done))
          | (refine jw_end (st := .mks) F9 (by first | exact N9 | exact drop1 N9) rfl ⟨_, rfl⟩ ⟨_, rfl⟩ rfl rfl (by first | exact hvs | exact strs_push hvs) hlt (hsn.trans ?_); (simp [wStep, Md.open, wsL, *]; done))
          | (refine jw_end (st := .bare) F9 (by first | exact N9 | exact drop1 N9) rfl ⟨_, rfl⟩ ⟨_, rfl⟩ rfl rfl (by first | exact hvs | exact strs_push hvs) hlt (hsn.trans ?_); (simp [wStep, Md.open, wsL, *]; done))
          | fail "jw_end")
  · rintro m3 _ h3 tk3 zq31_4 F3 N3
    refine opq fun G9 hG9 => ?_
    obtain ⟨wl, vs, n, rfl, hlt, hvs, hm1, ⟨t4, hm2⟩, ⟨t5, hm3⟩, hm4, hm5⟩ := zq31_4
    refine hG9 ?_
    clear hG9
    replace F3 := Fr_eqm (m' := fun y => if y = Str.ofString "hidden" then some (.bool (wF sp x).hid) else if y = Str.ofString "state" then some (.str (mdS (wF sp x).st) t5)
      else if y = Str.ofString "word" then some (.str (tx (wF sp x).word) t4) else if y = Str.ofString "words" then some (.ref wl) else if y = Str.ofString "spelled" then some (.ref sd) else m3 y) F3 (fun y => by
      split <;> (try split) <;> (try split) <;> (try split) <;> (try split) <;> simp_all)
    dsimp only [envOf] at F3 N3
    dsimp only
    have hle := wF_le sp x ⟨[], [], .btw, false⟩ hspl
    change (wF sp x).word.length ≤ _ ∧ (wF sp x).words.length ≤ _ at hle
    have hvl : vs.size = (wF sp x).words.length := by rw [← Array.length_toList, hvs.length, List.length_map]
    clear F2 N2 lw hm1 hm2 hm3 hm4 hm5
    unfold lawWords at hret
    generalize ha : wF sp x = a at *
    refine opq fun G9 hG9 => ?_
    obtain ⟨ws, wd, st, hid⟩ := a
    refine hG9 ?_
    clear hG9
    dsimp only at *
    cases st with
    | btw =>
      k_steps
      exact hret _ _ _ _ (by k_asm) (by k_asm) ⟨_, _, _, rfl, rfl, hvs⟩
    | mks =>
      k_steps
      rename News h₀ L _ (_ :: _) => N9
      refine hret _ _ _ _ (by k_asm) (cb_drop (news := (_, _) :: news) N9 (fun p hp => (List.mem_cons.mp hp).elim (fun e => e ▸ List.mem_cons_self ..) fun h => .tail _ (.tail _ (.tail _ h)))) ⟨_, _, _, rfl, rfl, ?_⟩
      refine strs_app ?_
      assumption
    | bare =>
      k_steps
      rename News h₀ L _ (_ :: _) => N9
      refine hret _ _ _ _ (by k_asm) (cb_drop (news := (_, _) :: news) N9 (fun p hp => (List.mem_cons.mp hp).elim (fun e => e ▸ List.mem_cons_self ..) fun h => .tail _ (.tail _ (.tail _ h)))) ⟨_, _, _, rfl, rfl, ?_⟩
      refine strs_app ?_
      assumption
-- C3
/-- a dict of texts under one sign each, as a table tells -/
noncomputable def tabD (tab : Tab) : List (PyData × PyData) := tab.map fun p => (PyData.str (tx [p.1]), PyData.str (tx p.2))
noncomputable def TabObj (w : World) (o : Obj) (tab : Tab) : Prop := ∃ kvs, o.IsDictOf (strKind PySem.Challenge.rw_to0013_01.row.prog w) kvs ∧ FlatPairs PyData.str kvs (tabD tab)
theorem TabObj.of {w : World} {o : Obj} {kvs : List (Str × Value)} {D : List (PyData × PyData)} (tab : Tab) (h1 : o.IsDictOf (strKind PySem.Challenge.rw_to0013_01.row.prog w) kvs) (h2 : FlatPairs PyData.str kvs D) (e : D = tabD tab) : TabObj w o tab := ⟨kvs, h1, e ▸ h2⟩
noncomputable def NotCell (o : Obj) : Prop := ∀ v, o.data ≠ .cell v
theorem TabObj.notCell {w : World} {o : Obj} {tab : Tab} (h : TabObj w o tab) : NotCell o := fun v e => by
  obtain ⟨_, ⟨es, ep, _, hd, _⟩, _⟩ := h
  rw [hd] at e; cases e
theorem News.ne_cell {h₀ h : Heap} {L c : Addr} {oc : Obj} {v : Option Value} {news : Led} (N : News h₀ L h news) (hc : (c, oc) ∈ news) (hv : oc.data = .cell v) : ∀ p ∈ news, NotCell p.2 → p.1 ≠ c := fun p hp hn e => by
  have h1 := (N _ hc).1
  have h2 := (N _ hp).1
  rw [e] at h2
  rw [h1] at h2
  exact hn v (by rw [← Option.some.inj h2]; exact hv)
abbrev tupObj (vs : List Value) : Obj := { cls := .type "tuple", data := .seq vs.toArray }
/-- the five hands -/
noncomputable def handOf : Int → Option (Addr × Tab)
  | 0 => some (77, tab_cdata)
  | 1 => some (84, tab_attrib)
  | 2 => some (91, tab_html)
  | 3 => some (98, tab_cc14n)
  | 4 => some (105, tab_ac14n)
  | _ => none
inductive HandsAre (w : World) (nx : Led) : List Value → List Int → Prop
  | nil : HandsAre w nx [] []
  | cons {tp f d : Addr} {od : Obj} {tab : Tab} {k : Int} {vs : List Value} {ks : List Int} : handOf k = some (f, tab) → (tp, tupObj [.ref f, .ref d]) ∈ nx → (d, od) ∈ nx → TabObj w od tab → (d == sysModules) = false → HandsAre w nx vs ks → HandsAre w nx (.ref tp :: vs) (k :: ks)
noncomputable def HandAt (w : World) (ex : Led) (v : Option Value) (k : Int) : Prop :=
  ∃ tp f d od tab, v = some (.ref tp) ∧ handOf k = some (f, tab) ∧ (tp, tupObj [.ref f, .ref d]) ∈ ex ∧ (d, od) ∈ ex ∧ TabObj w od tab ∧ (d == sysModules) = false
theorem hands_abs {w : World} {g h : Heap} {L l c t0 t1 t2 t3 t4 d0 d1 d2 d3 d4 : Addr} {o0 o1 o2 o3 o4 oc : Obj} {news : Led}
    (N : News g L h ((l, listOf #[.ref t0, .ref t1, .ref t2, .ref t3, .ref t4] 0) :: (t4, tupObj [.ref 105, .ref d4]) :: (d4, o4) :: (t3, tupObj [.ref 98, .ref d3]) :: (d3, o3) ::
      (t2, tupObj [.ref 91, .ref d2]) :: (d2, o2) :: (t1, tupObj [.ref 84, .ref d1]) :: (d1, o1) :: (t0, tupObj [.ref 77, .ref d0]) :: (d0, o0) :: (c, oc) :: news))
    (h4 : TabObj w o4 tab_ac14n) (h3 : TabObj w o3 tab_cc14n) (h2 : TabObj w o2 tab_html) (h1 : TabObj w o1 tab_attrib) (h0 : TabObj w o0 tab_cdata)
    (s4 : (d4 == sysModules) = false) (s3 : (d3 == sysModules) = false) (s2 : (d2 == sysModules) = false) (s1 : (d1 == sysModules) = false) (s0 : (d0 == sysModules) = false) :
    ∃ (ex G : Led) (items : Array Value), News g L h G ∧ (l, listOf items 0) ∈ G ∧ (c, oc) ∈ G ∧ (∀ p ∈ ex ++ news, p ∈ G) ∧ (∀ k : Int, 0 ≤ k → k < 5 → HandAt w ex items[k.toNat]? k) ∧ ∀ p ∈ ex, NotCell p.2 := by
  refine ⟨[(t4, tupObj [.ref 105, .ref d4]), (d4, o4), (t3, tupObj [.ref 98, .ref d3]), (d3, o3), (t2, tupObj [.ref 91, .ref d2]), (d2, o2), (t1, tupObj [.ref 84, .ref d1]), (d1, o1), (t0, tupObj [.ref 77, .ref d0]), (d0, o0)], _, #[.ref t0, .ref t1, .ref t2, .ref t3, .ref t4], N, by k_mem, by k_mem, ?_, ?_, ?_⟩
  · intro p hp
    simp only [List.cons_append, List.nil_append] at hp
    rcases List.mem_cons.mp hp with rfl | hp
    · k_mem
    rcases List.mem_cons.mp hp with rfl | hp
    · k_mem
    rcases List.mem_cons.mp hp with rfl | hp
    · k_mem
    rcases List.mem_cons.mp hp with rfl | hp
    · k_mem
    rcases List.mem_cons.mp hp with rfl | hp
    · k_mem
    rcases List.mem_cons.mp hp with rfl | hp
    · k_mem
    rcases List.mem_cons.mp hp with rfl | hp
    · k_mem
    rcases List.mem_cons.mp hp with rfl | hp
    · k_mem
    rcases List.mem_cons.mp hp with rfl | hp
    · k_mem
    rcases List.mem_cons.mp hp with rfl | hp
    · k_mem
    k_mem
  · intro k hk0 hk5
    have : k = 0 ∨ k = 1 ∨ k = 2 ∨ k = 3 ∨ k = 4 := by omega
    rcases this with rfl | rfl | rfl | rfl | rfl
    · exact ⟨t0, 77, d0, o0, tab_cdata, rfl, rfl, by k_mem, by k_mem, h0, s0⟩
    · exact ⟨t1, 84, d1, o1, tab_attrib, rfl, rfl, by k_mem, by k_mem, h1, s1⟩
    · exact ⟨t2, 91, d2, o2, tab_html, rfl, rfl, by k_mem, by k_mem, h2, s2⟩
    · exact ⟨t3, 98, d3, o3, tab_cc14n, rfl, rfl, by k_mem, by k_mem, h3, s3⟩
    · exact ⟨t4, 105, d4, o4, tab_ac14n, rfl, rfl, by k_mem, by k_mem, h4, s4⟩
  · intro p hp
    rcases List.mem_cons.mp hp with rfl | hp
    · exact fun v e => by cases e
    rcases List.mem_cons.mp hp with rfl | hp
    · exact h4.notCell
    rcases List.mem_cons.mp hp with rfl | hp
    · exact fun v e => by cases e
    rcases List.mem_cons.mp hp with rfl | hp
    · exact h3.notCell
    rcases List.mem_cons.mp hp with rfl | hp
    · exact fun v e => by cases e
    rcases List.mem_cons.mp hp with rfl | hp
    · exact h2.notCell
    rcases List.mem_cons.mp hp with rfl | hp
    · exact fun v e => by cases e
    rcases List.mem_cons.mp hp with rfl | hp
    · exact h1.notCell
    rcases List.mem_cons.mp hp with rfl | hp
    · exact fun v e => by cases e
    rcases List.mem_cons.mp hp with rfl | hp
    · exact h0.notCell
    cases hp
theorem HandsAre.snoc {w : World} {ex : Led} {v : Value} {k : Int} (h : HandAt w ex (some v) k) : ∀ {vs : List Value} {ks : List Int}, HandsAre w ex vs ks → HandsAre w ex (vs ++ [v]) (ks ++ [k]) := by
  intro vs ks hh
  induction hh with
  | nil =>
    obtain ⟨tp, f, d, od, tab, e, h1, h2, h3, h4, h5⟩ := h
    cases e
    exact .cons h1 h2 h3 h4 h5 .nil
  | cons a b c d e _ ih => exact .cons a b c d e ih
set_option maxRecDepth 100000 in
set_option maxHeartbeats 8000000 in
theorem c124 (w : World) (news : Led) (kl : Addr) (kvs : List Value) (ks : List Int) (n : Nat) (hmem : (kl, listOf kvs.toArray n) ∈ news) (hks : IntsAre kvs ks) (hr : ∀ k ∈ ks, 0 ≤ k ∧ k < 5) (hln : ks.length ≤ 3) :
    Con w 124 [.ref kl] news 2 16 (fun r nx => ∃ hl vs n ex, r = .ref hl ∧ nx = (hl, listOf vs n) :: (ex ++ news) ∧ HandsAre w ex vs.toList ks ∧ ∀ p ∈ ex, NotCell p.2) := by
  unfold Con
  k_fill
  intro p loose mean mg mb dp un gd cn cs a ccd cl outer A₀ base h₀ L m s Q E B F X N T hk hd hu hcode hret
  refine wpAny_call ?_
  k_dflt (refine' code_defC ?k1 ?k2 ?k3 ?k4 ?k5 ?kA ?kF ?kK ?k6 ?k7 ?k8 ?k9 ?kB ?kD ?_ ?c2 ?c3 ?c4; (case kA => exact rfl); (case kF => exact rfl); (case kK => assumption); (case k1 => k_asm); (case k2 => k_asm); (case k3 => k_asm); (case k4 => k_asm); (case k5 => k_asm); (case k6 => k_is); (case k7 => k_is); (case k8 => ktr_room); (case k9 => exact BindsTo.of_eq rfl); (case kB => exact rfl); (case kD => decide +kernel); (case c2 => exact rfl); (case c3 => exact rfl); (case c4 => exact rfl); k_whole)
  intro g1 L1 h1 tk1 cells1 FG1 F1 N1 Y1 B1 X1 T1 l1
  k_cells Y1
  simp only [List.cons_append, List.nil_append] at N1
  try dsimp only
  (repeat' ((fail_if_success (with_reducible show wpAny _ _ (PySem.eval (PySem.Expr.Dict _ _ _) _) _ _ _)); walk1))
  (try dsimp only)
  with_reducible refine opqT ?_
  intro tk9
  walk1
  (repeat' ((fail_if_success (with_reducible show wpAny _ _ (PySem.eval (PySem.Expr.Dict _ _ _) _) _ _ _)); walk1))
  (try dsimp only)
  with_reducible refine opqT ?_
  intro tk9
  walk1
  (repeat' ((fail_if_success (with_reducible show wpAny _ _ (PySem.eval (PySem.Expr.Dict _ _ _) _) _ _ _)); walk1))
  (try dsimp only)
  with_reducible refine opqT ?_
  intro tk9
  walk1
  (repeat' ((fail_if_success (with_reducible show wpAny _ _ (PySem.eval (PySem.Expr.Dict _ _ _) _) _ _ _)); walk1))
  (try dsimp only)
  with_reducible refine opqT ?_
  intro tk9
  walk1
  (repeat' ((fail_if_success (with_reducible show wpAny _ _ (PySem.eval (PySem.Expr.Dict _ _ _) _) _ _ _)); walk1))
  (try dsimp only)
  with_reducible refine opqT ?_
  intro tk9
  walk1
  k_steps
  (rename Obj.IsDictOf _ _ _ => hA5; rename FlatPairs _ _ _ => hB5; replace hA5 := TabObj.of tab_ac14n hA5 hB5 (by with_unfolding_all rfl); clear hB5)
  (rename Obj.IsDictOf _ _ _ => hA4; rename FlatPairs _ _ _ => hB4; replace hA4 := TabObj.of tab_cc14n hA4 hB4 (by with_unfolding_all rfl); clear hB4)
  (rename Obj.IsDictOf _ _ _ => hA3; rename FlatPairs _ _ _ => hB3; replace hA3 := TabObj.of tab_html hA3 hB3 (by with_unfolding_all rfl); clear hB3)
  (rename Obj.IsDictOf _ _ _ => hA2; rename FlatPairs _ _ _ => hB2; replace hA2 := TabObj.of tab_attrib hA2 hB2 (by with_unfolding_all rfl); clear hB2)
  (rename Obj.IsDictOf _ _ _ => hA1; rename FlatPairs _ _ _ => hB1; replace hA1 := TabObj.of tab_cdata hA1 hB1 (by with_unfolding_all rfl); clear hB1)
  have lc : ∀ p ∈ news, p.1 ≠ L1 + 1 := fun p hp => Nat.ne_of_lt (Nat.lt_succ_of_lt (l1 p hp))
  (repeat' ((fail_if_success (with_reducible show wpAny _ _ (PySem.exec (PySem.Stmt.For _ _ _ _ _) _) _ _ _)); (fail_if_success (with_reducible show wpAny _ _ (PySem.eval (PySem.Expr.ListComp _ _ _ _) _) _ _ _)); (first | (k_unfold; (try dsimp only)) | (k_end; wrow_close) | walk1 | (dsimp only; walk1) | (leave1; try dsimp only) )))
  rename News g1 L1 _ _ => N9
  have zq33 := hands_abs N9 hA5 hA4 hA3 hA2 hA1 (by assumption) (by assumption) (by assumption) (by assumption) (by assumption)
  refine opq fun G9 hG9 => ?_
  obtain ⟨ex, G, items, N2, hmi, hmc, hmx, hH, hnc⟩ := zq33
  refine hG9 ?_
  clear hG9
  have hmk : (kl, listOf kvs.toArray n) ∈ G := hmx _ (List.mem_append_right _ hmem)
  have hklen : kvs.length = ks.length := hks.length
  clear N9 hA5 hA4 hA3 hA2 hA1
  k_dflt (refine LCg.ListComp_U (F₀ := by k_asm) (by with_unfolding_all rfl) (by decide) (by rfl) (by decide) (by rfl) ?_)
  walk1
  k_dflt (refine LCg.CompSrc.ledger (k := n) rfl (by k_asm) N2 hmk (by (rw [sizeLine_eq, List.size_toArray]; omega)) (fun gg => ?_))
  refine compRest_inv kvs.toArray.size (fun i ys nw => nw = G ∧ HandsAre w ex ys (ks.take i)) ?_ ?_ _ 0 [] G (by omega) ⟨rfl, by simpa using HandsAre.nil⟩
  · rintro i ys _ v I oI C oC D m₂ h tk E' hi ⟨rfl, hys⟩ hP hC hx FF NN off ne
    have hi' : i < ks.length := by rw [← hklen]; rw [List.size_toArray] at hi; exact hi
    have hki : ks[i]? = some ks[i] := List.getElem?_eq_getElem hi'
    obtain ⟨t9, hx9⟩ := hks.get i ks[i] hki
    have hv : v = .int ks[i] t9 := by
      have hP' : kvs[i]? = some v := by rw [List.getElem?_toArray] at hP; exact hP
      rw [hx9] at hP'; exact (Option.some.inj hP').symm
    subst hv
    have hkr := hr ks[i] (List.getElem_mem hi')
    have hat := hH ks[i] hkr.1 hkr.2
    have hat2 := hat
    refine opq fun G9 hG9 => ?_
    obtain ⟨tp, f, d, od, tab, hiv, -⟩ := hat2
    refine hG9 ?_
    clear hG9
    rw [hiv] at hat
    have hs : ks.take (i + 1) = ks.take i ++ [ks[i]] := take_snoc hki
    walk1
    walk1
    walk1
    refine item_at (News.isList NN (List.mem_cons_of_mem _ (List.mem_cons_of_mem _ (List.mem_cons_of_mem _ hmi)))) hkr.1 (by omega) hiv ?_
    refine LCg.CompEnd.intro FF NN _ (fun p hp => hp) off (.inr ⟨_, hmk, rfl, n, rfl⟩) ⟨rfl, ?_⟩
    rw [hs]
    exact HandsAre.snoc hat hys
  · rintro ys _ ⟨rfl, hys⟩
    intro D h9 tk9 F9 N9 o9
    rw [List.size_toArray, hklen, List.take_length] at hys
    k_steps
    rename News h₀ L _ _ => N8
    refine hret _ _ _ _ (by k_asm) (cb_drop (news := (D, LCg.lst ys) :: (ex ++ news)) N8 (fun p hp => ?_)) ⟨_, _, _, _, rfl, rfl, ?_, hnc⟩
    · rcases List.mem_cons.mp hp with rfl | hp
      · exact List.mem_cons_self ..
      · exact List.mem_cons_of_mem _ (hmx p hp)
    · simpa using hys
-- C5
theorem Con.use {w : World} {f : Addr} {vs : List Value} {news : Led} {dd uu : Nat} {Post : Value → Led → Prop} (C : Con w f vs news dd uu Post)
    {p : Program} {loose : List Str} {mean : ExcName → Option Value} {mg mb : Str → Option Value}
    {dp un : Nat} {gd : Option (List Code)} {cn : Str} {cs : Scope} {a : Addr} {ccd : Value} {cl : List (Str × Addr)} {outer : List Env} {A₀ : Around} {base h₀ : Heap} {L : Addr} {m : Str → Option Value} {s : Shared}
    {Q E : Value → Shared → Prop}
    (B : Below A₀ base outer h₀) (F : Fr h₀ L s.heap m) (X : (Mine.hd.heap_39 w.params).In h₀) (N : News h₀ L s.heap news) (T : Top p loose mean mg mb h₀) (hk : cs.kind = .function) (hd : dp + dd < recursionLimit) (hu : un + uu < cLine) (hcode : CodeHd base 111 107)
    (hret : ∀ r nx h' tk', Fr h₀ L h' m → News h₀ L h' nx → Post r nx → Q r { s with heap := h', toks := tk' }) :
    wpAny (model PySem.Challenge.rw_to0013_01.row.prog w) (ktrTop dp un gd cn cs L a ccd cl outer) (call (.ref f) vs) Q E s :=
  C p loose mean mg mb dp un gd cn cs a ccd cl outer A₀ base h₀ L m s Q E B F X N T hk hd hu hcode hret
noncomputable def tabOf (k : Int) : Tab := match handOf k with
  | some (_, t) => t
  | none => []
noncomputable def encs : List Int → List Nat → List Nat
  | [], x => x
  | k :: ks, x => encs ks (enc (tabOf k) x)
theorem handOf_lt {k : Int} {f : Addr} {tab : Tab} (h : handOf k = some (f, tab)) : 0 ≤ k ∧ k < 5 := by
  unfold handOf at h
  split at h <;> first | omega | cases h
theorem tabOf_le (k : Int) : (tabOf k).all (fun p => decide (p.2.length ≤ 6)) = true := by
  unfold tabOf handOf
  split <;> (rename_i h; split at h) <;> first | (cases h; decide) | rfl | cases h
theorem call_hand {k : Int} {f : Addr} {tab : Tab} (h : handOf k = some (f, tab)) (w : World) (news : Led) (x : List Nat) (t : Tok) (hlen : x.length ≤ 100000) :
    Con w f [.str (tx x) t] news 1 8 (fun r nx => nx = news ∧ ∃ t', r = .str (tx (enc (tabOf k) x)) t') := by
  have : k = 0 ∨ k = 1 ∨ k = 2 ∨ k = 3 ∨ k = 4 := by have := handOf_lt h; omega
  rcases this with rfl | rfl | rfl | rfl | rfl <;> cases h
  · exact c77 w news x t hlen
  · exact c84 w news x t hlen
  · exact c91 w news x t hlen
  · exact c98 w news x t hlen
  · exact c105 w news x t hlen
theorem handOf_addr {k : Int} {f : Addr} {tab : Tab} (h : handOf k = some (f, tab)) : f = 77 ∨ f = 84 ∨ f = 91 ∨ f = 98 ∨ f = 105 := by
  unfold handOf at h
  split at h <;> cases h <;> simp
theorem encs_snoc (k : Int) : ∀ (l : List Int) (x : List Nat), encs (l ++ [k]) x = enc (tabOf k) (encs l x)
  | [], _ => rfl
  | _ :: l, _ => encs_snoc k l _
theorem encs_le : ∀ (l : List Int) (x : List Nat), (encs l x).length ≤ 6 ^ l.length * x.length
  | [], x => by simp [encs]
  | k :: l, x => by
    have h1 := encs_le l (enc (tabOf k) x)
    have h2 := enc_le 6 (by decide) (tabOf k) (tabOf_le k) x
    show (encs l (enc (tabOf k) x)).length ≤ _
    rw [List.length_cons, Nat.pow_succ, Nat.mul_assoc]
    exact Nat.le_trans h1 (Nat.mul_le_mul_left _ h2)
theorem encs_le3 (l : List Int) (x : List Nat) (hl : l.length ≤ 3) (hx : x.length ≤ 100) : (encs l x).length ≤ 100000 := by
  have h1 := encs_le l x
  have h2 : 6 ^ l.length ≤ 6 ^ 3 := Nat.pow_le_pow_right (by decide) hl
  have h3 : 6 ^ l.length * x.length ≤ 6 ^ 3 * 100 := Nat.mul_le_mul h2 hx
  omega
theorem encs_le4 (l : List Int) (x : List Nat) (hl : l.length ≤ 3) (hx : x.length ≤ 400) : (encs l x).length ≤ 100000 := by
  have h1 := encs_le l x
  have h2 : 6 ^ l.length ≤ 6 ^ 3 := Nat.pow_le_pow_right (by decide) hl
  have h3 : 6 ^ l.length * x.length ≤ 6 ^ 3 * 400 := Nat.mul_le_mul h2 hx
  omega
theorem HandsAre.at {w : World} {nx : Led} : ∀ {vs : List Value} {ks : List Int}, HandsAre w nx vs ks → ∀ {pre : List Value} {v : Value} {post : List Value}, vs = pre ++ v :: post →
    ∃ (k : Int) (tp f d : Addr) (od : Obj) (tab : Tab), ks[pre.length]? = some k ∧ v = .ref tp ∧ handOf k = some (f, tab) ∧ (tp, tupObj [.ref f, .ref d]) ∈ nx ∧ (d, od) ∈ nx ∧ TabObj w od tab ∧ (d == sysModules) = false := by
  intro vs ks h
  induction h with
  | nil => intro pre v post e; cases pre <;> cases e
  | cons a b c z e1 _ ih =>
    intro pre v post e
    cases pre with
    | nil => cases e; exact ⟨_, _, _, _, _, _, rfl, rfl, a, b, c, z, e1⟩
    | cons p pre => cases e; exact ih rfl
theorem HandsAre.length {w : World} {nx : Led} : ∀ {vs : List Value} {ks : List Int}, HandsAre w nx vs ks → vs.length = ks.length
  | _, _, .nil => rfl
  | _, _, .cons _ _ _ _ _ r => congrArg (· + 1) r.length
set_option maxRecDepth 100000 in
set_option maxHeartbeats 8000000 in
theorem c136 (w : World) (news : Led) (x : List Nat) (t : Tok) (hl : Addr) (vs : List Value) (n : Nat) (ks : List Int) (hmem : (hl, listOf vs.toArray n) ∈ news) (hh : HandsAre w news vs ks) (hln : ks.length ≤ 3) (hlen : x.length ≤ 400) :
    Con w 136 [.str (tx x) t, .ref hl] news 2 16 (fun r nx => nx = news ∧ ∃ t', r = .str (tx (encs ks x)) t') := by
  unfold Con
  k_fill
  intro p loose mean mg mb dp un gd cn cs a ccd cl outer A₀ base h₀ L m s Q E B F X N T hk hd hu hcode hret
  refine wpAny_call ?_
  k_dflt (refine' code_def ?k1 ?k2 ?k3 ?k4 ?k5 ?kA ?kF ?kK ?k6 ?k7 ?k8 ?k9 ?kB ?_ ?c2 ?c3 ?c4 ?c5; (case kA => exact rfl); (case kF => exact rfl); (case kK => assumption); (case k1 => k_asm); (case k2 => k_asm); (case k3 => k_asm); (case k4 => k_asm); (case k5 => k_asm); (case k6 => k_is); (case k7 => k_is); (case k8 => ktr_room); (case k9 => exact BindsTo.of_eq rfl); (case c5 => decide); (case kB => exact locs rfl); (case c2 => exact rfl); (case c3 => exact rfl); (case c4 => exact rfl); k_whole)
  intro g1 L1 h1 FG1 F1 N1 B1 X1 T1
  try dsimp only
  (repeat' ((fail_if_success (with_reducible show wpAny _ _ (PySem.exec (PySem.Stmt.For _ _ _ _ _) _) _ _ _)); (fail_if_success (with_reducible show wpAny _ _ (PySem.eval (PySem.Expr.ListComp _ _ _ _) _) _ _ _)); (first | (k_unfold; (try dsimp only)) | (k_end; wrow_close) | walk1 | (dsimp only; walk1) | (leave1; try dsimp only) )))
  rename Fr g1 _ _ _ => F2
  rename News g1 _ _ _ => N2
  k_dflt (refine' For_turns F2 ?_)
  walk1
  k_dflt (refine' iter_listT (J := fun pre m' nx => nx = news ∧ ∃ t1, m' (Str.ofString "page") = some (.str (tx (encs (ks.take pre.length) x)) t1)) ?hh hmem F2 N2 ?hj ?_ ?_; (case hh => exact rfl); (case hj => exact ⟨rfl, _, rfl⟩))
  · rintro pre v post m3 _ h3 tk3 own hvs - ⟨rfl, t4, hm1⟩ - F3 N3
    have zq35 := hh.at hvs
    refine opq fun G9 hG9 => ?_
    obtain ⟨k, tp, f, d, od, tab, hk1, rfl, hof, hm2, hm3, hto, hsm⟩ := zq35
    refine hG9 ?_
    clear hG9
    have hs : ks.take (pre.length + 1) = ks.take pre.length ++ [k] := take_snoc hk1
    replace F3 := Fr_eqm (m' := fun y => if y = Str.ofString "page" then some (.str (tx (encs (ks.take pre.length) x)) t4) else m3 y) F3 (fun y => by split <;> simp_all)
    dsimp only [envOf] at F3 N3
    dsimp only
    have hle := encs_le4 (ks.take pre.length) x (Nat.le_trans (List.length_take_le' ..) hln) hlen
    refine unpackN_ F3 N3 (News.isTup N3 (List.mem_append_left _ hm2)) rfl rfl rfl (fun h4 F4 N4 => ?_)
    clear F2 N2 F3 N3
    have hkeep : keepIn (Mine.hd.heap_39 w.params) (.ref f) = true := by
      rcases handOf_addr hof with e | e | e | e | e <;> rw [e] <;> k_is
    k_steps
    refine callWith_K X1 hkeep ?_
    k_steps
    k_dflt (refine' Con.use (call_hand hof w _ _ _ hle) ?k1 ?k2 ?k3 ?k4 ?k5 ?kK ?kd ?ku ?kc ?_; ((case k1 => k_asm); (case k2 => k_asm); (case k3 => k_asm); (case k4 => k_asm); (case k5 => k_asm); (case kK => first | exact rfl | assumption); (case kd => ktr_room); (case ku => ktr_units); (case kc => assumption)))
    rintro r5 nx5 h5 tk5 F5 N5 ⟨rfl, t5, rfl⟩
    k_steps
    refine InvEndN.intro (by k_asm) (by k_asm) ⟨rfl, ?_⟩ rfl (fun p hp => List.mem_append_left _ hp) (fun p hp => List.mem_append_right _ hp)
    rw [List.length_append, List.length_singleton, hs, encs_snoc]
    exact ⟨_, rfl⟩
  · rintro m3 _ h3 tk3 ⟨rfl, t4, hm1⟩ F3 N3
    replace F3 := Fr_eqm (m' := fun y => if y = Str.ofString "page" then some (.str (tx (encs ks x)) t4) else m3 y) F3 (fun y => by rw [hh.length, List.take_length] at hm1; split <;> simp_all)
    dsimp only [envOf] at F3 N3
    dsimp only
    clear F2 N2
    k_steps
    exact hret _ _ _ _ (by k_asm) (by k_asm) ⟨rfl, _, rfl⟩
-- C6
theorem join_eq : ∀ ls : List (List Nat), Txt.join (tx []) (ls.map tx) = tx ls.flatten := by
  intro ls
  show Builtin.Str.glued (tx []) (ls.map tx) = _
  rw [StrLaws.glued_eq_join]
  induction ls with
  | nil => rfl
  | cons a r ih =>
    cases r with
    | nil => simp [Str.join]
    | cons b r =>
      show tx a ++ tx [] ++ Str.join (tx []) ((b :: r).map tx) = _
      rw [ih, tx_app, tx_app, List.append_nil]
      rfl
section
variable {prog : Program} {w : World} {A : Around} {E : Value → Shared → Prop} {s : Shared}
theorem join_tx {D : Addr} {items : Array Value} {ls : List (List Nat)} {t : Tok} {Q : Value → Shared → Prop} (hl : s.heap.IsList D items) (hi : StrsAre items.toList (ls.map tx)) (hb : ls.flatten.length + ls.length * 64 ≤ 16777216)
    (h : ∀ t' k, Q (.str (tx ls.flatten) t') { s with toks := k }) : wpAny (model prog w) A (call (.builtin "str.join") [.str (tx []) t, .ref D]) Q E s := by
  refine join_listC hl hi (by simp [Str.length]) ?_ (fun t' k => by rw [join_eq]; exact h t' k)
  have e : ((ls.map tx).map (·.length)).sum = ls.flatten.length := by
    rw [List.map_map, List.length_flatten]
    exact congrArg List.sum (List.map_congr_left fun l _ => tx_len l)
  rw [e, List.length_map]
  exact hb
theorem lookup_tabD (c : Nat) : ∀ tab : Tab, (lookup (.str (tx [c])) (tabD tab)).getD (.str (tx [c])) = .str (tx (spell tab c))
  | [] => rfl
  | (k, r) :: rest => by
    have ih := lookup_tabD c rest
    show (lookup _ ((PyData.str (tx [k]), PyData.str (tx r)) :: tabD rest)).getD _ = .str (tx (if c = k then r else spell rest c))
    unfold Spec.lookup
    by_cases h : c = k
    · subst h
      rw [if_pos (by simp [Spec.same]), if_pos rfl]
      rfl
    · rw [if_neg (by simp [Spec.same]; omega), if_neg h]
      exact ih
theorem get_tab {d : Addr} {tab : Tab} {c : Nat} {t u : Tok} {Q : Value → Shared → Prop} (T : StrTab PySem.Challenge.rw_to0013_01.row.prog w s.heap d (tabD tab))
    (h : ∀ t', Q (.str (tx (spell tab c)) t') { s with toks := s.toks + 1 }) :
    wpAny (model PySem.Challenge.rw_to0013_01.row.prog w) A (call (.builtin "dict.get") [.ref d, .str (tx [c]) t, .str (tx [c]) u]) Q E s := by
  refine call_get2_strTab T (Flat.str _ _) (fun v hv => ?_)
  rw [lookup_tabD] at hv
  obtain ⟨t', rfl⟩ := Flat.str_inv hv
  exact h t'
theorem TabObj.at {d : Addr} {o : Obj} {tab : Tab} (h : TabObj w o tab) (ho : s.heap.get? d = some o) (hs : (d == sysModules) = false) : StrTab PySem.Challenge.rw_to0013_01.row.prog w s.heap d (tabD tab) := by
  obtain ⟨kvs, h1, h2⟩ := h
  exact TabAt.ofObj hs ho h1 h2
end
theorem enc_flat (tab : Tab) (x : List Nat) : (x.map (spell tab)).flatten = enc tab x := by unfold enc; rw [List.flatMap_def]
section
set_option maxRecDepth 100000 in
set_option maxHeartbeats 8000000 in
theorem c129 (w : World) (news : Led) (x : List Nat) (t : Tok) (hl : Addr) (vs : List Value) (n : Nat) (ks : List Int) (hmem : (hl, listOf vs.toArray n) ∈ news) (hh : HandsAre w news vs ks) (hln : ks.length ≤ 3) (hlen : x.length ≤ 100) :
    Con w 129 [.str (tx x) t, .ref hl] news 2 16 (fun r nx => nx = news ∧ ∃ t', r = .str (tx (encs ks x)) t') := by
  unfold Con
  k_fill
  intro p loose mean mg mb dp un gd cn cs a ccd cl outer A₀ base h₀ L m s Q E B F X N T hk hd hu hcode hret
  refine wpAny_call ?_
  k_dflt (refine' code_defC ?k1 ?k2 ?k3 ?k4 ?k5 ?kA ?kF ?kK ?k6 ?k7 ?k8 ?k9 ?kB ?kD ?_ ?c2 ?c3 ?c4; (case kA => exact rfl); (case kF => exact rfl); (case kK => assumption); (case k1 => k_asm); (case k2 => k_asm); (case k3 => k_asm); (case k4 => k_asm); (case k5 => k_asm); (case k6 => k_is); (case k7 => k_is); (case k8 => ktr_room); (case k9 => exact BindsTo.of_eq rfl); (case kB => exact rfl); (case kD => decide +kernel); (case c2 => exact rfl); (case c3 => exact rfl); (case c4 => exact rfl); k_whole)
  intro g1 L1 h1 tk1 cells1 FG1 F1 N1 Y1 B1 X1 T1 l1
  k_cells Y1
  simp only [List.cons_append, List.nil_append] at N1
  simp only [show Str.ofString "" = tx [] from by decide +kernel]
  try dsimp only
  (repeat' ((fail_if_success (with_reducible show wpAny _ _ (PySem.exec (PySem.Stmt.For _ _ _ _ _) _) _ _ _)); (fail_if_success (with_reducible show wpAny _ _ (PySem.eval (PySem.Expr.ListComp _ _ _ _) _) _ _ _)); (first | (k_unfold; (try dsimp only)) | (k_end; wrow_close) | walk1 | (dsimp only; walk1) | (leave1; try dsimp only) )))
  rename Fr g1 _ _ _ => F2
  rename News g1 _ _ _ => N2
  have hnl : ∀ p ∈ news, p.1 ≠ L1 + 1 := fun p hp => Nat.ne_of_lt (Nat.lt_succ_of_lt (l1 p hp))
  k_dflt (refine' For_turns F2 ?_)
  walk1
  k_dflt (refine' iter_listT (J := fun pre m' nx => ∃ oc v, nx = (L1 + 1, oc) :: news ∧ oc.data = .cell v ∧ ∃ t1, m' (Str.ofString "spelled") = some (.str (tx (encs (ks.take pre.length) x)) t1)) ?hh (List.mem_cons_of_mem _ hmem) F2 N2 ?hj ?_ ?_; (case hh => exact rfl); (case hj => exact ⟨_, _, rfl, by assumption, _, rfl⟩))
  · rintro pre v post m3 _ h3 tk3 own hvs - zq36_10 hown F3 N3
    refine opq fun G9 hG9 => ?_
    obtain ⟨oc, vc, rfl, hoc, t4, hm1⟩ := zq36_10
    refine hG9 ?_
    clear hG9
    have zq37 := hh.at hvs
    refine opq fun G9 hG9 => ?_
    obtain ⟨k, tp, f, d, od, tab, hk1, rfl, hof, hm2, hm3, hto, hsm⟩ := zq37
    refine hG9 ?_
    clear hG9
    have hs : ks.take (pre.length + 1) = ks.take pre.length ++ [k] := take_snoc hk1
    replace F3 := Fr_eqm (m' := fun y => if y = Str.ofString "spelled" then some (.str (tx (encs (ks.take pre.length) x)) t4) else m3 y) F3 (fun y => by split <;> simp_all)
    dsimp only [envOfC] at F3 N3
    dsimp only
    have hle := encs_le3 (ks.take pre.length) x (Nat.le_trans (List.length_take_le' ..) hln) hlen
    have hall : ∀ p ∈ news ++ own, p.1 ≠ L1 + 1 := fun p hp => (List.mem_append.mp hp).elim (hnl p) fun h => (hown p h).elim (fun e => e ▸ hnl _ hmem) fun e q => e _ (List.mem_cons_self ..) q.symm
    refine unpackN_ F3 N3 (News.isTup N3 (List.mem_append_left _ (List.mem_cons_of_mem _ hm2))) rfl rfl rfl (fun h4 F4 N4 => ?_)
    replace N4 : News g1 L1 h4 ((L1 + 1, oc) :: (news ++ own)) := N4
    clear F2 N2 F3 N3
    have htab : tabOf k = tab := by unfold tabOf; rw [hof]
    subst htab
    obtain ⟨kvs, hd1, hd2⟩ := hto
    have hm3' : (d, od) ∈ news ++ own := List.mem_append_left _ hm3
    (repeat' ((fail_if_success (with_reducible show wpAny _ _ (PySem.exec (PySem.Stmt.For _ _ _ _ _) _) _ _ _)); (fail_if_success (with_reducible show wpAny _ _ (PySem.eval (PySem.Expr.ListComp _ _ _ _) _) _ _ _)); (first | (k_unfold; (try dsimp only)) | (k_end; wrow_close) | walk1 | (dsimp only; walk1) | (leave1; try dsimp only) )))
    k_dflt (refine ListComp_S (F₀ := by k_asm) (by with_unfolding_all rfl) (by decide) (by rfl) (by decide) (by rfl) ?_)
    walk1
    refine ⟨_, _, _, rfl, rfl, by k_asm, by k_asm, by omega, ?_⟩
    rintro _ ⟨gg, rfl⟩
    refine compRest_inv _ (fun i ys nw => (∃ oc, nw = (L1 + 1, oc) :: (news ++ own) ∧ oc.data = .cell (some (.ref d))) ∧ StrsAre ys (((encs (ks.take pre.length) x).take i).map fun c => tx (spell (tabOf k) c))) ?_ ?_ _ 0 [] _ (Nat.zero_add _) ⟨⟨_, rfl, by assumption⟩, .nil⟩
    · rintro i ys _ v I oI C oC D m₂ h tk E' hi zq38_14 zq38_15 hC hx FF NN off ne
      refine opq fun G9 hG9 => ?_
      obtain ⟨⟨oc, rfl, hoc⟩, hys⟩ := zq38_14
      obtain ⟨c, t5, hc, rfl⟩ := zq38_15
      refine hG9 ?_
      clear hG9
      have hs5 := take_snoc hc
      (repeat' ((fail_if_success (with_reducible show wpAny _ _ (call (Value.builtin _) _) _ _ _)); walk1))
      k_dflt (refine' get_tab ?T ?_; (case T => k_tabat))
      intro _
      k_steps
      refine LCg.CompEnd.intro FF NN _ (fun p hp => hp) off trivial ⟨⟨_, rfl, hoc⟩, ?_⟩
      rw [hs5, List.map_append]
      exact hys.append' (.cons _ _ .nil)
    · rintro ys _ zq39_2
      refine opq fun G9 hG9 => ?_
      obtain ⟨⟨oc, rfl, hoc⟩, hys⟩ := zq39_2
      refine hG9 ?_
      clear hG9
      rw [List.take_length] at hys
      intro D h9 tk9 F9 N9 o9
      have he1 := enc_le 6 (by decide) (tabOf k) (tabOf_le k) (encs (ks.take pre.length) x)
      k_steps
      refine join_tx (ls := (encs (ks.take pre.length) x).map (spell (tabOf k))) (News.isList N9 (List.mem_cons_self ..)) (by rw [List.map_map]; exact hys) (by rw [enc_flat, List.length_map]; omega) (fun t' k' => ?_)
      rw [enc_flat]
      replace N9 := drop1 N9
      k_steps
      rename Fr g1 _ _ _ => F9
      rename News g1 _ _ _ => N9
      refine InvEndN.intro F9 N9 (nx := (L1 + 1, oc) :: news) ⟨oc, _, rfl, hoc, ?_⟩ rfl (fun p hp => ?_) (fun p hp => List.mem_cons_of_mem _ (List.mem_append_right _ hp))
      · rw [List.length_append, List.length_singleton, hs, encs_snoc]
        exact ⟨_, rfl⟩
      · exact (List.mem_cons.mp hp).elim (fun e => e ▸ List.mem_cons_self ..) fun h => List.mem_cons_of_mem _ (List.mem_append_left _ h)
  · rintro m3 _ h3 tk3 zq40_4 F3 N3
    refine opq fun G9 hG9 => ?_
    obtain ⟨oc, vc, rfl, hoc, t4, hm1⟩ := zq40_4
    refine hG9 ?_
    clear hG9
    replace F3 := Fr_eqm (m' := fun y => if y = Str.ofString "spelled" then some (.str (tx (encs ks x)) t4) else m3 y) F3 (fun y => by rw [hh.length, List.take_length] at hm1; split <;> simp_all)
    dsimp only [envOfC] at F3 N3
    dsimp only
    replace N3 := drop1 N3
    clear F2 N2
    k_steps
    exact hret _ _ _ _ (by k_asm) (by k_asm) ⟨rfl, _, rfl⟩
end
-- C8
abbrev ent (w : World) (n : String) (t : Tok) (v : Value) : DictEntry := ⟨PyData.keyHash w.params (Str.ofString n), .str (Str.ofString n) t, v⟩
abbrev lexEs (w : World) (t1 t2 t3 t4 : Tok) (ln inst wsp pb : Value) : List DictEntry := [ent w "lineno" t1 ln, ent w "instream" t2 inst, ent w "whitespace" t3 wsp, ent w "pushback" t4 pb]
theorem ltNat {a b : Addr} (h : a < b) : @LT.lt Nat _ a b := h
inductive Lex0 (w : World) (news : Led) (fp r : Value) (nx : Led) : Prop
  | mk (x dx pl : Addr) (t1 t2 t3 t4 u1 u3 : Tok) (e1 : r = .ref x) (e2 : nx = (pl, listOf #[] 0) :: (x, instObj 59 dx) :: (dx, dictOf (lexEs w t1 t2 t3 t4 (.int 1 u1) fp (.str (tx [10, 9, 13, 32]) u3) (.ref pl)) 4) :: news)
    (o1 : ∀ p ∈ news, p.1 < dx) (o2 : @LT.lt Nat _ dx x) (o3 : @LT.lt Nat _ x pl) : Lex0 w news fp r nx
set_option maxRecDepth 100000 in
set_option maxHeartbeats 8000000 in
theorem c59 (w : World) (news : Led) (fp : Value) :
    Con w 59 [fp] news 2 16 (Lex0 w news fp) := by
  unfold Con
  k_fill
  intro p loose mean mg mb dp un gd cn cs a ccd cl outer A₀ base h₀ L m s Q E B F X N T hk hd hu hcode hret
  k_dflt (refine' call_cls ?k1 ?k2 ?k3 ?k4 ?k5 ?k6 ?_; (case k1 => k_asm); (case k2 => k_asm); (case k3 => k_asm); (case k4 => k_is); (case k5 => k_is); (case k6 => k_is); k_whole)
  intro x dx h1 F1 N1 l1 l2
  k_dflt (refine' code_def ?k1 ?k2 ?k3 ?k4 ?k5 ?kA ?kF ?kK ?k6 ?k7 ?k8 ?k9 ?kB ?_ ?c2 ?c3 ?c4 ?c5; (case kA => exact rfl); (case kF => exact rfl); (case kK => assumption); (case k1 => k_asm); (case k2 => k_asm); (case k3 => k_asm); (case k4 => k_asm); (case k5 => k_asm); (case k6 => k_is); (case k7 => k_is); (case k8 => ktr_room); (case k9 => exact BindsTo.of_eq rfl); (case c5 => decide); (case kB => exact locs rfl); (case c2 => exact rfl); (case c3 => exact rfl); (case c4 => exact rfl); k_whole)
  intro g1 L1 h2 FG1 F2 N2 B1 X1 T1
  try dsimp only
  try k_lt2 l2
  k_steps
  rename _ < _ ∧ _ => l3
  rename News h₀ _ _ _ => N9
  have h9 := l3.1
  refine hret _ _ _ _ (by k_asm) N9 ⟨x, dx, _, _, _, _, _, _, _, rfl, rfl, l1, l2, h9⟩
-- C7a
section
variable {prog : Program} {w : World} {A : Around} {E : Value → Shared → Prop} {s : Shared} {h₀ : Heap} {L : Addr} {m : Str → Option Value} {news : Led}
theorem strs_by (l : List Value) (ys : List Nat) (h : l.length = ys.length) (hP : ∀ (j : Nat) v, l[j]? = some v → ∃ c t, ys[j]? = some c ∧ v = .str (tx [c]) t) : StrsAre l (ys.map fun c => tx [c]) := by
  induction l generalizing ys with
  | nil =>
    cases ys with
    | nil => exact .nil
    | cons y ys => cases h
  | cons v l ih =>
    cases ys with
    | nil => cases h
    | cons y ys =>
      obtain ⟨c, t, hc, rfl⟩ := hP 0 v rfl
      cases hc
      exact .cons _ _ (ih ys (Nat.succ.inj h) fun j v hj => hP (j + 1) v hj)
theorem strs_of_items {xs : List Nat} {acc : Array Value} (h : ItemsOf (SignAt (tx xs)) acc (tx xs).cps.size) : StrsAre acc.toList (xs.map fun c => tx [c]) := by
  have hsz : (tx xs).cps.size = xs.length := List.size_toArray ..
  refine strs_by _ _ (by rw [Array.length_toList, h.1, hsz]) fun j v hj => ?_
  obtain ⟨c, t, hc, rfl⟩ := h.2 j v (by rw [← Array.getElem?_toList]; exact hj)
  refine ⟨c, t, ?_, rfl⟩
  have hc' : xs.toArray[j]? = some c := hc
  rw [List.getElem?_toArray] at hc'; exact hc'
theorem strs_rev {l : List Value} {ys : List Str} (h : StrsAre l ys) : StrsAre l.reverse ys.reverse := by
  induction h with
  | nil => exact .nil
  | cons y t r ih =>
    rw [List.reverse_cons, List.reverse_cons]
    exact ih.append' (.cons _ _ .nil)
theorem list_tx {xs : List Nat} {t : Tok} {Q : Value → Shared → Prop} (hh : A.handled = none) (F : Fr h₀ L s.heap m) (N : News h₀ L s.heap news) (hn : xs.length ≤ 16777216)
    (h : ∀ D vs n h' tk, Fr h₀ L h' m → News h₀ L h' ((D, listOf (List.toArray vs) n) :: news) → (∀ p ∈ news, p.1 < D) → StrsAre vs (xs.map fun c => tx [c]) → Q (.ref D) { s with heap := h', toks := tk }) :
    wpAny (model prog w) A (call (.type "list") [.str (tx xs) t]) Q E s := by
  refine call_list_str hh (tx xs) t (fun h' tk acc c' hk hD hi => ?_) (by rw [sizeLine_eq]; simpa using hn)
  refine h s.heap.objs.size acc.toList c' h' tk (F.keeps hk) (fun p hp => ?_) (fun p hp => Heap.lt_size (N p hp).1) (strs_of_items hi)
  rcases List.mem_cons.mp hp with rfl | hp
  · exact ⟨by simpa using hD, Nat.ne_of_gt F.ns.lt, next_is_new F⟩
  · exact ⟨hk _ _ (N p hp).1, (N p hp).2⟩
theorem rev_tail {l : Addr} {vs : List Value} {value slice : PySem.Expr} {vk : Value} {ops : List Value} {Q : Value → Shared → Prop} (F : Fr h₀ L s.heap m) (N : News h₀ L s.heap news) (hl : s.heap.IsList l vs.toArray) (pk : IsPart vk (some (-1)))
    (hz : vs.length ≤ 16777216) (h : ∀ D h', Fr h₀ L h' m → News h₀ L h' ((D, listOf vs.reverse.toArray 0) :: news) → (∀ p ∈ news, p.1 < D) → Q (.ref D) { s with heap := h' })
    (hs : subscripted slice false (.ref l) (.ref s.heap.objs.size) = operate ops (getItem (.ref l) (.ref s.heap.objs.size))) :
    wpAny (model prog w) A (subscriptTail value slice (.ref l) (.ref s.heap.objs.size)) Q E { s with heap := s.heap.push { cls := .type "slice", data := .fields #[.none, .none, vk] } } := by
  refine tail_any (Heap.IsList.typeIs (s := { s with heap := s.heap.push { cls := .type "slice", data := .fields #[.none, .none, vk] } }) (hl.push _)) slot_list_getitem.lookup
    (wpAny_getItem_list_slice (hl.push _) (Heap.IsSliceOf.new ..) .none .none pk (by decide) ?_ (by rw [sizeLine_eq, List.size_toArray]; exact hz)) hs
  have N1 := News.push (F.push { cls := .type "slice", data := .fields #[.none, .none, vk] }) (N.grown fun _ _ e => Heap.get?_push_of_some _ e) { cls := .type "list", data := .seq (slicePick vs.toArray none none (some (-1))) }
  rw [Heap.size_push] at N1
  show Q (.ref (s.heap.push _).objs.size) _
  rw [Heap.size_push]
  refine h _ _ ((F.push _).push _) ?_ fun p hp => Nat.lt_succ_of_lt (Heap.lt_size (N p hp).1)
  rw [← show slicePick vs.toArray none none (some (-1)) = vs.reverse.toArray from krv_pick _]
  exact N1
end
/-- what a call of the law's own «read» does: the last sign of the list of signs, or none -/
noncomputable def PieceOk (w : World) (f sl : Addr) (fix : Led) : Prop :=
  ∀ (rest : Led) (vs : List Value) (rem : List Nat) (n : Nat) (v : Value), (∀ p ∈ fix, p ∈ rest) → (∀ p ∈ rest, p.1 ≠ sl) → StrsAre vs (rem.reverse.map fun c => tx [c]) → rem.length ≤ 16777216 →
    Con w f [v] ((sl, listOf vs.toArray n) :: rest) 1 8 (fun r nx => ∃ t vs' n', r = .str (tx rem.head?.toList) t ∧ nx = (sl, listOf (List.toArray vs') n') :: rest ∧ StrsAre vs' (rem.tail.reverse.map fun c => tx [c]))
/-- what stays of a lexer -/
inductive LexFix (w : World) (fix : Led) (lx dlx sl st pl : Addr) : Prop
  | mk (m1 : (lx, instObj 59 dlx) ∈ fix) (m2 : (pl, listOf #[] 0) ∈ fix) (dst f : Addr) (oc : Value) (od : Option Addr) (fd : FuncData) (fsl : Array (Option Value)) (t1 t2 t3 t4 t5 : Tok) (v1 v2 v3 v4 : Value)
    (m3 : (st, instObj 59 dst) ∈ fix) (m4 : (dst, dictOf (lexEs w t1 t2 t3 t4 v1 v2 v3 v4 ++ [ent w "read" t5 (.ref f)]) 5) ∈ fix) (m5 : (f, (⟨oc, od, .func fd, fsl⟩ : Obj)) ∈ fix) (hp : PieceOk w f sl fix) : LexFix w fix lx dlx sl st pl
theorem LexFix.h1 {w : World} {fix : Led} {lx dlx sl st pl : Addr} (h : LexFix w fix lx dlx sl st pl) : (lx, instObj 59 dlx) ∈ fix := by cases h; assumption
theorem LexFix.h2 {w : World} {fix : Led} {lx dlx sl st pl : Addr} (h : LexFix w fix lx dlx sl st pl) : (pl, listOf #[] 0) ∈ fix := by cases h; assumption
/-- what stays of a lexer, with no empty cell in it -/
noncomputable def LexFixS (w : World) (fix : Led) (lx dlx sl st pl : Addr) : Prop := ∃ fix0 : Led, LexFix w fix0 lx dlx sl st pl ∧ ∀ p ∈ fix0, p ∈ fix ∧ p.2.data ≠ .cell none
theorem LexFixS.full {w : World} {fix : Led} {lx dlx sl st pl : Addr} (h : LexFixS w fix lx dlx sl st pl) : LexFix w fix lx dlx sl st pl := by
  obtain ⟨fix0, ⟨a, b, dst, f, oc, od, fd, fsl, t1, t2, t3, t4, t5, v1, v2, v3, v4, c, d, e, g⟩, hs⟩ := h
  exact ⟨(hs _ a).1, (hs _ b).1, dst, f, oc, od, fd, fsl, t1, t2, t3, t4, t5, v1, v2, v3, v4, (hs _ c).1, (hs _ d).1, (hs _ e).1, fun rest vs rem n v h1 h2 h3 h4 => g rest vs rem n v (fun p hp => h1 p (hs p hp).1) h2 h3 h4⟩
theorem ne_of_fields {o : Obj} {vs : Array Value} (h : o.data = .fields vs) : o.data ≠ .cell none := fun e => by rw [h] at e; cases e
theorem ne_of_some {o : Obj} {v : Value} (h : o.data = .cell (some v)) : o.data ≠ .cell none := fun e => by rw [h] at e; cases e
/-- the code of the law's own «read», made by an earlier call -/
noncomputable def HitOk (fix : Led) : Prop := ∃ (c' : Addr) (oc' : Obj) (vs' : Array Value) (t' : Tok), (107, tabObj (#[] ++ #[rawInt 127, rawInt 4, .ref c'])) ∈ fix ∧ (c', oc') ∈ fix ∧ oc'.data = .fields vs' ∧ vs'[1]? = some (.str (Str.ofString "_law_lexer.<locals>._law_piece") t')
theorem strs_last {vs : List Value} {ys : List Str} {y : Str} (h : StrsAre vs (ys ++ [y])) : ∃ vs' t, vs = vs' ++ [.str y t] ∧ StrsAre vs' ys := by
  induction ys generalizing vs with
  | nil =>
    change StrsAre vs [y] at h
    cases h with
    | cons _ t r => cases r; exact ⟨[], t, rfl, .nil⟩
  | cons x ys ih =>
    change StrsAre vs (x :: (ys ++ [y])) at h
    cases h with
    | cons _ t r =>
      obtain ⟨vs', t', rfl, h⟩ := ih r
      exact ⟨_ :: vs', t', rfl, .cons _ _ h⟩
theorem allLt_mem {d : Addr} {l : Led} (h : AllLt d l) : ∀ p ∈ l, @LT.lt Nat _ p.1 d := by
  induction l with
  | nil => intro p hp; cases hp
  | cons q l ih =>
    intro p hp
    rcases List.mem_cons.mp hp with e | hp
    · rw [e]; exact h.1
    · exact ih h.2 p hp
theorem lexer_abs {w : World} {h₀ h : Heap} {L pl2 lx dlx f c' pl1 st dst sl sc : Addr} {oc' osc : Obj} {oc : Value} {od : Option Addr} {fd : FuncData} {fsl : Array (Option Value)} {ps : Array Value} {rest : Led} {vs : List Value} {n0 : Nat}
    {t21 t22 t23 t24 u21 u23 t11 t12 t13 t14 t5 : Tok} {v1 v2 v3 v4 : Value}
    (N : News h₀ L h ((pl2, listOf #[] 0) :: (lx, instObj 59 dlx) :: (dlx, dictOf (lexEs w t21 t22 t23 t24 (.int 1 u21) (.ref st) (.str (tx [10, 9, 13, 32]) u23) (.ref pl2)) 4) :: (f, ⟨oc, od, .func fd, fsl⟩) :: (c', oc') ::
      (pl1, listOf #[] 0) :: (st, instObj 59 dst) :: (dst, dictOf (lexEs w t11 t12 t13 t14 v1 v2 v3 v4 ++ [ent w "read" t5 (.ref f)]) 5) :: (sl, listOf vs.toArray n0) :: (sc, osc) :: (107, tabObj ps) :: rest))
    (o1 : @LT.lt Nat _ 107 sc) (o2 : @LT.lt Nat _ sc sl) (o3 : @LT.lt Nat _ sl dst) (o4 : @LT.lt Nat _ dst st) (o5 : @LT.lt Nat _ st pl1) (o6 : @LT.lt Nat _ pl1 c') (o7 : @LT.lt Nat _ c' f) (o8 : @LT.lt Nat _ f dlx) (o9 : @LT.lt Nat _ dlx lx) (o10 : @LT.lt Nat _ lx pl2)
    (r1 : AllLt sl rest) (r2 : AllLt dlx rest)
    (q1 : oc'.data ≠ .cell none) (q2 : osc.data ≠ .cell none) (hP : ∀ fix : Led, (f, (⟨oc, od, .func fd, fsl⟩ : Obj)) ∈ fix → (c', oc') ∈ fix → (sc, osc) ∈ fix → PieceOk w f sl fix) :
    ∃ fix : Led, News h₀ L h ((dlx, dictOf (lexEs w t21 t22 t23 t24 (.int 1 u21) (.ref st) (.str (tx [10, 9, 13, 32]) u23) (.ref pl2)) 4) :: (sl, listOf vs.toArray n0) :: fix) ∧ LexFixS w fix lx dlx sl st pl2 ∧ (107, tabObj ps) ∈ fix ∧ (c', oc') ∈ fix ∧
      (∀ p ∈ rest, p ∈ fix) ∧ (∀ p ∈ fix, p.1 ≠ dlx ∧ p.1 ≠ sl) ∧ dlx ≠ sl := by
  refine ⟨(pl2, listOf #[] 0) :: (lx, instObj 59 dlx) :: (f, ⟨oc, od, .func fd, fsl⟩) :: (c', oc') :: (pl1, listOf #[] 0) :: (st, instObj 59 dst) ::
    (dst, dictOf (lexEs w t11 t12 t13 t14 v1 v2 v3 v4 ++ [ent w "read" t5 (.ref f)]) 5) :: (sc, osc) :: (107, tabObj ps) :: rest, cb_drop N ?_, ?_, by k_mem, by k_mem, ?_, ?_, Nat.ne_of_gt (Nat.lt_trans o3 (Nat.lt_trans o4 (Nat.lt_trans o5 (Nat.lt_trans o6 (Nat.lt_trans o7 o8)))))⟩
  · intro p hp
    rcases List.mem_cons.mp hp with rfl | hp
    · k_mem
    rcases List.mem_cons.mp hp with rfl | hp
    · k_mem
    rcases List.mem_cons.mp hp with rfl | hp
    · k_mem
    rcases List.mem_cons.mp hp with rfl | hp
    · k_mem
    rcases List.mem_cons.mp hp with rfl | hp
    · k_mem
    rcases List.mem_cons.mp hp with rfl | hp
    · k_mem
    rcases List.mem_cons.mp hp with rfl | hp
    · k_mem
    rcases List.mem_cons.mp hp with rfl | hp
    · k_mem
    rcases List.mem_cons.mp hp with rfl | hp
    · k_mem
    rcases List.mem_cons.mp hp with rfl | hp
    · k_mem
    rcases List.mem_cons.mp hp with rfl | hp
    · k_mem
    k_mem
  · refine ⟨[(pl2, listOf #[] 0), (lx, instObj 59 dlx), (f, ⟨oc, od, .func fd, fsl⟩), (c', oc'), (st, instObj 59 dst), (dst, dictOf (lexEs w t11 t12 t13 t14 v1 v2 v3 v4 ++ [ent w "read" t5 (.ref f)]) 5), (sc, osc)],
      ⟨by k_mem, by k_mem, dst, f, oc, od, fd, fsl, t11, t12, t13, t14, t5, v1, v2, v3, v4, by k_mem, by k_mem, by k_mem, hP _ (by k_mem) (by k_mem) (by k_mem)⟩, fun p hp => ?_⟩
    rcases List.mem_cons.mp hp with rfl | hp
    · exact ⟨by k_mem, fun e => by cases e⟩
    rcases List.mem_cons.mp hp with rfl | hp
    · exact ⟨by k_mem, fun e => by cases e⟩
    rcases List.mem_cons.mp hp with rfl | hp
    · exact ⟨by k_mem, fun e => by cases e⟩
    rcases List.mem_cons.mp hp with rfl | hp
    · exact ⟨by k_mem, q1⟩
    rcases List.mem_cons.mp hp with rfl | hp
    · exact ⟨by k_mem, fun e => by cases e⟩
    rcases List.mem_cons.mp hp with rfl | hp
    · exact ⟨by k_mem, fun e => by cases e⟩
    rcases List.mem_cons.mp hp with rfl | hp
    · exact ⟨by k_mem, q2⟩
    cases hp
  · intro p hp
    k_mem
  · intro p hp
    have b1 : @LT.lt Nat _ c' dlx := Nat.lt_trans o7 o8
    have b2 : @LT.lt Nat _ pl1 dlx := Nat.lt_trans o6 b1
    have b3 : @LT.lt Nat _ st dlx := Nat.lt_trans o5 b2
    have b4 : @LT.lt Nat _ dst dlx := Nat.lt_trans o4 b3
    have b5 : @LT.lt Nat _ sl dlx := Nat.lt_trans o3 b4
    have b6 : @LT.lt Nat _ sc dlx := Nat.lt_trans o2 b5
    have b7 : @LT.lt Nat _ 107 dlx := Nat.lt_trans o1 b6
    have b8 : @LT.lt Nat _ dlx pl2 := Nat.lt_trans o9 o10
    have a1 : @LT.lt Nat _ sl st := Nat.lt_trans o3 o4
    have a2 : @LT.lt Nat _ sl pl1 := Nat.lt_trans a1 o5
    have a3 : @LT.lt Nat _ sl c' := Nat.lt_trans a2 o6
    have a4 : @LT.lt Nat _ sl f := Nat.lt_trans a3 o7
    have a6 : @LT.lt Nat _ sl lx := Nat.lt_trans b5 o9
    have a7 : @LT.lt Nat _ sl pl2 := Nat.lt_trans a6 o10
    have a8 : @LT.lt Nat _ 107 sl := Nat.lt_trans o1 o2
    rcases List.mem_cons.mp hp with rfl | hp
    · exact ⟨Nat.ne_of_gt b8, Nat.ne_of_gt a7⟩
    rcases List.mem_cons.mp hp with rfl | hp
    · exact ⟨Nat.ne_of_gt o9, Nat.ne_of_gt a6⟩
    rcases List.mem_cons.mp hp with rfl | hp
    · exact ⟨Nat.ne_of_lt o8, Nat.ne_of_gt a4⟩
    rcases List.mem_cons.mp hp with rfl | hp
    · exact ⟨Nat.ne_of_lt b1, Nat.ne_of_gt a3⟩
    rcases List.mem_cons.mp hp with rfl | hp
    · exact ⟨Nat.ne_of_lt b2, Nat.ne_of_gt a2⟩
    rcases List.mem_cons.mp hp with rfl | hp
    · exact ⟨Nat.ne_of_lt b3, Nat.ne_of_gt a1⟩
    rcases List.mem_cons.mp hp with rfl | hp
    · exact ⟨Nat.ne_of_lt b4, Nat.ne_of_gt o3⟩
    rcases List.mem_cons.mp hp with rfl | hp
    · exact ⟨Nat.ne_of_lt b6, Nat.ne_of_lt o2⟩
    rcases List.mem_cons.mp hp with rfl | hp
    · exact ⟨Nat.ne_of_lt b7, Nat.ne_of_lt a8⟩
    exact ⟨Nat.ne_of_lt (allLt_mem r2 p hp), Nat.ne_of_lt (allLt_mem r1 p hp)⟩
inductive LexPost (w : World) (x bl : List Nat) (rest : Led) (Z : Led → Prop) (r : Value) (nx : Led) : Prop
  | mk (lx dlx sl st pl : Addr) (t1 t2 t3 t4 u1 u3 : Tok) (vs : List Value) (n : Nat) (fix : Led) (e1 : r = .ref lx) (e2 : nx = (dlx, dictOf (lexEs w t1 t2 t3 t4 (.int 1 u1) (.ref st) (.str (tx bl) u3) (.ref pl)) 4) :: (sl, listOf (List.toArray vs) n) :: fix)
    (h1 : StrsAre vs (x.reverse.map fun c => tx [c])) (h2 : LexFixS w fix lx dlx sl st pl) (h3 : ∀ p ∈ rest, p ∈ fix) (h4 : ∀ p ∈ fix, p.1 ≠ dlx ∧ p.1 ≠ sl) (h5 : dlx ≠ sl) (h6 : Z fix) : LexPost w x bl rest Z r nx
-- C7
section
set_option maxRecDepth 100000 in
set_option maxHeartbeats 8000000 in
theorem c112 (w : World) (rest : Led) (x : List Nat) (t : Tok) (hr : ∀ p ∈ rest, p.1 ≠ 107) (hlen : x.length ≤ 50000) :
    Con w 112 [.str (tx x) t] ((107, tabObj #[]) :: rest) 4 40 (LexPost w x [10, 9, 13, 32] rest HitOk) := by
  unfold Con
  k_fill
  intro p loose mean mg mb dp un gd cn cs a ccd cl outer A₀ base h₀ L m s Q E B F X N T hk hd hu hcode hret
  refine wpAny_call ?_
  k_dflt (refine' code_defC ?k1 ?k2 ?k3 ?k4 ?k5 ?kA ?kF ?kK ?k6 ?k7 ?k8 ?k9 ?kB ?kD ?_ ?c2 ?c3 ?c4; (case kA => exact rfl); (case kF => exact rfl); (case kK => assumption); (case k1 => k_asm); (case k2 => k_asm); (case k3 => k_asm); (case k4 => k_asm); (case k5 => k_asm); (case k6 => k_is); (case k7 => k_is); (case k8 => ktr_room); (case k9 => exact BindsTo.of_eq rfl); (case kB => exact rfl); (case kD => decide +kernel); (case c2 => exact rfl); (case c3 => exact rfl); (case c4 => exact rfl); k_whole)
  intro g1 L1 h1 tk1 cells1 FG1 F1 N1 Y1 B1 X1 T1 l1
  k_cells Y1
  simp only [List.cons_append, List.nil_append] at N1
  try dsimp only
  have l107 : @LT.lt Nat _ 107 L1 := l1 _ (List.mem_cons_self ..)
  have hnl : ∀ p ∈ rest, p.1 ≠ L1 + 1 := fun p hp => Nat.ne_of_lt (Nat.lt_succ_of_lt (l1 p (List.mem_cons_of_mem _ hp)))
  iterate 9 walk1
  k_dflt (refine' list_tx ?hh ?F ?N ?z ?_; (case hh => exact rfl); (case F => k_asm); (case N => k_asm); (case z => omega))
  intro _ _ _ _ _ _ _ lq1 _
  (try k_lt lq1)
  (try k_sweep)
  iterate 2 walk1
  rename StrsAre _ _ => hv1
  have hz1 := hv1.length
  rw [List.length_map] at hz1
  have hz2 := hz1 ▸ (show x.length ≤ 16777216 by omega)
  iterate 5 walk1
  k_dflt (refine' rev_tail ?F7 ?N7 ?l7 ?k7 ?z7 ?_ ?s7; (case F7 => k_asm); (case N7 => k_asm); (case l7 => exact News.isList (by k_asm) (by k_mem)); (case k7 => exact IsPart.int _ _); (case z7 => assumption); (case s7 => with_unfolding_all rfl)); intro _ _ _ _ lq2; (try k_lt lq2); (try k_sweep)
  have hv2 := strs_rev hv1
  rw [← List.map_reverse] at hv2
  rename News g1 L1 _ _ => N2
  replace N2 := cb_drop (news := (_, _) :: (L1 + 1, _) :: (107, tabObj #[]) :: rest) N2 (fun p hp => (List.mem_cons.mp hp).elim (fun e => e ▸ List.mem_cons_self ..) fun h => .tail _ (.tail _ h))
  clear hv1 hz1 hz2
  k_steps
  k_dflt (refine' Con.use (c59 w _ _) ?k1 ?k2 ?k3 ?k4 ?k5 ?kK ?kd ?ku ?kc ?_; ((case k1 => k_asm); (case k2 => k_asm); (case k3 => k_asm); (case k4 => k_asm); (case k5 => k_asm); (case kK => first | exact rfl | assumption); (case kd => ktr_room); (case ku => ktr_units); (case kc => assumption)))
  rintro _ _ h5 tk5 F5 N5 zq41_6
  obtain ⟨st, dst, pl1, t11, t12, t13, t14, u11, u13, rfl, rfl, l51, l52, l53⟩ := zq41_6
  k_lt l51
  k_steps
  rename News g1 L1 _ _ => N6
  have l6 := And.intro l51 (And.intro l52 l53)
  clear l51 l52 l53
  k_dflt (refine' Con.use (c59 w _ _) ?k1 ?k2 ?k3 ?k4 ?k5 ?kK ?kd ?ku ?kc ?_; ((case k1 => k_asm); (case k2 => k_asm); (case k3 => k_asm); (case k4 => k_asm); (case k5 => k_asm); (case kK => first | exact rfl | assumption); (case kd => ktr_room); (case ku => ktr_units); (case kc => assumption)))
  rintro _ _ h7 tk7 F7 N7 zq42_6
  obtain ⟨lx, dlx, pl2, t21, t22, t23, t24, u21, u23, rfl, rfl, l71, l72, l73⟩ := zq42_6
  k_lt l71
  k_steps
  rename News h₀ L _ _ => N9
  have zq43 := lexer_abs N9 (by omega) (by omega) (by omega) (by omega) (by omega) (by omega) (by omega) (by omega) (by omega) (by omega) (by grind) (by grind) (ne_of_fields (by assumption)) (ne_of_some (by assumption)) (by
    clear hret N9 N7 F7 N6
    intro fix hm1 hm2 hm3 rest9 vs9 rem n9 v9 hsub hne9 hv9 hz9
    have hm1' := hsub _ hm1
    have hm2' := hsub _ hm2
    have hm3' := hsub _ hm3
    unfold Con
    intro p loose mean mg mb dp un gd cn cs a ccd cl outer A₀ base h₀ L m s Q E B F X N T hk hd hu hcode hret
    refine wpAny_call ?_
    k_dflt (refine' code_nest ?k1 ?k2 ?k3 ?k4 ?k5 ?kA ?kF ?kK ?k6 ?k7 ?k8 ?k9 ?kB ?_ ?c2 ?c3 ?c4 ?c5; (case kA => exact rfl); (case kF => exact rfl); (case kK => assumption); (case k1 => k_asm); (case k2 => k_asm); (case k3 => k_asm); (case k4 => k_asm); (case k5 => k_asm); (case k6 => k_mem); (case k7 => exact codeRec_news (by k_asm) (by k_mem) (by assumption) (by assumption)); (case k8 => ktr_room); (case k9 => exact BindsTo.of_eq rfl); (case c5 => decide); (case kB => exact locs rfl); (case c2 => exact rfl); (case c3 => exact rfl); (case c4 => exact rfl); k_whole)
    intro g1 L1 h1 FG1 F1 N1 B1 X1 T1
    simp only [show Str.ofString "" = tx [] from by decide +kernel]
    try dsimp only
    cases rem with
    | nil =>
      obtain rfl : vs9 = [] := by cases hv9; rfl
      iterate 6 walk1
      refine wpAny_truthy_list (items := #[]) ?_ (by decide) ?_
      · exact News.isList N1 (List.mem_cons_self ..)
      refine W.ite_neg (by decide) ?_
      k_steps
      exact hret _ _ _ _ (by k_asm) (by k_asm) ⟨_, _, _, rfl, rfl, .nil⟩
    | cons c rem =>
      have hv9' := hv9
      rw [List.reverse_cons, List.map_append] at hv9'
      obtain ⟨vs8, t8, rfl, hv8⟩ := strs_last hv9'
      have hz8 : vs8.length = rem.length := by rw [hv8.length, List.length_map, List.length_reverse]
      rw [List.length_cons] at hz9
      iterate 5 walk1
      refine wpAny_truthy_list (News.isList N1 (List.mem_cons_self ..)) (by rw [List.size_toArray, List.length_append, List.length_singleton]; omega) ?_
      refine W.ite_pos (by simp) ?_
      iterate 4 walk1
      refine kl_pop (its := (vs8 ++ [Value.str (tx [c]) t8]).toArray) F1 N1 (p := vs8) (y := .str (tx [c]) t8) (by simpa using kpa_last (.str (tx [c]) t8) vs8) (Upd.head hne9) (by rw [sizeLine_eq, List.length_append, List.length_singleton]; omega) (fun h2 F2 N2 => ?_)
      clear F1 N1
      k_steps
      exact hret _ _ _ _ (by k_asm) (by k_asm) ⟨_, _, _, rfl, rfl, hv8⟩)
  obtain ⟨fix, N10, hfix, h107, hc', hsub, hoff, hne⟩ := zq43
  refine hret _ _ _ _ (by k_asm) N10 ⟨_, _, _, _, _, _, _, _, _, _, _, _, _, _, rfl, rfl, hv2, hfix, hsub, hoff, hne, ?_⟩
  exact ⟨_, _, _, _, h107, hc', by assumption, by assumption⟩
-- C15
theorem lexer_abs2 {w : World} {h₀ h : Heap} {L pl2 lx dlx f pl1 st dst sl sc : Addr} {osc : Obj} {oc : Value} {od : Option Addr} {fd : FuncData} {fsl : Array (Option Value)} {ps : Array Value} {rest : Led} {vs : List Value} {n0 : Nat}
    {t21 t22 t23 t24 u21 u23 t11 t12 t13 t14 t5 : Tok} {v1 v2 v3 v4 : Value}
    (N : News h₀ L h ((pl2, listOf #[] 0) :: (lx, instObj 59 dlx) :: (dlx, dictOf (lexEs w t21 t22 t23 t24 (.int 1 u21) (.ref st) (.str (tx [10, 9, 13, 32]) u23) (.ref pl2)) 4) :: (f, ⟨oc, od, .func fd, fsl⟩) ::
      (pl1, listOf #[] 0) :: (st, instObj 59 dst) :: (dst, dictOf (lexEs w t11 t12 t13 t14 v1 v2 v3 v4 ++ [ent w "read" t5 (.ref f)]) 5) :: (sl, listOf vs.toArray n0) :: (sc, osc) :: (107, tabObj ps) :: rest))
    (o1 : @LT.lt Nat _ 107 sc) (o2 : @LT.lt Nat _ sc sl) (o3 : @LT.lt Nat _ sl dst) (o4 : @LT.lt Nat _ dst st) (o5 : @LT.lt Nat _ st pl1) (o6 : @LT.lt Nat _ pl1 f) (o8 : @LT.lt Nat _ f dlx) (o9 : @LT.lt Nat _ dlx lx) (o10 : @LT.lt Nat _ lx pl2)
    (r1 : AllLt sl rest) (r2 : AllLt dlx rest)
    {c' : Addr} {oc' : Obj} (q0 : (c', oc') ∈ rest) (q1 : oc'.data ≠ .cell none) (q2 : osc.data ≠ .cell none) (hP : ∀ fix : Led, (f, (⟨oc, od, .func fd, fsl⟩ : Obj)) ∈ fix → (c', oc') ∈ fix → (sc, osc) ∈ fix → PieceOk w f sl fix) :
    ∃ fix : Led, News h₀ L h ((dlx, dictOf (lexEs w t21 t22 t23 t24 (.int 1 u21) (.ref st) (.str (tx [10, 9, 13, 32]) u23) (.ref pl2)) 4) :: (sl, listOf vs.toArray n0) :: fix) ∧ LexFixS w fix lx dlx sl st pl2 ∧ (107, tabObj ps) ∈ fix ∧
      (∀ p ∈ rest, p ∈ fix) ∧ (∀ p ∈ fix, p.1 ≠ dlx ∧ p.1 ≠ sl) ∧ dlx ≠ sl := by
  refine ⟨(pl2, listOf #[] 0) :: (lx, instObj 59 dlx) :: (f, ⟨oc, od, .func fd, fsl⟩) :: (pl1, listOf #[] 0) :: (st, instObj 59 dst) ::
    (dst, dictOf (lexEs w t11 t12 t13 t14 v1 v2 v3 v4 ++ [ent w "read" t5 (.ref f)]) 5) :: (sc, osc) :: (107, tabObj ps) :: rest, cb_drop N ?_, ?_, by k_mem, ?_, ?_, Nat.ne_of_gt (Nat.lt_trans o3 (Nat.lt_trans o4 (Nat.lt_trans o5 (Nat.lt_trans o6 o8))))⟩
  · intro p hp
    rcases List.mem_cons.mp hp with rfl | hp
    · k_mem
    rcases List.mem_cons.mp hp with rfl | hp
    · k_mem
    rcases List.mem_cons.mp hp with rfl | hp
    · k_mem
    rcases List.mem_cons.mp hp with rfl | hp
    · k_mem
    rcases List.mem_cons.mp hp with rfl | hp
    · k_mem
    rcases List.mem_cons.mp hp with rfl | hp
    · k_mem
    rcases List.mem_cons.mp hp with rfl | hp
    · k_mem
    rcases List.mem_cons.mp hp with rfl | hp
    · k_mem
    rcases List.mem_cons.mp hp with rfl | hp
    · k_mem
    rcases List.mem_cons.mp hp with rfl | hp
    · k_mem
    k_mem
  · refine ⟨[(pl2, listOf #[] 0), (lx, instObj 59 dlx), (f, ⟨oc, od, .func fd, fsl⟩), (c', oc'), (st, instObj 59 dst), (dst, dictOf (lexEs w t11 t12 t13 t14 v1 v2 v3 v4 ++ [ent w "read" t5 (.ref f)]) 5), (sc, osc)],
      ⟨by k_mem, by k_mem, dst, f, oc, od, fd, fsl, t11, t12, t13, t14, t5, v1, v2, v3, v4, by k_mem, by k_mem, by k_mem, hP _ (by k_mem) (by k_mem) (by k_mem)⟩, fun p hp => ?_⟩
    rcases List.mem_cons.mp hp with rfl | hp
    · exact ⟨by k_mem, fun e => by cases e⟩
    rcases List.mem_cons.mp hp with rfl | hp
    · exact ⟨by k_mem, fun e => by cases e⟩
    rcases List.mem_cons.mp hp with rfl | hp
    · exact ⟨by k_mem, fun e => by cases e⟩
    rcases List.mem_cons.mp hp with rfl | hp
    · exact ⟨by k_mem, q1⟩
    rcases List.mem_cons.mp hp with rfl | hp
    · exact ⟨by k_mem, fun e => by cases e⟩
    rcases List.mem_cons.mp hp with rfl | hp
    · exact ⟨by k_mem, fun e => by cases e⟩
    rcases List.mem_cons.mp hp with rfl | hp
    · exact ⟨by k_mem, q2⟩
    cases hp
  · intro p hp
    k_mem
  · intro p hp
    have b2 : @LT.lt Nat _ pl1 dlx := Nat.lt_trans o6 o8
    have b3 : @LT.lt Nat _ st dlx := Nat.lt_trans o5 b2
    have b4 : @LT.lt Nat _ dst dlx := Nat.lt_trans o4 b3
    have b5 : @LT.lt Nat _ sl dlx := Nat.lt_trans o3 b4
    have b6 : @LT.lt Nat _ sc dlx := Nat.lt_trans o2 b5
    have b7 : @LT.lt Nat _ 107 dlx := Nat.lt_trans o1 b6
    have b8 : @LT.lt Nat _ dlx pl2 := Nat.lt_trans o9 o10
    have a1 : @LT.lt Nat _ sl st := Nat.lt_trans o3 o4
    have a2 : @LT.lt Nat _ sl pl1 := Nat.lt_trans a1 o5
    have a4 : @LT.lt Nat _ sl f := Nat.lt_trans a2 o6
    have a6 : @LT.lt Nat _ sl lx := Nat.lt_trans b5 o9
    have a7 : @LT.lt Nat _ sl pl2 := Nat.lt_trans a6 o10
    have a8 : @LT.lt Nat _ 107 sl := Nat.lt_trans o1 o2
    rcases List.mem_cons.mp hp with rfl | hp
    · exact ⟨Nat.ne_of_gt b8, Nat.ne_of_gt a7⟩
    rcases List.mem_cons.mp hp with rfl | hp
    · exact ⟨Nat.ne_of_gt o9, Nat.ne_of_gt a6⟩
    rcases List.mem_cons.mp hp with rfl | hp
    · exact ⟨Nat.ne_of_lt o8, Nat.ne_of_gt a4⟩
    rcases List.mem_cons.mp hp with rfl | hp
    · exact ⟨Nat.ne_of_lt b2, Nat.ne_of_gt a2⟩
    rcases List.mem_cons.mp hp with rfl | hp
    · exact ⟨Nat.ne_of_lt b3, Nat.ne_of_gt a1⟩
    rcases List.mem_cons.mp hp with rfl | hp
    · exact ⟨Nat.ne_of_lt b4, Nat.ne_of_gt o3⟩
    rcases List.mem_cons.mp hp with rfl | hp
    · exact ⟨Nat.ne_of_lt b6, Nat.ne_of_lt o2⟩
    rcases List.mem_cons.mp hp with rfl | hp
    · exact ⟨Nat.ne_of_lt b7, Nat.ne_of_lt a8⟩
    exact ⟨Nat.ne_of_lt (allLt_mem r2 p hp), Nat.ne_of_lt (allLt_mem r1 p hp)⟩
set_option maxRecDepth 100000 in
set_option maxHeartbeats 8000000 in
theorem c112b (w : World) (rest : Led) (x : List Nat) (t : Tok) (c' : Addr) (oc' : Obj) (vs' : Array Value) (t' : Tok) (hr : ∀ p ∈ rest, p.1 ≠ 107) (hc' : (c', oc') ∈ rest) (hoc : oc'.data = .fields vs') (hqn : vs'[1]? = some (.str (Str.ofString "_law_lexer.<locals>._law_piece") t')) (hlen : x.length ≤ 50000) :
    Con w 112 [.str (tx x) t] ((107, tabObj (#[] ++ #[rawInt 127, rawInt 4, .ref c'])) :: rest) 4 40 (LexPost w x [10, 9, 13, 32] rest (fun fix => (107, tabObj (#[] ++ #[rawInt 127, rawInt 4, .ref c'])) ∈ fix)) := by
  unfold Con
  k_fill
  intro p loose mean mg mb dp un gd cn cs a ccd cl outer A₀ base h₀ L m s Q E B F X N T hk hd hu hcode hret
  refine wpAny_call ?_
  k_dflt (refine' code_defC ?k1 ?k2 ?k3 ?k4 ?k5 ?kA ?kF ?kK ?k6 ?k7 ?k8 ?k9 ?kB ?kD ?_ ?c2 ?c3 ?c4; (case kA => exact rfl); (case kF => exact rfl); (case kK => assumption); (case k1 => k_asm); (case k2 => k_asm); (case k3 => k_asm); (case k4 => k_asm); (case k5 => k_asm); (case k6 => k_is); (case k7 => k_is); (case k8 => ktr_room); (case k9 => exact BindsTo.of_eq rfl); (case kB => exact rfl); (case kD => decide +kernel); (case c2 => exact rfl); (case c3 => exact rfl); (case c4 => exact rfl); k_whole)
  intro g1 L1 h1 tk1 cells1 FG1 F1 N1 Y1 B1 X1 T1 l1
  k_cells Y1
  simp only [List.cons_append, List.nil_append] at N1
  try dsimp only
  have l107 : @LT.lt Nat _ 107 L1 := l1 _ (List.mem_cons_self ..)
  have hnl : ∀ p ∈ rest, p.1 ≠ L1 + 1 := fun p hp => Nat.ne_of_lt (Nat.lt_succ_of_lt (l1 p (List.mem_cons_of_mem _ hp)))
  iterate 9 walk1
  k_dflt (refine' list_tx ?hh ?F ?N ?z ?_; (case hh => exact rfl); (case F => k_asm); (case N => k_asm); (case z => omega))
  intro _ _ _ _ _ _ _ lq1 _
  (try k_lt lq1)
  (try k_sweep)
  iterate 2 walk1
  rename StrsAre _ _ => hv1
  have hz1 := hv1.length
  rw [List.length_map] at hz1
  have hz2 := hz1 ▸ (show x.length ≤ 16777216 by omega)
  iterate 5 walk1
  k_dflt (refine' rev_tail ?F7 ?N7 ?l7 ?k7 ?z7 ?_ ?s7; (case F7 => k_asm); (case N7 => k_asm); (case l7 => exact News.isList (by k_asm) (by k_mem)); (case k7 => exact IsPart.int _ _); (case z7 => assumption); (case s7 => with_unfolding_all rfl)); intro _ _ _ _ lq2; (try k_lt lq2); (try k_sweep)
  have hv2 := strs_rev hv1
  rw [← List.map_reverse] at hv2
  rename News g1 L1 _ _ => N2
  replace N2 := cb_drop (news := (_, _) :: (L1 + 1, _) :: (107, _) :: rest) N2 (fun p hp => (List.mem_cons.mp hp).elim (fun e => e ▸ List.mem_cons_self ..) fun h => .tail _ (.tail _ h))
  clear hv1 hz1 hz2
  k_steps
  k_dflt (refine' Con.use (c59 w _ _) ?k1 ?k2 ?k3 ?k4 ?k5 ?kK ?kd ?ku ?kc ?_; ((case k1 => k_asm); (case k2 => k_asm); (case k3 => k_asm); (case k4 => k_asm); (case k5 => k_asm); (case kK => first | exact rfl | assumption); (case kd => ktr_room); (case ku => ktr_units); (case kc => assumption)))
  rintro _ _ h5 tk5 F5 N5 zq44_6
  obtain ⟨st, dst, pl1, t11, t12, t13, t14, u11, u13, rfl, rfl, l51, l52, l53⟩ := zq44_6
  k_lt l51
  k_steps
  rename News g1 L1 _ _ => N6
  have l6 := And.intro l51 (And.intro l52 l53)
  clear l51 l52 l53
  k_dflt (refine' Con.use (c59 w _ _) ?k1 ?k2 ?k3 ?k4 ?k5 ?kK ?kd ?ku ?kc ?_; ((case k1 => k_asm); (case k2 => k_asm); (case k3 => k_asm); (case k4 => k_asm); (case k5 => k_asm); (case kK => first | exact rfl | assumption); (case kd => ktr_room); (case ku => ktr_units); (case kc => assumption)))
  rintro _ _ h7 tk7 F7 N7 zq45_6
  obtain ⟨lx, dlx, pl2, t21, t22, t23, t24, u21, u23, rfl, rfl, l71, l72, l73⟩ := zq45_6
  k_lt l71
  k_steps
  rename News h₀ L _ _ => N9
  have zq46 := lexer_abs2 N9 (by omega) (by omega) (by omega) (by omega) (by omega) (by omega) (by omega) (by omega) (by omega) (by grind) (by grind) hc' (ne_of_fields hoc) (ne_of_some (by assumption)) (by
    clear hret N9 N7 F7 N6
    intro fix hm1 hm2 hm3 rest9 vs9 rem n9 v9 hsub hne9 hv9 hz9
    have hm1' := hsub _ hm1
    have hm2' := hsub _ hm2
    have hm3' := hsub _ hm3
    unfold Con
    intro p loose mean mg mb dp un gd cn cs a ccd cl outer A₀ base h₀ L m s Q E B F X N T hk hd hu hcode hret
    refine wpAny_call ?_
    k_dflt (refine' code_nest ?k1 ?k2 ?k3 ?k4 ?k5 ?kA ?kF ?kK ?k6 ?k7 ?k8 ?k9 ?kB ?_ ?c2 ?c3 ?c4 ?c5; (case kA => exact rfl); (case kF => exact rfl); (case kK => assumption); (case k1 => k_asm); (case k2 => k_asm); (case k3 => k_asm); (case k4 => k_asm); (case k5 => k_asm); (case k6 => k_mem); (case k7 => exact codeRec_news (by k_asm) (by k_mem) (by assumption) (by assumption)); (case k8 => ktr_room); (case k9 => exact BindsTo.of_eq rfl); (case c5 => decide); (case kB => exact locs rfl); (case c2 => exact rfl); (case c3 => exact rfl); (case c4 => exact rfl); k_whole)
    intro g1 L1 h1 FG1 F1 N1 B1 X1 T1
    simp only [show Str.ofString "" = tx [] from by decide +kernel]
    try dsimp only
    cases rem with
    | nil =>
      obtain rfl : vs9 = [] := by cases hv9; rfl
      iterate 6 walk1
      refine wpAny_truthy_list (items := #[]) ?_ (by decide) ?_
      · exact News.isList N1 (List.mem_cons_self ..)
      refine W.ite_neg (by decide) ?_
      k_steps
      exact hret _ _ _ _ (by k_asm) (by k_asm) ⟨_, _, _, rfl, rfl, .nil⟩
    | cons c rem =>
      have hv9' := hv9
      rw [List.reverse_cons, List.map_append] at hv9'
      obtain ⟨vs8, t8, rfl, hv8⟩ := strs_last hv9'
      have hz8 : vs8.length = rem.length := by rw [hv8.length, List.length_map, List.length_reverse]
      rw [List.length_cons] at hz9
      iterate 5 walk1
      refine wpAny_truthy_list (News.isList N1 (List.mem_cons_self ..)) (by rw [List.size_toArray, List.length_append, List.length_singleton]; omega) ?_
      refine W.ite_pos (by simp) ?_
      iterate 4 walk1
      refine kl_pop (its := (vs8 ++ [Value.str (tx [c]) t8]).toArray) F1 N1 (p := vs8) (y := .str (tx [c]) t8) (by simpa using kpa_last (.str (tx [c]) t8) vs8) (Upd.head hne9) (by rw [sizeLine_eq, List.length_append, List.length_singleton]; omega) (fun h2 F2 N2 => ?_)
      clear F1 N1
      k_steps
      exact hret _ _ _ _ (by k_asm) (by k_asm) ⟨_, _, _, rfl, rfl, hv8⟩)
  obtain ⟨fix, N10, hfix, h107, hsub, hoff, hne⟩ := zq46
  refine hret _ _ _ _ (by k_asm) N10 ⟨_, _, _, _, _, _, _, _, _, _, _, _, _, _, rfl, rfl, hv2, hfix, hsub, hoff, hne, h107⟩
end
-- C10
/-- the two objects of a lexer that a read turns -/
abbrev lexD (w : World) (dlx : Addr) (t1 t2 t3 t4 u1 u3 : Tok) (ln : Int) (st pl : Addr) (wsp : List Nat) : Addr × Obj := (dlx, dictOf (lexEs w t1 t2 t3 t4 (.int ln u1) (.ref st) (.str (tx wsp) u3) (.ref pl)) 4)
inductive RdPost (w : World) (fix : Led) (dlx sl st pl : Addr) (t1 t2 t3 t4 u3 : Tok) (y : List Nat) (ln : Int) (wsp rm : List Nat) (r : Value) (nx : Led) : Prop
  | mk (t u1' : Tok) (vs' : List Value) (n'' : Nat) (e1 : r = .str (tx y) t) (e2 : nx = lexD w dlx t1 t2 t3 t4 u1' u3 ln st pl wsp :: (sl, listOf (List.toArray vs') n'') :: fix) (h : StrsAre vs' (rm.reverse.map fun c => tx [c])) : RdPost w fix dlx sl st pl t1 t2 t3 t4 u3 y ln wsp rm r nx
noncomputable def lnUp (ln : Int) (rem : List Nat) : Int := if rem.head? = some 10 then ln + 1 else ln
/-- a contract for the code of a call, however the call comes about -/
noncomputable def ConC (w : World) (f : Addr) (vs : List Value) (news : Led) (dd uu : Nat) (Post : Value → Led → Prop) : Prop :=
  ∀ (p : Program) (loose : List Str) (mean : ExcName → Option Value) (mg mb : Str → Option Value)
    (dp un : Nat) (gd : Option (List Code)) (cn : Str) (cs : Scope) (a : Addr) (ccd : Value) (cl : List (Str × Addr)) (outer : List Env) (A₀ : Around) (base h₀ : Heap) (L : Addr) (m : Str → Option Value) (s : Shared)
    (Q E : Value → Shared → Prop),
    Below A₀ base outer h₀ → Fr h₀ L s.heap m → (Mine.hd.heap_39 w.params).In h₀ → News h₀ L s.heap news → Top p loose mean mg mb h₀ → cs.kind = .function → dp + dd < recursionLimit → un + uu < cLine → CodeHd base 111 107 →
    (∀ r nx h' tk', Fr h₀ L h' m → News h₀ L h' nx → Post r nx → Q r { s with heap := h', toks := tk' }) →
    codeAny (model PySem.Challenge.rw_to0013_01.row.prog w) (ktrTop dp un gd cn cs L a ccd cl outer) (.call (.ref f) ⟨vs, []⟩) (fun r s' => match r with | .ok (.ret v) => Q v s' | .ok _ => False | .error e => E e s') s
theorem ConC.con {w : World} {f : Addr} {vs : List Value} {news : Led} {dd uu : Nat} {Post : Value → Led → Prop} (c : ConC w f vs news dd uu Post) : Con w f vs news dd uu Post := by
  unfold Con
  intro p loose mean mg mb dp un gd cn cs a ccd cl outer A₀ base h₀ L m s Q E B F X N T hk hd hu hcode hret
  exact wpAny_call (c p loose mean mg mb dp un gd cn cs a ccd cl outer A₀ base h₀ L m s Q E B F X N T hk hd hu hcode hret)
set_option maxRecDepth 100000 in
set_option maxHeartbeats 8000000 in
theorem c42c (w : World) (fix : Led) (lx dlx sl st pl : Addr) (t1 t2 t3 t4 u1 u3 : Tok) (ln : Int) (wsp : List Nat) (n' : Nat) (vs : List Value) (rem : List Nat)
    (hfix : LexFix w fix lx dlx sl st pl) (hoff : ∀ p ∈ fix, p.1 ≠ dlx ∧ p.1 ≠ sl) (hne : dlx ≠ sl) (hvs : StrsAre vs (rem.reverse.map fun c => tx [c])) (hlen : rem.length ≤ 16777216) :
    ConC w 42 [.ref lx] (lexD w dlx t1 t2 t3 t4 u1 u3 ln st pl wsp :: (sl, listOf vs.toArray n') :: fix) 4 40 (RdPost w fix dlx sl st pl t1 t2 t3 t4 u3 (rem.head?.toList) (lnUp ln rem) wsp (rem.tail)) := by
  obtain ⟨hm1, hm2, dst, f, oc, od, fd, fsl, t5, t6, t7, t8, t9, v1, v2, v3, v4, hm3, hm4, hm5, hpc⟩ := hfix
  have hx1 : ∀ p ∈ fix, p.1 ≠ dlx := fun p hp => (hoff p hp).1
  have hx2 : ∀ p ∈ (lexD w dlx t1 t2 t3 t4 u1 u3 ln st pl wsp :: fix), p.1 ≠ sl := fun p hp => (List.mem_cons.mp hp).elim (fun e => e ▸ hne) fun h => (hoff p h).2
  have hne' : @Ne Nat sl dlx := Ne.symm hne
  unfold ConC
  k_fill
  intro p loose mean mg mb dp un gd cn cs a ccd cl outer A₀ base h₀ L m s Q E B F X N T hk hd hu hcode hret
  k_dflt (refine' code_def ?k1 ?k2 ?k3 ?k4 ?k5 ?kA ?kF ?kK ?k6 ?k7 ?k8 ?k9 ?kB ?_ ?c2 ?c3 ?c4 ?c5; (case kA => exact rfl); (case kF => exact rfl); (case kK => assumption); (case k1 => k_asm); (case k2 => k_asm); (case k3 => k_asm); (case k4 => k_asm); (case k5 => k_asm); (case k6 => k_is); (case k7 => k_is); (case k8 => ktr_room); (case k9 => exact BindsTo.of_eq rfl); (case c5 => decide); (case kB => exact locs rfl); (case c2 => exact rfl); (case c3 => exact rfl); (case c4 => exact rfl); k_whole)
  intro g1 L1 h1 FG1 F1 N1 B1 X1 T1
  simp only [show Str.ofString "\n" = tx [10] from by decide +kernel]
  try dsimp only
  k_steps
  rename News g1 L1 _ _ => N2
  have N3 := cb_drop (news := (sl, listOf vs.toArray n') :: lexD w dlx t1 t2 t3 t4 u1 u3 ln st pl wsp :: fix) N2 (fun p hp => by
    simp only [List.mem_cons] at hp ⊢
    rcases hp with h | h | h
    · exact .inr (.inl h)
    · exact .inl h
    · exact .inr (.inr h))
  clear N2
  k_dflt (refine' Con.use (hpc _ vs rem n' _ (fun p hp => List.mem_cons_of_mem _ hp) hx2 hvs hlen) ?k1 ?k2 ?k3 ?k4 ?k5 ?kK ?kd ?ku ?kc ?_; ((case k1 => k_asm); (case k2 => k_asm); (case k3 => k_asm); (case k4 => k_asm); (case k5 => k_asm); (case kK => first | exact rfl | assumption); (case kd => ktr_room); (case ku => ktr_units); (case kc => assumption)))
  rintro _ _ h5 tk5 F5 N5 zq48_6
  obtain ⟨t9', vs', n'', rfl, rfl, hvs'⟩ := zq48_6
  clear N3 hvs
  have N6 := cb_drop (news := lexD w dlx t1 t2 t3 t4 u1 u3 ln st pl wsp :: (sl, listOf vs'.toArray n'') :: fix) N5 (fun p hp => by
    simp only [List.mem_cons] at hp ⊢
    rcases hp with h | h | h
    · exact .inr (.inl h)
    · exact .inl h
    · exact .inr (.inr h))
  clear N5
  have hall2 : ∀ p ∈ (sl, listOf vs'.toArray n'') :: fix, p.1 ≠ dlx := fun p hp => (List.mem_cons.mp hp).elim (fun e => e ▸ hne') fun h => hx1 p h
  dsimp only [lexD] at N6
  have hln : (rem.head?.toList = [10]) ↔ rem.head? = some 10 := by cases rem <;> simp
  generalize hch : rem.head?.toList = ch at *
  k_steps
  · rename _ = true => hx
    rw [tx_beq, decide_eq_true_eq] at hx
    have e : lnUp ln rem = ln + 1 := by rw [lnUp, if_pos (hln.mp hx)]
    refine hret _ _ _ _ (by k_asm) (by k_asm) ?_
    rw [e]
    exact ⟨_, _, vs', n'', rfl, rfl, hvs'⟩
  · rename _ = false => hx
    rw [tx_beq, decide_eq_false_iff_not] at hx
    have e : lnUp ln rem = ln := by rw [lnUp, if_neg (fun e => hx (hln.mpr e))]
    refine hret _ _ _ _ (by k_asm) (by k_asm) ?_
    rw [e]
    exact ⟨_, u1, vs', n'', rfl, rfl, hvs'⟩
-- C11
theorem owner_ci : Manifest.owners.lookup (String.ofList ['r', 'o', 't', 'a', 'r', 'e', 't', 'i', '_', 'e', 'l', 'b', 'a', 'l', 'l', 'a', 'c'].reverse) = some Manifest.sig_callable_iterator := by kernel_rfl
theorem slot_ci_next : Slot "callable_iterator" "__next__" "callable_iterator.__next__" :=
  .of (owner := "callable_iterator") (n := "__next__") (by rw [typeLookup_type, builtinLookup_eq_fast]; kernel_rfl) (by decide +kernel) (by decide +kernel) (by decide +kernel)
    (by first | exact .inl (by decide +kernel) | exact .inr (by decide +kernel)) (by rw [isSubtype_type]; kernel_rfl)
theorem entry_ci_next : entryFor table "callable_iterator.__next__" = some Builtin.«callable_iterator.__next__» := entryFor_of_tree (by kernel_rfl)
theorem args_ci_next (a : Value) : argsOk "callable_iterator.__next__" ⟨[a], []⟩ := by
  unfold argsOk; rw [signature?_of (id := "callable_iterator.__next__") (n := ['_', '_', 't', 'x', 'e', 'n', '_', '_']) (o := ['r', 'o', 't', 'a', 'r', 'e', 't', 'i', '_', 'e', 'l', 'b', 'a', 'l', 'l', 'a', 'c']) (by kernel_rfl) owner_ci]; kernel_rfl
theorem slot_ci_iter : Slot "callable_iterator" "__iter__" "callable_iterator.__iter__" :=
  .of (owner := "callable_iterator") (n := "__iter__") (by rw [typeLookup_type, builtinLookup_eq_fast]; kernel_rfl) (by decide +kernel) (by decide +kernel) (by decide +kernel)
    (by first | exact .inl (by decide +kernel) | exact .inr (by decide +kernel)) (by rw [isSubtype_type]; kernel_rfl)
theorem args_ci_iter (a : Value) : argsOk "callable_iterator.__iter__" ⟨[a], []⟩ := by
  unfold argsOk; rw [signature?_of (id := "callable_iterator.__iter__") (n := ['_', '_', 'r', 'e', 't', 'i', '_', '_']) (o := ['r', 'o', 't', 'a', 'r', 'e', 't', 'i', '_', 'e', 'l', 'b', 'a', 'l', 'l', 'a', 'c']) (by kernel_rfl) owner_ci]; kernel_rfl
theorem entry_ci_iter : entryFor table "callable_iterator.__iter__" = some Builtin.«dict_keyiterator.__iter__» :=
  entryFor_alias (id' := "dict_keyiterator.__iter__") (by kernel_rfl) (by first | rfl | decide +kernel | (unfold String.splitOn; simp +decide [String.splitOnAux])) (by decide +kernel) (by kernel_rfl)
theorem lookup_method_call : ∃ v, typeLookup (.type "method") "__call__" = pure (some v) := ⟨.builtin "method.__call__", by rw [typeLookup_type, builtinLookup_eq_fast]; kernel_rfl⟩
theorem args_iter2 (a b : Value) : argsOk "iter" ⟨[a, b], []⟩ := by unfold argsOk; kernel_rfl
/-- «iter(q, y)»: what stands in the object -/
noncomputable def citObj (q : Addr) (y : Str) (t : Tok) : Obj := { cls := .type "callable_iterator", data := .fields #[.ref q, .str y t, .bool false] }
noncomputable def citEnd : Obj := { cls := .type "callable_iterator", data := .fields #[.none, .none, .bool true] }
section
variable {prog : Program} {w : World} {A : Around} {E : Value → Shared → Prop} {s : Shared} {h₀ : Heap} {L q D : Addr} {m : Str → Option Value} {news : Led}
theorem iter2_call {f self : Value} {y : Str} {t : Tok} {Q : Value → Shared → Prop} (F : Fr h₀ L s.heap m) (N : News h₀ L s.heap news) (hq : (q, methodObj f self) ∈ news)
    (h : ∀ D h', Fr h₀ L h' m → News h₀ L h' ((D, citObj q y t) :: news) → (∀ p ∈ news, p.1 < D) → Q (.ref D) { s with heap := h' }) : wpAny (model prog w) A (call (.builtin "iter") [.ref q, .str y t]) Q E s := by
  obtain ⟨v, hv⟩ := lookup_method_call
  refine call_function_entry (by decide +kernel) (by decide +kernel) kdk_entry_iter (args_iter2 _ _) ?_
  unfold Builtin.«iter»
  refine wpAny_bind (m := someArgs "iter" 1 2 _) (wpAny_of_eq (a := [Value.ref q, Value.str y t]) (by first | rfl | kernel_rfl!) ?_)
  dsimp only
  refine wpAny_bind (wpAny_specialOf (T := "method") ⟨_, (N _ hq).1, rfl⟩ hv ?_)
  simp only [Option.isNone_some, Bool.false_eq_true, if_false]
  refine wpAny_bind (wpAny_rule ?_)
  unfold newFields
  refine wpAny_bind (wpAny_newObj_type ?_ (by size_fits))
  exact wpAny_pure ⟨_, rfl, h _ _ (F.push _) (News.push F N _ rfl) (fun p hp => Heap.lt_size (N p hp).1)⟩
theorem pyIter_ci {o : Obj} {Q : Value → Shared → Prop} (ho : s.heap.get? D = some o) (hc : o.cls = .type "callable_iterator") (h : Q (.ref D) s) : wpAny (model prog w) A (pyIter (.ref D)) Q E s := by
  have hT : s.TypeIs (.ref D) "callable_iterator" := ⟨o, ho, hc⟩
  refine wpAny_pyIter_slot hT slot_ci_iter (wpAny_call_entry slot_ci_iter hT entry_ci_iter ?_ (args_ci_iter _))
  show wpAny _ _ (ret (.ref D)) _ _ s
  exact wpAny_pure ⟨_, rfl, "callable_iterator", _, hT, slot_ci_next.lookup, h⟩
theorem wpAny_borrowed {f : Value} {pos : List Value} {M : Model} {Q : Value → Shared → Prop}
    (hc : codeAny M A (.call f ⟨pos, []⟩) (fun r s' => match r with | .ok (.ret v) => Q v s' | .ok _ => False | .error e => E e s') s) : wpAny M A (callBorrowed f pos) Q E s := fun Γ p hΓ => by
  unfold callBorrowed
  rw [Sem.wp_call]
  have := hc (Γ.enter (.call f ⟨pos, []⟩) none p) p rfl (hΓ.enter _ none p (by intro x; cases x))
  refine wpCode_mono (fun r s' h => ?_) this
  cases r with
  | error e => exact h
  | ok f => cases f <;> exact h
/-- a turn of the iterator: the call's answer is a sign, or the end -/
theorem next_ci {f : Addr} {self : Value} {y : Str} {t : Tok} {fd : FuncData} {of : Obj} {Q : Option Value → Shared → Prop} (hh : A.handled = none) (h1 : s.heap.get? D = some (citObj q y t)) (h2 : s.heap.get? q = some (methodObj (.ref f) self)) (h3 : s.heap.get? f = some of) (h4 : of.data = .func fd)
    (h : codeAny (model prog w) A.in1 (.call (.ref f) ⟨[self], []⟩) (fun r s' => match r with
      | .ok (.ret v) => ∃ x t', v = .str x t' ∧ s'.heap.get? D = some (citObj q y t) ∧ (∃ o2, s'.heap.get? q = some (methodObj (.ref f) self) ∧ s'.heap.get? f = some o2 ∧ o2.data = .func fd) ∧
          if y = x then ∀ h', h'.get? D = some citEnd → Heap.ExtBut D s'.heap h' → Q none { s' with heap := h' } else Q (some v) s'
      | .ok _ => False | .error _ => False) s) : wpAny (model prog w) A (pyNext (.ref D)) Q E s := by
  have hT : s.TypeIs (.ref D) "callable_iterator" := ⟨_, h1, rfl⟩
  unfold pyNext
  refine wpAny_bind (wpAny_attempt (wpAny_callSpecial?_slot (name := Str.ofString "__next__") hT slot_ci_next (wpAny_call_entry slot_ci_next hT entry_ci_next ?_ (args_ci_next _))))
  unfold Builtin.«callable_iterator.__next__»
  refine wpAny_bind (wpAny_of_eq (a := (Value.ref D, [])) rfl ?_)
  try dsimp only
  refine wpAny_bind (wpAny_field h1 rfl (x := .bool false) rfl ?_)
  rw [if_neg (by decide)]
  refine wpAny_bind (wpAny_field h1 rfl (x := .ref q) rfl ?_)
  refine wpAny_bind (wpAny_attempt ?_)
  unfold callOutOfASlot
  refine wpAny_bind ?_
  unfold borrowsExactly
  dsimp only
  refine wpAny_bind (wpAny_load h2 ?_)
  dsimp only
  rw [if_pos (show (Value.type "method" == Value.type "method") = true by decide)]
  show wpAny _ _ (load f >>= _) _ _ _
  refine wpAny_bind (wpAny_load h3 ?_)
  rw [h4]
  refine wpAny_pure ?_
  rw [if_pos rfl]
  refine wpAny_borrowed (method_call h2 ?_)
  refine codeAny_mono h fun r s' hr => ?_
  cases r with
  | error e => exact hr.elim
  | ok fl =>
    cases fl with
    | ret v =>
      obtain ⟨x, t', rfl, d1, ⟨o2, d2, d3, d4⟩, hq⟩ := hr
      dsimp only
      refine wpAny_bind (wpAny_field d1 rfl (x := .bool false) rfl ?_)
      rw [if_neg (by decide)]
      refine wpAny_bind (wpAny_field d1 rfl (x := .str y t) rfl ?_)
      refine wpAny_bind (wpAny_holding (wpAny_eqBool_str ?_))
      by_cases e : y = x
      · rw [if_pos e] at hq
        rw [decide_eq_true e]
        rw [if_neg (by decide)]
        refine wpAny_bind (wpAny_rule ?_)
        refine wpAny_bind ?_
        show wpAny _ _ (field (.ref D) 0 >>= _) _ _ _
        refine wpAny_bind (wpAny_field d1 rfl (x := .ref q) rfl ?_)
        refine wpAny_bind ?_
        show wpAny _ _ (borrowsExactly (.ref q) >>= _) _ _ _
        refine wpAny_bind ?_
        unfold borrowsExactly
        dsimp only
        refine wpAny_bind (wpAny_load d2 ?_)
        dsimp only
        rw [if_pos (show (Value.type "method" == Value.type "method") = true by decide)]
        show wpAny _ _ (load f >>= _) _ _ _
        refine wpAny_bind (wpAny_load d3 ?_)
        rw [d4]
        refine wpAny_pure ?_
        try rw [if_pos rfl]
        refine wpAny_pure ?_
        try dsimp only
        have u1 := Heap.get?_update_self (Obj.mapFields (·.setIfInBounds 0 Value.none)) d1 (Obj.isFreed_of_fields (Obj.data_mapFields (vs := #[.ref q, .str y t, .bool false]) rfl _))
        refine wpAny_bind (wpAny_setField d1 rfl (by simp) ?_)
        have u2 := Heap.get?_update_self (Obj.mapFields (·.setIfInBounds 1 Value.none)) u1 (Obj.isFreed_of_fields (Obj.data_mapFields (Obj.data_mapFields (vs := #[.ref q, .str y t, .bool false]) rfl _) _))
        refine wpAny_bind (wpAny_setField u1 (Obj.data_mapFields (vs := #[.ref q, .str y t, .bool false]) rfl _) (by simp) ?_)
        have u3 := Heap.get?_update_self (Obj.mapFields (·.setIfInBounds 2 (Value.bool true))) u2 (Obj.isFreed_of_fields (Obj.data_mapFields (Obj.data_mapFields (Obj.data_mapFields (vs := #[.ref q, .str y t, .bool false]) rfl _) _) _))
        refine wpAny_setField u2 (Obj.data_mapFields (Obj.data_mapFields (vs := #[.ref q, .str y t, .bool false]) rfl _) _) (by simp) ?_
        show wpAny _ _ (newExc (.type "StopIteration") [] >>= _) _ _ _
        refine wpAny_bind ?_
        simp only [newExc, newTuple]
        refine wpAny_bind (wpAny_newObj_type ?_ (by size_fits))
        refine wpAny_bind (m := firstArgMember _ _) (wpAny_of_eq (a := Value.none) (by first | rfl | (simp only [firstArgMember]; rfl)) ?_)
        refine wpAny_newObj_type ?_ (by size_fits)
        simp only [raiseNew]
        refine wpAny_bind (wpAny_handled ?_)
        first | rw [show A.in1.handled = none from hh] | rw [hh]
        refine wpAny_bind (wpAny_pure (wpAny_throw ?_))
        refine wpAny_bind (wpAny_isInstance (T := "StopIteration") (b := true) ⟨_, Heap.get?_push_size _ rfl, rfl⟩ isSubtype_stop ?_)
        refine wpAny_pure (hq _ ?_ ?_)
        · rw [Heap.get?_push_of_some _ (Heap.get?_push_of_some _ u3)]
          rfl
        · exact ((((Heap.SameBut.update ..).extBut.trans (Heap.SameBut.update ..).extBut).trans (Heap.SameBut.update ..).extBut).push _).push _
      · rw [if_neg e] at hq
        rw [decide_eq_false e]
        rw [if_pos (by decide)]
        exact wpAny_pure ⟨_, rfl, wpAny_pure hq⟩
    | _ => exact hr.elim
/-- after the end: none again -/
theorem next_ciEnd {Q : Option Value → Shared → Prop} (hh : A.handled = none) (h1 : s.heap.get? D = some citEnd)
    (h : ∀ h', Heap.ExtBut D s.heap h' → h'.get? D = some citEnd → Q none { s with heap := h' }) : wpAny (model prog w) A (pyNext (.ref D)) Q E s := by
  have hT : s.TypeIs (.ref D) "callable_iterator" := ⟨_, h1, rfl⟩
  unfold pyNext
  refine wpAny_bind (wpAny_attempt (wpAny_callSpecial?_slot (name := Str.ofString "__next__") hT slot_ci_next (wpAny_call_entry slot_ci_next hT entry_ci_next ?_ (args_ci_next _))))
  unfold Builtin.«callable_iterator.__next__»
  refine wpAny_bind (wpAny_of_eq (a := (Value.ref D, [])) rfl ?_)
  try dsimp only
  refine wpAny_bind (wpAny_field h1 rfl (x := .bool true) rfl ?_)
  rw [if_pos (by decide)]
  refine wpAny_bind (wpAny_rule ?_)
  first
  | show wpAny _ _ (newExc (.type "StopIteration") [] >>= _) _ _ _
  | (refine wpAny_bind ?_; show wpAny _ _ (newExc (.type "StopIteration") [] >>= _) _ _ _)
  refine wpAny_bind ?_
  simp only [newExc, newTuple]
  refine wpAny_bind (wpAny_newObj_type ?_ (by size_fits))
  refine wpAny_bind (m := firstArgMember _ _) (wpAny_of_eq (a := Value.none) (by first | rfl | (simp only [firstArgMember]; rfl)) ?_)
  refine wpAny_newObj_type ?_ (by size_fits)
  simp only [raiseNew]
  refine wpAny_bind (wpAny_handled ?_)
  first | rw [show A.in1.handled = none from hh] | rw [hh]
  refine wpAny_bind (wpAny_pure (wpAny_throw ?_))
  refine wpAny_bind (wpAny_isInstance (T := "StopIteration") (b := true) ⟨_, Heap.get?_push_size _ rfl, rfl⟩ isSubtype_stop ?_)
  exact wpAny_pure (h _ (((Heap.ExtBut.refl _ _).push _).push _) (Heap.get?_push_of_some _ (Heap.get?_push_of_some _ h1)))
end
-- C12
theorem LexFix.mono {w : World} {fix fix' : Led} {lx dlx sl st pl : Addr} (h : LexFix w fix lx dlx sl st pl) (hs : ∀ p ∈ fix, p ∈ fix') : LexFix w fix' lx dlx sl st pl := by
  obtain ⟨a, b, dst, f, oc, od, fd, fsl, t1, t2, t3, t4, t5, v1, v2, v3, v4, c, d, e, g⟩ := h
  exact ⟨hs _ a, hs _ b, dst, f, oc, od, fd, fsl, t1, t2, t3, t4, t5, v1, v2, v3, v4, hs _ c, hs _ d, hs _ e, fun rest vs rem n v h1 h2 h3 h4 => g rest vs rem n v (fun p hp => h1 p (hs p hp)) h2 h3 h4⟩
/-- the line, told by what is still to read -/
noncomputable def lnOf (T : Int) (rem : List Nat) : Int := T - ((rem.count 10 : Nat) : Int)
theorem lnUp_of (T : Int) : ∀ rem : List Nat, lnUp (lnOf T rem) rem = lnOf T rem.tail
  | [] => rfl
  | c :: r => by
    simp only [lnUp, lnOf, List.head?_cons, List.tail_cons, List.count_cons]
    by_cases h : c = 10
    · simp [h]; omega
    · simp [h]
theorem c42y (w : World) (fix : Led) (lx dlx sl st pl : Addr) (t1 t2 t3 t4 u1 u3 : Tok) (T : Int) (wsp : List Nat) (n' : Nat) (vs : List Value) (rem : List Nat)
    (hfix : LexFix w fix lx dlx sl st pl) (hoff : ∀ p ∈ fix, p.1 ≠ dlx ∧ p.1 ≠ sl) (hne : dlx ≠ sl) (hvs : StrsAre vs (rem.reverse.map fun c => tx [c])) (hlen : rem.length ≤ 16777216) (y r0 : List Nat) (hy : rem.head?.toList = y) (hr : rem.tail = r0) :
    ConC w 42 [.ref lx] (lexD w dlx t1 t2 t3 t4 u1 u3 (lnOf T rem) st pl wsp :: (sl, listOf vs.toArray n') :: fix) 4 40 (RdPost w fix dlx sl st pl t1 t2 t3 t4 u3 y (lnOf T r0) wsp r0) := by
  subst hy hr
  have := c42c w fix lx dlx sl st pl t1 t2 t3 t4 u1 u3 (lnOf T rem) wsp n' vs rem hfix hoff hne hvs hlen
  rw [lnUp_of] at this
  exact this
/-- a reading -/
structure Rd where
  (lx dlx sl st pl D q : Addr) (t1 t2 t3 t4 u3 t0 : Tok) (T : Int) (wsp : List Nat) (fix : Led)
noncomputable def cit (q : Addr) (t0 : Tok) : Bool → Obj
  | true => citEnd
  | false => citObj q (tx []) t0
structure Rd.Ok (R : Rd) (w : World) : Prop where
  fix : LexFix w R.fix R.lx R.dlx R.sl R.st R.pl
  bound : (R.q, methodObj (.ref 42) (.ref R.lx)) ∈ R.fix
  off : ∀ p ∈ R.fix, p.1 ≠ R.dlx ∧ p.1 ≠ R.sl ∧ p.1 ≠ R.D
  ne1 : R.dlx ≠ R.sl
  ne2 : R.D ≠ R.dlx
  ne3 : R.D ≠ R.sl
theorem fnIn_ex {K : Frag} {f : Addr} (h : fnIn K f = true) : ∃ of fd, K.lookup f = some of ∧ of.data = .func fd := by
  unfold fnIn at h
  cases e : K.lookup f with
  | none => rw [e] at h; cases h
  | some o =>
    obtain ⟨c, d, dt, sl⟩ := o
    rw [e] at h
    cases dt <;> first | exact ⟨_, _, rfl, rfl⟩ | cases h
/-- where the reading stands -/
inductive CiAt (w : World) (R : Rd) (b : Bool) (rem : List Nat) (h₀ : Heap) (L : Addr) (m : Str → Option Value) (h : Heap) : Prop
  | mk (u1 : Tok) (vs : List Value) (n' : Nat) (hv : StrsAre vs (rem.reverse.map fun c => tx [c])) (F : Fr h₀ L h m)
    (N : News h₀ L h (lexD w R.dlx R.t1 R.t2 R.t3 R.t4 u1 R.u3 (lnOf R.T rem) R.st R.pl R.wsp :: (R.sl, listOf vs.toArray n') :: (R.D, cit R.q R.t0 b) :: R.fix)) : CiAt w R b rem h₀ L m h
set_option maxRecDepth 100000 in
set_option maxHeartbeats 4000000 in
theorem next_fit {w : World} {R : Rd} (ok : R.Ok w) {b : Bool} {rem : List Nat} (hb : b = true → rem = []) (hlen : rem.length ≤ 16777216) {p : Program} {loose : List Str} {mean : ExcName → Option Value} {mg mb : Str → Option Value}
    {dp un : Nat} {gd : Option (List Code)} {cn : Str} {cs : Scope} {a : Addr} {ccd : Value} {cl : List (Str × Addr)} {outer : List Env} {A A₀ : Around} {base h₀ : Heap} {L : Addr} {m : Str → Option Value} {s : Shared} {Q : Option Value → Shared → Prop} {E : Value → Shared → Prop}
    (hA : A = ktrTop dp un gd cn cs L a ccd cl outer) (B : Below A₀ base outer h₀) (X : (Mine.hd.heap_39 w.params).In h₀) (T : Top p loose mean mg mb h₀) (hk : cs.kind = .function) (hd : dp + 4 < recursionLimit) (hu : un + 41 < cLine) (hcode : CodeHd base 111 107)
    (C : CiAt w R b rem h₀ L m s.heap)
    (h1 : ∀ c r h' tk t, rem = c :: r → CiAt w R false r h₀ L m h' → Q (some (.str (tx [c]) t)) { s with heap := h', toks := tk })
    (h2 : ∀ h' tk, rem = [] → CiAt w R true [] h₀ L m h' → Q none { s with heap := h', toks := tk }) :
    wpAny (model PySem.Challenge.rw_to0013_01.row.prog w) A (pyNext (.ref R.D)) Q E s := by
  revert X; k_fill; intro X
  obtain ⟨u1, vs, n', hvs, F, N⟩ := C
  have hDm : (R.D, cit R.q R.t0 b) ∈ (lexD w R.dlx R.t1 R.t2 R.t3 R.t4 u1 R.u3 (lnOf R.T rem) R.st R.pl R.wsp :: (R.sl, listOf vs.toArray n') :: (R.D, cit R.q R.t0 b) :: R.fix) := List.mem_cons_of_mem _ (List.mem_cons_of_mem _ (List.mem_cons_self ..))
  -- the object alone has turned
  have turn : ∀ (h h' : Heap) (u1 : Tok) (vs : List Value) (n' : Nat) (b : Bool) (rem : List Nat), Fr h₀ L h m →
      News h₀ L h (lexD w R.dlx R.t1 R.t2 R.t3 R.t4 u1 R.u3 (lnOf R.T rem) R.st R.pl R.wsp :: (R.sl, listOf vs.toArray n') :: (R.D, cit R.q R.t0 b) :: R.fix) → StrsAre vs (rem.reverse.map fun c => tx [c]) →
      Heap.ExtBut R.D h h' → h'.get? R.D = some citEnd → CiAt w R true rem h₀ L m h' := by
    intro h h' u1 vs n' b rem F N hvs hx hg
    have hD := N _ (List.mem_cons_of_mem _ (List.mem_cons_of_mem _ (List.mem_cons_self ..)))
    refine ⟨u1, vs, n', hvs, ⟨F.ns.extBut hx (Ne.symm hD.2.1), fun c o e => hx c o (fun e' => ?_) (F.keep c o e), F.above⟩, fun p hp => ?_⟩
    · rw [e', hD.2.2] at e; cases e
    · rcases List.mem_cons.mp hp with e | hp
      · rw [e]; exact ⟨hx _ _ (Ne.symm ok.ne2) (N _ (List.mem_cons_self ..)).1, (N _ (List.mem_cons_self ..)).2⟩
      rcases List.mem_cons.mp hp with e | hp
      · rw [e]; exact ⟨hx _ _ (Ne.symm ok.ne3) (N _ (List.mem_cons_of_mem _ (List.mem_cons_self ..))).1, (N _ (List.mem_cons_of_mem _ (List.mem_cons_self ..))).2⟩
      rcases List.mem_cons.mp hp with e | hp
      · rw [e]; exact ⟨hg, hD.2⟩
      · have hm : p ∈ (lexD w R.dlx R.t1 R.t2 R.t3 R.t4 u1 R.u3 (lnOf R.T rem) R.st R.pl R.wsp :: (R.sl, listOf vs.toArray n') :: (R.D, cit R.q R.t0 b) :: R.fix) := List.mem_cons_of_mem _ (List.mem_cons_of_mem _ (List.mem_cons_of_mem _ hp))
        exact ⟨hx _ _ (ok.off _ hp).2.2 (N _ hm).1, (N _ hm).2⟩
  have hh : A.handled = none := by rw [hA]
  cases b with
  | true =>
    obtain rfl := hb rfl
    exact next_ciEnd hh (N _ hDm).1 fun h' hx hg => h2 h' s.toks rfl (turn _ _ _ _ _ _ _ F N hvs hx hg)
  | false =>
    have hqm : (R.q, methodObj (.ref 42) (.ref R.lx)) ∈ (lexD w R.dlx R.t1 R.t2 R.t3 R.t4 u1 R.u3 (lnOf R.T rem) R.st R.pl R.wsp :: (R.sl, listOf vs.toArray n') :: (R.D, cit R.q R.t0 false) :: R.fix) := List.mem_cons_of_mem _ (List.mem_cons_of_mem _ (List.mem_cons_of_mem _ ok.bound))
    obtain ⟨of, fd, hK1, hK2⟩ := fnIn_ex (show fnIn (Mine.hd.heap_39 w.params) 42 = true by k_is)
    refine next_ci hh (N _ hDm).1 (N _ hqm).1 ((X.keeps F.keep) _ _ hK1) hK2 ?_
    rw [hA]
    refine codeAny_mono (c42c w ((R.D, cit R.q R.t0 false) :: R.fix) R.lx R.dlx R.sl R.st R.pl R.t1 R.t2 R.t3 R.t4 u1 R.u3 (lnOf R.T rem) R.wsp n' vs rem (ok.fix.mono fun p hp => List.mem_cons_of_mem _ hp) ?_ ok.ne1 hvs hlen
      p loose mean mg mb dp (un + 1) gd cn cs a ccd cl outer A₀ base h₀ L m s (fun v s' => ∃ h' tk', s' = { s with heap := h', toks := tk' } ∧ Fr h₀ L h' m ∧ ∃ t u1' vs' n'', v = .str (tx rem.head?.toList) t ∧ StrsAre vs' (rem.tail.reverse.map fun c => tx [c]) ∧
        News h₀ L h' (lexD w R.dlx R.t1 R.t2 R.t3 R.t4 u1' R.u3 (lnOf R.T rem.tail) R.st R.pl R.wsp :: (R.sl, listOf vs'.toArray n'') :: (R.D, cit R.q R.t0 false) :: R.fix)) (fun _ _ => False) B F X N T hk hd (by omega) hcode ?_) (fun r s' hr => ?_)
    · intro p hp
      rcases List.mem_cons.mp hp with e | hp
      · rw [e]; exact ⟨ok.ne2, ok.ne3⟩
      · exact ⟨(ok.off p hp).1, (ok.off p hp).2.1⟩
    · rintro r nx h' tk' F' N' ⟨t, u1', vs', n'', rfl, rfl, hvs'⟩
      rw [lnUp_of] at N'
      exact ⟨h', tk', rfl, F', t, u1', vs', n'', rfl, hvs', N'⟩
    · cases r with
      | error e => exact hr.elim
      | ok fl =>
        cases fl with
        | ret v =>
          obtain ⟨h', tk', rfl, F', t, u1', vs', n'', rfl, hvs', N'⟩ := hr
          refine ⟨tx rem.head?.toList, t, rfl, (N' _ (List.mem_cons_of_mem _ (List.mem_cons_of_mem _ (List.mem_cons_self ..)))).1, ⟨of, (N' _ (List.mem_cons_of_mem _ (List.mem_cons_of_mem _ (List.mem_cons_of_mem _ ok.bound)))).1, (X.keeps F'.keep) _ _ hK1, hK2⟩, ?_⟩
          cases rem with
          | nil =>
            rw [if_pos (by rfl)]
            exact fun h'' hg hx => h2 h'' tk' rfl (turn _ _ _ _ _ _ _ F' N' hvs' hx hg)
          | cons c r =>
            rw [if_neg (fun e => by cases tx_inj e)]
            exact h1 c r h' tk' t rfl ⟨u1', vs', n'', hvs', F', N'⟩
        | _ => exact hr.elim
-- C13
inductive CiEnd (w : World) (R : Rd) (h₀ : Heap) (L : Addr) (J : Bool → List Nat → (Str → Option Value) → Prop) (n : Nat) (s s₂ : Shared) : Prop
  | mk (b : Bool) (rem : List Nat) (m' : Str → Option Value) (h' : Heap) (tk' : Nat) (e : s₂ = { s with heap := h', toks := tk' }) (C : CiAt w R b rem h₀ L m' h') (hb : b = true → rem = []) (hl : rem.length ≤ n) (hJ : J b rem m') : CiEnd w R h₀ L J n s s₂
noncomputable def CiPost (w : World) (R : Rd) (h₀ : Heap) (L : Addr) (J : Bool → List Nat → (Str → Option Value) → Prop) (n : Nat) (s : Shared) (Q : Flow → Shared → Prop) (f : Flow) (s₂ : Shared) : Prop :=
  match f with
  | .ret v => Q (.ret v) s₂
  | .brk => Q .next s₂
  | _ => CiEnd w R h₀ L J n s s₂
/-- «for x in fiter» -/
theorem For_ci {w : World} {R : Rd} (ok : R.Ok w) {b : Bool} {rem : List Nat} (hb : b = true → rem = []) (hlen : rem.length ≤ 16777216) {p : Program} {loose : List Str} {mean : ExcName → Option Value} {mg mb : Str → Option Value}
    {dp un : Nat} {gd : Option (List Code)} {cn : Str} {cs : Scope} {a : Addr} {ccd : Value} {cl : List (Str × Addr)} {outer : List Env} {A A₀ : Around} {base h₀ : Heap} {L : Addr} {m : Str → Option Value} {s : Shared} {Q : Flow → Shared → Prop} {E : Value → Shared → Prop}
    {x : Str} {px pos : Pos} {iter : Expr} {body : List Stmt}
    (hA : A = ktrTop dp un gd cn cs L a ccd cl outer) (B : Below A₀ base outer h₀) (X : (Mine.hd.heap_39 w.params).In h₀) (T : Top p loose mean mg mb h₀) (hk : cs.kind = .function) (hd : dp + 4 < recursionLimit) (hu : un + 41 < cLine) (hcode : CodeHd base 111 107)
    (C : CiAt w R b rem h₀ L m s.heap) (J : Bool → List Nat → (Str → Option Value) → Prop) (hJ : J b rem m)
    (heval : ∀ Q' : Value → Shared → Prop, Q' (.ref R.D) s → wpAny (model PySem.Challenge.rw_to0013_01.row.prog w) A (eval iter (envX cn cs L a ccd cl)) Q' E s)
    (turn : ∀ c r m₁ h' tk t, J false (c :: r) m₁ → CiAt w R false r h₀ L (fun y => if y = x then some (.str (tx [c]) t) else m₁ y) h' →
      wpAny (model PySem.Challenge.rw_to0013_01.row.prog w) A (execs body (envX cn cs L a ccd cl)) (CiPost w R h₀ L J r.length s Q) E { s with heap := h', toks := tk })
    (fin : ∀ b' m₁ h' tk, J b' [] m₁ → CiAt w R true [] h₀ L m₁ h' → Q .next { s with heap := h', toks := tk })
    (hx : (envX cn cs L a ccd cl).kindOf x = some .local := by rfl)
    (hs : ∀ y, foldedSetIterable iter (envX cn cs L a ccd cl) y = pure y := by intro _; rfl)
    (hE : PassesOwn (model PySem.Challenge.rw_to0013_01.row.prog w) A (envX cn cs L a ccd cl) E := by passes_own) :
    wpAny (model PySem.Challenge.rw_to0013_01.row.prog w) A (exec (.For (.Name x px) iter body [] pos) (envX cn cs L a ccd cl)) Q E s := by
  have hDg : ∃ o, s.heap.get? R.D = some o ∧ o.cls = .type "callable_iterator" := by
    obtain ⟨u1, vs, n', hvs, F, N⟩ := C
    refine ⟨_, (N _ (List.mem_cons_of_mem _ (List.mem_cons_of_mem _ (List.mem_cons_self ..)))).1, ?_⟩
    cases b <;> rfl
  obtain ⟨o, ho1, ho2⟩ := hDg
  refine wpAny_For (heval _ (pyIter_ci ho1 ho2 ?_)) hs
  refine codeAny_forLoop (R := fun r s' => match r with | .ok f => Q f s' | .error e => cameBackBy (model PySem.Challenge.rw_to0013_01.row.prog w) A (envX cn cs L a ccd cl) E e s')
    (fun n s' => ∃ b' rem' m' h' tk', s' = { s with heap := h', toks := tk' } ∧ CiAt w R b' rem' h₀ L m' h' ∧ (b' = true → rem' = []) ∧ J b' rem' m' ∧ n = rem'.length ∧ rem'.length ≤ 16777216) ?_ rem.length ⟨b, rem, m, s.heap, s.toks, rfl, C, hb, hJ, rfl, hlen⟩
  rintro n s' zq50_2
  obtain ⟨b', rem', m', h', tk', rfl, C', hb', hJ', rfl, hlen'⟩ := zq50_2
  refine next_fit ok hb' hlen' hA B X T hk hd hu hcode C' (fun c r h'' tk t hr C'' => ?_) (fun h'' tk hr C'' => ?_)
  · skip
    obtain ⟨u1, vs, n', hvs, F, N⟩ := C''
    refine wpAny_assign_Name (storeX_L F N (fun h3 F3 N3 => ?_) hk hx)
    have hbf : b' = false := by
      cases b' with
      | false => rfl
      | true => rw [hb' rfl] at hr; cases hr
    subst hr hbf
    refine wpAny_passesOwn hE (wpAny_mono (turn c r m' h3 (tk + 1) t hJ' ⟨u1, vs, n', hvs, F3, N3⟩) (fun f s₃ h₃ => ?_) fun _ _ e => e)
    cases f with
    | ret v => exact h₃
    | brk => exact h₃
    | next =>
      obtain ⟨b2, rem2, m2, h2, tk2, rfl, C2, hb2, hl2, hJ2⟩ := h₃
      exact ⟨rem2.length, by simp only [List.length_cons]; omega, b2, rem2, m2, h2, tk2, rfl, C2, hb2, hJ2, rfl, by simp only [List.length_cons] at hlen'; omega⟩
    | cont =>
      obtain ⟨b2, rem2, m2, h2, tk2, rfl, C2, hb2, hl2, hJ2⟩ := h₃
      exact ⟨rem2.length, by simp only [List.length_cons]; omega, b2, rem2, m2, h2, tk2, rfl, C2, hb2, hJ2, rfl, by simp only [List.length_cons] at hlen'; omega⟩
  · subst hr
    exact wpAny_execs_nil (fin _ _ _ _ hJ' C'')
-- C14
/-- what a quoted reading answers: token, what remains -/
noncomputable def tokQ (acc : List Nat) : List Nat → List Nat × List Nat
  | [] => (acc, [])
  | c :: r => if c = 34 then (acc, r) else if c = 92 then (match r with | [] => (acc, []) | d :: r' => tokQ (acc ++ [d]) r') else tokQ (acc ++ [c]) r
/-- a plain reading -/
noncomputable def tokW (wsp acc : List Nat) : List Nat → List Nat × List Nat
  | [] => (acc, [])
  | c :: r => if c ∈ wsp then (acc, r) else if c = 92 then (match r with | [] => (acc, []) | d :: r' => tokW wsp (acc ++ [d]) r') else tokW wsp (acc ++ [c]) r
/-- one token -/
noncomputable def tok (wsp : List Nat) : List Nat → List Nat × List Nat
  | [] => ([], [])
  | c :: r => if c ∈ wsp then tok wsp r else if c = 34 then tokQ [] r else if c = 92 then (match r with | [] => ([], []) | d :: r' => tokW wsp [d] r') else tokW wsp [c] r
theorem tok_ws {wsp r : List Nat} {c : Nat} (h : c ∈ wsp) : tok wsp (c :: r) = tok wsp r := by cases r <;> simp [tok, h]
theorem tok_q {wsp r : List Nat} {c : Nat} (h : c ∉ wsp) (h2 : c = 34) : tok wsp (c :: r) = tokQ [] r := by subst h2; cases r <;> simp [tok, h]
theorem tok_b {wsp r : List Nat} {c : Nat} (h : c ∉ wsp) (h2 : c = 92) : tok wsp (c :: r) = tokW wsp r.head?.toList r.tail := by subst h2; cases r <;> simp [tok, tokW, h]
theorem tok_o {wsp r : List Nat} {c : Nat} (h : c ∉ wsp) (h2 : c ≠ 34) (h3 : c ≠ 92) : tok wsp (c :: r) = tokW wsp [c] r := by cases r <;> simp [tok, h, h2, h3]
theorem tokW_ws {wsp acc r : List Nat} {c : Nat} (h : c ∈ wsp) : tokW wsp acc (c :: r) = (acc, r) := by cases r <;> simp [tokW, h]
theorem tokW_b {wsp acc r : List Nat} {c : Nat} (h : c ∉ wsp) (h2 : c = 92) : tokW wsp acc (c :: r) = tokW wsp (acc ++ r.head?.toList) r.tail := by subst h2; cases r <;> simp [tokW, h]
theorem tokW_o {wsp acc r : List Nat} {c : Nat} (h : c ∉ wsp) (h3 : c ≠ 92) : tokW wsp acc (c :: r) = tokW wsp (acc ++ [c]) r := by cases r <;> simp [tokW, h, h3]
theorem tokQ_q {acc r : List Nat} {c : Nat} (h2 : c = 34) : tokQ acc (c :: r) = (acc, r) := by cases r <;> simp [tokQ, h2]
theorem tokQ_b {acc r : List Nat} {c : Nat} (h2 : c = 92) : tokQ acc (c :: r) = tokQ (acc ++ r.head?.toList) r.tail := by subst h2; cases r <;> simp [tokQ]
theorem tokQ_o {acc r : List Nat} {c : Nat} (h2 : c ≠ 34) (h3 : c ≠ 92) : tokQ acc (c :: r) = tokQ (acc ++ [c]) r := by cases r <;> simp [tokQ, h2, h3]
/-- the frame of «get_token» -/
noncomputable def mAt (D lx : Addr) (vch : Option Value) (acc : List Nat) (t : Tok) : Str → Option Value := fun y => if y = Str.ofString "ch" then vch else if y = Str.ofString "token" then some (.str (tx acc) t) else if y = Str.ofString "fiter" then some (.ref D) else if y = Str.ofString "self" then some (.ref lx) else none
theorem s_ne : Str.ofString "ch" ≠ Str.ofString "fiter" ∧ Str.ofString "ch" ≠ Str.ofString "token" ∧ Str.ofString "ch" ≠ Str.ofString "self" ∧ Str.ofString "token" ≠ Str.ofString "fiter" ∧ Str.ofString "token" ≠ Str.ofString "self" ∧ Str.ofString "fiter" ≠ Str.ofString "self" := by decide +kernel
theorem m0_eq (D lx : Addr) (t : Tok) (y : Str) : (if y = Str.ofString "fiter" then some (.ref D) else if y = Str.ofString "token" then some (.str (tx []) t) else List.lookup y [(Str.ofString "self", Value.ref lx)]) = mAt D lx none [] t y := by
  obtain ⟨h1, h2, h3, h4, h5, h6⟩ := s_ne
  unfold mAt
  by_cases e1 : y = Str.ofString "ch"
  · subst e1
    rw [if_neg h1, if_neg h2, if_pos rfl, List.lookup_cons, show (Str.ofString "ch" == Str.ofString "self") = false from beq_eq_false_iff_ne.mpr h3]
    rfl
  rw [if_neg e1]
  by_cases e2 : y = Str.ofString "token"
  · subst e2
    rw [if_neg h4, if_pos rfl, if_pos rfl]
  rw [if_neg e2, if_neg e2]
  by_cases e3 : y = Str.ofString "fiter"
  · rw [if_pos e3, if_pos e3]
  rw [if_neg e3, if_neg e3, List.lookup_cons]
  by_cases e4 : y = Str.ofString "self"
  · subst e4; simp
  · rw [if_neg e4, show (y == Str.ofString "self") = false from beq_eq_false_iff_ne.mpr e4]; rfl
theorem mAt_ch (D lx : Addr) (v : Option Value) (w : Value) (acc : List Nat) (t : Tok) (y : Str) : (if y = Str.ofString "ch" then some w else mAt D lx v acc t y) = mAt D lx (some w) acc t y := by
  unfold mAt; split <;> rfl
theorem mAt_tok1 (D lx : Addr) (v : Value) (acc acc' : List Nat) (t t' : Tok) (y : Str) : (if y = Str.ofString "token" then some (.str (tx acc') t') else if y = Str.ofString "ch" then some v else if y = Str.ofString "token" then some (.str (tx acc) t) else if y = Str.ofString "fiter" then some (.ref D) else if y = Str.ofString "self" then some (.ref lx) else none) = mAt D lx (some v) acc' t' y := by
  obtain ⟨h1, h2, h3, h4, h5, h6⟩ := s_ne
  unfold mAt
  by_cases e1 : y = Str.ofString "ch"
  · subst e1; rw [if_neg h2, if_pos rfl, if_pos rfl]
  · rw [if_neg e1, if_neg e1]
    by_cases e2 : y = Str.ofString "token"
    · rw [if_pos e2, if_pos e2]
    · rw [if_neg e2, if_neg e2, if_neg e2]
theorem mAt_tok2 (D lx : Addr) (v v' : Value) (acc acc' : List Nat) (t t' : Tok) (y : Str) : (if y = Str.ofString "token" then some (.str (tx acc') t') else if y = Str.ofString "ch" then some v else if y = Str.ofString "ch" then some v' else if y = Str.ofString "token" then some (.str (tx acc) t) else if y = Str.ofString "fiter" then some (.ref D) else if y = Str.ofString "self" then some (.ref lx) else none) = mAt D lx (some v) acc' t' y := by
  rw [← mAt_tok1 D lx v acc acc' t t' y]
  by_cases e1 : y = Str.ofString "ch"
  · rw [if_pos e1, if_pos e1]
  · rw [if_neg e1, if_neg e1, if_neg e1]
inductive TokJ (D lx : Addr) (f : List Nat → List Nat → List Nat × List Nat) (z : List Nat × List Nat) (n : Nat) (rem' : List Nat) (m' : Str → Option Value) : Prop
  | mk (vch : Option Value) (acc : List Nat) (t : Tok) (e : m' = mAt D lx vch acc t) (h1 : f acc rem' = z) (h2 : acc.length + rem'.length ≤ 50000) (h3 : rem'.length ≤ n) : TokJ D lx f z n rem' m'
set_option maxRecDepth 100000 in
set_option maxHeartbeats 8000000 in
theorem c49 (w : World) (fix : Led) (lx dlx sl st pl : Addr) (t1 t2 t3 t4 u1 u3 : Tok) (T' : Int) (wsp : List Nat) (n' : Nat) (vs : List Value) (rem : List Nat)
    (hfix : LexFix w fix lx dlx sl st pl) (hoff : ∀ p ∈ fix, p.1 ≠ dlx ∧ p.1 ≠ sl) (hne : dlx ≠ sl) (hvs : StrsAre vs (rem.reverse.map fun c => tx [c])) (hlen : rem.length ≤ 50000) :
    Con w 49 [.ref lx] (lexD w dlx t1 t2 t3 t4 u1 u3 (lnOf T' rem) st pl wsp :: (sl, listOf vs.toArray n') :: fix) 10 80 (RdPost w fix dlx sl st pl t1 t2 t3 t4 u3 ((tok wsp rem).1) (lnOf T' (tok wsp rem).2) wsp ((tok wsp rem).2)) := by
  have hm1 := hfix.h1
  have hm2 := hfix.h2
  unfold Con
  k_fill
  intro p loose mean mg mb dp un gd cn cs a ccd cl outer A₀ base h₀ L m s Q E B F X N T hk hd hu hcode hret
  refine wpAny_call ?_
  k_dflt (refine' code_def ?k1 ?k2 ?k3 ?k4 ?k5 ?kA ?kF ?kK ?k6 ?k7 ?k8 ?k9 ?kB ?_ ?c2 ?c3 ?c4 ?c5; (case kA => exact rfl); (case kF => exact rfl); (case kK => assumption); (case k1 => k_asm); (case k2 => k_asm); (case k3 => k_asm); (case k4 => k_asm); (case k5 => k_asm); (case k6 => k_is); (case k7 => k_is); (case k8 => ktr_room); (case k9 => exact BindsTo.of_eq rfl); (case c5 => decide); (case kB => exact locs rfl); (case c2 => exact rfl); (case c3 => exact rfl); (case c4 => exact rfl); k_whole)
  intro g1 L1 h1 FG1 F1 N1 B1 X1 T1
  simp only [show Str.ofString "\"" = tx [34] from by decide +kernel, show Str.ofString "\\" = tx [92] from by decide +kernel, show Str.ofString "" = tx [] from by decide +kernel]
  try dsimp only
  (repeat' ((fail_if_success (with_reducible show wpAny _ _ (PySem.exec (PySem.Stmt.For _ _ _ _ _) _) _ _ _)); (fail_if_success (with_reducible show wpAny _ _ (PySem.eval (PySem.Expr.ListComp _ _ _ _) _) _ _ _)); (first | (k_unfold; (try dsimp only)) | (k_end; wrow_close) | walk1 | (dsimp only; walk1) | (leave1; try dsimp only) )))
  rename News g1 L1 _ _ => N2
  have hple : (pl, listOf (List.toArray []) 0) ∈ lexD w dlx t1 t2 t3 t4 u1 u3 (lnOf T' rem) st pl wsp :: (sl, listOf vs.toArray n') :: fix := List.mem_cons_of_mem _ (List.mem_cons_of_mem _ hm2)
  refine wpAny_truthy_list (News.isList N2 hple) (by decide) ?_
  try dsimp only
  rw [if_neg (by decide)]
  (repeat' ((fail_if_success (with_reducible show wpAny _ _ (PySem.exec (PySem.Stmt.For _ _ _ _ _) _) _ _ _)); (fail_if_success (with_reducible show wpAny _ _ (PySem.eval (PySem.Expr.ListComp _ _ _ _) _) _ _ _)); (first | (k_unfold; (try dsimp only)) | (k_end; wrow_close) | walk1 | (dsimp only; walk1) | (leave1; try dsimp only) )))
  rename News g1 L1 _ _ => N3
  rename Fr g1 L1 _ _ => F3
  rename Addr => q
  rename _ ∧ _ ∧ AllLt _ _ => l3
  generalize ht0 : tk + 1 + 1 + 1 = t0
  refine iter2_call F3 N3 (List.mem_cons_self ..) (fun D h4 F4 N4 l4 => ?_)
  (repeat' ((fail_if_success (with_reducible show wpAny _ _ (PySem.exec (PySem.Stmt.For _ _ _ _ _) _) _ _ _)); (fail_if_success (with_reducible show wpAny _ _ (PySem.eval (PySem.Expr.ListComp _ _ _ _) _) _ _ _)); (first | (k_unfold; (try dsimp only)) | (k_end; wrow_close) | walk1 | (dsimp only; walk1) | (leave1; try dsimp only) )))
  rename News g1 L1 _ _ => N5
  rename Fr g1 L1 _ _ => F5
  replace F5 := Fr_eqm (m' := mAt D lx none [] _) F5 (fun y => m0_eq D lx _ y)
  let R : Rd := ⟨lx, dlx, sl, st, pl, D, q, t1, t2, t3, t4, u3, t0, T', wsp, (q, methodObj (.ref 42) (.ref lx)) :: fix⟩
  have okR : R.Ok w := by
    refine ⟨hfix.mono fun p hp => List.mem_cons_of_mem _ hp, List.mem_cons_self .., ?_, hne, Nat.ne_of_gt (l4 _ (List.mem_cons_of_mem _ (List.mem_cons_self ..))), Nat.ne_of_gt (l4 _ (List.mem_cons_of_mem _ (List.mem_cons_of_mem _ (List.mem_cons_self ..))))⟩
    intro p hp
    have hD := Nat.ne_of_lt (l4 p ((List.mem_cons.mp hp).elim (fun e => e ▸ List.mem_cons_self ..) fun h => List.mem_cons_of_mem _ (List.mem_cons_of_mem _ (List.mem_cons_of_mem _ h))))
    rcases List.mem_cons.mp hp with e | hp
    · subst e; exact ⟨Nat.ne_of_gt l3.1, Nat.ne_of_gt l3.2.1, hD⟩
    · exact ⟨(hoff p hp).1, (hoff p hp).2, hD⟩
  have C0 := (show CiAt w R false rem g1 L1 _ _ from ⟨u1, vs, n', hvs, F5, cb_drop N5 (fun p hp => by
    dsimp only [R, cit] at hp
    simp only [List.mem_cons] at hp ⊢
    rcases hp with h | h | h | h | h
    · exact .inr (.inr (.inl h))
    · exact .inr (.inr (.inr (.inl h)))
    · exact .inl h
    · exact .inr (.inl h)
    · exact .inr (.inr (.inr (.inr h))))⟩)
  k_dflt (refine' For_ci okR (fun e => by cases e) (by omega) ?hA B1 X1 T1 ?hk ?hd ?hu hcode C0 (fun b rem' m' => ∃ vch acc t, m' = mAt D lx vch acc t ∧ ((b = false ∧ acc = [] ∧ tok wsp rem' = tok wsp rem ∧ rem'.length ≤ rem.length) ∨ (b = true ∧ tok wsp rem = (acc, [])))) ⟨none, [], _, rfl, .inl ⟨rfl, rfl, rfl, Nat.le_refl _⟩⟩ ?heval ?turn ?fin)
  case hA => exact rfl
  case hk => exact rfl
  case hd => ktr_room
  case hu => ktr_units
  case heval => intro Q' hq; have F5 := F5; walk1; exact hq
  case turn =>
    rintro c r m₁ h6 tk6 t6 zq54_6 zq54_7
    obtain ⟨vch, acc, t, rfl, hcase⟩ := zq54_6
    obtain ⟨u1', vs', n'', hvs', F6, N6⟩ := zq54_7
    obtain ⟨-, rfl, hrem, hcl⟩ : false = false ∧ acc = [] ∧ tok wsp (c :: r) = tok wsp rem ∧ @LE.le Nat _ (c :: r).length rem.length := by
      rcases hcase with h | ⟨h, -⟩
      · exact h
      · cases h
    rw [List.length_cons] at hcl
    clear C0 F5 N5 hcase
    replace F6 := Fr_eqm (m' := fun y => if y = Str.ofString "ch" then some (.str (tx [c]) t6) else if y = Str.ofString "token" then some (.str (tx []) t) else if y = Str.ofString "fiter" then some (.ref D) else if y = Str.ofString "self" then some (.ref lx) else none) F6 (fun y => mAt_ch D lx vch _ [] t y)
    dsimp only [R, cit, lexD] at N6
    dsimp only
    (repeat' ((fail_if_success (with_reducible show wpAny _ _ (PySem.exec (PySem.Stmt.For _ _ _ _ _) _) _ _ _)); (fail_if_success (with_reducible show wpAny _ _ (PySem.eval (PySem.Expr.ListComp _ _ _ _) _) _ _ _)); (first | (k_unfold; (try dsimp only)) | (k_end; wrow_close) | walk1 | (dsimp only; walk1) | (leave1; try dsimp only) )))
    rotate_left
    · -- a backslash first
      rename (tx [c] == tx [92]) = true => h92
      rename (tx [c] == tx [34]) = false => h34
      rename (Builtin.Str.occurrences _ _ _ _ _).isEmpty = true => hws
      rw [tx_beq, decide_eq_true_eq] at h92
      replace h92 : c = 92 := by simpa using h92
      rw [tx_beq, decide_eq_false_iff_not] at h34
      replace h34 : c ≠ 34 := by simpa using h34
      rw [occ_tx, decide_eq_true_eq] at hws
      obtain ⟨acc0, hd0e⟩ : ∃ d, r.head?.toList = d := ⟨_, rfl⟩
      obtain ⟨r0, hr0⟩ : ∃ d, r.tail = d := ⟨_, rfl⟩
      have hac : @LE.le Nat _ acc0.length 1 := by rw [← hd0e]; cases r <;> simp
      have hlt : @LE.le Nat _ r0.length r.length := by rw [← hr0]; cases r <;> simp
      k_dflt (refine' Con.use ((c42y w ((D, citObj q (tx []) t0) :: (q, methodObj (.ref 42) (.ref lx)) :: fix) lx dlx sl st pl t1 t2 t3 t4 u1' u3 T' wsp n'' vs' r (hfix.mono fun p hp => List.mem_cons_of_mem _ (List.mem_cons_of_mem _ hp)) ?f2 hne hvs' (by omega) acc0 r0 hd0e hr0).con) ?k1 ?k2 ?k3 ?k4 ?k5 ?kK ?kd ?ku ?kc ?_; ((case k1 => k_asm); (case k2 => k_asm); (case k3 => k_asm); (case k4 => k_asm); (case k5 => k_asm); (case kK => first | exact rfl | assumption); (case kd => ktr_room); (case ku => ktr_units); (case kc => assumption)))
      case f2 => intro p hp; rcases List.mem_cons.mp hp with e | hp
                 · exact e ▸ ⟨okR.ne2, okR.ne3⟩
                 · exact ⟨(okR.off p hp).1, (okR.off p hp).2.1⟩
      rintro _ _ h8 tk8 F8 N8 zq55_6
      obtain ⟨t8, u8, vs8, n8, rfl, rfl, hvs8⟩ := zq55_6
      (repeat' ((fail_if_success (with_reducible show wpAny _ _ (PySem.exec (PySem.Stmt.For _ _ _ _ _) _) _ _ _)); (fail_if_success (with_reducible show wpAny _ _ (PySem.eval (PySem.Expr.ListComp _ _ _ _) _) _ _ _)); (first | (k_unfold; (try dsimp only)) | (k_end; wrow_close) | walk1 | (dsimp only; walk1) | (leave1; try dsimp only) )))
      rename News g1 L1 _ _ => N7
      rename Fr g1 L1 _ _ => F7
      rw [List.nil_append] at F7
      replace F7 := Fr_eqm (m' := mAt D lx (some (.str (tx acc0) t8)) acc0 _) F7 (fun y => mAt_tok2 D lx _ _ _ _ _ _ y)
      have hplain : tok wsp rem = tokW wsp acc0 r0 := by rw [← hrem, tok_b hws h92, hd0e, hr0]
      have C9 : CiAt w R false r0 g1 L1 _ _ := ⟨u8, vs8, n8, hvs8, F7, N7⟩
      clear F7 N7
      k_dflt (refine' For_ci okR (fun e => by cases e) (by omega) ?hA2 B1 X1 T1 ?hk2 ?hd2 ?hu2 hcode C9 (fun _ rem' m' => TokJ D lx (tokW wsp) (tok wsp rem) r.length rem' m') ⟨_, _, _, rfl, hplain.symm, by omega, hlt⟩ ?heval2 ?turn2 ?fin2)
      case hA2 => exact rfl
      case hk2 => exact rfl
      case hd2 => ktr_room
      case hu2 => ktr_units
      case heval2 => obtain ⟨_, _, _, _, F5, N5⟩ := C9; intro Q' hq; walk1; exact hq
      case turn2 =>
        rintro c2 r2 m₁ h16 tk16 t16 zq56_6 zq56_7
        obtain ⟨vch2, acc2, tt2, rfl, htk, hl2, hl3⟩ := zq56_6
        obtain ⟨u21, vs2, n2, hvs2, F16, N16⟩ := zq56_7
        clear C9
        replace F16 := Fr_eqm (m' := fun y => if y = Str.ofString "ch" then some (.str (tx [c2]) t16) else if y = Str.ofString "token" then some (.str (tx acc2) tt2) else if y = Str.ofString "fiter" then some (.ref D) else if y = Str.ofString "self" then some (.ref lx) else none) F16 (fun y => mAt_ch D lx vch2 _ acc2 tt2 y)
        dsimp only [R, cit, lexD] at N16
        dsimp only
        rw [List.length_cons] at hl2 hl3
        (repeat' ((fail_if_success (with_reducible show wpAny _ _ (PySem.exec (PySem.Stmt.For _ _ _ _ _) _) _ _ _)); (fail_if_success (with_reducible show wpAny _ _ (PySem.eval (PySem.Expr.ListComp _ _ _ _) _) _ _ _)); (first | (k_unfold; (try dsimp only)) | (k_end; wrow_close) | walk1 | (dsimp only; walk1) | (leave1; try dsimp only) )))
        · rename (tx [c2] == tx [92]) = true => k92
          rename (Builtin.Str.occurrences _ _ _ _ _).isEmpty = true => kws
          rw [tx_beq, decide_eq_true_eq] at k92
          replace k92 : c2 = 92 := by simpa using k92
          rw [occ_tx, decide_eq_true_eq] at kws
          obtain ⟨d1, hd1e⟩ : ∃ d, r2.head?.toList = d := ⟨_, rfl⟩
          obtain ⟨r3, hr3⟩ : ∃ d, r2.tail = d := ⟨_, rfl⟩
          have hd1 : @LE.le Nat _ d1.length 1 := by rw [← hd1e]; cases r2 <;> simp
          have hd2 : @LE.le Nat _ r3.length r2.length := by rw [← hr3]; cases r2 <;> simp
          have hd3 : @LE.le Nat _ (d1.length + r3.length) r2.length := by rw [← hd1e, ← hr3]; cases r2 <;> simp <;> omega
          k_dflt (refine' Con.use ((c42y w ((D, citObj q (tx []) t0) :: (q, methodObj (.ref 42) (.ref lx)) :: fix) lx dlx sl st pl t1 t2 t3 t4 u21 u3 T' wsp n2 vs2 r2 (hfix.mono fun p hp => List.mem_cons_of_mem _ (List.mem_cons_of_mem _ hp)) (fun p hp => (List.mem_cons.mp hp).elim (fun e => e ▸ ⟨okR.ne2, okR.ne3⟩) fun hp => ⟨(okR.off p hp).1, (okR.off p hp).2.1⟩) hne hvs2 (by omega) d1 r3 hd1e hr3).con) ?k1 ?k2 ?k3 ?k4 ?k5 ?kK ?kd ?ku ?kc ?_; ((case k1 => k_asm); (case k2 => k_asm); (case k3 => k_asm); (case k4 => k_asm); (case k5 => k_asm); (case kK => first | exact rfl | assumption); (case kd => ktr_room); (case ku => ktr_units); (case kc => assumption)))
          rintro _ _ h18 tk18 F18 N18 zq57_6
          obtain ⟨t18, u18, vs18, n18, rfl, rfl, hvs18⟩ := zq57_6
          (repeat' ((fail_if_success (with_reducible show wpAny _ _ (PySem.exec (PySem.Stmt.For _ _ _ _ _) _) _ _ _)); (fail_if_success (with_reducible show wpAny _ _ (PySem.eval (PySem.Expr.ListComp _ _ _ _) _) _ _ _)); (first | (k_unfold; (try dsimp only)) | (k_end; wrow_close) | walk1 | (dsimp only; walk1) | (leave1; try dsimp only) )))
          rename News g1 L1 _ _ => N19
          rename Fr g1 L1 _ _ => F19
          replace F19 := Fr_eqm (m' := mAt D lx (some (.str (tx d1) t18)) (acc2 ++ d1) _) F19 (fun y => mAt_tok2 D lx _ _ _ _ _ _ y)
          exact ⟨false, r3, _, _, _, rfl, ⟨u18, vs18, n18, hvs18, F19, N19⟩, (fun e => by cases e), hd2, _, _, _, rfl, (by rw [← htk, tokW_b kws k92, hd1e, hr3]), (by rw [List.length_append]; omega), by omega⟩
        · rename (tx [c2] == tx [92]) = false => k92
          rename (Builtin.Str.occurrences _ _ _ _ _).isEmpty = true => kws
          rw [tx_beq, decide_eq_false_iff_not] at k92
          replace k92 : c2 ≠ 92 := by simpa using k92
          rw [occ_tx, decide_eq_true_eq] at kws
          rename News g1 L1 _ _ => N19
          rename Fr g1 L1 _ _ => F19
          replace F19 := Fr_eqm (m' := mAt D lx (some (.str (tx [c2]) t16)) (acc2 ++ [c2]) _) F19 (fun y => mAt_tok1 D lx _ _ _ _ _ y)
          exact ⟨false, r2, _, _, _, rfl, ⟨u21, vs2, n2, hvs2, F19, N19⟩, (fun e => by cases e), Nat.le_refl _, _, _, _, rfl, (by rw [← htk, tokW_o kws k92]), (by rw [List.length_append, List.length_singleton]; omega), by omega⟩
        · rename (Builtin.Str.occurrences _ _ _ _ _).isEmpty = false => kws
          rw [occ_tx, decide_eq_false_iff_not, Classical.not_not] at kws
          have htk2 : tok wsp rem = (acc2, r2) := by rw [← htk, tokW_ws kws]
          dsimp only [CiPost]
          k_steps
          rw [htk2] at hret
          rename News h₀ L _ _ => N19
          refine hret _ _ _ _ (by k_asm) (cb_drop N19 (fun p hp => ?_)) ⟨tt2, u21, vs2, n2, rfl, rfl, hvs2⟩
          simp only [List.mem_cons] at hp ⊢
          rcases hp with h | h | h
          · exact .inl h
          · exact .inr (.inl h)
          · exact .inr (.inr (.inr (.inr h)))
      case fin2 =>
        rintro b2 m₁ h16 tk16 zq58_4 C16
        obtain ⟨vch2, acc2, tt2, rfl, htk, hl2, hl3⟩ := zq58_4
        (repeat' ((fail_if_success (with_reducible show wpAny _ _ (PySem.exec (PySem.Stmt.For _ _ _ _ _) _) _ _ _)); (fail_if_success (with_reducible show wpAny _ _ (PySem.eval (PySem.Expr.ListComp _ _ _ _) _) _ _ _)); (first | (k_unfold; (try dsimp only)) | (k_end; wrow_close) | walk1 | (dsimp only; walk1) | (leave1; try dsimp only) )))
        exact ⟨true, [], _, _, _, rfl, C16, fun _ => rfl, Nat.zero_le _, _, _, _, rfl, .inr ⟨rfl, by rw [← htk]; rfl⟩⟩
    · -- another sign first
      rename (tx [c] == tx [92]) = false => h92
      rename (tx [c] == tx [34]) = false => h34
      rename (Builtin.Str.occurrences _ _ _ _ _).isEmpty = true => hws
      rw [tx_beq, decide_eq_false_iff_not] at h92
      replace h92 : c ≠ 92 := by simpa using h92
      rw [tx_beq, decide_eq_false_iff_not] at h34
      replace h34 : c ≠ 34 := by simpa using h34
      rw [occ_tx, decide_eq_true_eq] at hws
      rename News g1 L1 _ _ => N7
      rename Fr g1 L1 _ _ => F7
      rw [List.nil_append] at F7
      replace F7 := Fr_eqm (m' := mAt D lx (some (.str (tx [c]) t6)) [c] _) F7 (fun y => mAt_tok1 D lx _ _ _ _ _ y)
      have hplain : tok wsp rem = tokW wsp [c] r := by rw [← hrem, tok_o hws h34 h92]
      have hlt : @LE.le Nat _ r.length r.length := Nat.le_refl _
      have C9 : CiAt w R false r g1 L1 _ _ := ⟨u1', vs', n'', hvs', F7, N7⟩
      have hac : @LE.le Nat _ [c].length 1 := by first | exact hd0 | simp
      generalize hacc : [c] = acc0 at C9 hplain hac
      clear F7 N7
      k_dflt (refine' For_ci okR (fun e => by cases e) (by omega) ?hA2 B1 X1 T1 ?hk2 ?hd2 ?hu2 hcode C9 (fun _ rem' m' => TokJ D lx (tokW wsp) (tok wsp rem) r.length rem' m') ⟨_, _, _, rfl, hplain.symm, by first | omega | (simp only [List.length_nil, List.length_singleton]; omega), hlt⟩ ?heval2 ?turn2 ?fin2)
      case hA2 => exact rfl
      case hk2 => exact rfl
      case hd2 => ktr_room
      case hu2 => ktr_units
      case heval2 => obtain ⟨_, _, _, _, F5, N5⟩ := C9; intro Q' hq; walk1; exact hq
      case turn2 =>
        rintro c2 r2 m₁ h16 tk16 t16 zq59_6 zq59_7
        obtain ⟨vch2, acc2, tt2, rfl, htk, hl2, hl3⟩ := zq59_6
        obtain ⟨u21, vs2, n2, hvs2, F16, N16⟩ := zq59_7
        clear C9
        replace F16 := Fr_eqm (m' := fun y => if y = Str.ofString "ch" then some (.str (tx [c2]) t16) else if y = Str.ofString "token" then some (.str (tx acc2) tt2) else if y = Str.ofString "fiter" then some (.ref D) else if y = Str.ofString "self" then some (.ref lx) else none) F16 (fun y => mAt_ch D lx vch2 _ acc2 tt2 y)
        dsimp only [R, cit, lexD] at N16
        dsimp only
        rw [List.length_cons] at hl2 hl3
        (repeat' ((fail_if_success (with_reducible show wpAny _ _ (PySem.exec (PySem.Stmt.For _ _ _ _ _) _) _ _ _)); (fail_if_success (with_reducible show wpAny _ _ (PySem.eval (PySem.Expr.ListComp _ _ _ _) _) _ _ _)); (first | (k_unfold; (try dsimp only)) | (k_end; wrow_close) | walk1 | (dsimp only; walk1) | (leave1; try dsimp only) )))
        · rename (tx [c2] == tx [92]) = true => k92
          rename (Builtin.Str.occurrences _ _ _ _ _).isEmpty = true => kws
          rw [tx_beq, decide_eq_true_eq] at k92
          replace k92 : c2 = 92 := by simpa using k92
          rw [occ_tx, decide_eq_true_eq] at kws
          obtain ⟨d1, hd1e⟩ : ∃ d, r2.head?.toList = d := ⟨_, rfl⟩
          obtain ⟨r3, hr3⟩ : ∃ d, r2.tail = d := ⟨_, rfl⟩
          have hd1 : @LE.le Nat _ d1.length 1 := by rw [← hd1e]; cases r2 <;> simp
          have hd2 : @LE.le Nat _ r3.length r2.length := by rw [← hr3]; cases r2 <;> simp
          have hd3 : @LE.le Nat _ (d1.length + r3.length) r2.length := by rw [← hd1e, ← hr3]; cases r2 <;> simp <;> omega
          k_dflt (refine' Con.use ((c42y w ((D, citObj q (tx []) t0) :: (q, methodObj (.ref 42) (.ref lx)) :: fix) lx dlx sl st pl t1 t2 t3 t4 u21 u3 T' wsp n2 vs2 r2 (hfix.mono fun p hp => List.mem_cons_of_mem _ (List.mem_cons_of_mem _ hp)) (fun p hp => (List.mem_cons.mp hp).elim (fun e => e ▸ ⟨okR.ne2, okR.ne3⟩) fun hp => ⟨(okR.off p hp).1, (okR.off p hp).2.1⟩) hne hvs2 (by omega) d1 r3 hd1e hr3).con) ?k1 ?k2 ?k3 ?k4 ?k5 ?kK ?kd ?ku ?kc ?_; ((case k1 => k_asm); (case k2 => k_asm); (case k3 => k_asm); (case k4 => k_asm); (case k5 => k_asm); (case kK => first | exact rfl | assumption); (case kd => ktr_room); (case ku => ktr_units); (case kc => assumption)))
          rintro _ _ h18 tk18 F18 N18 zq60_6
          obtain ⟨t18, u18, vs18, n18, rfl, rfl, hvs18⟩ := zq60_6
          (repeat' ((fail_if_success (with_reducible show wpAny _ _ (PySem.exec (PySem.Stmt.For _ _ _ _ _) _) _ _ _)); (fail_if_success (with_reducible show wpAny _ _ (PySem.eval (PySem.Expr.ListComp _ _ _ _) _) _ _ _)); (first | (k_unfold; (try dsimp only)) | (k_end; wrow_close) | walk1 | (dsimp only; walk1) | (leave1; try dsimp only) )))
          rename News g1 L1 _ _ => N19
          rename Fr g1 L1 _ _ => F19
          replace F19 := Fr_eqm (m' := mAt D lx (some (.str (tx d1) t18)) (acc2 ++ d1) _) F19 (fun y => mAt_tok2 D lx _ _ _ _ _ _ y)
          exact ⟨false, r3, _, _, _, rfl, ⟨u18, vs18, n18, hvs18, F19, N19⟩, (fun e => by cases e), hd2, _, _, _, rfl, (by rw [← htk, tokW_b kws k92, hd1e, hr3]), (by rw [List.length_append]; omega), by omega⟩
        · rename (tx [c2] == tx [92]) = false => k92
          rename (Builtin.Str.occurrences _ _ _ _ _).isEmpty = true => kws
          rw [tx_beq, decide_eq_false_iff_not] at k92
          replace k92 : c2 ≠ 92 := by simpa using k92
          rw [occ_tx, decide_eq_true_eq] at kws
          rename News g1 L1 _ _ => N19
          rename Fr g1 L1 _ _ => F19
          replace F19 := Fr_eqm (m' := mAt D lx (some (.str (tx [c2]) t16)) (acc2 ++ [c2]) _) F19 (fun y => mAt_tok1 D lx _ _ _ _ _ y)
          exact ⟨false, r2, _, _, _, rfl, ⟨u21, vs2, n2, hvs2, F19, N19⟩, (fun e => by cases e), Nat.le_refl _, _, _, _, rfl, (by rw [← htk, tokW_o kws k92]), (by rw [List.length_append, List.length_singleton]; omega), by omega⟩
        · rename (Builtin.Str.occurrences _ _ _ _ _).isEmpty = false => kws
          rw [occ_tx, decide_eq_false_iff_not, Classical.not_not] at kws
          have htk2 : tok wsp rem = (acc2, r2) := by rw [← htk, tokW_ws kws]
          dsimp only [CiPost]
          k_steps
          rw [htk2] at hret
          rename News h₀ L _ _ => N19
          refine hret _ _ _ _ (by k_asm) (cb_drop N19 (fun p hp => ?_)) ⟨tt2, u21, vs2, n2, rfl, rfl, hvs2⟩
          simp only [List.mem_cons] at hp ⊢
          rcases hp with h | h | h
          · exact .inl h
          · exact .inr (.inl h)
          · exact .inr (.inr (.inr (.inr h)))
      case fin2 =>
        rintro b2 m₁ h16 tk16 zq61_4 C16
        obtain ⟨vch2, acc2, tt2, rfl, htk, hl2, hl3⟩ := zq61_4
        (repeat' ((fail_if_success (with_reducible show wpAny _ _ (PySem.exec (PySem.Stmt.For _ _ _ _ _) _) _ _ _)); (fail_if_success (with_reducible show wpAny _ _ (PySem.eval (PySem.Expr.ListComp _ _ _ _) _) _ _ _)); (first | (k_unfold; (try dsimp only)) | (k_end; wrow_close) | walk1 | (dsimp only; walk1) | (leave1; try dsimp only) )))
        exact ⟨true, [], _, _, _, rfl, C16, fun _ => rfl, Nat.zero_le _, _, _, _, rfl, .inr ⟨rfl, by rw [← htk]; rfl⟩⟩
    rotate_left
    · -- a quotation mark first
      rename (tx [c] == tx [34]) = true => h34
      rename (Builtin.Str.occurrences _ _ _ _ _).isEmpty = true => hws
      rw [tx_beq, decide_eq_true_eq] at h34
      replace h34 : c = 34 := by simpa using h34
      rw [occ_tx, decide_eq_true_eq] at hws
      have hplain : tok wsp rem = tokQ [] r := by rw [← hrem, tok_q hws h34]
      have hlt : @LE.le Nat _ r.length r.length := Nat.le_refl _
      have C9 : CiAt w R false r g1 L1 (mAt D lx (some (.str (tx [c]) t6)) [] t) _ := ⟨u1', vs', n'', hvs', F6, N6⟩
      have hac : @LE.le Nat _ ([] : List Nat).length 1 := by first | exact hd0 | simp
      k_dflt (refine' For_ci okR (fun e => by cases e) (by omega) ?hA2 B1 X1 T1 ?hk2 ?hd2 ?hu2 hcode C9 (fun _ rem' m' => TokJ D lx tokQ (tok wsp rem) r.length rem' m') ⟨_, _, _, rfl, hplain.symm, by first | omega | (simp only [List.length_nil, List.length_singleton]; omega), hlt⟩ ?heval2 ?turn2 ?fin2)
      case hA2 => exact rfl
      case hk2 => exact rfl
      case hd2 => ktr_room
      case hu2 => ktr_units
      case heval2 => obtain ⟨_, _, _, _, F5, N5⟩ := C9; intro Q' hq; walk1; exact hq
      case turn2 =>
        rintro c2 r2 m₁ h16 tk16 t16 zq62_6 zq62_7
        obtain ⟨vch2, acc2, tt2, rfl, htk, hl2, hl3⟩ := zq62_6
        obtain ⟨u21, vs2, n2, hvs2, F16, N16⟩ := zq62_7
        clear C9
        replace F16 := Fr_eqm (m' := fun y => if y = Str.ofString "ch" then some (.str (tx [c2]) t16) else if y = Str.ofString "token" then some (.str (tx acc2) tt2) else if y = Str.ofString "fiter" then some (.ref D) else if y = Str.ofString "self" then some (.ref lx) else none) F16 (fun y => mAt_ch D lx vch2 _ acc2 tt2 y)
        dsimp only [R, cit, lexD] at N16
        dsimp only
        rw [List.length_cons] at hl2 hl3
        (repeat' ((fail_if_success (with_reducible show wpAny _ _ (PySem.exec (PySem.Stmt.For _ _ _ _ _) _) _ _ _)); (fail_if_success (with_reducible show wpAny _ _ (PySem.eval (PySem.Expr.ListComp _ _ _ _) _) _ _ _)); (first | (k_unfold; (try dsimp only)) | (k_end; wrow_close) | walk1 | (dsimp only; walk1) | (leave1; try dsimp only) )))
        · rename (tx [c2] == tx [34]) = true => k34
          rw [tx_beq, decide_eq_true_eq] at k34
          replace k34 : c2 = 34 := by simpa using k34
          have htk2 : tok wsp rem = (acc2, r2) := by rw [← htk, tokQ_q k34]
          dsimp only [CiPost]
          k_steps
          rw [htk2] at hret
          rename News h₀ L _ _ => N19
          refine hret _ _ _ _ (by k_asm) (cb_drop N19 (fun p hp => ?_)) ⟨tt2, u21, vs2, n2, rfl, rfl, hvs2⟩
          simp only [List.mem_cons] at hp ⊢
          rcases hp with h | h | h
          · exact .inl h
          · exact .inr (.inl h)
          · exact .inr (.inr (.inr (.inr h)))
        · rename (tx [c2] == tx [92]) = true => k92
          rename (tx [c2] == tx [34]) = false => k34
          rw [tx_beq, decide_eq_true_eq] at k92
          replace k92 : c2 = 92 := by simpa using k92
          obtain ⟨d1, hd1e⟩ : ∃ d, r2.head?.toList = d := ⟨_, rfl⟩
          obtain ⟨r3, hr3⟩ : ∃ d, r2.tail = d := ⟨_, rfl⟩
          have hd1 : @LE.le Nat _ d1.length 1 := by rw [← hd1e]; cases r2 <;> simp
          have hd2 : @LE.le Nat _ r3.length r2.length := by rw [← hr3]; cases r2 <;> simp
          have hd3 : @LE.le Nat _ (d1.length + r3.length) r2.length := by rw [← hd1e, ← hr3]; cases r2 <;> simp <;> omega
          k_dflt (refine' Con.use ((c42y w ((D, citObj q (tx []) t0) :: (q, methodObj (.ref 42) (.ref lx)) :: fix) lx dlx sl st pl t1 t2 t3 t4 u21 u3 T' wsp n2 vs2 r2 (hfix.mono fun p hp => List.mem_cons_of_mem _ (List.mem_cons_of_mem _ hp)) (fun p hp => (List.mem_cons.mp hp).elim (fun e => e ▸ ⟨okR.ne2, okR.ne3⟩) fun hp => ⟨(okR.off p hp).1, (okR.off p hp).2.1⟩) hne hvs2 (by omega) d1 r3 hd1e hr3).con) ?k1 ?k2 ?k3 ?k4 ?k5 ?kK ?kd ?ku ?kc ?_; ((case k1 => k_asm); (case k2 => k_asm); (case k3 => k_asm); (case k4 => k_asm); (case k5 => k_asm); (case kK => first | exact rfl | assumption); (case kd => ktr_room); (case ku => ktr_units); (case kc => assumption)))
          rintro _ _ h18 tk18 F18 N18 zq63_6
          obtain ⟨t18, u18, vs18, n18, rfl, rfl, hvs18⟩ := zq63_6
          (repeat' ((fail_if_success (with_reducible show wpAny _ _ (PySem.exec (PySem.Stmt.For _ _ _ _ _) _) _ _ _)); (fail_if_success (with_reducible show wpAny _ _ (PySem.eval (PySem.Expr.ListComp _ _ _ _) _) _ _ _)); (first | (k_unfold; (try dsimp only)) | (k_end; wrow_close) | walk1 | (dsimp only; walk1) | (leave1; try dsimp only) )))
          rename News g1 L1 _ _ => N19
          rename Fr g1 L1 _ _ => F19
          replace F19 := Fr_eqm (m' := mAt D lx (some (.str (tx d1) t18)) (acc2 ++ d1) _) F19 (fun y => mAt_tok2 D lx _ _ _ _ _ _ y)
          exact ⟨false, r3, _, _, _, rfl, ⟨u18, vs18, n18, hvs18, F19, N19⟩, (fun e => by cases e), hd2, _, _, _, rfl, (by rw [← htk, tokQ_b k92, hd1e, hr3]), (by rw [List.length_append]; omega), by omega⟩
        · rename (tx [c2] == tx [92]) = false => k92
          rename (tx [c2] == tx [34]) = false => k34
          rw [tx_beq, decide_eq_false_iff_not] at k92
          replace k92 : c2 ≠ 92 := by simpa using k92
          rw [tx_beq, decide_eq_false_iff_not] at k34
          replace k34 : c2 ≠ 34 := by simpa using k34
          rename News g1 L1 _ _ => N19
          rename Fr g1 L1 _ _ => F19
          replace F19 := Fr_eqm (m' := mAt D lx (some (.str (tx [c2]) t16)) (acc2 ++ [c2]) _) F19 (fun y => mAt_tok1 D lx _ _ _ _ _ y)
          exact ⟨false, r2, _, _, _, rfl, ⟨u21, vs2, n2, hvs2, F19, N19⟩, (fun e => by cases e), Nat.le_refl _, _, _, _, rfl, (by rw [← htk, tokQ_o k34 k92]), (by rw [List.length_append, List.length_singleton]; omega), by omega⟩
      case fin2 =>
        rintro b2 m₁ h16 tk16 zq64_4 C16
        obtain ⟨vch2, acc2, tt2, rfl, htk, hl2, hl3⟩ := zq64_4
        (repeat' ((fail_if_success (with_reducible show wpAny _ _ (PySem.exec (PySem.Stmt.For _ _ _ _ _) _) _ _ _)); (fail_if_success (with_reducible show wpAny _ _ (PySem.eval (PySem.Expr.ListComp _ _ _ _) _) _ _ _)); (first | (k_unfold; (try dsimp only)) | (k_end; wrow_close) | walk1 | (dsimp only; walk1) | (leave1; try dsimp only) )))
        exact ⟨true, [], _, _, _, rfl, C16, fun _ => rfl, Nat.zero_le _, _, _, _, rfl, .inr ⟨rfl, by rw [← htk]; rfl⟩⟩
    · rename (Builtin.Str.occurrences _ _ _ _ _).isEmpty = false => hws
      rw [occ_tx, decide_eq_false_iff_not, Classical.not_not] at hws
      exact ⟨false, r, _, _, _, rfl, ⟨u1', vs', n'', hvs', F6, N6⟩, (fun e => by cases e), Nat.le_refl _, _, [], t, funext fun y => by unfold mAt; rfl, .inl ⟨rfl, rfl, by rw [← hrem]; exact (tok_ws hws).symm, by omega⟩⟩
  case fin =>
    rintro b' m₁ h6 tk6 zq65_4 zq65_5
    obtain ⟨vch, acc, t, rfl, hcase⟩ := zq65_4
    obtain ⟨u1', vs', n'', hvs', F6, N6⟩ := zq65_5
    have htk : tok wsp rem = (acc, []) := by
      rcases hcase with ⟨-, rfl, e, -⟩ | ⟨-, e⟩
      · rw [← e]; rfl
      · exact e
    clear C0 F5 N5 hcase
    replace F6 := Fr_eqm (m' := fun y => if y = Str.ofString "ch" then vch else if y = Str.ofString "token" then some (.str (tx acc) t) else if y = Str.ofString "fiter" then some (.ref D) else if y = Str.ofString "self" then some (.ref lx) else none) F6 (fun y => rfl)
    dsimp only [R, cit] at N6
    dsimp only
    k_steps
    rw [htk] at hret
    rename News h₀ L _ _ => N9
    refine hret _ _ _ _ (by k_asm) (cb_drop N9 (fun p hp => ?_)) ⟨t, u1', vs', n'', rfl, rfl, hvs'⟩
    simp only [List.mem_cons] at hp ⊢
    rcases hp with h | h | h
    · exact .inl h
    · exact .inr (.inl h)
    · exact .inr (.inr (.inr (.inr h)))
-- C16
set_option maxRecDepth 100000 in
set_option maxHeartbeats 8000000 in
theorem c119 (w : World) (rest : Led) (x bl : List Nat) (t tb : Tok) (c' : Addr) (oc' : Obj) (vs' : Array Value) (t' : Tok) (hr : ∀ p ∈ rest, p.1 ≠ 107) (hc' : (c', oc') ∈ rest) (hoc : oc'.data = .fields vs')
    (hqn : vs'[1]? = some (.str (Str.ofString "_law_lexer.<locals>._law_piece") t')) (hlen : x.length ≤ 50000) :
    Con w 119 [.str (tx x) t, .str (tx bl) tb] ((107, tabObj (#[] ++ #[rawInt 127, rawInt 4, .ref c'])) :: rest) 6 60 (LexPost w x bl rest (fun fix => (107, tabObj (#[] ++ #[rawInt 127, rawInt 4, .ref c'])) ∈ fix)) := by
  unfold Con
  k_fill
  intro p loose mean mg mb dp un gd cn cs a ccd cl outer A₀ base h₀ L m s Q E B F X N T hk hd hu hcode hret
  refine wpAny_call ?_
  k_dflt (refine' code_def ?k1 ?k2 ?k3 ?k4 ?k5 ?kA ?kF ?kK ?k6 ?k7 ?k8 ?k9 ?kB ?_ ?c2 ?c3 ?c4 ?c5; (case kA => exact rfl); (case kF => exact rfl); (case kK => assumption); (case k1 => k_asm); (case k2 => k_asm); (case k3 => k_asm); (case k4 => k_asm); (case k5 => k_asm); (case k6 => k_is); (case k7 => k_is); (case k8 => ktr_room); (case k9 => exact BindsTo.of_eq rfl); (case c5 => decide); (case kB => exact locs rfl); (case c2 => exact rfl); (case c3 => exact rfl); (case c4 => exact rfl); k_whole)
  intro g1 L1 h1 FG1 F1 N1 B1 X1 T1
  try dsimp only
  k_steps
  rename News g1 L1 _ _ => N2
  k_dflt (refine' Con.use (c112b w rest x t c' oc' vs' t' hr hc' hoc hqn hlen) ?k1 ?k2 ?k3 ?k4 ?k5 ?kK ?kd ?ku ?kc ?_; ((case k1 => k_asm); (case k2 => k_asm); (case k3 => k_asm); (case k4 => k_asm); (case k5 => k_asm); (case kK => first | exact rfl | assumption); (case kd => ktr_room); (case ku => ktr_units); (case kc => assumption)))
  rintro _ _ h5 tk5 F5 N5 zq66_6
  obtain ⟨lx, dlx, sl, st, pl, t1, t2, t3, t4, u1, u3, vs, n, fix, rfl, rfl, hvs, hfix, hsub, hoff, hne, h107⟩ := zq66_6
  have hm1 := hfix.full.h1
  have hall : ∀ p ∈ (sl, listOf vs.toArray n) :: fix, p.1 ≠ dlx := fun p hp => (List.mem_cons.mp hp).elim (fun e => e ▸ Ne.symm hne) fun h => (hoff p h).1
  k_steps
  refine hret _ _ _ _ (by k_asm) (by k_asm) ⟨_, _, _, _, _, _, _, _, _, _, _, _, _, _, rfl, rfl, hvs, hfix, hsub, hoff, hne, h107⟩
-- P1
theorem encs_append : ∀ (ks : List Int) (a b : List Nat), encs ks (a ++ b) = encs ks a ++ encs ks b
  | [], _, _ => rfl
  | k :: ks, a, b => by
    show encs ks (enc _ (a ++ b)) = encs ks (enc _ a) ++ encs ks (enc _ b)
    rw [enc_append, encs_append]
theorem encs_nil (ks : List Int) : encs ks [] = [] := by
  induction ks with
  | nil => rfl
  | cons k ks ih => exact ih
/-- the page is written sign by sign -/
theorem encs_flat (ks : List Int) : ∀ x : List Nat, encs ks x = x.flatMap fun c => encs ks [c]
  | [] => encs_nil ks
  | c :: x => by
    rw [List.flatMap_cons, ← encs_flat ks x, ← encs_append]; rfl
/-- a sign that no table turns -/
noncomputable def free (c : Nat) : Prop := ∀ k : Int, spell (tabOf k) c = [c]
theorem encs_free {ks : List Int} : ∀ {x : List Nat}, (∀ c ∈ x, free c) → encs ks x = x := by
  induction ks with
  | nil => intro x _; rfl
  | cons k ks ih =>
    intro x h
    have e : enc (tabOf k) x = x := by
      unfold enc
      clear ih
      induction x with
      | nil => rfl
      | cons c x ihx => rw [List.flatMap_cons, h c (List.mem_cons_self ..) k, ihx fun d hd => h d (List.mem_cons_of_mem _ hd)]; rfl
    show encs ks (enc (tabOf k) x) = x
    rw [e, ih h]
/-- n tokens, one after the other -/
noncomputable def toks (wsp : List Nat) : Nat → List Nat → List (List Nat) × List Nat
  | 0, rem => ([], rem)
  | n + 1, rem => let r := toks wsp n (tok wsp rem).2; ((tok wsp rem).1 :: r.1, r.2)
theorem spell_none : ∀ (t : Tab) (c : Nat), (∀ p ∈ t, p.1 ≠ c) → spell t c = [c]
  | [], _, _ => rfl
  | (j, q) :: t, c, h => by
    have := spell_none t c fun p hp => h p (List.mem_cons_of_mem _ hp)
    have h2 := h (j, q) (List.mem_cons_self ..)
    simp only [spell]
    rw [if_neg (fun e => h2 e.symm)]
    exact this
/-- signs that are neither marks of the reading nor keys of a table -/
abbrev good (d : Nat) : Prop := d ∉ [9, 10, 13, 32, 34, 92, 38, 60, 62]
noncomputable def tabs : List Tab := [[], tab_cdata, tab_attrib, tab_html, tab_cc14n, tab_ac14n]
theorem tabOf_mem (k : Int) : tabOf k ∈ tabs := by
  unfold tabOf handOf
  split
  · rename_i h
    split at h <;> first | (cases h; simp [tabs]) | cases h
  · simp [tabs]
theorem tabs_keys : ∀ t ∈ tabs, ∀ p ∈ t, p.1 ∈ [9, 10, 13, 34, 38, 60, 62] ∧ (∃ r, p.2 = 38 :: r ∧ ∀ d ∈ r, good d) := by
  intro t ht p hp
  have : tabs.all (fun t => t.all fun p => [9, 10, 13, 34, 38, 60, 62].contains p.1 && (p.2.head? == some 38 && p.2.tail.all fun d => decide (good d))) = true := by decide +kernel
  have h := List.all_eq_true.mp (List.all_eq_true.mp this t ht) p hp
  simp only [Bool.and_eq_true, List.contains_iff_mem, beq_iff_eq, List.all_eq_true, decide_eq_true_eq] at h
  obtain ⟨h1, h2, h3⟩ := h
  refine ⟨h1, p.2.tail, ?_, h3⟩
  cases e : p.2 with
  | nil => rw [e] at h2; cases h2
  | cons a l => rw [e] at h2; cases h2; rfl
theorem good_free {d : Nat} (h : good d) : free d := fun k => spell_none _ _ fun p hp e =>
  h ((by decide : ∀ x ∈ ([9, 10, 13, 34, 38, 60, 62] : List Nat), x ∈ ([9, 10, 13, 32, 34, 92, 38, 60, 62] : List Nat)) d (e ▸ (tabs_keys _ (tabOf_mem k) p hp).1))
theorem free92 : free 92 := fun k => spell_none _ _ fun p hp e => by
  have := (tabs_keys _ (tabOf_mem k) p hp).1
  rw [e] at this
  revert this; decide
theorem spell_shape : ∀ (t : Tab) (c : Nat), (∀ p ∈ t, ∃ r, p.2 = 38 :: r ∧ ∀ d ∈ r, good d) → spell t c = [c] ∨ ∃ r, spell t c = 38 :: r ∧ ∀ d ∈ r, good d
  | [], c, _ => .inl rfl
  | (j, q) :: t, c, h => by
    simp only [spell]
    by_cases e : c = j
    · rw [if_pos e]; exact .inr (h _ (List.mem_cons_self ..))
    · rw [if_neg e]; exact spell_shape t c fun p hp => h p (List.mem_cons_of_mem _ hp)
theorem sp38 : ∀ ks : List Int, ∃ r, encs ks [38] = 38 :: r ∧ ∀ d ∈ r, good d
  | [] => ⟨[], rfl, fun d hd => by cases hd⟩
  | k :: ks => by
    obtain ⟨r, e, g⟩ := sp38 ks
    have e1 : encs (k :: ks) [38] = encs ks (spell (tabOf k) 38) := by show encs ks (enc (tabOf k) [38]) = _; unfold enc; rw [List.flatMap_cons, List.flatMap_nil, List.append_nil]
    rw [e1]
    rcases spell_shape (tabOf k) 38 (fun p hp => (tabs_keys _ (tabOf_mem k) p hp).2) with h | ⟨r2, h, g2⟩
    · rw [h]; exact ⟨r, e, g⟩
    · refine ⟨r ++ r2, ?_, fun d hd => (List.mem_append.mp hd).elim (g d) (g2 d)⟩
      rw [h, show (38 :: r2 : List Nat) = [38] ++ r2 from rfl, encs_append, e, encs_free fun d hd => good_free (g2 d hd)]; rfl
/-- how a sign is spelled: as it is, or by an ampersand and plain signs -/
theorem sp_shape : ∀ (ks : List Int) (c : Nat), encs ks [c] = [c] ∨ ∃ r, encs ks [c] = 38 :: r ∧ ∀ d ∈ r, good d
  | [], c => .inl rfl
  | k :: ks, c => by
    have e1 : encs (k :: ks) [c] = encs ks (spell (tabOf k) c) := by show encs ks (enc (tabOf k) [c]) = _; unfold enc; rw [List.flatMap_cons, List.flatMap_nil, List.append_nil]
    rw [e1]
    rcases spell_shape (tabOf k) c (fun p hp => (tabs_keys _ (tabOf_mem k) p hp).2) with h | ⟨r2, h, g2⟩
    · rw [h]; exact sp_shape ks c
    · obtain ⟨r, e, g⟩ := sp38 ks
      refine .inr ⟨r ++ r2, ?_, fun d hd => (List.mem_append.mp hd).elim (g d) (g2 d)⟩
      rw [h, show (38 :: r2 : List Nat) = [38] ++ r2 from rfl, encs_append, e, encs_free fun d hd => good_free (g2 d hd)]; rfl
theorem sp92 (ks : List Int) : encs ks [92] = [92] := encs_free fun d hd => by rw [List.mem_singleton.mp hd]; exact free92
-- P2
noncomputable def cont (st : Md) (word rem : List Nat) : List Nat × List Nat := match st with
  | .btw => tok wsL rem
  | .bare => tokW wsL word rem
  | .mks => tokQ word rem
noncomputable def contS (a : WS) (rem : List Nat) : List Nat × List Nat := if a.hid = true then cont a.st (a.word ++ rem.head?.toList) rem.tail else cont a.st a.word rem
/-- n tokens behind the one that stands open -/
noncomputable def rdS (n : Nat) (a : WS) (rem : List Nat) : List (List Nat) × List Nat := ((contS a rem).1 :: (toks wsL n (contS a rem).2).1, (toks wsL n (contS a rem).2).2)
theorem cont_one {st : Md} (hs : st ≠ .btw) {word rest : List Nat} {d : Nat} (h1 : d ∉ wsL) (h2 : d ≠ 34) (h3 : d ≠ 92) : cont st word (d :: rest) = cont st (word ++ [d]) rest := by
  cases st with
  | btw => exact absurd rfl hs
  | bare => exact tokW_o h1 h3
  | mks => exact tokQ_o h2 h3
theorem good_ws {d : Nat} (h : good d) : d ∉ wsL ∧ d ≠ 34 ∧ d ≠ 92 :=
  ⟨fun hm => h ((by decide : ∀ x ∈ wsL, x ∈ ([9, 10, 13, 32, 34, 92, 38, 60, 62] : List Nat)) d hm), fun e => by subst e; exact h (by decide), fun e => by subst e; exact h (by decide)⟩
theorem cont_good {st : Md} (hs : st ≠ .btw) : ∀ (r word rest : List Nat), (∀ d ∈ r, good d) → cont st word (r ++ rest) = cont st (word ++ r) rest
  | [], word, rest, _ => by rw [List.append_nil]; rfl
  | d :: r, word, rest, h => by
    obtain ⟨h1, h2, h3⟩ := good_ws (h d (List.mem_cons_self ..))
    rw [List.cons_append, cont_one hs h1 h2 h3, cont_good hs r _ _ fun e he => h e (List.mem_cons_of_mem _ he), List.append_assoc]; rfl
theorem open_ne (st : Md) : st.open ≠ .btw := by cases st <;> simp [Md.open]
noncomputable def Sane (a : WS) : Prop := (a.st = .btw → a.word = [] ∧ a.hid = false)
theorem page_read (sp : Nat → List Nat) (h92 : sp 92 = [92]) (hsp : ∀ c, sp c = [c] ∨ ∃ r, sp c = 38 :: r ∧ ∀ d ∈ r, good d) : ∀ (l : List Nat) (a : WS), Sane a →
    ∃ ws, wEnd (l.foldl (wStep sp) a) = a.words ++ ws ∧ rdS ws.length a (l.flatMap sp) = (ws ++ [[]], []) := by
  intro l
  induction l with
  | nil =>
    intro a ha
    obtain ⟨ws, wd, st, hd⟩ := a
    cases st with
    | btw =>
      obtain ⟨h1, h2⟩ := ha rfl
      dsimp only at h1 h2
      subst h1 h2
      exact ⟨[], by simp [wEnd], rfl⟩
    | mks =>
      refine ⟨[wd], rfl, ?_⟩
      cases hd
      · rfl
      · simp [rdS, contS, cont, tokQ, toks, tok]
    | bare =>
      refine ⟨[wd], rfl, ?_⟩
      cases hd
      · rfl
      · simp [rdS, contS, cont, tokW, toks, tok]
  | cons c l ih =>
    intro a ha
    rw [List.foldl_cons, List.flatMap_cons]
    obtain ⟨ws, wd, st, hd⟩ := a
    -- a step that changes what stands open and no more
    have go : ∀ a' : WS, wStep sp ⟨ws, wd, st, hd⟩ c = a' → a'.words = ws → Sane a' → (∀ rest, contS ⟨ws, wd, st, hd⟩ (sp c ++ rest) = contS a' rest) →
        ∃ ws', wEnd (l.foldl (wStep sp) (wStep sp ⟨ws, wd, st, hd⟩ c)) = ws ++ ws' ∧ rdS ws'.length ⟨ws, wd, st, hd⟩ (sp c ++ l.flatMap sp) = (ws' ++ [[]], []) := by
      intro a' e1 e2 e3 e4
      obtain ⟨ws', h1, h2⟩ := ih a' e3
      refine ⟨ws', by rw [e1, h1, e2], ?_⟩
      rw [← h2]
      unfold rdS
      rw [e4]
    -- a step that ends a word
    have fin : ∀ a' : WS, wStep sp ⟨ws, wd, st, hd⟩ c = a' → a'.words = ws ++ [wd] → a'.st = .btw → Sane a' → (∀ rest, contS ⟨ws, wd, st, hd⟩ (sp c ++ rest) = (wd, rest)) →
        ∃ ws', wEnd (l.foldl (wStep sp) (wStep sp ⟨ws, wd, st, hd⟩ c)) = ws ++ ws' ∧ rdS ws'.length ⟨ws, wd, st, hd⟩ (sp c ++ l.flatMap sp) = (ws' ++ [[]], []) := by
      intro a' e1 e2 e3 e5 e4
      obtain ⟨ws', h1, h2⟩ := ih a' e5
      refine ⟨wd :: ws', by rw [e1, h1, e2, List.append_assoc]; rfl, ?_⟩
      obtain ⟨b1, b2⟩ := e5 e3
      have e6 : contS a' (l.flatMap sp) = tok wsL (l.flatMap sp) := by unfold contS; rw [b2, e3]; rfl
      unfold rdS at h2 ⊢
      rw [e4]
      rw [e6] at h2
      have h3 := congrArg Prod.fst h2
      have h4 := congrArg Prod.snd h2
      dsimp only at h3 h4
      show (wd :: ((tok wsL (l.flatMap sp)).1 :: (toks wsL ws'.length (tok wsL (l.flatMap sp)).2).1), (toks wsL ws'.length (tok wsL (l.flatMap sp)).2).2) = _
      rw [h3, h4]; rfl
    cases hd with
    | true =>
      have hs : st ≠ .btw := fun e => by cases (ha e).2
      refine go ⟨ws, wd ++ sp c, st, false⟩ (by simp [wStep]) rfl (fun e => absurd e hs) fun rest => ?_
      rcases hsp c with h | ⟨r, h, g⟩
      · rw [h]; rfl
      · rw [h]
        show cont st (wd ++ [38]) (r ++ rest) = cont st (wd ++ 38 :: r) rest
        rw [cont_good hs r _ _ g, List.append_assoc]; rfl
    | false =>
      by_cases e92 : c = 92
      · subst e92
        refine go ⟨ws, wd, st.open, true⟩ (by simp [wStep]) rfl (fun e => absurd e (open_ne st)) fun rest => ?_
        rw [h92]
        cases st with
        | btw => obtain ⟨b1, -⟩ := ha rfl; dsimp only at b1; subst b1; exact tok_b (wsp := wsL) (by decide) rfl
        | mks => exact tokQ_b rfl
        | bare => exact tokW_b (wsp := wsL) (by decide) rfl
      · by_cases esp : sp c = [c]
        · rw [esp] at go fin
          rw [esp]
          cases st with
          | btw =>
            obtain ⟨b1, -⟩ := ha rfl; dsimp only at b1; subst b1
            by_cases e34 : c = 34
            · exact go ⟨ws, [], .mks, false⟩ (by subst e34; simp [wStep, esp]) rfl (fun e => by cases e) fun rest => tok_q (by rw [e34]; decide) e34
            · by_cases ew : c ∈ wsL
              · exact go ⟨ws, [], .btw, false⟩ (by simp [wStep, e92, esp, e34, ew]) rfl (fun _ => ⟨rfl, rfl⟩) fun rest => tok_ws ew
              · exact go ⟨ws, [c], .bare, false⟩ (by simp [wStep, e92, esp, e34, ew]) rfl (fun e => by cases e) fun rest => tok_o ew e34 e92
          | mks =>
            by_cases e34 : c = 34
            · exact fin ⟨ws ++ [wd], [], .btw, false⟩ (by subst e34; simp [wStep, esp]) rfl rfl (fun _ => ⟨rfl, rfl⟩) fun rest => tokQ_q e34
            · exact go ⟨ws, wd ++ [c], .mks, false⟩ (by simp [wStep, e92, esp, e34]) rfl (fun e => by cases e) fun rest => tokQ_o e34 e92
          | bare =>
            by_cases ew : c ∈ wsL
            · exact fin ⟨ws ++ [wd], [], .btw, false⟩ (by simp [wStep, e92, esp, ew]) rfl rfl (fun _ => ⟨rfl, rfl⟩) fun rest => tokW_ws ew
            · exact go ⟨ws, wd ++ [c], .bare, false⟩ (by simp [wStep, e92, esp, ew]) rfl (fun e => by cases e) fun rest => tokW_o ew e92
        · obtain ⟨r, h, g⟩ := (hsp c).resolve_left esp
          refine go ⟨ws, wd ++ sp c, st.open, false⟩ (by simp [wStep, e92, esp]) rfl (fun e => absurd e (open_ne st)) fun rest => ?_
          rw [h]
          cases st with
          | btw =>
            obtain ⟨b1, -⟩ := ha rfl; dsimp only at b1; subst b1
            show tok wsL (38 :: (r ++ rest)) = tokW wsL (38 :: r) rest
            rw [tok_o (by decide) (by decide) (by decide)]
            exact cont_good (st := .bare) (fun e => by cases e) r _ _ g
          | mks =>
            show tokQ wd (38 :: (r ++ rest)) = tokQ (wd ++ 38 :: r) rest
            rw [tokQ_o (by decide) (by decide)]
            exact (cont_good (st := .mks) (fun e => by cases e) r _ _ g).trans (by rw [List.append_assoc]; rfl)
          | bare =>
            show tokW wsL wd (38 :: (r ++ rest)) = tokW wsL (wd ++ 38 :: r) rest
            rw [tokW_o (by decide) (by decide)]
            exact (cont_good (st := .bare) (fun e => by cases e) r _ _ g).trans (by rw [List.append_assoc]; rfl)
/-- the first reading: the law's words, then nothing -/
theorem page_words (ks : List Int) (x : List Nat) : toks wsL ((lawWords (fun c => encs ks [c]) x).length + 1) (encs ks x) = (lawWords (fun c => encs ks [c]) x ++ [[]], []) := by
  obtain ⟨ws, h1, h2⟩ := page_read (fun c => encs ks [c]) (sp92 ks) (sp_shape ks) x ⟨[], [], .btw, false⟩ (fun _ => ⟨rfl, rfl⟩)
  have e : lawWords (fun c => encs ks [c]) x = ws := h1
  rw [e, encs_flat]
  exact h2
-- P3
/-- the text of the other reading: a mark that is written otherwise stands hidden -/
noncomputable def raw (q : Bool) : Bool → List Nat → List Nat
  | _, [] => []
  | hd, c :: l => (if q = true ∧ c = 34 ∧ hd = false then [92, 34] else [c]) ++ raw q (decide (c = 92) && !hd) l
theorem raw_false : ∀ (hd : Bool) (l : List Nat), raw false hd l = l
  | _, [] => rfl
  | hd, c :: l => by rw [raw, raw_false]; simp
theorem raw_hid : ∀ (l : List Nat) (acc : List Nat) (hd : Bool), (l.foldl hidStep (acc, hd)).1 = acc ++ raw true hd l
  | [], acc, hd => by simp [raw]
  | c :: l, acc, hd => by
    rw [List.foldl_cons, raw]
    have e0 : hidStep (acc, hd) c = (acc ++ (if c = 34 ∧ hd = false then [92, c] else [c]), decide (c = 92) && !hd) := rfl
    rw [e0, raw_hid l, List.append_assoc]
    congr 2
    by_cases h : c = 34 ∧ hd = false
    · rw [if_pos h, if_pos ⟨rfl, h⟩, h.1]
    · rw [if_neg h, if_neg fun e => h e.2]
noncomputable def contO (bl : List Nat) (st : Md) (word rem : List Nat) : List Nat × List Nat := match st with
  | .btw => tok bl rem
  | .bare => tokW bl word rem
  | .mks => tokQ word rem
noncomputable def contOS (bl : List Nat) (hid : Bool) (st : Md) (rw' rem : List Nat) : List Nat × List Nat := if hid = true then contO bl st (rw' ++ rem.head?.toList) rem.tail else contO bl st rw' rem
noncomputable def rdO (ks : List Int) (bl : List Nat) (n : Nat) (hid : Bool) (st : Md) (rw' rem : List Nat) : List (List Nat) × List Nat :=
  (((contOS bl hid st rw' rem).1 :: (toks bl n (contOS bl hid st rw' rem).2).1).map (encs ks), (toks bl n (contOS bl hid st rw' rem).2).2)
theorem other_read (ks : List Int) (bl : List Nat) (q : Bool) (hbl : ∀ c, c ∈ bl ↔ c ∈ wsL ∧ encs ks [c] = [c]) (hq : q = true ↔ encs ks [34] ≠ [34]) : ∀ (l : List Nat) (a : WS) (rw' : List Nat), Sane a → encs ks rw' = a.word → (a.st = .btw → rw' = []) →
    ∃ ws, wEnd (l.foldl (wStep fun c => encs ks [c]) a) = a.words ++ ws ∧ rdO ks bl ws.length a.hid a.st rw' (raw q a.hid l) = (ws ++ [[]], []) := by
  intro l
  induction l with
  | nil =>
    intro a rw' ha hw hb
    obtain ⟨ws, wd, st, hd⟩ := a
    dsimp only at hw hb
    have e0 := encs_nil ks
    cases st with
    | btw =>
      obtain ⟨h1, h2⟩ := ha rfl
      dsimp only at h1 h2
      subst h1 h2
      refine ⟨[], by simp [wEnd], ?_⟩
      simp [rdO, contOS, contO, tok, toks, raw, e0]
    | mks =>
      refine ⟨[wd], rfl, ?_⟩
      cases hd <;> simp [rdO, contOS, contO, tokQ, toks, tok, raw, e0, hw]
    | bare =>
      refine ⟨[wd], rfl, ?_⟩
      cases hd <;> simp [rdO, contOS, contO, tokW, toks, tok, raw, e0, hw]
  | cons c l ih =>
    intro a rw' ha hw hb
    rw [List.foldl_cons]
    obtain ⟨ws, wd, st, hd⟩ := a
    dsimp only at hw hb
    have n92 : (92 : Nat) ∉ bl := fun h => by have := ((hbl 92).mp h).1; revert this; decide
    have n34 : (34 : Nat) ∉ bl := fun h => by have := ((hbl 34).mp h).1; revert this; decide
    have go : ∀ (a' : WS) (rw2 : List Nat), wStep (fun c => encs ks [c]) ⟨ws, wd, st, hd⟩ c = a' → a'.words = ws → Sane a' → encs ks rw2 = a'.word → (a'.st = .btw → rw2 = []) →
        contOS bl hd st rw' (raw q hd (c :: l)) = contOS bl a'.hid a'.st rw2 (raw q a'.hid l) →
        ∃ ws', wEnd (l.foldl (wStep fun c => encs ks [c]) (wStep (fun c => encs ks [c]) ⟨ws, wd, st, hd⟩ c)) = ws ++ ws' ∧ rdO ks bl ws'.length hd st rw' (raw q hd (c :: l)) = (ws' ++ [[]], []) := by
      intro a' rw2 e1 e2 e3 e5 e6 e4
      obtain ⟨ws', h1, h2⟩ := ih a' rw2 e3 e5 e6
      refine ⟨ws', by rw [e1, h1, e2], ?_⟩
      rw [← h2]
      unfold rdO
      rw [e4]
    have fin : ∀ (a' : WS), wStep (fun c => encs ks [c]) ⟨ws, wd, st, hd⟩ c = a' → a'.words = ws ++ [wd] → a'.st = .btw → Sane a' →
        contOS bl hd st rw' (raw q hd (c :: l)) = (rw', raw q false l) →
        ∃ ws', wEnd (l.foldl (wStep fun c => encs ks [c]) (wStep (fun c => encs ks [c]) ⟨ws, wd, st, hd⟩ c)) = ws ++ ws' ∧ rdO ks bl ws'.length hd st rw' (raw q hd (c :: l)) = (ws' ++ [[]], []) := by
      intro a' e1 e2 e3 e5 e4
      obtain ⟨b1, b2⟩ := e5 e3
      obtain ⟨ws', h1, h2⟩ := ih a' [] e5 ((encs_nil ks).trans b1.symm) (fun _ => rfl)
      refine ⟨wd :: ws', by rw [e1, h1, e2, List.append_assoc]; rfl, ?_⟩
      rw [b2, e3] at h2
      unfold rdO at h2 ⊢
      rw [e4]
      have h3 := congrArg Prod.fst h2
      have h4 := congrArg Prod.snd h2
      dsimp only at h3 h4
      show ((rw' :: ((tok bl (raw q false l)).1 :: (toks bl ws'.length (tok bl (raw q false l)).2).1)).map (encs ks), (toks bl ws'.length (tok bl (raw q false l)).2).2) = _
      rw [List.map_cons, hw]
      exact Prod.ext (congrArg (wd :: ·) h3) h4
    cases hd with
    | true =>
      have hs : st ≠ .btw := fun e => by cases (ha e).2
      refine go ⟨ws, wd ++ encs ks [c], st, false⟩ (rw' ++ [c]) (by simp [wStep]) rfl (fun e => absurd e hs) (by rw [encs_append, hw]) (fun e => absurd e hs) ?_
      simp [raw, contOS]
    | false =>
      by_cases e92 : c = 92
      · subst e92
        refine go ⟨ws, wd, st.open, true⟩ rw' (by simp [wStep]) rfl (fun e => absurd e (open_ne st)) hw (fun e => absurd e (open_ne st)) ?_
        have er : raw q false (92 :: l) = 92 :: raw q true l := by simp [raw]
        rw [er]
        cases st with
        | btw => obtain rfl := hb rfl; exact tok_b (wsp := bl) n92 rfl
        | mks => exact tokQ_b rfl
        | bare => exact tokW_b (wsp := bl) n92 rfl
      · by_cases esp : encs ks [c] = [c]
        · have er : raw q false (c :: l) = c :: raw q false l := by
            have : ¬ (q = true ∧ c = 34 ∧ (false : Bool) = false) := fun h => hq.mp h.1 (h.2.1 ▸ esp)
            rw [raw, if_neg this, decide_eq_false e92]; rfl
          have hbc : c ∈ bl ↔ c ∈ wsL := ⟨fun h => ((hbl c).mp h).1, fun h => (hbl c).mpr ⟨h, esp⟩⟩
          rw [er] at go fin
          rw [er]
          cases st with
          | btw =>
            obtain ⟨b1, -⟩ := ha rfl; dsimp only at b1; subst b1
            obtain rfl := hb rfl
            by_cases e34 : c = 34
            · exact go ⟨ws, [], .mks, false⟩ [] (by subst e34; simp [wStep, esp]) rfl (fun e => by cases e) hw (fun e => by cases e) (tok_q (by rw [e34]; exact n34) e34)
            · by_cases ew : c ∈ wsL
              · exact go ⟨ws, [], .btw, false⟩ [] (by simp [wStep, e92, esp, e34, ew]) rfl (fun _ => ⟨rfl, rfl⟩) hw (fun _ => rfl) (tok_ws (hbc.mpr ew))
              · exact go ⟨ws, [c], .bare, false⟩ [c] (by simp [wStep, e92, esp, e34, ew]) rfl (fun e => by cases e) esp (fun e => by cases e) (tok_o (fun h => ew (hbc.mp h)) e34 e92)
          | mks =>
            by_cases e34 : c = 34
            · exact fin ⟨ws ++ [wd], [], .btw, false⟩ (by subst e34; simp [wStep, esp]) rfl rfl (fun _ => ⟨rfl, rfl⟩) (tokQ_q e34)
            · exact go ⟨ws, wd ++ [c], .mks, false⟩ (rw' ++ [c]) (by simp [wStep, e92, esp, e34]) rfl (fun e => by cases e) (by rw [encs_append, hw, esp]) (fun e => by cases e) (tokQ_o e34 e92)
          | bare =>
            by_cases ew : c ∈ wsL
            · exact fin ⟨ws ++ [wd], [], .btw, false⟩ (by simp [wStep, e92, esp, ew]) rfl rfl (fun _ => ⟨rfl, rfl⟩) (tokW_ws (hbc.mpr ew))
            · exact go ⟨ws, wd ++ [c], .bare, false⟩ (rw' ++ [c]) (by simp [wStep, e92, esp, ew]) rfl (fun e => by cases e) (by rw [encs_append, hw, esp]) (fun e => by cases e) (tokW_o (fun h => ew (hbc.mp h)) e92)
        · have nb : c ∉ bl := fun h => esp ((hbl c).mp h).2
          refine go ⟨ws, wd ++ encs ks [c], st.open, false⟩ (rw' ++ [c]) (by simp [wStep, e92, esp]) rfl (fun e => absurd e (open_ne st)) (by rw [encs_append, hw]) (fun e => absurd e (open_ne st)) ?_
          by_cases e34 : c = 34
          · subst e34
            have er : raw q false (34 :: l) = 92 :: 34 :: raw q false l := by
              rw [raw, if_pos ⟨hq.mpr esp, rfl, rfl⟩]; rfl
            rw [er]
            cases st with
            | btw => obtain rfl := hb rfl; exact tok_b (wsp := bl) n92 rfl
            | mks => exact tokQ_b rfl
            | bare => exact tokW_b (wsp := bl) n92 rfl
          · have er : raw q false (c :: l) = c :: raw q false l := by
              rw [raw, if_neg fun h => e34 h.2.1, decide_eq_false e92]; rfl
            rw [er]
            cases st with
            | btw => obtain rfl := hb rfl; exact tok_o nb e34 e92
            | mks => exact tokQ_o e34 e92
            | bare => exact tokW_o nb e92
/-- the other reading: its words, written by the hands, are the law's words, then nothing -/
theorem other_words (ks : List Int) (x bl : List Nat) (q : Bool) (hbl : ∀ c, c ∈ bl ↔ c ∈ wsL ∧ encs ks [c] = [c]) (hq : q = true ↔ encs ks [34] ≠ [34]) :
    ((toks bl ((lawWords (fun c => encs ks [c]) x).length + 1) (raw q false x)).1.map (encs ks), (toks bl ((lawWords (fun c => encs ks [c]) x).length + 1) (raw q false x)).2) = (lawWords (fun c => encs ks [c]) x ++ [[]], []) := by
  obtain ⟨ws, h1, h2⟩ := other_read ks bl q hbl hq x ⟨[], [], .btw, false⟩ [] (fun _ => ⟨rfl, rfl⟩) (encs_nil ks) (fun _ => rfl)
  have e : lawWords (fun c => encs ks [c]) x = ws := h1
  rw [e]
  exact h2
-- P4
theorem raw_count (q : Bool) : ∀ (hd : Bool) (l : List Nat), (raw q hd l).count 10 = l.count 10
  | _, [] => rfl
  | hd, c :: l => by
    rw [raw, List.count_append, raw_count q _ l, List.count_cons]
    by_cases h : q = true ∧ c = 34 ∧ hd = false
    · rw [if_pos h, h.2.1]; simp
    · rw [if_neg h]; simp [List.count_cons]; omega
theorem hidF_raw (x : List Nat) : (hidF x).1 = raw true false x := by
  have := raw_hid x [] false
  simpa [hidF] using this
/-- how the text of the other reading is chosen -/
theorem other_text (ks : List Int) (x : List Nat) : (if encs ks [34] = [34] then x else (hidF x).1) = raw (decide (encs ks [34] ≠ [34])) false x := by
  by_cases h : encs ks [34] = [34]
  · rw [if_pos h, decide_eq_false (fun e => e h), raw_false]
  · rw [if_neg h, decide_eq_true h, hidF_raw]
-- D1
section
variable {prog : Program} {w : World} {A : Around} {E : Value → Shared → Prop} {s : Shared} {h₀ : Heap} {L : Addr} {m : Str → Option Value} {env : Env}
/-- the dict that tells each sign's spelling -/
noncomputable def spD (sp : Nat → List Nat) (xs : List Nat) : List (PyData × PyData) := xs.foldl (fun D c => PyProof.V.putD (.str (tx [c])) (.str (tx (sp c))) D) []
theorem spD_snoc (sp : Nat → List Nat) (xs : List Nat) (c : Nat) : spD sp (xs ++ [c]) = PyProof.V.putD (.str (tx [c])) (.str (tx (sp c))) (spD sp xs) := by
  unfold spD; rw [List.foldl_append]; rfl
theorem spD_put (sp : Nat → List Nat) (c d : Nat) (D : List (PyData × PyData)) : lookup (.str (tx [c])) (PyProof.V.putD (.str (tx [d])) (.str (tx (sp d))) D) = if c = d then some (.str (tx (sp d))) else lookup (.str (tx [c])) D := by
  by_cases h : c = d
  · subst h
    rw [if_pos rfl]
    exact PyProof.V.lookup_putK_same PyProof.V.keyEnc_str (tx [c]) _ D
  · rw [if_neg h]
    exact PyProof.V.lookup_putK_other PyProof.V.keyEnc_str (fun e => h (List.cons.inj (tx_inj e)).1) _ D
theorem spD_fold (sp : Nat → List Nat) (c : Nat) : ∀ (xs : List Nat) (D : List (PyData × PyData)), (c ∈ xs ∨ lookup (.str (tx [c])) D = some (.str (tx (sp c)))) →
    lookup (.str (tx [c])) (xs.foldl (fun D c => PyProof.V.putD (.str (tx [c])) (.str (tx (sp c))) D) D) = some (.str (tx (sp c)))
  | [], D, h => h.elim (fun h => by cases h) id
  | d :: xs, D, h => by
    rw [List.foldl_cons]
    refine spD_fold sp c xs _ ?_
    by_cases hm : c ∈ xs
    · exact .inl hm
    · refine .inr ?_
      rw [spD_put]
      by_cases e : c = d
      · rw [if_pos e, e]
      · rw [if_neg e]
        exact h.elim (fun h => (List.mem_cons.mp h).elim (fun q => absurd q e) fun q => absurd q hm) id
theorem spD_get (sp : Nat → List Nat) {c : Nat} {xs : List Nat} (h : c ∈ xs) : lookup (.str (tx [c])) (spD sp xs) = some (.str (tx (sp c))) := spD_fold sp c xs [] (.inl h)
inductive DcInv (prog : Program) (w : World) (s₁ : Shared) (h₀ : Heap) (L I D : Addr) (m : Str → Option Value) (news : Led) (xs : List Nat) (sp : Nat → List Nat) (t : Tok) (k : Nat) (s' : Shared) : Prop
  | mk (h' : Heap) (tk i : Nat) (oD : Obj) (kvs : List (Str × Value)) (m' : Str → Option Value) (e : s' = { s₁ with heap := h', toks := tk }) (h1 : i ≤ xs.length) (h2 : k = xs.length + 1 - i) (h3 : h'.IsStrIter I "str_ascii_iterator" (tx xs) t i)
    (h4 : Fr h₀ L h' m) (h5 : h'.Ns (D + 1) m') (h6 : News h₀ L h' ((D, oD) :: news)) (h7 : oD.IsDictOf (strKind prog w) kvs) (h8 : FlatPairs PyData.str kvs (spD sp (xs.take i))) (h9 : kvs.length ≤ i) : DcInv prog w s₁ h₀ L I D m news xs sp t k s'
theorem DictComp_S {kx vx iter : Expr} {x : Str} {px : Pos} {scope : Scope} {cl : List (Str × Addr)} {pos : Pos} {Q : Value → Shared → Prop} {xs : List Nat} {sp : Nat → List Nat} {news : Led}
    (hclos : closureFor scope env = pure cl) (hcell : ∀ y ∈ scope.names, y.2 ≠ .cell) (hkind : scope.kind = .function)
    (hnames : ∀ y ∈ scope.names, y.2 = .local → scope.names.lookup y.1 = some .local) (hx : scope.names.lookup x = some .local)
    (h : wpAny (model prog w) A (eval iter env) (fun xv s₁ => (∃ t, xv = .str (tx xs) t) ∧ A.handled = none ∧ Fr h₀ L s₁.heap m ∧ News h₀ L s₁.heap news ∧ xs.length ≤ 16777216 ∧
      (∀ c t I oI C oC D oD m₂ h tk (E' : Value → Shared → Prop), c ∈ xs → LCg.NsObj oC m₂ → m₂ x = some (.str (tx [c]) t) → Fr h₀ L h m → News h₀ L h ((I, oI) :: (C, oC) :: (D, oD) :: news) → LCg.Off3 I C D news →
        wpAny (model prog w) A (eval kx (compEnvC scope cl C env)) (fun kv s₂ => (∃ t', kv = .str (tx [c]) t') ∧ wpAny (model prog w) A (eval vx (compEnvC scope cl C env)) (fun y s₃ =>
          (∃ t', y = .str (tx (sp c)) t') ∧ ∃ h' tk', s₃ = { s₁ with heap := h', toks := tk' } ∧ Fr h₀ L h' m ∧ News h₀ L h' ((I, oI) :: (C, oC) :: (D, oD) :: news)) E' s₂) E' { s₁ with heap := h, toks := tk }) ∧
      (∀ D oD kvs h' tk, Fr h₀ L h' m → News h₀ L h' ((D, oD) :: news) → LCg.Off1 D news → oD.IsDictOf (strKind prog w) kvs → FlatPairs PyData.str kvs (spD sp xs) → (D == sysModules) = false → Q (.ref D) { s₁ with heap := h', toks := tk })) E s)
    (hs : ∀ x, foldedSetIterable iter env x = pure x) (hsys : sysModules < L) (ha : (tx xs).cps.all (· < 128) = true) :
    wpAny (model prog w) A (eval (.DictComp kx vx [⟨.Name x px, iter, [], 0⟩] scope pos) env) Q E s := by
  rw [arm_eval_DictComp]
  refine wpAny_comprehension_free (use := none) rfl hs hclos hkind hnames (wpAny_mono h (fun xv s₁ h₁ => ?_) fun _ _ e => e)
  obtain ⟨⟨t, rfl⟩, hh, F, N, hsz, R, hQ⟩ := h₁
  refine wpAny_pyIter_ascii ha ?_
  have W := Walks.strAscii (prog := prog) (w := w) hh s₁.heap.objs.size (tx xs) t
  have hsize : (tx xs).cps.size = xs.length := by simp
  rw [hsize] at W
  have hst : (s₁.heap.push { cls := .type "str_ascii_iterator", data := .fields #[.str (tx xs) t, .int 0 0] }).IsStrIter s₁.heap.objs.size "str_ascii_iterator" (tx xs) t 0 := ⟨_, Heap.get?_push_size _ rfl, rfl, rfl⟩
  generalize hgo : ({ cls := .type "str_ascii_iterator", data := .fields #[.str (tx xs) t, .int 0 0] } : Obj) = o at hst ⊢
  have hI₀ : h₀.get? s₁.heap.objs.size = none := next_is_new F
  have hIL : L ≠ s₁.heap.objs.size := Nat.ne_of_lt F.ns.lt
  have offI : ∀ p ∈ news, p.1 ≠ s₁.heap.objs.size := fun p hp => Nat.ne_of_lt (Heap.lt_size (N p hp).1)
  have F₁ : Fr h₀ L (s₁.heap.push o) m := F.push o
  have N₁ : News h₀ L (s₁.heap.push o) news := N.grown fun _ _ e => Heap.get?_push_of_some _ e
  have hsI : (s₁.heap.push o).objs.size = s₁.heap.objs.size + 1 := Heap.size_push ..
  generalize hgI : s₁.heap.objs.size = I at *
  generalize hgH : s₁.heap.push o = H1 at *
  refine wpAny_newObj_type (wpAny_newFunctionEnv hcell (by intro y hy; simp at hy) (fun h₁ hns₁ hsb₁ => ?_) hkind)
  dsimp only at hns₁ hsb₁ ⊢
  have hnew : (H1.push { cls := .type "dict", dict := none, data := .dict #[] }).DictOf (strKind prog w) H1.objs.size [] := Heap.DictOf.new H1
  generalize hH2 : H1.push { cls := .type "dict", dict := none, data := .dict #[] } = H2 at hns₁ hsb₁ hnew ⊢
  have hC : H2.objs.size = H1.objs.size + 1 := by rw [← hH2, Heap.size_push]
  have hC₀ : h₀.get? H2.objs.size = none := by
    cases e : h₀.get? H2.objs.size with
    | none => rfl
    | some o' => exact absurd (Heap.lt_size (F₁.keep _ _ e)) (by rw [hC]; exact Nat.not_lt.mpr (Nat.le_succ _))
  have hD₀ : h₀.get? H1.objs.size = none := next_is_new F₁
  have hLlt : L < H1.objs.size := F₁.ns.lt
  generalize hgD : H1.objs.size = D at *
  generalize hgC : H2.objs.size = C at *
  subst hC
  have hDC : D ≠ D + 1 := Nat.ne_of_lt (Nat.lt_succ_self _)
  have hDL : D ≠ L := Ne.symm (Nat.ne_of_lt hLlt)
  have hCL : D + 1 ≠ L := Ne.symm (Nat.ne_of_lt (Nat.lt_succ_of_lt hLlt))
  have hID : I ≠ D := by rw [hsI]; exact Nat.ne_of_lt (Nat.lt_succ_self _)
  have hIC : I ≠ D + 1 := by rw [hsI]; exact Nat.ne_of_lt (Nat.lt_succ_of_lt (Nat.lt_succ_self _))
  have hlN : ∀ p ∈ news, p.1 < D := fun p hp => hgD ▸ Heap.lt_size (N₁ p hp).1
  have off₀ : LCg.Off3 I (D + 1) D news := LCg.Off3.of fun p hp => ⟨offI p hp, Nat.ne_of_lt (Nat.lt_succ_of_lt (hlN p hp)), Nat.ne_of_lt (hlN p hp)⟩
  have old : ∀ b o, H1.get? b = some o → h₁.get? b = some o := fun b o e => hsb₁.extBut b o (Nat.ne_of_lt (Nat.lt_succ_of_lt (hgD ▸ Heap.lt_size e))) (Heap.get?_push_of_some _ (hH2 ▸ Heap.get?_push_of_some _ e))
  have hacc : h₁.DictOf (strKind prog w) D [] := hnew.at fun o e => hsb₁.extBut _ _ hDC (Heap.get?_push_of_some _ e)
  have hst₁ : h₁.IsStrIter I "str_ascii_iterator" (tx xs) t 0 := W.frame _ _ _ hst fun b _ o e => old b o e
  obtain ⟨oD₀, hoD₀, hdo₀⟩ := Heap.dictOf_iff.mp hacc
  have loop : ∀ s₃ : Shared, s₃ = { s₁ with heap := h₁, toks := s₁.toks + ([] : List (Str × Value)).length } →
      codeAny (model prog w) A (.compLoop (.DictComp kx vx [⟨.Name x px, iter, [], 0⟩] scope pos) 0 (.ref I) (.ref D) (compEnvC scope cl (D + 1) env)) (compPost (model prog w) A E none Q (.ref D) (D + 1)) s₃ := by
    rintro s₃ rfl
    refine codeAny_compLoop_testsD
      (fun k s' => DcInv prog w s₁ h₀ L I D m news xs sp t k s') ?_ (xs.length + 1)
      ⟨h₁, _, 0, oD₀, [], _, rfl, Nat.zero_le _, rfl, hst₁, F₁.keeps old, hns₁, fun p hp => ?_, hdo₀, .nil, Nat.le_refl _⟩
    · rintro k s' zq68_2
      obtain ⟨h', tk, i, oD, kvs, m', rfl, hi, rfl, hst', F', hn', N', hdo, hfp, hkl⟩ := zq68_2
      by_cases hlt : i < xs.length
      · refine W.item i _ _ _ hlt hst' fun v h₂ tk₂ hPv hst₂ hk₂ => ?_
        refine wpAny_assign_Name (wpAny_storeName_local (lookup_relabel_local hx) (hn'.at' fun o e => hk₂ _ o (by simpa using Ne.symm hIC) e) (fun h₃ hn₃ hs₃ => ?_) (by simp [compEnvC, relabel, hkind]))
        refine wpAny_tests_nil ?_
        simp only [if_true]
        obtain ⟨oI, heI, hrI⟩ := hst₂
        have heI₃ : h₃.get? I = some oI := hs₃.extBut _ _ hIC heI
        obtain ⟨oC, heC, hoC⟩ := LCg.ns_obj hn₃
        obtain ⟨c, u, hc, rfl⟩ := hPv
        have hc' : xs[i]? = some c := by
          have q : xs.toArray[i]? = some c := hc
          rw [List.getElem?_toArray] at q; exact q
        have F₃ : Fr h₀ L h₃ m := (LCg.fr_but F' hk₂ hIL hI₀).change hs₃ hCL hC₀
        have N₂ : News h₀ L h₂ ((D, oD) :: news) := LCg.news_but N' hk₂ fun p hp => by
          rcases List.mem_cons.mp hp with rfl | hp
          · exact Ne.symm hID
          · exact offI p hp
        have N₃ : News h₀ L h₃ ((I, oI) :: (D + 1, oC) :: (D, oD) :: news) := fun p hp => by
          rcases List.mem_cons.mp hp with rfl | hp
          · exact ⟨heI₃, Ne.symm hIL, hI₀⟩
          · rcases List.mem_cons.mp hp with rfl | hp
            · exact ⟨heC, hCL, hC₀⟩
            · have z := N₂ p hp
              refine ⟨hs₃.extBut _ _ ?_ z.1, z.2⟩
              rcases List.mem_cons.mp hp with rfl | hp
              · exact hDC
              · exact (off₀.mem p hp).2.1
        refine wpAny_mono (R c u I oI (D + 1) oC D oD _ h₃ _ _ (List.mem_of_getElem? hc') hoC (by simp) F₃ N₃ off₀) (fun kv s₄ h₄ => ?_) fun _ _ e => e
        obtain ⟨⟨u', rfl⟩, h₄⟩ := h₄
        refine wpAny_mono h₄ (fun y s₅ h₅ => ?_) fun _ _ e => e
        obtain ⟨⟨u₂, rfl⟩, h₄, tk₄, rfl, F₄, N₄⟩ := h₅
        have zI := (N₄ (I, oI) List.mem_cons_self).1
        have zC := (N₄ (D + 1, oC) (List.mem_cons_of_mem _ List.mem_cons_self)).1
        have zD := (N₄ (D, oD) (List.mem_cons_of_mem _ (List.mem_cons_of_mem _ List.mem_cons_self))).1
        refine wpAny_dictSet_pairs (knd := strKind prog w) (hsz := by rw [sizeLine_eq]; omega) (strKind_is prog w (tx [c]) u') (Heap.dictOf_iff.mpr ⟨oD, zD, hdo⟩) fun h₆ hl₆ hs₆ => ?_
        obtain ⟨oD₆, hoD₆, hdo₆⟩ := Heap.dictOf_iff.mp hl₆
        refine ⟨xs.length + 1 - (i + 1), by omega, h₆, _, i + 1, oD₆, _, _, rfl, hlt, rfl, ⟨oI, hs₆.extBut _ _ hID zI, hrI⟩, F₄.change hs₆ hDL hD₀, (hoC.ns zC).sameBut hs₆ (Ne.symm hDC), fun p hp => ?_, hdo₆, ?_, ?_⟩
        · rcases List.mem_cons.mp hp with rfl | hp
          · exact ⟨hoD₆, hDL, hD₀⟩
          · have z := N₄ p (List.mem_cons_of_mem _ (List.mem_cons_of_mem _ (List.mem_cons_of_mem _ hp)))
            exact ⟨hs₆.extBut _ _ (off₀.mem p hp).2.2 z.1, z.2⟩
        · rw [take_snoc hc', spD_snoc]
          exact PyProof.V.FlatPairs.stored PyProof.V.same_str hfp (tx [c]) (Flat.str _ _)
        · have := stored_length_le kvs (tx [c]) (Value.str (tx (sp c)) u₂)
          omega
      · obtain rfl : i = xs.length := Nat.le_antisymm hi (Nat.not_lt.mp hlt)
        refine W.done _ _ _ hst' fun h₂ tk₂ hk₂ => ?_
        rw [List.take_length] at hfp
        have F₂ := LCg.fr_but F' hk₂ hIL hI₀
        have N₂ : News h₀ L h₂ ((D, oD) :: news) := LCg.news_but N' hk₂ fun p hp => by
          rcases List.mem_cons.mp hp with rfl | hp
          · exact Ne.symm hID
          · exact offI p hp
        refine ⟨_, hn'.at' fun o e => hk₂ _ o (by simpa using Ne.symm hIC) e, fun h'' hs'' => ?_⟩
        refine hQ D oD kvs h'' tk₂ (F₂.change hs'' hCL hC₀) (fun p hp => ?_) off₀.one hdo hfp (beq_eq_false_iff_ne.mpr (Nat.ne_of_gt (Nat.lt_trans hsys hLlt)))
        have z := N₂ p hp
        refine ⟨hs''.extBut _ _ ?_ z.1, z.2⟩
        rcases List.mem_cons.mp hp with rfl | hp
        · exact hDC
        · exact (off₀.mem p hp).2.1
    · rcases List.mem_cons.mp hp with rfl | hp
      · exact ⟨hoD₀, hDL, hD₀⟩
      · exact ⟨old _ _ (N₁ p hp).1, (N₁ p hp).2⟩
  exact codeAny_compStart_dict (loop _ rfl) (W.self 0 _ _ _ hst₁ (loop _ rfl))
end
noncomputable def piecesL : List (List Nat) := [[34], [92], [10], [13], [9], [32], [38], [60], [62], [97], [32, 34], [34, 32], [38, 35, 49, 48, 59], [92, 34]]
noncomputable def pieceAt (k : Int) : List Nat := (piecesL[k.toNat]?).getD []
theorem pieces_abs {t0 t1 t2 t3 t4 t5 t6 t7 t8 t9 t10 t11 t12 t13 : Tok} (k : Int) (h0 : 0 ≤ k) (h1 : k < 14) : ∃ t, (#[Value.str (Str.ofString "\"") t0, Value.str (Str.ofString "\\") t1, Value.str (Str.ofString "\n") t2, Value.str (Str.ofString "\x0d") t3,
          Value.str (Str.ofString "\t") t4, Value.str (Str.ofString " ") t5, Value.str (Str.ofString "&") t6, Value.str (Str.ofString "<") t7, Value.str (Str.ofString ">") t8, Value.str (Str.ofString "a") t9,
          Value.str (Str.ofString " \"") t10, Value.str (Str.ofString "\" ") t11, Value.str (Str.ofString "&#10;") t12, Value.str (Str.ofString "\\\"") t13] : Array Value)[k.toNat]? = some (.str (tx (pieceAt k)) t) := by
  have hj : k.toNat < 14 := by omega
  unfold pieceAt
  generalize k.toNat = j at hj
  match j, hj with
  | 0, _ => exact ⟨t0, congrArg (fun z => some (Value.str z t0)) (by decide +kernel : Str.ofString "\"" = tx [34])⟩
  | 1, _ => exact ⟨t1, congrArg (fun z => some (Value.str z t1)) (by decide +kernel : Str.ofString "\\" = tx [92])⟩
  | 2, _ => exact ⟨t2, congrArg (fun z => some (Value.str z t2)) (by decide +kernel : Str.ofString "\n" = tx [10])⟩
  | 3, _ => exact ⟨t3, congrArg (fun z => some (Value.str z t3)) (by decide +kernel : Str.ofString "\x0d" = tx [13])⟩
  | 4, _ => exact ⟨t4, congrArg (fun z => some (Value.str z t4)) (by decide +kernel : Str.ofString "\t" = tx [9])⟩
  | 5, _ => exact ⟨t5, congrArg (fun z => some (Value.str z t5)) (by decide +kernel : Str.ofString " " = tx [32])⟩
  | 6, _ => exact ⟨t6, congrArg (fun z => some (Value.str z t6)) (by decide +kernel : Str.ofString "&" = tx [38])⟩
  | 7, _ => exact ⟨t7, congrArg (fun z => some (Value.str z t7)) (by decide +kernel : Str.ofString "<" = tx [60])⟩
  | 8, _ => exact ⟨t8, congrArg (fun z => some (Value.str z t8)) (by decide +kernel : Str.ofString ">" = tx [62])⟩
  | 9, _ => exact ⟨t9, congrArg (fun z => some (Value.str z t9)) (by decide +kernel : Str.ofString "a" = tx [97])⟩
  | 10, _ => exact ⟨t10, congrArg (fun z => some (Value.str z t10)) (by decide +kernel : Str.ofString " \"" = tx [32, 34])⟩
  | 11, _ => exact ⟨t11, congrArg (fun z => some (Value.str z t11)) (by decide +kernel : Str.ofString "\" " = tx [34, 32])⟩
  | 12, _ => exact ⟨t12, congrArg (fun z => some (Value.str z t12)) (by decide +kernel : Str.ofString "&#10;" = tx [38, 35, 49, 48, 59])⟩
  | 13, _ => exact ⟨t13, congrArg (fun z => some (Value.str z t13)) (by decide +kernel : Str.ofString "\\\"" = tx [92, 34])⟩
  | n + 14, h => omega
theorem pieceAt_len (k : Int) : (pieceAt k).length ≤ 5 := by
  unfold pieceAt
  cases h : piecesL[k.toNat]? with
  | none => simp
  | some a =>
    have hm := List.mem_of_getElem? h
    revert hm
    have : ∀ a ∈ piecesL, a.length ≤ 5 := by decide
    exact this a
noncomputable def signs : List Nat := [34, 92, 10, 13, 9, 32, 38, 60, 62, 35, 48, 49, 59, 97, 98, 99]
theorem pieceAt_signs (k : Int) : ∀ c ∈ pieceAt k, c ∈ signs := by
  unfold pieceAt
  cases h : piecesL[k.toNat]? with
  | none => simp
  | some a =>
    have hm := List.mem_of_getElem? h
    revert hm
    have : ∀ a ∈ piecesL, ∀ c ∈ a, c ∈ signs := by decide
    exact this a
section
variable {prog : Program} {w : World} {A : Around} {E : Value → Shared → Prop} {s : Shared} {h₀ : Heap} {L : Addr} {m : Str → Option Value} {news : Led}
theorem upto_tail {l : Addr} {vs : List Value} {ns : List Int} {value slice : PySem.Expr} {vk : Value} {k : Int} {ops : List Value} {Q : Value → Shared → Prop} (F : Fr h₀ L s.heap m) (N : News h₀ L s.heap news) (hl : s.heap.IsList l vs.toArray) (pk : IsPart vk (some k)) (hk : 0 ≤ k) (hi : IntsAre vs ns)
    (hz : vs.length ≤ 16777216) (h : ∀ D ws h', Fr h₀ L h' m → News h₀ L h' ((D, W.listOf (List.toArray ws) 0) :: news) → (∀ p ∈ news, p.1 < D) → IntsAre ws (ns.take k.toNat) → Q (.ref D) { s with heap := h' })
    (hs : subscripted slice false (.ref l) (.ref s.heap.objs.size) = operate ops (getItem (.ref l) (.ref s.heap.objs.size))) :
    wpAny (model prog w) A (subscriptTail value slice (.ref l) (.ref s.heap.objs.size)) Q E { s with heap := s.heap.push { cls := .type "slice", data := .fields #[.none, vk, .none] } } := by
  refine tail_any (Heap.IsList.typeIs (s := { s with heap := s.heap.push { cls := .type "slice", data := .fields #[.none, vk, .none] } }) (hl.push _)) slot_list_getitem.lookup
    (wpAny_getItem_list_slice (hl.push _) (Heap.IsSliceOf.new ..) .none pk .none (by decide) ?_ (by rw [sizeLine_eq, List.size_toArray]; exact hz)) hs
  have N1 := News.push (F.push { cls := .type "slice", data := .fields #[.none, vk, .none] }) (N.grown fun _ _ e => Heap.get?_push_of_some _ e) { cls := .type "list", data := .seq (slicePick vs.toArray none (some k) none) }
  rw [Heap.size_push] at N1
  show Q (.ref (s.heap.push _).objs.size) _
  rw [Heap.size_push]
  refine h _ (slicePick vs.toArray none (some k) none).toList _ ((F.push _).push _) ?_ (fun p hp => Nat.lt_succ_of_lt (Heap.lt_size (N p hp).1)) (kmk_upto hi hk)
  rw [Array.toArray_toList]
  exact N1
end
-- E1
theorem toks_snoc (wsp : List Nat) : ∀ (n : Nat) (l : List Nat), toks wsp (n + 1) l = ((toks wsp n l).1 ++ [(tok wsp (toks wsp n l).2).1], (tok wsp (toks wsp n l).2).2)
  | 0, l => rfl
  | n + 1, l => by
    have ih := toks_snoc wsp n (tok wsp l).2
    show ((tok wsp l).1 :: (toks wsp (n + 1) (tok wsp l).2).1, (toks wsp (n + 1) (tok wsp l).2).2) = _
    rw [ih]
    rfl
theorem tokQ_len : ∀ (n : Nat) (acc l : List Nat), l.length ≤ n → (tokQ acc l).2.length ≤ l.length
  | _, acc, [], _ => by simp [tokQ]
  | n + 1, acc, c :: r, h => by
    rw [List.length_cons] at h
    by_cases h1 : c = 34
    · rw [tokQ_q h1]; simp
    · by_cases h2 : c = 92
      · rw [tokQ_b h2]
        have := tokQ_len n (acc ++ r.head?.toList) r.tail (by rw [List.length_tail]; omega)
        rw [List.length_tail] at this
        rw [List.length_cons]; omega
      · rw [tokQ_o h1 h2]
        have := tokQ_len n (acc ++ [c]) r (by omega)
        rw [List.length_cons]; omega
theorem tokW_len (wsp : List Nat) : ∀ (n : Nat) (acc l : List Nat), l.length ≤ n → (tokW wsp acc l).2.length ≤ l.length
  | _, acc, [], _ => by simp [tokW]
  | n + 1, acc, c :: r, h => by
    rw [List.length_cons] at h
    by_cases h1 : c ∈ wsp
    · rw [tokW_ws h1]; simp
    · by_cases h2 : c = 92
      · rw [tokW_b h1 h2]
        have := tokW_len wsp n (acc ++ r.head?.toList) r.tail (by rw [List.length_tail]; omega)
        rw [List.length_tail] at this
        rw [List.length_cons]; omega
      · rw [tokW_o h1 h2]
        have := tokW_len wsp n (acc ++ [c]) r (by omega)
        rw [List.length_cons]; omega
theorem tok_len (wsp : List Nat) : ∀ (l : List Nat), (tok wsp l).2.length ≤ l.length
  | [] => by simp [tok]
  | c :: r => by
    by_cases h1 : c ∈ wsp
    · rw [tok_ws h1]
      have := tok_len wsp r
      rw [List.length_cons]; omega
    · by_cases h2 : c = 34
      · rw [tok_q h1 h2]
        have := tokQ_len r.length [] r (Nat.le_refl _)
        rw [List.length_cons]; omega
      · by_cases h3 : c = 92
        · rw [tok_b h1 h3]
          have := tokW_len wsp r.tail.length r.head?.toList r.tail (Nat.le_refl _)
          rw [List.length_tail] at this
          rw [List.length_cons]; omega
        · rw [tok_o h1 h2 h3]
          have := tokW_len wsp r.length [c] r (Nat.le_refl _)
          rw [List.length_cons]; omega
theorem toks_len (wsp : List Nat) : ∀ (n : Nat) (l : List Nat), (toks wsp n l).2.length ≤ l.length
  | 0, _ => Nat.le_refl _
  | n + 1, l => Nat.le_trans (toks_len wsp n (tok wsp l).2) (tok_len wsp l)
noncomputable def small (l : List Nat) : Prop := ∀ d ∈ l, d < 0x110000
theorem tabs_small : ∀ t ∈ tabs, ∀ p ∈ t, ∀ d ∈ p.2, d < 0x110000 := by decide
theorem spell_small : ∀ (t : Tab) (c : Nat), (∀ p ∈ t, ∀ d ∈ p.2, d < 0x110000) → c < 0x110000 → small (spell t c)
  | [], c, _, h => fun d hd => by
    rw [List.mem_singleton.mp hd]; exact h
  | (k, r) :: t, c, ht, h => by
    unfold spell
    split
    · exact ht (k, r) (List.mem_cons_self ..)
    · exact spell_small t c (fun p hp => ht p (List.mem_cons_of_mem _ hp)) h
theorem encs_small : ∀ (ks : List Int) (x : List Nat), small x → small (encs ks x)
  | [], _, h => h
  | k :: ks, x, h => encs_small ks _ fun d hd => by
    obtain ⟨c, hc, hdc⟩ := List.mem_flatMap.mp hd
    exact spell_small _ c (tabs_small _ (tabOf_mem k)) (h c hc) d hdc
theorem small_app {a b : List Nat} (ha : small a) (hb : small b) : small (a ++ b) := fun d hd => (List.mem_append.mp hd).elim (ha d) (hb d)
noncomputable def WS.small (a : WS) : Prop := (∀ wd ∈ a.words, Mine.small wd) ∧ Mine.small a.word
theorem small_nil : small [] := fun d hd => by cases hd
theorem small_snoc {ws : List (List Nat)} {wd : List Nat} (h1 : ∀ a ∈ ws, small a) (h2 : small wd) : ∀ a ∈ ws ++ [wd], small a := fun a ha => (List.mem_append.mp ha).elim (h1 a) fun h => by rw [List.mem_singleton.mp h]; exact h2
theorem wStep_small (sp : Nat → List Nat) (a : WS) (c : Nat) (h1 : small (sp c)) (h2 : c < 0x110000) (h : a.small) : (wStep sp a c).small := by
  obtain ⟨ws, wd, st, hd⟩ := a
  have hc : small [c] := fun d hd => by rw [List.mem_singleton.mp hd]; exact h2
  unfold WS.small at h
  have hA := small_app h.2 h1
  have hB := small_app h.2 hc
  have hC := small_snoc h.1 h.2
  unfold wStep
  dsimp only at h hA hB hC ⊢
  (repeat' split) <;> (try cases st) <;> (try dsimp only) <;> (try (repeat' split)) <;> (unfold WS.small; first | exact ⟨h.1, hA⟩ | exact ⟨h.1, hB⟩ | exact ⟨hC, small_nil⟩ | exact h)
theorem wF_small (sp : Nat → List Nat) : ∀ (l : List Nat) (a : WS), (∀ c ∈ l, small (sp c) ∧ c < 0x110000) → a.small → (l.foldl (wStep sp) a).small
  | [], _, _, h => h
  | c :: l, a, hl, h => wF_small sp l (wStep sp a c) (fun d hd => hl d (List.mem_cons_of_mem _ hd)) (wStep_small sp a c (hl c (List.mem_cons_self ..)).1 (hl c (List.mem_cons_self ..)).2 h)
theorem law_small (ks : List Int) (x : List Nat) (hx : small x) : ∀ wd ∈ lawWords (fun c => encs ks [c]) x ++ [[]], small wd := by
  have h := wF_small (fun c => encs ks [c]) x ⟨[], [], .btw, false⟩ (fun c hc => ⟨encs_small ks [c] (fun d hd => by rw [List.mem_singleton.mp hd]; exact hx c hc), hx c hc⟩) ⟨fun wd h => (by cases h), small_nil⟩
  refine small_snoc ?_ small_nil
  change WS.small (wF (fun c => encs ks [c]) x) at h
  unfold lawWords wEnd
  split
  · exact h.1
  · exact small_snoc h.1 h.2
theorem small_ok {ws : List (List Nat)} (h : ∀ wd ∈ ws, small wd) : ∀ s ∈ ws.map tx, PyData.strOk s = true := fun s hs => by
  obtain ⟨wd, hw, rfl⟩ := List.mem_map.mp hs
  unfold PyData.strOk
  rw [Array.all_eq_true']
  intro d hd
  exact decide_eq_true (h wd hw d (by simpa using hd))
theorem tx_canLayAll0 : ∀ ns : List Str, (∀ s ∈ ns, PyData.strOk s = true) → PyData.canLayAll0 (ns.map PyData.str) = true
  | [], _ => rfl
  | a :: r, h => by simp [PyData.canLayAll0, PyData.canLay0, tx_canLayAll0 r (fun s hs => h s (List.mem_cons_of_mem _ hs)), h a (List.mem_cons_self ..)]
theorem tx_depthAll : ∀ ns : List Str, PyData.depthAll (ns.map PyData.str) = 0
  | [] => rfl
  | _ :: r => by simp [PyData.depthAll, PyData.depth, tx_depthAll r]
theorem tx_shaped (ns : List Str) (hok : ∀ s ∈ ns, PyData.strOk s = true) : SeqAt.shaped (.list (ns.map PyData.str)) = true := by
  simp [SeqAt.shaped, PyData.canLay0, PyData.depth, tx_canLayAll0 ns hok, tx_depthAll]
theorem tx_sameAll : ∀ ns : List Str, PySem.Spec.sameAll (ns.map PyData.str) (ns.map PyData.str) = true
  | [] => by simp [PySem.Spec.sameAll]
  | a :: r => by
    simp only [List.map_cons, PySem.Spec.sameAll, PySem.Spec.same, tx_sameAll r]
    simp
theorem tx_same (ns : List Str) : PySem.Spec.same (.list (ns.map PyData.str)) (.list (ns.map PyData.str)) = true := by
  simp only [PySem.Spec.same]; exact tx_sameAll ns
theorem tx_carried : ∀ {vs : List Value} {ns : List Str}, StrsAre vs ns → CarriedAll vs (ns.map PyData.str)
  | _, _, .nil => .nil
  | _, _, .cons _ t r => .cons (.str _ t) (tx_carried r)
section
variable {prog : Program} {w : World} {A : Around} {E : Value → Shared → Prop} {s : Shared} {a b : Addr} {xs ys : List Value} {ns : List Str} {Q : Value → Shared → Prop}
theorem eq_txts (ha : s.heap.IsList a xs.toArray) (hb : s.heap.IsList b ys.toArray) (hi : StrsAre xs ns) (hj : StrsAre ys ns) (hok : ∀ s ∈ ns, PyData.strOk s = true) (hu : A.units + 64 < cLine) (h : Q (.bool true) s) :
    wpAny (model prog w) A (compareOp .Eq (.ref a) (.ref b)) Q E s :=
  eq_dataH_same (reads_newData ha (tx_carried hi)) (reads_newData hb (tx_carried hj)) (tx_shaped _ hok) (tx_shaped _ hok) hu (SeqAt.noMix_of_shape (.list .str) rfl _ _ (list_map_has fun _ => rfl) (list_map_has fun _ => rfl)) (by rw [tx_same]; exact h)
theorem ne_txts (ha : s.heap.IsList a xs.toArray) (hb : s.heap.IsList b ys.toArray) (hi : StrsAre xs ns) (hj : StrsAre ys ns) (hok : ∀ s ∈ ns, PyData.strOk s = true) (hu : A.units + 64 < cLine) (h : Q (.bool false) s) :
    wpAny (model prog w) A (compareOp .NotEq (.ref a) (.ref b)) Q E s :=
  ne_dataH_same (reads_newData ha (tx_carried hi)) (reads_newData hb (tx_carried hj)) (tx_shaped _ hok) (tx_shaped _ hok) hu (SeqAt.noMix_of_shape (.list .str) rfl _ _ (list_map_has fun _ => rfl) (list_map_has fun _ => rfl)) (by rw [tx_same]; exact h)
end
theorem cnt_count : ∀ l : List Nat, PyProof.Rows.cnt 10 l = ((l.count 10 : Nat) : Int)
  | [] => rfl
  | c :: r => by
    rw [PyProof.Rows.cnt_cons, cnt_count r, List.count_cons]
    by_cases h : c = 10
    · simp [h]; omega
    · simp [h]
theorem count_tx (l : List Nat) : (Txt.count (tx l) (tx [10]) : Int) = ((l.count 10 : Nat) : Int) := by
  have h := PyProof.Rows.count_cnt (tx l) 10
  rw [show (tx [10]) = (⟨#[10]⟩ : Str) from rfl, h, show (tx l).cps.toList = l by simp]
  exact cnt_count l
theorem relex {base h : Heap} {L L4 : Addr} {c4 : Obj} {fix : Led} {D1 S1 : Addr × Obj} (N : News base L h (D1 :: S1 :: fix)) (hm : (L4, c4) ∈ fix) (hd : c4.data = .cell none) (hoff : ∀ p ∈ fix, p.1 ≠ D1.1 ∧ p.1 ≠ S1.1) :
    ∃ F0 : Led, News base L h ((L4, c4) :: D1 :: S1 :: F0) ∧ (∀ p ∈ D1 :: S1 :: F0, p.1 ≠ L4) ∧ (∀ p ∈ fix, p.2.data ≠ .cell none → p ∈ F0) ∧ (∀ p ∈ fix, p.1 ≠ L4 → p ∈ F0) ∧ (∀ p ∈ F0, p ∈ fix) := by
  refine ⟨fix.filter (fun p => p.1 != L4), cb_drop N (fun p hp => ?_), fun p hp => ?_, fun p hp hn => ?_, fun p hp hn => List.mem_filter.mpr ⟨hp, bne_iff_ne.mpr hn⟩, fun p hp => (List.mem_filter.mp hp).1⟩
  · rcases List.mem_cons.mp hp with rfl | hp
    · exact .tail _ (.tail _ hm)
    · rcases List.mem_cons.mp hp with rfl | hp
      · exact .head _
      · rcases List.mem_cons.mp hp with rfl | hp
        · exact .tail _ (.head _)
        · exact .tail _ (.tail _ (List.mem_filter.mp hp).1)
  · rcases List.mem_cons.mp hp with rfl | hp
    · exact Ne.symm (hoff _ hm).1
    · rcases List.mem_cons.mp hp with rfl | hp
      · exact Ne.symm (hoff _ hm).2
      · exact bne_iff_ne.mp (List.mem_filter.mp hp).2
  · refine List.mem_filter.mpr ⟨hp, bne_iff_ne.mpr fun e => hn ?_⟩
    have h1 := (N _ (.tail _ (.tail _ hm))).1
    have h2 := (N _ (.tail _ (.tail _ hp))).1
    rw [e] at h2
    rw [h1] at h2
    rw [← Option.some.inj h2]
    exact hd
-- E2
section
variable {prog : Program} {w : World} {A : Around} {E : Value → Shared → Prop} {s : Shared} {h₀ : Heap} {L : Addr} {m : Str → Option Value} {env : Env}
theorem compRestT_inv {ct elt : Expr} {x : Str} {scope : Scope} {cl : List (Str × Addr)} {S : Led → Prop} {P : Nat → Value → Prop} {Fin : List Value → Led → Prop} (n : Nat) (Inv : Nat → List Value → Led → Prop)
    (step : ∀ i ys news v I oI C oC D m₂ h tk (E' : Value → Shared → Prop), i < n → Inv i ys news → P i v → LCg.NsObj oC m₂ → m₂ x = some v → Fr h₀ L h m → News h₀ L h ((I, oI) :: (C, oC) :: (D, LCg.lst ys) :: news) → LCg.Off3 I C D news →
      ((@Ne Nat I C) ∧ (@Ne Nat I D) ∧ (@Ne Nat C D)) →
      wpAny (model prog w) A (isTrue ct (compEnvC scope cl C env) (eval ct (compEnvC scope cl C env))) (fun ok s' => if ok = true then
        wpAny (model prog w) A (eval elt (compEnvC scope cl C env)) (LCg.CompEnd h₀ L m { s with heap := h, toks := tk } I oI C oC D (LCg.lst ys) S (fun y news' => Inv (i + 1) (ys ++ [y]) news')) E' s'
        else LCg.CompEnd h₀ L m { s with heap := h, toks := tk } I oI C oC D (LCg.lst ys) S (fun _ news' => Inv (i + 1) ys news') Value.none s') E' { s with heap := h, toks := tk })
    (fin : ∀ ys news, Inv n ys news → Fin ys news) : ∀ k i ys news, i + k = n → Inv i ys news → LCt.CompRestT prog w A h₀ L m env ct elt x scope cl s S P Fin k i ys news
  | 0, i, ys, news, e, hI => LCt.CompRestT.zero (fin ys news ((show i = n from e) ▸ hI))
  | k + 1, i, ys, news, e, hI => LCt.CompRestT.succ fun v I oI C oC D m₂ h tk E' hP hC hx F N off ne => by
    refine wpAny_mono (step i ys news v I oI C oC D m₂ h tk E' (by omega) hI hP hC hx F N off ne) (fun ok s' hc => ?_) fun _ _ e => e
    cases ok with
    | true =>
      rw [if_pos rfl] at hc ⊢
      refine wpAny_mono hc (fun y s'' hc => ?_) fun _ _ e => e
      refine opq fun G9 hG9 => ?_
      obtain ⟨h', tk', news', e', F', N', off', hS, r⟩ := hc
      refine hG9 ?_
      clear hG9
      exact ⟨h', tk', news', e', F', N', off', hS, compRestT_inv n Inv step fin k (i + 1) _ _ (by omega) r⟩
    | false =>
      rw [if_neg (by decide)] at hc ⊢
      refine opq fun G9 hG9 => ?_
      obtain ⟨h', tk', news', e', F', N', off', hS, r⟩ := hc
      refine hG9 ?_
      clear hG9
      exact ⟨h', tk', news', e', F', N', off', hS, compRestT_inv n Inv step fin k (i + 1) _ _ (by omega) r⟩
theorem ListComp_ST {ct elt iter : Expr} {x : Str} {px : Pos} {scope : Scope} {cl : List (Str × Addr)} {pos : Pos} {Q : Value → Shared → Prop} (F₀ : Fr h₀ L s.heap m)
    (hclos : closureFor scope env = pure cl) (hcell : ∀ y ∈ scope.names, y.2 ≠ .cell) (hkind : scope.kind = .function)
    (hnames : ∀ y ∈ scope.names, y.2 = .local → scope.names.lookup y.1 = some .local) (hx : scope.names.lookup x = some .local)
    (h : wpAny (model prog w) A (eval iter env) (fun xv s₁ => ∃ xs t news, xv = .str (tx xs) t ∧ A.handled = none ∧ Fr h₀ L s₁.heap m ∧ News h₀ L s₁.heap news ∧ xs.length ≤ 16777216 ∧ (tx xs).cps.all (· < 128) = true ∧
      ∀ s₂ : Shared, (∃ h, s₂ = { s₁ with heap := h }) → LCt.CompRestT prog w A h₀ L m env ct elt x scope cl s₂ (fun _ => True) (fun i v => ∃ c t, xs[i]? = some c ∧ v = .str (tx [c]) t) (LCg.FinE h₀ L m s₂ Q) xs.length 0 [] news) E s)
    (hs : ∀ x, foldedSetIterable iter env x = pure x := by intro _; rfl) :
    wpAny (model prog w) A (eval (.ListComp elt [⟨.Name x px, iter, [ct], 0⟩] scope pos) env) Q E s := by
  rw [eval_ListComp]
  refine wpAny_comprehension_free (use := none) rfl hs hclos hkind hnames (wpAny_mono h (fun xv s₁ h₁ => ?_) fun _ _ e => e)
  refine opq fun G9 hG9 => ?_
  obtain ⟨xs, t, news, rfl, hh, F, N, hsz, ha, R⟩ := h₁
  refine hG9 ?_
  clear hG9
  have hsize : (tx xs).cps.size = xs.length := by simp
  have hP : (fun i v => ∃ c t, xs[i]? = some c ∧ v = Value.str (tx [c]) t) = SignAt (tx xs) := by
    funext i v
    refine propext ⟨?_, ?_⟩
    · rintro ⟨c, t, hc, rfl⟩; exact ⟨c, t, by simpa using hc, rfl⟩
    · rintro ⟨c, t, hc, rfl⟩; exact ⟨c, t, by simpa using hc, rfl⟩
  have R2 := R { s₁ with heap := s₁.heap.push { cls := .type "str_ascii_iterator", data := .fields #[.str (tx xs) t, .int 0 0] } } ⟨_, rfl⟩
  rw [hP] at R2
  refine wpAny_pyIter_ascii ha ?_
  have W := Walks.strAscii (prog := prog) (w := w) hh s₁.heap.objs.size (tx xs) t
  rw [hsize] at W
  refine LCt.block_T (S := fun _ => True) W (by rw [sizeLine_eq]; exact hsz) (fun i h st => by obtain ⟨o', e, _⟩ := st; exact ⟨o', e⟩)
    (fun i h h' o' nw st e e' _ _ _ => by obtain ⟨o'', q, r⟩ := st; rw [e] at q; cases q; exact ⟨o', e', r⟩) hcell hkind hx ⟨_, Heap.get?_push_size _ rfl, rfl, rfl⟩ (fun b hb => ?_)
    (F.keeps fun _ _ e => Heap.get?_push_of_some _ e) (N.grown fun _ _ e => Heap.get?_push_of_some _ e) (Nat.ne_of_lt F.ns.lt) (next_is_new F) (fun p hp => Nat.ne_of_lt (Heap.lt_size (N p hp).1)) trivial R2 ?_
  · rw [List.mem_singleton.mp hb]
    show s₁.heap.objs.size < (s₁.heap.push _).objs.size
    rw [Heap.size_push]; exact Nat.lt_succ_self _
  · intro D C h' tk m' ys news' F' N' o1 hn hC₀ hD₀ hCL hDL hCD offC fin
    refine ⟨m', hn, fun h'' hs'' => fin D h'' tk (F'.change hs'' hCL hC₀) (fun p hp => ?_) o1⟩
    refine ⟨hs''.extBut _ _ ?_ (N' p hp).1, (N' p hp).2⟩
    rcases List.mem_cons.mp hp with rfl | hp
    · exact Ne.symm hCD
    · exact offC p hp
end
-- E3
theorem tokQ_fst : ∀ (n : Nat) (acc l : List Nat), l.length ≤ n → (tokQ acc l).1.length ≤ acc.length + l.length
  | _, acc, [], _ => by simp [tokQ]
  | n + 1, acc, c :: r, h => by
    rw [List.length_cons] at h
    by_cases h1 : c = 34
    · rw [tokQ_q h1]; simp
    · by_cases h2 : c = 92
      · rw [tokQ_b h2]
        have := tokQ_fst n (acc ++ r.head?.toList) r.tail (by rw [List.length_tail]; omega)
        cases r with
        | nil => simp at this ⊢; omega
        | cons d r => simp at this ⊢; omega
      · rw [tokQ_o h1 h2]
        have := tokQ_fst n (acc ++ [c]) r (by omega)
        rw [List.length_append, List.length_singleton] at this
        rw [List.length_cons]; omega
theorem tokW_fst (wsp : List Nat) : ∀ (n : Nat) (acc l : List Nat), l.length ≤ n → (tokW wsp acc l).1.length ≤ acc.length + l.length
  | _, acc, [], _ => by simp [tokW]
  | n + 1, acc, c :: r, h => by
    rw [List.length_cons] at h
    by_cases h1 : c ∈ wsp
    · rw [tokW_ws h1]; simp
    · by_cases h2 : c = 92
      · rw [tokW_b h1 h2]
        have := tokW_fst wsp n (acc ++ r.head?.toList) r.tail (by rw [List.length_tail]; omega)
        cases r with
        | nil => simp at this ⊢; omega
        | cons d r => simp at this ⊢; omega
      · rw [tokW_o h1 h2]
        have := tokW_fst wsp n (acc ++ [c]) r (by omega)
        rw [List.length_append, List.length_singleton] at this
        rw [List.length_cons]; omega
theorem tok_fst (wsp : List Nat) : ∀ (l : List Nat), (tok wsp l).1.length ≤ l.length
  | [] => by simp [tok]
  | c :: r => by
    by_cases h1 : c ∈ wsp
    · rw [tok_ws h1]
      have := tok_fst wsp r
      rw [List.length_cons]; omega
    · by_cases h2 : c = 34
      · rw [tok_q h1 h2]
        have := tokQ_fst r.length [] r (Nat.le_refl _)
        rw [List.length_nil] at this
        rw [List.length_cons]; omega
      · by_cases h3 : c = 92
        · rw [tok_b h1 h3]
          have := tokW_fst wsp r.tail.length r.head?.toList r.tail (Nat.le_refl _)
          cases r with
          | nil => simp [tokW]
          | cons d r => simp at this ⊢; omega
        · rw [tok_o h1 h2 h3]
          have := tokW_fst wsp r.length [c] r (Nat.le_refl _)
          rw [List.length_singleton] at this
          rw [List.length_cons]; omega
structure Box (P : Prop) : Prop where
  out : P
theorem pieces_len : ∀ cs : List Int, (cs.map fun c => pieceAt (c.fmod 14)).flatten.length ≤ 5 * cs.length
  | [] => by simp
  | c :: cs => by
    have h1 := pieces_len cs
    have h2 := pieceAt_len (c.fmod 14)
    rw [List.map_cons, List.flatten_cons, List.length_append, List.length_cons]
    omega
theorem pieces_signs : ∀ (cs : List Int), ∀ d ∈ (cs.map fun c => pieceAt (c.fmod 14)).flatten, d ∈ signs := fun cs d hd => by
  obtain ⟨l, hl, hdl⟩ := List.mem_flatten.mp hd
  obtain ⟨c, _, rfl⟩ := List.mem_map.mp hl
  exact pieceAt_signs _ d hdl
theorem HandsAre.mono {w : World} {nx nx' : Led} (hs : ∀ p ∈ nx, p.2 ≠ tabObj #[] → p ∈ nx') : ∀ {vs : List Value} {ks : List Int}, HandsAre w nx vs ks → HandsAre w nx' vs ks
  | _, _, .nil => .nil
  | _, _, .cons a b c z e r => .cons a (hs _ b fun q => by cases q) (hs _ c fun q => by
      obtain ⟨kvs, ⟨es, ep, _, hd, _⟩, _⟩ := z
      dsimp only at q
      rw [q] at hd; cases hd) z e (r.mono hs)
theorem notCell_list {vs : Array Value} {n : Nat} : NotCell (W.listOf vs n) := fun v e => by cases e
theorem notCell_tab {vs : Array Value} : NotCell (tabObj vs) := fun v e => by cases e
theorem ne_tab {h₀ h : Heap} {L : Addr} {news : Led} {c : Addr} (N : News h₀ L h news) (hc : (c, tabObj #[]) ∈ news) : ∀ p ∈ news, p.2 ≠ tabObj #[] → p.1 ≠ c := fun p hp hn e => by
  have h1 := (N _ hc).1
  have h2 := (N _ hp).1
  rw [e] at h2
  rw [h1] at h2
  exact hn (Option.some.inj h2).symm
set_option maxRecDepth 100000 in
set_option maxHeartbeats 40000000 in
noncomputable def A1 : (P : Prop) ×' (Box P → PySem.Challenge.rw_to0013_01.Holds) := by
  refine' ⟨_, fun hPr0 => ?_⟩
  case refine'_2 =>
    refine hd ?_
    k_go0
    (all_goals try k_fold)
    (repeat' ((fail_if_success (with_reducible show wpAny _ _ (PySem.exec (PySem.Stmt.For _ _ _ _ _) _) _ _ _)); (fail_if_success (with_reducible show wpAny _ _ (PySem.eval (PySem.Expr.ListComp _ _ _ _) _) _ _ _)); (first | (k_unfold; (try dsimp only)) | (k_end; wrow_close) | walk1 | (dsimp only; walk1) | (leave1; try dsimp only) )))
    k_dflt (refine LCg.ListComp_U (F₀ := by k_asm) (by with_unfolding_all rfl) (by decide) (by rfl) (by decide) (by rfl) ?_)
    walk1
    rename News _ _ _ _ => N2
    obtain ⟨arr, N3, harr⟩ : ∃ arr, News _ _ _ ((_, W.listOf arr 0) :: _) ∧ ∀ k : Int, 0 ≤ k → k < 14 → ∃ t, arr[k.toNat]? = some (.str (tx (pieceAt k)) t) := ⟨_, N2, pieces_abs⟩
    clear N2
    rename IntsAre _ _ => hIc
    have hcl := hIc.length
    rw [List.length_map, List.length_take] at hcl
    k_dflt (refine LCg.CompSrc.ledger (its := ys.toArray) rfl (by k_asm) N3 (List.mem_cons_of_mem _ (List.mem_cons_self ..)) (by (rw [sizeLine_eq, List.size_toArray, hcl]; omega)) (fun gg => ?_))
    rename_i w s0 s1 mg mb hG hY fa o pm cd doc ho hcd hg hX hV hT hB hTE hTW script hs hlay0 hL hr hl2 wA wvs wl wv2 wa3 hLs ra w1 r0 hI hrA hcond1 hcond2 hD hp1 tk1 c5 c4 c3 c2 c1 e5 e4 e3 e2 e1 X0 XF TT KB l0 D1 ws1 hp2 hI1 hC1 hL1 l1 hkl hkl2 hp3 hL8 D2 hp4 tkA o1a lp hp5 l2 hp6 oc FF dd
    clear hcond2 hD hV hTE hTW ra r0 hs hlay0 hL hr hl2 hY hX hT8 hT9 hrA w1 hG hT hB hLs ho hcd hI X0
    have hd5 : c5.data = Data.cell none := e5
    have hd4 : c4.data = Data.cell none := e4
    have hd3 : c3.data = Data.cell none := e3
    have hd2 : c2.data = Data.cell none := e2
    clear e5 e4 e3 e2 e1
    generalize hcs : List.map (fun k' => Int.fmod k' (10 ^ Int.toNat 6)) (List.take 12 script) = cs at hIc hL8
    change LCg.CompRest _ _ (ktrTop _ _ (some []) _ _ _ _ _ (cellsFrom (s1.heap.objs.size + 1) _ []) []) _ _ (fun z => if z = Str.ofString "cells" then some (Value.ref D2) else if z = Str.ofString "script" then some (Value.ref wl) else none) _ _ _ _ _ _ _ _ _ _ _ _ _
    replace FF := Fr_eqm (m' := fun z => if z = Str.ofString "cells" then some (Value.ref D2) else if z = Str.ofString "script" then some (Value.ref wl) else none) FF (fun y => by with_unfolding_all rfl)
    generalize ghostOf s1.heap [(111, 107)] = base at *
    generalize s1.heap.objs.size = L at *
    refine compRest_inv _ (fun i zs nw => nw = ((lp, W.listOf arr 0) :: (D2, LCg.lst ys) :: (D1, W.listOf ws1.toArray 0) :: (L + 1 + 1 + 1 + 1 + 1, c5) :: (L + 1 + 1 + 1 + 1, c4) :: (L + 1 + 1 + 1, c3) :: (L + 1 + 1, c2) :: (L + 1, oc) :: (107, tabObj #[]) :: []) ∧ StrsAre zs ((cs.take i).map fun c => tx (pieceAt (c.fmod 14)))) ?_ ?_ _ 0 [] _ (Nat.zero_add _) ⟨rfl, .nil⟩
    · rintro i zs _ v I oI C oC D m₂ h tk E' hi ⟨rfl, hzs⟩ hP hC hx Fc Nc off ne
      have hi' : i < cs.length := by rw [← hL8]; rw [List.size_toArray] at hi; exact hi
      have hki : cs[i]? = some cs[i] := List.getElem?_eq_getElem hi'
      obtain ⟨t9, hx9⟩ := hIc.get i cs[i] hki
      have hv : v = .int cs[i] t9 := by
        have hP' : ys[i]? = some v := by rw [List.getElem?_toArray] at hP; exact hP
        rw [hx9] at hP'; exact (Option.some.inj hP').symm
      subst hv
      have hsn : cs.take (i + 1) = cs.take i ++ [cs[i]] := take_snoc hki
      iterate 6 walk1
      have hm0 := Int.fmod_nonneg_of_pos cs[i] (show (0 : Int) < 14 by decide)
      have hm1 := Int.fmod_lt_of_pos cs[i] (show (0 : Int) < 14 by decide)
      obtain ⟨t8, hx8⟩ := harr _ hm0 hm1
      refine item_at (News.isList Nc (List.mem_cons_of_mem _ (List.mem_cons_of_mem _ (List.mem_cons_of_mem _ (List.mem_cons_self ..))))) hm0 (by omega) hx8 ?_
      refine LCg.CompEnd.intro Fc Nc _ (fun p hp => hp) off (.inr ⟨_, List.mem_cons_of_mem _ (List.mem_cons_self ..), rfl, _, rfl⟩) ⟨rfl, ?_⟩
      rw [hsn, List.map_append]
      exact hzs.append' (.cons _ _ .nil)
    · rintro zs _ ⟨rfl, hzs⟩
      intro D h9 tk9 F9 N9 o9
      rw [List.size_toArray, hL8, List.take_length] at hzs
      have hlit : Str.ofString "\"b\n<\" c\\\"\u000d>\t\"&\\" = tx [34, 98, 10, 60, 34, 32, 99, 92, 34, 13, 62, 9, 34, 38, 92] := by decide +kernel
      simp only [show Str.ofString "" = tx [] from by decide +kernel, hlit]
      walk1
      refine join_tx (ls := cs.map fun c => pieceAt (c.fmod 14)) (News.isList N9 (List.mem_cons_self ..)) (by rw [List.map_map]; exact hzs) ?_ (fun t' k' => ?_)
      · have h1 := pieces_len cs
        rw [List.length_map]
        omega
      replace N9 := cb_drop (news := (D2, LCg.lst ys) :: (L + 1 + 1 + 1 + 1 + 1, c5) :: (L + 1 + 1 + 1 + 1, c4) :: (L + 1 + 1 + 1, c3) :: (L + 1 + 1, c2) :: (L + 1, oc) :: (107, tabObj #[]) :: []) N9 (fun p hp => .tail _ (.tail _ (by
        rcases List.mem_cons.mp hp with rfl | hp
        · exact List.mem_cons_self ..
        · exact .tail _ (.tail _ hp))))
      have hp0 := pieces_len cs
      have hp1s := pieces_signs cs
      have hcl12 : cs.length ≤ 12 := by omega
      generalize (List.map (fun c => pieceAt (c.fmod 14)) cs).flatten = p0 at *
      dsimp only
      walk1
      walk1
      walk1
      have hx0 : (p0 ++ [34, 98, 10, 60, 34, 32, 99, 92, 34, 13, 62, 9, 34, 38, 92]).length ≤ 75 := by
        rw [List.length_append]
        simp only [List.length_cons, List.length_nil]
        omega
      have hx1 : ∀ c ∈ p0 ++ [34, 98, 10, 60, 34, 32, 99, 92, 34, 13, 62, 9, 34, 38, 92], c ∈ signs := fun c hc => (List.mem_append.mp hc).elim (hp1s c) ((by decide : ∀ c ∈ [34, 98, 10, 60, 34, 32, 99, 92, 34, 13, 62, 9, 34, 38, 92], c ∈ signs) c)
      generalize p0 ++ [34, 98, 10, 60, 34, 32, 99, 92, 34, 13, 62, 9, 34, 38, 92] = x at *
      clear hzs hp0 hp1s hlit o9
      rename Fr _ _ _ _ => F0
      rename News _ _ _ _ => N1
      obtain ⟨tx1, F1⟩ : ∃ t, Fr _ _ _ (fun y => if y = Str.ofString "text" then some (Value.str (tx x) t) else if y = Str.ofString "cells" then some (Value.ref D2) else if y = Str.ofString "script" then some (Value.ref wl) else none) := ⟨_, Fr_eqm F0 (fun y => by with_unfolding_all rfl)⟩
      clear F0
      change wpAny _ (ktrTop _ _ (some []) _ _ _ _ _ (cellsFrom (L + 1) _ []) []) _ _ _ _
      dsimp only
      clear harr gg lifted
      clear c1 hp1 hp2 hp3 hp4 hp5 hp6 arr pm doc wA wvs wa3 tk1 hI1 hC1 hL1 hkl hkl2
      iterate 14 walk1
      rename Fr _ _ _ _ => F0
      rename News _ _ _ _ => N0
      generalize hn : (8 : Int) + cs.sum = n at *
      obtain ⟨tn, F2⟩ : ∃ t, Fr _ _ _ (fun y => if y = Str.ofString "total" then some (Value.int n t) else if y = Str.ofString "text" then some (Value.str (tx x) tx1) else if y = Str.ofString "cells" then some (Value.ref D2) else if y = Str.ofString "script" then some (Value.ref wl) else none) := ⟨_, Fr_eqm F0 (fun y => by with_unfolding_all rfl)⟩
      clear F0
      replace N0 := drop1 N0
      dsimp only
      walk1
      walk1
      walk1
      iterate 25 walk1
      (repeat ((fail_if_success (with_reducible show wpAny _ _ (subscriptTail _ _ _ _) _ _ _)); walk1))
      rename News base L _ _ => N3
      rename Fr base L _ _ => F3
      try dsimp only at N3 F3
      try dsimp only
      obtain ⟨vs3, N3b, hvs3⟩ : ∃ vs : List Value, News base L _ ((_, W.listOf vs.toArray 0) :: _) ∧ IntsAre vs [n.fmod 5, (n.fdiv 15).fmod 5, (n.fdiv 75).fmod 5] := ⟨[_, _, _], N3, .cons _ _ (.cons _ _ (.cons _ _ .nil))⟩
      k_dflt (refine' upto_tail (s := { heap := _, gens := s1.gens, drawn := s1.drawn, toks := _, os := s1.os }) (k := 1 + (n.fdiv 5).fmod 3) F3 N3b ?ul9 ?uk9 ?uk0 hvs3 ?uz9 ?_ ?us9; (case ul9 => exact News.isList N3b (List.mem_cons_self ..)); (case uk9 => exact IsPart.int _ _); (case uk0 => exact Int.add_nonneg (by decide) (Int.fmod_nonneg_of_pos _ (by decide))); (case uz9 => (have := hvs3.length; simp only [List.length_cons, List.length_nil] at this; omega)); (case us9 => with_unfolding_all rfl))
      intro lk kvs hq F4 N4 l4 hkI
      replace N4 := cb_drop (news := (lk, W.listOf kvs.toArray 0) :: (L + 1 + 1 + 1 + 1 + 1, c5) :: (L + 1 + 1 + 1 + 1, c4) :: (L + 1 + 1 + 1, c3) :: (L + 1 + 1, c2) :: (L + 1, oc) :: (107, tabObj #[]) :: []) N4 (fun p hp => by
          rcases List.mem_cons.mp hp with rfl | hp
          · exact List.mem_cons_self ..
          · exact .tail _ (.tail _ hp))
      clear F3 N3 N3b l4 hvs3
      generalize hks : List.take (1 + (n.fdiv 5).fmod 3).toNat [n.fmod 5, (n.fdiv 15).fmod 5, (n.fdiv 75).fmod 5] = ks at hkI
      have hks3 : ks.length ≤ 3 := by rw [← hks]; exact List.length_take_le' ..
      have hks5 : ∀ k ∈ ks, 0 ≤ k ∧ k < 5 := fun k hk => by
        rw [← hks] at hk
        have h5 := List.mem_of_mem_take hk
        simp only [List.mem_cons, List.not_mem_nil, or_false] at h5
        rcases h5 with rfl | rfl | rfl <;> exact ⟨Int.fmod_nonneg_of_pos _ (by decide), Int.fmod_lt_of_pos _ (by decide)⟩
      dsimp only
      walk1
      refine ⟨by k_in, ?_⟩
      try dsimp only
      k_dflt (refine' Con.use (c124 w _ lk kvs ks 0 (List.mem_cons_self ..) hkI hks5 hks3) ?k1 ?k2 ?k3 ?k4 ?k5 ?kK ?kd ?ku ?kc ?_; ((case k1 => k_asm); (case k2 => k_asm); (case k3 => k_asm); (case k4 => k_asm); (case k5 => k_asm); (case kK => first | exact rfl | assumption); (case kd => ktr_room); (case ku => ktr_units); (case kc => assumption)))
      rintro _ _ h5 tk5 F5 N5 zq1_6
      refine opq fun G9 hG9 => ?_
      obtain ⟨hl, hvs, hn5, ex, rfl, rfl, hH, hnc⟩ := zq1_6
      refine hG9 ?_
      clear hG9
      clear F4 N4
      obtain ⟨G, hG, hGx, hG107, N6⟩ : ∃ G : Led, (∀ p ∈ G, p.1 ≠ L + 1 + 1 ∧ p.1 ≠ L + 1 + 1 + 1 ∧ p.1 ≠ L + 1 + 1 + 1 + 1 ∧ p.1 ≠ L + 1 + 1 + 1 + 1 + 1) ∧ (∀ p ∈ (hl, W.listOf hvs hn5) :: ex, p.2 ≠ tabObj #[] → p ∈ G) ∧ (∀ p ∈ G, p.1 ≠ 107) ∧
          News base L h5 ((L + 1 + 1, c2) :: (L + 1 + 1 + 1, c3) :: (L + 1 + 1 + 1 + 1, c4) :: (L + 1 + 1 + 1 + 1 + 1, c5) :: (107, tabObj #[]) :: G) := by
        refine ⟨(hl, W.listOf hvs hn5) :: ex.filter (fun p => p.1 != 107), ?_, ?_, ?_, cb_drop N5 fun p hp => ?_⟩
        · intro p hp
          have hp' : p ∈ (hl, W.listOf hvs hn5) :: (ex ++ ((lk, W.listOf kvs.toArray 0) :: (L + 1 + 1 + 1 + 1 + 1, c5) :: (L + 1 + 1 + 1 + 1, c4) :: (L + 1 + 1 + 1, c3) :: (L + 1 + 1, c2) :: (L + 1, oc) :: (107, tabObj #[]) :: [])) ∧ NotCell p.2 := by
            rcases List.mem_cons.mp hp with rfl | hp
            · exact ⟨List.mem_cons_self .., notCell_list⟩
            · have := (List.mem_filter.mp hp).1
              exact ⟨List.mem_cons_of_mem _ (List.mem_append_left _ this), hnc _ this⟩
          refine ⟨News.ne_cell N5 (oc := c2) ?_ hd2 p hp'.1 hp'.2, News.ne_cell N5 (oc := c3) ?_ hd3 p hp'.1 hp'.2, News.ne_cell N5 (oc := c4) ?_ hd4 p hp'.1 hp'.2, News.ne_cell N5 (oc := c5) ?_ hd5 p hp'.1 hp'.2⟩ <;>
            (refine List.mem_cons_of_mem _ (List.mem_append_right _ ?_); simp)
        · intro p hp hp2
          rcases List.mem_cons.mp hp with rfl | hp
          · exact List.mem_cons_self ..
          · refine List.mem_cons_of_mem _ (List.mem_filter.mpr ⟨hp, bne_iff_ne.mpr ?_⟩)
            exact ne_tab N5 (c := 107) (List.mem_cons_of_mem _ (List.mem_append_right _ (by simp))) p (List.mem_cons_of_mem _ (List.mem_append_left _ hp)) hp2
        · intro p hp
          rcases List.mem_cons.mp hp with rfl | hp
          · exact ne_tab N5 (c := 107) (List.mem_cons_of_mem _ (List.mem_append_right _ (by simp))) _ (List.mem_cons_self ..) (fun e => by cases e)
          · exact bne_iff_ne.mp (List.mem_filter.mp hp).2
        · simp only [List.mem_cons, List.mem_append, List.mem_filter] at hp ⊢
          rcases hp with h | h | h | h | h | h | h
          · subst h; simp
          · subst h; simp
          · subst h; simp
          · subst h; simp
          · subst h; simp
          · subst h; simp
          · exact .inr (.inl h.1)
      have hHG : HandsAre w G hvs.toList ks := hH.mono fun p hp hne => hGx p (List.mem_cons_of_mem _ hp) hne
      have hhm := hGx _ (List.mem_cons_self ..) (fun e => by cases e)
      clear N5 hH hnc hGx
      have hall2 : ∀ p ∈ (L + 1 + 1 + 1, c3) :: (L + 1 + 1 + 1 + 1, c4) :: (L + 1 + 1 + 1 + 1 + 1, c5) :: (107, tabObj #[]) :: G, p.1 ≠ L + 1 + 1 := fun p hp => by
        simp only [List.mem_cons] at hp
        rcases hp with rfl | rfl | rfl | rfl | hp
        · exact Nat.ne_of_gt (by omega)
        · exact Nat.ne_of_gt (by omega)
        · exact Nat.ne_of_gt (by omega)
        · dsimp only; omega
        · exact (hG p hp).1
      dsimp only
      walk1
      rename Fr base L _ _ => F7
      obtain ⟨o2, d2, N7⟩ : ∃ o2 : Obj, o2.data = .cell (some (.ref hl)) ∧ News base L _ ((L + 1 + 1, o2) :: (L + 1 + 1 + 1, c3) :: (L + 1 + 1 + 1 + 1, c4) :: (L + 1 + 1 + 1 + 1 + 1, c5) :: (107, tabObj #[]) :: G) := ⟨_, by assumption, by assumption⟩
      dsimp only
      clear hall2 hkI hd2 c2 oc dd hcs hIc hL8 cs hcl hcl12 hn
      obtain ⟨vsl, rfl⟩ : ∃ vsl : List Value, hvs = vsl.toArray := ⟨hvs.toList, by simp⟩
      simp only at hHG
      have hlit : Str.ofString "\"\\\n\u000d\t &<>#01;abc" = tx signs := by decide +kernel
      iterate 2 walk1
      k_dflt (refine DictComp_S (h₀ := base) (L := L) (m := fun y => if y = Str.ofString "total" then some (Value.int n tn) else if y = Str.ofString "text" then some (Value.str (tx x) tx1) else if y = Str.ofString "cells" then some (Value.ref D2) else if y = Str.ofString "script" then some (Value.ref wl) else none) (xs := signs) (sp := fun c => encs ks [c]) (news := (L + 1 + 1, o2) :: (L + 1 + 1 + 1, c3) :: (L + 1 + 1 + 1 + 1, c4) :: (L + 1 + 1 + 1 + 1 + 1, c5) :: (107, tabObj #[]) :: G) (by with_unfolding_all rfl) (by decide) (by rfl) (by decide) (by rfl) ?_ (by intro _; with_unfolding_all rfl) (Nat.lt_trans (by decide) l0) (by decide +kernel))
      walk1
      refine ⟨⟨_, congrArg (fun z => Value.str z _) hlit⟩, rfl, F7, N7, by decide, ?_, ?_⟩
      · intro c t I oI C oC D oD m₂ h tk E' hc hC hx Fc Nc off
        walk1
        refine ⟨⟨_, rfl⟩, ?_⟩
        (repeat ((fail_if_success (with_reducible show _ ∧ _)); walk1))
        refine ⟨by k_in, ?_⟩
        k_dflt (refine' Con.use (c129 w ((I, oI) :: (C, oC) :: (D, oD) :: (L + 1 + 1, o2) :: (L + 1 + 1 + 1, c3) :: (L + 1 + 1 + 1 + 1, c4) :: (L + 1 + 1 + 1 + 1 + 1, c5) :: (107, tabObj #[]) :: G) [c] _ hl vsl hn5 ks ?hm ?hh hks3 (by simp)) ?k1 ?k2 ?k3 ?k4 ?k5 ?kK ?kd ?ku ?kc ?_; (case hm => exact .tail _ (.tail _ (.tail _ (.tail _ (.tail _ (.tail _ (.tail _ (.tail _ hhm)))))))); (case hh => exact hHG.mono fun p hp _ => .tail _ (.tail _ (.tail _ (.tail _ (.tail _ (.tail _ (.tail _ (.tail _ hp)))))))); ((case k1 => k_asm); (case k2 => k_asm); (case k3 => k_asm); (case k4 => k_asm); (case k5 => k_asm); (case kK => first | exact rfl | assumption); (case kd => ktr_room); (case ku => ktr_units); (case kc => assumption)))
        rintro r5 nx5 h5 tk5 F5 N5 ⟨rfl, t5, rfl⟩
        exact ⟨⟨_, rfl⟩, _, _, rfl, F5, N5⟩
      · intro D oD kvs2 h9 tk9 F9 N9 off9 hdo hfp hsys
        have hGD : ∀ p ∈ (D, oD) :: G, p.1 ≠ L + 1 + 1 ∧ p.1 ≠ L + 1 + 1 + 1 ∧ p.1 ≠ L + 1 + 1 + 1 + 1 ∧ p.1 ≠ L + 1 + 1 + 1 + 1 + 1 := fun p hp => by
          rcases List.mem_cons.mp hp with rfl | hp
          · exact ⟨Ne.symm off9.1, Ne.symm off9.2.1, Ne.symm off9.2.2.1, Ne.symm off9.2.2.2.1⟩
          · exact hG p hp
        have hGD7 : ∀ p ∈ (D, oD) :: G, p.1 ≠ 107 := fun p hp => by
          rcases List.mem_cons.mp hp with rfl | hp
          · exact Ne.symm off9.2.2.2.2.1
          · exact hG107 p hp
        have hmD : (D, oD) ∈ (D, oD) :: G := List.mem_cons_self ..
        have hHG2 : HandsAre w ((D, oD) :: G) vsl ks := hHG.mono fun p hp _ => List.mem_cons_of_mem _ hp
        have hhm2 : (hl, W.listOf vsl.toArray hn5) ∈ (D, oD) :: G := List.mem_cons_of_mem _ hhm
        replace N9 := cb_drop (news := (L + 1 + 1 + 1, c3) :: (L + 1 + 1, o2) :: (L + 1 + 1 + 1 + 1, c4) :: (L + 1 + 1 + 1 + 1 + 1, c5) :: (107, tabObj #[]) :: (D, oD) :: G) N9 (fun p hp => by
          simp only [List.mem_cons] at hp ⊢
          grind)
        generalize (D, oD) :: G = G2 at *
        have hall4 : ∀ p ∈ (L + 1 + 1, o2) :: (L + 1 + 1 + 1 + 1, c4) :: (L + 1 + 1 + 1 + 1 + 1, c5) :: (107, tabObj #[]) :: G2, p.1 ≠ L + 1 + 1 + 1 := fun p hp => by
          simp only [List.mem_cons] at hp
          rcases hp with rfl | rfl | rfl | rfl | hp
          · exact Nat.ne_of_lt (by omega)
          · exact Nat.ne_of_gt (by omega)
          · exact Nat.ne_of_gt (by omega)
          · dsimp only; omega
          · exact (hGD p hp).2.1
        clear hG hG107 hHG hhm
        walk1
        rename Fr base L _ _ => F8
        obtain ⟨o3, d3, N8⟩ : ∃ o3 : Obj, o3.data = .cell (some (.ref D)) ∧ News base L _ ((L + 1 + 1 + 1, o3) :: (L + 1 + 1, o2) :: (L + 1 + 1 + 1 + 1, c4) :: (L + 1 + 1 + 1 + 1 + 1, c5) :: (107, tabObj #[]) :: G2) := ⟨_, by assumption, by assumption⟩
        dsimp only
        clear hall4
        repeat (rename_i q; revert q)
        revert w s0 s1 mg mb fa o cd hg script wl wv2 hcond1 c5 c4 c3 D1 ws1 ys D2 tkA lp hd5 hd4 hd3 base XF TT KB codeHd L l0 l1 o1a l2 zs t' k' p0 x hx0 hx1 tx1 tk n tn vs3 lk kvs hq ks hks hks3 hks5 h5 tk5 G9 hl hn5 ex G o2 d2 vsl hlit D oD kvs2 h9 tk9 off9 hdo hfp hsys G2 hGD hGD7 hmD hHG2 hhm2 o3 d3
        exact hPr0.out
theorem sp_le (ks : List Int) (h : ks.length ≤ 3) (c : Nat) : (encs ks [c]).length ≤ 1000 := by
  have h1 := encs_le ks [c]
  have h2 : 6 ^ ks.length ≤ 6 ^ 3 := Nat.pow_le_pow_right (by decide) h
  rw [List.length_singleton, Nat.mul_one] at h1
  omega
theorem due_abs {base h : Heap} {L el : Addr} {dvs : Array Value} {t : Tok} {n : Nat} {ws : List (List Nat)} {a b : Addr × Obj} {news : Led} (N : News base L h ((el, W.listOf (dvs.toList ++ (#[Value.str (tx []) t] : Array Value).toList).toArray n) :: a :: b :: news)) (hd : StrsAre dvs.toList (ws.map tx)) :
    ∃ evs : List Value, StrsAre evs ((ws ++ [[]]).map tx) ∧ News base L h ((el, W.listOf evs.toArray n) :: news) := by
  refine ⟨dvs.toList ++ [Value.str (tx []) t], ?_, cb_drop N (fun p hp => ?_)⟩
  · rw [List.map_append]
    exact hd.append' (.cons _ _ .nil)
  · rcases List.mem_cons.mp hp with rfl | hp
    · exact List.mem_cons_self ..
    · exact .tail _ (.tail _ (.tail _ hp))
theorem HandsAre.mono2 {w : World} {nx nx' : Led} {ps : Array Value} (hs : ∀ p ∈ nx, p.2 ≠ tabObj ps → p ∈ nx') : ∀ {vs : List Value} {ks : List Int}, HandsAre w nx vs ks → HandsAre w nx' vs ks
  | _, _, .nil => .nil
  | _, _, .cons a b c z e r => .cons a (hs _ b fun q => by cases q) (hs _ c fun q => by
      obtain ⟨kvs, ⟨es, ep, _, hd, _⟩, _⟩ := z
      dsimp only at q
      rw [q] at hd; cases hd) z e (r.mono2 hs)
theorem retab {base h : Heap} {L : Addr} {ps : Array Value} {nx : Led} (N : News base L h nx) (hm : (107, tabObj ps) ∈ nx) :
    ∃ R : Led, News base L h ((107, tabObj ps) :: R) ∧ (∀ p ∈ R, p.1 ≠ 107) ∧ (∀ p ∈ nx, p.2 ≠ tabObj ps → p ∈ R) := by
  refine ⟨nx.filter (fun p => p.1 != 107), cb_drop N (fun p hp => ?_), fun p hp => bne_iff_ne.mp (List.mem_filter.mp hp).2, fun p hp hn => List.mem_filter.mpr ⟨hp, bne_iff_ne.mpr fun e => hn ?_⟩⟩
  · rcases List.mem_cons.mp hp with rfl | hp
    · exact hm
    · exact (List.mem_filter.mp hp).1
  · have h1 := (N _ hm).1
    have h2 := (N _ hp).1
    rw [e] at h2
    rw [h1] at h2
    exact (Option.some.inj h2).symm
theorem HandsAre.mono3 {w : World} {nx nx' : Led} (hs : ∀ p ∈ nx, p.2.data ≠ .cell none → p ∈ nx') : ∀ {vs : List Value} {ks : List Int}, HandsAre w nx vs ks → HandsAre w nx' vs ks
  | _, _, .nil => .nil
  | _, _, .cons a b c z e r => .cons a (hs _ b fun q => by cases q) (hs _ c fun q => by
      obtain ⟨kvs, ⟨es, ep, _, hd, _⟩, _⟩ := z
      dsimp only at q
      rw [q] at hd; cases hd) z e (r.mono3 hs)
theorem flat1 : ∀ l : List Nat, (l.map fun c => [c]).flatten = l
  | [] => rfl
  | c :: l => by rw [List.map_cons, List.flatten_cons, flat1 l]; rfl
set_option maxRecDepth 100000 in
set_option maxHeartbeats 40000000 in
theorem A2 : A1.1 := by
  intro w s0 s1 mg mb fa o cd hg script wl wv2 hcond1 c5 c4 c3 D1 ws1 ys D2 tkA lp hd5 hd4 hd3 base XF TT KB codeHd L l0 l1 o1a l2 zs t' k' p0 x hx0 hx1 tx1 tk n tn vs3 lk kvs hq ks hks hks3 hks5 h5 tk5 G9 hl hn5 ex G o2 d2 vsl hlit D oD kvs2 h9 tk9 off9 hdo hfp hsys G2 hGD hGD7 hmD hHG2 hhm2 o3 d3 _ _ _ _ _ _ _ _ _ _ _ _ _ _ _ _ _ _ F8 N8 _ _ _
  revert XF
  k_fill
  intro XF
  clear off9 hlit
  (repeat ((fail_if_success (with_reducible show _ ∧ _)); walk1))
  refine ⟨by k_in, ?_⟩
  k_dflt (refine' Con.use (c136 w ((L + 1 + 1 + 1, o3) :: (L + 1 + 1, o2) :: (L + 1 + 1 + 1 + 1, c4) :: (L + 1 + 1 + 1 + 1 + 1, c5) :: (107, tabObj #[]) :: G2) x _ hl vsl hn5 ks ?hm ?hh hks3 (by omega)) ?k1 ?k2 ?k3 ?k4 ?k5 ?kK ?kd ?ku ?kc ?_; (case hm => exact .tail _ (.tail _ (.tail _ (.tail _ (.tail _ hhm2))))); (case hh => exact hHG2.mono fun p hp _ => .tail _ (.tail _ (.tail _ (.tail _ (.tail _ hp))))); ((case k1 => k_asm); (case k2 => k_asm); (case k3 => k_asm); (case k4 => k_asm); (case k5 => k_asm); (case kK => first | exact rfl | assumption); (case kd => ktr_room); (case ku => ktr_units); (case kc => assumption)))
  rintro r5 nx5 h5 tk5 F5 N5 ⟨rfl, t5, rfl⟩
  clear F8 N8
  dsimp only
  walk1
  rename Fr base L _ _ => F6
  rename News base L _ _ => N6
  replace F6 := Fr_eqm (m' := fun y => if y = Str.ofString "page" then some (Value.str (tx (encs ks x)) t5) else if y = Str.ofString "total" then some (Value.int n tn) else if y = Str.ofString "text" then some (Value.str (tx x) tx1) else if y = Str.ofString "cells" then some (Value.ref D2) else if y = Str.ofString "script" then some (Value.ref wl) else none) F6 (fun y => by with_unfolding_all rfl)
  dsimp only
  (repeat ((fail_if_success (with_reducible show wpAny _ _ (PySem.eval (PySem.Expr.ListComp _ _ _ _) _) _ _ _)); walk1))
  rename News base L _ _ => N6b
  k_dflt (refine ListComp_S (F₀ := by k_asm) (by with_unfolding_all rfl) (by decide) (by rfl) (by decide) (by rfl) ?_)
  walk1
  refine ⟨_, _, _, rfl, rfl, by k_asm, N6b, by omega, ?_⟩
  rintro _ ⟨gg, rfl⟩
  refine compRest_inv _ (fun i zs nw => nw = ((L + 1 + 1 + 1, o3) :: (L + 1 + 1, o2) :: (L + 1 + 1 + 1 + 1, c4) :: (L + 1 + 1 + 1 + 1 + 1, c5) :: (107, tabObj #[]) :: G2) ∧ StrsAre zs ((x.take i).map fun c => tx (encs ks [c]))) ?_ ?_ _ 0 [] _ (Nat.zero_add _) ⟨rfl, .nil⟩
  · rintro i zs _ v I oI C oC D' m₂ h tk E' hi zq2_14 zq2_15 hC hx Fc Nc off ne
    refine opq fun G9 hG9 => ?_
    obtain ⟨rfl, hzs⟩ := zq2_14
    obtain ⟨c, t5, hc, rfl⟩ := zq2_15
    refine hG9 ?_
    clear hG9
    have hs5 := take_snoc hc
    (repeat ((fail_if_success (with_reducible show wpAny _ _ (subscriptTail _ _ _ _) _ _ _)); walk1))
    have T := TabAt.ofObj hsys (Nc _ (.tail _ (.tail _ (.tail _ (.tail _ (.tail _ (.tail _ (.tail _ (.tail _ hmD))))))))).1 hdo hfp
    refine item_sp T (spD_get (fun c => encs ks [c]) (hx1 c (List.mem_of_getElem? hc))) (fun t8 => ?_)
    refine LCg.CompEnd.intro Fc Nc _ (fun p hp => hp) off trivial ⟨rfl, ?_⟩
    rw [hs5, List.map_append]
    exact hzs.append' (.cons _ _ .nil)
  · rintro zs _ ⟨rfl, hzs⟩
    rw [List.take_length] at hzs
    intro D' h9 tk9 F9 N9 o9
    walk1
    have hfl : (x.map fun c => encs ks [c]).flatten = encs ks x := by rw [encs_flat ks x, List.flatMap_def]
    have hel := encs_le3 ks x hks3 (by omega)
    refine join_tx (ls := x.map fun c => encs ks [c]) (News.isList N9 (List.mem_cons_self ..)) (by rw [List.map_map]; exact hzs) (by rw [hfl, List.length_map]; omega) (fun t' k' => ?_)
    rw [hfl]
    replace N9 := drop1 N9
    clear hzs
    dsimp only
    walk1
    walk1
    rw [if_neg (by simp)]
    clear F6
    (repeat ((fail_if_success (with_reducible show _ ∧ _)); walk1))
    refine ⟨by k_in, ?_⟩
    k_dflt (refine' Con.use (c143 w ((L + 1 + 1 + 1, o3) :: (L + 1 + 1, o2) :: (L + 1 + 1 + 1 + 1, c4) :: (L + 1 + 1 + 1 + 1 + 1, c5) :: (107, tabObj #[]) :: G2) x _ D oD kvs2 (spD (fun c => encs ks [c]) signs) (fun c => encs ks [c]) (by omega) ?hm hsys hdo hfp (fun c hc => spD_get _ (hx1 c hc)) ?hsl) ?k1 ?k2 ?k3 ?k4 ?k5 ?kK ?kd ?ku ?kc ?_; (case hm => exact .tail _ (.tail _ (.tail _ (.tail _ (.tail _ hmD))))); (case hsl => exact fun c _ => sp_le ks hks3 c); ((case k1 => k_asm); (case k2 => k_asm); (case k3 => k_asm); (case k4 => k_asm); (case k5 => k_asm); (case kK => first | exact rfl | assumption); (case kd => ktr_room); (case ku => ktr_units); (case kc => assumption)))
    rintro r5 nx5 h5 tk5 F5 N5 zq3_6
    refine opq fun G9 hG9 => ?_
    obtain ⟨dl, dvs, dn, rfl, rfl, hdv⟩ := zq3_6
    refine hG9 ?_
    clear hG9
    clear N9
    dsimp only
    clear N6b F9 o9 hfl
    have hwl : (lawWords (fun c => encs ks [c]) x).length ≤ 76 := by
      have h1 := wF_le (fun c => encs ks [c]) x ⟨[], [], .btw, false⟩ (fun c _ => sp_le ks hks3 c)
      have h2 : (lawWords (fun c => encs ks [c]) x).length ≤ (wF (fun c => encs ks [c]) x).words.length + 1 := by
        unfold lawWords wEnd
        split <;> simp
      change _ ∧ (wF (fun c => encs ks [c]) x).words.length ≤ _ at h1
      simp only [List.length_nil] at h1
      omega
    have hvl : dvs.size = (lawWords (fun c => encs ks [c]) x).length := by rw [← Array.length_toList, hdv.length, List.length_map]
    (repeat ((fail_if_success (with_reducible show wpAny _ _ (execs _ _) _ _ _)); walk1))
    rename Fr base L _ _ => F4
    rename News base L _ _ => N4
    rename StrsAre dvs.toList _ => hdv
    obtain ⟨evs, hev, N8⟩ := due_abs N4 hdv
    obtain ⟨el, F8, N9⟩ : ∃ (el : Addr), Fr base L _ (fun y => if y = Str.ofString "due" then some (Value.ref el) else if y = Str.ofString "page" then some (Value.str (tx (encs ks x)) t5) else if y = Str.ofString "total" then some (Value.int n tn) else if y = Str.ofString "text" then some (Value.str (tx x) tx1) else if y = Str.ofString "cells" then some (Value.ref D2) else if y = Str.ofString "script" then some (Value.ref wl) else none) ∧
        News base L _ ((el, _) :: _) := ⟨_, Fr_eqm F4 (fun y => by with_unfolding_all rfl), N8⟩
    clear N4 F4 N8
    dsimp only
    have hGE : ∀ p ∈ (el, W.listOf evs.toArray 0) :: G2, p.1 ≠ L + 1 + 1 ∧ p.1 ≠ L + 1 + 1 + 1 ∧ p.1 ≠ L + 1 + 1 + 1 + 1 ∧ p.1 ≠ L + 1 + 1 + 1 + 1 + 1 := fun p hp => by
      rcases List.mem_cons.mp hp with rfl | hp
      · exact ⟨News.ne_cell N9 (oc := o2) (by simp) d2 _ (List.mem_cons_self ..) notCell_list, News.ne_cell N9 (oc := o3) (by simp) d3 _ (List.mem_cons_self ..) notCell_list, News.ne_cell N9 (oc := c4) (by simp) hd4 _ (List.mem_cons_self ..) notCell_list, News.ne_cell N9 (oc := c5) (by simp) hd5 _ (List.mem_cons_self ..) notCell_list⟩
      · exact hGD p hp
    have hGE7 : ∀ p ∈ (el, W.listOf evs.toArray 0) :: G2, p.1 ≠ 107 := fun p hp => by
      rcases List.mem_cons.mp hp with rfl | hp
      · exact ne_tab N9 (c := 107) (by simp) _ (List.mem_cons_self ..) (fun e => by cases e)
      · exact hGD7 p hp
    have hmE : (el, W.listOf evs.toArray 0) ∈ (el, W.listOf evs.toArray 0) :: G2 := List.mem_cons_self ..
    have hmD3 : (D, oD) ∈ (el, W.listOf evs.toArray 0) :: G2 := List.mem_cons_of_mem _ hmD
    have hHG3 : HandsAre w ((el, W.listOf evs.toArray 0) :: G2) vsl ks := hHG2.mono fun p hp _ => List.mem_cons_of_mem _ hp
    have hhm3 : (hl, W.listOf vsl.toArray hn5) ∈ (el, W.listOf evs.toArray 0) :: G2 := List.mem_cons_of_mem _ hhm2
    have N10 := cb_drop (news := (107, tabObj #[]) :: (L + 1 + 1 + 1, o3) :: (L + 1 + 1, o2) :: (L + 1 + 1 + 1 + 1, c4) :: (L + 1 + 1 + 1 + 1 + 1, c5) :: (el, W.listOf evs.toArray 0) :: G2) N9 (fun p hp => by
      simp only [List.mem_cons] at hp ⊢
      grind)
    generalize (el, W.listOf evs.toArray 0) :: G2 = G3 at *
    clear hGD hGD7 hmD hHG2 hhm2 N9 hdv hvl
    have hel2 : (encs ks x).length ≤ 50000 := by
      have h1 := encs_le ks x
      have h2 : 6 ^ ks.length ≤ 6 ^ 3 := Nat.pow_le_pow_right (by decide) hks3
      have h3 : 6 ^ ks.length * x.length ≤ 6 ^ 3 * 75 := Nat.mul_le_mul h2 hx0
      omega
    (repeat ((fail_if_success (with_reducible show _ ∧ _)); walk1))
    refine ⟨by k_in, ?_⟩
    k_dflt (refine' Con.use (c112 w ((L + 1 + 1 + 1, o3) :: (L + 1 + 1, o2) :: (L + 1 + 1 + 1 + 1, c4) :: (L + 1 + 1 + 1 + 1 + 1, c5) :: G3) (encs ks x) _ ?hr hel2) ?k1 ?k2 ?k3 ?k4 ?k5 ?kK ?kd ?ku ?kc ?_; (case hr => (intro p hp; simp only [List.mem_cons] at hp; rcases hp with rfl | rfl | rfl | rfl | hp <;> first | exact Nat.ne_of_gt (by omega) | exact hGE7 p hp)); ((case k1 => k_asm); (case k2 => k_asm); (case k3 => k_asm); (case k4 => k_asm); (case k5 => k_asm); (case kK => first | exact rfl | assumption); (case kd => ktr_room); (case ku => ktr_units); (case kc => assumption)))
    rintro _ _ h6 tk6 F6 N6 zq4_6
    refine opq fun G9 hG9 => ?_
    obtain ⟨lx, dlx, sl, st, pl, t1, t2, t3, t4, u1, u3, vsx, nx6, fix, rfl, rfl, hvx, hfix, hsub, hoff, hne, hhit⟩ := zq4_6
    refine hG9 ?_
    clear hG9
    clear F8 N10
    have zq5 := relex (L4 := L + 1 + 1 + 1 + 1) (c4 := c4) N6 (hsub _ (by simp)) hd4 hoff
    refine opq fun G9 hG9 => ?_
    obtain ⟨F0, N7, hall7, hk1, hk2, hk3⟩ := zq5
    refine hG9 ?_
    clear hG9
    dsimp only
    walk1
    rename Fr base L _ _ => F7
    obtain ⟨o4, d4, N8⟩ : ∃ o4 : Obj, o4.data = .cell (some (.ref lx)) ∧ News base L _ ((L + 1 + 1 + 1 + 1, o4) :: (dlx, dictOf (lexEs w t1 t2 t3 t4 (.int 1 u1) (.ref st) (.str (tx [10, 9, 13, 32]) u3) (.ref pl)) 4) :: (sl, listOf vsx.toArray nx6) :: F0) := ⟨_, by assumption, by assumption⟩
    obtain ⟨fix0, hfix0, hf0⟩ := hfix
    have hLX : LexFix w ((L + 1 + 1 + 1 + 1, o4) :: F0) lx dlx sl st pl := hfix0.mono fun p hp => .tail _ (hk1 p (hf0 p hp).1 (hf0 p hp).2)
    have hoffX : ∀ p ∈ (L + 1 + 1 + 1 + 1, o4) :: F0, p.1 ≠ dlx ∧ p.1 ≠ sl := fun p hp => by
      rcases List.mem_cons.mp hp with rfl | hp
      · have h := hoff (L + 1 + 1 + 1 + 1, c4) (hsub (L + 1 + 1 + 1 + 1, c4) (by simp))
        exact ⟨h.1, h.2⟩
      · exact hoff p (hk3 p hp)
    have hG4 : ∀ p ∈ G3, p ∈ (L + 1 + 1 + 1 + 1, o4) :: F0 := fun p hp => .tail _ (hk2 p (hsub p (by simp [hp])) (hGE p hp).2.2.1)
    have hX4 : (L + 1 + 1 + 1 + 1, o4) ∈ (L + 1 + 1 + 1 + 1, o4) :: F0 := .head _
    have hX5 : (L + 1 + 1 + 1 + 1 + 1, c5) ∈ (L + 1 + 1 + 1 + 1, o4) :: F0 := .tail _ (hk2 _ (hsub _ (by simp)) (Nat.ne_of_gt (by omega)))
    have hX3 : (L + 1 + 1 + 1, o3) ∈ (L + 1 + 1 + 1 + 1, o4) :: F0 := .tail _ (hk2 _ (hsub _ (by simp)) (Nat.ne_of_lt (by omega)))
    have hX2 : (L + 1 + 1, o2) ∈ (L + 1 + 1 + 1 + 1, o4) :: F0 := .tail _ (hk2 _ (hsub _ (by simp)) (Nat.ne_of_lt (by omega)))
    have hHX : HitOk ((L + 1 + 1 + 1 + 1, o4) :: F0) := by
      refine opq fun G9 hG9 => ?_
      obtain ⟨c', oc', vs', t', m1, m2, m3, m4⟩ := hhit
      refine hG9 ?_
      clear hG9
      exact ⟨c', oc', vs', t', .tail _ (hk1 _ m1 (fun e => by cases e)), .tail _ (hk1 _ m2 (ne_of_fields m3)), m3, m4⟩
    have N9 := cb_drop (news := (dlx, dictOf (lexEs w t1 t2 t3 t4 (.int 1 u1) (.ref st) (.str (tx [10, 9, 13, 32]) u3) (.ref pl)) 4) :: (sl, listOf vsx.toArray nx6) :: (L + 1 + 1 + 1 + 1, o4) :: F0) N8 (fun p hp => by
      simp only [List.mem_cons] at hp ⊢
      grind)
    generalize (L + 1 + 1 + 1 + 1, o4) :: F0 = FX at *
    have hmE4 := hG4 _ hmE
    have hmD4 := hG4 _ hmD3
    have hHG4 : HandsAre w FX vsl ks := hHG3.mono fun p hp _ => hG4 p hp
    have hhm4 := hG4 _ hhm3
    dsimp only
    clear hsub hoff hhit hall7 hk1 hk2 hk3 hfix0 hf0 hG4 hGE hGE7 hmE hmD3 hHG3 hhm3 fix0 N8
    have hm1 := hLX.h1
    have hm2 := hLX.h2
    have hevl : evs.length = (lawWords (fun c => encs ks [c]) x).length + 1 := by rw [hev.length, List.length_map, List.length_append]; rfl
    (repeat ((fail_if_success (with_reducible show wpAny _ _ (PySem.eval (PySem.Expr.ListComp _ _ _ _) _) _ _ _)); walk1))
    have N10 := N9
    k_dflt (refine LCg.ListComp_U (F₀ := by k_asm) (by with_unfolding_all rfl) (by decide) (by rfl) (by decide) (by rfl) ?_)
    walk1
    have Hw := page_words ks x
    have hel3 : ∀ i, (toks wsL i (encs ks x)).2.length ≤ 50000 := fun i => Nat.le_trans (toks_len wsL i _) hel2
    k_dflt (refine LCg.CompSrc.ledger (its := evs.toArray) (k := 0) rfl (by k_asm) N10 (.tail _ (.tail _ hmE4)) (by (rw [sizeLine_eq, List.size_toArray]; omega)) (fun gg => ?_))
    refine compRest_inv _ (fun i zs nw => ∃ (u1' : Tok) (vs' : List Value) (n' : Nat), nw = (dlx, dictOf (lexEs w t1 t2 t3 t4 (.int (lnOf (1 + (((encs ks x).count 10 : Nat) : Int)) (toks wsL i (encs ks x)).2) u1') (.ref st) (.str (tx wsL) u3) (.ref pl)) 4) :: (sl, W.listOf vs'.toArray n') :: FX ∧ StrsAre zs ((toks wsL i (encs ks x)).1.map tx) ∧ StrsAre vs' ((toks wsL i (encs ks x)).2.reverse.map fun c => tx [c])) ?_ ?_ _ 0 [] _ (Nat.zero_add _) ⟨u1, vsx, nx6, ?_, .nil, hvx⟩
    · rintro i zs _ v I oI C oC D' m₂ h tk E' hi zq7_14 hP hC hx Fc Nc off ne
      refine opq fun G9 hG9 => ?_
      obtain ⟨u1', vs', n', rfl, hzs, hvs'⟩ := zq7_14
      refine hG9 ?_
      clear hG9
      have hi' : i < evs.length := by rw [List.size_toArray] at hi; exact hi
      (repeat ((fail_if_success (with_reducible show wpAny _ _ (call _ _) _ _ _)); walk1))
      replace Nc := cb_drop (news := (dlx, dictOf (lexEs w t1 t2 t3 t4 (.int (lnOf (1 + (((encs ks x).count 10 : Nat) : Int)) (toks wsL i (encs ks x)).2) u1') (.ref st) (.str (tx wsL) u3) (.ref pl)) 4) :: (sl, W.listOf vs'.toArray n') :: (I, oI) :: (C, oC) :: (D', LCg.lst zs) :: FX) Nc (fun p hp => by
        simp only [List.mem_cons] at hp ⊢
        grind)
      k_dflt (refine' Con.use (c49 w ((I, oI) :: (C, oC) :: (D', LCg.lst zs) :: FX) lx dlx sl st pl t1 t2 t3 t4 u1' u3 (1 + (((encs ks x).count 10 : Nat) : Int)) wsL n' vs' (toks wsL i (encs ks x)).2 (hLX.mono fun p hp => .tail _ (.tail _ (.tail _ hp))) ?hof hne hvs' (hel3 i)) ?k1 ?k2 ?k3 ?k4 ?k5 ?kK ?kd ?ku ?kc ?_; ((case k1 => k_asm); (case k2 => k_asm); (case k3 => k_asm); (case k4 => k_asm); (case k5 => k_asm); (case kK => first | exact rfl | assumption); (case kd => ktr_room); (case ku => ktr_units); (case kc => assumption)))
      case hof => 
        intro p hp
        simp only [List.mem_cons] at hp
        rcases hp with rfl | rfl | rfl | hp
        · exact ⟨Ne.symm off.1.1, Ne.symm off.2.1.1⟩
        · exact ⟨Ne.symm off.1.2.1, Ne.symm off.2.1.2.1⟩
        · exact ⟨Ne.symm off.1.2.2, Ne.symm off.2.1.2.2⟩
        · exact hoffX p hp
      rintro _ _ h8 tk8 F8 N8 zq8_6
      refine opq fun G9 hG9 => ?_
      obtain ⟨t8, u8, vs8, n8, rfl, rfl, hvs8⟩ := zq8_6
      refine hG9 ?_
      clear hG9
      have hts := toks_snoc wsL i (encs ks x)
      refine LCg.CompEnd.intro F8 N8 ((dlx, dictOf (lexEs w t1 t2 t3 t4 (.int (lnOf (1 + (((encs ks x).count 10 : Nat) : Int)) (tok wsL (toks wsL i (encs ks x)).2).2) u8) (.ref st) (.str (tx wsL) u3) (.ref pl)) 4) :: (sl, W.listOf vs8.toArray n8) :: FX) (fun p hp => ?_) ⟨off.1, off.2.1, off.2.2⟩ (.inr ⟨_, .tail _ (.tail _ hmE4), rfl, _, rfl⟩) ⟨u8, vs8, n8, ?_, ?_, ?_⟩
      · simp only [List.mem_cons] at hp ⊢
        grind
      · rw [hts]
      · rw [hts, List.map_append]
        exact hzs.append' (.cons _ _ .nil)
      · rw [hts]
        exact hvs8
    · rintro zs _ zq9_2
      refine opq fun G9 hG9 => ?_
      obtain ⟨u1', vs', n', rfl, hzs, hvs'⟩ := zq9_2
      refine hG9 ?_
      clear hG9
      intro D' h9 tk9 F9 N9 o9
      simp only [List.size_toArray, hevl, Hw, List.reverse_nil, List.map_nil] at hzs hvs' N9
      obtain rfl : vs' = [] := by cases hvs'; rfl
      rw [show lnOf (1 + (((encs ks x).count 10 : Nat) : Int)) [] = 1 + (((encs ks x).count 10 : Nat) : Int) by simp [lnOf]] at N9
      walk1
      refine ne_txts (News.isList N9 (.head _)) (News.isList N9 (.tail _ (.tail _ (.tail _ hmE4)))) hzs hev (small_ok (law_small ks x ?_)) ?_ ?_
      · intro d hd
        have := hx1 d hd
        revert this
        exact (by decide : ∀ d ∈ signs, d < 0x110000) d
      · ktr_units
      (repeat ((fail_if_success (with_reducible show wpAny _ _ (call _ _) _ _ _)); walk1))
      refine KXw.count (count_tx (encs ks x)) (fun t6 k6 => ?_)
      walk1
      walk1
      walk1
      rw [if_neg (by simp)]
      try dsimp only
      refine opq fun G9 hG9 => ?_
      obtain ⟨c', oc', vs8, t8, m1, m2, m3, m4⟩ := hHX
      refine hG9 ?_
      clear hG9
      have zq11 := retab N9 (.tail _ (.tail _ (.tail _ m1)))
      refine opq fun G9 hG9 => ?_
      obtain ⟨R, N10, hR7, hRk⟩ := zq11
      refine hG9 ?_
      clear hG9
      have k1 : (L + 1 + 1 + 1 + 1 + 1, c5) ∈ R := hRk _ (.tail _ (.tail _ (.tail _ hX5))) (fun e => by rw [show c5 = _ from e] at hd5; cases hd5)
      have k2 : (L + 1 + 1 + 1, o3) ∈ R := hRk _ (.tail _ (.tail _ (.tail _ hX3))) (fun e => by rw [show o3 = _ from e] at d3; cases d3)
      have k3 : (L + 1 + 1, o2) ∈ R := hRk _ (.tail _ (.tail _ (.tail _ hX2))) (fun e => by rw [show o2 = _ from e] at d2; cases d2)
      have k4 : (el, W.listOf evs.toArray 0) ∈ R := hRk _ (.tail _ (.tail _ (.tail _ hmE4))) (fun e => by cases e)
      have k5 : (hl, W.listOf vsl.toArray hn5) ∈ R := hRk _ (.tail _ (.tail _ (.tail _ hhm4))) (fun e => by cases e)
      have k6 : (D, oD) ∈ R := hRk _ (.tail _ (.tail _ (.tail _ hmD4))) (fun e => by
        refine opq fun G9 hG9 => ?_
        obtain ⟨es, ep, _, hd, _⟩ := hdo
        refine hG9 ?_
        clear hG9
        rw [show oD = _ from e] at hd; cases hd)
      have k7 : (c', oc') ∈ R := hRk _ (.tail _ (.tail _ (.tail _ m2))) (fun e => by
        rw [show oc' = _ from e] at m3
        cases m3
        cases m4)
      have k8 : HandsAre w R vsl ks := hHG4.mono2 fun p hp hne => hRk p (.tail _ (.tail _ (.tail _ hp))) hne
      clear N9 hRk hLX hoffX hX4 hX5 hX3 hX2 hmE4 hmD4 hHG4 hhm4 hm1 hm2 m1 m2 hzs hvs' o9
      have hlit : Str.ofString "\n\t\u000d " = tx [10, 9, 13, 32] := by decide +kernel
      (repeat ((fail_if_success (with_reducible show wpAny _ _ (PySem.eval (PySem.Expr.ListComp _ _ _ _) _) _ _ _)); walk1))
      try dsimp only
      k_dflt (refine ListComp_ST (F₀ := F9) (by with_unfolding_all rfl) (by decide) (by rfl) (by decide) (by rfl) ?_)
      walk1
      refine ⟨_, _, _, congrArg (fun z => Value.str z _) hlit, rfl, F9, N10, by decide, by decide +kernel, ?_⟩
      rintro _ ⟨gg, rfl⟩
      refine compRestT_inv _ (fun i zs nw => nw = ((107, tabObj (#[] ++ #[rawInt 127, rawInt 4, Value.ref c'])) :: R) ∧ StrsAre zs (((([10, 9, 13, 32] : List Nat).take i).filter (fun c => decide (encs ks [c] = [c]))).map fun c => tx [c])) ?_ ?_ _ 0 [] _ (Nat.zero_add _) ⟨rfl, .nil⟩
      · rintro i zs _ v I oI C oC D' m₂ h tk E' hi zq13_14 zq13_15 hC hx Fc Nc off ne
        refine opq fun G9 hG9 => ?_
        obtain ⟨rfl, hzs⟩ := zq13_14
        obtain ⟨c, t5, hc, rfl⟩ := zq13_15
        refine hG9 ?_
        clear hG9
        have hs5 := take_snoc hc
        have hcs : c ∈ signs := by
          have := List.mem_of_getElem? hc
          revert this
          exact (by decide : ∀ d ∈ [10, 9, 13, 32], d ∈ signs) c
        have T := TabAt.ofObj hsys (Nc _ (.tail _ (.tail _ (.tail _ (.tail _ k6))))).1 hdo hfp
        (repeat ((fail_if_success (with_reducible show wpAny _ _ (subscriptTail _ _ _ _) _ _ _)); walk1))
        refine item_sp T (spD_get (fun c => encs ks [c]) hcs) (fun t8 => ?_)
        walk1
        walk1
        walk1
        rw [tx_beq]
        by_cases he : encs ks [c] = [c]
        · rw [if_pos (decide_eq_true he)]
          walk1
          refine LCg.CompEnd.intro Fc Nc _ (fun p hp => hp) off trivial ⟨rfl, ?_⟩
          rw [hs5, List.filter_append, List.map_append, show List.filter (fun c => decide (encs ks [c] = [c])) [c] = [c] by simp [he]]
          exact hzs.append' (.cons _ _ .nil)
        · rw [if_neg (by simpa using he)]
          refine LCg.CompEnd.intro Fc Nc _ (fun p hp => hp) off trivial ⟨rfl, ?_⟩
          rw [hs5, List.filter_append, show List.filter (fun c => decide (encs ks [c] = [c])) [c] = [] by simp [he], List.append_nil]
          exact hzs
      · rintro zs _ ⟨rfl, hzs⟩
        intro D' h9 tk9 F9 N9 o9
        rw [List.take_length] at hzs
        have hblm : ∀ c, c ∈ ([10, 9, 13, 32] : List Nat).filter (fun c => decide (encs ks [c] = [c])) ↔ c ∈ wsL ∧ encs ks [c] = [c] := fun c => by rw [List.mem_filter, decide_eq_true_eq]; rfl
        have hbll := List.length_filter_le (fun c => decide (encs ks [c] = [c])) ([10, 9, 13, 32] : List Nat)
        generalize ([10, 9, 13, 32] : List Nat).filter (fun c => decide (encs ks [c] = [c])) = bl at hzs hblm hbll
        walk1
        refine join_tx (ls := bl.map fun c => [c]) (News.isList N9 (.head _)) (by rw [List.map_map]; exact hzs) (by rw [flat1, List.length_map]; simp only [List.length_cons, List.length_nil] at hbll; omega) (fun t' k' => ?_)
        rw [flat1]
        replace N9 := drop1 N9
        dsimp only
        walk1
        rename Fr base L _ _ => F10
        rename News base L _ _ => N11
        clear o9 hzs hbll
        (repeat ((fail_if_success (with_reducible show wpAny _ _ (PySem.eval (PySem.Expr.IfExp _ _ _ _) _) _ _ _)); walk1))
        refine wpAny_mono (Q := fun v s' => ∃ t h' tk', v = .str (tx (if encs ks [34] = [34] then x else (hidF x).1)) t ∧ s' = { heap := h', gens := s1.gens, drawn := s1.drawn, toks := tk', os := s1.os } ∧
          Fr base L h' (fun y => if y = Str.ofString "blanks" then some (Value.str (tx bl) t') else if y = Str.ofString "due" then some (Value.ref el) else if y = Str.ofString "page" then some (Value.str (tx (encs ks x)) t5) else if y = Str.ofString "total" then some (Value.int n tn) else if y = Str.ofString "text" then some (Value.str (tx x) tx1) else if y = Str.ofString "cells" then some (Value.ref D2) else if y = Str.ofString "script" then some (Value.ref wl) else none) ∧
          News base L h' ((107, tabObj (#[] ++ #[rawInt 127, rawInt 4, Value.ref c'])) :: R)) ?_ (fun v s' hv => ?_) (fun _ _ e => e)
        · have T := TabAt.ofObj hsys (N11 _ (.tail _ k6)).1 hdo hfp
          (repeat ((fail_if_success (with_reducible show wpAny _ _ (subscriptTail _ _ _ _) _ _ _)); walk1))
          have hq : Str.ofString "\"" = tx [34] := by decide +kernel
          simp only [hq]
          refine item_sp (c := 34) T (spD_get (fun c => encs ks [c]) (by decide)) (fun t8 => ?_)
          walk1
          walk1
          walk1
          rw [tx_beq]
          by_cases he : encs ks [34] = [34]
          · rw [if_pos (decide_eq_true he), if_pos he]
            walk1
            exact ⟨_, _, _, rfl, rfl, F10, N11⟩
          · rw [if_neg (by simpa using he), if_neg he]
            (repeat ((fail_if_success (with_reducible show _ ∧ _)); walk1))
            refine ⟨by k_in, ?_⟩
            try dsimp only
            k_dflt (refine' Con.use (c150 w ((107, tabObj (#[] ++ #[rawInt 127, rawInt 4, Value.ref c'])) :: R) x _ (by omega)) ?k1 ?k2 ?k3 ?k4 ?k5 ?kK ?kd ?ku ?kc ?_; ((case k1 => k_asm); (case k2 => k_asm); (case k3 => k_asm); (case k4 => k_asm); (case k5 => k_asm); (case kK => first | exact rfl | assumption); (case kd => ktr_room); (case ku => ktr_units); (case kc => assumption)))
            rintro _ _ h5 tk5 F5 N5 ⟨rfl, t5, rfl⟩
            exact ⟨_, _, _, rfl, rfl, F5, N5⟩
        · refine opq fun G9 hG9 => ?_
          obtain ⟨tz, h12, tk12, rfl, rfl, F12, N12⟩ := hv
          refine hG9 ?_
          clear hG9
          have hzl : (if encs ks [34] = [34] then x else (hidF x).1).length ≤ 150 := by
            have := hidF_le x
            split <;> omega
          have hzr := other_text ks x
          generalize (if encs ks [34] = [34] then x else (hidF x).1) = z at *
          (repeat ((fail_if_success (with_reducible show _ ∧ _)); walk1))
          refine ⟨by k_in, ?_⟩
          k_dflt (refine' Con.use (c119 w R z bl _ _ c' oc' vs8 t8 hR7 k7 m3 m4 (by omega)) ?k1 ?k2 ?k3 ?k4 ?k5 ?kK ?kd ?ku ?kc ?_; ((case k1 => k_asm); (case k2 => k_asm); (case k3 => k_asm); (case k4 => k_asm); (case k5 => k_asm); (case kK => first | exact rfl | assumption); (case kd => ktr_room); (case ku => ktr_units); (case kc => assumption)))
          rintro _ _ h6 tk6 F6 N6 zq15_6
          refine opq fun G9 hG9 => ?_
          obtain ⟨lx, dlx, sl, st, pl, t1, t2, t3, t4, u1, u3, vsx, nx6, fix, rfl, rfl, hvx, hfix, hsub, hoff, hne, h107⟩ := zq15_6
          refine hG9 ?_
          clear hG9
          clear F12 N12
          have zq16 := relex (L4 := L + 1 + 1 + 1 + 1 + 1) (c4 := c5) N6 (hsub _ k1) hd5 hoff
          refine opq fun G9 hG9 => ?_
          obtain ⟨F0, N7, hall7, hk1, hk2, hk3⟩ := zq16
          refine hG9 ?_
          clear hG9
          dsimp only
          walk1
          rename Fr base L _ _ => F7
          obtain ⟨o5, d5, N8⟩ : ∃ o5 : Obj, o5.data = .cell (some (.ref lx)) ∧ News base L _ ((L + 1 + 1 + 1 + 1 + 1, o5) :: (dlx, dictOf (lexEs w t1 t2 t3 t4 (.int 1 u1) (.ref st) (.str (tx bl) u3) (.ref pl)) 4) :: (sl, listOf vsx.toArray nx6) :: F0) := ⟨_, by assumption, by assumption⟩
          obtain ⟨fix0, hfix0, hf0⟩ := hfix
          have hLX : LexFix w ((L + 1 + 1 + 1 + 1 + 1, o5) :: F0) lx dlx sl st pl := hfix0.mono fun p hp => .tail _ (hk1 p (hf0 p hp).1 (hf0 p hp).2)
          have hoffX : ∀ p ∈ (L + 1 + 1 + 1 + 1 + 1, o5) :: F0, p.1 ≠ dlx ∧ p.1 ≠ sl := fun p hp => by
            rcases List.mem_cons.mp hp with rfl | hp
            · have h := hoff (L + 1 + 1 + 1 + 1 + 1, c5) (hsub _ k1)
              exact ⟨h.1, h.2⟩
            · exact hoff p (hk3 p hp)
          have hX7 : (107, tabObj (#[] ++ #[rawInt 127, rawInt 4, Value.ref c'])) ∈ (L + 1 + 1 + 1 + 1 + 1, o5) :: F0 := .tail _ (hk1 _ h107 (fun e => by cases e))
          have hX5 : (L + 1 + 1 + 1 + 1 + 1, o5) ∈ (L + 1 + 1 + 1 + 1 + 1, o5) :: F0 := .head _
          have hX2 : (L + 1 + 1, o2) ∈ (L + 1 + 1 + 1 + 1 + 1, o5) :: F0 := .tail _ (hk2 _ (hsub _ k3) (Nat.ne_of_lt (by omega)))
          have hmE5 : (el, W.listOf evs.toArray 0) ∈ (L + 1 + 1 + 1 + 1 + 1, o5) :: F0 := .tail _ (hk1 _ (hsub _ k4) (fun e => by cases e))
          have hhm5 : (hl, W.listOf vsl.toArray hn5) ∈ (L + 1 + 1 + 1 + 1 + 1, o5) :: F0 := .tail _ (hk1 _ (hsub _ k5) (fun e => by cases e))
          have hHG5 : HandsAre w ((L + 1 + 1 + 1 + 1 + 1, o5) :: F0) vsl ks := k8.mono3 fun p hp hn => .tail _ (hk1 p (hsub p hp) hn)
          have N9 := cb_drop (news := (dlx, dictOf (lexEs w t1 t2 t3 t4 (.int 1 u1) (.ref st) (.str (tx bl) u3) (.ref pl)) 4) :: (sl, listOf vsx.toArray nx6) :: (L + 1 + 1 + 1 + 1 + 1, o5) :: F0) N8 (fun p hp => by
            simp only [List.mem_cons] at hp ⊢
            grind)
          generalize (L + 1 + 1 + 1 + 1 + 1, o5) :: F0 = FX at *
          dsimp only
          clear h107 hsub hoff hall7 hk1 hk2 hk3 hfix0 hf0 k1 k2 k3 k4 k5 k6 k7 k8 hR7 N8
          have hm1 := hLX.h1
          have hm2 := hLX.h2
          have hevl : evs.length = (lawWords (fun c => encs ks [c]) x).length + 1 := by rw [hev.length, List.length_map, List.length_append]; rfl
          have Hw := other_words ks x bl (decide (encs ks [34] ≠ [34])) hblm decide_eq_true_iff
          rw [← hzr] at Hw
          have Hw1 := congrArg Prod.fst Hw
          have Hw2 := congrArg Prod.snd Hw
          dsimp only at Hw1 Hw2
          clear Hw
          have hzc : z.count 10 = x.count 10 := by rw [hzr]; exact raw_count _ _ _
          have hel3 : ∀ i, (toks bl i z).2.length ≤ 150 := fun i => Nat.le_trans (toks_len bl i _) hzl
          walk1
          k_dflt (refine LCg.Assign_ListComp_U (F₀ := F7) (by rfl) (by with_unfolding_all rfl) (by with_unfolding_all rfl) (by decide) (by rfl) (by decide) (by rfl) (by rfl) (by rfl) ?_)
          walk1
          k_dflt (refine LCg.CompSrc.ledger (its := evs.toArray) (k := 0) rfl F7 N9 (.tail _ (.tail _ hmE5)) (by (rw [sizeLine_eq, List.size_toArray]; omega)) (fun gg => ?_))
          refine compRest_inv _ (fun i zs nw => ∃ (u1' : Tok) (vs' : List Value) (n' : Nat), nw = (dlx, dictOf (lexEs w t1 t2 t3 t4 (.int (lnOf (1 + ((z.count 10 : Nat) : Int)) (toks bl i z).2) u1') (.ref st) (.str (tx bl) u3) (.ref pl)) 4) :: (sl, W.listOf vs'.toArray n') :: FX ∧ StrsAre zs (((toks bl i z).1.map (encs ks)).map tx) ∧ StrsAre vs' ((toks bl i z).2.reverse.map fun c => tx [c])) ?_ ?_ _ 0 [] _ (Nat.zero_add _) ⟨u1, vsx, nx6, ?_, .nil, hvx⟩
          · rintro i zs _ v I oI C oC D' m₂ h tk E' hi zq17_14 hP hC hx Fc Nc off ne
            refine opq fun G9 hG9 => ?_
            obtain ⟨u1', vs', n', rfl, hzs, hvs'⟩ := zq17_14
            refine hG9 ?_
            clear hG9
            have hi' : i < evs.length := by rw [List.size_toArray] at hi; exact hi
            (repeat ((fail_if_success (with_reducible show wpAny _ _ (call _ _) _ _ _)); walk1))
            replace Nc := cb_drop (news := (dlx, dictOf (lexEs w t1 t2 t3 t4 (.int (lnOf (1 + ((z.count 10 : Nat) : Int)) (toks bl i z).2) u1') (.ref st) (.str (tx bl) u3) (.ref pl)) 4) :: (sl, W.listOf vs'.toArray n') :: (I, oI) :: (C, oC) :: (D', LCg.lst zs) :: FX) Nc (fun p hp => by
              simp only [List.mem_cons] at hp ⊢
              grind)
            try dsimp only
            k_dflt (refine' Con.use (c49 w ((I, oI) :: (C, oC) :: (D', LCg.lst zs) :: FX) lx dlx sl st pl t1 t2 t3 t4 u1' u3 (1 + ((z.count 10 : Nat) : Int)) bl n' vs' (toks bl i z).2 (hLX.mono fun p hp => .tail _ (.tail _ (.tail _ hp))) ?hof hne hvs' (Nat.le_trans (hel3 i) (by decide))) ?k1 ?k2 ?k3 ?k4 ?k5 ?kK ?kd ?ku ?kc ?_; ((case k1 => k_asm); (case k2 => k_asm); (case k3 => k_asm); (case k4 => k_asm); (case k5 => k_asm); (case kK => first | exact rfl | assumption); (case kd => ktr_room); (case ku => ktr_units); (case kc => assumption)))
            case hof =>
              intro p hp
              simp only [List.mem_cons] at hp
              rcases hp with rfl | rfl | rfl | hp
              · exact ⟨Ne.symm off.1.1, Ne.symm off.2.1.1⟩
              · exact ⟨Ne.symm off.1.2.1, Ne.symm off.2.1.2.1⟩
              · exact ⟨Ne.symm off.1.2.2, Ne.symm off.2.1.2.2⟩
              · exact hoffX p hp
            rintro _ _ h8 tk8 F8 N8 zq18_6
            refine opq fun G9 hG9 => ?_
            obtain ⟨t8, u8, vs8, n8, rfl, rfl, hvs8⟩ := zq18_6
            refine hG9 ?_
            clear hG9
            have hts := toks_snoc bl i z
            have htl := Nat.le_trans (tok_fst bl (toks bl i z).2) (hel3 i)
            clear Fc Nc
            (repeat ((fail_if_success (with_reducible show _ ∧ _)); walk1))
            refine ⟨by k_in, ?_⟩
            try dsimp only
            k_dflt (refine' Con.use (c136 w ((dlx, dictOf (lexEs w t1 t2 t3 t4 (.int (lnOf (1 + ((z.count 10 : Nat) : Int)) (tok bl (toks bl i z).2).2) u8) (.ref st) (.str (tx bl) u3) (.ref pl)) 4) :: (sl, W.listOf vs8.toArray n8) :: (I, oI) :: (C, oC) :: (D', LCg.lst zs) :: FX) (tok bl (toks bl i z).2).1 _ hl vsl hn5 ks (.tail _ (.tail _ (.tail _ (.tail _ (.tail _ hhm5))))) (hHG5.mono fun p hp _ => .tail _ (.tail _ (.tail _ (.tail _ (.tail _ hp))))) hks3 (by omega)) ?k1 ?k2 ?k3 ?k4 ?k5 ?kK ?kd ?ku ?kc ?_; ((case k1 => k_asm); (case k2 => k_asm); (case k3 => k_asm); (case k4 => k_asm); (case k5 => k_asm); (case kK => first | exact rfl | assumption); (case kd => ktr_room); (case ku => ktr_units); (case kc => assumption)))
            rintro _ _ h10 tk10 F10 N10 ⟨rfl, t10, rfl⟩
            refine LCg.CompEnd.intro F10 N10 ((dlx, dictOf (lexEs w t1 t2 t3 t4 (.int (lnOf (1 + ((z.count 10 : Nat) : Int)) (tok bl (toks bl i z).2).2) u8) (.ref st) (.str (tx bl) u3) (.ref pl)) 4) :: (sl, W.listOf vs8.toArray n8) :: FX) (fun p hp => ?_) ⟨off.1, off.2.1, off.2.2⟩ (.inr ⟨_, .tail _ (.tail _ hmE5), rfl, _, rfl⟩) ⟨u8, vs8, n8, ?_, ?_, ?_⟩
            · simp only [List.mem_cons] at hp ⊢
              grind
            · rw [hts]
            · rw [hts, List.map_append, List.map_append]
              exact hzs.append' (.cons _ _ .nil)
            · rw [hts]
              exact hvs8
          · rintro zs _ zq19_2
            refine opq fun G9 hG9 => ?_
            obtain ⟨u1', vs', n', rfl, hzs, hvs'⟩ := zq19_2
            refine hG9 ?_
            clear hG9
            intro D' h9 tk9 F9 N9 o9
            simp only [List.size_toArray, hevl, Hw1, Hw2, List.reverse_nil, List.map_nil] at hzs hvs' N9
            obtain rfl : vs' = [] := by cases hvs'; rfl
            rw [show lnOf (1 + ((z.count 10 : Nat) : Int)) [] = 1 + ((x.count 10 : Nat) : Int) by rw [hzc]; simp [lnOf]] at N9
            clear F7
            (repeat ((fail_if_success (with_reducible show wpAny _ _ (compareOp _ (.ref _) (.ref _)) _ _ _)); walk1))
            refine eq_txts (News.isList N9 (.head _)) (News.isList N9 (.tail _ (.tail _ (.tail _ hmE5)))) hzs hev (small_ok (law_small ks x ?_)) ?_ ?_
            · intro d hd
              have := hx1 d hd
              revert this
              exact (by decide : ∀ d ∈ signs, d < 0x110000) d
            · ktr_units
            (repeat ((fail_if_success (with_reducible show wpAny _ _ (call _ _) _ _ _)); walk1))
            refine KXw.count (count_tx x) (fun t6 k6 => ?_)
            walk1
            walk1
            rw [beq_self_eq_true]
            dsimp only
            refine ⟨?_, ⟨GrownAt.of N9 (.tail _ (.tail _ (.tail _ hX7))), trivial⟩⟩
            kc_close
          · rw [show lnOf (1 + ((z.count 10 : Nat) : Int)) (toks bl 0 z).2 = 1 by simp only [lnOf, toks]; omega]
    · rw [show lnOf (1 + (((encs ks x).count 10 : Nat) : Int)) (toks wsL 0 (encs ks x)).2 = 1 by simp only [lnOf, toks]; omega]
      rfl
set_option maxRecDepth 100000 in
theorem body : PySem.Challenge.rw_to0013_01.Holds := A1.2 (Box.mk A2)
end Mine
end
theorem PySem.Challenge.cw_to0013_01_holds : PySem.Challenge.rw_to0013_01.Holds :=
  Mine.body
