import PyProof.Rows.All
import Wide.All
import OpenK.AllK
import Wide.FinOn
import Lean
import PySem.Challenge.RW_nb0384_02
set_option Elab.async false
set_option linter.all false
section
open PySem PySem.W PyProof.Rows
set_option maxRecDepth 100000
set_option maxHeartbeats 8000000
namespace Mine
open_top hd for PySem.Challenge.rw_nb0384_02
end Mine
end
section
open PySem PySem.W PyProof.Rows
namespace Mine

/-- a sign by a text, all over a list of signs -/
noncomputable def rep (c : Nat) (z l : List Nat) : List Nat := l.flatMap fun k => if k = c then z else [k]

theorem rep_free {c : Nat} {z l : List Nat} (h : c ∉ l) : rep c z l = l := by
  induction l with
  | nil => rfl
  | cons k r ih =>
    rw [List.mem_cons, not_or] at h
    show (if k = c then z else [k]) ++ rep c z r = k :: r
    rw [ih h.2, if_neg fun e => h.1 e.symm, List.singleton_append]

theorem rep_append (c : Nat) (z a b : List Nat) : rep c z (a ++ b) = rep c z a ++ rep c z b := by
  unfold rep; rw [List.flatMap_append]

/-- the sign's own row is the text -/
theorem rep_self (c : Nat) (z : List Nat) : rep c z [c] = z := by simp [rep]

theorem rep_join {c : Nat} {z : Str} {parts : List Str} (h : ∀ p ∈ parts, c ∉ p.cps.toList) :
    rep c z.cps.toList (Str.join ⟨#[c]⟩ parts).cps.toList = (Str.join z parts).cps.toList := by
  induction parts with
  | nil => rfl
  | cons p more ih =>
    have free := rep_free (z := z.cps.toList) (h p (.head _))
    cases more with
    | nil => exact free
    | cons q rest =>
      have sides : ∀ y : Str, (Str.join y (p :: q :: rest)).cps.toList = p.cps.toList ++ y.cps.toList ++ (Str.join y (q :: rest)).cps.toList := fun y => by
        rw [← Array.toList_append, ← Array.toList_append]; rfl
      rw [sides, sides, rep_append, rep_append, free, ih fun a ha => h a (.tail _ ha)]
      exact congrArg (p.cps.toList ++ · ++ _) (rep_self c _)

theorem replace_rep (x z : Str) (c : Nat) : (Txt.replace x ⟨#[c]⟩ z).cps.toList = rep c z.cps.toList x.cps.toList := by
  have e := rep_join (z := z) (StrLaws.split_free x c)
  rw [StrLaws.join_split] at e
  rw [e, StrLaws.replace_one]

theorem rep_le {c : Nat} {z : List Nat} (hz : z ≠ []) : ∀ l : List Nat, l.length ≤ (rep c z l).length
  | [] => Nat.le_refl _
  | k :: r => by
    have ih := rep_le (c := c) hz r
    have hz' : 0 < z.length := List.length_pos_iff.mpr hz
    unfold rep at ih ⊢
    rw [List.flatMap_cons, List.length_append, List.length_cons]
    generalize (List.flatMap (fun k => if k = c then z else [k]) r) = q at ih ⊢
    split
    · omega
    · simp only [List.length_cons, List.length_nil]; omega

theorem replace_le (x z : Str) (c : Nat) (hz : z.cps.toList ≠ []) : x.length ≤ (Txt.replace x ⟨#[c]⟩ z).length := by
  have := rep_le (c := c) hz x.cps.toList
  rw [← replace_rep] at this
  simpa [Str.length] using this

theorem replace_none {x z : Str} {c : Nat} (h : (Builtin.Str.occurrences x ⟨#[c]⟩ 0 x.length 1).isEmpty = true) : Txt.replace x ⟨#[c]⟩ z = x := by
  have h1 := StrLaws.found_one x c
  rw [h] at h1
  have hc : c ∉ x.cps.toList := fun m => by simp [m] at h1
  have := replace_rep x z c
  rw [rep_free hc] at this
  exact Str.ext' (by simpa using congrArg List.toArray this)

theorem length_flatMap_le {f : Nat → List Nat} {b : Nat} (hf : ∀ k, (f k).length ≤ b) : ∀ l : List Nat, (l.flatMap f).length ≤ b * l.length
  | [] => by simp
  | k :: r => by
    have ih := length_flatMap_le hf r
    have := hf k
    rw [List.flatMap_cons, List.length_append, List.length_cons, Nat.mul_succ]
    omega

end Mine
end
section
open PySem PySem.W PyProof.Rows
set_option maxRecDepth 100000
set_option maxHeartbeats 8000000
namespace Mine

theorem enter {K : Frag} {prog : Program} {w : World} {A : Around} {s : Shared} {E : Value → Shared → Prop} {Q : Value → Shared → Prop}
    {name qual : Str} {params : Arguments} {body : List Stmt} {scope : Scope} {dV kV doc pm cdv ct oc : Value} {an od : Option Addr} {osl : Array (Option Value)} {f : Addr}
    {args : List Value} {binds : List (Str × Value)}
    (X : K.In s.heap) (nl : s.heap.NoLimit) (hroom : A.depth < recursionLimit) (hpos : 0 < s.toks)
    (ho : K.lookup f = some ⟨oc, od, .func (fnOf name qual params body scope dV kV doc pm an cdv ct), osl⟩) (hcd : codeIn K cdv qual = true)
    (hbind : BindsTo s (fnOf name qual params body scope dV kV doc pm an cdv ct) ⟨args, []⟩ binds)
    (hloc : ∀ y ∈ binds, scope.names.lookup y.1 = some .local)
    (hcell : ∀ x ∈ scope.names, x.2 ≠ .cell) (hco : scope.isCoroutine = false) (hgen : scope.isGenerator = false) (hk : scope.kind = .function)
    (h : ∀ L h₁ tk, Fr s.heap L h₁ (fun y => binds.reverse.lookup y) → News s.heap L h₁ [] → 0 < tk →
      wpAny (model prog w) (A.deeper (envOf qual scope L f cdv)) (execs body (envOf qual scope L f cdv))
        (fun fl s' => Q (match fl with | .ret v => v | _ => .none) s') (fun _ _ => False) { s with heap := h₁, toks := tk }) :
    wpAny (model prog w) A (call (.ref f) args) Q E s := by
  refine wpAny_call (codeAny_call_def (fd := fnOf name qual params body scope dV kV doc pm an cdv ct) (body := body) hroom (X _ _ ho) rfl nl (codeRec_of X hcd) rfl hbind hcell hloc (fun h₁ hns hk₁ => ?_) hco hgen hk)
  exact wpAny_mono (h _ h₁ _ ⟨hns, hk₁, Nat.le_refl _⟩ News.nil (by omega)) (fun _ _ x => x) (fun _ _ x => x.elim)

theorem Fr.same {h₀ h : Heap} {L : Addr} {m : Str → Option Value} {x : Str} {v : Value} (F : Fr h₀ L h m) (hm : m x = some v) : Fr h₀ L h (fun y => if y = x then some v else m y) := by
  have : (fun y => if y = x then some v else m y) = m := by
    funext y; by_cases e : y = x
    · rw [if_pos e, e, hm]
    · rw [if_neg e]
  rw [this]; exact F

theorem esc_if {prog : Program} {w : World} {A : Around} {s : Shared} {E : Value → Shared → Prop} {Q : Flow → Shared → Prop}
    {name : Str} {scope : Scope} {L a : Addr} {cd : Value} {h₀ : Heap} {m : Str → Option Value} {news : List (Addr × Obj)} {x c r : Str} {cc : Nat} {t : Tok} {rest : List Stmt}
    {k1 k2 k3 : Nat} {pl : Sem Bool} {p1 p2 p3 p4 p5 p6 p7 p8 p9 p10 p11 : Pos}
    (F : Fr h₀ L s.heap m) (N : News h₀ L s.heap news) (hm : m "text" = some (.str x t)) (hp : 0 < s.toks) (hc : c = ⟨#[cc]⟩) (hx : x.length ≤ 1048576)
    (hr : r.length ≤ 14) (hcr : (c == r) = false)
    (hl : (envOf name scope L a cd).kindOf "text" = some .local) (hk : scope.kind = .function)
    (he0 : eval (.Call (.Attribute (.Name "text" p5) "replace" p6) [.Constant (.str c) k2 p7, .Constant (.str r) k3 p8] [] p9) (envOf name scope L a cd) = (do
      let ov ← eval (.Name "text" p5) (envOf name scope L a cd)
      standAt p6.atName
      let (f, first) ← holding [ov] (getMethod ov "replace" pl)
      callWith p9 f first (backTo p9 (starEach [.Constant (.str c) k2 p7, .Constant (.str r) k3 p8] (envOf name scope L a cd))) []))
    (h : ∀ h' t' tk, 0 < tk → Fr h₀ L h' (fun y => if y = "text" then some (.str (Txt.replace x c r) t') else m y) → News h₀ L h' news →
      wpAny (model prog w) A (execs rest (envOf name scope L a cd)) Q E { s with heap := h', toks := tk }) :
    wpAny (model prog w) A (execs (.If (.Compare (.Constant (.str c) k1 p1) [.In] [.Name "text" p2] p3)
      [.Assign [.Name "text" p4] (.Call (.Attribute (.Name "text" p5) "replace" p6) [.Constant (.str c) k2 p7, .Constant (.str r) k3 p8] [] p9) p10] [] p11 :: rest) (envOf name scope L a cd)) Q E s := by
  refine wpAny_execs_cons (wpAny_If (wpAny_isTrue_Compare1 (Calls.Constant_str (ld (s := { s with toks := s.toks + 1 }) F hm (PyProof.Rows.in_str (wpAny_truthy_bool ?_)) hk hl))))
  cases he : (Builtin.Str.occurrences x c 0 x.length 1).isEmpty with
  | true =>
    subst hc
    refine wpAny_execs_nil ?_
    refine h _ t _ (by show 0 < s.toks + 1; omega) ?_ N
    rw [replace_none he]
    exact Fr.same F hm
  | false =>
    refine wpAny_execs_cons (wpAny_Assign_Name (MethodCall_ (ld (s := { s with toks := s.toks + 1 }) F hm (GM.replace (callWith_method1 (spliced_more (Calls.Constant_str (spliced_more (Calls.Constant_str (spliced_none ?_))))))) hk hl) he0))
    refine wpAny_with_toks (n := 1) (by show 1 ≤ s.toks + 1 + 1 + 1; omega) ?_
    refine SC.replaceW (by show s.toks + 1 ≠ 0; omega) (by show s.toks + 1 + 1 ≠ 0; omega) (by show s.toks + 1 ≠ s.toks + 1 + 1; omega) hcr hx hr (fun t' k hk1 => ?_)
    refine stN (s := { s with toks := k }) F N (fun h' F' N' => wpAny_execs_nil (h h' t' _ ?_ F' N')) hk hl
    exact Nat.lt_of_lt_of_le hk1 (Nat.le_succ _)

theorem enterC {K : Frag} {prog : Program} {w : World} {A : Around} {s : Shared} {E : Value → Shared → Prop} {Q : Value → Shared → Prop}
    {name qual : Str} {params : Arguments} {body : List Stmt} {scope : Scope} {dV kV doc pm cdv ct oc : Value} {an od : Option Addr} {osl : Array (Option Value)} {f : Addr}
    {args : List Value} {binds : List (Str × Value)}
    (X : K.In s.heap) (nl : s.heap.NoLimit) (hroom : A.depth < recursionLimit) (hpos : 0 < s.toks)
    (ho : K.lookup f = some ⟨oc, od, .func (fnOf name qual params body scope dV kV doc pm an cdv ct), osl⟩) (hcd : codeIn K cdv qual = true)
    (hbind : bindArgs (fnOf name qual params body scope dV kV doc pm an cdv ct) ⟨args, []⟩ = pure binds)
    (hkind : (binds.all fun y => scope.names.lookup y.1 == some .local || scope.names.lookup y.1 == some .cell) = true)
    (hnd : ((cellsFrom 0 scope.names []).map (·.1)).Nodup)
    (hco : scope.isCoroutine = false) (hgen : scope.isGenerator = false) (hk : scope.kind = .function)
    (h : ∀ L h₁ tk cells, Fr s.heap L h₁ (bindL (envOfC qual scope L f cdv).kindOf binds fun _ => none) → News s.heap L h₁ cells →
      CellsAre (bindC (envOfC qual scope L f cdv).kindOf binds fun _ => none) (cellsFrom (L + 1) scope.names []) cells → 0 < tk →
      wpAny (model prog w) (A.deeper (envOfC qual scope L f cdv)) (execs body (envOfC qual scope L f cdv))
        (fun fl s' => Q (match fl with | .ret v => v | _ => .none) s') (fun _ _ => False) { s with heap := h₁, toks := tk }) :
    wpAny (model prog w) A (call (.ref f) args) Q E s := by
  refine wpAny_call (codeAny_with_toks (n := 1) hpos (codeAny_call_function hroom (X _ _ ho) rfl hco hgen rfl (codeRec_of X hcd) ?_))
  rw [hbind]
  refine wpAny_pure (wpAny_with_toks (n := 1) hpos (wpAny_newFunctionEnv_cells hk (kindsX hkind _) fun env' he s' x hs' => ?_))
  subst he
  refine ⟨nl.keeps x.toInCall.keep, codeAny_func ?_⟩
  obtain ⟨h₁, tk, rfl, _⟩ := x.done
  obtain ⟨cells, NC, Y⟩ := Cl.news (h₀ := s.heap) (Nat.le_refl _) fun n c hm => ⟨x.cell n c (lookup_of_mem_nodup (cellsFrom_names scope.names 0 (s.heap.objs.size + 1) [] [] rfl ▸ hnd) hm), x.above n c hm⟩
  exact wpAny_mono (h s.heap.objs.size h₁ tk cells ⟨x.toInCall.ns, x.toInCall.keep, Nat.le_refl _⟩ NC Y hs') (fun fl s' hl _ => hl) fun _ _ y => y.elim

theorem use {M : Model} {A : Around} {s : Shared} {E : Value → Shared → Prop} {Q : Value → Shared → Prop} {R : Value → Heap → Prop} {t : Sem Value}
    {h₀ : Heap} {L : Addr} {m : Str → Option Value} {news : List (Addr × Obj)}
    (F : Fr h₀ L s.heap m) (N : News h₀ L s.heap news) (hp : 0 < s.toks)
    (hc : wpAny M A t (fun v s' => Keeps s s' ∧ R v s'.heap) (fun _ _ => False) s)
    (h : ∀ v h' tk, R v h' → Fr h₀ L h' m → News h₀ L h' news → (∀ b o, s.heap.get? b = some o → h'.get? b = some o) → 0 < tk → Q v { s with heap := h', toks := tk }) : wpAny M A t Q E s := by
  refine wpAny_mono (wpAny_toks_of (n := 1) hp hc) (fun v s' x => ?_) (fun _ _ x => x.2.elim)
  obtain ⟨ht, ⟨h', tk, rfl, hk⟩, hR⟩ := x
  exact h v h' tk hR ⟨F.ns.keeps hk, fun b o e => hk b o (F.keep b o e), F.above⟩ (fun p hp => ⟨hk _ _ (N p hp).1, (N p hp).2⟩) hk ht

/-- a list comprehension with one clause and one name: what a turn does -/
structure CompTurn (prog : Program) (w : World) (A : Around) (env : Env) (scope : Scope) (cl : List (Str × Addr)) (x : Str) (ifs : List Expr) (elt : Expr) (p : Value → Bool) (F : Value → Value → Prop)
    (P : Nat → Value → Prop) (s₁ : Shared) : Prop where
  tests : ∀ C i v s₃ m₃ E', P i v → s₃.heap.Ns C m₃ → m₃ x = some v → (∀ b o, s₁.heap.get? b = some o → s₃.heap.get? b = some o) → s₁.toks ≤ s₃.toks → s₁.heap.objs.size ≤ C →
    wpAny (model prog w) A (forIn ifs true fun c r => if r = true then do let ok ← isTrue c (compEnvC scope cl C env) (eval c (compEnvC scope cl C env)); pure (ForInStep.yield ok) else pure (ForInStep.yield r))
      (fun ok s₄ => ok = p v ∧ Keeps s₃ s₄) E' s₃
  elt : ∀ C i v s₃ m₃ E', P i v → p v = true → s₃.heap.Ns C m₃ → m₃ x = some v → (∀ b o, s₁.heap.get? b = some o → s₃.heap.get? b = some o) → s₁.toks ≤ s₃.toks → s₁.heap.objs.size ≤ C →
    wpAny (model prog w) A (eval elt (compEnvC scope cl C env)) (fun y s₄ => F v y ∧ Keeps s₃ s₄) E' s₃
/-- what stands at its end -/
noncomputable def CompFin (p : Value → Bool) (F : Value → Value → Prop) (Q : Value → Shared → Prop) (n : Nat) (P : Nat → Value → Prop) (s₁ : Shared) : Prop :=
  ∀ D h' tk ys (vs : List Value), s₁.heap.get? D = none → h'.PlainList D ys → vs.length = n → (∀ j v, vs[j]? = some v → P j v) → Paired F (vs.filter p) ys.toList →
    (∀ b o, s₁.heap.get? b = some o → h'.get? b = some o) → 0 < tk → Q (.ref D) { s₁ with heap := h', toks := tk }
/-- the same where the statement stores it -/
noncomputable def CompFinA (L : Addr) (y : Str) (p : Value → Bool) (F : Value → Value → Prop) (Q : Flow → Shared → Prop) (n : Nat) (P : Nat → Value → Prop) (s₁ : Shared) : Prop :=
  ∃ m, s₁.heap.Ns L m ∧ ∀ D h' tk ys (vs : List Value), s₁.heap.get? D = none → h'.PlainList D ys → vs.length = n → (∀ j v, vs[j]? = some v → P j v) → Paired F (vs.filter p) ys.toList →
    h'.Ns L (fun z => if z = y then some (.ref D) else m z) → (∀ b o, b ≠ L → s₁.heap.get? b = some o → h'.get? b = some o) → 0 < tk → Q .next { s₁ with heap := h', toks := tk }

section
variable {prog : Program} {w : World} {A : Around} {E : Value → Shared → Prop} {env : Env}

theorem quiet_push {s₁ : Shared} {o : Obj} {elt : Expr} {x : Str} {ifs : List Expr} {scope : Scope} {cl : List (Str × Addr)} {p : Value → Bool} {F : Value → Value → Prop} {P : Nat → Value → Prop}
    (C : CompTurn prog w A env scope cl x ifs elt p F P s₁) : QuietOnC prog w A env scope cl x ifs elt [s₁.heap.objs.size] P p F { s₁ with heap := s₁.heap.push o } := by
  have up : ∀ {h' : Heap}, (∀ b o', b ∉ [s₁.heap.objs.size] → (s₁.heap.push o).get? b = some o' → h'.get? b = some o') → ∀ b o', s₁.heap.get? b = some o' → h'.get? b = some o' :=
    fun hk b o' e => hk b o' (by simpa using Nat.ne_of_lt (Heap.lt_size e)) (Heap.get?_push_of_some _ e)
  refine ⟨?_, ?_⟩
  · intro C' i v s₃ m₃ E' hC hv hn hm hk ht
    exact C.tests C' i v s₃ m₃ E' hv hn hm (up hk) ht (by have : (s₁.heap.push o).objs.size ≤ C' := hC; rw [Heap.size_push] at this; omega)
  · intro C' i v s₃ m₃ E' hC hv hp hn hm hk ht
    exact C.elt C' i v s₃ m₃ E' hv hp hn hm (up hk) ht (by have : (s₁.heap.push o).objs.size ≤ C' := hC; rw [Heap.size_push] at this; omega)

theorem none_push {h : Heap} {o : Obj} {D : Addr} (hD : (h.push o).get? D = none) : h.get? D = none := by
  cases e : h.get? D with
  | none => rfl
  | some o' => rw [Heap.get?_push_of_some _ e] at hD; cases hD

/-- where a clause draws from: a list, a range by ones, a text -/
noncomputable def CompSrc (prog : Program) (w : World) (A : Around) (env : Env) (scope : Scope) (cl : List (Str × Addr)) (x : Str) (ifs : List Expr) (elt : Expr) (p : Value → Bool) (F : Value → Value → Prop)
    (Fin : Nat → (Nat → Value → Prop) → Shared → Prop) (xv : Value) (s₁ : Shared) : Prop :=
  (∃ ax items, xv = .ref ax ∧ s₁.heap.IsList ax items ∧ items.size ≤ sizeLine ∧ CompTurn prog w A env scope cl x ifs elt p F (fun i v => items[i]? = some v) s₁ ∧ Fin items.size (fun i v => items[i]? = some v) s₁) ∨
  (∃ r a b t u v n, xv = .ref r ∧ IsRange s₁.heap r a b 1 t u v ∧ Builtin.Range.small a b 1 = true ∧ Builtin.Range.rangeSize a b 1 = (n : Nat) ∧ n ≤ sizeLine ∧
    CompTurn prog w A env scope cl x ifs elt p F (fun i v => i < n ∧ ∃ t, v = .int (a + i) t) s₁ ∧ Fin n (fun i v => i < n ∧ ∃ t, v = .int (a + i) t) s₁) ∨
  (∃ y t, xv = .str y t ∧ y.length ≤ sizeLine ∧ CompTurn prog w A env scope cl x ifs elt p F (SignAt y) s₁ ∧ Fin y.cps.size (SignAt y) s₁)

/-- the three sources open alike -/
theorem src_open {s₁ : Shared} {elt : Expr} {x : Str} {ifs : List Expr} {scope : Scope} {cl : List (Str × Addr)} {p : Value → Bool} {F : Value → Value → Prop} {Fin : Nat → (Nat → Value → Prop) → Shared → Prop} {xv : Value}
    {Q' : Value → Shared → Prop} (hh : A.handled = none) (h : CompSrc prog w A env scope cl x ifs elt p F Fin xv s₁)
    (go : ∀ o fp n P St, Walks prog w A s₁.heap.objs.size fp [s₁.heap.objs.size] n P St → n ≤ sizeLine → St 0 (s₁.heap.push o) → (∀ b ∈ fp, b < (s₁.heap.push o).objs.size) →
      CompTurn prog w A env scope cl x ifs elt p F P s₁ → Fin n P s₁ → Q' (.ref s₁.heap.objs.size) { s₁ with heap := s₁.heap.push o }) :
    wpAny (model prog w) A (pyIter xv) Q' E s₁ := by
  rcases h with ⟨ax, items, rfl, hl, hsz, C, hF⟩ | ⟨r, a, b, t, u, v, n, rfl, hr, hsm, hn, hsz, C, hF⟩ | ⟨y, t, rfl, hsz, C, hF⟩
  · refine wpAny_pyIter_list hl ?_
    obtain ⟨ol, hol, hol'⟩ := id hl
    have hax : ax < s₁.heap.objs.size := Heap.lt_size hol
    refine go _ _ _ _ _ (Walks.list hh _ ax (Nat.ne_of_lt hax) items) hsz ⟨⟨_, Heap.get?_push_size _ rfl, rfl, rfl⟩, ⟨ol, Heap.get?_push_of_some _ hol, hol'⟩⟩ ?_ C hF
    intro b hb
    rw [Heap.size_push]
    rcases List.mem_cons.mp hb with rfl | hb
    · exact Nat.lt_succ_self _
    · rw [List.mem_singleton.mp hb]; exact Nat.lt_succ_of_lt hax
  · refine wpAny_pyIter_range hr hsm ?_
    have W := (Walks.range (prog := prog) (w := w) hh s₁.heap.objs.size a 1 n).bound
    have e : (fun i v => i < n ∧ ∃ t, v = Value.int (a + (i : Int) * 1) t) = fun (i : Nat) v => i < n ∧ ∃ t, v = Value.int (a + (i : Int)) t := by
      funext i v; simp
    rw [e] at W
    refine go _ _ _ _ _ W hsz ?_ ?_ C hF
    · show IsRangeIter _ _ _ _ _
      rw [hn]; simpa using Heap.get?_push_size _ rfl
    · intro b hb; rw [Heap.size_push, List.mem_singleton.mp hb]; exact Nat.lt_succ_self _
  · refine wpAny_pyIter_str (fun o St hW hst => ?_)
    refine go _ _ _ _ _ (hW A hh) hsz hst ?_ C hF
    intro b hb; rw [Heap.size_push, List.mem_singleton.mp hb]; exact Nat.lt_succ_self _

theorem evComp {s : Shared} {elt iter : Expr} {x : Str} {px : Pos} {ifs : List Expr} {scope : Scope} {cl : List (Str × Addr)} {pos : Pos} {Q : Value → Shared → Prop} (p : Value → Bool) (F : Value → Value → Prop)
    (hclos : closureFor scope env = pure cl) (hcell : ∀ y ∈ scope.names, y.2 ≠ .cell) (hkind : scope.kind = .function)
    (hnames : ∀ y ∈ scope.names, y.2 = .local → scope.names.lookup y.1 = some .local) (hx : scope.names.lookup x = some .local) (hh : A.handled = none) (hpos : 0 < s.toks)
    (h : wpAny (model prog w) A (eval iter env) (CompSrc prog w A env scope cl x ifs elt p F (CompFin p F Q)) E s)
    (hs : ∀ x, foldedSetIterable iter env x = pure x := by intro _; rfl) :
    wpAny (model prog w) A (eval (.ListComp elt [⟨.Name x px, iter, ifs, 0⟩] scope pos) env) Q E s := by
  refine wpAny_with_toks (n := 1) hpos (wpAny_ListComp_free p F hclos hcell hkind hnames hx (wpAny_mono h (fun xv s₁ h₁ => ?_) fun _ _ e _ => e) hs)
  refine src_open hh h₁ fun o fp n P St W hsz hst hfp C hF => ?_
  refine ⟨_, fp, _, n, P, St, rfl, W, hsz, hst, hfp, quiet_push C, ?_⟩
  intro D h' tk ys vs hD _ hpl hlen hP hFp hk htk
  exact hF D h' tk ys vs (none_push hD) hpl hlen hP hFp (fun b o' e => hk b o' (by simpa using Nat.ne_of_lt (Heap.lt_size e)) (Heap.get?_push_of_some _ e)) htk

theorem evCompA {s : Shared} {elt iter : Expr} {x y : Str} {px py : Pos} {ifs : List Expr} {scope : Scope} {cl : List (Str × Addr)} {pos spos : Pos} {Q : Flow → Shared → Prop} (p : Value → Bool) (F : Value → Value → Prop)
    (hsw : swapsWith (.ListComp elt [⟨.Name x px, iter, ifs, 0⟩] scope pos) (some (.Name y py)) spos.line env = pure true)
    (hclos : closureFor scope env = pure cl) (hcell : ∀ y ∈ scope.names, y.2 ≠ .cell) (hkind : scope.kind = .function)
    (hnames : ∀ y ∈ scope.names, y.2 = .local → scope.names.lookup y.1 = some .local) (hx : scope.names.lookup x = some .local)
    (hy : env.kindOf y = some .local) (hp : (env.scope.kind == .class || (env.scope.kind == .module && env.locals != env.globals)) = false) (hh : A.handled = none) (hpos : 0 < s.toks)
    (h : wpAny (model prog w) A (eval iter env) (CompSrc prog w A env scope cl x ifs elt p F (CompFinA env.locals y p F Q)) E s)
    (hs : ∀ x, foldedSetIterable iter env x = pure x := by intro _; rfl) :
    wpAny (model prog w) A (exec (.Assign [.Name y py] (.ListComp elt [⟨.Name x px, iter, ifs, 0⟩] scope pos) spos) env) Q E s := by
  refine wpAny_with_toks (n := 1) hpos (wpAny_Assign_ListComp_free p F hsw hclos hcell hkind hnames hx hy hp (wpAny_mono h (fun xv s₁ h₁ => ?_) fun _ _ e _ => e) hs)
  refine src_open hh h₁ fun o fp n P St W hsz hst hfp C hF => ?_
  obtain ⟨m, hn, hF⟩ := hF
  refine ⟨_, fp, _, n, P, St, m, rfl, W, hsz, hst, hfp, ?_, hn.keeps fun b o e => Heap.get?_push_of_some _ e, quiet_push C, ?_⟩
  · intro hm
    have := hn.lt
    rw [List.mem_singleton.mp hm] at this
    exact Nat.lt_irrefl _ this
  · intro D h' tk ys vs hD _ hpl hlen hP hFp hns hk htk
    exact hF D h' tk ys vs (none_push hD) hpl hlen hP hFp hns (fun b o' hb e => hk b o' hb (by simpa using Nat.ne_of_lt (Heap.lt_size e)) (Heap.get?_push_of_some _ e)) htk
end
end Mine
end
section
open PySem PySem.W PyProof.Rows
set_option maxRecDepth 100000
set_option maxHeartbeats 8000000
namespace Mine
section
variable {prog : Program} {w : World} {A : Around} {env : Env}

/-- a for over a walked source, by what holds of the heap between the turns -/
theorem for_walks {s : Shared} {R : Result → Shared → Prop} {x : Str} {px : Pos} {body : List Stmt} {I : Addr} {fp wr : List Addr} {n : Nat} {P : Nat → Value → Prop} {St : Nat → Heap → Prop}
    (W : Walks prog w A I fp wr n P St) (J : Nat → Heap → Prop) (hpos : 0 < s.toks) (hst : St 0 s.heap) (h0 : J 0 s.heap)
    (frame : ∀ i h h', J i h → (∀ b o, b ∉ wr → h.get? b = some o → h'.get? b = some o) → J i h')
    (turn : ∀ i v h tk, i < n → P i v → J i h → St (i + 1) h → 0 < tk →
      wpAny (model prog w) A (assign (.Name x px) env v) (fun _ s₂ => wpAny (model prog w) A (execs body env) (fun f s₃ =>
        (f = .next ∨ f = .cont) ∧ ∃ h' tk', s₃ = { s with heap := h', toks := tk' } ∧ J (i + 1) h' ∧ ∀ b ∈ fp, ∀ o, h.get? b = some o → h'.get? b = some o) (fun _ _ => False) s₂) (fun _ _ => False) { s with heap := h, toks := tk })
    (done : ∀ h tk, J n h → 0 < tk → R (.ok .next) { s with heap := h, toks := tk }) :
    codeAny (model prog w) A (.forLoop (.Name x px) (.ref I) body [] env) R s := by
  refine codeAny_forLoop (fun k s' => ∃ h tk i, s' = { s with heap := h, toks := tk } ∧ J i h ∧ St i h ∧ i ≤ n ∧ k = n + 1 - i ∧ 0 < tk) ?_ (n + 1) ⟨s.heap, s.toks, 0, rfl, h0, hst, Nat.zero_le _, rfl, hpos⟩
  rintro k s' ⟨h, tk, i, rfl, hJ, hSt, hi, rfl, htk⟩
  by_cases hlt : i < n
  · refine wpAny_with_toks (n := 1) htk (W.item i _ _ _ hlt hSt fun v h₁ tk₁ hP hst₁ hk₁ htk₁ => ?_)
    refine wpAny_mono (wpAny_toks_of (n := 1) htk₁ (turn i v h₁ tk₁ hlt hP (frame i h h₁ hJ hk₁) hst₁ htk₁)) (fun _ s₂ h₂ => ?_) fun _ _ e => e.2.elim
    refine wpAny_mono (wpAny_toks_of (n := 1) h₂.1 h₂.2) (fun f s₃ h₃ => ?_) fun _ _ e => e.2.elim
    obtain ⟨htk₃, hf, h', tk', rfl, hJ', hk'⟩ := h₃
    have st' : St (i + 1) h' := W.frame _ _ _ hst₁ hk'
    have e : ∃ m, m < n + 1 - i ∧ ∃ h'' tk'' i', ({ s with heap := h', toks := tk' } : Shared) = { s with heap := h'', toks := tk'' } ∧ J i' h'' ∧ St i' h'' ∧ i' ≤ n ∧ m = n + 1 - i' ∧ 0 < tk'' :=
      ⟨n + 1 - (i + 1), by omega, h', tk', i + 1, rfl, hJ', st', hlt, rfl, htk₃⟩
    rcases hf with rfl | rfl <;> exact e
  · have hin : i = n := by omega
    subst hin
    refine wpAny_with_toks (n := 1) htk (W.done _ _ _ hSt fun h' tk' hk' htk' => ?_)
    exact wpAny_execs_nil (done h' tk' (frame _ _ _ hJ hk') htk')
end
end Mine
end
section
open PySem PySem.W PyProof.Rows
set_option maxRecDepth 100000
set_option maxHeartbeats 8000000
namespace Mine
open Builtin Builtin.Str

theorem Fr.up {h₀ h h' : Heap} {L : Addr} {m : Str → Option Value} (F : Fr h₀ L h m) (hk : ∀ b o, h.get? b = some o → h'.get? b = some o) : Fr h₀ L h' m :=
  ⟨F.ns.keeps hk, fun b o e => hk b o (F.keep b o e), F.above⟩
theorem Fr.setA {h₀ h h' : Heap} {L : Addr} {m m' : Str → Option Value} (F : Fr h₀ L h m) (hns : h'.Ns L m') (hk : ∀ b o, b ≠ L → h.get? b = some o → h'.get? b = some o) : Fr h₀ L h' m' :=
  ⟨hns, fun b o e => hk b o (Nat.ne_of_lt (Nat.lt_of_lt_of_le (Heap.lt_size e) F.above)) (F.keep b o e), F.above⟩
theorem Fr.off {h₀ h h' : Heap} {L I : Addr} {m : Str → Option Value} (F : Fr h₀ L h m) (hk : ∀ b o, b ∉ [I] → h.get? b = some o → h'.get? b = some o) (hL : L ≠ I) (hI : h₀.get? I = none) : Fr h₀ L h' m :=
  ⟨F.ns.at' fun o e => hk _ _ (by simpa using hL) e, fun b o e => hk b o (by
    intro hb
    rw [List.mem_singleton.mp hb, hI] at e; cases e) (F.keep b o e), F.above⟩
theorem rng_small (n : Nat) (a : Int) (ha : 0 ≤ a) (ha' : a < 1000) (hn : n < 1000000) : Builtin.Range.small a (n : Int) 1 = true := small_one (by omega) (by omega) (by omega) (by omega)
theorem rng_size (n : Nat) : Builtin.Range.rangeSize 0 (n : Int) 1 = (n : Int) := by rw [rangeSize_one]; split <;> omega

/-- a text of signs -/
noncomputable abbrev tx (l : List Nat) : Str := ⟨l.toArray⟩
theorem tx_list (x : Str) : tx x.cps.toList = x := Str.ext' (by simp [tx])
theorem tx_len (l : List Nat) : (tx l).length = l.length := by simp [tx, Str.length]

theorem slice_from (l : List Nat) (i : Nat) : Txt.slice (tx l) (some (i : Int)) none = tx (l.drop i) := by
  by_cases hi : i ≤ l.length
  · have := StrLaws.sliceText_from (x := tx l) (i := (i : Int)) ⟨by omega, by simp; omega⟩
    refine Eq.trans (show Txt.slice (tx l) (some (i : Int)) none = StrLaws.sliceText (tx l) (some (i : Int)) none from rfl) (this.trans ?_)
    have e : (((tx l).cps.toList.length : Int) - (i : Int)).toNat = l.length - i := by simp
    rw [e]
    simp only [Int.toNat_natCast, List.toList_toArray]
    rw [List.take_of_length_le (by simp)]
  · have e : strSliceIndices (some (i : Int)) none 1 (tx l).length = strSliceIndices (some (l.length : Int)) none 1 (tx l).length := by
      rw [tx_len]
      have a : ¬ ((i : Int) < 0) := by omega
      have b : ¬ ((l.length : Int) < 0) := by omega
      have c : min (i : Int) (l.length : Int) = l.length := by omega
      simp [strSliceIndices, a, b, c]
    have h2 := StrLaws.sliceText_from (x := tx l) (i := (l.length : Int)) ⟨by omega, by simp⟩
    have h3 : Txt.slice (tx l) (some (i : Int)) none = StrLaws.sliceText (tx l) (some (l.length : Int)) none := by
      show StrLaws.sliceText (tx l) (some (i : Int)) none = _
      unfold StrLaws.sliceText
      rw [e]
    rw [h3, h2]
    have : l.drop i = [] := List.drop_eq_nil_of_le (by omega)
    rw [this]
    simp

theorem slice_to (l : List Nat) (i : Nat) : Txt.slice (tx l) none (some (i : Int)) = tx (l.take i) := by
  by_cases hi : i ≤ l.length
  · have := StrLaws.sliceText_to (x := tx l) (j := (i : Int)) ⟨by omega, by simp; omega⟩
    refine Eq.trans (show Txt.slice (tx l) none (some (i : Int)) = StrLaws.sliceText (tx l) none (some (i : Int)) from rfl) (this.trans ?_)
    simp
  · have e : strSliceIndices none (some (i : Int)) 1 (tx l).length = strSliceIndices none (some (l.length : Int)) 1 (tx l).length := by
      rw [tx_len]
      have a : ¬ ((i : Int) < 0) := by omega
      have b : ¬ ((l.length : Int) < 0) := by omega
      have c : min (i : Int) (l.length : Int) = l.length := by omega
      simp [strSliceIndices, a, b, c]
    have h2 := StrLaws.sliceText_to (x := tx l) (j := (l.length : Int)) ⟨by omega, by simp⟩
    have h3 : Txt.slice (tx l) none (some (i : Int)) = StrLaws.sliceText (tx l) none (some (l.length : Int)) := by
      show StrLaws.sliceText (tx l) none (some (i : Int)) = _
      unfold StrLaws.sliceText
      rw [e]
    rw [h3, h2]
    have : l.take i = l := List.take_of_length_le (by omega)
    rw [this]
    simp

section
variable {prog : Program} {w : World} {A : Around} {E : Value → Shared → Prop} {s : Shared} {Q : Value → Shared → Prop} {value slice : Expr}
theorem kept_old (h : Heap) : KeptH (fun h' => ∀ b o, h.get? b = some o → h'.get? b = some o) := fun _ _ hk b o e => Heap.get?_push_of_some _ (hk b o e)
theorem txt_from {h : Heap} {tk : Nat} {l : List Nat} {i : Nat} {t ui : Tok}
    (hq : ∀ h' t' k, (∀ b o, h.get? b = some o → h'.get? b = some o) → Q (.str (tx (l.drop i)) t') { s with heap := h', toks := k })
    (hs : subscripted slice false (.str (tx l) t) (.ref h.objs.size) = operate [.ref h.objs.size, .str (tx l) t] (getItem (.str (tx l) t) (.ref h.objs.size)))
    (ht : ∀ r, letTemporaryGo value (.str (tx l) t) r = pure ()) (hsz : l.length ≤ 1000000) :
    wpAny (model prog w) A (subscriptTail value slice (.str (tx l) t) (.ref h.objs.size)) Q E { s with heap := h.push { cls := .type "slice", data := .fields #[.int i ui, .none, .none] }, toks := tk } := by
  refine tail_of_ItemOn (SBH.sliceItem_sn (s := { s with heap := h, toks := tk }) (kept_old h) (fun _ _ e => e) (fun h' t' k hk => ?_) ?_) hs ht
  · rw [slice_from]; exact hq h' t' k hk
  · rw [tx_len, sizeLine_eq]; omega
theorem txt_to {h : Heap} {tk : Nat} {l : List Nat} {i : Nat} {t ui : Tok}
    (hq : ∀ h' t' k, (∀ b o, h.get? b = some o → h'.get? b = some o) → Q (.str (tx (l.take i)) t') { s with heap := h', toks := k })
    (hs : subscripted slice false (.str (tx l) t) (.ref h.objs.size) = operate [.ref h.objs.size, .str (tx l) t] (getItem (.str (tx l) t) (.ref h.objs.size)))
    (ht : ∀ r, letTemporaryGo value (.str (tx l) t) r = pure ()) (hsz : l.length ≤ 1000000) :
    wpAny (model prog w) A (subscriptTail value slice (.str (tx l) t) (.ref h.objs.size)) Q E { s with heap := h.push { cls := .type "slice", data := .fields #[.none, .int i ui, .none] }, toks := tk } := by
  refine tail_of_ItemOn (SBH.sliceItem_ns (s := { s with heap := h, toks := tk }) (kept_old h) (fun _ _ e => e) (fun h' t' k hk => ?_) ?_) hs ht
  · rw [slice_to]; exact hq h' t' k hk
  · rw [tx_len, sizeLine_eq]; omega
end
end Mine
end
section
open PySem PySem.W PyProof.Rows PySem.SeqAt
set_option maxRecDepth 100000
set_option maxHeartbeats 8000000
namespace Mine
section
variable {prog : Program} {w : World} {A : Around} {E : Value → Shared → Prop} {s : Shared} {Q : Value → Shared → Prop}
end
end Mine
end
section
open PySem PySem.W PyProof.Rows
set_option maxRecDepth 100000
set_option maxHeartbeats 8000000
namespace Mine

noncomputable def amp : List Nat := [38, 97, 109, 112, 59]
noncomputable def lt : List Nat := [38, 108, 116, 59]
noncomputable def gt : List Nat := [38, 103, 116, 59]
noncomputable def quot : List Nat := [38, 113, 117, 111, 116, 59]
noncomputable def r13 : List Nat := [38, 35, 49, 51, 59]
noncomputable def r10 : List Nat := [38, 35, 49, 48, 59]
noncomputable def r09 : List Nat := [38, 35, 48, 57, 59]
noncomputable def rxD : List Nat := [38, 35, 120, 68, 59]
noncomputable def rxA : List Nat := [38, 35, 120, 65, 59]
noncomputable def rx9 : List Nat := [38, 35, 120, 57, 59]

noncomputable def spCdata (c : Nat) : List Nat := if c = 38 then amp else if c = 60 then lt else if c = 62 then gt else [c]
noncomputable def spAttrib (c : Nat) : List Nat := if c = 38 then amp else if c = 60 then lt else if c = 62 then gt else if c = 34 then quot else if c = 13 then r13 else if c = 10 then r10 else if c = 9 then r09 else [c]
noncomputable def spHtml (c : Nat) : List Nat := if c = 38 then amp else if c = 62 then gt else if c = 34 then quot else [c]
noncomputable def spCdataC (c : Nat) : List Nat := if c = 38 then amp else if c = 60 then lt else if c = 62 then gt else if c = 13 then rxD else [c]
noncomputable def spAttribC (c : Nat) : List Nat := if c = 38 then amp else if c = 60 then lt else if c = 34 then quot else if c = 9 then rx9 else if c = 10 then rxA else if c = 13 then rxD else [c]

noncomputable def fm (f : Nat → List Nat) (x : Str) : Str := ⟨(x.cps.toList.flatMap f).toArray⟩

theorem fm_length {f : Nat → List Nat} (hf : ∀ k, (f k).length ≤ 6) (x : Str) : (fm f x).length ≤ 6 * x.length := by
  have := length_flatMap_le hf x.cps.toList
  simpa [fm, Str.length] using this

theorem len_cdata (k : Nat) : (spCdata k).length ≤ 6 := by unfold spCdata; repeat' split
                                                           all_goals first | decide | (show 1 ≤ 6; decide)
theorem len_attrib (k : Nat) : (spAttrib k).length ≤ 6 := by unfold spAttrib; repeat' split
                                                             all_goals first | decide | (show 1 ≤ 6; decide)
theorem len_html (k : Nat) : (spHtml k).length ≤ 6 := by unfold spHtml; repeat' split
                                                         all_goals first | decide | (show 1 ≤ 6; decide)
theorem len_cdataC (k : Nat) : (spCdataC k).length ≤ 6 := by unfold spCdataC; repeat' split
                                                             all_goals first | decide | (show 1 ≤ 6; decide)
theorem len_attribC (k : Nat) : (spAttribC k).length ≤ 6 := by unfold spAttribC; repeat' split
                                                               all_goals first | decide | (show 1 ≤ 6; decide)

theorem chain_eq {x y : Str} {f : Nat → List Nat} (h : y.cps.toList = x.cps.toList.flatMap f) : y = fm f x :=
  Str.ext' (by rw [fm]; simpa using congrArg List.toArray h)

theorem one_amp : Str.ofString "&" = ⟨#[38]⟩ := by decide +kernel
theorem one_lt : Str.ofString "<" = ⟨#[60]⟩ := by decide +kernel
theorem one_gt : Str.ofString ">" = ⟨#[62]⟩ := by decide +kernel
theorem one_quot : Str.ofString "\"" = ⟨#[34]⟩ := by decide +kernel
theorem one_cr : Str.ofString "\x0d" = ⟨#[13]⟩ := by decide +kernel
theorem one_lf : Str.ofString "\n" = ⟨#[10]⟩ := by decide +kernel
theorem one_tab : Str.ofString "\t" = ⟨#[9]⟩ := by decide +kernel
theorem t_amp : (Str.ofString "&amp;").cps.toList = amp := by decide +kernel
theorem t_lt : (Str.ofString "&lt;").cps.toList = lt := by decide +kernel
theorem t_gt : (Str.ofString "&gt;").cps.toList = gt := by decide +kernel
theorem t_quot : (Str.ofString "&quot;").cps.toList = quot := by decide +kernel
theorem t_r13 : (Str.ofString "&#13;").cps.toList = r13 := by decide +kernel
theorem t_r10 : (Str.ofString "&#10;").cps.toList = r10 := by decide +kernel
theorem t_r09 : (Str.ofString "&#09;").cps.toList = r09 := by decide +kernel
theorem t_rxD : (Str.ofString "&#xD;").cps.toList = rxD := by decide +kernel
theorem t_rxA : (Str.ofString "&#xA;").cps.toList = rxA := by decide +kernel
theorem t_rx9 : (Str.ofString "&#x9;").cps.toList = rx9 := by decide +kernel

theorem rep_cons (c : Nat) (z : List Nat) (k : Nat) (l : List Nat) : rep c z (k :: l) = (if k = c then z else [k]) ++ rep c z l := by
  unfold rep; rw [List.flatMap_cons]

noncomputable abbrev rS (x : Str) (c r : String) : Str := Txt.replace x (Str.ofString c) (Str.ofString r)

theorem chain_cdata (x : Str) : rS (rS (rS x "&" "&amp;") "<" "&lt;") ">" "&gt;" = fm spCdata x := by
  refine chain_eq ?_
  simp only [rS, one_amp, one_lt, one_gt, replace_rep, t_amp, t_lt, t_gt]
  generalize x.cps.toList = l
  induction l with
  | nil => rfl
  | cons k l ih =>
    rw [List.flatMap_cons, ← ih, rep_cons, rep_append, rep_append]
    congr 1
    unfold spCdata
    by_cases h1 : k = 38
    · subst h1; decide
    by_cases h2 : k = 60
    · subst h2; decide
    by_cases h3 : k = 62
    · subst h3; decide
    simp [h1, h2, h3, rep]

theorem chain_attrib (x : Str) : rS (rS (rS (rS (rS (rS (rS x "&" "&amp;") "<" "&lt;") ">" "&gt;") "\"" "&quot;") "\x0d" "&#13;") "\n" "&#10;") "\t" "&#09;" = fm spAttrib x := by
  refine chain_eq ?_
  simp only [rS, one_amp, one_lt, one_gt, one_quot, one_cr, one_lf, one_tab, replace_rep, t_amp, t_lt, t_gt, t_quot, t_r13, t_r10, t_r09]
  generalize x.cps.toList = l
  induction l with
  | nil => rfl
  | cons k l ih =>
    rw [List.flatMap_cons, ← ih, rep_cons]
    simp only [rep_append]
    congr 1
    unfold spAttrib
    by_cases h1 : k = 38
    · subst h1; decide
    by_cases h2 : k = 60
    · subst h2; decide
    by_cases h3 : k = 62
    · subst h3; decide
    by_cases h4 : k = 34
    · subst h4; decide
    by_cases h5 : k = 13
    · subst h5; decide
    by_cases h6 : k = 10
    · subst h6; decide
    by_cases h7 : k = 9
    · subst h7; decide
    simp [h1, h2, h3, h4, h5, h6, h7, rep]

theorem chain_html (x : Str) : rS (rS (rS x "&" "&amp;") ">" "&gt;") "\"" "&quot;" = fm spHtml x := by
  refine chain_eq ?_
  simp only [rS, one_amp, one_gt, one_quot, replace_rep, t_amp, t_gt, t_quot]
  generalize x.cps.toList = l
  induction l with
  | nil => rfl
  | cons k l ih =>
    rw [List.flatMap_cons, ← ih, rep_cons]
    simp only [rep_append]
    congr 1
    unfold spHtml
    by_cases h1 : k = 38
    · subst h1; decide
    by_cases h3 : k = 62
    · subst h3; decide
    by_cases h4 : k = 34
    · subst h4; decide
    simp [h1, h3, h4, rep]

theorem chain_cdataC (x : Str) : rS (rS (rS (rS x "&" "&amp;") "<" "&lt;") ">" "&gt;") "\x0d" "&#xD;" = fm spCdataC x := by
  refine chain_eq ?_
  simp only [rS, one_amp, one_lt, one_gt, one_cr, replace_rep, t_amp, t_lt, t_gt, t_rxD]
  generalize x.cps.toList = l
  induction l with
  | nil => rfl
  | cons k l ih =>
    rw [List.flatMap_cons, ← ih, rep_cons]
    simp only [rep_append]
    congr 1
    unfold spCdataC
    by_cases h1 : k = 38
    · subst h1; decide
    by_cases h2 : k = 60
    · subst h2; decide
    by_cases h3 : k = 62
    · subst h3; decide
    by_cases h5 : k = 13
    · subst h5; decide
    simp [h1, h2, h3, h5, rep]

theorem chain_attribC (x : Str) : rS (rS (rS (rS (rS (rS x "&" "&amp;") "<" "&lt;") "\"" "&quot;") "\t" "&#x9;") "\n" "&#xA;") "\x0d" "&#xD;" = fm spAttribC x := by
  refine chain_eq ?_
  simp only [rS, one_amp, one_lt, one_quot, one_cr, one_lf, one_tab, replace_rep, t_amp, t_lt, t_quot, t_rxD, t_rxA, t_rx9]
  generalize x.cps.toList = l
  induction l with
  | nil => rfl
  | cons k l ih =>
    rw [List.flatMap_cons, ← ih, rep_cons]
    simp only [rep_append]
    congr 1
    unfold spAttribC
    by_cases h1 : k = 38
    · subst h1; decide
    by_cases h2 : k = 60
    · subst h2; decide
    by_cases h4 : k = 34
    · subst h4; decide
    by_cases h7 : k = 9
    · subst h7; decide
    by_cases h6 : k = 10
    · subst h6; decide
    by_cases h5 : k = 13
    · subst h5; decide
    simp [h1, h2, h4, h5, h6, h7, rep]

theorem rS_le (x : Str) {c r : String} {cc : Nat} (hc : Str.ofString c = ⟨#[cc]⟩) (hr : (Str.ofString r).cps.toList ≠ []) : x.length ≤ (rS x c r).length := by
  unfold rS; rw [hc]; exact replace_le x _ cc hr
end Mine
end
section
open PySem PySem.W PyProof.Rows
set_option maxRecDepth 100000
set_option maxHeartbeats 8000000
namespace Mine

/-- what the call may lean on: the part of the top that is written out -/
structure Bs (w : World) (mg mb : Str → Option Value) (h : Heap) : Prop where
  X : (hd.heap_39 w.params).In h
  T : TopRead hd.view_39 (looseW hd.view_39 []) mg mb h
theorem Bs.keeps {w : World} {mg mb : Str → Option Value} {h h' : Heap} (B : Bs w mg mb h) (hk : ∀ b o, h.get? b = some o → h'.get? b = some o) : Bs w mg mb h' :=
  ⟨B.X.keeps hk, B.T.keeps hk⟩

local macro_rules | `(tactic| walk_at "m_enter") => `(tactic| (
  (refine' enter (Bs.X (by assumption)) (TopRead.nolimit (Bs.T (by assumption))) ?k8 (by assumption) ?k6 ?k7 ?k9 ?kB ?c5 ?c2 ?c3 ?c4 ?_)
  (case k6 => k_is)
  (case k7 => k_is)
  (case k8 => assumption)
  (case k9 => exact BindsTo.of_eq rfl)
  (case kB => exact locs rfl)
  (case c5 => decide)
  (case c2 => rfl)
  (case c3 => rfl)
  (case c4 => rfl)
  (intro L h₁ tk F N hpos)))
local macro_rules | `(tactic| walk_at "m_esc") => `(tactic| (
  (refine' esc_if (by assumption) (by assumption) ?h1 (by assumption) ?h2 ?h3 ?h4 ?h5 ?h6 ?h7 ?h8 ?_)
  (case h1 => rfl)
  (case h2 => first | exact one_amp | exact one_lt | exact one_gt | exact one_quot | exact one_cr | exact one_lf | exact one_tab)
  (case h3 => assumption)
  (case h4 => decide)
  (case h5 => decide +kernel)
  (case h6 => rfl)
  (case h7 => rfl)
  (case h8 => rfl)
  (intro h₁ t₁ tk hpos F N)
  (try dsimp only)))

theorem c_cdata {w : World} {A : Around} {s : Shared} {E : Value → Shared → Prop} {mg mb : Str → Option Value} {x : Str} {t : Tok}
    (B : Bs w mg mb s.heap) (hroom : A.depth < recursionLimit) (hpos : 0 < s.toks) (hx : x.length ≤ 100000) :
    wpAny (model Challenge.rw_nb0384_02.row.prog w) A (call (.ref 28) [.str x t]) (fun v s' => Keeps s s' ∧ ∃ u, v = .str (fm spCdata x) u) E s := by
  have lz := fm_length len_cdata x
  rw [← chain_cdata x] at lz ⊢
  have l0 := rS_le x (r := "&amp;") one_amp (by decide +kernel)
  have l1 := rS_le (rS x "&" "&amp;") (r := "&lt;") one_lt (by decide +kernel)
  have l2 := rS_le (rS (rS x "&" "&amp;") "<" "&lt;") (r := "&gt;") one_gt (by decide +kernel)
  have b0 : Str.length (x) ≤ 1048576 := by omega
  have b1 : Str.length (rS x "&" "&amp;") ≤ 1048576 := by omega
  have b2 : Str.length (rS (rS x "&" "&amp;") "<" "&lt;") ≤ 1048576 := by omega
  have B0 := B
  revert B0; obtain ⟨X, T⟩ := B; revert X; k_fill; intro X B
  walk_at "m_enter"
  refine wpAny_execs_cons (wpAny_Try_except ?_)
  walk_at "m_esc"
  walk_at "m_esc"
  walk_at "m_esc"
  refine wpAny_execs_cons (wpAny_Return_some (ld (by assumption) rfl ?_))
  exact ⟨⟨_, _, rfl, Fr.keep (by assumption)⟩, _, rfl⟩

theorem c_attrib {w : World} {A : Around} {s : Shared} {E : Value → Shared → Prop} {mg mb : Str → Option Value} {x : Str} {t : Tok}
    (B : Bs w mg mb s.heap) (hroom : A.depth < recursionLimit) (hpos : 0 < s.toks) (hx : x.length ≤ 100000) :
    wpAny (model Challenge.rw_nb0384_02.row.prog w) A (call (.ref 35) [.str x t]) (fun v s' => Keeps s s' ∧ ∃ u, v = .str (fm spAttrib x) u) E s := by
  have lz := fm_length len_attrib x
  rw [← chain_attrib x] at lz ⊢
  have l0 := rS_le x (r := "&amp;") one_amp (by decide +kernel)
  have l1 := rS_le (rS x "&" "&amp;") (r := "&lt;") one_lt (by decide +kernel)
  have l2 := rS_le (rS (rS x "&" "&amp;") "<" "&lt;") (r := "&gt;") one_gt (by decide +kernel)
  have l3 := rS_le (rS (rS (rS x "&" "&amp;") "<" "&lt;") ">" "&gt;") (r := "&quot;") one_quot (by decide +kernel)
  have l4 := rS_le (rS (rS (rS (rS x "&" "&amp;") "<" "&lt;") ">" "&gt;") "\"" "&quot;") (r := "&#13;") one_cr (by decide +kernel)
  have l5 := rS_le (rS (rS (rS (rS (rS x "&" "&amp;") "<" "&lt;") ">" "&gt;") "\"" "&quot;") "\x0d" "&#13;") (r := "&#10;") one_lf (by decide +kernel)
  have l6 := rS_le (rS (rS (rS (rS (rS (rS x "&" "&amp;") "<" "&lt;") ">" "&gt;") "\"" "&quot;") "\x0d" "&#13;") "\n" "&#10;") (r := "&#09;") one_tab (by decide +kernel)
  have b0 : Str.length (x) ≤ 1048576 := by omega
  have b1 : Str.length (rS x "&" "&amp;") ≤ 1048576 := by omega
  have b2 : Str.length (rS (rS x "&" "&amp;") "<" "&lt;") ≤ 1048576 := by omega
  have b3 : Str.length (rS (rS (rS x "&" "&amp;") "<" "&lt;") ">" "&gt;") ≤ 1048576 := by omega
  have b4 : Str.length (rS (rS (rS (rS x "&" "&amp;") "<" "&lt;") ">" "&gt;") "\"" "&quot;") ≤ 1048576 := by omega
  have b5 : Str.length (rS (rS (rS (rS (rS x "&" "&amp;") "<" "&lt;") ">" "&gt;") "\"" "&quot;") "\x0d" "&#13;") ≤ 1048576 := by omega
  have b6 : Str.length (rS (rS (rS (rS (rS (rS x "&" "&amp;") "<" "&lt;") ">" "&gt;") "\"" "&quot;") "\x0d" "&#13;") "\n" "&#10;") ≤ 1048576 := by omega
  have B0 := B
  revert B0; obtain ⟨X, T⟩ := B; revert X; k_fill; intro X B
  walk_at "m_enter"
  refine wpAny_execs_cons (wpAny_Try_except ?_)
  walk_at "m_esc"
  walk_at "m_esc"
  walk_at "m_esc"
  walk_at "m_esc"
  walk_at "m_esc"
  walk_at "m_esc"
  walk_at "m_esc"
  refine wpAny_execs_cons (wpAny_Return_some (ld (by assumption) rfl ?_))
  exact ⟨⟨_, _, rfl, Fr.keep (by assumption)⟩, _, rfl⟩

theorem c_html {w : World} {A : Around} {s : Shared} {E : Value → Shared → Prop} {mg mb : Str → Option Value} {x : Str} {t : Tok}
    (B : Bs w mg mb s.heap) (hroom : A.depth < recursionLimit) (hpos : 0 < s.toks) (hx : x.length ≤ 100000) :
    wpAny (model Challenge.rw_nb0384_02.row.prog w) A (call (.ref 42) [.str x t]) (fun v s' => Keeps s s' ∧ ∃ u, v = .str (fm spHtml x) u) E s := by
  have lz := fm_length len_html x
  rw [← chain_html x] at lz ⊢
  have l0 := rS_le x (r := "&amp;") one_amp (by decide +kernel)
  have l1 := rS_le (rS x "&" "&amp;") (r := "&gt;") one_gt (by decide +kernel)
  have l2 := rS_le (rS (rS x "&" "&amp;") ">" "&gt;") (r := "&quot;") one_quot (by decide +kernel)
  have b0 : Str.length (x) ≤ 1048576 := by omega
  have b1 : Str.length (rS x "&" "&amp;") ≤ 1048576 := by omega
  have b2 : Str.length (rS (rS x "&" "&amp;") ">" "&gt;") ≤ 1048576 := by omega
  have B0 := B
  revert B0; obtain ⟨X, T⟩ := B; revert X; k_fill; intro X B
  walk_at "m_enter"
  refine wpAny_execs_cons (wpAny_Try_except ?_)
  walk_at "m_esc"
  walk_at "m_esc"
  walk_at "m_esc"
  refine wpAny_execs_cons (wpAny_Return_some (ld (by assumption) rfl ?_))
  exact ⟨⟨_, _, rfl, Fr.keep (by assumption)⟩, _, rfl⟩

theorem c_cdataC {w : World} {A : Around} {s : Shared} {E : Value → Shared → Prop} {mg mb : Str → Option Value} {x : Str} {t : Tok}
    (B : Bs w mg mb s.heap) (hroom : A.depth < recursionLimit) (hpos : 0 < s.toks) (hx : x.length ≤ 100000) :
    wpAny (model Challenge.rw_nb0384_02.row.prog w) A (call (.ref 49) [.str x t]) (fun v s' => Keeps s s' ∧ ∃ u, v = .str (fm spCdataC x) u) E s := by
  have lz := fm_length len_cdataC x
  rw [← chain_cdataC x] at lz ⊢
  have l0 := rS_le x (r := "&amp;") one_amp (by decide +kernel)
  have l1 := rS_le (rS x "&" "&amp;") (r := "&lt;") one_lt (by decide +kernel)
  have l2 := rS_le (rS (rS x "&" "&amp;") "<" "&lt;") (r := "&gt;") one_gt (by decide +kernel)
  have l3 := rS_le (rS (rS (rS x "&" "&amp;") "<" "&lt;") ">" "&gt;") (r := "&#xD;") one_cr (by decide +kernel)
  have b0 : Str.length (x) ≤ 1048576 := by omega
  have b1 : Str.length (rS x "&" "&amp;") ≤ 1048576 := by omega
  have b2 : Str.length (rS (rS x "&" "&amp;") "<" "&lt;") ≤ 1048576 := by omega
  have b3 : Str.length (rS (rS (rS x "&" "&amp;") "<" "&lt;") ">" "&gt;") ≤ 1048576 := by omega
  have B0 := B
  revert B0; obtain ⟨X, T⟩ := B; revert X; k_fill; intro X B
  walk_at "m_enter"
  refine wpAny_execs_cons (wpAny_Try_except ?_)
  walk_at "m_esc"
  walk_at "m_esc"
  walk_at "m_esc"
  walk_at "m_esc"
  refine wpAny_execs_cons (wpAny_Return_some (ld (by assumption) rfl ?_))
  exact ⟨⟨_, _, rfl, Fr.keep (by assumption)⟩, _, rfl⟩

theorem c_attribC {w : World} {A : Around} {s : Shared} {E : Value → Shared → Prop} {mg mb : Str → Option Value} {x : Str} {t : Tok}
    (B : Bs w mg mb s.heap) (hroom : A.depth < recursionLimit) (hpos : 0 < s.toks) (hx : x.length ≤ 100000) :
    wpAny (model Challenge.rw_nb0384_02.row.prog w) A (call (.ref 56) [.str x t]) (fun v s' => Keeps s s' ∧ ∃ u, v = .str (fm spAttribC x) u) E s := by
  have lz := fm_length len_attribC x
  rw [← chain_attribC x] at lz ⊢
  have l0 := rS_le x (r := "&amp;") one_amp (by decide +kernel)
  have l1 := rS_le (rS x "&" "&amp;") (r := "&lt;") one_lt (by decide +kernel)
  have l2 := rS_le (rS (rS x "&" "&amp;") "<" "&lt;") (r := "&quot;") one_quot (by decide +kernel)
  have l3 := rS_le (rS (rS (rS x "&" "&amp;") "<" "&lt;") "\"" "&quot;") (r := "&#x9;") one_tab (by decide +kernel)
  have l4 := rS_le (rS (rS (rS (rS x "&" "&amp;") "<" "&lt;") "\"" "&quot;") "\t" "&#x9;") (r := "&#xA;") one_lf (by decide +kernel)
  have l5 := rS_le (rS (rS (rS (rS (rS x "&" "&amp;") "<" "&lt;") "\"" "&quot;") "\t" "&#x9;") "\n" "&#xA;") (r := "&#xD;") one_cr (by decide +kernel)
  have b0 : Str.length (x) ≤ 1048576 := by omega
  have b1 : Str.length (rS x "&" "&amp;") ≤ 1048576 := by omega
  have b2 : Str.length (rS (rS x "&" "&amp;") "<" "&lt;") ≤ 1048576 := by omega
  have b3 : Str.length (rS (rS (rS x "&" "&amp;") "<" "&lt;") "\"" "&quot;") ≤ 1048576 := by omega
  have b4 : Str.length (rS (rS (rS (rS x "&" "&amp;") "<" "&lt;") "\"" "&quot;") "\t" "&#x9;") ≤ 1048576 := by omega
  have b5 : Str.length (rS (rS (rS (rS (rS x "&" "&amp;") "<" "&lt;") "\"" "&quot;") "\t" "&#x9;") "\n" "&#xA;") ≤ 1048576 := by omega
  have B0 := B
  revert B0; obtain ⟨X, T⟩ := B; revert X; k_fill; intro X B
  walk_at "m_enter"
  refine wpAny_execs_cons (wpAny_Try_except ?_)
  walk_at "m_esc"
  walk_at "m_esc"
  walk_at "m_esc"
  walk_at "m_esc"
  walk_at "m_esc"
  walk_at "m_esc"
  refine wpAny_execs_cons (wpAny_Return_some (ld (by assumption) rfl ?_))
  exact ⟨⟨_, _, rfl, Fr.keep (by assumption)⟩, _, rfl⟩

end Mine
end
section
open PySem PySem.W PyProof.Rows
set_option maxRecDepth 100000
set_option maxHeartbeats 8000000
namespace Mine

theorem Fr.bs {w : World} {mg mb : Str → Option Value} {h₀ h : Heap} {L : Addr} {m : Str → Option Value} (F : Fr h₀ L h m) (B : Bs w mg mb h₀) : Bs w mg mb h := B.keeps F.keep

noncomputable def sp1 (hand : Int) : Nat → List Nat := if hand = 0 then spCdata else if hand = 1 then spCdataC else if hand = 2 then spAttrib else if hand = 3 then spAttribC else spHtml

theorem sp1_0 {n : Int} (h : n = 0) : sp1 n = spCdata := by rw [sp1, if_pos h]
theorem sp1_1 {n : Int} (h : n = 1) : sp1 n = spCdataC := by subst h; rfl
theorem sp1_2 {n : Int} (h : n = 2) : sp1 n = spAttrib := by subst h; rfl
theorem sp1_3 {n : Int} (h : n = 3) : sp1 n = spAttribC := by subst h; rfl
theorem sp1_4 {n : Int} (h0 : n ≠ 0) (h1 : n ≠ 1) (h2 : n ≠ 2) (h3 : n ≠ 3) : sp1 n = spHtml := by rw [sp1, if_neg h0, if_neg h1, if_neg h2, if_neg h3]
local macro_rules | `(tactic| walk_at "m_enter") => `(tactic| (
  (refine' enter (Bs.X (by assumption)) (TopRead.nolimit (Bs.T (by assumption))) ?k8 (by assumption) ?k6 ?k7 ?k9 ?kB ?c5 ?c2 ?c3 ?c4 ?_)
  (case k6 => k_is)
  (case k7 => k_is)
  (case k8 => first | assumption | omega)
  (case k9 => exact BindsTo.of_eq rfl)
  (case kB => exact locs rfl)
  (case c5 => decide)
  (case c2 => rfl)
  (case c3 => rfl)
  (case c4 => rfl)
  (intro L h₁ tk F N hpos)))

local macro_rules | `(tactic| walk_at "m_pos") => `(tactic| first | assumption | (dsimp only; omega) | omega)
local macro_rules | `(tactic| walk_at "m_bs") => `(tactic| exact Fr.bs (by assumption) (by assumption))
local macro_rules | `(tactic| walk_at "m_room") => `(tactic| (simp only [depth_deeper]; omega))
local macro_rules | `(tactic| walk_at "execs cons") => `(tactic| ((with_reducible refine wpAny_execs_cons ?_); try dsimp only))
local macro_rules | `(tactic| walk_at "execs nil") => `(tactic| refine wpAny_execs_nil ?_)
theorem c_written {w : World} {A : Around} {s : Shared} {E : Value → Shared → Prop} {mg mb : Str → Option Value} {x : Str} {t u : Tok} {hand : Int}
    (B : Bs w mg mb s.heap) (hroom : A.depth + 10 < recursionLimit) (hpos : 0 < s.toks) (hx : x.length ≤ 100000) :
    wpAny (model Challenge.rw_nb0384_02.row.prog w) A (call (.ref 63) [.int hand u, .str x t]) (fun v s' => Keeps s s' ∧ ∃ u, v = .str (fm (sp1 hand) x) u) E s := by
  have B0 := B
  revert B0; obtain ⟨X, T⟩ := B; revert X; k_fill; intro X B
  walk_at "m_enter"
  k_steps
  · refine' use (R := fun v _ => ∃ u, v = .str (fm spCdata x) u) (by assumption) (by assumption) (by walk_at "m_pos") (c_cdata (by walk_at "m_bs") (by walk_at "m_room") (by walk_at "m_pos") (by assumption)) ?_
    rintro _ h' tk ⟨u, rfl⟩ F N hk hpos
    exact ⟨⟨_, _, rfl, Fr.keep (by assumption)⟩, _, by rw [sp1_0 (by assumption)]⟩
  · refine' use (R := fun v _ => ∃ u, v = .str (fm spCdataC x) u) (by assumption) (by assumption) (by walk_at "m_pos") (c_cdataC (by walk_at "m_bs") (by walk_at "m_room") (by walk_at "m_pos") (by assumption)) ?_
    rintro _ h' tk ⟨u, rfl⟩ F N hk hpos
    exact ⟨⟨_, _, rfl, Fr.keep (by assumption)⟩, _, by rw [sp1_1 (by assumption)]⟩
  · refine' use (R := fun v _ => ∃ u, v = .str (fm spAttrib x) u) (by assumption) (by assumption) (by walk_at "m_pos") (c_attrib (by walk_at "m_bs") (by walk_at "m_room") (by walk_at "m_pos") (by assumption)) ?_
    rintro _ h' tk ⟨u, rfl⟩ F N hk hpos
    exact ⟨⟨_, _, rfl, Fr.keep (by assumption)⟩, _, by rw [sp1_2 (by assumption)]⟩
  · refine' use (R := fun v _ => ∃ u, v = .str (fm spAttribC x) u) (by assumption) (by assumption) (by walk_at "m_pos") (c_attribC (by walk_at "m_bs") (by walk_at "m_room") (by walk_at "m_pos") (by assumption)) ?_
    rintro _ h' tk ⟨u, rfl⟩ F N hk hpos
    exact ⟨⟨_, _, rfl, Fr.keep (by assumption)⟩, _, by rw [sp1_3 (by assumption)]⟩
  · refine' use (R := fun v _ => ∃ u, v = .str (fm spHtml x) u) (by assumption) (by assumption) (by walk_at "m_pos") (c_html (by walk_at "m_bs") (by walk_at "m_room") (by walk_at "m_pos") (by assumption)) ?_
    rintro _ h' tk ⟨u, rfl⟩ F N hk hpos
    exact ⟨⟨_, _, rfl, Fr.keep (by assumption)⟩, _, by rw [sp1_4 (by assumption) (by assumption) (by assumption) (by assumption)]⟩
end Mine
end
section
open PySem PySem.W PyProof.Rows
set_option maxRecDepth 100000
set_option maxHeartbeats 8000000
namespace Mine
theorem gname {w : World} {mg mb : Str → Option Value} {M : Model} {A : Around} {E : Value → Shared → Prop} {s : Shared} {env : Env} {x : Str} {pos : Pos} {v : Value} {Q : Value → Shared → Prop}
    (B : Bs w mg mb s.heap) (e : nsIn (hd.heap_39 w.params) mainGlobals x = some (some v)) (h : Q v s) (hg : env.globals = mainGlobals) (hk : env.scope.kind = .function) (hx : env.kindOf x = some .globalImplicit)
    (hd : (x == ("__debug__" : Str)) = false) : wpAny M A (eval (.Name x pos) env) Q E s :=
  Calls.Name_function_global hk hx (Calls.loadGlobal_global (hg ▸ B.T.g) (mg_of B.X B.T.g e) h) hd
theorem bname {w : World} {mg mb : Str → Option Value} {M : Model} {A : Around} {E : Value → Shared → Prop} {s : Shared} {env : Env} {x : Str} {pos : Pos} {v : Value} {Q : Value → Shared → Prop}
    (B : Bs w mg mb s.heap) (e : nsIn (hd.heap_39 w.params) mainGlobals x = some none) (hv : bootBuiltins x = some v) (hn : x ≠ "__name__") (h : Q v s) (hg : env.globals = mainGlobals) (hb : env.builtins = builtinsNs)
    (hk : env.scope.kind = .function) (hx : env.kindOf x = some .globalImplicit) (hd : (x == ("__debug__" : Str)) = false) : wpAny M A (eval (.Name x pos) env) Q E s :=
  Calls.Name_function_global hk hx (Calls.loadGlobal_builtin (hg ▸ B.T.g) (mg_none_of B.X B.T.g e) (hb ▸ B.T.b) ((B.T.builtins x hn).trans hv) h) hd

theorem filter_all (vs : List Value) : vs.filter (fun _ => true) = vs := by simp

theorem pick_of {h : Heap} {D : Addr} {n : Nat} {items : List Value} {k : Int} (P : Value → Prop) (hD : h.get? D = some (listOf items.toArray n)) (h0 : 0 ≤ k) (hk : k < items.length) (hP : ∀ v ∈ items, P v) :
    ∃ v, items[k.toNat]? = some v ∧ P v ∧ h.IsList D items.toArray := by
  have hlt : k.toNat < items.length := by omega
  exact ⟨items[k.toNat], by simp [hlt], hP _ (List.getElem_mem hlt), _, hD, rfl, n, rfl⟩
theorem tx_app (a b : List Nat) : tx a ++ tx b = tx (a ++ b) := Str.ext' (by simp [Str.cps_append])
theorem len_sp1 (n : Int) (c : Nat) : (sp1 n c).length ≤ 6 := by
  unfold sp1
  repeat' split
  · exact len_cdata c
  · exact len_cdataC c
  · exact len_attrib c
  · exact len_attribC c
  · exact len_html c
section
variable {prog : Program} {w : World} {A : Around} {E : Value → Shared → Prop} {s : Shared} {Q : Value → Shared → Prop} {value slice : Expr}
theorem lst_mid {h : Heap} {tk : Nat} {l : Addr} {items : List Value} {vl vu : Value} {lo hi : Option Int} (hl : h.IsList l items.toArray) (pl : IsPart vl lo) (pu : IsPart vu hi)
    (hq : ∀ D h', h.get? D = none → h'.get? D = some (listOf ((items.drop (lo.elim 0 (clipAt items.length))).take (hi.elim items.length (clipAt items.length) - lo.elim 0 (clipAt items.length))).toArray 0) → (∀ b o, h.get? b = some o → h'.get? b = some o) → Q (.ref D) { s with heap := h', toks := tk })
    (hs : subscripted slice false (.ref l) (.ref h.objs.size) = operate [.ref h.objs.size, .ref l] (getItem (.ref l) (.ref h.objs.size)))
    (ht : ∀ r, letTemporaryGo value (.ref l) r = pure ()) (hsz : items.length ≤ 1000000) :
    wpAny (model prog w) A (subscriptTail value slice (.ref l) (.ref h.objs.size)) Q E { s with heap := h.push { cls := .type "slice", data := .fields #[vl, vu, .none] }, toks := tk } := by
  refine slice_listK (s := { s with heap := h, toks := tk }) hl pl pu ?_ hs ht (by simp only [List.size_toArray]; rw [sizeLine_eq]; omega)
  refine hq _ _ ?_ ?_ fun b o e => Heap.get?_push_of_some _ (Heap.get?_push_of_some _ e)
  · cases e : h.get? (h.objs.size + 1) with
    | none => rfl
    | some o => exact absurd (Heap.lt_size e) (Nat.not_lt.mpr (Nat.le_succ _))
  · have e := Heap.get?_push_size (o := ({ cls := .type "list", data := .seq (slicePick items.toArray lo hi none) } : Obj)) (h.push { cls := .type "slice", data := .fields #[vl, vu, .none] }) rfl
    rw [Heap.size_push, slicePick_plain] at e
    dsimp only
    rw [slicePick_plain]
    simpa using e
end
noncomputable def pick5 (n : Int) (a b c d e : Str) : Str := if n = 0 then a else if n = 1 then b else if n = 2 then c else if n = 3 then d else e
theorem pick5_at {n : Int} (h0 : 0 ≤ n) (h5 : n < 5) (a b c d e : Str) (t0 t1 t2 t3 t4 : Tok) :
    ∃ t, [Value.str a t0, Value.str b t1, Value.str c t2, Value.str d t3, Value.str e t4][n.toNat]? = some (.str (pick5 n a b c d e) t) := by
  rcases (by omega : n = 0 ∨ n = 1 ∨ n = 2 ∨ n = 3 ∨ n = 4) with rfl | rfl | rfl | rfl | rfl
  all_goals exact ⟨_, rfl⟩

end Mine
end
section
open PySem PySem.W PyProof.Rows
set_option maxRecDepth 100000
set_option maxHeartbeats 8000000
namespace Mine
local macro_rules | `(tactic| walk_at "m_enterC") => `(tactic| (
  (refine' enterC (Bs.X (by assumption)) (TopRead.nolimit (Bs.T (by assumption))) ?k8 (by assumption) ?k6 ?k7 ?k9 ?kB ?kD ?c2 ?c3 ?c4 ?_)
  (case k6 => k_is)
  (case k7 => k_is)
  (case k8 => first | assumption | omega)
  (case k9 => exact rfl)
  (case kB => exact rfl)
  (case kD => decide +kernel)
  (case c2 => rfl)
  (case c3 => rfl)
  (case c4 => rfl)))
noncomputable def spelledS (n : Int) : Str := pick5 n (Str.ofString "&<>") (Str.ofString "&<>\x0d") (Str.ofString "&<>\"\x0d\n\t") (Str.ofString "&<\"\x0d\n\t") (Str.ofString "&>\"")
theorem spelled_list (n : Int) (h0 : 0 ≤ n) (h5 : n < 5) : (spelledS n).cps.toList = if n = 0 then [38, 60, 62] else if n = 1 then [38, 60, 62, 13] else if n = 2 then [38, 60, 62, 34, 13, 10, 9] else if n = 3 then [38, 60, 34, 13, 10, 9] else [38, 62, 34] := by
  rcases (by omega : n = 0 ∨ n = 1 ∨ n = 2 ∨ n = 3 ∨ n = 4) with rfl | rfl | rfl | rfl | rfl
  all_goals decide +kernel
noncomputable def isSpec (c : Nat) : Prop := c = 38 ∨ c = 60 ∨ c = 62 ∨ c = 34 ∨ c = 13 ∨ c = 10 ∨ c = 9
theorem spec_free {c : Nat} (hc : ¬ isSpec c) : c ≠ 38 ∧ c ≠ 60 ∧ c ≠ 62 ∧ c ≠ 34 ∧ c ≠ 13 ∧ c ≠ 10 ∧ c ≠ 9 := by
  unfold isSpec at hc
  simpa only [not_or] using hc
theorem sp1_plain {n : Int} {c : Nat} (hc : ¬ isSpec c) : sp1 n c = [c] := by
  obtain ⟨h1, h2, h3, h4, h5, h6, h7⟩ := spec_free hc
  have a1 : spCdata c = [c] := by rw [spCdata, if_neg h1, if_neg h2, if_neg h3]
  have a2 : spCdataC c = [c] := by rw [spCdataC, if_neg h1, if_neg h2, if_neg h3, if_neg h5]
  have a3 : spAttrib c = [c] := by rw [spAttrib, if_neg h1, if_neg h2, if_neg h3, if_neg h4, if_neg h5, if_neg h6, if_neg h7]
  have a4 : spAttribC c = [c] := by rw [spAttribC, if_neg h1, if_neg h2, if_neg h4, if_neg h7, if_neg h6, if_neg h5]
  have a5 : spHtml c = [c] := by rw [spHtml, if_neg h1, if_neg h3, if_neg h4]
  unfold sp1
  split
  · exact a1
  split
  · exact a2
  split
  · exact a3
  split
  · exact a4
  · exact a5
noncomputable def specs : List Nat := [38, 60, 62, 34, 13, 10, 9]
theorem spec_in {c : Nat} (hs : isSpec c) : c ∈ specs := by
  unfold specs
  unfold isSpec at hs
  simpa only [List.mem_cons, List.not_mem_nil, or_false] using hs
theorem five {n : Int} (h0 : 0 ≤ n) (h5 : n < 5) : ∃ k : Fin 5, n = (k.val : Int) := ⟨⟨n.toNat, by omega⟩, by simp; omega⟩
theorem sp1_count {n : Int} (h0 : 0 ≤ n) (h5 : n < 5) (c : Nat) : (sp1 n c).count 38 = if c ∈ (spelledS n).cps.toList then 1 else 0 := by
  rw [spelled_list n h0 h5]
  by_cases hs : isSpec c
  · have key : ∀ k : Fin 5, ∀ c ∈ specs, (sp1 (k.val : Int) c).count 38 = if c ∈ (if (k.val : Int) = 0 then [38, 60, 62] else if (k.val : Int) = 1 then [38, 60, 62, 13] else if (k.val : Int) = 2 then [38, 60, 62, 34, 13, 10, 9] else if (k.val : Int) = 3 then [38, 60, 34, 13, 10, 9] else [38, 62, 34]) then 1 else 0 := by decide
    obtain ⟨k, rfl⟩ := five h0 h5
    exact key k c (spec_in hs)
  · rw [sp1_plain hs]
    obtain ⟨h1, h2, h3, h4, h5, h6, h7⟩ := spec_free hs
    have e : ¬ (c ∈ (if n = 0 then [38, 60, 62] else if n = 1 then [38, 60, 62, 13] else if n = 2 then [38, 60, 62, 34, 13, 10, 9] else if n = 3 then [38, 60, 34, 13, 10, 9] else [38, 62, 34])) := by
      have key : ∀ l : List Nat, (∀ x ∈ l, x ∈ specs) → c ∉ l := fun l hl hc => by
        have := hl c hc
        simp only [specs, List.mem_cons, List.not_mem_nil, or_false] at this
        exact hs this
      split
      · exact key _ (by decide)
      split
      · exact key _ (by decide)
      split
      · exact key _ (by decide)
      split
      · exact key _ (by decide)
      · exact key _ (by decide)
    rw [if_neg e]
    simp [h1]
theorem count_filter {n : Int} (h0 : 0 ≤ n) (h5 : n < 5) : ∀ l : List Nat, (l.flatMap (sp1 n)).count 38 = (l.filter fun c => decide (c ∈ (spelledS n).cps.toList)).length
  | [] => rfl
  | c :: l => by
    rw [List.flatMap_cons, List.count_append, count_filter h0 h5 l, sp1_count h0 h5, List.filter_cons]
    by_cases h : c ∈ (spelledS n).cps.toList
    · rw [if_pos h, decide_eq_true h, if_pos rfl, List.length_cons]; omega
    · rw [if_neg h, decide_eq_false h]; simp
theorem paired_len {F : Value → Value → Prop} : ∀ {a b : List Value}, Paired F a b → a.length = b.length
  | _, _, .nil => rfl
  | _, _, .cons _ r => by simp [paired_len r]
theorem filter_signs {p : Value → Bool} {pc : Nat → Bool} (hp : ∀ c u, p (.str ⟨#[c]⟩ u) = pc c) : ∀ {vs : List Value} {l : List Nat}, vs.length = l.length →
    (∀ (j : Nat) (v : Value), vs[j]? = some v → ∃ (c : Nat) (u : Tok), l[j]? = some c ∧ v = Value.str ⟨#[c]⟩ u) → (vs.filter p).length = (l.filter pc).length
  | [], [], _, _ => rfl
  | [], _ :: _, h, _ => by cases h
  | _ :: _, [], h, _ => by cases h
  | v :: vs, c :: l, h, hv => by
    have ih := filter_signs hp (vs := vs) (l := l) (by simpa using h) (fun j v e => by simpa using hv (j + 1) v (by simpa using e))
    obtain ⟨c', u, h1, rfl⟩ := hv 0 v rfl
    have h1 : c = c' := by simpa using h1
    subst h1
    rw [List.filter_cons, List.filter_cons, hp]
    split <;> simp [ih]
theorem c_count {w : World} {A : Around} {s : Shared} {E : Value → Shared → Prop} {mg mb : Str → Option Value} {l : List Nat} {t u : Tok} {hand : Int}
    (B : Bs w mg mb s.heap) (hroom : A.depth + 10 < recursionLimit) (hA : A.handled = none) (hpos : 0 < s.toks) (h05 : 0 ≤ hand ∧ hand < 5) (hx : l.length ≤ 1000) :
    wpAny (model Challenge.rw_nb0384_02.row.prog w) A (call (.ref 68) [.int hand u, .str (tx l) t]) (fun v s' => Keeps s s' ∧ ∃ u, v = .int (((l.flatMap (sp1 hand)).count 38 : Nat) : Int) u) E s := by
  have B0 := B
  revert B0; obtain ⟨X, T⟩ := B; revert X; k_fill; intro X B
  walk_at "m_enterC"
  intro L h₁ tk cells F N Y hpos
  obtain ⟨o1, rfl, d1⟩ := CellsAre.one Y
  clear Y
  refine wpAny_execs_cons ?_
  refine wpAny_Assign_Name ?_
  refine Subscript_ ?_
  refine List_ ?_
  (iterate 5 (refine spliced_more ?_; refine Calls.Constant_str ?_; dsimp only))
  refine spliced_none ?_
  refine newList_K F N (fun D h2 F2 N2 hD => ?_)
  k_lt hD
  refine nameX_L F2 rfl ?_
  obtain ⟨bt, hbt⟩ := pick5_at h05.1 h05.2 (Str.ofString "&<>") (Str.ofString "&<>\x0d") (Str.ofString "&<>\"\x0d\n\t") (Str.ofString "&<\"\x0d\n\t") (Str.ofString "&>\"") tk (tk + 1) (tk + 1 + 1) (tk + 1 + 1 + 1) (tk + 1 + 1 + 1 + 1)
  refine item_litK (News.isList N2 (.head _)) h05.1 (by have := h05.2; omega) hbt ?_
  dsimp only
  refine storeX_C F2 N2 (c := L + 1) rfl (by k_updF) d1 (fun h3 o1' F3 N3 d1' => ?_)
  dsimp only at N3 ⊢
  refine wpAny_execs_cons ?_
  refine wpAny_Return_some ?_
  refine Call_ ?_
  refine bname (Fr.bs F3 B) (by k_is) (by boot_by_name) (by decide) ?_ rfl rfl rfl rfl (by decide)
  refine PyProof.Rows.callWith_builtin1 ?_
  refine spliced_more ?_
  refine evComp (fun v => match v with | .str x _ => !(Builtin.Str.occurrences (spelledS hand) x 0 (spelledS hand).length 1).isEmpty | _ => false) (fun _ _ => True) (cl := [(Str.ofString "spelled", L + 1)]) rfl (by decide) rfl (by decide) rfl hA (by dsimp only; omega) ?_
  refine nameX_L F3 rfl ?_
  refine Or.inr (Or.inr ⟨_, _, rfl, by rw [tx_len, sizeLine_eq]; omega, ⟨?_, ?_⟩, ?_⟩)
  · intro C i v s₃ m₃ E' hv hns hm hk ht hC
    obtain ⟨cc, u, _, rfl⟩ := hv
    refine wpAny_tests_one ?_
    refine wpAny_isTrue_Compare1 ?_
    refine wpAny_Name (wpAny_loadName_local rfl rfl hns hm ?_) (by decide)
    refine wpAny_Name (wpAny_loadName_cell rfl rfl (c := L + 1) rfl ⟨o1', hk _ _ (N3.get (by k_mem)), d1'⟩ ?_) (by decide)
    refine PyProof.Rows.in_str (wpAny_truthy_bool ?_)
    exact ⟨rfl, _, _, rfl, fun _ _ e => e⟩
  · intro C i v s₃ m₃ E' hv _ hns hm hk ht hC
    refine wpAny_Name (wpAny_loadName_local rfl rfl hns hm ?_) (by decide)
    exact ⟨trivial, _, _, rfl, fun _ _ e => e⟩
  intro D' h' tk' ys vs' hD' hpl hlen hP hF hk _
  have hyl := paired_len hF
  rw [filter_signs (pc := fun c => decide (c ∈ (spelledS hand).cps.toList)) (l := l) (fun c u => by dsimp only; rw [StrLaws.found_one]) (by simpa using hlen) (fun j v e => by simpa [SignAt] using hP j v e), ← count_filter h05.1 h05.2] at hyl
  have hle : ys.toList.length ≤ 1000 := by
    rw [← hyl, count_filter h05.1 h05.2]
    exact Nat.le_trans (List.length_filter_le _ _) hx
  refine spliced_none ?_
  obtain ⟨n, hn⟩ := hpl
  have hsz : ys.size = ys.toList.length := by simp
  refine PyProof.Rows.len_list ⟨_, hn, rfl, _, rfl⟩ (by omega) ?_
  rw [hyl, ← hsz]
  exact ⟨⟨_, _, rfl, fun b o e => hk b o (F3.keep b o e)⟩, _, rfl⟩

local macro_rules | `(tactic| walk_at "m_enter") => `(tactic| (
  (refine' enter (Bs.X (by assumption)) (TopRead.nolimit (Bs.T (by assumption))) ?k8 (by assumption) ?k6 ?k7 ?k9 ?kB ?c5 ?c2 ?c3 ?c4 ?_)
  (case k6 => k_is)
  (case k7 => k_is)
  (case k8 => first | assumption | omega)
  (case k9 => exact BindsTo.of_eq rfl)
  (case kB => exact locs rfl)
  (case c5 => decide)
  (case c2 => rfl)
  (case c3 => rfl)
  (case c4 => rfl)))
/-- signs below the surrogates -/
noncomputable def okL (l : List Nat) : Prop := ∀ c ∈ l, c < 55296
theorem okL_app {a b : List Nat} (ha : okL a) (hb : okL b) : okL (a ++ b) := fun c hc => (List.mem_append.mp hc).elim (ha c) (hb c)
theorem lit_ok {x : Str} (h : (x.cps.toList.all fun c => decide (c < 55296)) = true ∧ x.cps.toList.length ≤ 5) : ∃ l, x = tx l ∧ l.length ≤ 5 ∧ okL l :=
  ⟨_, (tx_list x).symm, h.2, fun c hc => by simpa using List.all_eq_true.mp h.1 c hc⟩
theorem c_piece {w : World} {A : Around} {s : Shared} {E : Value → Shared → Prop} {mg mb : Str → Option Value} {t : Tok} {q : Int}
    (B : Bs w mg mb s.heap) (hroom : A.depth + 10 < recursionLimit) (hA : A.handled = none) (hpos : 0 < s.toks) (hq : 0 ≤ q ∧ q < 10616832) :
    wpAny (model Challenge.rw_nb0384_02.row.prog w) A (call (.ref 75) [.int q t]) (fun v s' => Keeps s s' ∧ ∃ l u, v = .str (tx l) u ∧ l.length ≤ 15 ∧ okL l) E s := by
  have B0 := B
  revert B0; obtain ⟨X, T⟩ := B; revert X; k_fill; intro X B
  walk_at "m_enter"
  intro L h₁ tk F N hpos
  refine wpAny_execs_cons ?_
  refine wpAny_Assign_Name ?_
  refine List_ ?_
  (iterate 15 (refine spliced_more ?_; refine Calls.Constant_str ?_; dsimp only))
  refine spliced_none ?_
  refine newList_K F N (fun D h2 F2 N2 hD => ?_)
  dsimp only
  refine stN F2 N2 (fun h3 F3 N3 => ?_)
  dsimp only
  refine wpAny_execs_cons ?_
  refine wpAny_Expr_any ?_
  refine MethodCall_ ?_
  refine ld F3 rfl ?_
  refine getMethod_append_N N3 (.head _) ?_
  refine callWith_method1 ?_
  refine spliced_more ?_
  refine Call_ ?_
  refine bname (Fr.bs F3 B) (by k_is) (by boot_by_name) (by decide) ?_ rfl rfl rfl rfl (by decide)
  refine PyProof.Rows.callWith_builtin1 ?_
  refine spliced_more ?_
  refine wpAny_BinOp ?_
  refine wpAny_BinOp ?_
  refine ld F3 rfl ?_
  refine wpAny_Constant_int ?_
  refine floordiv_int (by decide) ?_ (Or.inl (PyProof.noPylong_small (by omega)))
  dsimp only
  refine wpAny_Constant_int ?_
  refine mod_int' (by decide) ?_
  refine spliced_none ?_
  dsimp only
  have hc0 : 0 ≤ (q.fdiv 192).fmod 55296 := Int.fmod_nonneg_of_pos _ (by decide)
  have hc1 : (q.fdiv 192).fmod 55296 < 55296 := Int.fmod_lt_of_pos _ (by decide)
  have hd0 : q.fdiv 192 = q / 192 := Int.fdiv_eq_ediv_of_nonneg _ (by decide)
  refine chr_of_range hc0 (by omega) ?_
  refine spliced_none ?_
  dsimp only
  refine append_K F3 N3 (Upd.head (fun _ h => nomatch h)) (fun h4 F4 N4 => ?_)
  dsimp only
  generalize hcc : ((q.fdiv 192).fmod 55296).toNat = cc at N4
  have hcl : cc < 55296 := by omega
  refine wpAny_execs_cons ?_
  refine wpAny_Return_some ?_
  refine wpAny_BinOp ?_
  refine wpAny_BinOp ?_
  refine Subscript_ ?_
  refine ld F4 rfl ?_
  refine wpAny_BinOp ?_
  refine ld F4 rfl ?_
  refine wpAny_Constant_int ?_
  refine mod_int' (by decide) ?_
  have hm0 : 0 ≤ q.fmod 16 := Int.fmod_nonneg_of_pos _ (by decide)
  have hm1 : q.fmod 16 < 16 := Int.fmod_lt_of_pos _ (by decide)
  have hn0 : 0 ≤ (q.fdiv 192 + 14).fmod 16 := Int.fmod_nonneg_of_pos _ (by decide)
  have hn1 : (q.fdiv 192 + 14).fmod 16 < 16 := Int.fmod_lt_of_pos _ (by decide)
  rw [List.push_toArray] at N4
  have hpick : ∀ k : Int, 0 ≤ k → k < 16 → ∃ items : List Value, h4.IsList D items.toArray ∧ ∃ l u, items[k.toNat]? = some (.str (tx l) u) ∧ l.length ≤ 5 ∧ okL l := by
    intro k hk0 hk1
    obtain ⟨v, hv, ⟨l, u, rfl, h1, h2⟩, hL⟩ := pick_of (k := k) (fun v => ∃ l u, v = Value.str (tx l) u ∧ l.length ≤ 5 ∧ okL l) (N4.get (.head _)) hk0 (by simp only [List.length_append, List.length_cons, List.length_nil]; omega) (by
      intro v hv
      simp only [List.mem_append, List.mem_cons, List.not_mem_nil, or_false] at hv
      have lit : ∀ (x : Str) (u : Tok), ((x.cps.toList.all fun c => decide (c < 55296)) = true ∧ x.cps.toList.length ≤ 5) → ∃ l u', Value.str x u = Value.str (tx l) u' ∧ l.length ≤ 5 ∧ okL l := by
        intro x u h
        obtain ⟨l, rfl, h1, h2⟩ := lit_ok h
        exact ⟨l, u, rfl, h1, h2⟩
      rcases hv with (rfl | rfl | rfl | rfl | rfl | rfl | rfl | rfl | rfl | rfl | rfl | rfl | rfl | rfl | rfl) | rfl
      (iterate 15 (exact lit _ _ (by decide +kernel)))
      exact ⟨[cc], _, rfl, by simp, by intro c hc; rw [List.mem_singleton.mp hc]; exact hcl⟩)
    exact ⟨_, hL, l, u, hv, h1, h2⟩
  obtain ⟨it1, hL1, l1, u1, hx1, hl1, ho1⟩ := hpick _ hm0 hm1
  obtain ⟨it2, hL2, l2, u2, hx2, hl2, ho2⟩ := hpick _ hn0 hn1
  clear hpick
  refine item_litK hL1 hm0 (by omega) hx1 ?_
  refine Subscript_ ?_
  refine ld F4 rfl ?_
  refine wpAny_BinOp ?_
  refine wpAny_BinOp ?_
  refine wpAny_BinOp ?_
  refine ld F4 rfl ?_
  refine wpAny_Constant_int ?_
  refine floordiv_int (by decide) ?_ (Or.inl (PyProof.noPylong_small (by omega)))
  dsimp only
  refine wpAny_Constant_int ?_
  refine add_int ?_
  dsimp only
  refine wpAny_Constant_int ?_
  refine mod_int' (by decide) ?_
  dsimp only
  refine item_litK hL2 hn0 (by omega) hx2 ?_
  refine PyProof.Rows.add_str (fun t5 k5 => ?_) (by rw [tx_len, tx_len, sizeLine_eq]; omega)
  dsimp only
  rw [tx_app]
  refine Subscript_ ?_
  refine ld F4 rfl ?_
  refine wpAny_BinOp ?_
  refine ld F4 rfl ?_
  refine wpAny_Constant_int ?_
  refine mod_int' (by decide) ?_
  dsimp only
  refine item_litK hL1 hm0 (by omega) hx1 ?_
  refine PyProof.Rows.add_str (fun t6 k6 => ?_) (by rw [tx_len, tx_len, sizeLine_eq, List.length_append]; omega)
  dsimp only
  rw [tx_app]
  exact ⟨⟨_, _, rfl, F4.keep⟩, _, _, rfl, by simp only [List.length_append]; omega, okL_app (okL_app ho1 ho2) ho1⟩
end Mine
end
section
open PySem PySem.W PyProof.Rows
set_option maxRecDepth 100000
set_option maxHeartbeats 8000000
namespace Mine
/-- a heap that keeps another's objects, but at D -/
noncomputable def Chg (D : List Addr) (h h' : Heap) : Prop := ∀ a o, a ∉ D → h.get? a = some o → h'.get? a = some o
theorem Chg.refl {D : List Addr} (h : Heap) : Chg D h h := fun _ _ _ e => e
theorem Chg.trans {D : List Addr} {h h' h'' : Heap} (x : Chg D h h') (y : Chg D h' h'') : Chg D h h'' := fun a o ha e => y a o ha (x a o ha e)
theorem Chg.mono {D D' : List Addr} {h h' : Heap} (x : Chg D h h') (hs : ∀ a ∈ D, a ∈ D') : Chg D' h h' := fun a o ha e => x a o (fun m => ha (hs a m)) e
theorem Chg.of {h h' : Heap} {a : Addr} (x : Heap.SameBut a h h') : Chg [a] h h' := fun b o hb e => (x.2 b (by simpa using hb)).trans e
theorem Chg.up {h h' : Heap} (x : ∀ b o, h.get? b = some o → h'.get? b = some o) : Chg [] h h' := fun b o _ e => x b o e

/-- v reads as d, whatever is done to M -/
noncomputable def Sr (M : List Addr) (h : Heap) (v : Value) (d : PyData) : Prop := ∀ h', Chg M h h' → ∃ as, Reads h' v d as
theorem Sr.reads {M : List Addr} {h : Heap} {v : Value} {d : PyData} (x : Sr M h v d) : ∃ as, Reads h v d as := x h (Chg.refl h)
theorem Sr.chg {M D : List Addr} {h h' : Heap} {v : Value} {d : PyData} (x : Sr M h v d) (hD : ∀ a ∈ D, a ∈ M) (c : Chg D h h') : Sr M h' v d := fun h'' c' => x h'' ((c.mono hD).trans c')
theorem Sr.mono {M M' : List Addr} {h : Heap} {v : Value} {d : PyData} (x : Sr M h v d) (hs : ∀ a ∈ M', a ∈ M) : Sr M' h v d := fun h' c => x h' (c.mono hs)
theorem Sr.grow {M N : List Addr} {h : Heap} {v : Value} {d : PyData} (x : Sr M h v d) (hs : ∀ a ∈ N, a ∈ M ∨ h.get? a = none) : Sr N h v d := fun h' c => x h' fun a o ha e => c a o (fun m => by
  rcases hs a m with q | q
  · exact ha q
  · rw [q] at e; cases e) e
theorem Sr.str {M : List Addr} {h : Heap} (x : Str) (t : Tok) : Sr M h (.str x t) (.str x) := fun _ _ => ⟨_, .str x t⟩
theorem Sr.all {M : List Addr} {h h' : Heap} (c : Chg M h h') : ∀ {vs : List Value} {ds : List PyData}, Paired (Sr M h) vs ds → ∃ as, ReadsAll h' vs ds as
  | _, _, .nil => ⟨_, .nil⟩
  | _, _, .cons x r => by
    obtain ⟨as, h1⟩ := x h' c
    obtain ⟨bs, h2⟩ := Sr.all c r
    exact ⟨_, .cons h1 h2⟩
theorem Sr.list {M : List Addr} {h : Heap} {a : Addr} {vs : List Value} {n : Nat} {ds : List PyData} (ha : h.get? a = some (listOf vs.toArray n)) (hm : a ∉ M) (p : Paired (Sr M h) vs ds) : Sr M h (.ref a) (.list ds) := by
  intro h' c
  obtain ⟨as, r⟩ := Sr.all c p
  exact ⟨_, .list (c a _ hm ha) rfl rfl (by simpa using r)⟩
theorem Sr.tuple {M : List Addr} {h : Heap} {a : Addr} {o : Obj} {vs : List Value} {n : Nat} {ds : List PyData} (ha : h.get? a = some o) (hc : o.cls = .type "tuple") (hd : o.data = .seq vs.toArray n) (hm : a ∉ M) (p : Paired (Sr M h) vs ds) : Sr M h (.ref a) (.tuple ds) := by
  intro h' c
  obtain ⟨as, r⟩ := Sr.all c p
  exact ⟨_, .tuple (c a _ hm ha) hc hd (by simpa using r)⟩
theorem Paired.imp {α β : Type} {F G : α → β → Prop} (h : ∀ a b, F a b → G a b) : ∀ {l : List α} {r : List β}, Paired F l r → Paired G l r
  | _, _, .nil => .nil
  | _, _, .cons x p => .cons (h _ _ x) (Paired.imp h p)
theorem Paired.len {α β : Type} {F : α → β → Prop} : ∀ {l : List α} {r : List β}, Paired F l r → l.length = r.length
  | _, _, .nil => rfl
  | _, _, .cons _ p => by simp [Paired.len p]

/-- an open element -/
structure Fm where
  N : Addr
  A : Addr
  K : Addr
  name : List Nat
  attrs : List (List Nat × List Nat)
  kids : List PyData
noncomputable def dAttr (p : List Nat × List Nat) : PyData := .tuple [.str (tx p.1), .str (tx p.2)]
noncomputable def dNode (name : List Nat) (attrs : List (List Nat × List Nat)) (kids : List PyData) : PyData := .list [.str (tx name), .list (attrs.map dAttr), .list kids]
noncomputable def Fm.d (f : Fm) : PyData := dNode f.name f.attrs f.kids

structure NodeAt (M : List Addr) (h : Heap) (f : Fm) (tl : List Value) : Prop where
  n : ∃ t c, h.get? f.N = some (listOf [.str (tx f.name) t, .ref f.A, .ref f.K].toArray c)
  nM : f.N ∉ M
  a : ∃ vs c, h.get? f.A = some (listOf vs.toArray c) ∧ Paired (Sr M h) vs (f.attrs.map dAttr)
  k : ∃ vs c, h.get? f.K = some (listOf (vs ++ tl).toArray c) ∧ Paired (Sr M h) vs f.kids
theorem NodeAt.chg {M D : List Addr} {h h' : Heap} {f : Fm} {tl : List Value} (x : NodeAt M h f tl) (hD : ∀ a ∈ D, a ∈ M) (c : Chg D h h') (hA : f.A ∉ D) (hK : f.K ∉ D) : NodeAt M h' f tl := by
  obtain ⟨⟨t, c1, n⟩, nM, ⟨va, c2, a, pa⟩, ⟨vk, c3, k, pk⟩⟩ := x
  exact ⟨⟨t, c1, c _ _ (fun m => nM (hD _ m)) n⟩, nM, ⟨va, c2, c _ _ hA a, Paired.imp (fun _ _ x => x.chg hD c) pa⟩, ⟨vk, c3, c _ _ hK k, Paired.imp (fun _ _ x => x.chg hD c) pk⟩⟩
theorem NodeAt.grow {M N : List Addr} {h : Heap} {f : Fm} {tl : List Value} (x : NodeAt M h f tl) (hs : ∀ a ∈ N, a ∈ M ∨ h.get? a = none) : NodeAt N h f tl := by
  obtain ⟨⟨t, c1, n⟩, nM, ⟨va, c2, a, pa⟩, ⟨vk, c3, k, pk⟩⟩ := x
  refine ⟨⟨t, c1, n⟩, ?_, ⟨va, c2, a, Paired.imp (fun _ _ x => x.grow hs) pa⟩, ⟨vk, c3, k, Paired.imp (fun _ _ x => x.grow hs) pk⟩⟩
  intro m
  rcases hs _ m with q | q
  · exact nM q
  · rw [q] at n; cases n
noncomputable def Hang (M : List Addr) (h : Heap) : List Fm → List Value → Prop
  | [], _ => True
  | f :: r, tl => NodeAt M h f tl ∧ Hang M h r [.ref f.N]
noncomputable def muts : List Fm → List Addr
  | [] => []
  | f :: r => f.A :: f.K :: muts r
theorem Hang.chg {M D : List Addr} {h h' : Heap} (hD : ∀ a ∈ D, a ∈ M) (c : Chg D h h') : ∀ {fs : List Fm} {tl : List Value}, Hang M h fs tl → (∀ a ∈ D, a ∉ muts fs) → Hang M h' fs tl
  | [], _, _, _ => trivial
  | f :: r, _, x, hm => ⟨x.1.chg hD c (fun m => hm _ m (.head _)) (fun m => hm _ m (.tail _ (.head _))), Hang.chg hD c x.2 fun a ha m => hm a ha (.tail _ (.tail _ m))⟩
theorem Hang.grow {M N : List Addr} {h : Heap} (hs : ∀ a ∈ N, a ∈ M ∨ h.get? a = none) : ∀ {fs : List Fm} {tl : List Value}, Hang M h fs tl → Hang N h fs tl
  | [], _, _ => trivial
  | _ :: _, _, x => ⟨x.1.grow hs, Hang.grow hs x.2⟩
theorem Hang.lt {M : List Addr} {h : Heap} : ∀ {fs : List Fm} {tl : List Value}, Hang M h fs tl → ∀ a ∈ muts fs, ∃ o, h.get? a = some o
  | [], _, _, _, m => nomatch m
  | f :: r, _, x, a, m => by
    obtain ⟨⟨_, _, ⟨va, c2, ha, pa⟩, ⟨vk, c3, hk, pk⟩⟩, y⟩ := x
    rcases List.mem_cons.mp m with rfl | m
    · exact ⟨_, ha⟩
    rcases List.mem_cons.mp m with rfl | m
    · exact ⟨_, hk⟩
    · exact Hang.lt y a m

/-- the state of one who builds: a ledger, and the open elements, the newest first -/
noncomputable abbrev allM (L : Addr) (led : List (Addr × Obj)) (fs : List Fm) : List Addr := L :: (led.map (·.1) ++ muts fs)
structure Zs (h₀ : Heap) (L : Addr) (h : Heap) (led : List (Addr × Obj)) (fs : List Fm) : Prop where
  hled : ∀ p ∈ led, h.get? p.1 = some p.2
  lnew : ∀ p ∈ led, h₀.get? p.1 = none
  mnew : ∀ a ∈ muts fs, h₀.get? a = none
  nd : (allM L led fs).Nodup
  hang : Hang (allM L led fs) h fs []
section
variable {h₀ h h' : Heap} {L : Addr} {led : List (Addr × Obj)} {fs r : List Fm} {f : Fm} {m : Str → Option Value}
theorem Zs.up (Z : Zs h₀ L h led fs) (c : Chg [] h h') : Zs h₀ L h' led fs :=
  ⟨fun p hp => c _ _ (by simp) (Z.hled p hp), Z.lnew, Z.mnew, Z.nd, Z.hang.chg (by simp) c (by simp)⟩
theorem Zs.loc (Z : Zs h₀ L h led fs) (c : Chg [L] h h') : Zs h₀ L h' led fs := by
  have nd := List.nodup_cons.mp Z.nd
  refine ⟨fun p hp => c _ _ ?_ (Z.hled p hp), Z.lnew, Z.mnew, Z.nd, Z.hang.chg ?_ c ?_⟩
  · intro q
    exact nd.1 (List.mem_append.mpr (.inl (List.mem_singleton.mp q ▸ List.mem_map_of_mem hp)))
  · intro a ha; rw [List.mem_singleton.mp ha]; exact .head _
  · intro a ha q; rw [List.mem_singleton.mp ha] at q; exact nd.1 (List.mem_append.mpr (.inr q))
theorem Zs.ledL (Z : Zs h₀ L h led fs) : ∀ p ∈ led, p.1 ≠ L := by
  intro p hp e
  exact (List.nodup_cons.mp Z.nd).1 (List.mem_append.mpr (.inl (e ▸ List.mem_map_of_mem hp)))
theorem Zs.mutL (Z : Zs h₀ L h led fs) : ∀ a ∈ muts fs, a ≠ L := by
  intro a ha e
  exact (List.nodup_cons.mp Z.nd).1 (List.mem_append.mpr (.inr (e ▸ ha)))
theorem Zs.ledm (Z : Zs h₀ L h led fs) : ∀ p ∈ led, ∀ a ∈ muts fs, p.1 ≠ a := by
  intro p hp a ha e
  exact (List.nodup_append.mp (List.nodup_cons.mp Z.nd).2).2.2 _ (List.mem_map_of_mem hp) a ha e
/-- one of the ledger's objects is changed -/
theorem Zs.set {pre post : List (Addr × Obj)} {a : Addr} {o o' : Obj} (Z : Zs h₀ L h (pre ++ (a, o) :: post) fs) (c : Chg [a] h h') (ho : h'.get? a = some o') : Zs h₀ L h' (pre ++ (a, o') :: post) fs := by
  have e : ((pre ++ (a, o') :: post).map (·.1)) = ((pre ++ (a, o) :: post).map (·.1)) := by simp
  have nd2 := (List.nodup_append.mp (List.nodup_cons.mp Z.nd).2).1
  rw [List.map_append, List.map_cons] at nd2
  have nd3 := List.nodup_append.mp nd2
  have nd4 := List.nodup_cons.mp nd3.2.1
  have e' : allM L (pre ++ (a, o') :: post) fs = allM L (pre ++ (a, o) :: post) fs := by unfold allM; rw [e]
  refine ⟨?_, ?_, Z.mnew, e' ▸ Z.nd, e' ▸ Z.hang.chg ?_ c ?_⟩
  · intro p hp
    rcases List.mem_append.mp hp with hp | hp
    · refine c _ _ ?_ (Z.hled p (List.mem_append.mpr (.inl hp)))
      intro q
      exact nd3.2.2 _ (List.mem_map_of_mem hp) a (.head _) (List.mem_singleton.mp q)
    · rcases List.mem_cons.mp hp with rfl | hp
      · exact ho
      · refine c _ _ ?_ (Z.hled p (List.mem_append.mpr (.inr (.tail _ hp))))
        intro q
        have hm : p.1 ∈ post.map (·.1) := List.mem_map_of_mem hp
        rw [List.mem_singleton.mp q] at hm
        exact nd4.1 hm
  · intro p hp
    rcases List.mem_append.mp hp with hp | hp
    · exact Z.lnew p (List.mem_append.mpr (.inl hp))
    · rcases List.mem_cons.mp hp with rfl | hp
      · exact Z.lnew (a, o) (List.mem_append.mpr (.inr (.head _)))
      · exact Z.lnew p (List.mem_append.mpr (.inr (.tail _ hp)))
  · intro b hb
    rw [List.mem_singleton.mp hb]
    exact .tail _ (List.mem_append.mpr (.inl (by simp)))
  · intro b hb q
    rw [List.mem_singleton.mp hb] at q
    exact Z.ledm (a, o) (List.mem_append.mpr (.inr (.head _))) a q rfl
/-- the ledger's first is let go -/
theorem Zs.forget {a : Addr} {o : Obj} (Z : Zs h₀ L h ((a, o) :: led) fs) (c : Chg [a] h h') : Zs h₀ L h' led fs := by
  have nd := List.nodup_cons.mp Z.nd
  have nd2 := List.nodup_cons.mp (show (a :: (led.map (·.1) ++ muts fs)).Nodup from nd.2)
  refine ⟨?_, fun p hp => Z.lnew p (.tail _ hp), Z.mnew, ?_, ?_⟩
  · intro p hp
    refine c _ _ ?_ (Z.hled p (.tail _ hp))
    intro q
    exact nd2.1 (List.mem_append.mpr (.inl (List.mem_singleton.mp q ▸ List.mem_map_of_mem hp)))
  · refine List.nodup_cons.mpr ⟨fun q => nd.1 (.tail _ q), nd2.2⟩
  · refine Hang.grow (M := allM L ((a, o) :: led) fs) ?_ (Z.hang.chg ?_ c ?_)
    · intro b hb
      refine .inl ?_
      rcases List.mem_cons.mp hb with rfl | hb
      · exact .head _
      · exact .tail _ (.tail _ hb)
    · intro b hb
      rw [List.mem_singleton.mp hb]
      exact .tail _ (.head _)
    · intro b hb q
      rw [List.mem_singleton.mp hb] at q
      exact nd2.1 (List.mem_append.mpr (.inr q))
/-- a new object for the ledger -/
theorem Zs.note {a : Addr} {o : Obj} (Z : Zs h₀ L h led fs) (F : Fr h₀ L h m) (ha : h.get? a = none) (c : Chg [] h h') (ho : h'.get? a = some o) : Zs h₀ L h' ((a, o) :: led) fs := by
  have hmem : ∀ b, (∃ o, h.get? b = some o) → b ≠ a := by
    rintro b ⟨o, e⟩ rfl
    rw [ha] at e; cases e
  have Z' := Z.up c
  have hL : L ≠ a := by
    obtain ⟨oL, _, _, hL, _⟩ := F.ns
    exact hmem L ⟨_, hL⟩
  refine ⟨?_, ?_, Z.mnew, ?_, ?_⟩
  · intro p hp
    rcases List.mem_cons.mp hp with rfl | hp
    · exact ho
    · exact Z'.hled p hp
  · intro p hp
    rcases List.mem_cons.mp hp with rfl | hp
    · show h₀.get? a = none
      cases e : h₀.get? a with
      | none => rfl
      | some o' => have := F.keep _ _ e; rw [ha] at this; cases this
    · exact Z.lnew p hp
  · have nd := List.nodup_cons.mp Z.nd
    refine List.nodup_cons.mpr ⟨?_, List.nodup_cons.mpr ⟨?_, nd.2⟩⟩
    · intro q
      rcases List.mem_cons.mp q with q | q
      · exact hL q
      · exact nd.1 q
    · intro q
      rcases List.mem_append.mp q with q | q
      · obtain ⟨p, hp, e⟩ := List.mem_map.mp q
        exact hmem p.1 ⟨_, Z.hled p hp⟩ e
      · exact hmem a (Z.hang.lt a q) rfl
  · have Hh : Hang (allM L ((a, o) :: led) fs) h fs [] := Hang.grow (M := allM L led fs) (by
      intro b hb
      rcases List.mem_cons.mp hb with rfl | hb
      · exact .inl (.head _)
      · rcases List.mem_cons.mp hb with rfl | hb
        · exact .inr ha
        · exact .inl (.tail _ hb)) Z.hang
    exact Hh.chg (by simp) c (by simp)
/-- a change at one place that is the newest element's -/
theorem Zs.fr (F : Fr h₀ L h m) {a : Addr} (hL : a ≠ L) (hn : h₀.get? a = none) (c : Chg [a] h h') : Fr h₀ L h' m := Fr.off F (fun b o hb e => c b o hb e) (Ne.symm hL) hn
theorem Zs.frLed (F : Fr h₀ L h m) (Z : Zs h₀ L h led fs) {p : Addr × Obj} (hp : p ∈ led) (c : Chg [p.1] h h') : Fr h₀ L h' m := Zs.fr F (Z.ledL p hp) (Z.lnew p hp) c
/-- a kid more -/
theorem Zs.kid (Z : Zs h₀ L h led (f :: r)) {vs : List Value} {n n' : Nat} {v : Value} {d : PyData} {k2 : List PyData} (hk : h'.get? f.K = some (listOf (vs ++ [v]).toArray n')) (c : Chg [f.K] h h') (p : Paired (Sr (allM L led (f :: r)) h) vs k2) (hv : Sr (allM L led (f :: r)) h v d) :
    Zs h₀ L h' led ({ f with kids := k2 ++ [d] } :: r) := by
  have hin : ∀ a ∈ [f.K], a ∈ allM L led (f :: r) := by
    intro a ha; rw [List.mem_singleton.mp ha]; exact .tail _ (List.mem_append.mpr (.inr (.tail _ (.head _))))
  have nd := (List.nodup_append.mp (List.nodup_cons.mp Z.nd).2).2.1
  have ndA := List.nodup_cons.mp nd
  have ndK := List.nodup_cons.mp ndA.2
  obtain ⟨x, y⟩ := Z.hang
  refine ⟨fun q hq => c _ _ (fun e => Z.ledm q hq f.K (.tail _ (.head _)) (List.mem_singleton.mp e)) (Z.hled q hq), Z.lnew, Z.mnew, Z.nd, ⟨?_, ?_⟩⟩
  · obtain ⟨⟨t, c1, e1⟩, nM, ⟨va, c2, a, pa⟩, _⟩ := x
    refine ⟨⟨t, c1, c _ _ (fun m => nM (hin _ m)) e1⟩, nM, ⟨va, c2, c _ _ (fun e => ndA.1 (List.mem_singleton.mp e ▸ .head _)) a, Paired.imp (fun _ _ x => x.chg hin c) pa⟩, ⟨vs ++ [v], n', ?_, ?_⟩⟩
    · simpa using hk
    · exact Paired.snoc (Paired.imp (fun _ _ x => x.chg hin c) p) (hv.chg hin c)
  · exact Hang.chg hin c y fun a ha q => ndK.1 (List.mem_singleton.mp ha ▸ q)
theorem Zs.kidsSet (Z : Zs h₀ L h led (f :: r)) {vs : List Value} {n' : Nat} {k2 : List PyData} (hk : h'.get? f.K = some (listOf vs.toArray n')) (c : Chg [f.K] h h') (p : Paired (Sr (allM L led (f :: r)) h) vs k2) :
    Zs h₀ L h' led ({ f with kids := k2 } :: r) := by
  have hin : ∀ a ∈ [f.K], a ∈ allM L led (f :: r) := by
    intro a ha; rw [List.mem_singleton.mp ha]; exact .tail _ (List.mem_append.mpr (.inr (.tail _ (.head _))))
  have nd := (List.nodup_append.mp (List.nodup_cons.mp Z.nd).2).2.1
  have ndA := List.nodup_cons.mp nd
  have ndK := List.nodup_cons.mp ndA.2
  obtain ⟨x, y⟩ := Z.hang
  refine ⟨fun q hq => c _ _ (fun e => Z.ledm q hq f.K (.tail _ (.head _)) (List.mem_singleton.mp e)) (Z.hled q hq), Z.lnew, Z.mnew, Z.nd, ⟨?_, ?_⟩⟩
  · obtain ⟨⟨t, c1, e1⟩, nM, ⟨va, c2, a, pa⟩, _⟩ := x
    refine ⟨⟨t, c1, c _ _ (fun m => nM (hin _ m)) e1⟩, nM, ⟨va, c2, c _ _ (fun e => ndA.1 (List.mem_singleton.mp e ▸ .head _)) a, Paired.imp (fun _ _ x => x.chg hin c) pa⟩, ⟨vs, n', ?_, ?_⟩⟩
    · simpa using hk
    · exact Paired.imp (fun _ _ x => x.chg hin c) p
  · exact Hang.chg hin c y fun a ha q => ndK.1 (List.mem_singleton.mp ha ▸ q)
/-- an attribute more -/
theorem Zs.attr (Z : Zs h₀ L h led (f :: r)) {vs : List Value} {n' : Nat} {a2 : List (List Nat × List Nat)} (hk : h'.get? f.A = some (listOf vs.toArray n')) (c : Chg [f.A] h h') (p : Paired (Sr (allM L led (f :: r)) h) vs (a2.map dAttr)) :
    Zs h₀ L h' led ({ f with attrs := a2 } :: r) := by
  have hin : ∀ a ∈ [f.A], a ∈ allM L led (f :: r) := by
    intro a ha; rw [List.mem_singleton.mp ha]; exact .tail _ (List.mem_append.mpr (.inr (.head _)))
  have nd := (List.nodup_append.mp (List.nodup_cons.mp Z.nd).2).2.1
  have ndA := List.nodup_cons.mp nd
  obtain ⟨x, y⟩ := Z.hang
  refine ⟨fun q hq => c _ _ (fun e => Z.ledm q hq f.A (.head _) (List.mem_singleton.mp e)) (Z.hled q hq), Z.lnew, Z.mnew, Z.nd, ⟨?_, ?_⟩⟩
  · obtain ⟨⟨t, c1, e1⟩, nM, _, ⟨vk, c3, k, pk⟩⟩ := x
    refine ⟨⟨t, c1, c _ _ (fun m => nM (hin _ m)) e1⟩, nM, ⟨vs, n', hk, Paired.imp (fun _ _ x => x.chg hin c) p⟩, ⟨vk, c3, c _ _ (fun e => ndA.1 (List.mem_singleton.mp e ▸ .head _)) k, Paired.imp (fun _ _ x => x.chg hin c) pk⟩⟩
  · exact Hang.chg hin c y fun a ha q => ndA.1 (List.mem_singleton.mp ha ▸ .tail _ q)
/-- the newest element is ended -/
theorem Zs.close {g : Fm} (Z : Zs h₀ L h led (f :: g :: r)) : Zs h₀ L h led ({ g with kids := g.kids ++ [f.d] } :: r) := by
  have nd := (List.nodup_cons.mp Z.nd)
  have nda := List.nodup_append.mp nd.2
  have ndm := nda.2.1
  have ndA := List.nodup_cons.mp ndm
  have ndK := List.nodup_cons.mp ndA.2
  have hsub : ∀ a ∈ allM L led (g :: r), a ∈ allM L led (f :: g :: r) := by
    intro a ha
    rcases List.mem_cons.mp ha with rfl | ha
    · exact .head _
    · rcases List.mem_append.mp ha with ha | ha
      · exact .tail _ (List.mem_append.mpr (.inl ha))
      · exact .tail _ (List.mem_append.mpr (.inr (.tail _ (.tail _ ha))))
  have hnA : f.A ∉ allM L led (g :: r) := by
    intro q
    rcases List.mem_cons.mp q with q | q
    · exact nd.1 (List.mem_append.mpr (.inr (q ▸ .head _)))
    · rcases List.mem_append.mp q with q | q
      · exact nda.2.2 _ q _ (.head _) rfl
      · exact ndA.1 (.tail _ q)
  have hnK : f.K ∉ allM L led (g :: r) := by
    intro q
    rcases List.mem_cons.mp q with q | q
    · exact nd.1 (List.mem_append.mpr (.inr (q ▸ .tail _ (.head _))))
    · rcases List.mem_append.mp q with q | q
      · exact nda.2.2 _ q _ (.tail _ (.head _)) rfl
      · exact ndK.1 q
  obtain ⟨⟨⟨t, c1, e1⟩, nM, ⟨va, c2, a, pa⟩, ⟨vk, c3, k, pk⟩⟩, y1, y2⟩ := Z.hang
  refine ⟨Z.hled, Z.lnew, fun a ha => Z.mnew a (.tail _ (.tail _ ha)), ?_, ?_⟩
  · refine List.nodup_cons.mpr ⟨?_, ?_⟩
    · intro q
      refine nd.1 ?_
      rcases List.mem_append.mp q with q | q
      · exact List.mem_append.mpr (.inl q)
      · exact List.mem_append.mpr (.inr (.tail _ (.tail _ q)))
    · refine List.nodup_append.mpr ⟨nda.1, ndK.2, ?_⟩
      intro x hx z hz
      exact nda.2.2 x hx z (.tail _ (.tail _ hz))
  · have g1 := y1.grow (N := allM L led (g :: r)) fun a ha => .inl (hsub a ha)
    have g2 := Hang.grow (N := allM L led (g :: r)) (fun a ha => .inl (hsub a ha)) y2
    obtain ⟨⟨t', c1', e1'⟩, nM', ⟨va', c2', a', pa'⟩, ⟨vk', c3', k', pk'⟩⟩ := g1
    refine ⟨⟨⟨t', c1', e1'⟩, nM', ⟨va', c2', a', pa'⟩, ⟨vk' ++ [.ref f.N], c3', by simpa using k', Paired.snoc pk' ?_⟩⟩, g2⟩
    refine Sr.list e1 (fun q => nM (hsub _ q)) (.cons (Sr.str _ _) (.cons ?_ (.cons ?_ .nil)))
    · exact Sr.list a hnA (Paired.imp (fun _ _ x => x.mono hsub) pa)
    · exact Sr.list (by simpa using k) hnK (Paired.imp (fun _ _ x => x.mono hsub) pk)
/-- a new element, hung behind the newest one's kids -/
theorem Zs.open {N A K : Addr} {t : Tok} {c0 c1 c2 n n' : Nat} {vs : List Value} {name : List Nat} {h1 : Heap} (Z : Zs h₀ L h led (f :: r)) (F : Fr h₀ L h m)
    (hA : h.get? A = none) (hK : h.get? K = none) (hN : h.get? N = none) (nAK : A ≠ K) (nAN : N ≠ A) (nKN : N ≠ K) (c : Chg [L] h h1)
    (oA : h1.get? A = some (listOf ([] : List Value).toArray c0)) (oK : h1.get? K = some (listOf ([] : List Value).toArray c1)) (oN : h1.get? N = some (listOf [Value.str (tx name) t, .ref A, .ref K].toArray c2))
    (ok : h.get? f.K = some (listOf vs.toArray n)) (p : Paired (Sr (allM L led (f :: r)) h) vs f.kids) (ch : Chg [f.K] h1 h') (ok' : h'.get? f.K = some (listOf (vs ++ [Value.ref N]).toArray n')) :
    Zs h₀ L h' led (⟨N, A, K, name, [], []⟩ :: f :: r) := by
  have hmem : ∀ {a : Addr}, h.get? a = none → ∀ b, (∃ o, h.get? b = some o) → b ≠ a := by
    rintro a ha b ⟨o, e⟩ rfl
    rw [ha] at e; cases e
  have hL : ∃ o, h.get? L = some o := by
    obtain ⟨oL, _, _, hL, _⟩ := F.ns
    exact ⟨_, hL⟩
  have allin : ∀ b ∈ allM L led (f :: r), ∃ o, h.get? b = some o := by
    intro b hb
    rcases List.mem_cons.mp hb with rfl | hb
    · exact hL
    · rcases List.mem_append.mp hb with hb | hb
      · obtain ⟨q, hq, rfl⟩ := List.mem_map.mp hb
        exact ⟨_, Z.hled q hq⟩
      · exact Z.hang.lt b hb
  have none0 : ∀ {a : Addr}, h.get? a = none → h₀.get? a = none := by
    intro a ha
    cases e : h₀.get? a with
    | none => rfl
    | some o' => have := F.keep _ _ e; rw [ha] at this; cases this
  have nd := List.nodup_cons.mp Z.nd
  have nda := List.nodup_append.mp nd.2
  have hgrow : ∀ a ∈ allM L led (⟨N, A, K, name, [], []⟩ :: f :: r), a ∈ allM L led (f :: r) ∨ h.get? a = none := by
    intro a ha
    rcases List.mem_cons.mp ha with rfl | ha
    · exact .inl (.head _)
    · rcases List.mem_append.mp ha with ha | ha
      · exact .inl (.tail _ (List.mem_append.mpr (.inl ha)))
      · rcases List.mem_cons.mp ha with rfl | ha
        · exact .inr hA
        · rcases List.mem_cons.mp ha with rfl | ha
          · exact .inr hK
          · exact .inl (.tail _ (List.mem_append.mpr (.inr ha)))
  have hup : ∀ a ∈ allM L led (f :: r), a ∈ allM L led (⟨N, A, K, name, [], []⟩ :: f :: r) := by
    intro a ha
    rcases List.mem_cons.mp ha with rfl | ha
    · exact .head _
    · rcases List.mem_append.mp ha with ha | ha
      · exact .tail _ (List.mem_append.mpr (.inl ha))
      · exact .tail _ (List.mem_append.mpr (.inr (.tail _ (.tail _ ha))))
  have fKin : f.K ∈ allM L led (f :: r) := .tail _ (List.mem_append.mpr (.inr (.tail _ (.head _))))
  have nN : N ∉ allM L led (⟨N, A, K, name, [], []⟩ :: f :: r) := by
    intro q
    rcases List.mem_cons.mp q with q | q
    · exact hmem hN L hL q.symm
    · rcases List.mem_append.mp q with q | q
      · exact hmem hN N (allin N (.tail _ (List.mem_append.mpr (.inl q)))) rfl
      · rcases List.mem_cons.mp q with q | q
        · exact nAN q
        · rcases List.mem_cons.mp q with q | q
          · exact nKN q
          · exact hmem hN N (allin N (.tail _ (List.mem_append.mpr (.inr q)))) rfl
  have hfK : ∀ a, h.get? a = none → a ∉ [f.K] := by
    intro a ha q
    exact hmem ha f.K (allin _ fKin) (List.mem_singleton.mp q).symm
  have ndf := List.nodup_cons.mp nda.2.1
  have ndfK := List.nodup_cons.mp ndf.2
  have hinK : ∀ a ∈ [f.K], a ∈ allM L led (⟨N, A, K, name, [], []⟩ :: f :: r) := fun a ha => hup a (List.mem_singleton.mp ha ▸ fKin)
  obtain ⟨x1, x2⟩ := Z.hang
  refine ⟨?_, Z.lnew, ?_, ?_, ?_⟩
  · intro q hq
    refine ch _ _ (fun e => Z.ledm q hq f.K (.tail _ (.head _)) (List.mem_singleton.mp e)) (c _ _ (by simpa using Z.ledL q hq) (Z.hled q hq))
  · intro a ha
    rcases List.mem_cons.mp ha with rfl | ha
    · exact none0 hA
    · rcases List.mem_cons.mp ha with rfl | ha
      · exact none0 hK
      · exact Z.mnew a ha
  · refine List.nodup_cons.mpr ⟨?_, List.nodup_append.mpr ⟨nda.1, List.nodup_cons.mpr ⟨?_, List.nodup_cons.mpr ⟨?_, nda.2.1⟩⟩, ?_⟩⟩
    · intro q
      rcases List.mem_append.mp q with q | q
      · exact nd.1 (List.mem_append.mpr (.inl q))
      · rcases List.mem_cons.mp q with q | q
        · exact hmem hA L hL q
        · rcases List.mem_cons.mp q with q | q
          · exact hmem hK L hL q
          · exact nd.1 (List.mem_append.mpr (.inr q))
    · intro q
      rcases List.mem_cons.mp q with q | q
      · exact nAK q
      · exact hmem hA A (Z.hang.lt A q) rfl
    · intro q
      exact hmem hK K (Z.hang.lt K q) rfl
    · intro x hx z hz
      rcases List.mem_cons.mp hz with rfl | hz
      · exact hmem hA x (allin x (.tail _ (List.mem_append.mpr (.inl hx))))
      · rcases List.mem_cons.mp hz with rfl | hz
        · exact hmem hK x (allin x (.tail _ (List.mem_append.mpr (.inl hx))))
        · exact nda.2.2 x hx z hz
  · refine ⟨⟨⟨t, c2, ch _ _ (hfK N hN) oN⟩, nN, ⟨[], c0, ch _ _ (hfK A hA) oA, .nil⟩, ⟨[], c1, ch _ _ (hfK K hK) oK, .nil⟩⟩, ?_, ?_⟩
    · have y1 := x1.grow hgrow
      obtain ⟨⟨t', c1', e1'⟩, nM', ⟨va', c2', a', pa'⟩, _⟩ := y1
      have up1 : ∀ a ∈ [L], a ∈ allM L led (⟨N, A, K, name, [], []⟩ :: f :: r) := by
        intro a ha; rw [List.mem_singleton.mp ha]; exact .head _
      have nfL : f.N ∉ [L] := fun q => nM' (up1 _ q)
      have nfA : f.A ∉ [L] := fun q => Z.mutL f.A (.head _) (List.mem_singleton.mp q)
      refine ⟨⟨t', c1', ch _ _ (fun m => nM' (hinK _ m)) (c _ _ nfL e1')⟩, nM', ⟨va', c2', ch _ _ (fun e => ndf.1 (List.mem_singleton.mp e ▸ .head _)) (c _ _ nfA a'), Paired.imp (fun _ _ x => (x.chg up1 c).chg hinK ch) pa'⟩, ⟨vs, n', ok', ?_⟩⟩
      exact Paired.imp (fun _ _ x => ((x.grow hgrow).chg up1 c).chg hinK ch) p
    · exact Hang.chg hinK ch (Hang.chg (by intro a ha; rw [List.mem_singleton.mp ha]; exact .head _) c (Hang.grow hgrow x2) (fun a ha q => Z.mutL a (.tail _ (.tail _ q)) (List.mem_singleton.mp ha))) fun a ha q => ndfK.1 (List.mem_singleton.mp ha ▸ q)
theorem Zs.allin (Z : Zs h₀ L h led fs) (F : Fr h₀ L h m) : ∀ b ∈ allM L led fs, ∃ o, h.get? b = some o := by
  intro b hb
  rcases List.mem_cons.mp hb with rfl | hb
  · obtain ⟨oL, _, _, hL, _⟩ := F.ns
    exact ⟨_, hL⟩
  · rcases List.mem_append.mp hb with hb | hb
    · obtain ⟨q, hq, rfl⟩ := List.mem_map.mp hb
      exact ⟨_, Z.hled q hq⟩
    · exact Z.hang.lt b hb
theorem Zs.fresh (Z : Zs h₀ L h led fs) (F : Fr h₀ L h m) {a : Addr} (ha : h.get? a = none) : a ∉ allM L led fs := by
  intro q
  obtain ⟨o, e⟩ := Z.allin F a q
  rw [ha] at e; cases e
end
end Mine
end
section
open PySem PySem.W PyProof.Rows
set_option maxRecDepth 100000
set_option maxHeartbeats 8000000
namespace Mine
/-- the ten references -/
noncomputable def codes : List (List Nat × Nat) := [(amp, 38), (lt, 60), (gt, 62), (quot, 34), (r13, 13), (r10, 10), (r09, 9), (rxD, 13), (rxA, 10), (rx9, 9)]
noncomputable def CodeOk (p : List Nat × Nat) : Prop := (p.1 = [p.2] ∧ p.2 ≠ 38) ∨ p ∈ codes
theorem codes_pre : ∀ p ∈ codes, ∀ q ∈ codes, p.1 <+: q.1 → p = q := by decide
theorem codes_head : ∀ p ∈ codes, ∃ r, p.1 = 38 :: r ∧ p.1.length ≤ 6 := by
  intro p hp
  simp only [codes, List.mem_cons, List.not_mem_nil, or_false] at hp
  rcases hp with rfl | rfl | rfl | rfl | rfl | rfl | rfl | rfl | rfl | rfl <;> exact ⟨_, rfl, by decide⟩
theorem codes_take {p q : List Nat × Nat} (hp : p ∈ codes) (hq : q ∈ codes) (rest : List Nat) (h : (p.1 ++ rest).take q.1.length = q.1) : p = q := by
  have h1 : q.1 <+: p.1 ++ rest := h ▸ List.take_prefix _ _
  have h2 : p.1 <+: p.1 ++ rest := List.prefix_append _ _
  rcases List.prefix_or_prefix_of_prefix h1 h2 with h3 | h3
  · exact (codes_pre q hq p hp h3).symm
  · exact codes_pre p hp q hq h3
theorem codes_nodup : ∀ i j : Fin 10, codes[i.val]? = codes[j.val]? → i = j := by decide
theorem sp1_ok {n : Int} (h0 : 0 ≤ n) (h5 : n < 5) (c : Nat) : CodeOk (sp1 n c, c) := by
  by_cases hs : isSpec c
  · rcases (by omega : n = 0 ∨ n = 1 ∨ n = 2 ∨ n = 3 ∨ n = 4) with rfl | rfl | rfl | rfl | rfl
    all_goals rcases hs with rfl | rfl | rfl | rfl | rfl | rfl | rfl
    all_goals first | exact Or.inr (by decide) | exact Or.inl (by decide)
  · refine Or.inl ⟨sp1_plain hs, ?_⟩
    rintro rfl
    exact hs (Or.inl rfl)
noncomputable def coded (n : Int) (l : List Nat) : List (List Nat × Nat) := l.map fun c => (sp1 n c, c)
noncomputable def spell (cs : List (List Nat × Nat)) : List Nat := cs.flatMap (·.1)
noncomputable def signs (cs : List (List Nat × Nat)) : List Nat := cs.map (·.2)
theorem coded_ok {n : Int} (h0 : 0 ≤ n) (h5 : n < 5) (l : List Nat) : ∀ p ∈ coded n l, CodeOk p := by
  intro p hp
  obtain ⟨c, _, rfl⟩ := List.mem_map.mp hp
  exact sp1_ok h0 h5 c
theorem coded_spell (n : Int) (l : List Nat) : spell (coded n l) = l.flatMap (sp1 n) := by
  unfold spell coded; rw [List.flatMap_map]
theorem coded_signs (n : Int) (l : List Nat) : signs (coded n l) = l := by
  unfold signs coded; rw [List.map_map]; exact List.map_id l
theorem spell_cons (p : List Nat × Nat) (r : List (List Nat × Nat)) : spell (p :: r) = p.1 ++ spell r := by unfold spell; rw [List.flatMap_cons]
theorem spell_append (a b : List (List Nat × Nat)) : spell (a ++ b) = spell a ++ spell b := by unfold spell; rw [List.flatMap_append]
theorem signs_append (a b : List (List Nat × Nat)) : signs (a ++ b) = signs a ++ signs b := by unfold signs; rw [List.map_append]
theorem codeOk_ne {p : List Nat × Nat} (h : CodeOk p) : p.1 ≠ [] := by
  rcases h with h | h
  · rw [h.1]; simp
  · obtain ⟨r, e, _⟩ := codes_head p h; rw [e]; simp
section
variable {prog : Program} {w : World} {A : Around} {env : Env}
theorem while_walks {s : Shared} {R : Result → Shared → Prop} {test : Expr} {body : List Stmt} (J : Nat → Heap → Prop) (hpos : 0 < s.toks) {n₀ : Nat} (h0 : J n₀ s.heap)
    (turn : ∀ n h tk, J n h → 0 < tk → ∀ G : Flow → Shared → Prop, (∀ f m h' tk', (f = .next ∨ f = .cont) → m < n → J m h' → G f { s with heap := h', toks := tk' }) →
      wpAny (model prog w) A (isTrue test env (eval test env)) (fun b s₂ =>
        if b = true then wpAny (model prog w) A (execs body env) G (fun _ _ => False) s₂
        else (0 < s₂.toks → R (.ok .next) s₂)) (fun _ _ => False) { s with heap := h, toks := tk }) :
    codeAny (model prog w) A (.whileLoop test body [] env) R s := by
  refine codeAny_whileLoop (fun n s' => ∃ h tk, s' = { s with heap := h, toks := tk } ∧ J n h ∧ 0 < tk) ?_ n₀ ⟨s.heap, s.toks, rfl, h0, hpos⟩
  rintro n s' ⟨h, tk, rfl, hJ, htk⟩
  refine wpAny_mono (wpAny_toks_of (n := 1) htk (turn n h tk hJ htk (fun f s₃ => (f = .next ∨ f = .cont) ∧ ∃ m h' tk', m < n ∧ s₃ = { s with heap := h', toks := tk' } ∧ J m h')
    (fun f m h' tk' a b c => ⟨a, m, h', tk', b, rfl, c⟩))) (fun b s₂ h₂ => ?_) fun _ _ e => e.2.elim
  cases b with
  | true =>
    have h3 := h₂.2
    rw [if_pos rfl] at h3
    rw [if_pos rfl]
    refine wpAny_mono (wpAny_toks_of (n := 1) h₂.1 h3) (fun f s₃ h₃ => ?_) fun _ _ e => e.2.elim
    obtain ⟨htk₃, hf, m, h', tk', hm, rfl, hJ'⟩ := h₃
    have e : ∃ m', m' < n ∧ ∃ h'' tk'', ({ s with heap := h', toks := tk' } : Shared) = { s with heap := h'', toks := tk'' } ∧ J m' h'' ∧ 0 < tk'' := ⟨m, hm, h', tk', rfl, hJ', htk₃⟩
    rcases hf with rfl | rfl <;> exact e
  | false =>
    have h3 := h₂.2
    rw [if_neg (by decide)] at h3
    rw [if_neg (by decide)]
    exact wpAny_execs_nil (h3 h₂.1)
/-- the same of a for over a walked source -/
theorem for_walksO {s : Shared} {R : Result → Shared → Prop} {x : Str} {px : Pos} {body : List Stmt} {I : Addr} {fp wr : List Addr} {n : Nat} {P : Nat → Value → Prop} {St : Nat → Heap → Prop}
    (W : Walks prog w A I fp wr n P St) (J : Nat → Heap → Prop) (hpos : 0 < s.toks) (hst : St 0 s.heap) (h0 : J 0 s.heap)
    (frame : ∀ i h h', J i h → (∀ b o, b ∉ wr → h.get? b = some o → h'.get? b = some o) → J i h')
    (turn : ∀ i v h tk, i < n → P i v → J i h → St (i + 1) h → 0 < tk →
      ∀ G : Flow → Shared → Prop, (∀ f h' tk', (f = .next ∨ f = .cont) → J (i + 1) h' → (∀ b ∈ fp, ∀ o, h.get? b = some o → h'.get? b = some o) → G f { s with heap := h', toks := tk' }) →
      wpAny (model prog w) A (assign (.Name x px) env v) (fun _ s₂ => wpAny (model prog w) A (execs body env) G (fun _ _ => False) s₂) (fun _ _ => False) { s with heap := h, toks := tk })
    (done : ∀ h tk, J n h → 0 < tk → R (.ok .next) { s with heap := h, toks := tk }) :
    codeAny (model prog w) A (.forLoop (.Name x px) (.ref I) body [] env) R s :=
  for_walks W J hpos hst h0 frame (fun i v h tk a b c d e => turn i v h tk a b c d e _ (fun f h' tk' x y z => ⟨x, h', tk', rfl, y, z⟩)) done
end
end Mine
end
section
open PySem PySem.W PyProof.Rows
set_option maxRecDepth 100000
set_option maxHeartbeats 400000
namespace Mine
section
variable {M : Model} {A : Around} {E : Value → Shared → Prop} {s : Shared} {h₀ : Heap} {L : Addr} {m : Str → Option Value}
theorem fresh_size (h : Heap) : h.get? h.objs.size = none := by
  cases e : h.get? h.objs.size with
  | none => rfl
  | some o => exact absurd (Heap.lt_size e) (Nat.lt_irrefl _)
theorem Fr.chg0 {h h' : Heap} (F : Fr h₀ L h m) (c : Chg [] h h') : Fr h₀ L h' m := Fr.up F fun b o e => c b o (by simp) e
theorem Chg.push (h : Heap) (o : Obj) : Chg [] h (h.push o) := fun b o' _ e => Heap.get?_push_of_some _ e
/-- a name is stored -/
theorem stXL {cn : Str} {cs : Scope} {a : Addr} {ccd : Value} {cl : List (Str × Addr)} {x : Str} {v : Value} {Q : Unit → Shared → Prop} (F : Fr h₀ L s.heap m)
    (h : ∀ h', Fr h₀ L h' (fun y => if y = x then some v else m y) → Chg [L] s.heap h' → Q () { s with heap := h', toks := s.toks + 1 })
    (hk : cs.kind = .function := by rfl) (hx : (envX cn cs L a ccd cl).kindOf x = some .local := by rfl) : wpAny M A (storeName (envX cn cs L a ccd cl) x v) Q E s :=
  wpAny_storeName_local hx F.ns (fun h' hn hs => h h' (F.set hn hs) (Chg.of hs)) (by show (cs.kind == .class || (cs.kind == .module && L != mainGlobals)) = false; rw [hk]; rfl)
theorem stL {name : Str} {scope : Scope} {a : Addr} {cd : Value} {x : Str} {v : Value} {Q : Unit → Shared → Prop} (F : Fr h₀ L s.heap m)
    (h : ∀ h', Fr h₀ L h' (fun y => if y = x then some v else m y) → Chg [L] s.heap h' → Q () { s with heap := h', toks := s.toks + 1 })
    (hk : scope.kind = .function := by rfl) (hl : (envOf name scope L a cd).kindOf x = some .local := by rfl) : wpAny M A (storeName (envOf name scope L a cd) x v) Q E s :=
  wpAny_storeName_local hl F.ns (fun h' hn hs => h h' (F.set hn hs) (Chg.of hs)) (by show (scope.kind == .class || (scope.kind == .module && L != mainGlobals)) = false; rw [hk]; rfl)
/-- a cell is stored -/
theorem stXC {cn : Str} {cs : Scope} {a c : Addr} {ccd : Value} {cl : List (Str × Addr)} {x : Str} {v : Value} {v₀ : Option Value} {o : Obj} {Q : Unit → Shared → Prop} (F : Fr h₀ L s.heap m)
    (hc : cl.lookup x = some c) (ho : s.heap.get? c = some o) (hd : o.data = .cell v₀) (hL : c ≠ L) (hn : h₀.get? c = none)
    (h : ∀ h' o', Fr h₀ L h' m → Chg [c] s.heap h' → h'.get? c = some o' → o'.data = .cell (some v) → Q () { s with heap := h' })
    (hk : cs.kind = .function := by rfl) (hx : (envX cn cs L a ccd cl).kindOf x = some .cell := by rfl) : wpAny M A (storeName (envX cn cs L a ccd cl) x v) Q E s := by
  refine wpAny_storeName_cell hk hx hc ⟨o, ho, hd⟩ fun h' hc' hs => ?_
  obtain ⟨o', h1, h2⟩ := hc'
  exact h h' o' (Zs.fr F hL hn (Chg.of hs)) (Chg.of hs) h1 h2
theorem newL {vs : List Value} {Q : Value → Shared → Prop} (h : ∀ D h', s.heap.get? D = none → s.heap.objs.size ≤ D → h'.get? D = some (listOf vs.toArray 0) → Chg [] s.heap h' → Q (.ref D) { s with heap := h' }) (hsz : vs.length ≤ sizeLine := by size_fits) :
    wpAny M A (newList vs) Q E s := wpAny_newList (h _ _ (fresh_size _) (Nat.le_refl _) (Heap.get?_push_size _ rfl) (Chg.push _ _)) hsz
theorem newT {vs : List Value} {Q : Value → Shared → Prop} (h : ∀ D h', s.heap.get? D = none → s.heap.objs.size ≤ D → D < h'.objs.size → h'.get? D = some ({ cls := .type "tuple", data := .seq vs.toArray } : Obj) → Chg [] s.heap h' → Q (.ref D) { s with heap := h' }) (hsz : vs.length ≤ sizeLine := by size_fits) :
    wpAny M A (newTuple vs) Q E s := wpAny_newObj_type (h _ _ (fresh_size _) (Nat.le_refl _) (by rw [Heap.size_push]; exact Nat.lt_succ_self _) (Heap.get?_push_size _ rfl) (Chg.push _ _)) (by show vs.toArray.size ≤ sizeLine; rw [List.size_toArray]; exact hsz)

noncomputable def IsPair (e : Expr) (p : Str × Str) : Prop := ∃ k1 p1 k2 p2 k p3, e = .Tuple [.Constant (.str p.1) k1 p1, .Constant (.str p.2) k2 p2] k p3
theorem tab_spliced {env : Env} {pos : Pos} : ∀ {es : List Expr} {ps : List (Str × Str)} {s : Shared} {Q : List Value → Shared → Prop}, Paired IsPair es ps →
    (∀ h' tk (Ts : List Addr), Chg [] s.heap h' → s.toks ≤ tk → Ts.length = ps.length → Ts.Nodup → (∀ a ∈ Ts, s.heap.objs.size ≤ a) →
      (∀ (i : Nat) a p, Ts[i]? = some a → ps[i]? = some p → ∃ t t', h'.get? a = some ({ cls := .type "tuple", data := .seq [Value.str p.1 t, .str p.2 t'].toArray } : Obj)) → Q (Ts.map Value.ref) { s with heap := h', toks := tk }) →
    wpAny M A (spliced (backTo pos (starEach es env))) Q E s
  | _, _, s, Q, .nil, h => spliced_none (h s.heap s.toks [] (Chg.refl _) (Nat.le_refl _) rfl .nil (by simp) (by simp))
  | _, _, s, Q, .cons (a := e) (b := p) (l₁ := es) (l₂ := ps) x r, h => by
    obtain ⟨k1, p1, k2, p2, k, p3, rfl⟩ := x
    refine spliced_more ?_
    refine Tuple_ ?_
    refine spliced_more ?_
    refine Calls.Constant_str ?_
    refine spliced_more ?_
    refine Calls.Constant_str ?_
    refine spliced_none ?_
    refine newT (fun D h1 hD hD1 hD2 ho c1 => ?_) (by rw [sizeLine_eq]; exact (by decide : 2 ≤ 16777216))
    refine tab_spliced r (fun h' tk Ts c2 htk hlen hnd hge hT => ?_)
    have hDo : h'.get? D = some ({ cls := .type "tuple", data := .seq [Value.str p.1 s.toks, .str p.2 (s.toks + 1)].toArray } : Obj) := c2 D _ (by simp) ho
    refine h h' tk (D :: Ts) (fun a o ha e => c2 a o ha (c1 a o ha e)) (Nat.le_trans (by show s.toks ≤ s.toks + 1 + 1; omega) htk) (by simp [hlen]) (List.nodup_cons.mpr ⟨?_, hnd⟩) ?_ ?_
    · intro q
      exact Nat.lt_irrefl _ (Nat.lt_of_lt_of_le hD2 (hge _ q))
    · intro a ha
      rcases List.mem_cons.mp ha with rfl | ha
      · exact hD1
      · exact Nat.le_trans hD1 (Nat.le_trans (Nat.le_of_lt hD2) (hge a ha))
    · intro i a q hi hp
      cases i with
      | zero =>
        simp only [List.getElem?_cons_zero, Option.some.injEq] at hi hp
        subst hi; subst hp
        exact ⟨_, _, hDo⟩
      | succ i =>
        simp only [List.getElem?_cons_succ] at hi hp
        exact hT i a q hi hp
end
end Mine
end
section
open PySem PySem.W PyProof.Rows
set_option maxRecDepth 100000
set_option maxHeartbeats 2000000
namespace Mine
section
variable {prog : Program} {w : World} {A : Around} {E : Value → Shared → Prop} {s : Shared} {Q : Value → Shared → Prop} {value slice : Expr}
theorem item_tx {l : List Nat} {i c : Nat} (hc : l[i]? = some c) : Txt.item (tx l) (i : Int) = ⟨#[c]⟩ := by
  have hi : i < l.length := by
    rcases Nat.lt_or_ge i l.length with h | h
    · exact h
    · rw [List.getElem?_eq_none h] at hc; cases hc
  unfold Txt.item Txt.charAt seqIndex?
  have h1 : ¬ ((i : Int) < 0) := by omega
  simp [tx, h1, Str.length, hi]
  simpa [hi] using hc
theorem chr_at {l : List Nat} {i c : Nat} {t u : Tok} (hc : l[i]? = some c) (hi : i < 1000000000) (h : Q (.str ⟨#[c]⟩ s.toks) { s with toks := s.toks + 1 })
    (hs : subscripted slice false (.str (tx l) t) (.int (i : Int) u) = operate [.str (tx l) t, .int (i : Int) u] (getItem (.str (tx l) t) (.int (i : Int) u)) := by with_unfolding_all rfl)
    (ht : ∀ r, letTemporaryGo value (.str (tx l) t) r = pure () := by intro _; with_unfolding_all rfl) :
    wpAny (model prog w) A (subscriptTail value slice (.str (tx l) t) (.int (i : Int) u)) Q E s := by
  have hl : i < l.length := by
    rcases Nat.lt_or_ge i l.length with h | h
    · exact h
    · rw [List.getElem?_eq_none h] at hc; cases hc
  refine item_str (by simp [fitsSsize]; omega) (by omega) (by rw [tx_len]; omega) (fun _ => ?_) hs ht
  rw [item_tx hc]; exact h
end
theorem unpackR {prog : Program} {w : World} {A : Around} {E : Value → Shared → Prop} {s : Shared} {t : Addr} {items : Array Value} {n : Nat} {Q : List Value → Shared → Prop} (ht : IsTup s.heap t items)
    (hh : A.handled = none) (hn : n = items.size) (h : ∀ h', Chg [] s.heap h' → Q items.toList { s with heap := h' }) : wpAny (model prog w) A (unpackItems (.ref t) n none) Q E s := by
  subst hn
  exact unpackItems_tuple hh ht fun h' he => h h' fun b o _ e => he b o (Nat.ne_of_lt (Heap.lt_size e)) e
noncomputable def NamesAt (h : Heap) (D : Addr) (Ts : List Addr) : Prop :=
  Ts.length = 10 ∧ Ts.Nodup ∧ h.get? D = some (listOf (Ts.map Value.ref).toArray 0) ∧
    ∀ (i : Nat) a p, Ts[i]? = some a → codes[i]? = some p → ∃ t t', h.get? a = some ({ cls := .type "tuple", data := .seq [Value.str (tx p.1) t, .str (tx [p.2]) t'].toArray } : Obj)
theorem NamesAt.chg {h h' : Heap} {D c : Addr} {Ts : List Addr} (x : NamesAt h D Ts) (hc : Chg [c] h h') (hD : c ≠ D) (hT : ∀ a ∈ Ts, c ≠ a) : NamesAt h' D Ts := by
  obtain ⟨x1, x2, x3, x4⟩ := x
  refine ⟨x1, x2, hc _ _ (by simpa using Ne.symm hD) x3, fun i a p hi hp => ?_⟩
  obtain ⟨t, t', e⟩ := x4 i a p hi hp
  exact ⟨t, t', hc _ _ (by simpa using Ne.symm (hT a (List.mem_of_getElem? hi))) e⟩
theorem filter_one {Tk : Addr} : ∀ {Ts : List Addr}, Ts.Nodup → Tk ∈ Ts → (Ts.map Value.ref).filter (fun v => match v with | .ref a => a == Tk | _ => false) = [.ref Tk]
  | [], _, h => nomatch h
  | a :: r, hn, h => by
    have hn := List.nodup_cons.mp hn
    rw [List.map_cons, List.filter_cons]
    by_cases e : a = Tk
    · subst e
      have : ∀ {l : List Addr}, a ∉ l → (l.map Value.ref).filter (fun v => match v with | .ref b => b == a | _ => false) = [] := by
        intro l hl
        rw [List.filter_eq_nil_iff]
        intro v hv
        obtain ⟨b, hb, rfl⟩ := List.mem_map.mp hv
        have : b ≠ a := fun e => hl (e ▸ hb)
        simpa using this
      rw [this hn.1]; simp
    · have hm : Tk ∈ r := by
        rcases List.mem_cons.mp h with q | q
        · exact absurd q.symm e
        · exact q
      have : (a == Tk) = false := by simpa using e
      simp only [this]
      exact filter_one hn.2 hm
noncomputable def namesP : List (Str × Str) := [(Str.ofString "&amp;", Str.ofString "&"), (Str.ofString "&lt;", Str.ofString "<"), (Str.ofString "&gt;", Str.ofString ">"), (Str.ofString "&quot;", Str.ofString "\""), (Str.ofString "&#13;", Str.ofString "\x0d"),
  (Str.ofString "&#10;", Str.ofString "\n"), (Str.ofString "&#09;", Str.ofString "\t"), (Str.ofString "&#xD;", Str.ofString "\x0d"), (Str.ofString "&#xA;", Str.ofString "\n"), (Str.ofString "&#x9;", Str.ofString "\t")]
theorem namesP_eq : namesP = codes.map fun p => (tx p.1, tx [p.2]) := by decide +kernel
theorem namesP_at {i : Nat} {p : List Nat × Nat} (h : codes[i]? = some p) : namesP[i]? = some (tx p.1, tx [p.2]) := by
  rw [namesP_eq, List.getElem?_map, h]; rfl
local macro_rules | `(tactic| walk_at "m_enterC") => `(tactic| (
  (refine' enterC (Bs.X (by assumption)) (TopRead.nolimit (Bs.T (by assumption))) ?k8 (by assumption) ?k6 ?k7 ?k9 ?kB ?kD ?c2 ?c3 ?c4 ?_)
  (case k6 => k_is)
  (case k7 => k_is)
  (case k8 => first | assumption | omega)
  (case k9 => exact rfl)
  (case kB => exact rfl)
  (case kD => decide +kernel)
  (case c2 => rfl)
  (case c3 => rfl)
  (case c4 => rfl)))
theorem c_plainO {w : World} {A : Around} {s : Shared} {E : Value → Shared → Prop} {mg mb : Str → Option Value} {cs : List (List Nat × Nat)} {t : Tok} {Q : Value → Shared → Prop}
    (B : Bs w mg mb s.heap) (hroom : A.depth + 10 < recursionLimit) (hA : A.handled = none) (hu : A.units + 100 < cLine) (hpos : 0 < s.toks) (hcs : ∀ p ∈ cs, CodeOk p) (hlen : (spell cs).length ≤ 100000) (hlen2 : cs.length ≤ 100000)
    (hQ : ∀ v s', Keeps s s' → (∃ u, v = .str (tx (signs cs)) u) → Q v s') :
    wpAny (model Challenge.rw_nb0384_02.row.prog w) A (call (.ref 85) [.str (tx (spell cs)) t]) Q E s := by
  have B0 := B
  revert B0; obtain ⟨X, T⟩ := B; revert X; k_fill; intro X B
  walk_at "m_enterC"
  intro L h₁ tk cells F N Y hpos
  obtain ⟨o1, rfl, d1⟩ := CellsAre.one Y
  clear Y
  have hl0 : Str.ofString "" = tx [] := by decide +kernel
  have hl38 : Str.ofString "&" = tx [38] := by decide +kernel
  have d1 : o1.data = .cell (some (.str (tx (spell cs)) t)) := d1
  have hcell := N (L + 1, o1) (.head _)
  refine wpAny_execs_cons ?_
  refine wpAny_Assign_Name ?_
  refine List_ ?_
  refine tab_spliced (es := _) (ps := namesP) ?hp ?_
  case hp =>
    unfold namesP
    (iterate 10 (refine Paired.cons ⟨_, _, _, _, _, _, rfl⟩ ?_))
    exact Paired.nil
  intro g2 tk2 Ts c2 htk2 hTl hTn hTg hTo
  dsimp only at c2 htk2 hTg ⊢
  have hTl : Ts.length = 10 := hTl
  refine newL (fun D g3 hD hD1 hDo c3 => ?_) (by rw [List.length_map, hTl, sizeLine_eq]; decide)
  dsimp only at hD hD1 c3 ⊢
  have F2 : Fr s.heap L g3 _ := Fr.chg0 (Fr.chg0 F c2) c3
  have hLs : L < h₁.objs.size := F.ns.lt
  have hCs : L + 1 < h₁.objs.size := Heap.lt_size hcell.1
  have hTL : ∀ a ∈ Ts, L ≠ a := fun a ha => Nat.ne_of_lt (Nat.lt_of_lt_of_le hLs (hTg a ha))
  have hTC : ∀ a ∈ Ts, L + 1 ≠ a := fun a ha => Nat.ne_of_lt (Nat.lt_of_lt_of_le hCs (hTg a ha))
  have hDC : L + 1 ≠ D := by
    rintro rfl
    rw [c2 _ _ (by simp) hcell.1] at hD; cases hD
  have hDL : L ≠ D := by
    rintro rfl
    obtain ⟨oL, _, _, hL, _⟩ := F.ns
    rw [c2 _ _ (by simp) hL] at hD; cases hD
  have hN3 : NamesAt g3 D Ts := by
    refine ⟨hTl, hTn, hDo, fun i a p hi hp => ?_⟩
    obtain ⟨t, t', e⟩ := hTo i a _ hi (namesP_at hp)
    exact ⟨t, t', c3 _ _ (by simp) e⟩
  have hc3 : g3.get? (L + 1) = some o1 := c3 _ _ (by simp) (c2 _ _ (by simp) hcell.1)
  refine stXL F2 (fun h4 F4 c4 => ?_)
  dsimp only at c4 ⊢
  have hN4 := hN3.chg c4 hDL hTL
  have hc4 : h4.get? (L + 1) = some o1 := c4 _ _ (by simp) hc3
  refine wpAny_execs_cons ?_
  refine wpAny_Assign_Name ?_
  refine Calls.Constant_str ?_
  rw [hl0]
  refine stXL F4 (fun h5 F5 c5 => ?_)
  dsimp only at c5 ⊢
  have hN5 := hN4.chg c5 hDL hTL
  have hc5 : h5.get? (L + 1) = some o1 := c5 _ _ (by simp) hc4
  clear F2 F4 hN3 hN4 hc3 hc4 hTo hDo c2 c3 c4 c5 hTg hD hD1
  refine wpAny_execs_cons ?_
  refine wpAny_While ?_
  refine while_walks (n₀ := cs.length) (fun n h => ∃ m o cs2 done tr tp, Fr s.heap L h m ∧ h.get? (L + 1) = some o ∧ o.data = .cell (some (.str (tx (spell cs2)) tr)) ∧ NamesAt h D Ts ∧ m (Str.ofString "names") = some (.ref D) ∧
      m (Str.ofString "plain") = some (.str (tx (signs done)) tp) ∧ cs = done ++ cs2 ∧ n = cs2.length) (by first | exact Nat.succ_pos _ | assumption | (dsimp only; omega)) ⟨_, o1, cs, [], _, _, F5, hc5, d1, hN5, rfl, rfl, rfl, rfl⟩ ?_
  rintro n h6 tk6 ⟨m, o, cs2, done, tr, tp, F6, hc6, d6, hN6, e1, e2, hsplit, rfl⟩ htk6 G hG
  refine wpAny_isTrue_Compare1 ?_
  refine wpAny_Name (wpAny_loadName_cell rfl rfl (c := L + 1) rfl ⟨o, hc6, d6⟩ ?_) (by decide)
  refine Calls.Constant_str ?_
  refine PyProof.Rows.ne_str ?_
  refine wpAny_truthy_bool ?_
  have hcs2 : ∀ p ∈ cs2, CodeOk p := fun p hp => hcs p (by rw [hsplit]; exact List.mem_append.mpr (.inr hp))
  have hsl2 : (spell cs2).length ≤ 100000 := by
    have : (spell cs).length = (spell done).length + (spell cs2).length := by rw [hsplit, spell_append, List.length_append]
    omega
  cases cs2 with
  | nil =>
    rw [show (tx (spell []) != tx []) = false by simp [spell]]
    rw [if_neg (by decide)]
    intro htk
    dsimp only at htk ⊢
    refine wpAny_execs_cons ?_
    refine wpAny_Return_some ?_
    refine nameX_L F6 e2 ?_
    have hsd : signs cs = signs done := by rw [hsplit, List.append_nil]
    exact hQ _ _ ⟨_, _, rfl, F6.keep⟩ ⟨tp, by rw [hsd]⟩
  | cons p r =>
    have hpn := codeOk_ne (hcs2 p (.head _))
    rw [show (tx (spell (p :: r)) != tx []) = true by rw [spell_cons]; simp [tx, hpn]]
    rw [if_pos rfl]
    obtain ⟨c0, n0, hp0⟩ : ∃ c0 n0, p.1 = c0 :: n0 := by
      cases e : p.1 with
      | nil => exact absurd e hpn
      | cons a b => exact ⟨a, b, rfl⟩
    have h0 : (spell (p :: r))[0]? = some c0 := by rw [spell_cons, hp0]; rfl
    refine wpAny_execs_cons ?_
    refine Assign_Tuple_swapped (names := [Str.ofString "name", Str.ofString "sign"]) ?_
    refine Tuple_ ?_
    refine spliced_more ?_
    refine Subscript_ ?_
    refine wpAny_Name (wpAny_loadName_cell rfl rfl (c := L + 1) rfl ⟨o, hc6, d6⟩ ?_) (by decide)
    refine wpAny_Constant_int ?_
    refine chr_at (i := 0) h0 (by decide) ?_
    dsimp only
    refine spliced_more ?_
    refine Subscript_ ?_
    refine wpAny_Name (wpAny_loadName_cell rfl rfl (c := L + 1) rfl ⟨o, hc6, d6⟩ ?_) (by decide)
    refine wpAny_Constant_int ?_
    refine chr_at (i := 0) h0 (by decide) ?_
    dsimp only
    refine spliced_none ?_
    refine newT (fun D7 h7 _ _ _ hD7 c7 => ?_) (by rw [sizeLine_eq]; exact (by decide : 2 ≤ 16777216))
    dsimp only at c7 ⊢
    refine unpackR ⟨_, hD7, rfl, _, rfl⟩ hA rfl (fun h8 c8 => ?_)
    dsimp only at c8 ⊢
    have F8 := Fr.chg0 (Fr.chg0 F6 c7) c8
    refine assignInOrder_cons ?_
    refine bindName_ ?_
    refine stXL F8 (fun h9 F9 c9 => ?_)
    dsimp only at c9 ⊢
    refine assignInOrder_cons ?_
    refine bindName_ ?_
    refine stXL F9 (fun h10 F10 c10 => ?_)
    dsimp only at c10 ⊢
    refine assignInOrder_nil ?_
    have cc : Chg [L] h6 h10 := fun a o ha e => c10 a o ha (c9 a o ha (c8 a o (by simp) (c7 a o (by simp) e)))
    have hN10 := hN6.chg cc hDL hTL
    have hc10 : h10.get? (L + 1) = some o := cc _ _ (by simp) hc6
    clear F8 F9 c7 c8 c9 c10 hD7 F6 hN6 hc6
    refine wpAny_execs_cons ?_
    refine wpAny_mono (wpAny_toks_of (n := 1) (by first | exact Nat.succ_pos _ | assumption | omega | (dsimp only; omega)) (Q := fun f s' => f = .next ∧ ∃ (h11 : Heap) (tk11 : Nat) (m11 : Str → Option Value) (tn ts : Tok), s' = { s with heap := h11, toks := tk11 } ∧ Fr s.heap L h11 m11 ∧ h11.get? (L + 1) = some o ∧ NamesAt h11 D Ts ∧ m11 (Str.ofString "names") = some (.ref D) ∧ m11 (Str.ofString "plain") = some (.str (tx (signs done)) tp) ∧
        m11 (Str.ofString "name") = some (.str (tx p.1) tn) ∧ m11 (Str.ofString "sign") = some (.str (tx [p.2]) ts)) ?_) (fun f s' hx => ?_) (fun _ _ e => e.2)
    · refine wpAny_If ?_
      refine wpAny_isTrue_Compare1 ?_
      refine nameX_L F10 rfl ?_
      refine Calls.Constant_str ?_
      try rw [hl38]
      refine PyProof.Rows.eq_str ?_
      refine wpAny_truthy_bool ?_
      dsimp only
      by_cases hc38 : c0 = 38
      · subst hc38
        rw [show ((⟨#[38]⟩ : Str) == tx [38]) = true by simp]
        rw [if_pos rfl]
        have hpc : p ∈ codes := by
          rcases hcs2 p (.head _) with ⟨q1, q2⟩ | q
          · rw [hp0] at q1; injection q1 with q1 _; exact absurd q1.symm q2
          · exact q
        obtain ⟨k, hk⟩ := List.getElem?_of_mem hpc
        have hk10 : k < 10 := by
          rcases Nat.lt_or_ge k 10 with hlt | hge
          · exact hlt
          · rw [List.getElem?_eq_none (by exact hge)] at hk; cases hk
        obtain ⟨Tk, hTk⟩ : ∃ Tk, Ts[k]? = some Tk := ⟨Ts[k], by simp [hTl, hk10]⟩
        refine wpAny_execs_cons ?_
        refine evCompA (fun v => match v with | .ref a => a == Tk | _ => false) (fun v y => y = v) (cl := [(Str.ofString "row", L + 1)]) rfl rfl (by decide) rfl (by decide) rfl rfl rfl hA (by first | exact Nat.succ_pos _ | assumption | omega | (dsimp only; omega)) ?_
        refine nameX_L F10 e1 ?_
        refine Or.inl ⟨D, (Ts.map Value.ref).toArray, rfl, ⟨_, hN10.2.2.1, rfl, _, rfl⟩, by simp [hTl]; rw [sizeLine_eq]; omega, ⟨?_, ?_⟩, ?_⟩
        · intro C i v s₃ m₃ E' hv hns hm hk' ht hC
          obtain ⟨Ti, hTi, rfl⟩ : ∃ Ti, Ts[i]? = some Ti ∧ v = .ref Ti := by
            simp only [List.getElem?_toArray, List.getElem?_map] at hv
            cases e : Ts[i]? with
            | none => rw [e] at hv; cases hv
            | some Ti => rw [e] at hv; exact ⟨Ti, rfl, by injection hv with hv; exact hv.symm⟩
          have hi10 : i < 10 := by
            rcases Nat.lt_or_ge i 10 with hlt | hge
            · exact hlt
            · rw [List.getElem?_eq_none (by omega)] at hTi; cases hTi
          obtain ⟨q, hq⟩ : ∃ q, codes[i]? = some q := ⟨codes[i]'hi10, List.getElem?_eq_getElem (l := codes) hi10⟩
          have hqc : q ∈ codes := List.mem_of_getElem? hq
          obtain ⟨u1, u2, hTo⟩ := hN10.2.2.2 i Ti q hTi hq
          have B3 : Bs w mg mb s₃.heap := Bs.keeps (Fr.bs F10 B) hk'
          have hq6 : q.1.length ≤ 6 := by
            obtain ⟨r', e, h6⟩ := codes_head q hqc; exact h6
          refine wpAny_tests_one ?_
          refine wpAny_isTrue_Compare1 ?_
          refine Subscript_ ?_
          refine wpAny_Name (wpAny_loadName_cell rfl rfl (c := L + 1) rfl ⟨o, hk' _ _ hc10, d6⟩ ?_) (by decide)
          refine wpAny_Slice ?_
          refine evalPart_none_step ?_
          refine evalPart_some_step ?_
          refine Call_ ?_
          refine bname B3 (by k_is) (by boot_by_name) (by decide) ?_ rfl rfl rfl rfl (by decide)
          refine PyProof.Rows.callWith_builtin1 ?_
          refine spliced_more ?_
          refine Subscript_ ?_
          refine wpAny_Name (wpAny_loadName_local rfl rfl hns hm ?_) (by decide)
          refine wpAny_Constant_int ?_
          refine item_tupleL (j := 0) ⟨_, hk' _ _ hTo, rfl, _, rfl⟩ (by decide) (by decide) rfl rfl ?_
          refine spliced_none ?_
          refine PyProof.Rows.len_str (by rw [tx_len]; omega) ?_
          dsimp only
          refine evalPart_none_step ?_
          dsimp only
          rw [tx_len]
          refine txt_to (i := q.1.length) (fun h12 t12 tk12 hk12 => ?_) ?hs ?ht (by omega)
          case hs => rfl
          case ht => intro _; rfl
          try dsimp only
          refine Subscript_ ?_
          refine wpAny_Name (wpAny_loadName_local rfl rfl (hns.keeps hk12) hm ?_) (by decide)
          refine wpAny_Constant_int ?_
          refine item_tupleL (j := 0) ⟨_, hk12 _ _ (hk' _ _ hTo), rfl, _, rfl⟩ (by decide) (by decide) rfl rfl ?_
          refine PyProof.Rows.eq_str ?_
          refine wpAny_truthy_bool ?_
          refine ⟨?_, _, _, rfl, fun b o e => hk12 _ _ e⟩
          rw [spell_cons]
          by_cases hik : i = k
          · subst hik
            rw [hTk] at hTi; injection hTi with hTi
            rw [hk] at hq; injection hq with hq
            subst hTi; subst hq
            simp
          · have hne : Ti ≠ Tk := by
              rintro rfl
              have hi' : i < Ts.length := by omega
              have hk'' : k < Ts.length := by omega
              rw [List.getElem?_eq_getElem hi'] at hTi
              rw [List.getElem?_eq_getElem hk''] at hTk
              injection hTi with e1
              injection hTk with e2
              exact hik ((List.getElem_inj hTn).mp (e1.trans e2.symm))
            have hpq : p ≠ q := by
              rintro rfl
              have := codes_nodup ⟨i, hi10⟩ ⟨k, hk10⟩ (by show codes[i]? = codes[k]?; rw [hk, hq])
              exact hik (by simpa using this)
            have hnt : ¬ (p.1 ++ spell r).take q.1.length = q.1 := fun e => hpq (codes_take hpc hqc _ e)
            have e1 : (tx ((p.1 ++ spell r).take q.1.length) == tx q.1) = false := by simpa [tx] using hnt
            rw [e1]
            simpa using hne
        · intro C i v s₃ m₃ E' hv _ hns hm hk' ht hC
          refine wpAny_Name (wpAny_loadName_local rfl rfl hns hm ?_) (by decide)
          exact ⟨rfl, _, _, rfl, fun _ _ e => e⟩
        refine ⟨_, F10.ns, ?_⟩
        intro D2 h12 tk12 ys vs hD2 hpl hlen' hP hF hns12 hk12 htk12
        obtain rfl : vs = Ts.map Value.ref := by
          refine List.ext_getElem? fun j => ?_
          rcases Nat.lt_or_ge j vs.length with hj | hj
          · have := hP j vs[j] (by simp [hj])
            rw [List.getElem?_eq_getElem hj, ← this]; simp
          · rw [List.getElem?_eq_none hj, List.getElem?_eq_none (by simpa [hlen'] using hj)]
        rw [filter_one hTn (List.mem_of_getElem? hTk)] at hF
        have hys : ys = [Value.ref Tk].toArray := by
          have : ys.toList = [Value.ref Tk] := by
            generalize ys.toList = l at hF
            cases hF with
            | cons a b => cases b; rw [a]
          rw [← this]
        subst hys
        obtain ⟨n12, hn12⟩ := hpl
        have F12 := Fr.setA F10 hns12 hk12
        have c12 : Chg [L] h10 h12 := fun b o hb e => hk12 b o (fun q => hb (List.mem_singleton.mpr q)) e
        have hN12 := hN10.chg c12 hDL hTL
        have hc12 : h12.get? (L + 1) = some o := c12 _ _ (by simp) hc10
        dsimp only
        refine wpAny_execs_cons ?_
        refine wpAny_If ?_
        refine wpAny_isTrue_Compare1 ?_
        refine nameX_L F12 rfl ?_
        refine List_ ?_
        refine spliced_none ?_
        refine newL (fun D3 h13 hD3 _ hD3o c13 => ?_) (by rw [sizeLine_eq]; exact (by decide : 0 ≤ 16777216))
        dsimp only at c13 ⊢
        refine PySem.SeqAt.eq_list_lengthsAt ⟨_, c13 _ _ (by simp) hn12, rfl, _, rfl⟩ ⟨_, hD3o, rfl, _, rfl⟩ (by rfl) (by simp only [Around.deeper_units]; omega) ?_
        refine wpAny_truthy_bool ?_
        rw [if_neg (by decide)]
        refine wpAny_execs_nil ?_
        have F13 := Fr.chg0 F12 c13
        refine wpAny_execs_cons ?_
        refine Assign_Tuple ?_
        refine Subscript_ ?_
        refine nameX_L F13 rfl ?_
        refine wpAny_Constant_int ?_
        refine item_litK (vs := [Value.ref Tk]) ⟨_, c13 _ _ (by simp) hn12, rfl, _, rfl⟩ (by decide) (by decide) rfl ?_
        obtain ⟨u1, u2, hTo⟩ := hN12.2.2.2 k Tk p hTk hk
        refine kcp_assign hA ⟨_, c13 _ _ (by simp) hTo, rfl, _, rfl⟩ rfl rfl rfl F13.ns (fun h14 tk14 hns14 hk14 => ?_)
        have F14 := Fr.setA F13 hns14 hk14
        refine wpAny_execs_nil ?_
        have c14 : Chg [L] h13 h14 := fun b o hb e => hk14 b o (fun q => hb (List.mem_singleton.mpr q)) e
        have c13' : Chg [L] h12 h13 := fun b o _ e => c13 b o (by simp) e
        exact ⟨rfl, h14, _, _, _, _, rfl, F14, c14 _ _ (by simp) (c13 _ _ (by simp) hc12), (hN12.chg c13' hDL hTL).chg c14 hDL hTL, e1, e2, rfl, rfl⟩
      · rw [show ((⟨#[c0]⟩ : Str) == tx [38]) = false by simp [tx, hc38]]
        rw [if_neg (by decide)]
        have hpp : p.1 = [p.2] := by
          rcases hcs2 p (.head _) with ⟨q1, q2⟩ | q
          · exact q1
          · obtain ⟨r', e, _⟩ := codes_head p q
            rw [hp0] at e; injection e with e _; exact absurd e hc38
        have hcc : p.1 = [c0] ∧ p.2 = c0 := by
          rw [hp0] at hpp; injection hpp with e e'
          exact ⟨by rw [hp0, e'], e.symm⟩
        refine wpAny_execs_nil ?_
        rw [hcc.1, hcc.2]
        exact ⟨rfl, h10, _, _, _, _, rfl, F10, hc10, hN10, e1, e2, rfl, rfl⟩
    · obtain ⟨htk11, rfl, h11, tk11, m11, tn, ts, rfl, F11, hc11, hN11, f1, f2, f3, f4⟩ := hx
      dsimp only
      refine wpAny_execs_cons ?_
      refine wpAny_Assign_Name ?_
      refine wpAny_BinOp ?_
      refine nameX_L F11 f2 ?_
      refine nameX_L F11 f4 ?_
      have hsl3 : (signs done).length ≤ 100000 := by
        have : (signs done).length + (p :: r).length = cs.length := by rw [hsplit, List.length_append]; simp [signs]
        omega
      refine wpAny_with_toks (n := 1) htk11 ?_
      refine PyProof.Rows.add_str (fun t12 tk12 hp12 => ?_) (by rw [tx_len, tx_len, sizeLine_eq]; simp only [List.length_cons, List.length_nil]; omega)
      dsimp only at hp12 ⊢
      rw [tx_app]
      refine stXL F11 (fun h13 F13 c13 => ?_)
      dsimp only at c13 ⊢
      have hN13 := hN11.chg c13 hDL hTL
      have hc13 : h13.get? (L + 1) = some o := c13 _ _ (by simp) hc11
      refine wpAny_execs_cons ?_
      refine wpAny_Assign_Name ?_
      refine Subscript_ ?_
      refine wpAny_Name (wpAny_loadName_cell rfl rfl (c := L + 1) rfl ⟨o, hc13, d6⟩ ?_) (by decide)
      refine wpAny_Slice ?_
      refine evalPart_some_step ?_
      refine Call_ ?_
      refine bname (Fr.bs F13 B) (by k_is) (by boot_by_name) (by decide) ?_ rfl rfl rfl rfl (by decide)
      refine PyProof.Rows.callWith_builtin1 ?_
      refine spliced_more ?_
      refine nameX_L F13 f3 ?_
      refine spliced_none ?_
      have hp6 : p.1.length ≤ 6 := by
        rcases hcs2 p (.head _) with ⟨q1, q2⟩ | q
        · rw [q1]; simp
        · obtain ⟨r', e, h6⟩ := codes_head p q; exact h6
      refine PyProof.Rows.len_str (by rw [tx_len]; omega) ?_
      dsimp only
      refine evalPart_none_step ?_
      refine evalPart_none_step ?_
      dsimp only
      rw [tx_len]
      refine txt_from (i := p.1.length) (fun h14 t14 tk14 hk14 => ?_) ?hs ?ht (by omega)
      case hs => rfl
      case ht => intro _; rfl
      try dsimp only
      have F14 := Fr.up F13 hk14
      have hN14 : NamesAt h14 D Ts := by
        obtain ⟨x1, x2, x3, x4⟩ := hN13
        refine ⟨x1, x2, hk14 _ _ x3, fun i a p hi hp => ?_⟩
        obtain ⟨t, t', e⟩ := x4 i a p hi hp
        exact ⟨t, t', hk14 _ _ e⟩
      refine stXC F14 (c := L + 1) rfl (hk14 _ _ hc13) d6 hcell.2.1 hcell.2.2 (fun h15 o15 F15 c15 hc15 d15 => ?_)
      dsimp only at c15 ⊢
      refine wpAny_execs_nil ?_
      have hdr : (spell (p :: r)).drop p.1.length = spell r := by rw [spell_cons]; simp
      rw [hdr] at d15
      refine hG _ r.length _ _ (Or.inl rfl) (by simp) ⟨_, o15, r, done ++ [p], _, t12, F15, hc15, d15, hN14.chg c15 hDC hTC, f1, ?_, by rw [hsplit]; simp, rfl⟩
      rw [signs_append]; rfl
theorem c_plain {w : World} {A : Around} {s : Shared} {E : Value → Shared → Prop} {mg mb : Str → Option Value} {cs : List (List Nat × Nat)} {t : Tok}
    (B : Bs w mg mb s.heap) (hroom : A.depth + 10 < recursionLimit) (hA : A.handled = none) (hu : A.units + 100 < cLine) (hpos : 0 < s.toks) (hcs : ∀ p ∈ cs, CodeOk p) (hlen : (spell cs).length ≤ 100000) (hlen2 : cs.length ≤ 100000) :
    wpAny (model Challenge.rw_nb0384_02.row.prog w) A (call (.ref 85) [.str (tx (spell cs)) t]) (fun v s' => Keeps s s' ∧ ∃ u, v = .str (tx (signs cs)) u) E s :=
  c_plainO B hroom hA hu hpos hcs hlen hlen2 (fun _ _ a b => ⟨a, b⟩)
end Mine
end
section
open PySem PySem.W PyProof.Rows
set_option maxRecDepth 100000
set_option maxHeartbeats 400000
namespace Mine
open Builtin Builtin.Str
theorem fromIndex_nat {n i : Nat} : fromIndex n (i : Int) = i := by
  unfold fromIndex
  have : ¬ ((i : Int) < 0) := by omega
  rw [if_neg this]; omega
theorem find_at {l a b y : List Nat} {y0 i : Nat} (hd : l.drop i = a ++ (y0 :: y) ++ b) (hi : i ≤ l.length) (hno : y0 ∉ a) : Txt.find3 (tx l) (tx (y0 :: y)) (i : Int) = ((i + a.length : Nat) : Int) := by
  unfold Txt.find3
  rw [fromIndex_nat]
  have hlen : l.length = i + (a.length + (y.length + 1) + b.length) := by
    have := congrArg List.length hd
    simp only [List.length_drop, List.length_append, List.length_cons] at this
    omega
  have hAt : StrLaws.At (tx l) (tx (y0 :: y)) (tx l).length (i + a.length) := by
    refine ⟨by rw [tx_len, tx_len, List.length_cons]; omega, ?_⟩
    rw [StrLaws.subAt_eq, tx_len]
    simp only [tx, List.toList_toArray]
    rw [← List.drop_drop, hd]
    simp
  have hAtOf : ∀ k, StrLaws.At (tx l) (tx (y0 :: y)) (tx l).length k → i ≤ k → k < i + a.length → False := by
    intro k hk h1 h2
    have h3 := hk.2
    rw [StrLaws.subAt_eq, tx_len] at h3
    simp only [tx, List.toList_toArray] at h3
    have h4 : (l.drop k).take (y0 :: y).length = y0 :: y := by simpa using h3
    have h5 : l.drop k = (a.drop (k - i)) ++ (y0 :: y) ++ b := by
      have : k = i + (k - i) := by omega
      rw [this, ← List.drop_drop, hd, List.append_assoc, List.drop_append_of_le_length (by omega), ← List.append_assoc]
      simp
    rw [h5] at h4
    cases e : a.drop (k - i) with
    | nil =>
      have := congrArg List.length e
      simp only [List.length_drop, List.length_nil] at this
      omega
    | cons z zs =>
      rw [e] at h4
      simp at h4
      have hz : z ∈ a := List.mem_of_mem_drop (i := k - i) (by rw [e]; exact .head _)
      exact hno (h4.1 ▸ hz)
  rcases StrLaws.occ_head_from (tx l) (tx (y0 :: y)) i 1 (Nat.le_refl 1) with ⟨h0, hn⟩ | ⟨k, r, h0, hlo, hk, hn⟩
  · exact absurd hAt (hn _ (by omega))
  · rw [h0]
    show ((k : Nat) : Int) = _
    have : k = i + a.length := by
      rcases Nat.lt_trichotomy k (i + a.length) with h | h | h
      · exact (hAtOf k hk hlo h).elim
      · exact h
      · exact absurd hAt (hn _ (by omega) h)
    rw [this]
theorem slice_mid (l : List Nat) {i j : Nat} (hij : i ≤ j) : Txt.slice (tx l) (some (i : Int)) (some (j : Int)) = tx ((l.drop i).take (j - i)) := by
  have base : ∀ i j : Nat, i ≤ j → j ≤ l.length → StrLaws.sliceText (tx l) (some (i : Int)) (some (j : Int)) = tx ((l.drop i).take (j - i)) := by
    intro i j h1 h2
    have := StrLaws.sliceText_nat (tx l) h1 (by rw [tx_len]; exact h2)
    rw [this]
  show StrLaws.sliceText (tx l) (some (i : Int)) (some (j : Int)) = _
  by_cases hj : j ≤ l.length
  · exact base i j hij hj
  · by_cases hi : i ≤ l.length
    · have e : strSliceIndices (some (i : Int)) (some (j : Int)) 1 (tx l).length = strSliceIndices (some (i : Int)) (some (l.length : Int)) 1 (tx l).length := by
        rw [tx_len]
        have a : ¬ ((j : Int) < 0) := by omega
        have b : ¬ ((l.length : Int) < 0) := by omega
        have c : min (j : Int) (l.length : Int) = l.length := by omega
        simp [strSliceIndices, a, b, c]
      have : StrLaws.sliceText (tx l) (some (i : Int)) (some (j : Int)) = StrLaws.sliceText (tx l) (some (i : Int)) (some (l.length : Int)) := by
        unfold StrLaws.sliceText
        rw [e]
      rw [this, base i l.length hi (Nat.le_refl _)]
      rw [List.take_of_length_le (by simp), List.take_of_length_le (by simp; omega)]
    · have e : strSliceIndices (some (i : Int)) (some (j : Int)) 1 (tx l).length = strSliceIndices (some (l.length : Int)) (some (l.length : Int)) 1 (tx l).length := by
        rw [tx_len]
        have a : ¬ ((j : Int) < 0) := by omega
        have a' : ¬ ((i : Int) < 0) := by omega
        have b : ¬ ((l.length : Int) < 0) := by omega
        have c : min (j : Int) (l.length : Int) = l.length := by omega
        have c' : min (i : Int) (l.length : Int) = l.length := by omega
        simp [strSliceIndices, a, a', b, c, c']
      have : StrLaws.sliceText (tx l) (some (i : Int)) (some (j : Int)) = StrLaws.sliceText (tx l) (some (l.length : Int)) (some (l.length : Int)) := by
        unfold StrLaws.sliceText
        rw [e]
      rw [this, base l.length l.length (Nat.le_refl _) (Nat.le_refl _)]
      rw [List.drop_eq_nil_of_le (Nat.le_refl _), List.drop_eq_nil_of_le (by omega)]
      simp
section
variable {prog : Program} {w : World} {A : Around} {E : Value → Shared → Prop} {s : Shared} {Q : Value → Shared → Prop} {value slice : Expr}
theorem txt_mid {h : Heap} {tk : Nat} {l : List Nat} {i j : Nat} {t ui uj : Tok} (hij : i ≤ j)
    (hq : ∀ h' t' k, (∀ b o, h.get? b = some o → h'.get? b = some o) → Q (.str (tx ((l.drop i).take (j - i))) t') { s with heap := h', toks := k })
    (hs : subscripted slice false (.str (tx l) t) (.ref h.objs.size) = operate [.ref h.objs.size, .str (tx l) t] (getItem (.str (tx l) t) (.ref h.objs.size)))
    (ht : ∀ r, letTemporaryGo value (.str (tx l) t) r = pure ()) (hsz : l.length ≤ 1000000) :
    wpAny (model prog w) A (subscriptTail value slice (.str (tx l) t) (.ref h.objs.size)) Q E { s with heap := h.push { cls := .type "slice", data := .fields #[.int i ui, .int j uj, .none] }, toks := tk } := by
  refine tail_of_ItemOn (SBH.sliceItem_ss (s := { s with heap := h, toks := tk }) (kept_old h) (fun _ _ e => e) (fun h' t' k hk => ?_) ?_) hs ht
  · rw [slice_mid l hij]; exact hq h' t' k hk
  · rw [tx_len, sizeLine_eq]; omega
end
/-- an element as data -/
structure El where
  name : List Nat
  attrs : List (List Nat × List Nat)
  kids : List PyData
noncomputable def El.d (f : El) : PyData := dNode f.name f.attrs f.kids
noncomputable def Fm.el (f : Fm) : El := ⟨f.name, f.attrs, f.kids⟩
noncomputable abbrev Cd := List (List Nat × Nat)
inductive Tk where
  | opn (name : List Nat) (attrs : List (List Nat × Cd)) (self : Bool)
  | txt (cs : Cd)
  | cls (name : List Nat)
noncomputable def attrR (p : List Nat × Cd) : List Nat := 32 :: p.1 ++ [61, 34] ++ spell p.2 ++ [34]
noncomputable def plainA (p : List Nat × Cd) : List Nat × List Nat := (p.1, signs p.2)
noncomputable def Tk.r : Tk → List Nat
  | .opn n as b => 60 :: n ++ as.flatMap attrR ++ (if b then [47, 62] else [62])
  | .txt cs => spell cs
  | .cls n => [60, 47] ++ n ++ [62]
noncomputable def render (ts : List Tk) : List Nat := ts.flatMap Tk.r
noncomputable def addKid (d : PyData) : List El → List El
  | [] => []
  | f :: r => { f with kids := f.kids ++ [d] } :: r
noncomputable def step (st : List El) : Tk → List El
  | .opn n as false => ⟨n, as.map plainA, []⟩ :: st
  | .opn n as true => addKid (dNode n (as.map plainA) []) st
  | .txt cs => addKid (.str (tx (signs cs))) st
  | .cls _ => match st with
    | f :: r => addKid f.d r
    | [] => []
noncomputable def run (st : List El) (ts : List Tk) : List El := ts.foldl step st
noncomputable def AttrOk (p : List Nat × Cd) : Prop := (∃ k, p.1 = [k] ∧ k ≠ 61 ∧ k ≠ 34) ∧ (∀ q ∈ p.2, CodeOk q) ∧ ∀ q ∈ p.2, 34 ∉ q.1
noncomputable def NameOk (n : List Nat) : Prop := ∃ c, n = [c] ∧ c ≠ 32 ∧ c ≠ 47 ∧ c ≠ 62
noncomputable def TkOk (st : List El) : Tk → List Tk → Prop
  | .opn n as _, _ => NameOk n ∧ (∀ p ∈ as, AttrOk p) ∧ st ≠ []
  | .txt cs, r => cs ≠ [] ∧ (∀ q ∈ cs, CodeOk q) ∧ (∀ q ∈ cs, 60 ∉ q.1) ∧ st ≠ [] ∧ ∃ t r', r = t :: r' ∧ (∀ cs', t ≠ .txt cs')
  | .cls n, _ => NameOk n ∧ ∃ f g r, st = f :: g :: r ∧ f.name = n
noncomputable def Valid : List El → List Tk → Prop
  | _, [] => True
  | st, t :: r => TkOk st t r ∧ Valid (step st t) r
end Mine
end
section
open PySem PySem.W PyProof.Rows
set_option maxRecDepth 100000
set_option maxHeartbeats 400000
namespace Mine
section
variable {prog : Program} {w : World} {A : Around} {E : Value → Shared → Prop} {s : Shared} {Q : Value → Shared → Prop} {value slice : Expr} {env : Env}
theorem item_last {l : Addr} {vs : List Value} {v : Value} {n : Nat} {u : Tok} (hl : s.heap.get? l = some (listOf (vs ++ [v]).toArray n)) (h : Q v s) (hsz : vs.length < 1000000)
    (hs : subscripted slice false (.ref l) (.int (-1) u) = operate [.ref l, .int (-1) u] (getItem (.ref l) (.int (-1) u)) := by with_unfolding_all rfl) :
    wpAny (model prog w) A (subscriptTail value slice (.ref l) (.int (-1) u)) Q E s := by
  have hL : s.heap.IsList l (vs ++ [v]).toArray := ⟨_, hl, rfl, _, rfl⟩
  refine tail_any hL.typeIs slot_list_getitem.lookup (wpAny_getItem_list_neg hL (by decide) ?_ (by decide) ?_ h) hs
  · simp only [List.size_toArray, List.length_append, List.length_cons, List.length_nil]; omega
  · have e : ((-1 : Int) + ((vs ++ [v]).toArray.size : Nat)).toNat = vs.length := by
      simp only [List.size_toArray, List.length_append, List.length_cons, List.length_nil]; omega
    rw [e]; simp
/-- a list's last, by the index -1 -/
theorem last_of {h₀ : Heap} {L : Addr} {m : Str → Option Value} {name : Str} {scope : Scope} {a P : Addr} {cd : Value} {x : Str} {vs : List Value} {v : Value} {n k : Nat} {p1 p2 p3 p4 : Pos}
    (F : Fr h₀ L s.heap m) (hx : m x = some (.ref P)) (hl : s.heap.get? P = some (listOf (vs ++ [v]).toArray n)) (hsz : vs.length < 1000000)
    (h : ∀ tk, s.toks ≤ tk → Q v { s with toks := tk })
    (hk : scope.kind = .function := by rfl) (hlk : (envOf name scope L a cd).kindOf x = some .local := by rfl) (hd : (x == ("__debug__" : Str)) = false := by decide) :
    wpAny (model prog w) A (eval (.Subscript (.Name x p1) (.UnaryOp .USub (.Constant (.int 1) k p2) p3) p4) (envOf name scope L a cd)) Q E s := by
  refine Subscript_ ?_
  refine ld F hx ?_ hk hlk hd
  refine UnaryOp_ ?_
  refine wpAny_Constant_int ?_
  refine PyProof.Rows.neg_int ?_
  exact item_last hl (h _ (by show s.toks ≤ s.toks + 1 + 1; omega)) hsz
end
theorem none_of {h h' : Heap} {a : Addr} (c : Chg [] h h') (e : h'.get? a = none) : h.get? a = none := by
  cases q : h.get? a with
  | none => rfl
  | some o => rw [c a o (by simp) q] at e; cases e
theorem Zs.first {h₀ h h1 : Heap} {L N A K : Addr} {m : Str → Option Value} {t : Tok} {c0 c1 c2 : Nat} {name : List Nat} (F : Fr h₀ L h m)
    (hA : h.get? A = none) (hK : h.get? K = none) (hN : h.get? N = none) (nAK : A ≠ K) (nAN : N ≠ A) (nKN : N ≠ K) (c : Chg [] h h1)
    (oA : h1.get? A = some (listOf ([] : List Value).toArray c0)) (oK : h1.get? K = some (listOf ([] : List Value).toArray c1)) (oN : h1.get? N = some (listOf [Value.str (tx name) t, .ref A, .ref K].toArray c2)) :
    Zs h₀ L h1 [] [⟨N, A, K, name, [], []⟩] := by
  have hL : ∃ o, h.get? L = some o := by
    obtain ⟨oL, _, _, hL, _⟩ := F.ns
    exact ⟨_, hL⟩
  have hmem : ∀ {a : Addr}, h.get? a = none → L ≠ a := by
    rintro a ha rfl
    obtain ⟨o, e⟩ := hL
    rw [ha] at e; cases e
  have none0 : ∀ {a : Addr}, h.get? a = none → h₀.get? a = none := by
    intro a ha
    cases e : h₀.get? a with
    | none => rfl
    | some o' => have := F.keep _ _ e; rw [ha] at this; cases this
  refine ⟨by simp, by simp, ?_, ?_, ⟨⟨⟨t, c2, oN⟩, ?_, ⟨[], c0, oA, .nil⟩, ⟨[], c1, oK, .nil⟩⟩, trivial⟩⟩
  · intro a ha
    rcases List.mem_cons.mp ha with rfl | ha
    · exact none0 hA
    · rw [List.mem_singleton.mp ha]; exact none0 hK
  · refine List.nodup_cons.mpr ⟨?_, List.nodup_cons.mpr ⟨?_, List.nodup_cons.mpr ⟨by simp [muts], .nil⟩⟩⟩
    · intro q
      rcases List.mem_cons.mp q with q | q
      · exact hmem hA q
      · exact hmem hK (List.mem_singleton.mp q)
    · intro q
      exact nAK (List.mem_singleton.mp q)
  · intro q
    rcases List.mem_cons.mp q with q | q
    · exact hmem hN q.symm
    · rcases List.mem_cons.mp q with q | q
      · exact nAN q
      · exact nKN (List.mem_singleton.mp q)
theorem at_drop {l r : List Nat} {n c : Nat} (h : l.drop n = c :: r) : l[n]? = some c := by
  have : (l.drop n)[0]? = some c := by rw [h]; rfl
  simpa using this
/-- what the path lists, the newest last -/
noncomputable abbrev pathV (fs : List Fm) : List Value := (fs.map fun f => Value.ref f.N).reverse
theorem pathV_cons (f : Fm) (r : List Fm) : pathV (f :: r) = pathV r ++ [.ref f.N] := by simp [pathV]
theorem spell_head {cs : Cd} (h : cs ≠ []) (hok : ∀ q ∈ cs, CodeOk q) : ∃ c r, spell cs = c :: r ∧ ∃ q ∈ cs, c ∈ q.1 := by
  cases cs with
  | nil => exact absurd rfl h
  | cons p r =>
    have := codeOk_ne (hok p (.head _))
    cases e : p.1 with
    | nil => exact absurd e this
    | cons c x => exact ⟨c, x ++ spell r, by rw [spell_cons, e]; rfl, p, .head _, by rw [e]; exact .head _⟩
theorem spell_free {cs : Cd} {c : Nat} (h : ∀ q ∈ cs, c ∉ q.1) : c ∉ spell cs := by
  intro hc
  obtain ⟨q, hq, hc⟩ := List.mem_flatMap.mp hc
  exact h q hq hc
theorem render_cons (t : Tk) (r : List Tk) : render (t :: r) = t.r ++ render r := by unfold render; rw [List.flatMap_cons]
theorem render_append (a b : List Tk) : render (a ++ b) = render a ++ render b := by unfold render; rw [List.flatMap_append]
theorem run_append (st : List El) (a b : List Tk) : run st (a ++ b) = run (run st a) b := by unfold run; rw [List.foldl_append]
theorem nontxt_head {t : Tk} (h : ∀ cs, t ≠ .txt cs) : ∃ r, t.r = 60 :: r := by
  cases t with
  | opn n as b => exact ⟨_, rfl⟩
  | txt cs => exact absurd rfl (h cs)
  | cls n => exact ⟨_, rfl⟩
theorem nontxt_ok {st : List El} {t : Tk} {r : List Tk} (h : TkOk st t r) : ∃ c x, t.r = c :: x ∧ (c ≠ 60 ↔ ∃ cs, t = .txt cs) := by
  cases t with
  | opn n as b => exact ⟨60, _, rfl, by simp⟩
  | txt cs =>
    obtain ⟨h1, h2, h3, _⟩ := h
    obtain ⟨c, x, e, q, hq, hc⟩ := spell_head h1 h2
    exact ⟨c, x, e, fun _ => ⟨cs, rfl⟩, fun _ e60 => h3 q hq (e60 ▸ hc)⟩
  | cls n => exact ⟨60, _, rfl, by simp⟩
theorem attrs_len : ∀ as : List (List Nat × Cd), as.length ≤ (as.flatMap attrR).length
  | [] => by simp
  | p :: r => by
    have := attrs_len r
    rw [List.flatMap_cons, List.length_append, List.length_cons]
    simp only [attrR, List.length_append, List.length_cons]
    omega
theorem codes_len {p : List Nat × Nat} (h : CodeOk p) : 1 ≤ p.1.length := by
  have := codeOk_ne h
  exact List.length_pos_iff.mpr this
theorem spell_len {cs : Cd} (h : ∀ q ∈ cs, CodeOk q) : cs.length ≤ (spell cs).length := by
  induction cs with
  | nil => simp
  | cons p r ih =>
    have h1 := ih fun q hq => h q (.tail _ hq)
    have h2 := codes_len (h p (.head _))
    rw [spell_cons, List.length_append, List.length_cons]; omega
end Mine
end
section
open PySem PySem.W PyProof.Rows
set_option maxRecDepth 100000
set_option maxHeartbeats 2000000
namespace Mine
local macro_rules | `(tactic| walk_at "m_enter") => `(tactic| (
  (refine' enter (Bs.X (by assumption)) (TopRead.nolimit (Bs.T (by assumption))) ?k8 (by assumption) ?k6 ?k7 ?k9 ?kB ?c5 ?c2 ?c3 ?c4 ?_)
  (case k6 => k_is)
  (case k7 => k_is)
  (case k8 => first | assumption | omega)
  (case k9 => exact BindsTo.of_eq rfl)
  (case kB => exact locs rfl)
  (case c5 => decide)
  (case c2 => rfl)
  (case c3 => rfl)
  (case c4 => rfl)))
theorem c_readO {w : World} {A : Around} {s : Shared} {E : Value → Shared → Prop} {mg mb : Str → Option Value} {toks : List Tk} {t : Tok} {kids : List PyData} {Q : Value → Shared → Prop}
    (B : Bs w mg mb s.heap) (hroom : A.depth + 20 < recursionLimit) (hA : A.handled = none) (hu : A.units + 200 < cLine) (hpos : 0 < s.toks) (hlen : (render toks).length ≤ 100000) (hlen2 : toks.length ≤ 1000)
    (hv : Valid [⟨[], [], []⟩] toks) (hrun : run [⟨[], [], []⟩] toks = [⟨[], [], kids⟩])
    (hQ : ∀ v s', Keeps s s' → (∃ D as, v = .ref D ∧ Reads s'.heap (.ref D) (.list kids) as) → Q v s') :
    wpAny (model Challenge.rw_nb0384_02.row.prog w) A (call (.ref 92) [.str (tx (render toks)) t]) Q E s := by
  have B0 := B
  revert B0; obtain ⟨X, T⟩ := B; revert X; k_fill; intro X B
  walk_at "m_enter"
  intro L h₁ tk F N hpos
  have hl0 : Str.ofString "" = tx [] := by decide +kernel
  have hl60 : Str.ofString "<" = tx [60] := by decide +kernel
  have hl62 : Str.ofString ">" = tx [62] := by decide +kernel
  have hl6047 : Str.ofString "</" = tx [60, 47] := by decide +kernel
  have hl32 : Str.ofString " " = tx [32] := by decide +kernel
  have hl34 : Str.ofString "\"" = tx [34] := by decide +kernel
  have hl6134 : Str.ofString "=\"" = tx [61, 34] := by decide +kernel
  have hl4762 : Str.ofString "/>" = tx [47, 62] := by decide +kernel
  have hl3 : (Str.ofString " />").cps.toList = [32, 47, 62] := by decide +kernel
  -- top
  refine wpAny_execs_cons ?_
  refine wpAny_Assign_Name ?_
  refine List_ ?_
  refine spliced_more ?_
  refine Calls.Constant_str ?_
  refine spliced_more ?_
  refine List_ ?_
  refine spliced_none ?_
  dsimp only
  refine newL (fun aA g1 nA _ oA cA => ?_) (by rw [sizeLine_eq]; exact (by decide : 0 ≤ 16777216))
  dsimp only at nA cA ⊢
  refine spliced_more ?_
  refine List_ ?_
  refine spliced_none ?_
  refine newL (fun aK g2 nK _ oK cK => ?_) (by rw [sizeLine_eq]; exact (by decide : 0 ≤ 16777216))
  dsimp only at nK cK ⊢
  refine spliced_none ?_
  refine newL (fun aN g3 nN _ oN cN => ?_) (by rw [sizeLine_eq]; exact (by decide : 3 ≤ 16777216))
  dsimp only at nN cN ⊢
  have F3 := Fr.chg0 (Fr.chg0 (Fr.chg0 F cA) cK) cN
  have hAK : aA ≠ aK := by rintro rfl; rw [oA] at nK; cases nK
  have oA2 := cK _ _ (by simp) oA
  have hNA : aN ≠ aA := by rintro rfl; rw [oA2] at nN; cases nN
  have hNK : aN ≠ aK := by rintro rfl; rw [oK] at nN; cases nN
  have oA3 := cN _ _ (by simp) oA2
  have oK3 := cN _ _ (by simp) oK
  rw [hl0] at oN
  have Z3 : Zs s.heap L g3 [] [⟨aN, aA, aK, [], [], []⟩] :=
    Zs.first F nA (none_of cA nK) (none_of cA (none_of cK nN)) hAK hNA hNK (fun a o ha e => cN a o ha (cK a o ha (cA a o ha e))) oA3 oK3 oN
  refine stL F3 (fun h4 F4 c4 => ?_)
  dsimp only at c4 ⊢
  have Z4 := Z3.loc c4
  -- path
  refine wpAny_execs_cons ?_
  refine wpAny_Assign_Name ?_
  refine List_ ?_
  refine spliced_more ?_
  refine ld F4 rfl ?_
  refine spliced_none ?_
  refine newL (fun P g5 nP _ oP cP => ?_) (by rw [sizeLine_eq]; exact (by decide : 1 ≤ 16777216))
  dsimp only at nP cP ⊢
  have Z5 := Z4.note F4 nP cP oP
  have F5 := Fr.chg0 F4 cP
  refine stL F5 (fun h6 F6 c6 => ?_)
  dsimp only at c6 ⊢
  have Z6 := Z5.loc c6
  refine wpAny_execs_cons ?_
  refine wpAny_Assign_Name ?_
  refine wpAny_Constant_int ?_
  refine stL F6 (fun h7 F7 c7 => ?_)
  dsimp only at c7 ⊢
  have Z7 := Z6.loc c7
  clear Z3 Z4 Z5 Z6 F3 F4 F5 F6 oA oK oA2 oA3 oK3 oN cA cK cN c4 cP c6 c7 oP
  refine wpAny_execs_cons ?_
  refine wpAny_While ?_
  refine while_walks (n₀ := toks.length) (fun n h => ∃ m done rest fs c tat tp, toks = done ++ rest ∧ n = rest.length ∧ Fr s.heap L h m ∧ Zs s.heap L h [(P, listOf (pathV fs).toArray c)] fs ∧ fs.map Fm.el = run [⟨[], [], []⟩] done ∧ Valid (fs.map Fm.el) rest ∧
      m (Str.ofString "page") = some (.str (tx (render toks)) tp) ∧ m (Str.ofString "path") = some (.ref P) ∧ m (Str.ofString "top") = some (.ref aN) ∧ m (Str.ofString "at") = some (.int ((render done).length : Int) tat) ∧
      (fs.map Fm.N).getLast? = some aN ∧ fs.length ≤ done.length + 1 ∧ ∀ f ∈ fs, f.kids.length ≤ done.length) (by first | exact Nat.succ_pos _ | assumption | (dsimp only; omega))
    ⟨_, [], toks, [⟨aN, aA, aK, [], [], []⟩], _, _, _, rfl, rfl, F7, Z7, rfl, hv, rfl, rfl, rfl, rfl, rfl, by simp, by simp⟩ ?_
  rintro n h8 tk8 ⟨m, done, rest, fs, c, tat, tp, hsplit, rfl, F8, Z8, hel, hval, e1, e2, e3, e4, hbot, hfl, hkl⟩ htk8 G hG
  have hdl : done.length + rest.length = toks.length := by rw [hsplit, List.length_append]
  have hpd : (render toks).drop (render done).length = render rest := by rw [hsplit, render_append]; simp
  have hpl : (render done).length + (render rest).length = (render toks).length := by rw [hsplit, render_append, List.length_append]
  refine wpAny_isTrue_Compare1 ?_
  refine ld F8 e4 ?_
  refine Call_ ?_
  refine bname (Fr.bs F8 B) (by k_is) (by boot_by_name) (by decide) ?_ rfl rfl rfl rfl (by decide)
  refine PyProof.Rows.callWith_builtin1 ?_
  refine spliced_more ?_
  refine ld F8 e1 ?_
  refine spliced_none ?_
  refine PyProof.Rows.len_str (by rw [tx_len]; omega) ?_
  dsimp only
  rw [tx_len]
  refine PyProof.Rows.lt_int ?_
  refine wpAny_truthy_bool ?_
  dsimp only
  cases rest with
  | nil =>
    have hpl' : (render done).length = (render toks).length := by simpa [render] using hpl
    rw [decide_eq_false (by omega), if_neg (by decide)]
    intro _
    obtain rfl : toks = done := by simpa using hsplit
    rw [hrun] at hel
    cases fs with
    | nil => cases hel
    | cons f r =>
      simp only [List.map_cons, List.cons.injEq] at hel
      obtain rfl : r = [] := by simpa using hel.2
      have hN : f.N = aN := by simpa using hbot
      have hk : f.kids = kids := by
        have := congrArg El.kids hel.1
        exact this
      obtain ⟨⟨⟨tn, c1, en⟩, nM, ⟨va, c2, ea, pa⟩, ⟨vk, c3, ek, pk⟩⟩, _⟩ := Z8.hang
      refine wpAny_execs_cons ?_
      refine wpAny_Return_some ?_
      refine Subscript_ ?_
      refine ld F8 e3 ?_
      refine wpAny_Constant_int ?_
      rw [hN] at en
      refine item_litK (vs := [_, _, _]) ⟨_, en, rfl, _, rfl⟩ (by decide) (by decide) rfl ?_
      obtain ⟨as, hr⟩ := Sr.all (Chg.refl h8) pk
      rw [hk] at hr
      exact hQ _ _ ⟨_, _, rfl, F8.keep⟩ ⟨f.K, _, rfl, .list ek rfl rfl (by simpa using hr)⟩
  | cons tok rest =>
    obtain ⟨hok, hvr⟩ := hval
    obtain ⟨c0, x0, hc0, hc60⟩ := nontxt_ok hok
    have hpos' : 0 < (render (tok :: rest)).length := by rw [render_cons, hc0]; simp
    rw [decide_eq_true (by omega), if_pos rfl]
    have hdr : (render toks).drop (render done).length = c0 :: (x0 ++ render rest) := by rw [hpd, render_cons, hc0]; rfl
    have hne : fs ≠ [] := by
      rintro rfl; cases hbot
    obtain ⟨f, fr, rfl⟩ : ∃ f fr, fs = f :: fr := by
      cases fs with
      | nil => exact absurd rfl hne
      | cons f fr => exact ⟨f, fr, rfl⟩
    have hP8 := Z8.hled _ (.head _)
    rw [pathV_cons] at hP8
    have hplen : (pathV fr).length < 1000000 := by
      simp only [pathV, List.length_reverse, List.length_map]
      simp only [List.length_cons] at hfl
      omega
    refine wpAny_execs_cons ?_
    refine wpAny_If ?_
    refine wpAny_isTrue_Compare1 ?_
    refine Subscript_ ?_
    refine ld F8 e1 ?_
    refine ld F8 e4 ?_
    refine chr_at (i := (render done).length) (at_drop hdr) (by omega) ?_
    dsimp only
    refine Calls.Constant_str ?_
    rw [hl60]
    refine PyProof.Rows.ne_str ?_
    refine wpAny_truthy_bool ?_
    dsimp only
    cases tok with
    | txt cs =>
      have hc1 : c0 ≠ 60 := hc60.mpr ⟨cs, rfl⟩
      rw [show ((⟨#[c0]⟩ : Str) != tx [60]) = true by simp [tx, hc1]]
      rw [if_pos rfl]
      obtain ⟨hcs, hcok, hc60', _, t', r', rfl, hnt⟩ := hok
      obtain ⟨y, hy⟩ := nontxt_head hnt
      have hfind : (render toks).drop (render done).length = spell cs ++ (60 :: []) ++ (y ++ render r') := by
        rw [hpd, render_cons, render_cons, hy]; simp [Tk.r]
      have hsl := spell_len hcok
      have hspl : (render done).length + (spell cs).length ≤ (render toks).length := by
        rw [← hpl, render_cons, List.length_append]; simp only [Tk.r]; omega
      -- end
      refine wpAny_execs_cons ?_
      refine wpAny_Assign_Name ?_
      refine MethodCall_ ?_
      refine ld F8 e1 ?_
      refine GM.find ?_
      refine callWith_method1 ?_
      refine spliced_more ?_
      refine Calls.Constant_str ?_
      dsimp only
      refine spliced_more ?_
      refine ld F8 e4 ?_
      refine spliced_none ?_
      try rw [hl60]
      refine SC.find3 ?_
      rw [find_at hfind (by omega) (spell_free hc60')]
      dsimp only
      refine stL F8 (fun h9 F9 c9 => ?_)
      have Z9 := Z8.loc c9
      dsimp only
      refine wpAny_execs_cons ?_
      refine wpAny_If ?_
      refine wpAny_isTrue_Compare1 ?_
      refine ld F9 rfl ?_
      refine wpAny_Constant_int ?_
      refine PyProof.Rows.lt_int ?_
      refine wpAny_truthy_bool ?_
      rw [decide_eq_false (by omega), if_neg (by decide)]
      refine wpAny_execs_nil ?_
      dsimp only
      have hP9 := Z9.hled _ (.head _)
      rw [pathV_cons] at hP9
      obtain ⟨⟨⟨tn, c1, en⟩, nM, ⟨va, c2, ea, pa⟩, ⟨vk, c3, ek, pk⟩⟩, _⟩ := id Z9.hang
      rw [List.append_nil] at ek
      -- append
      refine wpAny_execs_cons ?_
      refine wpAny_Expr_any ?_
      refine MethodCall_ ?_
      refine Subscript_ ?_
      refine last_of F9 e2 hP9 hplen (fun tk10 htk10 => ?_)
      dsimp only at htk10 ⊢
      refine wpAny_Constant_int ?_
      refine item_litK (vs := [_, _, _]) ⟨_, en, rfl, _, rfl⟩ (by decide) (by decide) rfl ?_
      refine Calls.getMethod_list_append ek rfl rfl ?_
      refine callWith_method1 ?_
      refine spliced_more ?_
      refine Call_ ?_
      refine gname (Fr.bs F9 B) (by k_is) ?_ rfl rfl rfl (by decide)
      refine callWith_K (Fr.bs F9 B).X (by k_is) ?_
      refine spliced_more ?_
      refine Subscript_ ?_
      refine ld F9 e1 ?_
      refine wpAny_Slice ?_
      refine evalPart_some_step ?_
      refine ld F9 e4 ?_
      refine evalPart_some_step ?_
      refine ld F9 rfl ?_
      refine evalPart_none_step ?_
      dsimp only
      refine wpAny_with_toks (n := 1) (by first | exact Nat.succ_pos _ | assumption | (dsimp only; omega)) ?_
      refine txt_mid (i := (render done).length) (j := (render done).length + (spell cs).length) (by omega) (fun h11 t11 tk11 hk11 hpos11 => ?_) ?hs ?ht (by omega)
      case hs => rfl
      case ht => intro _; rfl
      try dsimp only at hpos11 ⊢
      rw [hfind, show (render done).length + (spell cs).length - (render done).length = (spell cs).length by omega, List.append_assoc, List.take_left]
      refine spliced_none ?_
      have F11 := Fr.up F9 hk11
      have Z11 := Z9.up (Chg.up hk11)
      refine ⟨(Fr.bs F11 B).X, ?_⟩
      try dsimp only
      refine use (R := fun v _ => ∃ u, v = .str (tx (signs cs)) u) F11 News.nil (by first | exact Nat.succ_pos _ | assumption | omega | (dsimp only; omega)) (c_plain (Fr.bs F11 B) (by simp only [depth_deeper]; omega) hA (by simp only [Around.deeper_units]; omega) (by first | exact Nat.succ_pos _ | assumption | omega | (dsimp only; omega)) hcok (by omega) (by omega)) ?_
      rintro _ h12 tk12 ⟨u12, rfl⟩ F12 _ hk12 hpos12
      have Z12 := Z11.up (Chg.up hk12)
      dsimp only
      refine spliced_none ?_
      have hkl' : vk.length ≤ done.length := by rw [Paired.len pk]; exact hkl f (.head _)
      refine append_at (hk12 _ _ (hk11 _ _ ek)) (fun h13 hs13 ho13 => ?_) (by simp only [List.size_toArray]; rw [sizeLine_eq]; omega)
      dsimp only at hs13 ⊢
      rw [List.push_toArray] at ho13
      have hc1112 : Chg ([] : List Addr) h9 h12 := fun a o _ e => hk12 _ _ (hk11 _ _ e)
      have Z13 := Z12.kid (n := c3) ho13 (Chg.of hs13) (Paired.imp (fun _ _ x => x.chg (D := []) (by simp) hc1112) pk) (Sr.str (tx (signs cs)) u12)
      have F13 := Zs.fr F12 (Z12.mutL f.K (.tail _ (.head _))) (Z12.mnew f.K (.tail _ (.head _))) (Chg.of hs13)
      refine wpAny_execs_cons ?_
      refine wpAny_Assign_Name ?_
      refine ld F13 rfl ?_
      refine stL F13 (fun h14 F14 c14 => ?_)
      dsimp only
      have Z14 := Z13.loc c14
      refine wpAny_execs_nil ?_
      refine wpAny_execs_nil ?_
      have hat : ((render (done ++ [.txt cs])).length : Int) = (((render done).length + (spell cs).length : Nat) : Int) := by rw [render_append, List.length_append]; simp [render, Tk.r]
      refine hG _ _ _ _ (Or.inl rfl) (Nat.lt_succ_self _) ⟨_, done ++ [.txt cs], t' :: r', { f with kids := f.kids ++ [.str (tx (signs cs))] } :: fr, c, _, _, by rw [hsplit]; simp, rfl, F14, Z14, ?_, ?_, e1, e2, e3, by rw [hat]; rfl, ?_, ?_, ?_⟩
      · rw [run_append, ← hel]; rfl
      · exact hvr
      · exact hbot
      · simp only [List.length_append, List.length_cons, List.length_nil] at hfl ⊢; omega
      · intro g hg
        rw [List.length_append, List.length_singleton]
        rcases List.mem_cons.mp hg with rfl | hg
        · have := hkl f (.head _)
          simp only [List.length_append, List.length_singleton]; omega
        · have := hkl g (.tail _ hg); omega
    | cls n =>
      obtain ⟨⟨cc, rfl, n32, n47, n62⟩, f', g, fr', hst, hnm⟩ := hok
      have h60 : c0 = 60 := by injection hc0 with q _; exact q.symm
      subst h60
      rw [show ((⟨#[60]⟩ : Str) != tx [60]) = false by simp [tx]]
      rw [if_neg (by decide)]
      obtain ⟨g, fr', rfl⟩ : ∃ g fr', fr = g :: fr' := by
        cases fr with
        | nil => cases hst
        | cons g fr' => exact ⟨g, fr', rfl⟩
      have hfn : f.name = [cc] := by
        injection hst with q _
        rw [← q] at hnm; exact hnm
      have hdr2 : (render toks).drop (render done).length = [60, 47, cc] ++ (62 :: []) ++ render rest := by rw [hpd, render_cons]; simp [Tk.r]
      have hlen4 : (render done).length + 4 ≤ (render toks).length := by
        rw [← hpl, render_cons, List.length_append]; simp [Tk.r]
      refine wpAny_execs_cons ?_
      refine wpAny_If ?_
      refine wpAny_isTrue_Compare1 ?_
      refine Subscript_ ?_
      refine ld F8 e1 ?_
      refine wpAny_Slice ?_
      refine evalPart_some_step ?_
      refine ld F8 e4 ?_
      refine evalPart_some_step ?_
      refine wpAny_BinOp ?_
      refine ld F8 e4 ?_
      refine wpAny_Constant_int ?_
      refine add_int ?_
      refine evalPart_none_step ?_
      dsimp only
      rw [show (((render done).length : Int) + 2) = (((render done).length + 2 : Nat) : Int) by push_cast; rfl]
      refine wpAny_with_toks (n := 1) (by first | exact Nat.succ_pos _ | assumption | (dsimp only; omega)) ?_
      refine txt_mid (i := (render done).length) (j := (render done).length + 2) (by omega) (fun h9 t9 tk9 hk9 hpos9 => ?_) ?hs ?ht (by omega)
      case hs => rfl
      case ht => intro _; rfl
      try dsimp only at hpos9 ⊢
      have hq2 : List.take 2 ([60, 47, cc] ++ [62] ++ render rest) = [60, 47] := by simp
      rw [hdr2, show (render done).length + 2 - (render done).length = 2 by omega, hq2]
      refine Calls.Constant_str ?_
      rw [hl6047]
      refine PyProof.Rows.eq_str ?_
      refine wpAny_truthy_bool ?_
      rw [show (tx [60, 47] == tx [60, 47]) = true by simp]
      rw [if_pos rfl]
      have F9 := Fr.up F8 hk9
      have Z9 := Z8.up (Chg.up hk9)
      dsimp only
      -- end
      refine wpAny_execs_cons ?_
      refine wpAny_Assign_Name ?_
      refine MethodCall_ ?_
      refine ld F9 e1 ?_
      refine GM.find ?_
      refine callWith_method1 ?_
      refine spliced_more ?_
      refine Calls.Constant_str ?_
      dsimp only
      refine spliced_more ?_
      refine ld F9 e4 ?_
      refine spliced_none ?_
      try rw [hl62]
      refine SC.find3 ?_
      rw [find_at hdr2 (by omega) (by simp [Ne.symm n62])]
      dsimp only
      refine stL F9 (fun h10 F10 c10 => ?_)
      have Z10 := Z9.loc c10
      dsimp only
      have hP10 := Z10.hled _ (.head _)
      have hsz10 : (pathV (f :: g :: fr')).toArray.size = fr'.length + 2 := by simp [pathV]
      simp only [List.length_cons] at hfl
      refine wpAny_execs_cons ?_
      refine wpAny_If ?_
      refine isTrue_or ?_
      refine wpAny_isTrue_Compare1 ?_
      refine Call_ ?_
      refine bname (Fr.bs F10 B) (by k_is) (by boot_by_name) (by decide) ?_ rfl rfl rfl rfl (by decide)
      refine PyProof.Rows.callWith_builtin1 ?_
      refine spliced_more ?_
      refine ld F10 e2 ?_
      refine spliced_none ?_
      refine PyProof.Rows.len_list ⟨_, hP10, rfl, _, rfl⟩ (by rw [hsz10]; omega) ?_
      dsimp only
      rw [hsz10]
      refine wpAny_Constant_int ?_
      refine PyProof.Rows.eq_int ?_
      refine wpAny_truthy_bool ?_
      rw [show (((fr'.length + 2 : Nat) : Int) == 1) = false by simp; omega]
      rw [if_neg (by decide)]
      dsimp only
      refine isTrue_or ?_
      refine wpAny_isTrue_Compare1 ?_
      refine Subscript_ ?_
      refine ld F10 e1 ?_
      refine wpAny_Slice ?_
      refine evalPart_some_step ?_
      refine wpAny_BinOp ?_
      refine ld F10 e4 ?_
      refine wpAny_Constant_int ?_
      refine add_int ?_
      refine evalPart_some_step ?_
      refine ld F10 rfl ?_
      refine evalPart_none_step ?_
      dsimp only
      rw [show (((render done).length : Int) + 2) = (((render done).length + 2 : Nat) : Int) by push_cast; rfl]
      refine wpAny_with_toks (n := 1) (by first | exact Nat.succ_pos _ | assumption | (dsimp only; omega)) ?_
      refine txt_mid (i := (render done).length + 2) (j := (render done).length + [60, 47, cc].length) (by simp) (fun h11 t11 tk11 hk11 hpos11 => ?_) ?hs ?ht (by omega)
      case hs => rfl
      case ht => intro _; rfl
      try dsimp only at hpos11 ⊢
      have hq1 : List.take 1 (List.drop 2 ([60, 47, cc] ++ [62] ++ render rest)) = [cc] := by simp
      rw [← List.drop_drop, hdr2, show (render done).length + [60, 47, cc].length - ((render done).length + 2) = 1 by simp, hq1]
      have F11 := Fr.up F10 hk11
      have Z11 := Z10.up (Chg.up hk11)
      have hP11 := Z11.hled _ (.head _)
      rw [pathV_cons] at hP11
      refine Subscript_ ?_
      refine MethodCall_ ?_
      refine ld F11 e2 ?_
      refine Copied.getMethod_pop_at hP11 rfl rfl ?_
      refine callWith_method0 ?_
      refine Copied.pop_at (y := .ref f.N) hP11 ?_ (fun h12 hs12 ho12 => ?_) ?_
      · simp
      rotate_left
      · simp only [List.size_toArray, List.length_append, List.length_cons, List.length_nil]; rw [sizeLine_eq]; omega
      dsimp only at hs12 ⊢
      have e12 : (pathV (g :: fr') ++ [Value.ref f.N]).toArray.pop = (pathV (g :: fr')).toArray := by simp
      rw [e12] at ho12
      have Z11' : Zs s.heap L h11 ([] ++ (P, listOf (pathV (f :: g :: fr')).toArray c) :: []) (f :: g :: fr') := Z11
      have Z12 := Z11'.set (Chg.of hs12) ho12
      have F12 := Zs.frLed F11 Z11 (.head _) (Chg.of hs12)
      obtain ⟨⟨⟨tn, c1, en⟩, nM, _, _⟩, _⟩ := id Z12.hang
      refine wpAny_Constant_int ?_
      refine item_litK (vs := [_, _, _]) ⟨_, en, rfl, _, rfl⟩ (by decide) (by decide) rfl ?_
      refine PyProof.Rows.ne_str ?_
      refine wpAny_truthy_bool ?_
      rw [show (tx [cc] != tx f.name) = false by rw [hfn]; simp]
      rw [if_neg (by decide)]
      refine isTrue_or_nil ?_
      rw [if_neg (by decide)]
      refine wpAny_execs_nil ?_
      dsimp only
      have Z12' := Zs.close (show Zs s.heap L h12 [(P, listOf (pathV (g :: fr')).toArray (c + 1))] (f :: g :: fr') from Z12)
      refine wpAny_execs_cons ?_
      refine wpAny_Assign_Name ?_
      refine wpAny_BinOp ?_
      refine ld F12 rfl ?_
      refine wpAny_Constant_int ?_
      refine add_int ?_
      refine stL F12 (fun h14 F14 c14 => ?_)
      dsimp only
      have Z14 := Z12'.loc c14
      refine wpAny_execs_nil ?_
      refine wpAny_execs_nil ?_
      refine wpAny_execs_nil ?_
      have hat : ((render (done ++ [.cls [cc]])).length : Int) = (((render done).length + [60, 47, cc].length : Nat) : Int) + 1 := by rw [render_append, List.length_append]; simp [render, Tk.r]; omega
      refine hG _ _ _ _ (Or.inl rfl) (Nat.lt_succ_self _) ⟨_, done ++ [.cls [cc]], rest, { g with kids := g.kids ++ [f.d] } :: fr', c + 1, _, _, by rw [hsplit]; simp, rfl, F14, Z14, ?_, ?_, e1, e2, e3, by rw [hat]; rfl, ?_, ?_, ?_⟩
      · rw [run_append, ← hel]; rfl
      · exact hvr
      · simpa using hbot
      · simp only [List.length_append, List.length_cons, List.length_nil] at hfl ⊢; omega
      · intro k hk
        rw [List.length_append, List.length_singleton]
        rcases List.mem_cons.mp hk with rfl | hk
        · have := hkl g (.tail _ (.head _))
          simp only [List.length_append, List.length_singleton]; omega
        · have := hkl k (.tail _ (.tail _ hk)); omega
    | opn n as b =>
      obtain ⟨⟨cc, rfl, n32, n47, n62⟩, has, _⟩ := hok
      have h60 : c0 = 60 := by injection hc0 with q _; exact q.symm
      subst h60
      rw [show ((⟨#[60]⟩ : Str) != tx [60]) = false by simp [tx]]
      rw [if_neg (by decide)]
      generalize hd0 : (render done).length = d at *
      have hdr2 : (render toks).drop d = 60 :: cc :: (as.flatMap attrR ++ ((if b then [47, 62] else [62]) ++ render rest)) := by rw [hpd, render_cons]; simp [Tk.r]
      have htot : d + (2 + (as.flatMap attrR).length + (if b then [47, 62] else [62] : List Nat).length) + (render rest).length = (render toks).length := by
        rw [← hpl, render_cons, List.length_append]; simp [Tk.r]; omega
      have hbl : 1 ≤ (if b then [47, 62] else [62] : List Nat).length ∧ (if b then [47, 62] else [62] : List Nat).length ≤ 2 := by cases b <;> decide
      refine wpAny_execs_cons ?_
      refine wpAny_If ?_
      refine wpAny_isTrue_Compare1 ?_
      refine Subscript_ ?_
      refine ld F8 e1 ?_
      refine wpAny_Slice ?_
      refine evalPart_some_step ?_
      refine ld F8 e4 ?_
      refine evalPart_some_step ?_
      refine wpAny_BinOp ?_
      refine ld F8 e4 ?_
      refine wpAny_Constant_int ?_
      refine add_int ?_
      refine evalPart_none_step ?_
      dsimp only
      rw [show ((d : Int) + 2) = ((d + 2 : Nat) : Int) by push_cast; rfl]
      refine wpAny_with_toks (n := 1) (by first | exact Nat.succ_pos _ | assumption | (dsimp only; omega)) ?_
      refine txt_mid (i := d) (j := d + 2) (by omega) (fun h9 t9 tk9 hk9 hpos9 => ?_) ?hs ?ht (by omega)
      case hs => rfl
      case ht => intro _; rfl
      try dsimp only at hpos9 ⊢
      have hq2 : List.take 2 (60 :: cc :: (as.flatMap attrR ++ ((if b then [47, 62] else [62]) ++ render rest))) = [60, cc] := by simp
      rw [hdr2, show d + 2 - d = 2 by omega, hq2]
      refine Calls.Constant_str ?_
      rw [hl6047]
      refine PyProof.Rows.eq_str ?_
      refine wpAny_truthy_bool ?_
      rw [show (tx [60, cc] == tx [60, 47]) = false by simp [tx, n47]]
      rw [if_neg (by decide)]
      have F9 := Fr.up F8 hk9
      have Z9 := Z8.up (Chg.up hk9)
      dsimp only
      -- end = at + 1
      refine wpAny_execs_cons ?_
      refine wpAny_Assign_Name ?_
      refine wpAny_BinOp ?_
      refine ld F9 e4 ?_
      refine wpAny_Constant_int ?_
      refine add_int ?_
      dsimp only
      rw [show ((d : Int) + 1) = ((d + 1 : Nat) : Int) by push_cast; rfl]
      refine stL F9 (fun h10 F10 c10 => ?_)
      have Z10 := Z9.loc c10
      dsimp only
      obtain ⟨cx, rx, hcx, hcx'⟩ : ∃ cx rx, as.flatMap attrR ++ ((if b then [47, 62] else [62]) ++ render rest) = cx :: rx ∧ cx ∈ [32, 47, 62] := by
        cases as with
        | nil => cases b <;> exact ⟨_, _, rfl, by decide⟩
        | cons p r => exact ⟨32, _, rfl, by decide⟩
      have hd1 : (render toks).drop (d + 1) = cc :: cx :: rx := by rw [← List.drop_drop, hdr2, hcx]; rfl
      have hd2 : (render toks).drop (d + 2) = cx :: rx := by rw [← List.drop_drop, hdr2, hcx]; rfl
      refine wpAny_execs_cons ?_
      refine wpAny_While ?_
      refine while_walks (n₀ := 1) (fun n h => ∃ m' e te, Fr s.heap L h m' ∧ Zs s.heap L h [(P, listOf (pathV (f :: fr)).toArray c)] (f :: fr) ∧
          m' (Str.ofString "page") = some (.str (tx (render toks)) tp) ∧ m' (Str.ofString "path") = some (.ref P) ∧ m' (Str.ofString "top") = some (.ref aN) ∧ m' (Str.ofString "at") = some (.int (d : Int) tat) ∧
          m' (Str.ofString "end") = some (.int ((e : Nat) : Int) te) ∧ ((n = 1 ∧ e = d + 1) ∨ (n = 0 ∧ e = d + 2))) (by first | exact Nat.succ_pos _ | assumption | (dsimp only; omega))
        ⟨_, d + 1, _, F10, Z10, e1, e2, e3, e4, rfl, Or.inl ⟨rfl, rfl⟩⟩ ?_
      clear F8 Z8 F9 Z9 F10 Z10 hk9 c10 hP8 e1 e2 e3 e4 m
      rintro n h11 tk11 ⟨m, e, te, F11, Z11, e1, e2, e3, e4, e5, hne'⟩ htk11 G2 hG2
      refine wpAny_isTrue_Compare1 ?_
      refine Subscript_ ?_
      refine ld F11 e1 ?_
      refine ld F11 e5 ?_
      rcases hne' with ⟨rfl, rfl⟩ | ⟨rfl, rfl⟩
      · refine chr_at (i := d + 1) (at_drop hd1) (by omega) ?_
        dsimp only
        refine Calls.Constant_str ?_
        refine PyProof.Rows.notIn_str ?_
        refine wpAny_truthy_bool ?_
        rw [StrLaws.found_one, hl3]
        rw [show (!decide (cc ∈ [32, 47, 62])) = true by simp [n32, n47, n62]]
        rw [if_pos rfl]
        refine wpAny_execs_cons ?_
        refine wpAny_Assign_Name ?_
        refine wpAny_BinOp ?_
        refine ld F11 e5 ?_
        refine wpAny_Constant_int ?_
        refine add_int ?_
        dsimp only
        rw [show (((d + 1 : Nat) : Int) + 1) = ((d + 2 : Nat) : Int) by push_cast; omega]
        refine stL F11 (fun h12 F12 c12 => ?_)
        dsimp only
        refine wpAny_execs_nil ?_
        exact hG2 _ 0 _ _ (Or.inl rfl) (by omega) ⟨_, d + 2, _, F12, Z11.loc c12, e1, e2, e3, e4, rfl, Or.inr ⟨rfl, rfl⟩⟩
      · refine chr_at (i := d + 2) (at_drop hd2) (by omega) ?_
        dsimp only
        refine Calls.Constant_str ?_
        refine PyProof.Rows.notIn_str ?_
        refine wpAny_truthy_bool ?_
        rw [StrLaws.found_one, hl3]
        rw [show (!decide (cx ∈ [32, 47, 62])) = false by rw [decide_eq_true hcx']; rfl]
        rw [if_neg (by decide)]
        intro htk12
        dsimp only at htk12 ⊢
        -- made
        refine wpAny_execs_cons ?_
        refine wpAny_Assign_Name ?_
        refine List_ ?_
        refine spliced_more ?_
        refine Subscript_ ?_
        refine ld F11 e1 ?_
        refine wpAny_Slice ?_
        refine evalPart_some_step ?_
        refine wpAny_BinOp ?_
        refine ld F11 e4 ?_
        refine wpAny_Constant_int ?_
        refine add_int ?_
        refine evalPart_some_step ?_
        refine ld F11 e5 ?_
        refine evalPart_none_step ?_
        dsimp only
        rw [show ((d : Int) + 1) = ((d + 1 : Nat) : Int) by push_cast; rfl]
        refine wpAny_with_toks (n := 1) (by first | exact Nat.succ_pos _ | assumption | (dsimp only; omega)) ?_
        refine txt_mid (i := d + 1) (j := d + 2) (by omega) (fun h12 t12 tk12 hk12 hpos12 => ?_) ?hs ?ht (by omega)
        case hs => rfl
        case ht => intro _; rfl
        try dsimp only at hpos12 ⊢
        rw [hd1, show d + 2 - (d + 1) = 1 by omega, show List.take 1 (cc :: cx :: rx) = [cc] from rfl]
        have F12 := Fr.up F11 hk12
        have Z12 := Z11.up (Chg.up hk12)
        refine spliced_more ?_
        refine List_ ?_
        refine spliced_none ?_
        refine newL (fun bA g1 nA _ oA cA => ?_) (by rw [sizeLine_eq]; exact (by decide : 0 ≤ 16777216))
        dsimp only at nA cA ⊢
        refine spliced_more ?_
        refine List_ ?_
        refine spliced_none ?_
        refine newL (fun bK g2 nK _ oK cK => ?_) (by rw [sizeLine_eq]; exact (by decide : 0 ≤ 16777216))
        dsimp only at nK cK ⊢
        refine spliced_none ?_
        refine newL (fun bN g3 nN _ oN cN => ?_) (by rw [sizeLine_eq]; exact (by decide : 3 ≤ 16777216))
        dsimp only at nN cN ⊢
        have hAK : bA ≠ bK := by rintro rfl; rw [oA] at nK; cases nK
        have oA2 := cK _ _ (by simp) oA
        have hNA : bN ≠ bA := by rintro rfl; rw [oA2] at nN; cases nN
        have hNK : bN ≠ bK := by rintro rfl; rw [oK] at nN; cases nN
        have oA3 := cN _ _ (by simp) oA2
        have oK3 := cN _ _ (by simp) oK
        have nK' := none_of cA nK
        have nN' := none_of cA (none_of cK nN)
        have c13 : Chg ([] : List Addr) h12 g3 := fun a o ha e => cN a o ha (cK a o ha (cA a o ha e))
        have F13 := Fr.chg0 F12 c13
        refine stL F13 (fun h14 F14 c14 => ?_)
        dsimp only at c14 ⊢
        have cL : ∀ {a : Addr}, h12.get? a = none → a ∉ [L] := by
          intro a ha q
          obtain ⟨oL, _, _, hL, _⟩ := F12.ns
          rw [List.mem_singleton.mp q, hL] at ha; cases ha
        have oA4 := c14 _ _ (cL nA) oA3
        have oK4 := c14 _ _ (cL nK') oK3
        have oN4 := c14 _ _ (cL nN') oN
        have c124 : Chg [L] h12 h14 := fun a o ha e => c14 a o ha (c13 a o (by simp) e)
        have Z14 := Z12.loc c124
        have hP14 := Z14.hled _ (.head _)
        rw [pathV_cons] at hP14
        obtain ⟨⟨⟨tn0, c10', en0⟩, _, _, ⟨vk0, c30, ek0, pk0⟩⟩, _⟩ := id Z12.hang
        obtain ⟨⟨⟨tn, c1, en⟩, nM, ⟨va, c2, ea, pa⟩, _⟩, _⟩ := id Z14.hang
        rw [List.append_nil] at ek0
        have ek : h14.get? f.K = some (listOf vk0.toArray c30) := c124 _ _ (fun q => Z12.mutL f.K (.tail _ (.head _)) (List.mem_singleton.mp q)) ek0
        -- append
        refine wpAny_execs_cons ?_
        refine wpAny_Expr_any ?_
        refine MethodCall_ ?_
        refine Subscript_ ?_
        refine last_of F14 e2 hP14 hplen (fun tk15 htk15 => ?_)
        dsimp only at htk15 ⊢
        refine wpAny_Constant_int ?_
        refine item_litK (vs := [_, _, _]) ⟨_, en, rfl, _, rfl⟩ (by decide) (by decide) rfl ?_
        refine Calls.getMethod_list_append ek rfl rfl ?_
        refine callWith_method1 ?_
        refine spliced_more ?_
        refine ld F14 rfl ?_
        refine spliced_none ?_
        have hkl' : vk0.length ≤ done.length := by rw [Paired.len pk0]; exact hkl f (.head _)
        refine append_at ek (fun h16 hs16 ho16 => ?_) (by simp only [List.size_toArray]; rw [sizeLine_eq]; omega)
        dsimp only at hs16 ⊢
        rw [List.push_toArray] at ho16
        have Z16 := Z12.open F12 nA nK' nN' hAK hNA hNK c124 oA4 oK4 oN4 ek0 pk0 (Chg.of hs16) ho16
        have F16 := Zs.fr F14 (Z14.mutL f.K (.tail _ (.head _))) (Z14.mnew f.K (.tail _ (.head _))) (Chg.of hs16)
        clear Z14 Z12 hP14 en0 en ea pa F12 F13 F14 Z11 F11
        generalize hEnd : (if b then [47, 62] else [62] : List Nat) = fin at *
        -- the attributes
        refine wpAny_execs_cons ?_
        refine wpAny_While ?_
        refine while_walks (n₀ := as.length) (fun n h => ∃ m' as1 as2 te, as = as1 ++ as2 ∧ n = as2.length ∧ Fr s.heap L h m' ∧ Zs s.heap L h [(P, listOf (pathV (f :: fr)).toArray c)] (⟨bN, bA, bK, [cc], as1.map plainA, []⟩ :: f :: fr) ∧
            m' (Str.ofString "page") = some (.str (tx (render toks)) tp) ∧ m' (Str.ofString "path") = some (.ref P) ∧ m' (Str.ofString "top") = some (.ref aN) ∧ m' (Str.ofString "made") = some (.ref bN) ∧
            m' (Str.ofString "end") = some (.int ((d + 2 + (as1.flatMap attrR).length : Nat) : Int) te)) (by first | exact Nat.succ_pos _ | assumption | (dsimp only; omega))
          ⟨_, [], as, _, rfl, rfl, F16, Z16, e1, e2, e3, rfl, e5⟩ ?_
        clear F16 Z16 e1 e2 e3 e4 e5 m
        rintro n h17 tk17 ⟨m, as1, as2, te, hasp, rfl, F17, Z17, e1, e2, e3, e6, e5⟩ htk17 G3 hG3
        generalize he0 : d + 2 + (as1.flatMap attrR).length = e at *
        have hde : (render toks).drop e = as2.flatMap attrR ++ (fin ++ render rest) := by
          rw [← he0, ← List.drop_drop, ← List.drop_drop, hdr2, hasp]
          simp [List.flatMap_append]
        have hel' : e + (as2.flatMap attrR).length + fin.length + (render rest).length = (render toks).length := by
          rw [← htot, ← he0, hasp, List.flatMap_append, List.length_append]; omega
        refine wpAny_isTrue_Compare1 ?_
        refine Subscript_ ?_
        refine ld F17 e1 ?_
        refine ld F17 e5 ?_
        cases as2 with
        | nil =>
          obtain ⟨cf, rf, hcf, hcf'⟩ : ∃ cf rf, fin = cf :: rf ∧ cf ≠ 32 := by
            rw [← hEnd]
            cases b
            · exact ⟨62, [], rfl, by decide⟩
            · exact ⟨47, [62], rfl, by decide⟩
          have hde0 : (render toks).drop e = cf :: (rf ++ render rest) := by rw [hde, hcf]; rfl
          refine chr_at (i := e) (at_drop hde0) (by omega) ?_
          dsimp only
          refine Calls.Constant_str ?_
          rw [hl32]
          refine PyProof.Rows.eq_str ?_
          refine wpAny_truthy_bool ?_
          rw [show ((⟨#[cf]⟩ : Str) == tx [32]) = false by simp [tx, hcf']]
          rw [if_neg (by decide)]
          intro htk18
          dsimp only at htk18 ⊢
          rw [List.append_nil] at hasp
          subst hasp
          refine wpAny_execs_cons ?_
          refine wpAny_If ?_
          refine wpAny_isTrue_Compare1 ?_
          refine Subscript_ ?_
          refine ld F17 e1 ?_
          refine wpAny_Slice ?_
          refine evalPart_some_step ?_
          refine ld F17 e5 ?_
          refine evalPart_some_step ?_
          refine wpAny_BinOp ?_
          refine ld F17 e5 ?_
          refine wpAny_Constant_int ?_
          refine add_int ?_
          refine evalPart_none_step ?_
          dsimp only
          rw [show ((e : Int) + 2) = ((e + 2 : Nat) : Int) by push_cast; rfl]
          refine wpAny_with_toks (n := 1) (by first | exact Nat.succ_pos _ | assumption | (dsimp only; omega)) ?_
          refine txt_mid (i := e) (j := e + 2) (by omega) (fun h18 t18 tk18 hk18 hpos18 => ?_) ?hs ?ht (by omega)
          case hs => rfl
          case ht => intro _; rfl
          try dsimp only at hpos18 ⊢
          rw [hde, show e + 2 - e = 2 by omega]
          have F18 := Fr.up F17 hk18
          have Z18 := Z17.up (Chg.up hk18)
          refine Calls.Constant_str ?_
          rw [hl4762]
          refine PyProof.Rows.eq_str ?_
          refine wpAny_truthy_bool ?_
          dsimp only
          have hsp : fin.length + (render rest).length = (render rest).length + fin.length := by omega
          have hat : ((render (done ++ [.opn [cc] as b])).length : Int) = ((e : Nat) : Int) + (fin.length : Int) := by
            rw [render_append, List.length_append, hd0, ← he0]; simp [render, Tk.r, hEnd]; omega
          cases b with
          | true =>
            obtain rfl : fin = [47, 62] := hEnd.symm
            rw [show (tx (List.take 2 (([] : List (List Nat × Cd)).flatMap attrR ++ ([47, 62] ++ render rest))) == tx [47, 62]) = true by simp]
            rw [if_pos rfl]
            refine wpAny_execs_cons ?_
            refine wpAny_Assign_Name ?_
            refine wpAny_BinOp ?_
            refine ld F18 e5 ?_
            refine wpAny_Constant_int ?_
            refine add_int ?_
            refine stL F18 (fun h19 F19 c19 => ?_)
            dsimp only
            have Z19 := (Zs.close Z18).loc c19
            refine wpAny_execs_nil ?_
            refine wpAny_execs_nil ?_
            refine wpAny_execs_nil ?_
            refine wpAny_execs_nil ?_
            refine hG _ _ _ _ (Or.inl rfl) (Nat.lt_succ_self _) ⟨_, done ++ [.opn [cc] as true], rest, { f with kids := f.kids ++ [dNode [cc] (as.map plainA) []] } :: fr, c, _, _, by rw [hsplit]; simp, rfl, F19, Z19, ?_, ?_, e1, e2, e3, by rw [hat]; rfl, ?_, ?_, ?_⟩
            · rw [run_append, ← hel]; rfl
            · exact hvr
            · exact hbot
            · simp only [List.length_append, List.length_cons, List.length_nil] at hfl ⊢; omega
            · intro k hk
              rw [List.length_append, List.length_singleton]
              rcases List.mem_cons.mp hk with rfl | hk
              · have := hkl f (.head _)
                simp only [List.length_append, List.length_singleton]; omega
              · have := hkl k (.tail _ hk); omega
          | false =>
            obtain rfl : fin = [62] := hEnd.symm
            rw [show (tx (List.take 2 (([] : List (List Nat × Cd)).flatMap attrR ++ ([62] ++ render rest))) == tx [47, 62]) = false by simp [tx]]
            rw [if_neg (by decide)]
            have hP18 := Z18.hled _ (.head _)
            refine wpAny_execs_cons ?_
            refine wpAny_Expr_any ?_
            refine MethodCall_ ?_
            refine ld F18 e2 ?_
            refine Calls.getMethod_list_append hP18 rfl rfl ?_
            refine callWith_method1 ?_
            refine spliced_more ?_
            refine ld F18 e6 ?_
            refine spliced_none ?_
            refine append_at hP18 (fun h19 hs19 ho19 => ?_) (by simp only [List.size_toArray, pathV, List.length_reverse, List.length_map]; rw [sizeLine_eq]; omega)
            dsimp only at hs19 ⊢
            rw [List.push_toArray] at ho19
            have Z18' : Zs s.heap L h18 ([] ++ (P, listOf (pathV (f :: fr)).toArray c) :: []) (⟨bN, bA, bK, [cc], as.map plainA, []⟩ :: f :: fr) := Z18
            have Z19 := Z18'.set (Chg.of hs19) ho19
            have F19 := Zs.frLed F18 Z18 (.head _) (Chg.of hs19)
            refine wpAny_execs_cons ?_
            refine wpAny_Assign_Name ?_
            refine wpAny_BinOp ?_
            refine ld F19 e5 ?_
            refine wpAny_Constant_int ?_
            refine add_int ?_
            refine stL F19 (fun h20 F20 c20 => ?_)
            dsimp only
            have Z20 := Z19.loc c20
            refine wpAny_execs_nil ?_
            refine wpAny_execs_nil ?_
            refine wpAny_execs_nil ?_
            refine wpAny_execs_nil ?_
            refine hG _ _ _ _ (Or.inl rfl) (Nat.lt_succ_self _) ⟨_, done ++ [.opn [cc] as false], rest, ⟨bN, bA, bK, [cc], as.map plainA, []⟩ :: f :: fr, c + 1, _, _, by rw [hsplit]; simp, rfl, F20, ?_, ?_, ?_, e1, e2, e3, by rw [hat]; rfl, ?_, ?_, ?_⟩
            · rw [pathV_cons]; exact Z20
            · rw [run_append, ← hel]; rfl
            · exact hvr
            · simpa using hbot
            · simp only [List.length_append, List.length_cons, List.length_nil] at hfl ⊢; omega
            · intro k hk
              rw [List.length_append, List.length_singleton]
              rcases List.mem_cons.mp hk with rfl | hk
              · simp
              · have := hkl k hk; omega
        | cons pr as2 =>
          obtain ⟨key, cs⟩ := pr
          have hmem : (key, cs) ∈ as := by rw [hasp]; exact List.mem_append.mpr (.inr (.head _))
          obtain ⟨⟨kk, hkk, nk61, nk34⟩, hcok, hc34⟩ := has _ hmem
          dsimp only at hkk hcok hc34
          subst hkk
          have hde1 : (render toks).drop e = [32, kk] ++ (61 :: [34]) ++ (spell cs ++ [34] ++ (as2.flatMap attrR ++ (fin ++ render rest))) := by rw [hde]; simp [attrR]
          have hde0 : (render toks).drop e = 32 :: ([kk] ++ (61 :: [34]) ++ (spell cs ++ [34] ++ (as2.flatMap attrR ++ (fin ++ render rest)))) := by rw [hde1]; rfl
          have hde4 : (render toks).drop (e + 4) = spell cs ++ (34 :: []) ++ (as2.flatMap attrR ++ (fin ++ render rest)) := by rw [← List.drop_drop, hde1]; simp
          have hde5 : (render toks).drop (e + 1) = kk :: (61 :: 34 :: (spell cs ++ [34] ++ (as2.flatMap attrR ++ (fin ++ render rest)))) := by rw [← List.drop_drop, hde1]; rfl
          have hlen5 : e + (4 + (spell cs).length + 1) ≤ (render toks).length := by
            have := congrArg List.length hde1
            simp only [List.length_drop, List.length_append, List.length_cons, List.length_nil] at this
            omega
          have hsl := spell_len hcok
          refine chr_at (i := e) (at_drop hde0) (by omega) ?_
          dsimp only
          refine Calls.Constant_str ?_
          rw [hl32]
          refine PyProof.Rows.eq_str ?_
          refine wpAny_truthy_bool ?_
          rw [show ((⟨#[32]⟩ : Str) == tx [32]) = true by simp]
          rw [if_pos rfl]
          dsimp only
          -- mark
          refine wpAny_execs_cons ?_
          refine wpAny_Assign_Name ?_
          refine MethodCall_ ?_
          refine ld F17 e1 ?_
          refine GM.find ?_
          refine callWith_method1 ?_
          refine spliced_more ?_
          refine Calls.Constant_str ?_
          dsimp only
          refine spliced_more ?_
          refine ld F17 e5 ?_
          refine spliced_none ?_
          rw [hl6134]
          refine SC.find3 ?_
          rw [find_at hde1 (by omega) (by simp [Ne.symm nk61])]
          dsimp only
          refine stL F17 (fun h18 F18 c18 => ?_)
          have Z18 := Z17.loc c18
          dsimp only
          -- shut
          refine wpAny_execs_cons ?_
          refine wpAny_Assign_Name ?_
          refine MethodCall_ ?_
          refine ld F18 e1 ?_
          refine GM.find ?_
          refine callWith_method1 ?_
          refine spliced_more ?_
          refine Calls.Constant_str ?_
          dsimp only
          refine spliced_more ?_
          refine wpAny_BinOp ?_
          refine ld F18 rfl ?_
          refine wpAny_Constant_int ?_
          refine add_int ?_
          refine spliced_none ?_
          dsimp only
          rw [show (((e + [32, kk].length : Nat) : Int) + 2) = ((e + 4 : Nat) : Int) by simp; omega]
          rw [hl34]
          refine SC.find3 ?_
          rw [find_at hde4 (by omega) (spell_free hc34)]
          dsimp only
          refine stL F18 (fun h19 F19 c19 => ?_)
          have Z19 := Z18.loc c19
          dsimp only
          -- neither is lacking
          refine wpAny_execs_cons ?_
          refine wpAny_If ?_
          refine isTrue_or ?_
          refine wpAny_isTrue_Compare1 ?_
          refine ld F19 rfl ?_
          refine wpAny_Constant_int ?_
          refine PyProof.Rows.lt_int ?_
          refine wpAny_truthy_bool ?_
          rw [decide_eq_false (by omega), if_neg (by decide)]
          dsimp only
          refine isTrue_or ?_
          refine wpAny_isTrue_Compare1 ?_
          refine ld F19 rfl ?_
          refine wpAny_Constant_int ?_
          refine PyProof.Rows.lt_int ?_
          refine wpAny_truthy_bool ?_
          rw [decide_eq_false (by omega), if_neg (by decide)]
          refine isTrue_or_nil ?_
          rw [if_neg (by decide)]
          refine wpAny_execs_nil ?_
          dsimp only
          obtain ⟨⟨⟨tn, c1, en⟩, nM, ⟨va, c2, ea, pa⟩, _⟩, _⟩ := id Z19.hang
          dsimp only at en nM ea pa
          -- append
          refine wpAny_execs_cons ?_
          refine wpAny_Expr_any ?_
          refine MethodCall_ ?_
          refine Subscript_ ?_
          refine ld F19 e6 ?_
          refine wpAny_Constant_int ?_
          refine item_litK (vs := [_, _, _]) ⟨_, en, rfl, _, rfl⟩ (by decide) (by decide) rfl ?_
          refine Calls.getMethod_list_append ea rfl rfl ?_
          refine callWith_method1 ?_
          refine spliced_more ?_
          refine Tuple_ ?_
          refine spliced_more ?_
          refine Subscript_ ?_
          refine ld F19 e1 ?_
          refine wpAny_Slice ?_
          refine evalPart_some_step ?_
          refine wpAny_BinOp ?_
          refine ld F19 e5 ?_
          refine wpAny_Constant_int ?_
          refine add_int ?_
          refine evalPart_some_step ?_
          refine ld F19 rfl ?_
          refine evalPart_none_step ?_
          dsimp only
          rw [show ((e : Int) + 1) = ((e + 1 : Nat) : Int) by push_cast; rfl]
          refine wpAny_with_toks (n := 1) (by first | exact Nat.succ_pos _ | assumption | (dsimp only; omega)) ?_
          refine txt_mid (i := e + 1) (j := e + [32, kk].length) (by simp) (fun h20 t20 tk20 hk20 hpos20 => ?_) ?hs ?ht (by omega)
          case hs => rfl
          case ht => intro _; rfl
          try dsimp only at hpos20 ⊢
          rw [hde5, show e + [32, kk].length - (e + 1) = 1 by simp, show ∀ l : List Nat, List.take 1 (kk :: l) = [kk] from fun _ => rfl]
          have F20 := Fr.up F19 hk20
          have Z20 := Z19.up (Chg.up hk20)
          refine spliced_more ?_
          refine Call_ ?_
          refine gname (Fr.bs F20 B) (by k_is) ?_ rfl rfl rfl (by decide)
          refine callWith_K (Fr.bs F20 B).X (by k_is) ?_
          refine spliced_more ?_
          refine Subscript_ ?_
          refine ld F20 e1 ?_
          refine wpAny_Slice ?_
          refine evalPart_some_step ?_
          refine wpAny_BinOp ?_
          refine ld F20 rfl ?_
          refine wpAny_Constant_int ?_
          refine add_int ?_
          refine evalPart_some_step ?_
          refine ld F20 rfl ?_
          refine evalPart_none_step ?_
          dsimp only
          rw [show (((e + [32, kk].length : Nat) : Int) + 2) = ((e + 4 : Nat) : Int) by simp; omega]
          refine wpAny_with_toks (n := 1) (by first | exact Nat.succ_pos _ | assumption | (dsimp only; omega)) ?_
          refine txt_mid (i := e + 4) (j := e + 4 + (spell cs).length) (by omega) (fun h21 t21 tk21 hk21 hpos21 => ?_) ?hs ?ht (by omega)
          case hs => rfl
          case ht => intro _; rfl
          try dsimp only at hpos21 ⊢
          rw [hde4, show e + 4 + (spell cs).length - (e + 4) = (spell cs).length by omega, List.append_assoc, List.take_left]
          have F21 := Fr.up F20 hk21
          have Z21 := Z20.up (Chg.up hk21)
          refine spliced_none ?_
          refine ⟨(Fr.bs F21 B).X, ?_⟩
          try dsimp only
          refine use (R := fun v _ => ∃ u, v = .str (tx (signs cs)) u) F21 News.nil (by first | exact Nat.succ_pos _ | assumption | omega | (dsimp only; omega)) (c_plain (Fr.bs F21 B) (by simp only [depth_deeper]; omega) hA (by simp only [Around.deeper_units]; omega) (by first | exact Nat.succ_pos _ | assumption | omega | (dsimp only; omega)) hcok (by omega) (by omega)) ?_
          rintro _ h22 tk22 ⟨u22, rfl⟩ F22 _ hk22 hpos22
          have Z22 := Z21.up (Chg.up hk22)
          dsimp only
          refine spliced_none ?_
          refine newT (fun bT h23 nT _ _ oT cT => ?_) (by rw [sizeLine_eq]; exact (by decide : 2 ≤ 16777216))
          dsimp only at nT cT ⊢
          refine spliced_none ?_
          have F23 := Fr.chg0 F22 cT
          have Z23 := Z22.up cT
          have c1923 : Chg ([] : List Addr) h19 h23 := fun a o ha q => cT a o ha (hk22 _ _ (hk21 _ _ (hk20 _ _ q)))
          have ea' := c1923 _ _ (by simp) ea
          have hva : va.length ≤ as.length := by
            rw [Paired.len pa, List.length_map, List.length_map]
            have := congrArg List.length hasp
            rw [List.length_append] at this; omega
          have hasl : as.length ≤ (render toks).length := by
            have := attrs_len as
            omega
          refine append_at ea' (fun h24 hs24 ho24 => ?_) (by simp only [List.size_toArray]; rw [sizeLine_eq]; omega)
          dsimp only at hs24 ⊢
          rw [List.push_toArray] at ho24
          have nT' := Z22.fresh F22 nT
          have hST : Sr _ h23 (.ref bT) (dAttr ([kk], signs cs)) := Sr.tuple oT rfl rfl nT' (.cons (Sr.str (tx [kk]) t20) (.cons (Sr.str (tx (signs cs)) u22) .nil))
          have Z24 := Z23.attr (a2 := (as1 ++ [([kk], cs)]).map plainA) ho24 (Chg.of hs24) (by
            rw [List.map_append, List.map_append]
            exact Paired.snoc (Paired.imp (fun _ _ x => x.chg (D := []) (by simp) c1923) pa) hST)
          have F24 := Zs.fr F23 (Z23.mutL bA (.head _)) (Z23.mnew bA (.head _)) (Chg.of hs24)
          refine wpAny_execs_cons ?_
          refine wpAny_Assign_Name ?_
          refine wpAny_BinOp ?_
          refine ld F24 rfl ?_
          refine wpAny_Constant_int ?_
          refine add_int ?_
          refine stL F24 (fun h25 F25 c25 => ?_)
          dsimp only
          have Z25 := Z24.loc c25
          refine wpAny_execs_nil ?_
          have hat : ((d + 2 + ((as1 ++ [([kk], cs)]).flatMap attrR).length : Nat) : Int) = ((e + 4 + (spell cs).length : Nat) : Int) + 1 := by
            rw [← he0, List.flatMap_append, List.length_append]; simp [attrR]; omega
          exact hG3 _ _ _ _ (Or.inl rfl) (Nat.lt_succ_self _) ⟨_, as1 ++ [([kk], cs)], as2, _, by rw [hasp]; simp, rfl, F25, Z25, e1, e2, e3, e6, by rw [hat]; rfl⟩
theorem c_read {w : World} {A : Around} {s : Shared} {E : Value → Shared → Prop} {mg mb : Str → Option Value} {toks : List Tk} {t : Tok} {kids : List PyData}
    (B : Bs w mg mb s.heap) (hroom : A.depth + 20 < recursionLimit) (hA : A.handled = none) (hu : A.units + 200 < cLine) (hpos : 0 < s.toks) (hlen : (render toks).length ≤ 100000) (hlen2 : toks.length ≤ 1000)
    (hv : Valid [⟨[], [], []⟩] toks) (hrun : run [⟨[], [], []⟩] toks = [⟨[], [], kids⟩]) :
    wpAny (model Challenge.rw_nb0384_02.row.prog w) A (call (.ref 92) [.str (tx (render toks)) t]) (fun v s' => Keeps s s' ∧ ∃ D as, v = .ref D ∧ Reads s'.heap (.ref D) (.list kids) as) E s :=
  c_readO B hroom hA hu hpos hlen hlen2 hv hrun (fun _ _ a b => ⟨a, b⟩)
end Mine
end
section
open PySem PySem.W PyProof.Rows
set_option maxRecDepth 100000
set_option maxHeartbeats 400000
namespace Mine
noncomputable def okD (c : Nat) (d : PyData) : Prop := d.canLay0 = true ∧ d.depth ≤ 2 * c + 4 ∧ ((∃ x, d = .str x) ∨ ∃ xs, d = .list xs)
noncomputable def ElOk (c : Nat) (f : El) : Prop := okL f.name ∧ (∀ p ∈ f.attrs, okL p.1 ∧ okL p.2) ∧ ∀ d ∈ f.kids, okD c d
theorem okL_str {l : List Nat} (h : okL l) : PyData.canLay0 (.str (tx l)) = true := by
  rw [PyData.canLay0]
  unfold PyData.strOk
  simp only [tx, Array.all_eq_true']
  simp
  intro c hc
  have := h c hc
  omega
theorem okD_str {c : Nat} {l : List Nat} (h : okL l) : okD c (.str (tx l)) := ⟨okL_str h, by simp [PyData.depth], .inl ⟨_, rfl⟩⟩
theorem okD_app {c : Nat} {a b : List Nat} (ha : okD c (.str (tx a))) (hb : okL b) : okD c (.str (tx (a ++ b))) := by
  refine ⟨?_, by simp [PyData.depth], .inl ⟨_, rfl⟩⟩
  have h1 := ha.1
  have h2 := okL_str hb
  rw [PyData.canLay0] at h1 h2 ⊢
  unfold PyData.strOk at h1 h2 ⊢
  simp only [tx, Array.all_eq_true'] at h1 h2 ⊢
  simp at h1 h2 ⊢
  intro c hc
  rcases hc with hc | hc
  · exact h1 c hc
  · exact h2 c hc
theorem canAll {ds : List PyData} (h : ∀ d ∈ ds, d.canLay0 = true) : PyData.canLayAll0 ds = true := by
  induction ds with
  | nil => rfl
  | cons d r ih => rw [PyData.canLayAll0, h d (.head _), ih fun x hx => h x (.tail _ hx)]; rfl
theorem depAll {ds : List PyData} {b : Nat} (h : ∀ d ∈ ds, d.depth ≤ b) : PyData.depthAll ds ≤ b := by
  induction ds with
  | nil => simp [PyData.depthAll]
  | cons d r ih =>
    rw [PyData.depthAll]
    have h1 := h d (.head _)
    have h2 := ih fun x hx => h x (.tail _ hx)
    omega
theorem ElOk.d {c : Nat} {f : El} (h : ElOk c f) : okD (c + 1) f.d := by
  obtain ⟨h1, h2, h3⟩ := h
  refine ⟨?_, ?_, .inr ⟨_, rfl⟩⟩
  · unfold El.d dNode
    rw [PyData.canLay0]
    refine canAll fun d hd => ?_
    simp only [List.mem_cons, List.not_mem_nil, or_false] at hd
    rcases hd with rfl | rfl | rfl
    · exact okL_str h1
    · rw [PyData.canLay0]
      refine canAll fun d hd => ?_
      obtain ⟨p, hp, rfl⟩ := List.mem_map.mp hd
      unfold dAttr
      rw [PyData.canLay0]
      refine canAll fun d hd => ?_
      simp only [List.mem_cons, List.not_mem_nil, or_false] at hd
      rcases hd with rfl | rfl
      · exact okL_str (h2 p hp).1
      · exact okL_str (h2 p hp).2
    · rw [PyData.canLay0]
      exact canAll fun d hd => (h3 d hd).1
  · unfold El.d dNode
    rw [PyData.depth]
    have : PyData.depthAll [.str (tx f.name), .list (f.attrs.map dAttr), .list f.kids] ≤ 2 * c + 5 := by
      refine depAll fun d hd => ?_
      simp only [List.mem_cons, List.not_mem_nil, or_false] at hd
      rcases hd with rfl | rfl | rfl
      · simp [PyData.depth]
      · rw [PyData.depth]
        have : PyData.depthAll (f.attrs.map dAttr) ≤ 1 := by
          refine depAll fun d hd => ?_
          obtain ⟨p, hp, rfl⟩ := List.mem_map.mp hd
          simp [dAttr, PyData.depth, PyData.depthAll]
        omega
      · rw [PyData.depth]
        have : PyData.depthAll f.kids ≤ 2 * c + 4 := depAll fun d hd => (h3 d hd).2.1
        omega
    omega
theorem okD.mono {c c' : Nat} {d : PyData} (h : okD c d) (hc : c ≤ c') : okD c' d := ⟨h.1, Nat.le_trans h.2.1 (by omega), h.2.2⟩
theorem ElOk.mono {c c' : Nat} {f : El} (h : ElOk c f) (hc : c ≤ c') : ElOk c' f := ⟨h.1, h.2.1, fun d hd => (h.2.2 d hd).mono hc⟩
noncomputable abbrev B0 : El := ⟨[], [], []⟩
noncomputable def pend (cs : Cd) (st : List El) : List El := if cs = [] then st else addKid (.str (tx (signs cs))) st
noncomputable def flush (cs : Cd) : List Tk := if cs = [] then [] else [.txt cs]
noncomputable def CsOk (cs : Cd) : Prop := (∀ q ∈ cs, CodeOk q) ∧ (∀ q ∈ cs, 60 ∉ q.1)
theorem Valid.app {a b : List Tk} : ∀ {st : List El}, Valid st a → Valid (run st a) b → Valid st (a ++ b) := by
  induction a with
  | nil => intro st _ h; exact h
  | cons t r ih =>
    intro st h1 h2
    refine ⟨?_, ih h1.2 h2⟩
    have h3 := h1.1
    cases t with
    | opn n as b => exact h3
    | cls n => exact h3
    | txt cs =>
      obtain ⟨q1, q2, q3, q4, t', r', e, q5⟩ := h3
      exact ⟨q1, q2, q3, q4, t', r' ++ b, by rw [e]; rfl, q5⟩
theorem render_flush (cs : Cd) : render (flush cs) = spell cs := by
  unfold flush
  split
  · rename_i h; subst h; rfl
  · simp [render, Tk.r]
theorem run_flush (cs : Cd) (st : List El) : run st (flush cs) = pend cs st := by
  unfold flush pend
  split <;> rfl
theorem flush_len (cs : Cd) : (flush cs).length ≤ 1 := by unfold flush; split <;> simp
/-- a token more, the text ahead of it told -/
theorem emit {toks : List Tk} {cs : Cd} {S : List El} {t : Tk} (hv : Valid [B0] toks) (hc : CsOk cs) (hr : pend cs (run [B0] toks) = S) (hS : S ≠ []) (ht : ∀ cs', t ≠ .txt cs') (hok : TkOk S t []) :
    Valid [B0] (toks ++ (flush cs ++ [t])) ∧ run [B0] (toks ++ (flush cs ++ [t])) = step S t ∧ render (toks ++ (flush cs ++ [t])) = render toks ++ spell cs ++ t.r ∧ (toks ++ (flush cs ++ [t])).length ≤ toks.length + 2 := by
  refine ⟨?_, ?_, ?_, ?_⟩
  · refine hv.app ?_
    have hok' : ∀ r, TkOk S t r := by
      intro r
      cases t with
      | opn n as b => exact hok
      | cls n => exact hok
      | txt cs => exact absurd rfl (ht cs)
    unfold flush
    unfold pend at hr
    split at hr
    · rename_i h
      rw [if_pos h]
      rw [hr]
      exact ⟨hok' _, trivial⟩
    · rename_i h
      rw [if_neg h]
      have hne : run [B0] toks ≠ [] := by
        intro e; rw [e] at hr; exact hS hr.symm
      refine ⟨⟨h, hc.1, hc.2, hne, t, [], rfl, ht⟩, ?_, trivial⟩
      show TkOk (addKid _ (run [B0] toks)) t []
      rw [hr]; exact hok
  · rw [run_append, run_append, run_flush, hr]; rfl
  · rw [render_append, render_append, render_flush, ← List.append_assoc]; simp [render]
  · have := flush_len cs
    simp only [List.length_append, List.length_singleton]; omega
/-- no text stands last -/
noncomputable def NoLast : List El → Prop
  | [] => True
  | f :: _ => ∀ x, f.kids.getLast? ≠ some (.str x)
/-- what one who writes knows: the tokens written, the text behind them, and, while the start isn't ended, the open start -/
structure WF (n : Nat) (page : List Nat) (st : List El) : Prop where
  ex : ∃ (toks : List Tk) (cs : Cd) (name : List Nat) (as : List (List Nat × Cd)) (st' : List El), Valid [B0] toks ∧ CsOk cs ∧ pend cs (run [B0] toks) = st' ++ [B0] ∧ page = render toks ++ spell cs ++ (60 :: name ++ as.flatMap attrR) ∧ st = ⟨name, as.map plainA, []⟩ :: st' ∧ NameOk name ∧ (∀ p ∈ as, AttrOk p) ∧ toks.length ≤ n
structure WN (n : Nat) (page : List Nat) (st : List El) : Prop where
  ex : ∃ (toks : List Tk) (cs : Cd), Valid [B0] toks ∧ CsOk cs ∧ pend cs (run [B0] toks) = st ++ [B0] ∧ page = render toks ++ spell cs ∧ toks.length ≤ n ∧ ((cs = [] ∧ NoLast st) ∨ (cs ≠ [] ∧ ∃ f r k, st = f :: r ∧ f.kids = k ++ [.str (tx (signs cs))] ∧ run [B0] toks = { f with kids := k } :: r ++ [B0]))
theorem addKid_app {d : PyData} {st : List El} (h : st ≠ []) (b : List El) : addKid d (st ++ b) = addKid d st ++ b := by
  cases st with
  | nil => exact absurd rfl h
  | cons f r => rfl
theorem app_ne {st : List El} : st ++ [B0] ≠ [] := by cases st <;> simp
theorem WF.start : WF 0 [60, 114] [⟨[114], [], []⟩] :=
  ⟨[], [], [114], [], [], trivial, ⟨by simp, by simp⟩, rfl, rfl, rfl, ⟨114, rfl, by decide, by decide, by decide⟩, by simp, Nat.le_refl _⟩
theorem WF.done {n : Nat} {page : List Nat} {st : List El} (h : WF n page st) : WN (n + 2) (page ++ [62]) st := by
  obtain ⟨toks, cs, name, as, st', h1, h2, h3, rfl, rfl, h4, h5, h6⟩ := h
  obtain ⟨a1, a2, a3, a4⟩ := emit (t := .opn name as false) h1 h2 h3 app_ne (by simp) ⟨h4, h5, app_ne⟩
  refine ⟨_, [], a1, ⟨by simp, by simp⟩, ?_, ?_, Nat.le_trans a4 (by omega), .inl ⟨rfl, ?_⟩⟩
  · rw [a2]; rfl
  · rw [a3]; simp [Tk.r, spell]
  · intro x; simp
theorem WF.opens {n : Nat} {page : List Nat} {st : List El} {name : List Nat} (h : WF n page st) (hn : NameOk name) : WF (n + 2) (page ++ [62] ++ (60 :: name)) (⟨name, [], []⟩ :: st) := by
  obtain ⟨toks, cs, h1, h2, h3, h4, h5, _⟩ := h.done
  exact ⟨toks, cs, name, [], st, h1, h2, h3, by rw [h4]; simp, rfl, hn, by simp, h5⟩
theorem WN.opens {n : Nat} {page : List Nat} {st : List El} {name : List Nat} (h : WN n page st) (hn : NameOk name) : WF (n + 2) (page ++ (60 :: name)) (⟨name, [], []⟩ :: st) := by
  obtain ⟨toks, cs, h1, h2, h3, h4, h5, _⟩ := h
  exact ⟨toks, cs, name, [], st, h1, h2, h3, by rw [h4]; simp, rfl, hn, by simp, Nat.le_trans h5 (by omega)⟩
theorem NoLast.add {d : PyData} (h : ∀ x, d ≠ .str x) : ∀ st, NoLast (addKid d st)
  | [] => trivial
  | f :: r => by intro x; simpa [addKid] using fun e => h x e
theorem El.d_ne (f : El) (x : Str) : f.d ≠ .str x := by intro e; cases e
theorem WF.closes {n : Nat} {page : List Nat} {f : El} {st : List El} (h : WF n page (f :: st)) (hs : st ≠ []) : WN (n + 2) (page ++ [47, 62]) (addKid f.d st) := by
  obtain ⟨toks, cs, name, as, st', h1, h2, h3, rfl, e, h4, h5, h6⟩ := h
  injection e with e1 e2
  subst e1; subst e2
  obtain ⟨a1, a2, a3, a4⟩ := emit (t := .opn name as true) h1 h2 h3 app_ne (by simp) ⟨h4, h5, app_ne⟩
  refine ⟨_, [], a1, ⟨by simp, by simp⟩, ?_, ?_, Nat.le_trans a4 (by omega), .inl ⟨rfl, NoLast.add (El.d_ne _) _⟩⟩
  · rw [a2, ← addKid_app hs]; rfl
  · rw [a3]; simp [Tk.r, spell]
theorem WN.closes {n : Nat} {page : List Nat} {f : El} {st : List El} (h : WN n page (f :: st)) (hs : st ≠ []) (hn : NameOk f.name) : WN (n + 2) (page ++ ([60, 47] ++ f.name ++ [62])) (addKid f.d st) := by
  obtain ⟨toks, cs, h1, h2, h3, rfl, h5, _⟩ := h
  obtain ⟨g, r, rfl⟩ : ∃ g r, st = g :: r := by
    cases st with
    | nil => exact absurd rfl hs
    | cons g r => exact ⟨g, r, rfl⟩
  obtain ⟨a1, a2, a3, a4⟩ := emit (t := .cls f.name) h1 h2 h3 app_ne (by simp) ⟨hn, f, g, r ++ [B0], rfl, rfl⟩
  refine ⟨_, [], a1, ⟨by simp, by simp⟩, ?_, ?_, Nat.le_trans a4 (by omega), .inl ⟨rfl, NoLast.add (El.d_ne _) _⟩⟩
  · rw [a2]; rfl
  · rw [a3]; simp [Tk.r, spell]
/-- the end: the root is closed -/
theorem WF.final {n : Nat} {page : List Nat} {f : El} (h : WF n page [f]) : ∃ toks, Valid [B0] toks ∧ run [B0] toks = [⟨[], [], [f.d]⟩] ∧ page ++ [47, 62] = render toks ∧ toks.length ≤ n + 2 := by
  obtain ⟨toks, cs, name, as, st', h1, h2, h3, rfl, e, h4, h5, h6⟩ := h
  injection e with e1 e2
  subst e1; subst e2
  obtain ⟨a1, a2, a3, a4⟩ := emit (t := .opn name as true) h1 h2 h3 app_ne (by simp) ⟨h4, h5, app_ne⟩
  refine ⟨_, a1, ?_, ?_, Nat.le_trans a4 (by omega)⟩
  · rw [a2]; rfl
  · rw [a3]; simp [Tk.r]
theorem WN.final {n : Nat} {page : List Nat} {f : El} (h : WN n page [f]) (hn : NameOk f.name) : ∃ toks, Valid [B0] toks ∧ run [B0] toks = [⟨[], [], [f.d]⟩] ∧ page ++ ([60, 47] ++ f.name ++ [62]) = render toks ∧ toks.length ≤ n + 2 := by
  obtain ⟨toks, cs, h1, h2, h3, rfl, h5, _⟩ := h
  obtain ⟨a1, a2, a3, a4⟩ := emit (t := .cls f.name) h1 h2 h3 app_ne (by simp) ⟨hn, f, B0, [], rfl, rfl⟩
  refine ⟨_, a1, ?_, ?_, Nat.le_trans a4 (by omega)⟩
  · rw [a2]; rfl
  · rw [a3]; simp [Tk.r]
/-- an attribute -/
theorem WF.attr {n : Nat} {page : List Nat} {f : El} {st : List El} {p : List Nat × Cd} (h : WF n page (f :: st)) (hp : AttrOk p) : WF n (page ++ attrR p) ({ f with attrs := f.attrs ++ [plainA p] } :: st) := by
  obtain ⟨toks, cs, name, as, st', h1, h2, h3, rfl, e, h4, h5, h6⟩ := h
  injection e with e1 e2
  subst e1; subst e2
  refine ⟨toks, cs, name, as ++ [p], st, h1, h2, h3, by simp, by simp, h4, ?_, h6⟩
  intro q hq
  rcases List.mem_append.mp hq with hq | hq
  · exact h5 q hq
  · rw [List.mem_singleton.mp hq]; exact hp
/-- a text, behind no text -/
theorem WN.textNew {n : Nat} {page : List Nat} {f : El} {st : List El} {cs' : Cd} (h : WN n page (f :: st)) (hc : CsOk cs') (hne : cs' ≠ []) (hno : ∀ x, f.kids.getLast? ≠ some (.str x)) : WN n (page ++ spell cs') ({ f with kids := f.kids ++ [.str (tx (signs cs'))] } :: st) := by
  obtain ⟨toks, cs, h1, h2, h3, rfl, h5, h6 | ⟨_, f', r, k, e, hk, _⟩⟩ := h
  · obtain ⟨rfl, _⟩ := h6
    have h3' : run [B0] toks = f :: st ++ [B0] := h3
    refine ⟨toks, cs', h1, hc, ?_, ?_, h5, .inr ⟨hne, _, _, f.kids, rfl, rfl, h3'⟩⟩
    · unfold pend; rw [if_neg hne, h3']; rfl
    · simp [spell]
  · injection e with e1 e2
    subst e1
    rw [hk] at hno
    exact absurd (by simp) (hno (tx (signs cs)))
/-- an empty text -/
theorem WN.textNone {n : Nat} {page : List Nat} {st : List El} (h : WN n page st) : WN n (page ++ spell []) st := by
  have : page ++ spell [] = page := by simp [spell]
  rw [this]; exact h
/-- a text, behind a text -/
theorem WN.textMore {n : Nat} {page : List Nat} {f : El} {st : List El} {cs' : Cd} {x : Str} {k : List PyData} (h : WN n page (f :: st)) (hc : CsOk cs') (hk : f.kids = k ++ [.str x]) : ∃ l, x = tx l ∧ l.length ≤ page.length ∧ WN n (page ++ spell cs') ({ f with kids := k ++ [.str (tx (l ++ signs cs'))] } :: st) := by
  obtain ⟨toks, cs, h1, h2, h3, rfl, h5, ⟨_, h6⟩ | ⟨hne, f', r, k', e, hk', hr⟩⟩ := h
  · exact absurd (by rw [hk]; simp) (h6 x)
  · injection e with e1 e2
    subst e1; subst e2
    rw [hk] at hk'
    have e3 := List.append_inj' hk' rfl
    obtain ⟨rfl, e4⟩ := e3
    obtain rfl : x = tx (signs cs) := by simpa using e4
    refine ⟨signs cs, rfl, ?_, toks, cs ++ cs', h1, ⟨?_, ?_⟩, ?_, ?_, h5, .inr ⟨?_, _, _, k, rfl, ?_, hr⟩⟩
    · have := spell_len h2.1
      rw [List.length_append]
      simp only [signs, List.length_map]; omega
    · intro q hq
      rcases List.mem_append.mp hq with hq | hq
      · exact h2.1 q hq
      · exact hc.1 q hq
    · intro q hq
      rcases List.mem_append.mp hq with hq | hq
      · exact h2.2 q hq
      · exact hc.2 q hq
    · unfold pend
      rw [if_neg (by simp [hne]), hr, signs_append]
      rfl
    · rw [spell_append, List.append_assoc]
    · simp [hne]
    · rw [signs_append]
theorem WF.mono {n n' : Nat} {page : List Nat} {st : List El} (h : WF n page st) (hn : n ≤ n') : WF n' page st := by
  obtain ⟨toks, cs, name, as, st', h1, h2, h3, h4, h5, h6, h7, h8⟩ := h
  exact ⟨toks, cs, name, as, st', h1, h2, h3, h4, h5, h6, h7, Nat.le_trans h8 hn⟩
theorem WN.mono {n n' : Nat} {page : List Nat} {st : List El} (h : WN n page st) (hn : n ≤ n') : WN n' page st := by
  obtain ⟨toks, cs, h1, h2, h3, h4, h5, h6⟩ := h
  exact ⟨toks, cs, h1, h2, h3, h4, Nat.le_trans h5 hn, h6⟩
theorem sp1_60 {n : Int} (h0 : 0 ≤ n) (h4 : n < 4) (c : Nat) : 60 ∉ sp1 n c := by
  by_cases hs : isSpec c
  · rcases (by omega : n = 0 ∨ n = 1 ∨ n = 2 ∨ n = 3) with rfl | rfl | rfl | rfl
    all_goals rcases hs with rfl | rfl | rfl | rfl | rfl | rfl | rfl
    all_goals decide
  · rw [sp1_plain hs]
    unfold isSpec at hs
    simp; omega
theorem sp1_34 {n : Int} (h0 : 2 ≤ n) (h5 : n < 5) (c : Nat) : 34 ∉ sp1 n c := by
  by_cases hs : isSpec c
  · rcases (by omega : n = 2 ∨ n = 3 ∨ n = 4) with rfl | rfl | rfl
    all_goals rcases hs with rfl | rfl | rfl | rfl | rfl | rfl | rfl
    all_goals decide
  · rw [sp1_plain hs]
    unfold isSpec at hs
    simp; omega
theorem coded_cs {n : Int} (h0 : 0 ≤ n) (h4 : n < 4) (l : List Nat) : CsOk (coded n l) := by
  refine ⟨coded_ok h0 (by omega) l, ?_⟩
  intro q hq
  obtain ⟨c, _, rfl⟩ := List.mem_map.mp hq
  exact sp1_60 h0 h4 c
theorem coded_at {n : Int} {k : Nat} (h0 : 2 ≤ n) (h5 : n < 5) (l : List Nat) (hk : k ≠ 61) (hk' : k ≠ 34) : AttrOk ([k], coded n l) := by
  refine ⟨⟨k, rfl, hk, hk'⟩, coded_ok (by omega) h5 l, ?_⟩
  intro q hq
  obtain ⟨c, _, rfl⟩ := List.mem_map.mp hq
  exact sp1_34 h0 h5 c
end Mine
end
section
open PySem PySem.W PyProof.Rows
set_option maxRecDepth 100000
set_option maxHeartbeats 400000
namespace Mine
noncomputable def e0 : Heap := { objs := #[] }
theorem e0_get (a : Addr) : e0.get? a = none := by
  cases e : e0.get? a with
  | none => rfl
  | some o => exact absurd (Heap.lt_size e) (Nat.not_lt_zero _)
theorem Fr.e0 {h₀ h : Heap} {L : Addr} {m : Str → Option Value} (F : Fr h₀ L h m) : Fr Mine.e0 L h m := ⟨F.ns, fun b o e => (by rw [e0_get] at e; cases e), Nat.zero_le _⟩
/-- all objects, but one -/
noncomputable def full (L : Addr) (h : Heap) : List (Addr × Obj) := (List.range h.objs.size).filterMap fun a => if a = L then none else (h.get? a).map fun o => (a, o)
theorem full_mem {L : Addr} {h : Heap} {a : Addr} {o : Obj} (e : h.get? a = some o) (hL : a ≠ L) : (a, o) ∈ full L h := by
  refine List.mem_filterMap.mpr ⟨a, List.mem_range.mpr (Heap.lt_size e), ?_⟩
  rw [if_neg hL, e]; rfl
theorem full_news {L : Addr} {h : Heap} : News e0 L h (full L h) := by
  intro p hp
  obtain ⟨a, _, e⟩ := List.mem_filterMap.mp hp
  split at e
  · cases e
  · rename_i hL
    cases q : h.get? a with
    | none => rw [q] at e; cases e
    | some o =>
      rw [q] at e
      injection e with e
      subst e
      exact ⟨q, hL, e0_get _⟩
theorem full_chg {L : Addr} {h h' : Heap} (N : News e0 L h' (full L h)) : Chg [L] h h' := fun a o ha e => (N (a, o) (full_mem e (by simpa using ha))).1
theorem Zs.noteL {h₀ h h' : Heap} {L a : Addr} {m : Str → Option Value} {led : List (Addr × Obj)} {fs : List Fm} {o : Obj} (Z : Zs h₀ L h led fs) (F : Fr h₀ L h m) (ha : h.get? a = none) (c : Chg [L] h h') (ho : h'.get? a = some o) : Zs h₀ L h' ((a, o) :: led) fs := by
  have hf := Z.fresh F ha
  have Z' := Z.loc c
  have h0 : h₀.get? a = none := by
    cases e : h₀.get? a with
    | none => rfl
    | some o' => have := F.keep _ _ e; rw [ha] at this; cases this
  have nd := List.nodup_cons.mp Z.nd
  refine ⟨?_, ?_, Z.mnew, ?_, ?_⟩
  · intro p hp
    rcases List.mem_cons.mp hp with rfl | hp
    · exact ho
    · exact Z'.hled p hp
  · intro p hp
    rcases List.mem_cons.mp hp with rfl | hp
    · exact h0
    · exact Z.lnew p hp
  · refine List.nodup_cons.mpr ⟨?_, List.nodup_cons.mpr ⟨fun q => hf (.tail _ q), nd.2⟩⟩
    intro q
    rcases List.mem_cons.mp q with q | q
    · exact hf (q ▸ .head _)
    · exact nd.1 q
  · have Hh : Hang (allM L ((a, o) :: led) fs) h fs [] := Hang.grow (M := allM L led fs) (by
      intro b hb
      rcases List.mem_cons.mp hb with rfl | hb
      · exact .inl (.head _)
      · rcases List.mem_cons.mp hb with rfl | hb
        · exact .inr ha
        · exact .inl (.tail _ hb)) Z.hang
    exact Hh.chg (by intro b hb; rw [List.mem_singleton.mp hb]; exact .head _) c (by
      intro b hb q
      exact Z.mutL b q (List.mem_singleton.mp hb))
theorem Fr.chgL {h₀ h h' : Heap} {L : Addr} {m : Str → Option Value} (F : Fr h₀ L h m) (hn : h'.Ns L m) (c : Chg [L] h h') : Fr h₀ L h' m := Fr.setA F hn fun b o hb e => c b o (by simpa using hb) e
section
variable {prog : Program} {w : World} {A : Around} {E : Value → Shared → Prop} {s : Shared} {env : Env}
noncomputable def PairAt (h : Heap) (v : Value) : Prop := ∃ t o x y tx ty n, v = .ref t ∧ h.get? t = some o ∧ o.cls = .type "tuple" ∧ o.data = .seq #[.str x tx, .str y ty] n
open LCg LCp in
theorem evKeys {iter : Expr} {a b : Str} {pe pa pb tp : Pos} {kk : Nat} {scope : Scope} {cl : List (Str × Addr)} {pos : Pos} {L : Addr} {m : Str → Option Value} {Q : Value → Shared → Prop}
    (F : Fr e0 L s.heap m) (hh : A.handled = none)
    (hclos : closureFor scope env = pure cl) (hcell : ∀ y ∈ scope.names, y.2 ≠ .cell) (hkind : scope.kind = .function)
    (hnames : ∀ y ∈ scope.names, y.2 = .local → scope.names.lookup y.1 = some .local) (hx : scope.names.lookup a = some .local) (hx₂ : scope.names.lookup b = some .local) (hxx : a ≠ b)
    (k1 : ∀ C, (compEnvC scope cl C env).scope.kind = .function) (k2 : ∀ C, (compEnvC scope cl C env).kindOf a = some .local) (hd : (a == ("__debug__" : Str)) = false)
    (h : wpAny (model prog w) A (eval iter env) (fun xv s₁ => ∃ (ax : Addr) (vs : List Value) (n : Nat), xv = .ref ax ∧ Fr e0 L s₁.heap m ∧ s₁.heap.get? ax = some (listOf vs.toArray n) ∧ vs.length ≤ 1000 ∧ (∀ v ∈ vs, PairAt s₁.heap v) ∧
      ∀ D h' tk (ys : List Value), h'.Ns L m → Chg [L] s₁.heap h' → h'.get? D = some (lst ys) → (∀ y ∈ ys, ∃ x t, y = .str x t) → Q (.ref D) { s₁ with heap := h', toks := tk }) E s)
    (hs : ∀ x, foldedSetIterable iter env x = pure x := by intro _; rfl) :
    wpAny (model prog w) A (eval (.ListComp (.Name a pe) [⟨.Tuple [.Name a pa, .Name b pb] kk tp, iter, [], 0⟩] scope pos) env) Q E s := by
  refine ListComp_P F hclos hcell hkind hnames hx hx₂ hxx (wpAny_mono h (fun xv s₁ h₁ => ?_) fun _ _ e => e) hs
  obtain ⟨ax, vs, n, rfl, F1, hl, hlen, hp, hQ⟩ := h₁
  obtain ⟨oL, esL, epL, hL, hdL, _⟩ := id F1.ns
  have notL : ∀ {t : Addr} {o : Obj} {q : Array Value} {n : Nat}, s₁.heap.get? t = some o → o.data = .seq q n → t ≠ L := by
    rintro t o q n e1 e2 rfl
    rw [hL] at e1; injection e1 with e1
    subst e1; rw [hdL] at e2; cases e2
  refine SrcLP.ledger (k := n) hh F1 full_news (full_mem hl (notL hl rfl)) (by simp only [List.size_toArray]; rw [sizeLine_eq]; omega) ?_
  intro g
  have go : ∀ k i ys, i + k = vs.toArray.size → (∀ y ∈ ys, ∃ x t, y = Value.str x t) → CompRestP prog w A e0 L m env (.Name a pe) a b scope cl { s₁ with heap := g } (SrcAt e0 ax vs.toArray) (fun i v => vs.toArray[i]? = some v) (FinE e0 L m { s₁ with heap := g } Q) k i ys (full L s₁.heap) := by
    intro k
    induction k with
    | zero =>
      intro i ys _ hys D h' tk F' N' _
      refine hQ D h' tk ys F'.ns (full_chg fun p hp => N' p (.tail _ hp)) (N' (D, lst ys) (.head _)).1 hys
    | succ k ih =>
      intro i ys hik hys v hv
      obtain ⟨t, o, x, y, tx', ty', nt, rfl, e1, e2, e3⟩ := hp v (by
        have := List.mem_of_getElem? (by simpa using hv : vs[i]? = some v)
        exact this)
      refine ⟨t, o, _, _, nt, rfl, full_mem e1 (notL e1 e3), e2, e3, ?_⟩
      intro I oI C oC D m₂ h tk E' hC hma hmb Fh Nh off hne
      refine wpAny_Name (wpAny_loadName_local (k1 C) (k2 C) (hC.ns (Nh (C, oC) (.tail _ (.head _))).1) hma ?_) hd
      refine ⟨h, tk, _, rfl, Fh, Nh, off, .inr ⟨_, full_mem hl (notL hl rfl), rfl, _, rfl⟩, ih (i + 1) _ (by omega) ?_⟩
      intro z hz
      rcases List.mem_append.mp hz with hz | hz
      · exact hys z hz
      · rw [List.mem_singleton.mp hz]; exact ⟨_, _, rfl⟩
  exact go _ 0 [] (by omega) (by simp)
theorem addR {h₀ : Heap} {L a b : Addr} {m : Str → Option Value} {va vb : List Value} {Q : Value → Shared → Prop} (F : Fr h₀ L s.heap m) (ha : s.heap.IsList a va.toArray) (hb : s.heap.IsList b vb.toArray)
    (h : ∀ D h', Fr h₀ L h' m → Chg [L] s.heap h' → s.heap.get? D = none → h'.get? D = some (listOf (va ++ vb).toArray 0) → Q (.ref D) { s with heap := h' }) (hsz : va.length + vb.length ≤ 1000) :
    wpAny (model prog w) A (binaryOp .Add (.ref a) (.ref b)) Q E s := by
  refine add_lists (Fr.e0 F) full_news ha hb (fun h' F' N' => ?_) (by rw [sizeLine_eq]; omega)
  have c := full_chg (fun p hp => N' p (.tail _ hp))
  exact h _ h' (Fr.chgL F F'.ns c) c (fresh_size _) (N' _ (.head _)).1
theorem Sr.pair {M : List Addr} {h : Heap} {v : Value} {p : List Nat × List Nat} (x : Sr M h v (dAttr p)) : PairAt h v := by
  obtain ⟨as, r⟩ := x.reads
  unfold dAttr at r
  cases r with
  | tuple e1 e2 e3 r =>
    rename_i a o vs n
    generalize hq : vs.toList = q at r
    cases r with
    | cons r1 r2 =>
      cases r1
      cases r2 with
      | cons r3 r4 =>
        cases r3
        cases r4
        rename_i u1 u2
        have hq' : vs = [Value.str (tx p.1) u1, Value.str (tx p.2) u2].toArray := by rw [← hq]
        rw [hq'] at e3
        exact ⟨a, o, _, _, _, _, n, rfl, e1, e2, e3⟩
theorem Paired.left {α β : Type} {F : α → β → Prop} {a : α} : ∀ {l : List α} {r : List β}, Paired F l r → a ∈ l → ∃ b ∈ r, F a b
  | _, _, .nil, h => nomatch h
  | _, _, .cons x p, h => by
    rcases List.mem_cons.mp h with rfl | h
    · exact ⟨_, .head _, x⟩
    · obtain ⟨b, hb, y⟩ := Paired.left p h
      exact ⟨b, .tail _ hb, y⟩
theorem Paired.unsnoc {α β : Type} {F : α → β → Prop} {b : β} : ∀ {l : List α} {r : List β}, Paired F l (r ++ [b]) → ∃ l' a, l = l' ++ [a] ∧ Paired F l' r ∧ F a b
  | _, [], h => by
    cases h with
    | cons x p => cases p; exact ⟨[], _, rfl, .nil, x⟩
  | _, c :: r, h => by
    cases h with
    | cons x p =>
      obtain ⟨l', a, rfl, p', y⟩ := Paired.unsnoc (r := r) p
      exact ⟨_ :: l', a, rfl, .cons x p', y⟩
theorem Sr.str_inv {M : List Addr} {h : Heap} {v : Value} {x : Str} (r : Sr M h v (.str x)) : ∃ t, v = .str x t := by
  obtain ⟨as, r⟩ := r.reads
  cases r
  exact ⟨_, rfl⟩
theorem Sr.list_inv {M : List Addr} {h : Heap} {v : Value} {xs : List PyData} (r : Sr M h v (.list xs)) : ∃ a o, v = .ref a ∧ h.get? a = some o ∧ o.cls = .type "list" := by
  obtain ⟨as, r⟩ := r.reads
  cases r with
  | list e1 e2 e3 r => exact ⟨_, _, rfl, e1, e2⟩
theorem Zs.root {h₀ h : Heap} {L : Addr} {led : List (Addr × Obj)} {f : Fm} (Z : Zs h₀ L h led [f]) : Sr (L :: led.map (·.1)) h (.ref f.N) f.d := by
  have nd := (List.nodup_cons.mp Z.nd)
  have nda := List.nodup_append.mp nd.2
  have hsub : ∀ a ∈ L :: led.map (·.1), a ∈ allM L led [f] := by
    intro a ha
    rcases List.mem_cons.mp ha with rfl | ha
    · exact .head _
    · exact .tail _ (List.mem_append.mpr (.inl ha))
  have hnA : f.A ∉ L :: led.map (·.1) := by
    intro q
    rcases List.mem_cons.mp q with q | q
    · exact nd.1 (List.mem_append.mpr (.inr (q ▸ .head _)))
    · exact nda.2.2 _ q _ (.head _) rfl
  have hnK : f.K ∉ L :: led.map (·.1) := by
    intro q
    rcases List.mem_cons.mp q with q | q
    · exact nd.1 (List.mem_append.mpr (.inr (q ▸ .tail _ (.head _))))
    · exact nda.2.2 _ q _ (.tail _ (.head _)) rfl
  obtain ⟨⟨⟨t, c1, e1⟩, nM, ⟨va, c2, a, pa⟩, ⟨vk, c3, k, pk⟩⟩, _⟩ := Z.hang
  refine Sr.list e1 (fun q => nM (hsub _ q)) (.cons (Sr.str _ _) (.cons ?_ (.cons ?_ .nil)))
  · exact Sr.list a hnA (Paired.imp (fun _ _ x => x.mono hsub) pa)
  · exact Sr.list (by simpa using k) hnK (Paired.imp (fun _ _ x => x.mono hsub) pk)
theorem isi_list {a : Addr} {o : Obj} {Q : Value → Shared → Prop} (ho : s.heap.get? a = some o) (hc : o.cls = .type "list") (h : Q (.bool false) { s with toks := s.toks + 1 }) :
    wpAny (model prog w) A (call (.builtin "isinstance") [.ref a, .type "str"]) Q E s :=
  call_isinstance (isinstance_false_list (by decide) PyProof.Rows.meta_str F.sub_list_str) ⟨⟨o, ho, hc⟩, h⟩
theorem isi_str {x : Str} {t : Tok} {Q : Value → Shared → Prop} (h : Q (.bool true) s) :
    wpAny (model prog w) A (call (.builtin "isinstance") [.str x t, .type "str"]) Q E s :=
  call_isinstance_yes (typeIs_str _ _ _) PyProof.Rows.meta_str F.sub_str_str h
theorem ne_more {a b : Addr} {vs : List Value} {n n' : Nat} {Q : Value → Shared → Prop} (ha : s.heap.get? a = some (listOf vs.toArray n)) (hb : s.heap.get? b = some (listOf ([] : List Value).toArray n')) (hv : vs ≠ []) (hu : A.units < cLine)
    (h : Q (.bool true) s) : wpAny (model prog w) A (compareOp .NotEq (.ref a) (.ref b)) Q E s :=
  SeqAt.RcNeAt.lists_lengths ⟨_, ha, rfl, _, rfl⟩ ⟨_, hb, rfl, _, rfl⟩ (by cases vs with | nil => exact absurd rfl hv | cons v r => simp) hu prog w E Q h
theorem ne_empty {a b : Addr} {n n' : Nat} {Q : Value → Shared → Prop} (ha : s.heap.get? a = some (listOf ([] : List Value).toArray n)) (hb : s.heap.get? b = some (listOf ([] : List Value).toArray n')) (hu : A.units < cLine)
    (h : Q (.bool false) s) : wpAny (model prog w) A (compareOp .NotEq (.ref a) (.ref b)) Q E s :=
  SeqAt.RcNeAt.lists (e := fun _ => true) ⟨_, ha, rfl, _, rfl⟩ ⟨_, hb, rfl, _, rfl⟩ rfl hu (by intro j h1 _; exact absurd h1 (by simp)) prog w E Q h
end
theorem enter0 {K : Frag} {prog : Program} {w : World} {A : Around} {s : Shared} {E : Value → Shared → Prop} {Q : Value → Shared → Prop}
    {name qual : Str} {params : Arguments} {body : List Stmt} {scope : Scope} {dV kV doc pm cdv ct oc : Value} {an od : Option Addr} {osl : Array (Option Value)} {f : Addr}
    {args : List Value} {binds : List (Str × Value)}
    (X : K.In s.heap) (nl : s.heap.NoLimit) (hroom : A.depth < recursionLimit)
    (ho : K.lookup f = some ⟨oc, od, .func (fnOf name qual params body scope dV kV doc pm an cdv ct), osl⟩) (hcd : codeIn K cdv qual = true)
    (hbind : BindsTo s (fnOf name qual params body scope dV kV doc pm an cdv ct) ⟨args, []⟩ binds)
    (hloc : ∀ y ∈ binds, scope.names.lookup y.1 = some .local)
    (hcell : ∀ x ∈ scope.names, x.2 ≠ .cell) (hco : scope.isCoroutine = false) (hgen : scope.isGenerator = false) (hk : scope.kind = .function)
    (h : ∀ L h₁ tk, Fr s.heap L h₁ (fun y => binds.reverse.lookup y) → News s.heap L h₁ [] →
      wpAny (model prog w) (A.deeper (envOf qual scope L f cdv)) (execs body (envOf qual scope L f cdv))
        (fun fl s' => Q (match fl with | .ret v => v | _ => .none) s') (fun _ _ => False) { s with heap := h₁, toks := tk }) :
    wpAny (model prog w) A (call (.ref f) args) Q E s := by
  refine wpAny_call (codeAny_call_def (fd := fnOf name qual params body scope dV kV doc pm an cdv ct) (body := body) hroom (X _ _ ho) rfl nl (codeRec_of X hcd) rfl hbind hcell hloc (fun h₁ hns hk₁ => ?_) hco hgen hk)
  exact wpAny_mono (h _ h₁ _ ⟨hns, hk₁, Nat.le_refl _⟩ News.nil) (fun _ _ x => x) (fun _ _ x => x.elim)
end Mine
end
section
open PySem PySem.W PyProof.Rows
set_option maxRecDepth 100000
set_option maxHeartbeats 2000000
namespace Mine
local macro_rules | `(tactic| walk_at "m_enter0") => `(tactic| (
  (refine' enter0 (Bs.X (by assumption)) (TopRead.nolimit (Bs.T (by assumption))) ?k8 ?k6 ?k7 ?k9 ?kB ?c5 ?c2 ?c3 ?c4 ?_)
  (case k6 => k_is)
  (case k7 => k_is)
  (case k8 => first | assumption | omega)
  (case k9 => exact BindsTo.of_eq rfl)
  (case kB => exact locs rfl)
  (case c5 => decide)
  (case c2 => rfl)
  (case c3 => rfl)
  (case c4 => rfl)))
/-- a deed -/
noncomputable def IsDeed (v : Value) : Prop := ∃ (n : Int) (u : Tok), v = .int n u ∧ 0 ≤ n ∧ n < 42467328
theorem deeds_paired {vs ys : List Value} (h : Paired (fun _ y => IsDeed y) vs ys) : ∀ y ∈ ys, IsDeed y := by
  induction h with
  | nil => intro y hy; cases hy
  | cons a b ih =>
    intro y hy
    rcases List.mem_cons.mp hy with rfl | hy
    · exact a
    · exact ih y hy
/-- what stands between the turns -/
structure Js (h₀ : Heap) (L I P Dd aN : Addr) (dv : List Value) (nd : Nat) (k : Nat) (g : Heap) (m : Str → Option Value) (fs : List Fm) (c : Nat) (page : List Nat) (fresh : Bool) (cl : Nat) (tp tc : Tok) (oI : Obj) : Prop where
  F : Fr h₀ L g m
  Z : Zs h₀ L g [(I, oI), (Dd, listOf dv.toArray nd), (P, listOf (pathV fs).toArray c)] fs
  e1 : m (Str.ofString "deeds") = some (.ref Dd)
  e2 : m (Str.ofString "path") = some (.ref P)
  e3 : m (Str.ofString "tree") = some (.ref aN)
  e4 : m (Str.ofString "page") = some (.str (tx page) tp)
  e5 : m (Str.ofString "fresh") = some (.bool fresh)
  e6 : m (Str.ofString "count") = some (.int ((page.count 38 : Nat) : Int) tc)
  wf : fresh = true → WF (2 * k) page (fs.map Fm.el)
  wn : fresh = false → WN (2 * k) page (fs.map Fm.el)
  ok : ∀ f ∈ fs, ElOk cl f.el ∧ NameOk f.name ∧ 38 ∉ f.name
  cl1 : cl + fs.length ≤ k + 1
  bot : (fs.map Fm.N).getLast? = some aN
  pl : page.length ≤ 200 * (k + 1)
  kl : ∀ f ∈ fs, f.kids.length ≤ k ∧ f.attrs.length ≤ k
theorem c_pageO {w : World} {A : Around} {s : Shared} {E : Value → Shared → Prop} {mg mb : Str → Option Value} {l : Addr} {vs : List Value} {ns : List Int} {Q : Value → Shared → Prop}
    (B : Bs w mg mb s.heap) (hroom : A.depth + 20 < recursionLimit) (hA : A.handled = none) (hu : A.units + 200 < cLine) (hl : s.heap.IsList l vs.toArray) (hi : IntsAre vs ns) (hn : ns.length ≤ 63)
    (hQ : ∀ v s', Keeps s s' → 0 < s'.toks → (∃ T N toks d t1 t2, v = .ref T ∧ IsTup s'.heap T #[.str (tx (render toks)) t1, .ref N, .int (((render toks).count 38 : Nat) : Int) t2] ∧
      Sr [] s'.heap (.ref N) d ∧ Valid [B0] toks ∧ run [B0] toks = [⟨[], [], [d]⟩] ∧ d.canLay0 = true ∧ d.depth ≤ 50 ∧ (render toks).length ≤ 100000 ∧ toks.length ≤ 1000) → Q v s') :
    wpAny (model Challenge.rw_nb0384_02.row.prog w) A (call (.ref 80) [.ref l]) Q E s := by
  have B1 := B
  revert B1; obtain ⟨X, T⟩ := B; revert X; k_fill; intro X B
  walk_at "m_enter0"
  intro L h₁ tk F N
  have hl0 : Str.ofString "" = tx [] := by decide +kernel
  have hlr : Str.ofString "r" = tx [114] := by decide +kernel
  have hlr2 : Str.ofString "<r" = tx [60, 114] := by decide +kernel
  have hl60 : Str.ofString "<" = tx [60] := by decide +kernel
  have hl62 : Str.ofString ">" = tx [62] := by decide +kernel
  have hl6047 : Str.ofString "</" = tx [60, 47] := by decide +kernel
  have hl32 : Str.ofString " " = tx [32] := by decide +kernel
  have hl34 : Str.ofString "\"" = tx [34] := by decide +kernel
  have hl6134 : Str.ofString "=\"" = tx [61, 34] := by decide +kernel
  have hl4762 : Str.ofString "/>" = tx [47, 62] := by decide +kernel
  have hlk : Str.ofString "kmno" = tx [107, 109, 110, 111] := by decide +kernel
  have hla : Str.ofString "abr" = tx [97, 98, 114] := by decide +kernel
  have hvl : vs.length = ns.length := hi.length
  -- tree
  refine wpAny_execs_cons ?_
  refine wpAny_Assign_Name ?_
  refine List_ ?_
  refine spliced_more ?_
  refine Calls.Constant_str ?_
  refine spliced_more ?_
  refine List_ ?_
  refine spliced_none ?_
  dsimp only
  refine newL (fun aA g1 nA _ oA cA => ?_) (by rw [sizeLine_eq]; exact (by decide : 0 ≤ 16777216))
  dsimp only at nA cA ⊢
  refine spliced_more ?_
  refine List_ ?_
  refine spliced_none ?_
  refine newL (fun aK g2 nK _ oK cK => ?_) (by rw [sizeLine_eq]; exact (by decide : 0 ≤ 16777216))
  dsimp only at nK cK ⊢
  refine spliced_none ?_
  refine newL (fun aN g3 nN _ oN cN => ?_) (by rw [sizeLine_eq]; exact (by decide : 3 ≤ 16777216))
  dsimp only at nN cN ⊢
  have F3 := Fr.chg0 (Fr.chg0 (Fr.chg0 F cA) cK) cN
  have hAK : aA ≠ aK := by rintro rfl; rw [oA] at nK; cases nK
  have oA2 := cK _ _ (by simp) oA
  have hNA : aN ≠ aA := by rintro rfl; rw [oA2] at nN; cases nN
  have hNK : aN ≠ aK := by rintro rfl; rw [oK] at nN; cases nN
  have oA3 := cN _ _ (by simp) oA2
  have oK3 := cN _ _ (by simp) oK
  rw [hlr] at oN
  have Z3 : Zs s.heap L g3 [] [⟨aN, aA, aK, [114], [], []⟩] :=
    Zs.first F nA (none_of cA nK) (none_of cA (none_of cK nN)) hAK hNA hNK (fun a o ha e => cN a o ha (cK a o ha (cA a o ha e))) oA3 oK3 oN
  refine stL F3 (fun h4 F4 c4 => ?_)
  dsimp only at c4 ⊢
  have Z4 := Z3.loc c4
  -- path
  refine wpAny_execs_cons ?_
  refine wpAny_Assign_Name ?_
  refine List_ ?_
  refine spliced_more ?_
  refine ld F4 rfl ?_
  refine spliced_none ?_
  refine newL (fun P g5 nP _ oP cP => ?_) (by rw [sizeLine_eq]; exact (by decide : 1 ≤ 16777216))
  dsimp only at nP cP ⊢
  have F5 := Fr.chg0 F4 cP
  refine stL F5 (fun h6 F6 c6 => ?_)
  dsimp only at c6 ⊢
  have cP6 : Chg [L] h4 h6 := fun a o ha e => c6 a o ha (cP a o (by simp) e)
  have oP6 : h6.get? P = some (listOf [Value.ref aN].toArray 0) := c6 _ _ (fun q => Z4.fresh F4 nP (List.mem_singleton.mp q ▸ .head _)) oP
  have Z6 := Z4.noteL F4 nP cP6 oP6
  -- page, fresh, count
  refine wpAny_execs_cons ?_
  refine wpAny_Assign_Name ?_
  refine Calls.Constant_str ?_
  rw [hlr2]
  refine stL F6 (fun h7 F7 c7 => ?_)
  dsimp only at c7 ⊢
  have Z7 := Z6.loc c7
  refine wpAny_execs_cons ?_
  refine wpAny_Assign_Name ?_
  refine wpAny_Constant_bool ?_
  refine stL F7 (fun h8 F8 c8 => ?_)
  dsimp only at c8 ⊢
  have Z8 := Z7.loc c8
  refine wpAny_execs_cons ?_
  refine wpAny_Assign_Name ?_
  refine wpAny_Constant_int ?_
  refine stL F8 (fun h9 F9 c9 => ?_)
  dsimp only at c9 ⊢
  have Z9 := Z8.loc c9
  clear Z3 Z4 Z6 Z7 Z8 F3 F4 F5 F6 F7 F8 oA oK oA2 oA3 oK3 oN cA cK cN c4 cP c6 c7 c8 c9 oP cP6 oP6
  -- deeds
  refine wpAny_execs_cons ?_
  refine wpAny_Assign_Name ?_
  refine wpAny_BinOp ?_
  refine wpAny_BinOp ?_
  refine List_ ?_
  (iterate 3 (refine spliced_more ?_; refine wpAny_Constant_int ?_; dsimp only))
  refine spliced_none ?_
  refine newL (fun D1 g10 nD1 _ oD1 c10 => ?_) (by rw [sizeLine_eq]; exact (by decide : 3 ≤ 16777216))
  dsimp only at nD1 c10 ⊢
  have F10 := Fr.chg0 F9 c10
  refine evComp (fun _ => true) (fun _ y => IsDeed y) (cl := []) rfl (by decide) rfl (by decide) rfl hA (by first | exact Nat.succ_pos _ | assumption | (dsimp only; omega)) ?_
  refine Subscript_ ?_
  refine ld F10 rfl ?_
  refine wpAny_Slice ?_
  refine evalPart_none_step ?_
  refine evalPart_some_step ?_
  refine wpAny_Constant_int ?_
  refine evalPart_none_step ?_
  dsimp only
  refine lst_mid (items := vs) (hl.at fun o e => F10.keep _ o e) .none (.int _ _) (fun D2 g11 hD2 hg11 hk11 => ?_) ?hs ?ht (by omega)
  case hs => rfl
  case ht => intro _; rfl
  generalize hsub : ((vs.drop ((none : Option Int).elim 0 (clipAt vs.length))).take ((some 10 : Option Int).elim vs.length (clipAt vs.length) - (none : Option Int).elim 0 (clipAt vs.length))) = sub at hg11
  have hsl : sub.length ≤ 10 := by
    rw [← hsub]
    simp [clipAt, List.length_take]
    omega
  have hsi : ∀ v ∈ sub, ∃ (n : Int) (t : Tok), v = .int n t := fun v hv => hi.all v (by rw [← hsub] at hv; exact List.mem_of_mem_drop (List.mem_of_mem_take hv))
  have F11 := Fr.up F10 hk11
  refine Or.inl ⟨D2, sub.toArray, rfl, ⟨_, hg11, rfl, _, rfl⟩, by simp only [List.size_toArray]; rw [sizeLine_eq]; omega, ⟨?_, ?_⟩, ?_⟩
  · intro C j v s₃ m₃ E' hv hns hm hk ht' hC
    exact wpAny_tests_nil ⟨rfl, _, _, rfl, fun _ _ e => e⟩
  · intro C j v s₃ m₃ E' hv _ hns hm hk ht' hC
    obtain ⟨n, u, rfl⟩ := hsi v (List.mem_of_getElem? (by simpa using hv : sub[j]? = some v))
    refine wpAny_BinOp ?_
    refine wpAny_Name (wpAny_loadName_local rfl rfl hns hm ?_) (by decide)
    refine wpAny_Constant_int ?_
    refine mod_int' (by decide) ?_
    exact ⟨⟨_, _, rfl, Int.fmod_nonneg_of_pos _ (by decide), Int.fmod_lt_of_pos _ (by decide)⟩, _, _, rfl, fun _ _ e => e⟩
  intro D3 g12 tk12 ys vs' hD3 hpl hlen3 hP3 hF3 hk12 hpos12
  rw [filter_all] at hF3
  have hys := deeds_paired hF3
  have hyl : ys.toList.length ≤ 10 := by
    rw [← paired_len hF3, hlen3]; simpa using hsl
  obtain ⟨n3, hg3⟩ := hpl
  dsimp only
  have F12 := Fr.up F11 hk12
  refine addR (va := [_, _, _]) (vb := ys.toList) F12 ⟨_, hk12 _ _ (hk11 _ _ oD1), rfl, _, rfl⟩ ⟨_, hg3, rfl, n3, by simp⟩ (fun D4 g13 F13 c13 nD4 oD4 => ?_) (by simp only [List.length_cons, List.length_nil]; omega)
  dsimp only at c13 ⊢
  refine List_ ?_
  (iterate 3 (refine spliced_more ?_; refine wpAny_Constant_int ?_; dsimp only))
  refine spliced_none ?_
  refine newL (fun D5 g14 nD5 _ oD5 c14 => ?_) (by rw [sizeLine_eq]; exact (by decide : 3 ≤ 16777216))
  dsimp only at nD5 c14 ⊢
  have F14 := Fr.chg0 F13 c14
  refine addR (va := [_, _, _] ++ ys.toList) (vb := [_, _, _]) F14 ⟨_, c14 _ _ (by simp) oD4, rfl, _, rfl⟩ ⟨_, oD5, rfl, _, rfl⟩ (fun Dd g15 F15 c15 nDd oDd => ?_) (by simp only [List.length_append, List.length_cons, List.length_nil]; omega)
  dsimp only at c15 ⊢
  have c914 : Chg [L] h9 g14 := fun a o ha e => c14 a o (by simp) (c13 a o ha (hk12 _ _ (hk11 _ _ (c10 a o (by simp) e))))
  have Z15 := (Z9.loc c914).noteL F14 nDd c15 oDd
  generalize hdv : ([_, _, _] ++ ys.toList ++ [_, _, _] : List Value) = dv at Z15 oDd
  have hdl : dv.length ≤ 16 := by rw [← hdv]; simp only [List.length_append, List.length_cons, List.length_nil]; omega
  have hdd : ∀ v ∈ dv, IsDeed v := by
    rw [← hdv]
    intro v hv
    simp only [List.mem_append, List.mem_cons, List.not_mem_nil, or_false] at hv
    rcases hv with ((rfl | rfl | rfl) | hv) | (rfl | rfl | rfl)
    · exact ⟨_, _, rfl, by decide, by decide⟩
    · exact ⟨_, _, rfl, by decide, by decide⟩
    · exact ⟨_, _, rfl, by decide, by decide⟩
    · exact hys v hv
    · exact ⟨_, _, rfl, by decide, by decide⟩
    · exact ⟨_, _, rfl, by decide, by decide⟩
    · exact ⟨_, _, rfl, by decide, by decide⟩
  clear hdv hys hF3 hP3 hlen3 F9 F10 F11 F12 F13 F14 Z9 c914 c15 c14 c13 hk12 hk11 c10 oD1 oD4 oD5 hg3 hg11 hsub hsi
  refine stL F15 (fun h16 F16 c16 => ?_)
  dsimp only at c16 ⊢
  have Z16 := Z15.loc c16
  clear Z15 F15
  -- the loop
  refine wpAny_execs_cons ?_
  refine wpAny_For ?_
  refine Call_ ?_
  refine bname (Fr.bs F16 B) (by k_is) (by boot_by_name) (by decide) ?_ rfl rfl rfl rfl (by decide)
  refine PyProof.Rows.callWith_type1 ?_
  refine spliced_more ?_
  refine Call_ ?_
  refine bname (Fr.bs F16 B) (by k_is) (by boot_by_name) (by decide) ?_ rfl rfl rfl rfl (by decide)
  refine PyProof.Rows.callWith_builtin1 ?_
  refine spliced_more ?_
  refine ld F16 rfl ?_
  refine spliced_none ?_
  refine PyProof.Rows.len_list ⟨_, Z16.hled _ (.head _), rfl, _, rfl⟩ (by simp only [List.size_toArray]; omega) ?_
  refine spliced_none ?_
  dsimp only
  refine wpAny_with_toks (n := 1) (by first | exact Nat.succ_pos _ | assumption | (dsimp only; omega)) ?_
  refine range1_rows F16 News.nil (fun h17 tk17 r1 r2 r3 hr F17 _ hk17 hpos17 => ?_)
  dsimp only at hr hpos17 ⊢
  rw [show ((dv.toArray.size : Nat) : Int) = (dv.length : Int) by simp] at hr
  have Z17 := Z16.up (Chg.up hk17)
  have hsm := rng_small dv.length 0 (by omega) (by omega) (by omega)
  have hrs := rng_size dv.length
  refine wpAny_pyIter_range hr hsm ?_
  dsimp only
  have hfI := fresh_size h17
  have cI := Chg.push h17 { cls := .type "range_iterator", data := .fields #[.int 0 0, .int (Builtin.Range.rangeSize 0 (dv.length : Int) 1) 0] }
  generalize hI : h17.objs.size = I at hfI ⊢
  refine for_walksO (J := fun i h => ∃ g m fs c page fresh cl tp tc oI, Chg [I] g h ∧ Js s.heap L I P Dd aN dv 0 i g m fs c page fresh cl tp tc oI)
    (W := (Walks.range (by exact hA) I 0 1 dv.length).bound) hpos17 ?_ ?_ ?_ ?_ ?_
  · show IsRangeIter _ _ _ _ _
    subst hI
    rw [hrs]; simpa using Heap.get?_push_size _ rfl
  · have hok : ∀ f ∈ [(⟨aN, aA, aK, [114], [], []⟩ : Fm)], ElOk 0 f.el ∧ NameOk f.name ∧ 38 ∉ f.name := by
      intro f hf
      rw [List.mem_singleton.mp hf]
      refine ⟨⟨?_, by simp [Fm.el], by simp [Fm.el]⟩, ⟨114, rfl, by decide, by decide, by decide⟩, by simp⟩
      intro c hc
      rw [List.mem_singleton.mp hc]; decide
    exact ⟨_, _, [⟨aN, aA, aK, [114], [], []⟩], 0, [60, 114], true, 0, _, _, _, Chg.refl _,
      ⟨Fr.push F17 _, Z17.note F17 hfI (Chg.push _ _) (by subst hI; exact Heap.get?_push_size _ rfl), rfl, rfl, rfl, rfl, rfl, rfl, fun _ => WF.start, by simp, hok, by simp, rfl, by simp, by simp⟩⟩
  · rintro i h h' ⟨g, m, fs, c, page, fresh, cl, tp, tc, oI, cg, J⟩ hk
    exact ⟨g, m, fs, c, page, fresh, cl, tp, tc, oI, cg.trans hk, J⟩
  · clear F16 Z16 F17 Z17 hk17 cI hfI c16 hr
    rintro i v h tk8 hi ⟨_, tv, rfl⟩ ⟨g, m, fs, c, page, fresh, cl, tp, tc, oI, cg, J⟩ hst htk G hG
    obtain ⟨itO, hitO⟩ : ∃ o, h.get? I = some o := ⟨_, hst⟩
    clear hst
    rw [show (0 + (i : Int) * 1) = (i : Int) by omega]
    have F := Zs.frLed J.F J.Z (.head _) cg
    have Z : Zs s.heap L h ([] ++ (I, itO) :: [(Dd, listOf dv.toArray 0), (P, listOf (pathV fs).toArray c)]) fs := Zs.set (pre := []) J.Z cg hitO
    have Z : Zs s.heap L h [(I, itO), (Dd, listOf dv.toArray 0), (P, listOf (pathV fs).toArray c)] fs := Z
    obtain ⟨_, _, e1, e2, e3, e4, e5, e6, wf, wn, ok, cl1, bot, pl, kl⟩ := J
    clear cg
    obtain ⟨f, fr, rfl⟩ : ∃ f fr, fs = f :: fr := by
      cases fs with
      | nil => cases bot
      | cons f fr => exact ⟨f, fr, rfl⟩
    simp only [List.length_cons] at cl1
    -- the turn
    refine wpAny_assign_Name ?_
    refine stL F (fun h1 F1 c1 => ?_)
    have Z1 := Z.loc c1
    dsimp only
    obtain ⟨deed, ud, hdeed, hd0, hd1⟩ := hdd _ (List.getElem_mem (l := dv) hi)
    have hdeed' : dv[((i : Nat) : Int).toNat]? = some (.int deed ud) := by rw [Int.toNat_natCast, List.getElem?_eq_getElem hi, hdeed]
    -- kind
    refine wpAny_execs_cons ?_
    refine wpAny_Assign_Name ?_
    refine wpAny_BinOp ?_
    refine Subscript_ ?_
    refine ld F1 e1 ?_
    refine ld F1 rfl ?_
    refine item_litK ⟨_, Z1.hled _ (.tail _ (.head _)), rfl, _, rfl⟩ (by omega) (by omega) hdeed' ?_
    refine wpAny_Constant_int ?_
    refine mod_int' (by decide) ?_
    generalize hkind : deed.fmod 4 = kind
    refine stL F1 (fun h2 F2 c2 => ?_)
    have Z2 := Z1.loc c2
    dsimp only
    -- q
    refine wpAny_execs_cons ?_
    refine wpAny_Assign_Name ?_
    refine wpAny_BinOp ?_
    refine Subscript_ ?_
    refine ld F2 e1 ?_
    refine ld F2 rfl ?_
    refine item_litK ⟨_, Z2.hled _ (.tail _ (.head _)), rfl, _, rfl⟩ (by omega) (by omega) hdeed' ?_
    refine wpAny_Constant_int ?_
    refine floordiv_int (by decide) ?_ (Or.inl (PyProof.noPylong_small (by omega)))
    dsimp only
    have hq0 : 0 ≤ deed.fdiv 4 := by rw [Int.fdiv_eq_ediv_of_nonneg _ (by decide)]; omega
    have hq1 : deed.fdiv 4 < 10616832 := by rw [Int.fdiv_eq_ediv_of_nonneg _ (by decide)]; omega
    generalize deed.fdiv 4 = q at hq0 hq1 ⊢
    refine stL F2 (fun h3 F3 c3 => ?_)
    have Z3 := Z2.loc c3
    dsimp only
    -- piece
    refine wpAny_execs_cons ?_
    refine wpAny_Assign_Name ?_
    refine Call_ ?_
    refine gname (Fr.bs F3 B) (by k_is) ?_ rfl rfl rfl (by decide)
    refine callWith_K (Fr.bs F3 B).X (by k_is) ?_
    refine spliced_more ?_
    refine ld F3 rfl ?_
    refine spliced_none ?_
    refine ⟨(Fr.bs F3 B).X, ?_⟩
    dsimp only
    refine use (R := fun v _ => ∃ l u, v = .str (tx l) u ∧ l.length ≤ 15 ∧ okL l) F3 News.nil (by first | exact Nat.succ_pos _ | assumption | (dsimp only; omega)) (c_piece (Fr.bs F3 B) (by simp only [depth_deeper]; omega) hA (by first | exact Nat.succ_pos _ | assumption | (dsimp only; omega)) ⟨hq0, hq1⟩) ?_
    rintro _ h4 tk4 ⟨pc, u4, rfl, hpc, hpo⟩ F4 _ hk4 hpos4
    have Z4 := Z3.up (Chg.up hk4)
    dsimp only
    refine stL F4 (fun h5 F5 c5 => ?_)
    have Z5 := Z4.loc c5
    dsimp only
    -- hand
    refine wpAny_execs_cons ?_
    refine wpAny_Assign_Name ?_
    refine wpAny_BinOp ?_
    refine wpAny_BinOp ?_
    refine wpAny_BinOp ?_
    refine ld F5 rfl ?_
    refine wpAny_Constant_int ?_
    refine floordiv_int (by decide) ?_ (Or.inl (PyProof.noPylong_small (by omega)))
    dsimp only
    refine ld F5 rfl ?_
    refine add_int ?_
    refine wpAny_Constant_int ?_
    refine mod_int' (by decide) ?_
    dsimp only
    have hh0 : 0 ≤ (q.fdiv 16 + (i : Int)).fmod 12 := Int.fmod_nonneg_of_pos _ (by decide)
    have hh1 : (q.fdiv 16 + (i : Int)).fmod 12 < 12 := Int.fmod_lt_of_pos _ (by decide)
    generalize (q.fdiv 16 + (i : Int)).fmod 12 = hand at hh0 hh1 ⊢
    refine stL F5 (fun h6 F6 c6 => ?_)
    have Z6 := Z5.loc c6
    dsimp only
    -- key
    refine wpAny_execs_cons ?_
    refine wpAny_Assign_Name ?_
    refine Subscript_ ?_
    refine Calls.Constant_str ?_
    rw [hlk]
    refine wpAny_BinOp ?_
    refine ld F6 rfl ?_
    refine wpAny_Constant_int ?_
    refine floordiv_int (by decide) ?_ (Or.inl (PyProof.noPylong_small (by omega)))
    dsimp only
    obtain ⟨kn, hkn, hkn4⟩ : ∃ kn : Nat, hand.fdiv 3 = (kn : Int) ∧ kn < 4 := by
      refine ⟨(hand.fdiv 3).toNat, ?_, ?_⟩
      · rw [Int.fdiv_eq_ediv_of_nonneg _ (by decide)]; omega
      · rw [Int.fdiv_eq_ediv_of_nonneg _ (by decide)]; omega
    rw [hkn]
    obtain ⟨key, hkey, hkey2⟩ : ∃ key, [107, 109, 110, 111][kn]? = some key ∧ key ≠ 61 ∧ key ≠ 34 ∧ key ≠ 38 ∧ key < 55296 := by
      rcases (by omega : kn = 0 ∨ kn = 1 ∨ kn = 2 ∨ kn = 3) with rfl | rfl | rfl | rfl
      all_goals exact ⟨_, rfl, by decide⟩
    refine chr_at (i := kn) hkey (by omega) ?_
    dsimp only
    refine stL F6 (fun h7 F7 c7 => ?_)
    have Z7 := Z6.loc c7
    dsimp only
    -- here
    have hP7 := Z7.hled _ (.tail _ (.tail _ (.head _)))
    rw [pathV_cons] at hP7
    have hplen : (pathV fr).length < 1000000 := by
      simp only [pathV, List.length_reverse, List.length_map]; omega
    refine wpAny_execs_cons ?_
    refine wpAny_Assign_Name ?_
    refine last_of F7 e2 hP7 hplen (fun tk8' htk8' => ?_)
    dsimp only at htk8' ⊢
    refine stL F7 (fun h8 F8 c8 => ?_)
    have Z8 := Z7.loc c8
    dsimp only
    generalize hm8 : (fun y => if y = Str.ofString "here" then some (Value.ref f.N) else _) = m8 at F8
    obtain ⟨t1, k1⟩ : ∃ t, m8 (Str.ofString "kind") = some (.int kind t) := ⟨_, by rw [← hm8]; rfl⟩
    obtain ⟨t2, k2⟩ : ∃ t, m8 (Str.ofString "q") = some (.int q t) := ⟨_, by rw [← hm8]; rfl⟩
    obtain ⟨t3, k3⟩ : ∃ t, m8 (Str.ofString "piece") = some (.str (tx pc) t) := ⟨_, by rw [← hm8]; rfl⟩
    obtain ⟨t4, k4⟩ : ∃ t, m8 (Str.ofString "hand") = some (.int hand t) := ⟨_, by rw [← hm8]; rfl⟩
    obtain ⟨t5, k5⟩ : ∃ t, m8 (Str.ofString "key") = some (.str (tx [key]) t) := ⟨_, by rw [← hm8]; rfl⟩
    have k6 : m8 (Str.ofString "here") = some (.ref f.N) := by rw [← hm8]; rfl
    have e1 : m8 (Str.ofString "deeds") = some (.ref Dd) := by rw [← hm8]; exact e1
    have e2 : m8 (Str.ofString "path") = some (.ref P) := by rw [← hm8]; exact e2
    have e3 : m8 (Str.ofString "tree") = some (.ref aN) := by rw [← hm8]; exact e3
    have e4 : m8 (Str.ofString "page") = some (.str (tx page) tp) := by rw [← hm8]; exact e4
    have e5 : m8 (Str.ofString "fresh") = some (.bool fresh) := by rw [← hm8]; exact e5
    have e6 : m8 (Str.ofString "count") = some (.int ((page.count 38 : Nat) : Int) tc) := by rw [← hm8]; exact e6
    clear hm8 F1 F2 F3 F4 F5 F6 F7 Z1 Z2 Z3 Z4 Z5 Z6 Z7 Z F hk4 c1 c2 c3 c5 c6 c7 c8 hP7
    have hfp : ∀ {h' : Heap} {led : List (Addr × Obj)} {fs' : List Fm}, Zs s.heap L h' ((I, itO) :: led) fs' → ∀ b ∈ [I], ∀ o, h.get? b = some o → h'.get? b = some o := by
      intro h' led fs' Z b hb o e
      rw [List.mem_singleton.mp hb] at e ⊢
      rw [hitO] at e; cases e
      exact Z.hled _ (.head _)
    refine wpAny_execs_cons ?_
    refine wpAny_If ?_
    refine wpAny_isTrue_Compare1 ?_
    refine ld F8 k1 ?_
    refine wpAny_Constant_int ?_
    refine PyProof.Rows.eq_int ?_
    refine wpAny_truthy_bool ?_
    dsimp only
    by_cases hkind0 : kind = 0
    · rw [show (kind == 0) = true by simp [hkind0], if_pos rfl]
      clear k1 k3 k4 k5
      -- made
      refine wpAny_execs_cons ?_
      refine wpAny_Assign_Name ?_
      refine List_ ?_
      refine spliced_more ?_
      refine Subscript_ ?_
      refine Calls.Constant_str ?_
      rw [hla]
      refine wpAny_BinOp ?_
      refine ld F8 k2 ?_
      refine wpAny_Constant_int ?_
      refine mod_int' (by decide) ?_
      obtain ⟨qn, hqn, hqn3⟩ : ∃ qn : Nat, q.fmod 3 = (qn : Int) ∧ qn < 3 := by
        have h0 : 0 ≤ q.fmod 3 := Int.fmod_nonneg_of_pos _ (by decide)
        have h1 : q.fmod 3 < 3 := Int.fmod_lt_of_pos _ (by decide)
        exact ⟨(q.fmod 3).toNat, by omega, by omega⟩
      rw [hqn]
      obtain ⟨nc, hnc, hnc2⟩ : ∃ nc, [97, 98, 114][qn]? = some nc ∧ nc ≠ 32 ∧ nc ≠ 47 ∧ nc ≠ 62 ∧ nc ≠ 38 ∧ nc < 55296 := by
        rcases (by omega : qn = 0 ∨ qn = 1 ∨ qn = 2) with rfl | rfl | rfl
        all_goals exact ⟨_, rfl, by decide⟩
      refine chr_at (i := qn) hnc (by omega) ?_
      dsimp only
      refine spliced_more ?_
      refine List_ ?_
      refine spliced_none ?_
      refine newL (fun bA g1 nA _ oA cA => ?_) (by rw [sizeLine_eq]; exact (by decide : 0 ≤ 16777216))
      dsimp only at nA cA ⊢
      refine spliced_more ?_
      refine List_ ?_
      refine spliced_none ?_
      refine newL (fun bK g2 nK _ oK cK => ?_) (by rw [sizeLine_eq]; exact (by decide : 0 ≤ 16777216))
      dsimp only at nK cK ⊢
      refine spliced_none ?_
      refine newL (fun bN g3 nN _ oN cN => ?_) (by rw [sizeLine_eq]; exact (by decide : 3 ≤ 16777216))
      dsimp only at nN cN ⊢
      have hAK : bA ≠ bK := by rintro rfl; rw [oA] at nK; cases nK
      have oA2 := cK _ _ (by simp) oA
      have hNA : bN ≠ bA := by rintro rfl; rw [oA2] at nN; cases nN
      have hNK : bN ≠ bK := by rintro rfl; rw [oK] at nN; cases nN
      have oA3 := cN _ _ (by simp) oA2
      have oK3 := cN _ _ (by simp) oK
      have nK' := none_of cA nK
      have nN' := none_of cA (none_of cK nN)
      have c13 : Chg ([] : List Addr) h8 g3 := fun a o ha e => cN a o ha (cK a o ha (cA a o ha e))
      have F13 := Fr.chg0 F8 c13
      refine stL F13 (fun h14 F14 c14 => ?_)
      dsimp only at c14 ⊢
      have cL : ∀ {a : Addr}, h8.get? a = none → a ∉ [L] := by
        intro a ha q
        obtain ⟨oL, _, _, hL, _⟩ := F8.ns
        rw [List.mem_singleton.mp q, hL] at ha; cases ha
      have oA4 := c14 _ _ (cL nA) oA3
      have oK4 := c14 _ _ (cL nK') oK3
      have oN4 := c14 _ _ (cL nN') oN
      have c124 : Chg [L] h8 h14 := fun a o ha e => c14 a o ha (c13 a o (by simp) e)
      have Z14 := Z8.loc c124
      obtain ⟨⟨_, _, _, ⟨vk0, c30, ek0, pk0⟩⟩, _⟩ := id Z8.hang
      obtain ⟨⟨⟨tn, c1', en⟩, nM, ⟨va, c2', ea, pa⟩, _⟩, _⟩ := id Z14.hang
      rw [List.append_nil] at ek0
      have ek : h14.get? f.K = some (listOf vk0.toArray c30) := c124 _ _ (fun q => Z8.mutL f.K (.tail _ (.head _)) (List.mem_singleton.mp q)) ek0
      -- here[2].append(made)
      refine wpAny_execs_cons ?_
      refine wpAny_Expr_any ?_
      refine MethodCall_ ?_
      refine Subscript_ ?_
      refine ld F14 k6 ?_
      refine wpAny_Constant_int ?_
      refine item_litK (vs := [_, _, _]) ⟨_, en, rfl, _, rfl⟩ (by decide) (by decide) rfl ?_
      refine Calls.getMethod_list_append ek rfl rfl ?_
      refine callWith_method1 ?_
      refine spliced_more ?_
      refine ld F14 rfl ?_
      refine spliced_none ?_
      have hkl' : vk0.length ≤ i := by rw [Paired.len pk0]; exact (kl f (.head _)).1
      refine append_at ek (fun h16 hs16 ho16 => ?_) (by simp only [List.size_toArray]; rw [sizeLine_eq]; omega)
      dsimp only at hs16 ⊢
      rw [List.push_toArray] at ho16
      have Z16 := Z8.open (name := [nc]) F8 nA nK' nN' hAK hNA hNK c124 oA4 oK4 oN4 ek0 pk0 (Chg.of hs16) ho16
      have F16 := Zs.fr F14 (Z14.mutL f.K (.tail _ (.head _))) (Z14.mnew f.K (.tail _ (.head _))) (Chg.of hs16)
      -- path.append(made)
      have hP16 := Z16.hled _ (.tail _ (.tail _ (.head _)))
      refine wpAny_execs_cons ?_
      refine wpAny_Expr_any ?_
      refine MethodCall_ ?_
      refine ld F16 e2 ?_
      refine Calls.getMethod_list_append hP16 rfl rfl ?_
      refine callWith_method1 ?_
      refine spliced_more ?_
      refine ld F16 rfl ?_
      refine spliced_none ?_
      refine append_at hP16 (fun h17' hs17 ho17 => ?_) (by simp only [List.size_toArray, pathV, List.length_reverse, List.length_map, List.length_cons]; rw [sizeLine_eq]; omega)
      dsimp only at hs17 ⊢
      rw [List.push_toArray, ← pathV_cons ⟨bN, bA, bK, [nc], [], []⟩ (f :: fr)] at ho17
      have Z16' : Zs s.heap L h16 ([(I, itO), (Dd, listOf dv.toArray 0)] ++ (P, listOf (pathV (f :: fr)).toArray c) :: []) (⟨bN, bA, bK, [nc], [], []⟩ :: f :: fr) := Z16
      have Z17' := Z16'.set (Chg.of hs17) ho17
      have F17' := Zs.frLed F16 Z16 (.tail _ (.tail _ (.head _))) (Chg.of hs17)
      obtain ⟨⟨⟨tn', c1'', en'⟩, _, _, _⟩, _⟩ := id Z17'.hang
      -- page
      refine wpAny_execs_cons ?_
      refine wpAny_Assign_Name ?_
      refine wpAny_BinOp ?_
      refine wpAny_BinOp ?_
      refine wpAny_BinOp ?_
      refine ld F17' e4 ?_
      refine wpAny_mono (Q := fun v s' => ∃ tk', v = .str (tx (if fresh then [62] else [])) (s'.toks - 1) ∧ s' = { s with heap := h17', toks := tk' }) ?_ ?_ (fun _ _ e => e)
      · refine IfExp_ ?_
        refine isTrue_plain ?_
        refine ld F17' e5 ?_
        refine wpAny_truthy_bool ?_
        cases fresh with
        | true =>
          rw [if_pos rfl]
          refine Calls.Constant_str ?_
          rw [hl62]
          exact ⟨_, rfl, rfl⟩
        | false =>
          rw [if_neg (by decide)]
          refine Calls.Constant_str ?_
          rw [hl0]
          exact ⟨_, rfl, rfl⟩
      rintro _ _ ⟨tk18, rfl, rfl⟩
      dsimp only
      have hfl : (if fresh then [62] else [] : List Nat).length ≤ 1 := by cases fresh <;> decide
      refine PyProof.Rows.add_str (fun t18 tk18' => ?_) (by rw [tx_len, tx_len, sizeLine_eq]; omega)
      dsimp only
      rw [tx_app]
      refine Calls.Constant_str ?_
      rw [hl60]
      refine PyProof.Rows.add_str (fun t19 tk19 => ?_) (by rw [tx_len, tx_len, sizeLine_eq, List.length_append]; simp only [List.length_cons, List.length_nil]; omega)
      dsimp only
      rw [tx_app]
      refine Subscript_ ?_
      refine ld F17' rfl ?_
      refine wpAny_Constant_int ?_
      refine item_litK (vs := [_, _, _]) ⟨_, en', rfl, _, rfl⟩ (by decide) (by decide) rfl ?_
      dsimp only
      refine PyProof.Rows.add_str (fun t20 tk20 => ?_) (by rw [tx_len, tx_len, sizeLine_eq, List.length_append, List.length_append]; simp only [List.length_cons, List.length_nil]; omega)
      dsimp only
      rw [tx_app]
      refine stL F17' (fun h21 F21 c21 => ?_)
      have Z21 := Z17'.loc c21
      dsimp only
      refine wpAny_execs_cons ?_
      refine wpAny_Assign_Name ?_
      refine wpAny_Constant_bool ?_
      refine stL F21 (fun h22 F22 c22 => ?_)
      have Z22 := Z21.loc c22
      dsimp only
      refine wpAny_execs_nil ?_
      refine wpAny_execs_nil ?_
      have hct : (page ++ (if fresh then [62] else []) ++ [60] ++ [nc]).count 38 = page.count 38 := by
        simp only [List.count_append]
        have : (if fresh then [62] else [] : List Nat).count 38 = 0 := by cases fresh <;> decide
        rw [this]
        simp [hnc2.2.2.2.1]
      have hNO : NameOk [nc] := ⟨nc, rfl, hnc2.1, hnc2.2.1, hnc2.2.2.1⟩
      have hWF : WF (2 * (i + 1)) (page ++ (if fresh then [62] else []) ++ [60] ++ [nc]) (((⟨bN, bA, bK, [nc], [], []⟩ : Fm) :: f :: fr).map Fm.el) := by
        cases fresh with
        | true =>
          have := (wf rfl).opens hNO
          simpa [Nat.mul_add, Fm.el] using this
        | false =>
          have := (wn rfl).opens hNO
          simpa [Nat.mul_add, Fm.el] using this
      have hok : ∀ g ∈ (⟨bN, bA, bK, [nc], [], []⟩ : Fm) :: f :: fr, ElOk cl g.el ∧ NameOk g.name ∧ 38 ∉ g.name := by
        intro g hg
        rcases List.mem_cons.mp hg with rfl | hg
        · refine ⟨⟨?_, by simp [Fm.el], by simp [Fm.el]⟩, hNO, by simpa using Ne.symm hnc2.2.2.2.1⟩
          intro x hx
          rw [List.mem_singleton.mp hx]; exact hnc2.2.2.2.2
        · exact ok g hg
      refine hG _ h22 _ (Or.inl rfl) ⟨h22, _, ⟨bN, bA, bK, [nc], [], []⟩ :: f :: fr, c + 1, _, true, cl, _, _, itO, Chg.refl _,
        ⟨F22, Z22, e1, e2, e3, rfl, rfl, by rw [hct]; exact e6, fun _ => hWF, by simp, hok, by simp only [List.length_cons]; omega, by simpa using bot, ?_, ?_⟩⟩ (hfp Z22)
      · simp only [List.length_append, List.length_cons, List.length_nil]; omega
      · intro g hg
        rcases List.mem_cons.mp hg with rfl | hg
        · simp
        · have := kl g hg; omega
    · rw [show (kind == 0) = false by simp [hkind0], if_neg (by decide)]
      refine wpAny_execs_cons ?_
      refine wpAny_If ?_
      refine wpAny_mono (wpAny_toks_of (n := 1) (by first | exact Nat.succ_pos _ | assumption | (dsimp only; omega)) (Q := fun b s' => (b = true → fr ≠ []) ∧ ∃ tk', s' = { s with heap := h8, toks := tk' }) ?_) (fun b s' hx => ?_) (fun _ _ e => e.2)
      · refine isTrue_and ?_
        refine wpAny_isTrue_Compare1 ?_
        refine ld F8 k1 ?_
        refine wpAny_Constant_int ?_
        refine PyProof.Rows.eq_int ?_
        refine wpAny_truthy_bool ?_
        dsimp only
        by_cases hkind1 : kind = 1
        · rw [show (kind == 1) = true by simp [hkind1], if_pos rfl]
          refine isTrue_and ?_
          refine wpAny_isTrue_Compare1 ?_
          refine Call_ ?_
          refine bname (Fr.bs F8 B) (by k_is) (by boot_by_name) (by decide) ?_ rfl rfl rfl rfl (by decide)
          refine PyProof.Rows.callWith_builtin1 ?_
          refine spliced_more ?_
          refine ld F8 e2 ?_
          refine spliced_none ?_
          have hsz8 : (pathV (f :: fr)).toArray.size = fr.length + 1 := by simp [pathV]
          refine PyProof.Rows.len_list ⟨_, Z8.hled _ (.tail _ (.tail _ (.head _))), rfl, _, rfl⟩ (by rw [hsz8]; omega) ?_
          dsimp only
          rw [hsz8]
          refine wpAny_Constant_int ?_
          refine gt_int ?_
          refine wpAny_truthy_bool ?_
          cases fr with
          | nil =>
            rw [decide_eq_false (by simp), if_neg (by decide)]
            exact ⟨by simp, _, rfl⟩
          | cons g fr' =>
            rw [decide_eq_true (by simp only [List.length_cons]; omega), if_pos rfl]
            refine isTrue_and_nil ?_
            exact ⟨by simp, _, rfl⟩
        · rw [show (kind == 1) = false by simp [hkind1], if_neg (by decide)]
          exact ⟨by simp, _, rfl⟩
      obtain ⟨htk9, hb9, tk9, rfl⟩ := hx
      dsimp only at htk9 ⊢
      cases b with
      | true =>
        rw [if_pos rfl]
        obtain ⟨g, fr', rfl⟩ : ∃ g fr', fr = g :: fr' := by
          cases fr with
          | nil => exact absurd rfl (hb9 rfl)
          | cons g fr' => exact ⟨g, fr', rfl⟩
        obtain ⟨⟨⟨tn, c1', en⟩, _, _, _⟩, _⟩ := id Z8.hang
        have hNf := (ok f (.head _)).2.1
        have h38 := (ok f (.head _)).2.2
        have hfn1 : f.name.length = 1 := by obtain ⟨c, e, _⟩ := hNf; rw [e]; rfl
        -- page
        refine wpAny_execs_cons ?_
        refine wpAny_Assign_Name ?_
        refine wpAny_BinOp ?_
        refine ld F8 e4 ?_
        refine wpAny_mono (Q := fun v s' => ∃ tk' u, v = .str (tx (if fresh then [47, 62] else [60, 47] ++ f.name ++ [62])) u ∧ s' = { s with heap := h8, toks := tk' }) ?_ ?_ (fun _ _ e => e)
        · refine IfExp_ ?_
          refine isTrue_plain ?_
          refine ld F8 e5 ?_
          refine wpAny_truthy_bool ?_
          cases fresh with
          | true =>
            rw [if_pos rfl]
            refine Calls.Constant_str ?_
            rw [hl4762]
            exact ⟨_, _, rfl, rfl⟩
          | false =>
            rw [if_neg (by decide)]
            refine wpAny_BinOp ?_
            refine wpAny_BinOp ?_
            refine Calls.Constant_str ?_
            rw [hl6047]
            refine Subscript_ ?_
            refine ld F8 k6 ?_
            refine wpAny_Constant_int ?_
            refine item_litK (vs := [_, _, _]) ⟨_, en, rfl, _, rfl⟩ (by decide) (by decide) rfl ?_
            dsimp only
            refine PyProof.Rows.add_str (fun t18 tk18' => ?_) (by rw [tx_len, tx_len, sizeLine_eq, hfn1]; simp)
            dsimp only
            rw [tx_app]
            refine Calls.Constant_str ?_
            rw [hl62]
            refine PyProof.Rows.add_str (fun t19 tk19 => ?_) (by rw [tx_len, tx_len, sizeLine_eq, List.length_append, hfn1]; simp)
            dsimp only
            rw [tx_app]
            exact ⟨_, _, rfl, rfl⟩
        rintro _ _ ⟨tk18, u18, rfl, rfl⟩
        dsimp only
        have hfl : (if fresh then [47, 62] else [60, 47] ++ f.name ++ [62] : List Nat).length ≤ 4 := by
          cases fresh
          · simp [hfn1]
          · simp
        have hw : WN (2 * (i + 1)) (page ++ (if fresh then [47, 62] else [60, 47] ++ f.name ++ [62])) (addKid f.d ((g :: fr').map Fm.el)) := by
          cases fresh with
          | true =>
            exact WF.closes (f := f.el) (st := (g :: fr').map Fm.el) (wf rfl) (by simp)
          | false =>
            exact WN.closes (f := f.el) (st := (g :: fr').map Fm.el) (wn rfl) (by simp) hNf
        have hct : (page ++ (if fresh then [47, 62] else [60, 47] ++ f.name ++ [62])).count 38 = page.count 38 := by
          obtain ⟨cf, ecf, _⟩ := hNf
          have hcf : cf ≠ 38 := by
            rintro rfl
            exact h38 (by rw [ecf]; exact .head _)
          rw [List.count_append]
          have : (if fresh then [47, 62] else [60, 47] ++ f.name ++ [62] : List Nat).count 38 = 0 := by
            cases fresh
            · simp [ecf, hcf]
            · simp
          omega
        generalize (if fresh then [47, 62] else [60, 47] ++ f.name ++ [62] : List Nat) = fin at hfl hw hct ⊢
        refine PyProof.Rows.add_str (fun t20 tk20 => ?_) (by rw [tx_len, tx_len, sizeLine_eq]; omega)
        dsimp only
        rw [tx_app]
        refine stL F8 (fun h21 F21 c21 => ?_)
        have Z21 := Z8.loc c21
        dsimp only
        -- path.pop()
        have hP21 := Z21.hled _ (.tail _ (.tail _ (.head _)))
        rw [pathV_cons] at hP21
        refine wpAny_execs_cons ?_
        refine wpAny_Expr_any ?_
        refine MethodCall_ ?_
        refine ld F21 e2 ?_
        refine Copied.getMethod_pop_at hP21 rfl rfl ?_
        refine callWith_method0 ?_
        refine Copied.pop_at (y := .ref f.N) hP21 ?_ (fun h22 hs22 ho22 => ?_) ?_
        · simp
        rotate_left
        · simp only [List.size_toArray, List.length_append, List.length_cons, List.length_nil]; rw [sizeLine_eq]; omega
        dsimp only at hs22 ⊢
        have e22 : (pathV (g :: fr') ++ [Value.ref f.N]).toArray.pop = (pathV (g :: fr')).toArray := by simp
        rw [e22] at ho22
        have Z21' : Zs s.heap L h21 ([(I, itO), (Dd, listOf dv.toArray 0)] ++ (P, listOf (pathV (f :: g :: fr')).toArray c) :: []) (f :: g :: fr') := Z21
        have Z22 := Z21'.set (Chg.of hs22) ho22
        have Z22' := Zs.close (show Zs s.heap L h22 [(I, itO), (Dd, listOf dv.toArray 0), (P, listOf (pathV (g :: fr')).toArray (c + 1))] (f :: g :: fr') from Z22)
        have F22 := Zs.frLed F21 Z21 (.tail _ (.tail _ (.head _))) (Chg.of hs22)
        refine wpAny_execs_cons ?_
        refine wpAny_Assign_Name ?_
        refine wpAny_Constant_bool ?_
        refine stL F22 (fun h23 F23 c23 => ?_)
        have Z23 := Z22'.loc c23
        dsimp only
        refine wpAny_execs_nil ?_
        refine wpAny_execs_nil ?_
        refine wpAny_execs_nil ?_
        have hok : ∀ x ∈ ({ g with kids := g.kids ++ [f.d] } : Fm) :: fr', ElOk (cl + 1) x.el ∧ NameOk x.name ∧ 38 ∉ x.name := by
          intro x hx
          rcases List.mem_cons.mp hx with rfl | hx
          · have hg := ok g (.tail _ (.head _))
            refine ⟨⟨hg.1.1, hg.1.2.1, ?_⟩, hg.2⟩
            intro d hd
            rcases List.mem_append.mp hd with hd | hd
            · exact (hg.1.2.2 d hd).mono (by omega)
            · rw [List.mem_singleton.mp hd]; exact (ok f (.head _)).1.d
          · have hx' := ok x (.tail _ (.tail _ hx))
            exact ⟨hx'.1.mono (by omega), hx'.2⟩
        refine hG _ h23 _ (Or.inl rfl) ⟨h23, _, { g with kids := g.kids ++ [f.d] } :: fr', c + 1, _, false, cl + 1, _, _, itO, Chg.refl _,
          ⟨F23, Z23, e1, e2, e3, rfl, rfl, by rw [hct]; exact e6, by simp, fun _ => hw, hok, ?_, by simpa using bot, ?_, ?_⟩⟩ (hfp Z23)
        · simp only [List.length_cons] at cl1 ⊢; omega
        · simp only [List.length_append]; omega
        · intro x hx
          rcases List.mem_cons.mp hx with rfl | hx
          · have := kl g (.tail _ (.head _))
            simp only [List.length_append, List.length_cons, List.length_nil]; omega
          · have := kl x (.tail _ (.tail _ hx)); omega
      | false =>
        rw [if_neg (by decide)]
        have hwr : ∀ n : Int, fm (sp1 n) (tx pc) = tx (pc.flatMap (sp1 n)) := fun n => by simp [fm, tx]
        have hwl : ∀ n : Int, (pc.flatMap (sp1 n)).length ≤ 90 := fun n => by
          have := length_flatMap_le (len_sp1 n) pc
          omega
        refine wpAny_execs_cons ?_
        refine wpAny_If ?_
        refine wpAny_mono (wpAny_toks_of (n := 1) (by first | exact Nat.succ_pos _ | assumption | (dsimp only; omega)) (Q := fun b s' => (b = true → fresh = true) ∧ ∃ h' tk', s' = { s with heap := h', toks := tk' } ∧ h'.Ns L m8 ∧ Chg [L] h8 h') ?_) (fun b s' hx => ?_) (fun _ _ e => e.2)
        · refine isTrue_and ?_
          refine wpAny_isTrue_Compare1 ?_
          refine ld F8 k1 ?_
          refine wpAny_Constant_int ?_
          refine PyProof.Rows.eq_int ?_
          refine wpAny_truthy_bool ?_
          dsimp only
          by_cases hkind3 : kind = 3
          · rw [show (kind == 3) = true by simp [hkind3], if_pos rfl]
            refine isTrue_and ?_
            refine isTrue_plain ?_
            refine ld F8 e5 ?_
            refine wpAny_truthy_bool ?_
            cases fresh with
            | false =>
              rw [if_neg (by decide)]
              exact ⟨by simp, h8, _, rfl, F8.ns, Chg.refl _⟩
            | true =>
              rw [if_pos rfl]
              refine isTrue_and ?_
              refine wpAny_isTrue_Compare1 ?_
              refine ld F8 k5 ?_
              obtain ⟨⟨⟨tn, c1', en⟩, nM, ⟨va, c2', ea, pa⟩, _⟩, _⟩ := id Z8.hang
              refine evKeys (cl := []) (Fr.e0 F8) hA rfl (by decide) rfl (by decide) rfl rfl (by decide) (fun _ => rfl) (fun _ => rfl) (by decide) ?_
              refine Subscript_ ?_
              refine ld F8 k6 ?_
              refine wpAny_Constant_int ?_
              refine item_litK (vs := [_, _, _]) ⟨_, en, rfl, _, rfl⟩ (by decide) (by decide) rfl ?_
              refine ⟨f.A, va, c2', rfl, Fr.e0 F8, ea, ?_, ?_, ?_⟩
              · rw [Paired.len pa, List.length_map]
                have := (kl f (.head _)).2
                omega
              · intro v hv
                obtain ⟨d, hd, hvd⟩ := Paired.left pa hv
                obtain ⟨p, _, rfl⟩ := List.mem_map.mp hd
                exact hvd.pair
              · intro D9 h9' tk9' ys9 hns9 cg9 hD9 hys9
                refine PySem.SeqAt.notIn_listAt (fun y => match y with | .str x _ => x == tx [key] | _ => false) ⟨_, hD9, rfl, _, rfl⟩ ?_ ?_
                · intro y hy
                  obtain ⟨x, t, rfl⟩ := hys9 y (by simpa using hy)
                  exact SeqAt.EqAt.str_str _ _ _ _
                · refine wpAny_truthy_bool ?_
                  split
                  · refine isTrue_and_nil ?_
                    exact ⟨by simp, h9', _, rfl, hns9, cg9⟩
                  · exact ⟨by simp, h9', _, rfl, hns9, cg9⟩
          · rw [show (kind == 3) = false by simp [hkind3], if_neg (by decide)]
            exact ⟨by simp, h8, _, rfl, F8.ns, Chg.refl _⟩
        obtain ⟨htk10, hb10, h10, tk10, rfl, hns10, c10⟩ := hx
        dsimp only at htk10 ⊢
        have F10 := Fr.chgL F8 hns10 c10
        have Z10 := Z8.loc c10
        clear F8 Z8 c10 hns10
        cases b with
        | true =>
          rw [if_pos rfl]
          have hfresh := hb10 rfl
          subst hfresh
          have hh3 : 0 ≤ hand.fmod 3 := Int.fmod_nonneg_of_pos _ (by decide)
          have hh4 : hand.fmod 3 < 3 := Int.fmod_lt_of_pos _ (by decide)
          -- page
          refine wpAny_execs_cons ?_
          refine wpAny_Assign_Name ?_
          refine wpAny_BinOp ?_
          refine wpAny_BinOp ?_
          refine wpAny_BinOp ?_
          refine wpAny_BinOp ?_
          refine wpAny_BinOp ?_
          refine ld F10 e4 ?_
          refine Calls.Constant_str ?_
          rw [hl32]
          refine PyProof.Rows.add_str (fun t11 tk11 => ?_) (by rw [tx_len, tx_len, sizeLine_eq]; simp only [List.length_cons, List.length_nil]; omega)
          dsimp only
          rw [tx_app]
          refine ld F10 k5 ?_
          refine PyProof.Rows.add_str (fun t12 tk12 => ?_) (by rw [tx_len, tx_len, sizeLine_eq, List.length_append]; simp only [List.length_cons, List.length_nil]; omega)
          dsimp only
          rw [tx_app]
          refine Calls.Constant_str ?_
          rw [hl6134]
          refine wpAny_with_toks (n := 1) (by first | exact Nat.succ_pos _ | assumption | (dsimp only; omega)) ?_
          refine PyProof.Rows.add_str (fun t13 tk13 hp13 => ?_) (by rw [tx_len, tx_len, sizeLine_eq, List.length_append, List.length_append]; simp only [List.length_cons, List.length_nil]; omega)
          dsimp only at hp13 ⊢
          rw [tx_app]
          refine Call_ ?_
          refine gname (Fr.bs F10 B) (by k_is) ?_ rfl rfl rfl (by decide)
          refine callWith_K (Fr.bs F10 B).X (by k_is) ?_
          refine spliced_more ?_
          refine wpAny_BinOp ?_
          refine wpAny_Constant_int ?_
          refine wpAny_BinOp ?_
          refine ld F10 k4 ?_
          refine wpAny_Constant_int ?_
          refine mod_int' (by decide) ?_
          refine add_int ?_
          dsimp only
          refine spliced_more ?_
          refine ld F10 k3 ?_
          refine spliced_none ?_
          refine ⟨(Fr.bs F10 B).X, ?_⟩
          try dsimp only
          generalize hhd : 2 + hand.fmod 3 = hd2
          have hd20 : 2 ≤ hd2 := by omega
          have hd21 : hd2 < 5 := by omega
          refine use (R := fun v _ => ∃ u, v = .str (fm (sp1 hd2) (tx pc)) u) F10 News.nil (by first | exact Nat.succ_pos _ | assumption | (dsimp only; omega)) (c_written (Fr.bs F10 B) (by simp only [depth_deeper]; omega) (by first | exact Nat.succ_pos _ | assumption | (dsimp only; omega)) (by rw [tx_len]; omega)) ?_
          rintro _ h14 tk14 ⟨u14, rfl⟩ F14 _ hk14 hpos14
          have Z14 := Z10.up (Chg.up hk14)
          rw [hwr]
          have hwl' := hwl hd2
          dsimp only
          refine PyProof.Rows.add_str (fun t15 tk15 => ?_) (by rw [tx_len, tx_len, sizeLine_eq, List.length_append, List.length_append, List.length_append]; simp only [List.length_cons, List.length_nil]; omega)
          dsimp only
          rw [tx_app]
          refine Calls.Constant_str ?_
          rw [hl34]
          refine wpAny_with_toks (n := 1) (by first | exact Nat.succ_pos _ | assumption | (dsimp only; omega)) ?_
          refine PyProof.Rows.add_str (fun t16 tk16 hp16 => ?_) (by rw [tx_len, tx_len, sizeLine_eq, List.length_append, List.length_append, List.length_append, List.length_append]; simp only [List.length_cons, List.length_nil]; omega)
          dsimp only at hp16 ⊢
          rw [tx_app]
          have hpg : page ++ [32] ++ [key] ++ [61, 34] ++ pc.flatMap (sp1 hd2) ++ [34] = page ++ attrR ([key], coded hd2 pc) := by
            simp [attrR, coded_spell]
          rw [hpg]
          refine stL F14 (fun h17' F17' c17 => ?_)
          have Z17' := Z14.loc c17
          dsimp only
          -- here[1].append((key, piece))
          obtain ⟨⟨⟨tn, c1', en⟩, nM, ⟨va, c2', ea, pa⟩, _⟩, _⟩ := id Z17'.hang
          refine wpAny_execs_cons ?_
          refine wpAny_Expr_any ?_
          refine MethodCall_ ?_
          refine Subscript_ ?_
          refine ld F17' k6 ?_
          refine wpAny_Constant_int ?_
          refine item_litK (vs := [_, _, _]) ⟨_, en, rfl, _, rfl⟩ (by decide) (by decide) rfl ?_
          refine Calls.getMethod_list_append ea rfl rfl ?_
          refine callWith_method1 ?_
          refine spliced_more ?_
          refine Tuple_ ?_
          refine spliced_more ?_
          refine ld F17' k5 ?_
          refine spliced_more ?_
          refine ld F17' k3 ?_
          refine spliced_none ?_
          refine newT (fun bT h18 nT _ _ oT cT => ?_) (by rw [sizeLine_eq]; exact (by decide : 2 ≤ 16777216))
          dsimp only at nT cT ⊢
          refine spliced_none ?_
          have F18 := Fr.chg0 F17' cT
          have Z18 := Z17'.up cT
          have ea' := cT _ _ (by simp) ea
          have hva : va.length ≤ i := by
            rw [Paired.len pa, List.length_map]; exact (kl f (.head _)).2
          refine append_at ea' (fun h19 hs19 ho19 => ?_) (by simp only [List.size_toArray]; rw [sizeLine_eq]; omega)
          dsimp only at hs19 ⊢
          rw [List.push_toArray] at ho19
          have nT' := Z17'.fresh F17' nT
          have hST : Sr _ h18 (.ref bT) (dAttr ([key], pc)) := Sr.tuple oT rfl rfl nT' (.cons (Sr.str (tx [key]) t5) (.cons (Sr.str (tx pc) t3) .nil))
          have Z19 := Z18.attr (a2 := f.attrs ++ [([key], pc)]) ho19 (Chg.of hs19) (by
            rw [List.map_append]
            exact Paired.snoc (Paired.imp (fun _ _ x => x.chg (D := []) (by simp) cT) pa) hST)
          have F19 := Zs.fr F18 (Z18.mutL f.A (.head _)) (Z18.mnew f.A (.head _)) (Chg.of hs19)
          -- count
          refine wpAny_execs_cons ?_
          refine wpAny_Assign_Name ?_
          refine wpAny_BinOp ?_
          refine ld F19 e6 ?_
          refine Call_ ?_
          refine gname (Fr.bs F19 B) (by k_is) ?_ rfl rfl rfl (by decide)
          refine callWith_K (Fr.bs F19 B).X (by k_is) ?_
          refine spliced_more ?_
          refine wpAny_BinOp ?_
          refine wpAny_Constant_int ?_
          refine wpAny_BinOp ?_
          refine ld F19 k4 ?_
          refine wpAny_Constant_int ?_
          refine mod_int' (by decide) ?_
          refine add_int ?_
          dsimp only
          rw [hhd]
          refine spliced_more ?_
          refine ld F19 k3 ?_
          refine spliced_none ?_
          refine ⟨(Fr.bs F19 B).X, ?_⟩
          try dsimp only
          refine use (R := fun v _ => ∃ u, v = .int (((pc.flatMap (sp1 hd2)).count 38 : Nat) : Int) u) F19 News.nil (by first | exact Nat.succ_pos _ | assumption | (dsimp only; omega)) (c_count (Fr.bs F19 B) (by simp only [depth_deeper]; omega) hA (by first | exact Nat.succ_pos _ | assumption | (dsimp only; omega)) ⟨by omega, hd21⟩ (by omega)) ?_
          rintro _ h20 tk20 ⟨u20, rfl⟩ F20 _ hk20 hpos20
          have Z20 := Z19.up (Chg.up hk20)
          dsimp only
          refine add_int ?_
          refine stL F20 (fun h21 F21 c21 => ?_)
          have Z21 := Z20.loc c21
          dsimp only
          refine wpAny_execs_nil ?_
          refine wpAny_execs_nil ?_
          refine wpAny_execs_nil ?_
          refine wpAny_execs_nil ?_
          have hct : (((page ++ attrR ([key], coded hd2 pc)).count 38 : Nat) : Int) = ((page.count 38 : Nat) : Int) + (((pc.flatMap (sp1 hd2)).count 38 : Nat) : Int) := by
            rw [List.count_append]
            simp [attrR, coded_spell, hkey2.2.2.1]
          have hat := coded_at hd20 hd21 pc hkey2.1 hkey2.2.1
          have hpl : (attrR ([key], coded hd2 pc)).length ≤ 100 := by
            simp only [attrR, coded_spell, List.length_append, List.length_cons, List.length_nil]; omega
          have hw : WF (2 * (i + 1)) (page ++ attrR ([key], coded hd2 pc)) (({ f with attrs := f.attrs ++ [([key], pc)] } : Fm).el :: fr.map Fm.el) := by
            have := (WF.attr (f := f.el) (st := fr.map Fm.el) (wf rfl) hat).mono (n' := 2 * (i + 1)) (by omega)
            rw [show plainA ([key], coded hd2 pc) = ([key], pc) by simp [plainA, coded_signs]] at this
            exact this
          have hok : ∀ x ∈ ({ f with attrs := f.attrs ++ [([key], pc)] } : Fm) :: fr, ElOk cl x.el ∧ NameOk x.name ∧ 38 ∉ x.name := by
            intro x hx
            rcases List.mem_cons.mp hx with rfl | hx
            · have hg := ok f (.head _)
              refine ⟨⟨hg.1.1, ?_, hg.1.2.2⟩, hg.2⟩
              intro p hp
              rcases List.mem_append.mp hp with hp | hp
              · exact hg.1.2.1 p hp
              · rw [List.mem_singleton.mp hp]
                refine ⟨?_, hpo⟩
                intro x hx
                rw [List.mem_singleton.mp hx]; exact hkey2.2.2.2
            · exact ok x (.tail _ hx)
          refine hG _ h21 _ (Or.inl rfl) ⟨h21, _, { f with attrs := f.attrs ++ [([key], pc)] } :: fr, c, _, true, cl, _, _, itO, Chg.refl _,
            ⟨F21, Z21, e1, e2, e3, rfl, e5, by rw [hct]; rfl, fun _ => hw, by simp, hok, by simp only [List.length_cons]; omega, by simpa using bot, ?_, ?_⟩⟩ (hfp Z21)
          · simp only [List.length_append]; omega
          · intro x hx
            rcases List.mem_cons.mp hx with rfl | hx
            · have := kl f (.head _)
              simp only [List.length_append, List.length_cons, List.length_nil]; omega
            · have := kl x (.tail _ hx); omega
        | false =>
          rw [if_neg (by decide)]
          have hh3 : 0 ≤ hand.fmod 4 := Int.fmod_nonneg_of_pos _ (by decide)
          have hh4 : hand.fmod 4 < 4 := Int.fmod_lt_of_pos _ (by decide)
          generalize hhd : hand.fmod 4 = hd2 at hh3 hh4
          have hwl' := hwl hd2
          -- page
          refine wpAny_execs_cons ?_
          refine wpAny_Assign_Name ?_
          refine wpAny_BinOp ?_
          refine wpAny_BinOp ?_
          refine ld F10 e4 ?_
          refine wpAny_mono (wpAny_toks_of (n := 1) htk10 (Q := fun v s' => ∃ tk' u, v = .str (tx (if fresh then [62] else [])) u ∧ s' = { s with heap := h10, toks := tk' }) ?_) ?_ (fun _ _ e => e.2)
          · refine IfExp_ ?_
            refine isTrue_plain ?_
            refine ld F10 e5 ?_
            refine wpAny_truthy_bool ?_
            cases fresh with
            | true =>
              rw [if_pos rfl]
              refine Calls.Constant_str ?_
              rw [hl62]
              exact ⟨_, _, rfl, rfl⟩
            | false =>
              rw [if_neg (by decide)]
              refine Calls.Constant_str ?_
              rw [hl0]
              exact ⟨_, _, rfl, rfl⟩
          rintro _ _ ⟨htk11, tk11, u11, rfl, rfl⟩
          dsimp only at htk11 ⊢
          have hfl : (if fresh then [62] else [] : List Nat).length ≤ 1 := by cases fresh <;> simp
          have hw1 : WN (2 * (i + 1)) (page ++ (if fresh then [62] else [])) ((f :: fr).map Fm.el) := by
            cases fresh with
            | true => exact (wf rfl).done
            | false =>
              have := (wn rfl).mono (n' := 2 * (i + 1)) (by omega)
              simpa using this
          have hct1 : (page ++ (if fresh then [62] else [])).count 38 = page.count 38 := by
            rw [List.count_append]
            cases fresh <;> simp
          refine wpAny_with_toks (n := 1) htk11 ?_
          refine PyProof.Rows.add_str (fun t12 tk12 hp12 => ?_) (by rw [tx_len, tx_len, sizeLine_eq]; omega)
          dsimp only at hp12 ⊢
          rw [tx_app]
          have hpl1 : (page ++ (if fresh then [62] else []) : List Nat).length ≤ page.length + 1 := by rw [List.length_append]; omega
          generalize (page ++ (if fresh then [62] else []) : List Nat) = page1 at hw1 hct1 hpl1 ⊢
          refine Call_ ?_
          refine gname (Fr.bs F10 B) (by k_is) ?_ rfl rfl rfl (by decide)
          refine callWith_K (Fr.bs F10 B).X (by k_is) ?_
          refine spliced_more ?_
          refine wpAny_BinOp ?_
          refine ld F10 k4 ?_
          refine wpAny_Constant_int ?_
          refine mod_int' (by decide) ?_
          rw [hhd]
          refine spliced_more ?_
          refine ld F10 k3 ?_
          refine spliced_none ?_
          refine ⟨(Fr.bs F10 B).X, ?_⟩
          try dsimp only
          refine use (R := fun v _ => ∃ u, v = .str (fm (sp1 hd2) (tx pc)) u) F10 News.nil (by first | exact Nat.succ_pos _ | assumption | omega | (dsimp only; omega)) (c_written (Fr.bs F10 B) (by simp only [depth_deeper]; omega) (by first | exact Nat.succ_pos _ | assumption | omega | (dsimp only; omega)) (by rw [tx_len]; omega)) ?_
          rintro _ h14 tk14 ⟨u14, rfl⟩ F14 _ hk14 hpos14
          have Z14 := Z10.up (Chg.up hk14)
          rw [hwr]
          try dsimp only
          refine wpAny_with_toks (n := 1) (by first | exact Nat.succ_pos _ | assumption | omega | (dsimp only; omega)) ?_
          refine PyProof.Rows.add_str (fun t15 tk15 hp15 => ?_) (by rw [tx_len, tx_len, sizeLine_eq]; omega)
          try dsimp only at hp15 ⊢
          rw [tx_app, ← coded_spell]
          refine stL F14 (fun h16 F16 c16 => ?_)
          have Z16 := Z14.loc c16
          dsimp only
          -- fresh
          refine wpAny_execs_cons ?_
          refine wpAny_Assign_Name ?_
          refine wpAny_Constant_bool ?_
          refine stL F16 (fun h17' F17' c17 => ?_)
          have Z17' := Z16.loc c17
          dsimp only
          -- count
          refine wpAny_execs_cons ?_
          refine wpAny_Assign_Name ?_
          refine wpAny_BinOp ?_
          refine ld F17' e6 ?_
          refine Call_ ?_
          refine gname (Fr.bs F17' B) (by k_is) ?_ rfl rfl rfl (by decide)
          refine callWith_K (Fr.bs F17' B).X (by k_is) ?_
          refine spliced_more ?_
          refine wpAny_BinOp ?_
          refine ld F17' k4 ?_
          refine wpAny_Constant_int ?_
          refine mod_int' (by decide) ?_
          rw [hhd]
          refine spliced_more ?_
          refine ld F17' k3 ?_
          refine spliced_none ?_
          refine ⟨(Fr.bs F17' B).X, ?_⟩
          try dsimp only
          refine use (R := fun v _ => ∃ u, v = .int (((pc.flatMap (sp1 hd2)).count 38 : Nat) : Int) u) F17' News.nil (by first | exact Nat.succ_pos _ | assumption | omega | (dsimp only; omega)) (c_count (Fr.bs F17' B) (by simp only [depth_deeper]; omega) hA (by first | exact Nat.succ_pos _ | assumption | omega | (dsimp only; omega)) ⟨hh3, by omega⟩ (by omega)) ?_
          rintro _ h20 tk20 ⟨u20, rfl⟩ F20 _ hk20 hpos20
          have Z20 := Z17'.up (Chg.up hk20)
          try dsimp only
          refine add_int ?_
          refine stL F20 (fun h21 F21 c21 => ?_)
          have Z21 := Z20.loc c21
          dsimp only
          have hct : (((page1 ++ spell (coded hd2 pc)).count 38 : Nat) : Int) = ((page.count 38 : Nat) : Int) + (((pc.flatMap (sp1 hd2)).count 38 : Nat) : Int) := by
            rw [List.count_append, hct1, coded_spell]; push_cast; rfl
          have hpl2 : (page1 ++ spell (coded hd2 pc)).length ≤ 200 * (i + 1 + 1) := by
            rw [List.length_append, coded_spell]; omega
          have hcs := coded_cs hh3 hh4 pc
          have hcn : coded hd2 pc = [] ↔ pc = [] := by simp [coded]
          have hsg := coded_signs hd2 pc
          generalize coded hd2 pc = cs at hct hpl2 hcs hcn hsg F21
          clear F20 Z20 F17' Z17' F16 Z16 F14 Z14 F10 Z10 hk20 hk14 c21 c17 c16
          have fin : ∀ (kk : List PyData) (h30 : Heap) (tk30 : Nat) (m30 : Str → Option Value) (tp' tc' : Tok), Fr s.heap L h30 m30 → Zs s.heap L h30 [(I, itO), (Dd, listOf dv.toArray 0), (P, listOf (pathV (f :: fr)).toArray c)] ({ f with kids := kk } :: fr) →
              m30 (Str.ofString "deeds") = some (.ref Dd) → m30 (Str.ofString "path") = some (.ref P) → m30 (Str.ofString "tree") = some (.ref aN) → m30 (Str.ofString "page") = some (.str (tx (page1 ++ spell cs)) tp') → m30 (Str.ofString "fresh") = some (.bool false) →
              m30 (Str.ofString "count") = some (.int (((page1 ++ spell cs).count 38 : Nat) : Int) tc') → WN (2 * (i + 1)) (page1 ++ spell cs) (({ f with kids := kk } : Fm).el :: fr.map Fm.el) → (∀ d ∈ kk, okD cl d) → kk.length ≤ i + 1 →
              ∃ g m fs c page fresh cl tp tc oI, Chg [I] g h30 ∧ Js s.heap L I P Dd aN dv 0 (i + 1) g m fs c page fresh cl tp tc oI := by
            intro kk h30 tk30 m30 tp' tc' F30 Z30 q1 q2 q3 q4 q5 q6 hwn hkk hkl
            refine ⟨h30, m30, { f with kids := kk } :: fr, c, _, false, cl, _, _, itO, Chg.refl _, ⟨F30, Z30, q1, q2, q3, q4, q5, q6, by simp, fun _ => hwn, ?_, by simp only [List.length_cons]; omega, by simpa using bot, hpl2, ?_⟩⟩
            · intro x hx
              rcases List.mem_cons.mp hx with rfl | hx
              · have hg := ok f (.head _)
                exact ⟨⟨hg.1.1, hg.1.2.1, hkk⟩, hg.2⟩
              · exact ok x (.tail _ hx)
            · intro x hx
              rcases List.mem_cons.mp hx with rfl | hx
              · exact ⟨hkl, by show f.attrs.length ≤ i + 1; have := (kl f (.head _)).2; omega⟩
              · have := kl x (.tail _ hx); omega
          have okf := ok f (.head _)
          have klf := (kl f (.head _)).1
          refine wpAny_execs_cons ?_
          refine wpAny_If ?_
          refine wpAny_mono (wpAny_toks_of (n := 1) (by first | exact Nat.succ_pos _ | assumption | omega | (dsimp only; omega)) (Q := fun b s' => (b = true → ∃ k x, f.kids = k ++ [.str x]) ∧ (b = false → ∀ x, f.kids.getLast? ≠ some (.str x)) ∧ ∃ h' tk', s' = { s with heap := h', toks := tk' } ∧ Chg [] h21 h') ?_) (fun b s' hx => ?_) (fun _ _ e => e.2)
          · obtain ⟨⟨⟨tn, c1', en⟩, nM, _, ⟨vk, c3', ek, pk⟩⟩, _⟩ := id Z21.hang
            rw [List.append_nil] at ek
            refine isTrue_and ?_
            refine wpAny_isTrue_Compare1 ?_
            refine Subscript_ ?_
            refine ld F21 k6 ?_
            refine wpAny_Constant_int ?_
            refine item_litK (vs := [_, _, _]) ⟨_, en, rfl, _, rfl⟩ (by decide) (by decide) rfl ?_
            refine List_ ?_
            refine spliced_none ?_
            refine newL (fun De h22 nDe _ oDe cDe => ?_) (by rw [sizeLine_eq]; exact (by decide : 0 ≤ 16777216))
            dsimp only at cDe ⊢
            rcases List.eq_nil_or_concat f.kids with hk0 | ⟨k, d, hkd⟩
            · rw [hk0] at pk
              cases pk
              refine ne_empty (cDe _ _ (by simp) ek) oDe (by simp only [Around.deeper_units]; omega) ?_
              refine wpAny_truthy_bool ?_
              rw [if_neg (by decide)]
              exact ⟨by simp, fun _ x => by rw [hk0]; simp, h22, _, rfl, cDe⟩
            · rw [List.concat_eq_append] at hkd
              rw [hkd] at pk
              obtain ⟨vk', v, rfl, pk', hv⟩ := Paired.unsnoc pk
              refine ne_more (cDe _ _ (by simp) ek) oDe (by simp) (by simp only [Around.deeper_units]; omega) ?_
              refine wpAny_truthy_bool ?_
              rw [if_pos rfl]
              have F22 := Fr.chg0 F21 cDe
              refine isTrue_and ?_
              refine isTrue_plain ?_
              refine Call_ ?_
              refine bname (Fr.bs F22 B) (by k_is) (by boot_by_name) (by decide) ?_ rfl rfl rfl rfl (by decide)
              refine PyProof.Rows.callWith_builtin1 ?_
              refine spliced_more ?_
              refine Subscript_ ?_
              refine Subscript_ ?_
              refine ld F22 k6 ?_
              refine wpAny_Constant_int ?_
              refine item_litK (vs := [_, _, _]) ⟨_, cDe _ _ (by simp) en, rfl, _, rfl⟩ (by decide) (by decide) rfl ?_
              refine UnaryOp_ ?_
              refine wpAny_Constant_int ?_
              refine PyProof.Rows.neg_int ?_
              have hvl' : vk'.length < 1000000 := by
                have h1 := Paired.len pk'
                have h2 : k.length + 1 = f.kids.length := by rw [hkd]; simp
                omega
              refine item_last (cDe _ _ (by simp) ek) ?_ hvl'
              refine spliced_more ?_
              refine bname (Fr.bs F22 B) (by k_is) (by boot_by_name) (by decide) ?_ rfl rfl rfl rfl (by decide)
              refine spliced_none ?_
              have hd := okf.1.2.2 d (by show d ∈ f.kids; rw [hkd]; simp)
              rcases hd.2.2 with ⟨x, rfl⟩ | ⟨xs, rfl⟩
              · obtain ⟨tv', rfl⟩ := hv.str_inv
                refine isi_str ?_
                refine wpAny_truthy_bool ?_
                rw [if_pos rfl]
                refine isTrue_and_nil ?_
                exact ⟨fun _ => ⟨k, x, hkd⟩, by simp, h22, _, rfl, cDe⟩
              · obtain ⟨av, ov, rfl, e1v, e2v⟩ := hv.list_inv
                refine isi_list (cDe _ _ (by simp) e1v) e2v ?_
                refine wpAny_truthy_bool ?_
                rw [if_neg (by decide)]
                exact ⟨by simp, fun _ x => by rw [hkd]; simp, h22, _, rfl, cDe⟩
          obtain ⟨htk22, hbt, hbf, h22, tk22, rfl, c22⟩ := hx
          dsimp only at htk22 ⊢
          have F22 := Fr.chg0 F21 c22
          have Z22 := Z21.up c22
          obtain ⟨⟨⟨tn, c1', en⟩, nM, _, ⟨vk, c3', ek, pk⟩⟩, _⟩ := id Z22.hang
          rw [List.append_nil] at ek
          have hvkl : vk.length ≤ i := by rw [Paired.len pk]; exact klf
          cases b with
          | true =>
            rw [if_pos rfl]
            obtain ⟨k, x, hkx⟩ := hbt rfl
            rw [hkx] at pk
            obtain ⟨vk', v, rfl, pk', hv⟩ := Paired.unsnoc pk
            obtain ⟨tv', rfl⟩ := hv.str_inv
            obtain ⟨lx, rfl, hlx, hwn⟩ := WN.textMore (f := f.el) (st := fr.map Fm.el) hw1 hcs hkx
            rw [hsg] at hwn
            refine wpAny_execs_cons ?_
            refine wpAny_Expr_any ?_
            refine MethodCall_ ?_
            refine Subscript_ ?_
            refine ld F22 k6 ?_
            refine wpAny_Constant_int ?_
            refine item_litK (vs := [_, _, _]) ⟨_, en, rfl, _, rfl⟩ (by decide) (by decide) rfl ?_
            refine Calls.getMethod_list_append ek rfl rfl ?_
            refine callWith_method1 ?_
            refine spliced_more ?_
            refine wpAny_BinOp ?_
            refine MethodCall_ ?_
            refine Subscript_ ?_
            refine ld F22 k6 ?_
            refine wpAny_Constant_int ?_
            refine item_litK (vs := [_, _, _]) ⟨_, en, rfl, _, rfl⟩ (by decide) (by decide) rfl ?_
            refine Copied.getMethod_pop_at ek rfl rfl ?_
            refine callWith_method0 ?_
            refine Copied.pop_at (y := .str (tx lx) tv') ek ?_ (fun h23 hs23 ho23 => ?_) ?_
            · simp
            rotate_left
            · simp only [List.size_toArray]; rw [sizeLine_eq]; omega
            dsimp only at hs23 ⊢
            rw [show (vk' ++ [Value.str (tx lx) tv']).toArray.pop = vk'.toArray by simp] at ho23
            have Z23 := Z22.kidsSet ho23 (Chg.of hs23) pk'
            have F23 := Zs.fr F22 (Z22.mutL f.K (.tail _ (.head _))) (Z22.mnew f.K (.tail _ (.head _))) (Chg.of hs23)
            refine ld F23 k3 ?_
            refine PyProof.Rows.add_str (fun t24 tk24 => ?_) (by rw [tx_len, tx_len, sizeLine_eq]; omega)
            dsimp only
            rw [tx_app]
            refine spliced_none ?_
            simp only [List.length_append, List.length_cons, List.length_nil] at hvkl
            refine append_at ho23 (fun h25 hs25 ho25 => ?_) (by simp only [List.size_toArray]; rw [sizeLine_eq]; omega)
            dsimp only at hs25 ⊢
            rw [List.push_toArray] at ho25
            have pk2 : Paired (Sr (allM L [(I, itO), (Dd, listOf dv.toArray 0), (P, listOf (pathV (f :: fr)).toArray c)] ({ f with kids := k } :: fr)) h23) vk' k :=
              Paired.imp (fun _ _ x => x.chg (D := [f.K]) (by
                intro a ha
                rw [List.mem_singleton.mp ha]
                exact .tail _ (List.mem_append.mpr (.inr (.tail _ (.head _))))) (Chg.of hs23)) pk'
            have Z25 := Zs.kid (n := 0) (d := .str (tx (lx ++ pc))) Z23 ho25 (Chg.of hs25) pk2 (Sr.str _ _)
            have F25 := Zs.fr F23 (Z23.mutL f.K (.tail _ (.head _))) (Z23.mnew f.K (.tail _ (.head _))) (Chg.of hs25)
            refine wpAny_execs_nil ?_
            refine wpAny_execs_nil ?_
            refine wpAny_execs_nil ?_
            refine wpAny_execs_nil ?_
            refine wpAny_execs_nil ?_
            have hkk : ∀ d ∈ k ++ [.str (tx (lx ++ pc))], okD cl d := by
              intro d hd
              rcases List.mem_append.mp hd with hd | hd
              · exact okf.1.2.2 d (by show d ∈ f.kids; rw [hkx]; exact List.mem_append.mpr (.inl hd))
              · rw [List.mem_singleton.mp hd]
                exact okD_app (okf.1.2.2 _ (by show _ ∈ f.kids; rw [hkx]; simp)) hpo
            have hkl2 : (k ++ [PyData.str (tx (lx ++ pc))]).length ≤ i + 1 := by
              have : f.kids.length = k.length + 1 := by rw [hkx]; simp
              simp only [List.length_append, List.length_cons, List.length_nil]; omega
            exact hG _ h25 _ (Or.inl rfl) (fin _ h25 0 _ _ _ F25 Z25 e1 e2 e3 rfl rfl (by rw [hct]; rfl) hwn hkk hkl2) (hfp Z25)
          | false =>
            rw [if_neg (by decide)]
            have hno := hbf rfl
            refine wpAny_execs_cons ?_
            refine wpAny_If ?_
            refine wpAny_isTrue_Compare1 ?_
            refine ld F22 k3 ?_
            refine Calls.Constant_str ?_
            rw [hl0]
            refine PyProof.Rows.ne_str ?_
            refine wpAny_truthy_bool ?_
            dsimp only
            by_cases hpc0 : pc = []
            · rw [show (tx pc != tx []) = false by rw [hpc0]; simp, if_neg (by decide)]
              have hcs0 := hcn.mpr hpc0
              subst hcs0
              refine wpAny_execs_nil ?_
              refine wpAny_execs_nil ?_
              refine wpAny_execs_nil ?_
              refine wpAny_execs_nil ?_
              refine wpAny_execs_nil ?_
              refine wpAny_execs_nil ?_
              exact hG _ h22 _ (Or.inl rfl) (fin f.kids h22 0 _ _ _ F22 Z22 e1 e2 e3 rfl rfl (by rw [hct]; rfl) hw1.textNone okf.1.2.2 (by omega)) (hfp Z22)
            · rw [show (tx pc != tx []) = true by simpa [tx] using hpc0, if_pos rfl]
              have hcs0 : cs ≠ [] := fun e => hpc0 (hcn.mp e)
              refine wpAny_execs_cons ?_
              refine wpAny_Expr_any ?_
              refine MethodCall_ ?_
              refine Subscript_ ?_
              refine ld F22 k6 ?_
              refine wpAny_Constant_int ?_
              refine item_litK (vs := [_, _, _]) ⟨_, en, rfl, _, rfl⟩ (by decide) (by decide) rfl ?_
              refine Calls.getMethod_list_append ek rfl rfl ?_
              refine callWith_method1 ?_
              refine spliced_more ?_
              refine ld F22 k3 ?_
              refine spliced_none ?_
              refine append_at ek (fun h25 hs25 ho25 => ?_) (by simp only [List.size_toArray]; rw [sizeLine_eq]; omega)
              dsimp only at hs25 ⊢
              rw [List.push_toArray] at ho25
              have Z25 := Zs.kid (n := c3') (d := .str (tx pc)) Z22 ho25 (Chg.of hs25) pk (Sr.str _ _)
              have F25 := Zs.fr F22 (Z22.mutL f.K (.tail _ (.head _))) (Z22.mnew f.K (.tail _ (.head _))) (Chg.of hs25)
              have hwn := WN.textNew (f := f.el) (st := fr.map Fm.el) hw1 hcs hcs0 hno
              rw [hsg] at hwn
              refine wpAny_execs_nil ?_
              refine wpAny_execs_nil ?_
              refine wpAny_execs_nil ?_
              refine wpAny_execs_nil ?_
              refine wpAny_execs_nil ?_
              refine wpAny_execs_nil ?_
              have hkk : ∀ d ∈ f.kids ++ [.str (tx pc)], okD cl d := by
                intro d hd
                rcases List.mem_append.mp hd with hd | hd
                · exact okf.1.2.2 d hd
                · rw [List.mem_singleton.mp hd]; exact okD_str hpo
              exact hG _ h25 _ (Or.inl rfl) (fin _ h25 0 _ _ _ F25 Z25 e1 e2 e3 rfl rfl (by rw [hct]; rfl) hwn hkk (by simp only [List.length_append, List.length_cons, List.length_nil]; omega)) (hfp Z25)
  · rintro h tk8 ⟨g, m, fs, c, page, fresh, cl, tp, tc, oI, cg, J⟩ htk
    have F0 := Zs.frLed J.F J.Z (.head _) cg
    have Z0 := J.Z.forget cg
    obtain ⟨_, _, e1, e2, e3, e4, e5, e6, wf, wn, ok, cl1, bot, pl, kl⟩ := J
    clear cg kl e1
    dsimp only
    refine wpAny_execs_cons ?_
    refine wpAny_While ?_
    refine while_walks (n₀ := fs.length) (fun n h => (∃ m fs c page fresh cl tp tc b, n = fs.length ∧ fs ≠ [] ∧ Fr s.heap L h m ∧ Zs s.heap L h [(Dd, listOf dv.toArray 0), (P, listOf (pathV fs).toArray c)] fs ∧ m (Str.ofString "path") = some (.ref P) ∧
        m (Str.ofString "tree") = some (.ref aN) ∧ m (Str.ofString "page") = some (.str (tx page) tp) ∧ m (Str.ofString "fresh") = some (.bool fresh) ∧ m (Str.ofString "count") = some (.int ((page.count 38 : Nat) : Int) tc) ∧
        (fresh = true → WF b page (fs.map Fm.el)) ∧ (fresh = false → WN b page (fs.map Fm.el)) ∧ b + 2 * fs.length ≤ 100 ∧ (∀ f ∈ fs, ElOk cl f.el ∧ NameOk f.name ∧ 38 ∉ f.name) ∧ cl + fs.length ≤ 17 ∧ (fs.map Fm.N).getLast? = some aN ∧ page.length + 10 * fs.length ≤ 4000) ∨
      (n = 0 ∧ ∃ m c toks d tp tc, Fr s.heap L h m ∧ h.get? P = some (listOf ([] : List Value).toArray c) ∧ Sr [L] h (.ref aN) d ∧ m (Str.ofString "path") = some (.ref P) ∧
        m (Str.ofString "tree") = some (.ref aN) ∧ m (Str.ofString "page") = some (.str (tx (render toks)) tp) ∧ m (Str.ofString "count") = some (.int (((render toks).count 38 : Nat) : Int) tc) ∧
        Valid [B0] toks ∧ run [B0] toks = [⟨[], [], [d]⟩] ∧ d.canLay0 = true ∧ d.depth ≤ 50 ∧ (render toks).length ≤ 4000 ∧ toks.length ≤ 102)) htk ?_ ?_
    · refine Or.inl ⟨m, fs, c, page, fresh, cl, tp, tc, 2 * dv.length, rfl, ?_, F0, Z0, e2, e3, e4, e5, e6, wf, wn, by omega, ok, by omega, bot, by omega⟩
      rintro rfl; cases bot
    clear F0 Z0 e2 e3 e4 e5 e6 wf wn ok cl1 bot pl
    rintro n h1 tk1 (⟨m, fs, c, page, fresh, cl, tp, tc, b, rfl, hne, F1, Z1, e2, e3, e4, e5, e6, wf, wn, hb, ok, cl1, bot, pl⟩ | ⟨rfl, m, c, toks, d, tp, tc, F1, hP1, hS, e2, e3, e4, e6, hv, hrn, hcan, hdep, hrl, htl⟩) htk1 G hG
    · obtain ⟨f, fr, rfl⟩ : ∃ f fr, fs = f :: fr := by
        cases fs with
        | nil => exact absurd rfl hne
        | cons f fr => exact ⟨f, fr, rfl⟩
      simp only [List.length_cons] at cl1 pl hb
      have hP1 := Z1.hled _ (.tail _ (.head _))
      rw [pathV_cons] at hP1
      refine wpAny_isTrue_Compare1 ?_
      refine ld F1 e2 ?_
      refine List_ ?_
      refine spliced_none ?_
      refine newL (fun De h2 nDe _ oDe cDe => ?_) (by rw [sizeLine_eq]; exact (by decide : 0 ≤ 16777216))
      dsimp only at cDe ⊢
      refine ne_more (cDe _ _ (by simp) hP1) oDe (by simp) (by simp only [Around.deeper_units]; omega) ?_
      refine wpAny_truthy_bool ?_
      rw [if_pos rfl]
      have F2 := Fr.chg0 F1 cDe
      have Z2 := Z1.up cDe
      have hP2 := cDe _ _ (by simp) hP1
      -- here = path.pop()
      refine wpAny_execs_cons ?_
      refine wpAny_Assign_Name ?_
      refine MethodCall_ ?_
      refine ld F2 e2 ?_
      refine Copied.getMethod_pop_at hP2 rfl rfl ?_
      refine callWith_method0 ?_
      refine Copied.pop_at (y := .ref f.N) hP2 ?_ (fun h3 hs3 ho3 => ?_) ?_
      · simp
      rotate_left
      · simp only [List.size_toArray, List.length_append, List.length_cons, List.length_nil, pathV, List.length_reverse, List.length_map]; rw [sizeLine_eq]; omega
      dsimp only at hs3 ⊢
      rw [show (pathV fr ++ [Value.ref f.N]).toArray.pop = (pathV fr).toArray by simp] at ho3
      have Z2' : Zs s.heap L h2 ([(Dd, listOf dv.toArray 0)] ++ (P, listOf (pathV (f :: fr)).toArray c) :: []) (f :: fr) := Z2
      have Z3 := Z2'.set (Chg.of hs3) ho3
      have F3 := Zs.frLed F2 Z2 (.tail _ (.head _)) (Chg.of hs3)
      refine stL F3 (fun h4 F4 c4 => ?_)
      have Z4 := Z3.loc c4
      dsimp only
      obtain ⟨⟨⟨tn, c1', en⟩, _, _, _⟩, _⟩ := id Z4.hang
      have hNf := (ok f (.head _)).2.1
      have h38 := (ok f (.head _)).2.2
      have hfn1 : f.name.length = 1 := by obtain ⟨c, e, _⟩ := hNf; rw [e]; rfl
      -- page
      refine wpAny_execs_cons ?_
      refine wpAny_Assign_Name ?_
      refine wpAny_BinOp ?_
      refine ld F4 e4 ?_
      refine wpAny_mono (Q := fun v s' => ∃ tk' u, v = .str (tx (if fresh then [47, 62] else [60, 47] ++ f.name ++ [62])) u ∧ s' = { s with heap := h4, toks := tk' }) ?_ ?_ (fun _ _ e => e)
      · refine IfExp_ ?_
        refine isTrue_plain ?_
        refine ld F4 e5 ?_
        refine wpAny_truthy_bool ?_
        cases fresh with
        | true =>
          rw [if_pos rfl]
          refine Calls.Constant_str ?_
          rw [hl4762]
          exact ⟨_, _, rfl, rfl⟩
        | false =>
          rw [if_neg (by decide)]
          refine wpAny_BinOp ?_
          refine wpAny_BinOp ?_
          refine Calls.Constant_str ?_
          rw [hl6047]
          refine Subscript_ ?_
          refine ld F4 rfl ?_
          refine wpAny_Constant_int ?_
          refine item_litK (vs := [_, _, _]) ⟨_, en, rfl, _, rfl⟩ (by decide) (by decide) rfl ?_
          dsimp only
          refine PyProof.Rows.add_str (fun t18 tk18' => ?_) (by rw [tx_len, tx_len, sizeLine_eq, hfn1]; simp)
          dsimp only
          rw [tx_app]
          refine Calls.Constant_str ?_
          rw [hl62]
          refine PyProof.Rows.add_str (fun t19 tk19 => ?_) (by rw [tx_len, tx_len, sizeLine_eq, List.length_append, hfn1]; simp)
          dsimp only
          rw [tx_app]
          exact ⟨_, _, rfl, rfl⟩
      rintro _ _ ⟨tk18, u18, rfl, rfl⟩
      dsimp only
      have hfl : (if fresh then [47, 62] else [60, 47] ++ f.name ++ [62] : List Nat).length ≤ 4 := by
        cases fresh
        · simp [hfn1]
        · simp
      have hct : (page ++ (if fresh then [47, 62] else [60, 47] ++ f.name ++ [62])).count 38 = page.count 38 := by
        obtain ⟨cf, ecf, _⟩ := hNf
        have hcf : cf ≠ 38 := by
          rintro rfl
          exact h38 (by rw [ecf]; exact .head _)
        rw [List.count_append]
        have : (if fresh then [47, 62] else [60, 47] ++ f.name ++ [62] : List Nat).count 38 = 0 := by
          cases fresh
          · simp [ecf, hcf]
          · simp
        omega
      refine PyProof.Rows.add_str (fun t20 tk20 => ?_) (by rw [tx_len, tx_len, sizeLine_eq]; omega)
      dsimp only
      rw [tx_app]
      refine stL F4 (fun h5 F5 c5 => ?_)
      have Z5 := Z4.loc c5
      dsimp only
      refine wpAny_execs_cons ?_
      refine wpAny_Assign_Name ?_
      refine wpAny_Constant_bool ?_
      refine stL F5 (fun h6 F6 c6 => ?_)
      have Z6 := Z5.loc c6
      dsimp only
      refine wpAny_execs_nil ?_
      cases fr with
      | cons g fr' =>
        have hw : WN (b + 2) (page ++ (if fresh then [47, 62] else [60, 47] ++ f.name ++ [62])) (addKid f.d ((g :: fr').map Fm.el)) := by
          cases fresh with
          | true => exact WF.closes (f := f.el) (st := (g :: fr').map Fm.el) (wf rfl) (by simp)
          | false => exact WN.closes (f := f.el) (st := (g :: fr').map Fm.el) (wn rfl) (by simp) hNf
        have Z6' := Zs.close (show Zs s.heap L h6 [(Dd, listOf dv.toArray 0), (P, listOf (pathV (g :: fr')).toArray (c + 1))] (f :: g :: fr') from Z6)
        have hok : ∀ x ∈ ({ g with kids := g.kids ++ [f.d] } : Fm) :: fr', ElOk (cl + 1) x.el ∧ NameOk x.name ∧ 38 ∉ x.name := by
          intro x hx
          rcases List.mem_cons.mp hx with rfl | hx
          · have hg := ok g (.tail _ (.head _))
            refine ⟨⟨hg.1.1, hg.1.2.1, ?_⟩, hg.2⟩
            intro d hd
            rcases List.mem_append.mp hd with hd | hd
            · exact (hg.1.2.2 d hd).mono (by omega)
            · rw [List.mem_singleton.mp hd]; exact (ok f (.head _)).1.d
          · have hx' := ok x (.tail _ (.tail _ hx))
            exact ⟨hx'.1.mono (by omega), hx'.2⟩
        simp only [List.length_cons] at cl1 pl hb
        refine hG _ (fr'.length + 1) h6 _ (Or.inl rfl) (by simp only [List.length_cons]; omega) (Or.inl ⟨_, { g with kids := g.kids ++ [f.d] } :: fr', c + 1, _, false, cl + 1, _, _, b + 2, rfl, by simp, F6, Z6', e2, e3, rfl, rfl, by rw [hct]; exact e6, by simp, fun _ => hw,
          by simp only [List.length_cons]; omega, hok, by simp only [List.length_cons]; omega, by simpa using bot, ?_⟩)
        rw [List.length_append]; simp only [List.length_cons]; omega
      | nil =>
        have hfin : ∃ toks, Valid [B0] toks ∧ run [B0] toks = [⟨[], [], [f.d]⟩] ∧ page ++ (if fresh then [47, 62] else [60, 47] ++ f.name ++ [62]) = render toks ∧ toks.length ≤ b + 2 := by
          cases fresh with
          | true => exact WF.final (f := f.el) (wf rfl)
          | false => exact WN.final (f := f.el) (wn rfl) hNf
        obtain ⟨toks, hv, hrn, hpg, htl⟩ := hfin
        have hN : f.N = aN := by simpa using bot
        have hroot := (Z6.root).mono (M' := [L]) (by intro a ha; rw [List.mem_singleton.mp ha]; exact .head _)
        rw [hN] at hroot
        have hP6 : h6.get? P = some (listOf ([] : List Value).toArray (c + 1)) := Z6.hled _ (.tail _ (.head _))
        have hd := (ok f (.head _)).1.d
        rw [hpg] at hct F6
        have hrl : (render toks).length ≤ 4000 := by
          rw [← hpg, List.length_append]; omega
        simp only [List.length_nil] at cl1 pl hb
        exact hG _ 0 h6 _ (Or.inl rfl) (by simp) (Or.inr ⟨rfl, _, c + 1, toks, f.d, _, _, F6, hP6, hroot, e2, e3, rfl, by rw [hct]; exact e6, hv, hrn, hd.1, Nat.le_trans hd.2.1 (by omega), hrl, by omega⟩)
    · refine wpAny_isTrue_Compare1 ?_
      refine ld F1 e2 ?_
      refine List_ ?_
      refine spliced_none ?_
      refine newL (fun De h2 nDe _ oDe cDe => ?_) (by rw [sizeLine_eq]; exact (by decide : 0 ≤ 16777216))
      dsimp only at cDe ⊢
      refine ne_empty (cDe _ _ (by simp) hP1) oDe (by simp only [Around.deeper_units]; omega) ?_
      refine wpAny_truthy_bool ?_
      rw [if_neg (by decide)]
      intro htk2
      have F2 := Fr.chg0 F1 cDe
      try dsimp only
      refine wpAny_execs_cons ?_
      refine wpAny_Return_some ?_
      refine Tuple_ ?_
      refine spliced_more ?_
      refine ld F2 e4 ?_
      refine spliced_more ?_
      refine ld F2 e3 ?_
      refine spliced_more ?_
      refine ld F2 e6 ?_
      refine spliced_none ?_
      refine newT (fun T' h3 nT _ _ oT cT => ?_) (by rw [sizeLine_eq]; exact (by decide : 3 ≤ 16777216))
      dsimp only at cT ⊢
      have cT' : Chg [L] h1 h3 := fun a o _ e => cT a o (by simp) (cDe a o (by simp) e)
      have hS3 : Sr [] h3 (.ref aN) d := (hS.chg (D := [L]) (fun _ q => q) cT').mono (by simp)
      exact hQ _ _ ⟨_, _, rfl, (Fr.chg0 F2 cT).keep⟩ htk2 ⟨T', aN, toks, d, tp, tc, rfl, ⟨_, oT, rfl, _, rfl⟩, hS3, hv, hrn, hcan, hdep, by omega, by omega⟩
theorem c_page {w : World} {A : Around} {s : Shared} {E : Value → Shared → Prop} {mg mb : Str → Option Value} {l : Addr} {vs : List Value} {ns : List Int}
    (B : Bs w mg mb s.heap) (hroom : A.depth + 20 < recursionLimit) (hA : A.handled = none) (hu : A.units + 200 < cLine) (hl : s.heap.IsList l vs.toArray) (hi : IntsAre vs ns) (hn : ns.length ≤ 63) :
    wpAny (model Challenge.rw_nb0384_02.row.prog w) A (call (.ref 80) [.ref l]) (fun v s' => Keeps s s' ∧ 0 < s'.toks ∧ ∃ T N toks d t1 t2, v = .ref T ∧ IsTup s'.heap T #[.str (tx (render toks)) t1, .ref N, .int (((render toks).count 38 : Nat) : Int) t2] ∧
      Sr [] s'.heap (.ref N) d ∧ Valid [B0] toks ∧ run [B0] toks = [⟨[], [], [d]⟩] ∧ d.canLay0 = true ∧ d.depth ≤ 50 ∧ (render toks).length ≤ 100000 ∧ toks.length ≤ 1000) E s :=
  c_pageO B hroom hA hu hl hi hn (fun _ _ a b c => ⟨a, b, c⟩)
end Mine
end
section
open PySem PySem.W PyProof.Rows
set_option maxRecDepth 100000
set_option maxHeartbeats 2000000
namespace Mine
theorem cnt_count (c : Nat) : ∀ l : List Nat, cnt c l = ((l.count c : Nat) : Int)
  | [] => rfl
  | n :: r => by
    rw [cnt_cons, cnt_count c r, List.count_cons]
    by_cases h : n = c <;> simp [h] <;> omega
theorem count_tx (l : List Nat) (c : Nat) : Txt.count (tx l) (tx [c]) = ((l.count c : Nat) : Int) := by
  have h : Txt.count (tx l) ⟨#[c]⟩ = cnt c l := by
    rw [count_is]; simp only [tx]; rfl
  show Txt.count (tx l) ⟨#[c]⟩ = _
  rw [h, cnt_count]
mutual
theorem rdL {h h' : Heap} {L : Addr} (nL : ∀ o (vs : Array Value) n, h.get? L = some o → o.data = .seq vs n → False) (c : Chg [L] h h') : ∀ (d : PyData) (v : Value) (as : List Addr), d.canLay0 = true → Reads h v d as → Reads h' v d as
  | .none, _, _, _, r => by cases r; exact .none
  | .bool _, _, _, _, r => by cases r; exact .bool _
  | .int _, _, _, _, r => by cases r; exact .int _ _
  | .str _, _, _, _, r => by cases r; exact .str _ _
  | .list xs, _, _, hl, r => by
    cases r with
    | list e1 e2 e3 r => exact .list (c _ _ (fun q => by rw [List.mem_singleton.mp q] at e1; exact nL _ _ _ e1 e3) e1) e2 e3 (rdLAll nL c xs _ _ (by simpa [PyData.canLay0] using hl) r)
  | .tuple xs, _, _, hl, r => by
    cases r with
    | tuple e1 e2 e3 r => exact .tuple (c _ _ (fun q => by rw [List.mem_singleton.mp q] at e1; exact nL _ _ _ e1 e3) e1) e2 e3 (rdLAll nL c xs _ _ (by simpa [PyData.canLay0] using hl) r)
  | .dict _, _, _, hl, _ => nomatch hl
theorem rdLAll {h h' : Heap} {L : Addr} (nL : ∀ o (vs : Array Value) n, h.get? L = some o → o.data = .seq vs n → False) (c : Chg [L] h h') : ∀ (xs : List PyData) (vs : List Value) (as : List Addr), PyData.canLayAll0 xs = true → ReadsAll h vs xs as → ReadsAll h' vs xs as
  | [], _, _, _, r => by cases r; exact .nil
  | x :: xs, _, _, hl, r => by
    have hl' : x.canLay0 = true ∧ PyData.canLayAll0 xs = true := by simpa [PyData.canLayAll0] using hl
    cases r with
    | cons h1 h2 => exact .cons (rdL nL c x _ _ hl'.1 h1) (rdLAll nL c xs _ _ hl'.2 h2)
end
theorem nL_of {h₀ h : Heap} {L : Addr} {m : Str → Option Value} (F : Fr h₀ L h m) : ∀ o (vs : Array Value) n, h.get? L = some o → o.data = .seq vs n → False := by
  intro o vs n e1 e2
  obtain ⟨oL, es, ep, hL, hd, _⟩ := F.ns
  rw [hL] at e1; injection e1 with e1
  subst e1; rw [hd] at e2; cases e2
local macro_rules | `(tactic| walk_at "m_enter0") => `(tactic| (
  (refine' enter0 (Bs.X (by assumption)) (TopRead.nolimit (Bs.T (by assumption))) ?k8 ?k6 ?k7 ?k9 ?kB ?c5 ?c2 ?c3 ?c4 ?_)
  (case k6 => k_is)
  (case k7 => k_is)
  (case k8 => first | assumption | omega)
  (case k9 => exact BindsTo.of_eq rfl)
  (case kB => exact locs rfl)
  (case c5 => decide)
  (case c2 => rfl)
  (case c3 => rfl)
  (case c4 => rfl)))
theorem c_law {w : World} {A : Around} {s : Shared} {E : Value → Shared → Prop} {mg mb : Str → Option Value} {l : Addr} {vs : List Value} {ns : List Int}
    (B : Bs w mg mb s.heap) (hroom : A.depth + 40 < recursionLimit) (hA : A.handled = none) (hu : A.units + 400 < cLine) (hl : s.heap.IsList l vs.toArray) (hi : IntsAre vs ns) (hn : ns.length ≤ 63) :
    wpAny (model Challenge.rw_nb0384_02.row.prog w) A (call (.ref 99) [.ref l]) (fun v s' => Keeps s s' ∧ v = .bool true) E s := by
  have B1 := B
  revert B1; obtain ⟨X, T⟩ := B; revert X; k_fill; intro X B
  walk_at "m_enter0"
  intro L h₁ tk F N
  have hl38 : Str.ofString "&" = tx [38] := by decide +kernel
  refine wpAny_execs_cons ?_
  refine Assign_Tuple ?_
  refine Call_ ?_
  refine gname (Fr.bs F B) (by k_is) ?_ rfl rfl rfl (by decide)
  refine callWith_K (Fr.bs F B).X (by k_is) ?_
  refine spliced_more ?_
  refine ld F rfl ?_
  refine spliced_none ?_
  refine ⟨(Fr.bs F B).X, ?_⟩
  try dsimp only
  refine wpAny_mono (c_page (E := fun _ _ => False) (s := { s with heap := h₁, toks := tk }) (Fr.bs F B) (by simp only [depth_deeper]; omega) hA (by simp only [Around.deeper_units]; omega) (hl.at fun o e => F.keep _ o e) hi hn) (fun v s' hx => ?_) (fun _ _ e => e)
  obtain ⟨⟨h2, tk2, rfl, hk2⟩, htk2, T', aN, toks, d, t1, t2, rfl, hT, hS, hv, hrn, hcan, hdep, hrl, htl⟩ := hx
  dsimp only at hk2 htk2 hT hS ⊢
  have F2 := Fr.up F hk2
  refine assign_Tuple_tuple hA hT rfl rfl fun h3 he3 => ?_
  have c3 : Chg ([] : List Addr) h2 h3 := fun b o _ e => he3 b o (Nat.ne_of_lt (Heap.lt_size e)) e
  have F3 := Fr.chg0 F2 c3
  refine assignInOrder_cons ?_
  refine wpAny_assign_Name ?_
  refine stL F3 (fun h4 F4 c4 => ?_)
  dsimp only at c4 ⊢
  refine assignInOrder_cons ?_
  refine wpAny_assign_Name ?_
  refine stL F4 (fun h5 F5 c5 => ?_)
  dsimp only at c5 ⊢
  refine assignInOrder_cons ?_
  refine wpAny_assign_Name ?_
  refine stL F5 (fun h6 F6 c6 => ?_)
  dsimp only at c6 ⊢
  refine assignInOrder_nil ?_
  obtain ⟨as, hr3⟩ := hS h3 c3
  have hr6 := rdL (nL_of F5) c6 d _ _ hcan (rdL (nL_of F4) c5 d _ _ hcan (rdL (nL_of F3) c4 d _ _ hcan hr3))
  clear hr3 hS hT
  refine wpAny_execs_cons ?_
  refine wpAny_Return_some ?_
  refine BoolOp_and ?_
  refine wpAny_Compare1 ?_
  refine Call_ ?_
  refine gname (Fr.bs F6 B) (by k_is) ?_ rfl rfl rfl (by decide)
  refine callWith_K (Fr.bs F6 B).X (by k_is) ?_
  refine spliced_more ?_
  refine ld F6 rfl ?_
  refine spliced_none ?_
  refine ⟨(Fr.bs F6 B).X, ?_⟩
  try dsimp only
  refine use (R := fun v h => ∃ D as, v = .ref D ∧ Reads h (.ref D) (.list [d]) as) F6 News.nil (by first | exact Nat.succ_pos _ | assumption | omega | (dsimp only; omega)) (c_read (Fr.bs F6 B) (by simp only [depth_deeper]; omega) hA (by simp only [Around.deeper_units]; omega) (by first | exact Nat.succ_pos _ | assumption | omega | (dsimp only; omega)) hrl htl hv hrn) ?_
  rintro _ h7 tk7 ⟨D, as', rfl, hr7⟩ F7 _ hk7 hpos7
  try dsimp only at hk7 ⊢
  refine List_ ?_
  refine spliced_more ?_
  refine ld F7 rfl ?_
  refine spliced_none ?_
  refine newL (fun D2 h8 nD2 _ oD2 c8 => ?_) (by rw [sizeLine_eq]; exact (by decide : 1 ≤ 16777216))
  dsimp only at c8 ⊢
  have F8 := Fr.chg0 F7 c8
  have k8 : ∀ b o, h7.get? b = some o → h8.get? b = some o := fun b o e => c8 b o (by simp) e
  have ra := Reads.keeps k8 hr7
  have rb := Reads.keeps k8 (Reads.keeps hk7 hr6)
  have rb2 : Reads h8 (.ref D2) (.list [d]) (D2 :: (as ++ [])) := .list oD2 rfl rfl (.cons rb .nil)
  have hsh : SeqAt.shaped (.list [d]) = true := by
    unfold SeqAt.shaped
    rw [PyData.canLay0, PyData.canLayAll0, PyData.canLayAll0, hcan, PyData.depth, PyData.depthAll, PyData.depthAll]
    simp; omega
  refine SeqAt.compareEq_shaped ra rb2 hsh hsh (by simp only [Around.deeper_units]; omega) ?_
  rw [SeqAt.eqv_refl _ (SeqAt.canLay_of_shaped hsh)]
  refine wpAny_truthy_bool ?_
  refine BoolOp_one ?_
  refine wpAny_Compare1 ?_
  refine MethodCall_ ?_
  refine ld F8 rfl ?_
  refine GM.count ?_
  refine callWith_method1 ?_
  refine spliced_more ?_
  refine Calls.Constant_str ?_
  refine spliced_none ?_
  rw [hl38]
  refine SC.count ?_
  rw [count_tx]
  refine ld F8 rfl ?_
  refine PyProof.Rows.eq_int ?_
  rw [show ((((render toks).count 38 : Nat) : Int) == (((render toks).count 38 : Nat) : Int)) = true by simp]
  exact ⟨⟨_, _, rfl, F8.keep⟩, rfl⟩
theorem final : PySem.Challenge.rw_nb0384_02.Holds := hd (by
  k_fill
  intro w s₀ s₁ mg mb G Y fa o pm cd doc dV kV ho hdd hcd hD hmg hg args vals as hpre hlay hrd hwl hlo
  have KX := kIn_of Y
  refine Ground.open G ?_
  intro T B D TE TW
  wrow_args hpre hlay hrd hwl hlo
  have hfa : mg (Str.ofString "law") = some (.ref 99) := mg_of KX T.g (by k_is)
  have hfa2 := hmg.symm.trans hfa
  cases hfa2
  dsimp only
  refine wpAny_mono (c_law (E := fun _ _ => False) ⟨KX, topRead_of T⟩ (by decide) rfl (by decide) (by assumption) (by assumption) (by omega)) (fun v s' h => ?_) fun _ _ e => e.elim
  obtain ⟨⟨h', tk', rfl, hk⟩, rfl⟩ := h
  refine GoodW.toG ?_
  refine ⟨Or.inl ⟨.bool true, .bool true, [], rfl, ?_, ?_, ?_, ?_⟩, hk, rfl, hg⟩
  · intro cls; rfl
  · first | exact ReadsW.bool _ | constructor
  · exact postW_of (by wrow_shape) (by wtm_val) (by first | rfl | (str_meet; first | done | w_fin))
  · intro _; exact ⟨.nil, fun _ ha => nomatch ha⟩)
end Mine
end
theorem PySem.Challenge.cw_nb0384_02_holds : PySem.Challenge.rw_nb0384_02.Holds := by
  exact Mine.final
