import PyProof.Rows.All
import Wide.All
import OpenK.AllK
import Wide.FinOn
import Lean
import PySem.Challenge.RW_nb0384_01
set_option Elab.async false
set_option linter.all false
section
open PySem PySem.W PyProof.Rows
set_option maxRecDepth 100000
set_option maxHeartbeats 8000000
namespace Mine
open_top hd for PySem.Challenge.rw_nb0384_01
end Mine
end
section
open PySem PySem.W PyProof.Rows
namespace Mine

/-- a sign by a text, all over a list of signs -/
def rep (c : Nat) (z l : List Nat) : List Nat := l.flatMap fun k => if k = c then z else [k]

theorem rep_free {c : Nat} {z l : List Nat} (h : c ∉ l) : rep c z l = l := by
  induction l with
  | nil => rfl
  | cons k r ih =>
    rw [List.mem_cons, not_or] at h
    show (if k = c then z else [k]) ++ rep c z r = k :: r
    rw [ih h.2, if_neg fun e => h.1 e.symm, List.singleton_append]

theorem rep_append (c : Nat) (z a b : List Nat) : rep c z (a ++ b) = rep c z a ++ rep c z b := by
  unfold rep; rw [List.flatMap_append]

/-- the sign's own row is the text -/
theorem rep_self (c : Nat) (z : List Nat) : rep c z [c] = z := by simp [rep]

theorem rep_join {c : Nat} {z : Str} {parts : List Str} (h : ∀ p ∈ parts, c ∉ p.cps.toList) :
    rep c z.cps.toList (Str.join ⟨#[c]⟩ parts).cps.toList = (Str.join z parts).cps.toList := by
  induction parts with
  | nil => rfl
  | cons p more ih =>
    have free := rep_free (z := z.cps.toList) (h p (.head _))
    cases more with
    | nil => exact free
    | cons q rest =>
      have sides : ∀ y : Str, (Str.join y (p :: q :: rest)).cps.toList = p.cps.toList ++ y.cps.toList ++ (Str.join y (q :: rest)).cps.toList := fun y => by
        rw [← Array.toList_append, ← Array.toList_append]; rfl
      rw [sides, sides, rep_append, rep_append, free, ih fun a ha => h a (.tail _ ha)]
      exact congrArg (p.cps.toList ++ · ++ _) (rep_self c _)

theorem replace_rep (x z : Str) (c : Nat) : (Txt.replace x ⟨#[c]⟩ z).cps.toList = rep c z.cps.toList x.cps.toList := by
  have e := rep_join (z := z) (StrLaws.split_free x c)
  rw [StrLaws.join_split] at e
  rw [e, StrLaws.replace_one]

theorem rep_le {c : Nat} {z : List Nat} (hz : z ≠ []) : ∀ l : List Nat, l.length ≤ (rep c z l).length
  | [] => Nat.le_refl _
  | k :: r => by
    have ih := rep_le (c := c) hz r
    have hz' : 0 < z.length := List.length_pos_iff.mpr hz
    unfold rep at ih ⊢
    rw [List.flatMap_cons, List.length_append, List.length_cons]
    generalize (List.flatMap (fun k => if k = c then z else [k]) r) = q at ih ⊢
    split
    · omega
    · simp only [List.length_cons, List.length_nil]; omega

theorem replace_le (x z : Str) (c : Nat) (hz : z.cps.toList ≠ []) : x.length ≤ (Txt.replace x ⟨#[c]⟩ z).length := by
  have := rep_le (c := c) hz x.cps.toList
  rw [← replace_rep] at this
  simpa [Str.length] using this

theorem replace_none {x z : Str} {c : Nat} (h : (Builtin.Str.occurrences x ⟨#[c]⟩ 0 x.length 1).isEmpty = true) : Txt.replace x ⟨#[c]⟩ z = x := by
  have h1 := StrLaws.found_one x c
  rw [h] at h1
  have hc : c ∉ x.cps.toList := fun m => by simp [m] at h1
  have := replace_rep x z c
  rw [rep_free hc] at this
  exact Str.ext' (by simpa using congrArg List.toArray this)

theorem length_flatMap_le {f : Nat → List Nat} {b : Nat} (hf : ∀ k, (f k).length ≤ b) : ∀ l : List Nat, (l.flatMap f).length ≤ b * l.length
  | [] => by simp
  | k :: r => by
    have ih := length_flatMap_le hf r
    have := hf k
    rw [List.flatMap_cons, List.length_append, List.length_cons, Nat.mul_succ]
    omega

theorem fm_fm (f g : Nat → List Nat) (l : List Nat) : (l.flatMap f).flatMap g = l.flatMap fun k => (f k).flatMap g := by
  rw [List.flatMap_assoc]

end Mine
end
section
open PySem PySem.W PyProof.Rows
set_option maxRecDepth 100000
set_option maxHeartbeats 8000000
namespace Mine

theorem enter {K : Frag} {prog : Program} {w : World} {A : Around} {s : Shared} {E : Value → Shared → Prop} {Q : Value → Shared → Prop}
    {name qual : Str} {params : Arguments} {body : List Stmt} {scope : Scope} {dV kV doc pm cdv ct oc : Value} {an od : Option Addr} {osl : Array (Option Value)} {f : Addr}
    {args : List Value} {binds : List (Str × Value)}
    (X : K.In s.heap) (nl : s.heap.NoLimit) (hroom : A.depth < recursionLimit) (hpos : 0 < s.toks)
    (ho : K.lookup f = some ⟨oc, od, .func (fnOf name qual params body scope dV kV doc pm an cdv ct), osl⟩) (hcd : codeIn K cdv qual = true)
    (hbind : BindsTo s (fnOf name qual params body scope dV kV doc pm an cdv ct) ⟨args, []⟩ binds)
    (hloc : ∀ y ∈ binds, scope.names.lookup y.1 = some .local)
    (hcell : ∀ x ∈ scope.names, x.2 ≠ .cell) (hco : scope.isCoroutine = false) (hgen : scope.isGenerator = false) (hk : scope.kind = .function)
    (h : ∀ L h₁ tk, Fr s.heap L h₁ (fun y => binds.reverse.lookup y) → News s.heap L h₁ [] → 0 < tk →
      wpAny (model prog w) (A.deeper (envOf qual scope L f cdv)) (execs body (envOf qual scope L f cdv))
        (fun fl s' => Q (match fl with | .ret v => v | _ => .none) s') (fun _ _ => False) { s with heap := h₁, toks := tk }) :
    wpAny (model prog w) A (call (.ref f) args) Q E s := by
  refine wpAny_call (codeAny_call_def (fd := fnOf name qual params body scope dV kV doc pm an cdv ct) (body := body) hroom (X _ _ ho) rfl nl (codeRec_of X hcd) rfl hbind hcell hloc (fun h₁ hns hk₁ => ?_) hco hgen hk)
  exact wpAny_mono (h _ h₁ _ ⟨hns, hk₁, Nat.le_refl _⟩ News.nil (by omega)) (fun _ _ x => x) (fun _ _ x => x.elim)

theorem Fr.same {h₀ h : Heap} {L : Addr} {m : Str → Option Value} {x : Str} {v : Value} (F : Fr h₀ L h m) (hm : m x = some v) : Fr h₀ L h (fun y => if y = x then some v else m y) := by
  have : (fun y => if y = x then some v else m y) = m := by
    funext y; by_cases e : y = x
    · rw [if_pos e, e, hm]
    · rw [if_neg e]
  rw [this]; exact F

theorem esc_if {prog : Program} {w : World} {A : Around} {s : Shared} {E : Value → Shared → Prop} {Q : Flow → Shared → Prop}
    {name : Str} {scope : Scope} {L a : Addr} {cd : Value} {h₀ : Heap} {m : Str → Option Value} {news : List (Addr × Obj)} {x c r : Str} {cc : Nat} {t : Tok} {rest : List Stmt}
    {k1 k2 k3 : Nat} {pl : Sem Bool} {p1 p2 p3 p4 p5 p6 p7 p8 p9 p10 p11 : Pos}
    (F : Fr h₀ L s.heap m) (N : News h₀ L s.heap news) (hm : m "text" = some (.str x t)) (hp : 0 < s.toks) (hc : c = ⟨#[cc]⟩) (hx : x.length ≤ 1048576)
    (hr : r.length ≤ 14) (hcr : (c == r) = false)
    (hl : (envOf name scope L a cd).kindOf "text" = some .local) (hk : scope.kind = .function)
    (he0 : eval (.Call (.Attribute (.Name "text" p5) "replace" p6) [.Constant (.str c) k2 p7, .Constant (.str r) k3 p8] [] p9) (envOf name scope L a cd) = (do
      let ov ← eval (.Name "text" p5) (envOf name scope L a cd)
      standAt p6.atName
      let (f, first) ← holding [ov] (getMethod ov "replace" pl)
      callWith p9 f first (backTo p9 (starEach [.Constant (.str c) k2 p7, .Constant (.str r) k3 p8] (envOf name scope L a cd))) []))
    (h : ∀ h' t' tk, 0 < tk → Fr h₀ L h' (fun y => if y = "text" then some (.str (Txt.replace x c r) t') else m y) → News h₀ L h' news →
      wpAny (model prog w) A (execs rest (envOf name scope L a cd)) Q E { s with heap := h', toks := tk }) :
    wpAny (model prog w) A (execs (.If (.Compare (.Constant (.str c) k1 p1) [.In] [.Name "text" p2] p3)
      [.Assign [.Name "text" p4] (.Call (.Attribute (.Name "text" p5) "replace" p6) [.Constant (.str c) k2 p7, .Constant (.str r) k3 p8] [] p9) p10] [] p11 :: rest) (envOf name scope L a cd)) Q E s := by
  refine wpAny_execs_cons (wpAny_If (wpAny_isTrue_Compare1 (Calls.Constant_str (ld (s := { s with toks := s.toks + 1 }) F hm (PyProof.Rows.in_str (wpAny_truthy_bool ?_)) hk hl))))
  cases he : (Builtin.Str.occurrences x c 0 x.length 1).isEmpty with
  | true =>
    subst hc
    refine wpAny_execs_nil ?_
    refine h _ t _ (by show 0 < s.toks + 1; omega) ?_ N
    rw [replace_none he]
    exact Fr.same F hm
  | false =>
    refine wpAny_execs_cons (wpAny_Assign_Name (MethodCall_ (ld (s := { s with toks := s.toks + 1 }) F hm (GM.replace (callWith_method1 (spliced_more (Calls.Constant_str (spliced_more (Calls.Constant_str (spliced_none ?_))))))) hk hl) he0))
    refine wpAny_with_toks (n := 1) (by show 1 ≤ s.toks + 1 + 1 + 1; omega) ?_
    refine SC.replaceW (by show s.toks + 1 ≠ 0; omega) (by show s.toks + 1 + 1 ≠ 0; omega) (by show s.toks + 1 ≠ s.toks + 1 + 1; omega) hcr hx hr (fun t' k hk1 => ?_)
    refine stN (s := { s with toks := k }) F N (fun h' F' N' => wpAny_execs_nil (h h' t' _ ?_ F' N')) hk hl
    exact Nat.lt_of_lt_of_le hk1 (Nat.le_succ _)

theorem enterC {K : Frag} {prog : Program} {w : World} {A : Around} {s : Shared} {E : Value → Shared → Prop} {Q : Value → Shared → Prop}
    {name qual : Str} {params : Arguments} {body : List Stmt} {scope : Scope} {dV kV doc pm cdv ct oc : Value} {an od : Option Addr} {osl : Array (Option Value)} {f : Addr}
    {args : List Value} {binds : List (Str × Value)}
    (X : K.In s.heap) (nl : s.heap.NoLimit) (hroom : A.depth < recursionLimit) (hpos : 0 < s.toks)
    (ho : K.lookup f = some ⟨oc, od, .func (fnOf name qual params body scope dV kV doc pm an cdv ct), osl⟩) (hcd : codeIn K cdv qual = true)
    (hbind : bindArgs (fnOf name qual params body scope dV kV doc pm an cdv ct) ⟨args, []⟩ = pure binds)
    (hkind : (binds.all fun y => scope.names.lookup y.1 == some .local || scope.names.lookup y.1 == some .cell) = true)
    (hnd : ((cellsFrom 0 scope.names []).map (·.1)).Nodup)
    (hco : scope.isCoroutine = false) (hgen : scope.isGenerator = false) (hk : scope.kind = .function)
    (h : ∀ L h₁ tk cells, Fr s.heap L h₁ (bindL (envOfC qual scope L f cdv).kindOf binds fun _ => none) → News s.heap L h₁ cells →
      CellsAre (bindC (envOfC qual scope L f cdv).kindOf binds fun _ => none) (cellsFrom (L + 1) scope.names []) cells → 0 < tk →
      wpAny (model prog w) (A.deeper (envOfC qual scope L f cdv)) (execs body (envOfC qual scope L f cdv))
        (fun fl s' => Q (match fl with | .ret v => v | _ => .none) s') (fun _ _ => False) { s with heap := h₁, toks := tk }) :
    wpAny (model prog w) A (call (.ref f) args) Q E s := by
  refine wpAny_call (codeAny_with_toks (n := 1) hpos (codeAny_call_function hroom (X _ _ ho) rfl hco hgen rfl (codeRec_of X hcd) ?_))
  rw [hbind]
  refine wpAny_pure (wpAny_with_toks (n := 1) hpos (wpAny_newFunctionEnv_cells hk (kindsX hkind _) fun env' he s' x hs' => ?_))
  subst he
  refine ⟨nl.keeps x.toInCall.keep, codeAny_func ?_⟩
  obtain ⟨h₁, tk, rfl, _⟩ := x.done
  obtain ⟨cells, NC, Y⟩ := Cl.news (h₀ := s.heap) (Nat.le_refl _) fun n c hm => ⟨x.cell n c (lookup_of_mem_nodup (cellsFrom_names scope.names 0 (s.heap.objs.size + 1) [] [] rfl ▸ hnd) hm), x.above n c hm⟩
  exact wpAny_mono (h s.heap.objs.size h₁ tk cells ⟨x.toInCall.ns, x.toInCall.keep, Nat.le_refl _⟩ NC Y hs') (fun fl s' hl _ => hl) fun _ _ y => y.elim

theorem use {M : Model} {A : Around} {s : Shared} {E : Value → Shared → Prop} {Q : Value → Shared → Prop} {R : Value → Heap → Prop} {t : Sem Value}
    {h₀ : Heap} {L : Addr} {m : Str → Option Value} {news : List (Addr × Obj)}
    (F : Fr h₀ L s.heap m) (N : News h₀ L s.heap news) (hp : 0 < s.toks)
    (hc : wpAny M A t (fun v s' => Keeps s s' ∧ R v s'.heap) (fun _ _ => False) s)
    (h : ∀ v h' tk, R v h' → Fr h₀ L h' m → News h₀ L h' news → (∀ b o, s.heap.get? b = some o → h'.get? b = some o) → 0 < tk → Q v { s with heap := h', toks := tk }) : wpAny M A t Q E s := by
  refine wpAny_mono (wpAny_toks_of (n := 1) hp hc) (fun v s' x => ?_) (fun _ _ x => x.2.elim)
  obtain ⟨ht, ⟨h', tk, rfl, hk⟩, hR⟩ := x
  exact h v h' tk hR ⟨F.ns.keeps hk, fun b o e => hk b o (F.keep b o e), F.above⟩ (fun p hp => ⟨hk _ _ (N p hp).1, (N p hp).2⟩) hk ht

/-- a list comprehension with one clause and one name: what a turn does -/
structure CompTurn (prog : Program) (w : World) (A : Around) (env : Env) (scope : Scope) (cl : List (Str × Addr)) (x : Str) (ifs : List Expr) (elt : Expr) (p : Value → Bool) (F : Value → Value → Prop)
    (P : Nat → Value → Prop) (s₁ : Shared) : Prop where
  tests : ∀ C i v s₃ m₃ E', P i v → s₃.heap.Ns C m₃ → m₃ x = some v → (∀ b o, s₁.heap.get? b = some o → s₃.heap.get? b = some o) → s₁.toks ≤ s₃.toks → s₁.heap.objs.size ≤ C →
    wpAny (model prog w) A (forIn ifs true fun c r => if r = true then do let ok ← isTrue c (compEnvC scope cl C env) (eval c (compEnvC scope cl C env)); pure (ForInStep.yield ok) else pure (ForInStep.yield r))
      (fun ok s₄ => ok = p v ∧ Keeps s₃ s₄) E' s₃
  elt : ∀ C i v s₃ m₃ E', P i v → p v = true → s₃.heap.Ns C m₃ → m₃ x = some v → (∀ b o, s₁.heap.get? b = some o → s₃.heap.get? b = some o) → s₁.toks ≤ s₃.toks → s₁.heap.objs.size ≤ C →
    wpAny (model prog w) A (eval elt (compEnvC scope cl C env)) (fun y s₄ => F v y ∧ Keeps s₃ s₄) E' s₃
/-- what stands at its end -/
def CompFin (p : Value → Bool) (F : Value → Value → Prop) (Q : Value → Shared → Prop) (n : Nat) (P : Nat → Value → Prop) (s₁ : Shared) : Prop :=
  ∀ D h' tk ys (vs : List Value), s₁.heap.get? D = none → h'.PlainList D ys → vs.length = n → (∀ j v, vs[j]? = some v → P j v) → Paired F (vs.filter p) ys.toList →
    (∀ b o, s₁.heap.get? b = some o → h'.get? b = some o) → 0 < tk → Q (.ref D) { s₁ with heap := h', toks := tk }
/-- the same where the statement stores it -/
def CompFinA (L : Addr) (y : Str) (p : Value → Bool) (F : Value → Value → Prop) (Q : Flow → Shared → Prop) (n : Nat) (P : Nat → Value → Prop) (s₁ : Shared) : Prop :=
  ∃ m, s₁.heap.Ns L m ∧ ∀ D h' tk ys (vs : List Value), s₁.heap.get? D = none → h'.PlainList D ys → vs.length = n → (∀ j v, vs[j]? = some v → P j v) → Paired F (vs.filter p) ys.toList →
    h'.Ns L (fun z => if z = y then some (.ref D) else m z) → (∀ b o, b ≠ L → s₁.heap.get? b = some o → h'.get? b = some o) → 0 < tk → Q .next { s₁ with heap := h', toks := tk }

section
variable {prog : Program} {w : World} {A : Around} {E : Value → Shared → Prop} {env : Env}

theorem quiet_push {s₁ : Shared} {o : Obj} {elt : Expr} {x : Str} {ifs : List Expr} {scope : Scope} {cl : List (Str × Addr)} {p : Value → Bool} {F : Value → Value → Prop} {P : Nat → Value → Prop}
    (C : CompTurn prog w A env scope cl x ifs elt p F P s₁) : QuietOnC prog w A env scope cl x ifs elt [s₁.heap.objs.size] P p F { s₁ with heap := s₁.heap.push o } := by
  have up : ∀ {h' : Heap}, (∀ b o', b ∉ [s₁.heap.objs.size] → (s₁.heap.push o).get? b = some o' → h'.get? b = some o') → ∀ b o', s₁.heap.get? b = some o' → h'.get? b = some o' :=
    fun hk b o' e => hk b o' (by simpa using Nat.ne_of_lt (Heap.lt_size e)) (Heap.get?_push_of_some _ e)
  refine ⟨?_, ?_⟩
  · intro C' i v s₃ m₃ E' hC hv hn hm hk ht
    exact C.tests C' i v s₃ m₃ E' hv hn hm (up hk) ht (by have : (s₁.heap.push o).objs.size ≤ C' := hC; rw [Heap.size_push] at this; omega)
  · intro C' i v s₃ m₃ E' hC hv hp hn hm hk ht
    exact C.elt C' i v s₃ m₃ E' hv hp hn hm (up hk) ht (by have : (s₁.heap.push o).objs.size ≤ C' := hC; rw [Heap.size_push] at this; omega)

theorem none_push {h : Heap} {o : Obj} {D : Addr} (hD : (h.push o).get? D = none) : h.get? D = none := by
  cases e : h.get? D with
  | none => rfl
  | some o' => rw [Heap.get?_push_of_some _ e] at hD; cases hD

/-- where a clause draws from: a list, a range by ones, a text -/
def CompSrc (prog : Program) (w : World) (A : Around) (env : Env) (scope : Scope) (cl : List (Str × Addr)) (x : Str) (ifs : List Expr) (elt : Expr) (p : Value → Bool) (F : Value → Value → Prop)
    (Fin : Nat → (Nat → Value → Prop) → Shared → Prop) (xv : Value) (s₁ : Shared) : Prop :=
  (∃ ax items, xv = .ref ax ∧ s₁.heap.IsList ax items ∧ items.size ≤ sizeLine ∧ CompTurn prog w A env scope cl x ifs elt p F (fun i v => items[i]? = some v) s₁ ∧ Fin items.size (fun i v => items[i]? = some v) s₁) ∨
  (∃ r a b t u v n, xv = .ref r ∧ IsRange s₁.heap r a b 1 t u v ∧ Builtin.Range.small a b 1 = true ∧ Builtin.Range.rangeSize a b 1 = (n : Nat) ∧ n ≤ sizeLine ∧
    CompTurn prog w A env scope cl x ifs elt p F (fun i v => i < n ∧ ∃ t, v = .int (a + i) t) s₁ ∧ Fin n (fun i v => i < n ∧ ∃ t, v = .int (a + i) t) s₁) ∨
  (∃ y t, xv = .str y t ∧ y.length ≤ sizeLine ∧ CompTurn prog w A env scope cl x ifs elt p F (SignAt y) s₁ ∧ Fin y.cps.size (SignAt y) s₁)

/-- the three sources open alike -/
theorem src_open {s₁ : Shared} {elt : Expr} {x : Str} {ifs : List Expr} {scope : Scope} {cl : List (Str × Addr)} {p : Value → Bool} {F : Value → Value → Prop} {Fin : Nat → (Nat → Value → Prop) → Shared → Prop} {xv : Value}
    {Q' : Value → Shared → Prop} (hh : A.handled = none) (h : CompSrc prog w A env scope cl x ifs elt p F Fin xv s₁)
    (go : ∀ o fp n P St, Walks prog w A s₁.heap.objs.size fp [s₁.heap.objs.size] n P St → n ≤ sizeLine → St 0 (s₁.heap.push o) → (∀ b ∈ fp, b < (s₁.heap.push o).objs.size) →
      CompTurn prog w A env scope cl x ifs elt p F P s₁ → Fin n P s₁ → Q' (.ref s₁.heap.objs.size) { s₁ with heap := s₁.heap.push o }) :
    wpAny (model prog w) A (pyIter xv) Q' E s₁ := by
  rcases h with ⟨ax, items, rfl, hl, hsz, C, hF⟩ | ⟨r, a, b, t, u, v, n, rfl, hr, hsm, hn, hsz, C, hF⟩ | ⟨y, t, rfl, hsz, C, hF⟩
  · refine wpAny_pyIter_list hl ?_
    obtain ⟨ol, hol, hol'⟩ := id hl
    have hax : ax < s₁.heap.objs.size := Heap.lt_size hol
    refine go _ _ _ _ _ (Walks.list hh _ ax (Nat.ne_of_lt hax) items) hsz ⟨⟨_, Heap.get?_push_size _ rfl, rfl, rfl⟩, ⟨ol, Heap.get?_push_of_some _ hol, hol'⟩⟩ ?_ C hF
    intro b hb
    rw [Heap.size_push]
    rcases List.mem_cons.mp hb with rfl | hb
    · exact Nat.lt_succ_self _
    · rw [List.mem_singleton.mp hb]; exact Nat.lt_succ_of_lt hax
  · refine wpAny_pyIter_range hr hsm ?_
    have W := (Walks.range (prog := prog) (w := w) hh s₁.heap.objs.size a 1 n).bound
    have e : (fun i v => i < n ∧ ∃ t, v = Value.int (a + (i : Int) * 1) t) = fun (i : Nat) v => i < n ∧ ∃ t, v = Value.int (a + (i : Int)) t := by
      funext i v; simp
    rw [e] at W
    refine go _ _ _ _ _ W hsz ?_ ?_ C hF
    · show IsRangeIter _ _ _ _ _
      rw [hn]; simpa using Heap.get?_push_size _ rfl
    · intro b hb; rw [Heap.size_push, List.mem_singleton.mp hb]; exact Nat.lt_succ_self _
  · refine wpAny_pyIter_str (fun o St hW hst => ?_)
    refine go _ _ _ _ _ (hW A hh) hsz hst ?_ C hF
    intro b hb; rw [Heap.size_push, List.mem_singleton.mp hb]; exact Nat.lt_succ_self _

theorem evComp {s : Shared} {elt iter : Expr} {x : Str} {px : Pos} {ifs : List Expr} {scope : Scope} {cl : List (Str × Addr)} {pos : Pos} {Q : Value → Shared → Prop} (p : Value → Bool) (F : Value → Value → Prop)
    (hclos : closureFor scope env = pure cl) (hcell : ∀ y ∈ scope.names, y.2 ≠ .cell) (hkind : scope.kind = .function)
    (hnames : ∀ y ∈ scope.names, y.2 = .local → scope.names.lookup y.1 = some .local) (hx : scope.names.lookup x = some .local) (hh : A.handled = none) (hpos : 0 < s.toks)
    (h : wpAny (model prog w) A (eval iter env) (CompSrc prog w A env scope cl x ifs elt p F (CompFin p F Q)) E s)
    (hs : ∀ x, foldedSetIterable iter env x = pure x := by intro _; rfl) :
    wpAny (model prog w) A (eval (.ListComp elt [⟨.Name x px, iter, ifs, 0⟩] scope pos) env) Q E s := by
  refine wpAny_with_toks (n := 1) hpos (wpAny_ListComp_free p F hclos hcell hkind hnames hx (wpAny_mono h (fun xv s₁ h₁ => ?_) fun _ _ e _ => e) hs)
  refine src_open hh h₁ fun o fp n P St W hsz hst hfp C hF => ?_
  refine ⟨_, fp, _, n, P, St, rfl, W, hsz, hst, hfp, quiet_push C, ?_⟩
  intro D h' tk ys vs hD _ hpl hlen hP hFp hk htk
  exact hF D h' tk ys vs (none_push hD) hpl hlen hP hFp (fun b o' e => hk b o' (by simpa using Nat.ne_of_lt (Heap.lt_size e)) (Heap.get?_push_of_some _ e)) htk

theorem evCompA {s : Shared} {elt iter : Expr} {x y : Str} {px py : Pos} {ifs : List Expr} {scope : Scope} {cl : List (Str × Addr)} {pos spos : Pos} {Q : Flow → Shared → Prop} (p : Value → Bool) (F : Value → Value → Prop)
    (hsw : swapsWith (.ListComp elt [⟨.Name x px, iter, ifs, 0⟩] scope pos) (some (.Name y py)) spos.line env = pure true)
    (hclos : closureFor scope env = pure cl) (hcell : ∀ y ∈ scope.names, y.2 ≠ .cell) (hkind : scope.kind = .function)
    (hnames : ∀ y ∈ scope.names, y.2 = .local → scope.names.lookup y.1 = some .local) (hx : scope.names.lookup x = some .local)
    (hy : env.kindOf y = some .local) (hp : (env.scope.kind == .class || (env.scope.kind == .module && env.locals != env.globals)) = false) (hh : A.handled = none) (hpos : 0 < s.toks)
    (h : wpAny (model prog w) A (eval iter env) (CompSrc prog w A env scope cl x ifs elt p F (CompFinA env.locals y p F Q)) E s)
    (hs : ∀ x, foldedSetIterable iter env x = pure x := by intro _; rfl) :
    wpAny (model prog w) A (exec (.Assign [.Name y py] (.ListComp elt [⟨.Name x px, iter, ifs, 0⟩] scope pos) spos) env) Q E s := by
  refine wpAny_with_toks (n := 1) hpos (wpAny_Assign_ListComp_free p F hsw hclos hcell hkind hnames hx hy hp (wpAny_mono h (fun xv s₁ h₁ => ?_) fun _ _ e _ => e) hs)
  refine src_open hh h₁ fun o fp n P St W hsz hst hfp C hF => ?_
  obtain ⟨m, hn, hF⟩ := hF
  refine ⟨_, fp, _, n, P, St, m, rfl, W, hsz, hst, hfp, ?_, hn.keeps fun b o e => Heap.get?_push_of_some _ e, quiet_push C, ?_⟩
  · intro hm
    have := hn.lt
    rw [List.mem_singleton.mp hm] at this
    exact Nat.lt_irrefl _ this
  · intro D h' tk ys vs hD _ hpl hlen hP hFp hns hk htk
    exact hF D h' tk ys vs (none_push hD) hpl hlen hP hFp hns (fun b o' hb e => hk b o' hb (by simpa using Nat.ne_of_lt (Heap.lt_size e)) (Heap.get?_push_of_some _ e)) htk
end
end Mine
end
section
open PySem PySem.W PyProof.Rows
set_option maxRecDepth 100000
set_option maxHeartbeats 8000000
namespace Mine
section
variable {prog : Program} {w : World} {A : Around} {env : Env}

/-- a for over a walked source, by what holds of the heap between the turns -/
theorem for_walks {s : Shared} {R : Result → Shared → Prop} {x : Str} {px : Pos} {body : List Stmt} {I : Addr} {fp wr : List Addr} {n : Nat} {P : Nat → Value → Prop} {St : Nat → Heap → Prop}
    (W : Walks prog w A I fp wr n P St) (J : Nat → Heap → Prop) (hpos : 0 < s.toks) (hst : St 0 s.heap) (h0 : J 0 s.heap)
    (frame : ∀ i h h', J i h → (∀ b o, b ∉ wr → h.get? b = some o → h'.get? b = some o) → J i h')
    (turn : ∀ i v h tk, i < n → P i v → J i h → St (i + 1) h → 0 < tk →
      wpAny (model prog w) A (assign (.Name x px) env v) (fun _ s₂ => wpAny (model prog w) A (execs body env) (fun f s₃ =>
        (f = .next ∨ f = .cont) ∧ ∃ h' tk', s₃ = { s with heap := h', toks := tk' } ∧ J (i + 1) h' ∧ ∀ b ∈ fp, ∀ o, h.get? b = some o → h'.get? b = some o) (fun _ _ => False) s₂) (fun _ _ => False) { s with heap := h, toks := tk })
    (done : ∀ h tk, J n h → 0 < tk → R (.ok .next) { s with heap := h, toks := tk }) :
    codeAny (model prog w) A (.forLoop (.Name x px) (.ref I) body [] env) R s := by
  refine codeAny_forLoop (fun k s' => ∃ h tk i, s' = { s with heap := h, toks := tk } ∧ J i h ∧ St i h ∧ i ≤ n ∧ k = n + 1 - i ∧ 0 < tk) ?_ (n + 1) ⟨s.heap, s.toks, 0, rfl, h0, hst, Nat.zero_le _, rfl, hpos⟩
  rintro k s' ⟨h, tk, i, rfl, hJ, hSt, hi, rfl, htk⟩
  by_cases hlt : i < n
  · refine wpAny_with_toks (n := 1) htk (W.item i _ _ _ hlt hSt fun v h₁ tk₁ hP hst₁ hk₁ htk₁ => ?_)
    refine wpAny_mono (wpAny_toks_of (n := 1) htk₁ (turn i v h₁ tk₁ hlt hP (frame i h h₁ hJ hk₁) hst₁ htk₁)) (fun _ s₂ h₂ => ?_) fun _ _ e => e.2.elim
    refine wpAny_mono (wpAny_toks_of (n := 1) h₂.1 h₂.2) (fun f s₃ h₃ => ?_) fun _ _ e => e.2.elim
    obtain ⟨htk₃, hf, h', tk', rfl, hJ', hk'⟩ := h₃
    have st' : St (i + 1) h' := W.frame _ _ _ hst₁ hk'
    have e : ∃ m, m < n + 1 - i ∧ ∃ h'' tk'' i', ({ s with heap := h', toks := tk' } : Shared) = { s with heap := h'', toks := tk'' } ∧ J i' h'' ∧ St i' h'' ∧ i' ≤ n ∧ m = n + 1 - i' ∧ 0 < tk'' :=
      ⟨n + 1 - (i + 1), by omega, h', tk', i + 1, rfl, hJ', st', hlt, rfl, htk₃⟩
    rcases hf with rfl | rfl <;> exact e
  · have hin : i = n := by omega
    subst hin
    refine wpAny_with_toks (n := 1) htk (W.done _ _ _ hSt fun h' tk' hk' htk' => ?_)
    exact wpAny_execs_nil (done h' tk' (frame _ _ _ hJ hk') htk')
end
end Mine
end
section
open PySem PySem.W PyProof.Rows
set_option maxRecDepth 100000
set_option maxHeartbeats 8000000
namespace Mine
open Builtin Builtin.Str

theorem Fr.up {h₀ h h' : Heap} {L : Addr} {m : Str → Option Value} (F : Fr h₀ L h m) (hk : ∀ b o, h.get? b = some o → h'.get? b = some o) : Fr h₀ L h' m :=
  ⟨F.ns.keeps hk, fun b o e => hk b o (F.keep b o e), F.above⟩
theorem News.up {h₀ h h' : Heap} {L : Addr} {news : List (Addr × Obj)} (N : News h₀ L h news) (hk : ∀ b o, h.get? b = some o → h'.get? b = some o) : News h₀ L h' news :=
  fun p hp => ⟨hk _ _ (N p hp).1, (N p hp).2⟩
theorem News.add {h₀ h : Heap} {L D : Addr} {m : Str → Option Value} {o : Obj} {news : List (Addr × Obj)} {s₁ : Heap} (F : Fr h₀ L s₁ m) (N : News h₀ L h news) (hD : s₁.get? D = none) (ho : h.get? D = some o) :
    News h₀ L h ((D, o) :: news) := by
  intro p hp
  rcases List.mem_cons.mp hp with rfl | hp
  · refine ⟨ho, ?_, ?_⟩
    · rintro rfl
      obtain ⟨oL, _, _, hL, _⟩ := F.ns
      rw [hD] at hL; cases hL
    · cases e : h₀.get? D with
      | none => rfl
      | some o' => have := F.keep _ _ e; rw [hD] at this; cases this
  · exact N p hp

theorem Fr.setA {h₀ h h' : Heap} {L : Addr} {m m' : Str → Option Value} (F : Fr h₀ L h m) (hns : h'.Ns L m') (hk : ∀ b o, b ≠ L → h.get? b = some o → h'.get? b = some o) : Fr h₀ L h' m' :=
  ⟨hns, fun b o e => hk b o (Nat.ne_of_lt (Nat.lt_of_lt_of_le (Heap.lt_size e) F.above)) (F.keep b o e), F.above⟩
theorem News.setA {h₀ h h' : Heap} {L : Addr} {news : List (Addr × Obj)} (N : News h₀ L h news) (hk : ∀ b o, b ≠ L → h.get? b = some o → h'.get? b = some o) : News h₀ L h' news :=
  fun p hp => ⟨hk _ _ (N p hp).2.1 (N p hp).1, (N p hp).2⟩
theorem ne_none {h : Heap} {a b : Addr} {o : Obj} (ha : h.get? a = none) (hb : h.get? b = some o) : a ≠ b := by
  rintro rfl; rw [ha] at hb; cases hb

theorem Fr.off {h₀ h h' : Heap} {L I : Addr} {m : Str → Option Value} (F : Fr h₀ L h m) (hk : ∀ b o, b ∉ [I] → h.get? b = some o → h'.get? b = some o) (hL : L ≠ I) (hI : h₀.get? I = none) : Fr h₀ L h' m :=
  ⟨F.ns.at' fun o e => hk _ _ (by simpa using hL) e, fun b o e => hk b o (by
    intro hb
    rw [List.mem_singleton.mp hb, hI] at e; cases e) (F.keep b o e), F.above⟩
theorem News.off {h₀ h h' : Heap} {L I : Addr} {news : List (Addr × Obj)} (N : News h₀ L h news) (hk : ∀ b o, b ∉ [I] → h.get? b = some o → h'.get? b = some o) (hI : ∀ p ∈ news, p.1 ≠ I) : News h₀ L h' news :=
  fun p hp => ⟨hk _ _ (by simpa using hI p hp) (N p hp).1, (N p hp).2⟩
theorem News.sub {h₀ h : Heap} {L : Addr} {news news' : List (Addr × Obj)} (N : News h₀ L h news) (hs : ∀ p ∈ news', p ∈ news) : News h₀ L h news' := fun p hp => N p (hs p hp)

theorem rng_small (n : Nat) (a : Int) (ha : 0 ≤ a) (ha' : a < 1000) (hn : n < 1000000) : Builtin.Range.small a (n : Int) 1 = true := small_one (by omega) (by omega) (by omega) (by omega)
theorem rng_size (n : Nat) : Builtin.Range.rangeSize 0 (n : Int) 1 = (n : Int) := by rw [rangeSize_one]; split <;> omega

/-- a text of signs -/
abbrev tx (l : List Nat) : Str := ⟨l.toArray⟩
theorem tx_list (x : Str) : tx x.cps.toList = x := Str.ext' (by simp [tx])
theorem tx_len (l : List Nat) : (tx l).length = l.length := by simp [tx, Str.length]

theorem slice_from (l : List Nat) (i : Nat) : Txt.slice (tx l) (some (i : Int)) none = tx (l.drop i) := by
  by_cases hi : i ≤ l.length
  · have := StrLaws.sliceText_from (x := tx l) (i := (i : Int)) ⟨by omega, by simp; omega⟩
    refine Eq.trans (show Txt.slice (tx l) (some (i : Int)) none = StrLaws.sliceText (tx l) (some (i : Int)) none from rfl) (this.trans ?_)
    have e : (((tx l).cps.toList.length : Int) - (i : Int)).toNat = l.length - i := by simp
    rw [e]
    simp only [Int.toNat_natCast, List.toList_toArray]
    rw [List.take_of_length_le (by simp)]
  · have e : strSliceIndices (some (i : Int)) none 1 (tx l).length = strSliceIndices (some (l.length : Int)) none 1 (tx l).length := by
      rw [tx_len]
      have a : ¬ ((i : Int) < 0) := by omega
      have b : ¬ ((l.length : Int) < 0) := by omega
      have c : min (i : Int) (l.length : Int) = l.length := by omega
      simp [strSliceIndices, a, b, c]
    have h2 := StrLaws.sliceText_from (x := tx l) (i := (l.length : Int)) ⟨by omega, by simp⟩
    have h3 : Txt.slice (tx l) (some (i : Int)) none = StrLaws.sliceText (tx l) (some (l.length : Int)) none := by
      show StrLaws.sliceText (tx l) (some (i : Int)) none = _
      unfold StrLaws.sliceText
      rw [e]
    rw [h3, h2]
    have : l.drop i = [] := List.drop_eq_nil_of_le (by omega)
    rw [this]
    simp

theorem slice_to (l : List Nat) (i : Nat) : Txt.slice (tx l) none (some (i : Int)) = tx (l.take i) := by
  by_cases hi : i ≤ l.length
  · have := StrLaws.sliceText_to (x := tx l) (j := (i : Int)) ⟨by omega, by simp; omega⟩
    refine Eq.trans (show Txt.slice (tx l) none (some (i : Int)) = StrLaws.sliceText (tx l) none (some (i : Int)) from rfl) (this.trans ?_)
    simp
  · have e : strSliceIndices none (some (i : Int)) 1 (tx l).length = strSliceIndices none (some (l.length : Int)) 1 (tx l).length := by
      rw [tx_len]
      have a : ¬ ((i : Int) < 0) := by omega
      have b : ¬ ((l.length : Int) < 0) := by omega
      have c : min (i : Int) (l.length : Int) = l.length := by omega
      simp [strSliceIndices, a, b, c]
    have h2 := StrLaws.sliceText_to (x := tx l) (j := (l.length : Int)) ⟨by omega, by simp⟩
    have h3 : Txt.slice (tx l) none (some (i : Int)) = StrLaws.sliceText (tx l) none (some (l.length : Int)) := by
      show StrLaws.sliceText (tx l) none (some (i : Int)) = _
      unfold StrLaws.sliceText
      rw [e]
    rw [h3, h2]
    have : l.take i = l := List.take_of_length_le (by omega)
    rw [this]
    simp

section
variable {prog : Program} {w : World} {A : Around} {E : Value → Shared → Prop} {s : Shared} {Q : Value → Shared → Prop} {value slice : Expr}
theorem kept_old (h : Heap) : KeptH (fun h' => ∀ b o, h.get? b = some o → h'.get? b = some o) := fun _ _ hk b o e => Heap.get?_push_of_some _ (hk b o e)
theorem txt_from {h : Heap} {tk : Nat} {l : List Nat} {i : Nat} {t ui : Tok}
    (hq : ∀ h' t' k, (∀ b o, h.get? b = some o → h'.get? b = some o) → Q (.str (tx (l.drop i)) t') { s with heap := h', toks := k })
    (hs : subscripted slice false (.str (tx l) t) (.ref h.objs.size) = operate [.ref h.objs.size, .str (tx l) t] (getItem (.str (tx l) t) (.ref h.objs.size)))
    (ht : ∀ r, letTemporaryGo value (.str (tx l) t) r = pure ()) (hsz : l.length ≤ 1000000) :
    wpAny (model prog w) A (subscriptTail value slice (.str (tx l) t) (.ref h.objs.size)) Q E { s with heap := h.push { cls := .type "slice", data := .fields #[.int i ui, .none, .none] }, toks := tk } := by
  refine tail_of_ItemOn (SBH.sliceItem_sn (s := { s with heap := h, toks := tk }) (kept_old h) (fun _ _ e => e) (fun h' t' k hk => ?_) ?_) hs ht
  · rw [slice_from]; exact hq h' t' k hk
  · rw [tx_len, sizeLine_eq]; omega
theorem txt_to {h : Heap} {tk : Nat} {l : List Nat} {i : Nat} {t ui : Tok}
    (hq : ∀ h' t' k, (∀ b o, h.get? b = some o → h'.get? b = some o) → Q (.str (tx (l.take i)) t') { s with heap := h', toks := k })
    (hs : subscripted slice false (.str (tx l) t) (.ref h.objs.size) = operate [.ref h.objs.size, .str (tx l) t] (getItem (.str (tx l) t) (.ref h.objs.size)))
    (ht : ∀ r, letTemporaryGo value (.str (tx l) t) r = pure ()) (hsz : l.length ≤ 1000000) :
    wpAny (model prog w) A (subscriptTail value slice (.str (tx l) t) (.ref h.objs.size)) Q E { s with heap := h.push { cls := .type "slice", data := .fields #[.none, .int i ui, .none] }, toks := tk } := by
  refine tail_of_ItemOn (SBH.sliceItem_ns (s := { s with heap := h, toks := tk }) (kept_old h) (fun _ _ e => e) (fun h' t' k hk => ?_) ?_) hs ht
  · rw [slice_to]; exact hq h' t' k hk
  · rw [tx_len, sizeLine_eq]; omega
/-- a list from a place on -/
theorem lst_from {h : Heap} {tk : Nat} {l : Addr} {items : List Value} {i : Nat} {ui : Tok} (hl : h.IsList l items.toArray)
    (hq : ∀ D h', h.get? D = none → h'.get? D = some (listOf (items.drop i).toArray 0) → (∀ b o, h.get? b = some o → h'.get? b = some o) → Q (.ref D) { s with heap := h', toks := tk })
    (hs : subscripted slice false (.ref l) (.ref h.objs.size) = operate [.ref h.objs.size, .ref l] (getItem (.ref l) (.ref h.objs.size)))
    (ht : ∀ r, letTemporaryGo value (.ref l) r = pure ()) (hsz : items.length ≤ 1000000) :
    wpAny (model prog w) A (subscriptTail value slice (.ref l) (.ref h.objs.size)) Q E { s with heap := h.push { cls := .type "slice", data := .fields #[.int i ui, .none, .none] }, toks := tk } := by
  refine slice_listK (s := { s with heap := h, toks := tk }) hl (.int _ _) .none ?_ hs ht (by simp only [List.size_toArray]; rw [sizeLine_eq]; omega)
  refine hq _ _ ?_ ?_ fun b o e => Heap.get?_push_of_some _ (Heap.get?_push_of_some _ e)
  · cases e : h.get? (h.objs.size + 1) with
    | none => rfl
    | some o => exact absurd (Heap.lt_size e) (Nat.not_lt.mpr (Nat.le_succ _))
  · have e := Heap.get?_push_size (o := ({ cls := .type "list", data := .seq (slicePick items.toArray (some (i : Int)) none none) } : Obj)) (h.push { cls := .type "slice", data := .fields #[.int i ui, .none, .none] }) rfl
    rw [Heap.size_push, slicePick_from'] at e
    dsimp only
    rw [slicePick_from']
    exact e
end
end Mine
end
section
open PySem PySem.W PyProof.Rows PySem.SeqAt
set_option maxRecDepth 100000
set_option maxHeartbeats 8000000
namespace Mine
theorem all_texts : ∀ (q1 q2 : List (Str × Tok)), q1.length = q2.length →
    (List.range q1.length).all (fun j => (q1.map (·.1)).getD j Str.empty == (q2.map (·.1)).getD j Str.empty) = decide (q1.map (·.1) = q2.map (·.1))
  | [], [], _ => by simp
  | [], _ :: _, h => by cases h
  | _ :: _, [], h => by cases h
  | a :: q1, b :: q2, h => by
    have ih := all_texts q1 q2 (by simpa using h)
    rw [List.length_cons, List.range_succ_eq_map, List.all_cons, List.all_map]
    have e : ((fun j => ((a :: q1).map (·.1)).getD j Str.empty == ((b :: q2).map (·.1)).getD j Str.empty) ∘ Nat.succ) = fun j => (q1.map (·.1)).getD j Str.empty == (q2.map (·.1)).getD j Str.empty := by
      funext j; simp
    rw [e, ih]
    by_cases h1 : a.1 = b.1 <;> by_cases h2 : q1.map (·.1) = q2.map (·.1) <;> simp [h1, h2]
section
variable {prog : Program} {w : World} {A : Around} {E : Value → Shared → Prop} {s : Shared} {Q : Value → Shared → Prop}
theorem eq_texts {a b : Addr} {q1 q2 : List (Str × Tok)} (hl : s.heap.IsList a (strValues q1).toArray) (hb : s.heap.IsList b (strValues q2).toArray) (hlen : q1.length = q2.length) (hu : A.units < cLine)
    (h : Q (.bool (decide (q1.map (·.1) = q2.map (·.1)))) s) : wpAny (model prog w) A (compareOp .Eq (.ref a) (.ref b)) Q E s := by
  refine eq_listAt (e := fun j => (q1.map (·.1)).getD j Str.empty == (q2.map (·.1)).getD j Str.empty) hl hb (by simp [strValues, hlen]) hu ?_ ?_
  · intro j h1 h2
    have k1 : j < q1.length := by simpa [strValues] using h1
    have k2 : j < q2.length := by simpa [strValues] using h2
    have e1 : (strValues q1).toArray[j] = .str (q1[j]).1 (q1[j]).2 := by simp [strValues]
    have e2 : (strValues q2).toArray[j] = .str (q2[j]).1 (q2[j]).2 := by simp [strValues]
    rw [e1, e2]
    have f1 : (q1.map (·.1)).getD j Str.empty = (q1[j]).1 := by simp [List.getD, k1]
    have f2 : (q2.map (·.1)).getD j Str.empty = (q2[j]).1 := by simp [List.getD, k2]
    simp only [f1, f2]
    exact EqAt.str_str _ _ _ _
  · have : (strValues q1).toArray.size = q1.length := by simp [strValues]
    rw [this, all_texts q1 q2 hlen]
    exact h
end
end Mine
end
section
open PySem PySem.W PyProof.Rows
set_option maxRecDepth 100000
set_option maxHeartbeats 8000000
namespace Mine

def amp : List Nat := [38, 97, 109, 112, 59]
def lt : List Nat := [38, 108, 116, 59]
def gt : List Nat := [38, 103, 116, 59]
def quot : List Nat := [38, 113, 117, 111, 116, 59]
def r13 : List Nat := [38, 35, 49, 51, 59]
def r10 : List Nat := [38, 35, 49, 48, 59]
def r09 : List Nat := [38, 35, 48, 57, 59]
def rxD : List Nat := [38, 35, 120, 68, 59]
def rxA : List Nat := [38, 35, 120, 65, 59]
def rx9 : List Nat := [38, 35, 120, 57, 59]

def spCdata (c : Nat) : List Nat := if c = 38 then amp else if c = 60 then lt else if c = 62 then gt else [c]
def spAttrib (c : Nat) : List Nat := if c = 38 then amp else if c = 60 then lt else if c = 62 then gt else if c = 34 then quot else if c = 13 then r13 else if c = 10 then r10 else if c = 9 then r09 else [c]
def spHtml (c : Nat) : List Nat := if c = 38 then amp else if c = 62 then gt else if c = 34 then quot else [c]
def spCdataC (c : Nat) : List Nat := if c = 38 then amp else if c = 60 then lt else if c = 62 then gt else if c = 13 then rxD else [c]
def spAttribC (c : Nat) : List Nat := if c = 38 then amp else if c = 60 then lt else if c = 34 then quot else if c = 9 then rx9 else if c = 10 then rxA else if c = 13 then rxD else [c]

def fm (f : Nat → List Nat) (x : Str) : Str := ⟨(x.cps.toList.flatMap f).toArray⟩

theorem fm_length {f : Nat → List Nat} (hf : ∀ k, (f k).length ≤ 6) (x : Str) : (fm f x).length ≤ 6 * x.length := by
  have := length_flatMap_le hf x.cps.toList
  simpa [fm, Str.length] using this

theorem len_cdata (k : Nat) : (spCdata k).length ≤ 6 := by unfold spCdata; repeat' split
                                                           all_goals first | decide | (show 1 ≤ 6; decide)
theorem len_attrib (k : Nat) : (spAttrib k).length ≤ 6 := by unfold spAttrib; repeat' split
                                                             all_goals first | decide | (show 1 ≤ 6; decide)
theorem len_html (k : Nat) : (spHtml k).length ≤ 6 := by unfold spHtml; repeat' split
                                                         all_goals first | decide | (show 1 ≤ 6; decide)
theorem len_cdataC (k : Nat) : (spCdataC k).length ≤ 6 := by unfold spCdataC; repeat' split
                                                             all_goals first | decide | (show 1 ≤ 6; decide)
theorem len_attribC (k : Nat) : (spAttribC k).length ≤ 6 := by unfold spAttribC; repeat' split
                                                               all_goals first | decide | (show 1 ≤ 6; decide)

theorem chain_eq {x y : Str} {f : Nat → List Nat} (h : y.cps.toList = x.cps.toList.flatMap f) : y = fm f x :=
  Str.ext' (by rw [fm]; simpa using congrArg List.toArray h)

theorem one_amp : Str.ofString "&" = ⟨#[38]⟩ := by decide +kernel
theorem one_lt : Str.ofString "<" = ⟨#[60]⟩ := by decide +kernel
theorem one_gt : Str.ofString ">" = ⟨#[62]⟩ := by decide +kernel
theorem one_quot : Str.ofString "\"" = ⟨#[34]⟩ := by decide +kernel
theorem one_cr : Str.ofString "\x0d" = ⟨#[13]⟩ := by decide +kernel
theorem one_lf : Str.ofString "\n" = ⟨#[10]⟩ := by decide +kernel
theorem one_tab : Str.ofString "\t" = ⟨#[9]⟩ := by decide +kernel
theorem t_amp : (Str.ofString "&amp;").cps.toList = amp := by decide +kernel
theorem t_lt : (Str.ofString "&lt;").cps.toList = lt := by decide +kernel
theorem t_gt : (Str.ofString "&gt;").cps.toList = gt := by decide +kernel
theorem t_quot : (Str.ofString "&quot;").cps.toList = quot := by decide +kernel
theorem t_r13 : (Str.ofString "&#13;").cps.toList = r13 := by decide +kernel
theorem t_r10 : (Str.ofString "&#10;").cps.toList = r10 := by decide +kernel
theorem t_r09 : (Str.ofString "&#09;").cps.toList = r09 := by decide +kernel
theorem t_rxD : (Str.ofString "&#xD;").cps.toList = rxD := by decide +kernel
theorem t_rxA : (Str.ofString "&#xA;").cps.toList = rxA := by decide +kernel
theorem t_rx9 : (Str.ofString "&#x9;").cps.toList = rx9 := by decide +kernel

theorem rep_cons (c : Nat) (z : List Nat) (k : Nat) (l : List Nat) : rep c z (k :: l) = (if k = c then z else [k]) ++ rep c z l := by
  unfold rep; rw [List.flatMap_cons]

theorem rep_fm (c : Nat) (z : List Nat) (f : Nat → List Nat) (l : List Nat) : rep c z (l.flatMap f) = l.flatMap fun k => rep c z (f k) := by
  unfold rep; rw [List.flatMap_assoc]

abbrev rS (x : Str) (c r : String) : Str := Txt.replace x (Str.ofString c) (Str.ofString r)

theorem chain_cdata (x : Str) : rS (rS (rS x "&" "&amp;") "<" "&lt;") ">" "&gt;" = fm spCdata x := by
  refine chain_eq ?_
  simp only [rS, one_amp, one_lt, one_gt, replace_rep, t_amp, t_lt, t_gt]
  generalize x.cps.toList = l
  induction l with
  | nil => rfl
  | cons k l ih =>
    rw [List.flatMap_cons, ← ih, rep_cons, rep_append, rep_append]
    congr 1
    unfold spCdata
    by_cases h1 : k = 38
    · subst h1; decide
    by_cases h2 : k = 60
    · subst h2; decide
    by_cases h3 : k = 62
    · subst h3; decide
    simp [h1, h2, h3, rep]

theorem chain_attrib (x : Str) : rS (rS (rS (rS (rS (rS (rS x "&" "&amp;") "<" "&lt;") ">" "&gt;") "\"" "&quot;") "\x0d" "&#13;") "\n" "&#10;") "\t" "&#09;" = fm spAttrib x := by
  refine chain_eq ?_
  simp only [rS, one_amp, one_lt, one_gt, one_quot, one_cr, one_lf, one_tab, replace_rep, t_amp, t_lt, t_gt, t_quot, t_r13, t_r10, t_r09]
  generalize x.cps.toList = l
  induction l with
  | nil => rfl
  | cons k l ih =>
    rw [List.flatMap_cons, ← ih, rep_cons]
    simp only [rep_append]
    congr 1
    unfold spAttrib
    by_cases h1 : k = 38
    · subst h1; decide
    by_cases h2 : k = 60
    · subst h2; decide
    by_cases h3 : k = 62
    · subst h3; decide
    by_cases h4 : k = 34
    · subst h4; decide
    by_cases h5 : k = 13
    · subst h5; decide
    by_cases h6 : k = 10
    · subst h6; decide
    by_cases h7 : k = 9
    · subst h7; decide
    simp [h1, h2, h3, h4, h5, h6, h7, rep]

theorem chain_html (x : Str) : rS (rS (rS x "&" "&amp;") ">" "&gt;") "\"" "&quot;" = fm spHtml x := by
  refine chain_eq ?_
  simp only [rS, one_amp, one_gt, one_quot, replace_rep, t_amp, t_gt, t_quot]
  generalize x.cps.toList = l
  induction l with
  | nil => rfl
  | cons k l ih =>
    rw [List.flatMap_cons, ← ih, rep_cons]
    simp only [rep_append]
    congr 1
    unfold spHtml
    by_cases h1 : k = 38
    · subst h1; decide
    by_cases h3 : k = 62
    · subst h3; decide
    by_cases h4 : k = 34
    · subst h4; decide
    simp [h1, h3, h4, rep]

theorem chain_cdataC (x : Str) : rS (rS (rS (rS x "&" "&amp;") "<" "&lt;") ">" "&gt;") "\x0d" "&#xD;" = fm spCdataC x := by
  refine chain_eq ?_
  simp only [rS, one_amp, one_lt, one_gt, one_cr, replace_rep, t_amp, t_lt, t_gt, t_rxD]
  generalize x.cps.toList = l
  induction l with
  | nil => rfl
  | cons k l ih =>
    rw [List.flatMap_cons, ← ih, rep_cons]
    simp only [rep_append]
    congr 1
    unfold spCdataC
    by_cases h1 : k = 38
    · subst h1; decide
    by_cases h2 : k = 60
    · subst h2; decide
    by_cases h3 : k = 62
    · subst h3; decide
    by_cases h5 : k = 13
    · subst h5; decide
    simp [h1, h2, h3, h5, rep]

theorem chain_attribC (x : Str) : rS (rS (rS (rS (rS (rS x "&" "&amp;") "<" "&lt;") "\"" "&quot;") "\t" "&#x9;") "\n" "&#xA;") "\x0d" "&#xD;" = fm spAttribC x := by
  refine chain_eq ?_
  simp only [rS, one_amp, one_lt, one_quot, one_cr, one_lf, one_tab, replace_rep, t_amp, t_lt, t_quot, t_rxD, t_rxA, t_rx9]
  generalize x.cps.toList = l
  induction l with
  | nil => rfl
  | cons k l ih =>
    rw [List.flatMap_cons, ← ih, rep_cons]
    simp only [rep_append]
    congr 1
    unfold spAttribC
    by_cases h1 : k = 38
    · subst h1; decide
    by_cases h2 : k = 60
    · subst h2; decide
    by_cases h4 : k = 34
    · subst h4; decide
    by_cases h7 : k = 9
    · subst h7; decide
    by_cases h6 : k = 10
    · subst h6; decide
    by_cases h5 : k = 13
    · subst h5; decide
    simp [h1, h2, h4, h5, h6, h7, rep]

theorem rS_le (x : Str) {c r : String} {cc : Nat} (hc : Str.ofString c = ⟨#[cc]⟩) (hr : (Str.ofString r).cps.toList ≠ []) : x.length ≤ (rS x c r).length := by
  unfold rS; rw [hc]; exact replace_le x _ cc hr
end Mine
end
section
open PySem PySem.W PyProof.Rows
set_option maxRecDepth 100000
set_option maxHeartbeats 8000000
namespace Mine

/-- what the call may lean on: the part of the top that is written out -/
structure Bs (w : World) (mg mb : Str → Option Value) (h : Heap) : Prop where
  X : (hd.heap_39 w.params).In h
  T : TopRead hd.view_39 (looseW hd.view_39 []) mg mb h
theorem Bs.keeps {w : World} {mg mb : Str → Option Value} {h h' : Heap} (B : Bs w mg mb h) (hk : ∀ b o, h.get? b = some o → h'.get? b = some o) : Bs w mg mb h' :=
  ⟨B.X.keeps hk, B.T.keeps hk⟩

local macro_rules | `(tactic| walk_at "m_enter") => `(tactic| (
  (refine' enter (Bs.X (by assumption)) (TopRead.nolimit (Bs.T (by assumption))) ?k8 (by assumption) ?k6 ?k7 ?k9 ?kB ?c5 ?c2 ?c3 ?c4 ?_)
  (case k6 => k_is)
  (case k7 => k_is)
  (case k8 => assumption)
  (case k9 => exact BindsTo.of_eq rfl)
  (case kB => exact locs rfl)
  (case c5 => decide)
  (case c2 => rfl)
  (case c3 => rfl)
  (case c4 => rfl)
  (intro L h₁ tk F N hpos)))
local macro_rules | `(tactic| walk_at "m_esc") => `(tactic| (
  (refine' esc_if (by assumption) (by assumption) ?h1 (by assumption) ?h2 ?h3 ?h4 ?h5 ?h6 ?h7 ?h8 ?_)
  (case h1 => rfl)
  (case h2 => first | exact one_amp | exact one_lt | exact one_gt | exact one_quot | exact one_cr | exact one_lf | exact one_tab)
  (case h3 => assumption)
  (case h4 => decide)
  (case h5 => decide +kernel)
  (case h6 => rfl)
  (case h7 => rfl)
  (case h8 => rfl)
  (intro h₁ t₁ tk hpos F N)
  (try dsimp only)))

theorem c_cdata {w : World} {A : Around} {s : Shared} {E : Value → Shared → Prop} {mg mb : Str → Option Value} {x : Str} {t : Tok}
    (B : Bs w mg mb s.heap) (hroom : A.depth < recursionLimit) (hpos : 0 < s.toks) (hx : x.length ≤ 100000) :
    wpAny (model Challenge.rw_nb0384_01.row.prog w) A (call (.ref 28) [.str x t]) (fun v s' => Keeps s s' ∧ ∃ u, v = .str (fm spCdata x) u) E s := by
  have lz := fm_length len_cdata x
  rw [← chain_cdata x] at lz ⊢
  have l0 := rS_le x (r := "&amp;") one_amp (by decide +kernel)
  have l1 := rS_le (rS x "&" "&amp;") (r := "&lt;") one_lt (by decide +kernel)
  have l2 := rS_le (rS (rS x "&" "&amp;") "<" "&lt;") (r := "&gt;") one_gt (by decide +kernel)
  have b0 : Str.length (x) ≤ 1048576 := by omega
  have b1 : Str.length (rS x "&" "&amp;") ≤ 1048576 := by omega
  have b2 : Str.length (rS (rS x "&" "&amp;") "<" "&lt;") ≤ 1048576 := by omega
  have B0 := B
  revert B0; obtain ⟨X, T⟩ := B; revert X; k_fill; intro X B
  walk_at "m_enter"
  refine wpAny_execs_cons (wpAny_Try_except ?_)
  walk_at "m_esc"
  walk_at "m_esc"
  walk_at "m_esc"
  refine wpAny_execs_cons (wpAny_Return_some (ld (by assumption) rfl ?_))
  exact ⟨⟨_, _, rfl, Fr.keep (by assumption)⟩, _, rfl⟩

theorem c_attrib {w : World} {A : Around} {s : Shared} {E : Value → Shared → Prop} {mg mb : Str → Option Value} {x : Str} {t : Tok}
    (B : Bs w mg mb s.heap) (hroom : A.depth < recursionLimit) (hpos : 0 < s.toks) (hx : x.length ≤ 100000) :
    wpAny (model Challenge.rw_nb0384_01.row.prog w) A (call (.ref 35) [.str x t]) (fun v s' => Keeps s s' ∧ ∃ u, v = .str (fm spAttrib x) u) E s := by
  have lz := fm_length len_attrib x
  rw [← chain_attrib x] at lz ⊢
  have l0 := rS_le x (r := "&amp;") one_amp (by decide +kernel)
  have l1 := rS_le (rS x "&" "&amp;") (r := "&lt;") one_lt (by decide +kernel)
  have l2 := rS_le (rS (rS x "&" "&amp;") "<" "&lt;") (r := "&gt;") one_gt (by decide +kernel)
  have l3 := rS_le (rS (rS (rS x "&" "&amp;") "<" "&lt;") ">" "&gt;") (r := "&quot;") one_quot (by decide +kernel)
  have l4 := rS_le (rS (rS (rS (rS x "&" "&amp;") "<" "&lt;") ">" "&gt;") "\"" "&quot;") (r := "&#13;") one_cr (by decide +kernel)
  have l5 := rS_le (rS (rS (rS (rS (rS x "&" "&amp;") "<" "&lt;") ">" "&gt;") "\"" "&quot;") "\x0d" "&#13;") (r := "&#10;") one_lf (by decide +kernel)
  have l6 := rS_le (rS (rS (rS (rS (rS (rS x "&" "&amp;") "<" "&lt;") ">" "&gt;") "\"" "&quot;") "\x0d" "&#13;") "\n" "&#10;") (r := "&#09;") one_tab (by decide +kernel)
  have b0 : Str.length (x) ≤ 1048576 := by omega
  have b1 : Str.length (rS x "&" "&amp;") ≤ 1048576 := by omega
  have b2 : Str.length (rS (rS x "&" "&amp;") "<" "&lt;") ≤ 1048576 := by omega
  have b3 : Str.length (rS (rS (rS x "&" "&amp;") "<" "&lt;") ">" "&gt;") ≤ 1048576 := by omega
  have b4 : Str.length (rS (rS (rS (rS x "&" "&amp;") "<" "&lt;") ">" "&gt;") "\"" "&quot;") ≤ 1048576 := by omega
  have b5 : Str.length (rS (rS (rS (rS (rS x "&" "&amp;") "<" "&lt;") ">" "&gt;") "\"" "&quot;") "\x0d" "&#13;") ≤ 1048576 := by omega
  have b6 : Str.length (rS (rS (rS (rS (rS (rS x "&" "&amp;") "<" "&lt;") ">" "&gt;") "\"" "&quot;") "\x0d" "&#13;") "\n" "&#10;") ≤ 1048576 := by omega
  have B0 := B
  revert B0; obtain ⟨X, T⟩ := B; revert X; k_fill; intro X B
  walk_at "m_enter"
  refine wpAny_execs_cons (wpAny_Try_except ?_)
  walk_at "m_esc"
  walk_at "m_esc"
  walk_at "m_esc"
  walk_at "m_esc"
  walk_at "m_esc"
  walk_at "m_esc"
  walk_at "m_esc"
  refine wpAny_execs_cons (wpAny_Return_some (ld (by assumption) rfl ?_))
  exact ⟨⟨_, _, rfl, Fr.keep (by assumption)⟩, _, rfl⟩

theorem c_html {w : World} {A : Around} {s : Shared} {E : Value → Shared → Prop} {mg mb : Str → Option Value} {x : Str} {t : Tok}
    (B : Bs w mg mb s.heap) (hroom : A.depth < recursionLimit) (hpos : 0 < s.toks) (hx : x.length ≤ 100000) :
    wpAny (model Challenge.rw_nb0384_01.row.prog w) A (call (.ref 42) [.str x t]) (fun v s' => Keeps s s' ∧ ∃ u, v = .str (fm spHtml x) u) E s := by
  have lz := fm_length len_html x
  rw [← chain_html x] at lz ⊢
  have l0 := rS_le x (r := "&amp;") one_amp (by decide +kernel)
  have l1 := rS_le (rS x "&" "&amp;") (r := "&gt;") one_gt (by decide +kernel)
  have l2 := rS_le (rS (rS x "&" "&amp;") ">" "&gt;") (r := "&quot;") one_quot (by decide +kernel)
  have b0 : Str.length (x) ≤ 1048576 := by omega
  have b1 : Str.length (rS x "&" "&amp;") ≤ 1048576 := by omega
  have b2 : Str.length (rS (rS x "&" "&amp;") ">" "&gt;") ≤ 1048576 := by omega
  have B0 := B
  revert B0; obtain ⟨X, T⟩ := B; revert X; k_fill; intro X B
  walk_at "m_enter"
  refine wpAny_execs_cons (wpAny_Try_except ?_)
  walk_at "m_esc"
  walk_at "m_esc"
  walk_at "m_esc"
  refine wpAny_execs_cons (wpAny_Return_some (ld (by assumption) rfl ?_))
  exact ⟨⟨_, _, rfl, Fr.keep (by assumption)⟩, _, rfl⟩

theorem c_cdataC {w : World} {A : Around} {s : Shared} {E : Value → Shared → Prop} {mg mb : Str → Option Value} {x : Str} {t : Tok}
    (B : Bs w mg mb s.heap) (hroom : A.depth < recursionLimit) (hpos : 0 < s.toks) (hx : x.length ≤ 100000) :
    wpAny (model Challenge.rw_nb0384_01.row.prog w) A (call (.ref 49) [.str x t]) (fun v s' => Keeps s s' ∧ ∃ u, v = .str (fm spCdataC x) u) E s := by
  have lz := fm_length len_cdataC x
  rw [← chain_cdataC x] at lz ⊢
  have l0 := rS_le x (r := "&amp;") one_amp (by decide +kernel)
  have l1 := rS_le (rS x "&" "&amp;") (r := "&lt;") one_lt (by decide +kernel)
  have l2 := rS_le (rS (rS x "&" "&amp;") "<" "&lt;") (r := "&gt;") one_gt (by decide +kernel)
  have l3 := rS_le (rS (rS (rS x "&" "&amp;") "<" "&lt;") ">" "&gt;") (r := "&#xD;") one_cr (by decide +kernel)
  have b0 : Str.length (x) ≤ 1048576 := by omega
  have b1 : Str.length (rS x "&" "&amp;") ≤ 1048576 := by omega
  have b2 : Str.length (rS (rS x "&" "&amp;") "<" "&lt;") ≤ 1048576 := by omega
  have b3 : Str.length (rS (rS (rS x "&" "&amp;") "<" "&lt;") ">" "&gt;") ≤ 1048576 := by omega
  have B0 := B
  revert B0; obtain ⟨X, T⟩ := B; revert X; k_fill; intro X B
  walk_at "m_enter"
  refine wpAny_execs_cons (wpAny_Try_except ?_)
  walk_at "m_esc"
  walk_at "m_esc"
  walk_at "m_esc"
  walk_at "m_esc"
  refine wpAny_execs_cons (wpAny_Return_some (ld (by assumption) rfl ?_))
  exact ⟨⟨_, _, rfl, Fr.keep (by assumption)⟩, _, rfl⟩

theorem c_attribC {w : World} {A : Around} {s : Shared} {E : Value → Shared → Prop} {mg mb : Str → Option Value} {x : Str} {t : Tok}
    (B : Bs w mg mb s.heap) (hroom : A.depth < recursionLimit) (hpos : 0 < s.toks) (hx : x.length ≤ 100000) :
    wpAny (model Challenge.rw_nb0384_01.row.prog w) A (call (.ref 56) [.str x t]) (fun v s' => Keeps s s' ∧ ∃ u, v = .str (fm spAttribC x) u) E s := by
  have lz := fm_length len_attribC x
  rw [← chain_attribC x] at lz ⊢
  have l0 := rS_le x (r := "&amp;") one_amp (by decide +kernel)
  have l1 := rS_le (rS x "&" "&amp;") (r := "&lt;") one_lt (by decide +kernel)
  have l2 := rS_le (rS (rS x "&" "&amp;") "<" "&lt;") (r := "&quot;") one_quot (by decide +kernel)
  have l3 := rS_le (rS (rS (rS x "&" "&amp;") "<" "&lt;") "\"" "&quot;") (r := "&#x9;") one_tab (by decide +kernel)
  have l4 := rS_le (rS (rS (rS (rS x "&" "&amp;") "<" "&lt;") "\"" "&quot;") "\t" "&#x9;") (r := "&#xA;") one_lf (by decide +kernel)
  have l5 := rS_le (rS (rS (rS (rS (rS x "&" "&amp;") "<" "&lt;") "\"" "&quot;") "\t" "&#x9;") "\n" "&#xA;") (r := "&#xD;") one_cr (by decide +kernel)
  have b0 : Str.length (x) ≤ 1048576 := by omega
  have b1 : Str.length (rS x "&" "&amp;") ≤ 1048576 := by omega
  have b2 : Str.length (rS (rS x "&" "&amp;") "<" "&lt;") ≤ 1048576 := by omega
  have b3 : Str.length (rS (rS (rS x "&" "&amp;") "<" "&lt;") "\"" "&quot;") ≤ 1048576 := by omega
  have b4 : Str.length (rS (rS (rS (rS x "&" "&amp;") "<" "&lt;") "\"" "&quot;") "\t" "&#x9;") ≤ 1048576 := by omega
  have b5 : Str.length (rS (rS (rS (rS (rS x "&" "&amp;") "<" "&lt;") "\"" "&quot;") "\t" "&#x9;") "\n" "&#xA;") ≤ 1048576 := by omega
  have B0 := B
  revert B0; obtain ⟨X, T⟩ := B; revert X; k_fill; intro X B
  walk_at "m_enter"
  refine wpAny_execs_cons (wpAny_Try_except ?_)
  walk_at "m_esc"
  walk_at "m_esc"
  walk_at "m_esc"
  walk_at "m_esc"
  walk_at "m_esc"
  walk_at "m_esc"
  refine wpAny_execs_cons (wpAny_Return_some (ld (by assumption) rfl ?_))
  exact ⟨⟨_, _, rfl, Fr.keep (by assumption)⟩, _, rfl⟩

end Mine
end
section
open PySem PySem.W PyProof.Rows
set_option maxRecDepth 100000
set_option maxHeartbeats 8000000
namespace Mine

theorem Fr.bs {w : World} {mg mb : Str → Option Value} {h₀ h : Heap} {L : Addr} {m : Str → Option Value} (F : Fr h₀ L h m) (B : Bs w mg mb h₀) : Bs w mg mb h := B.keeps F.keep

def sp1 (hand : Int) : Nat → List Nat := if hand = 0 then spCdata else if hand = 1 then spAttrib else if hand = 2 then spHtml else if hand = 3 then spCdataC else spAttribC

theorem sp1_0 {n : Int} (h : n = 0) : sp1 n = spCdata := by rw [sp1, if_pos h]
theorem sp1_1 {n : Int} (h : n = 1) : sp1 n = spAttrib := by subst h; rfl
theorem sp1_2 {n : Int} (h : n = 2) : sp1 n = spHtml := by subst h; rfl
theorem sp1_3 {n : Int} (h : n = 3) : sp1 n = spCdataC := by subst h; rfl
theorem sp1_4 {n : Int} (h0 : n ≠ 0) (h1 : n ≠ 1) (h2 : n ≠ 2) (h3 : n ≠ 3) : sp1 n = spAttribC := by rw [sp1, if_neg h0, if_neg h1, if_neg h2, if_neg h3]
local macro_rules | `(tactic| walk_at "m_enter") => `(tactic| (
  (refine' enter (Bs.X (by assumption)) (TopRead.nolimit (Bs.T (by assumption))) ?k8 (by assumption) ?k6 ?k7 ?k9 ?kB ?c5 ?c2 ?c3 ?c4 ?_)
  (case k6 => k_is)
  (case k7 => k_is)
  (case k8 => first | assumption | omega)
  (case k9 => exact BindsTo.of_eq rfl)
  (case kB => exact locs rfl)
  (case c5 => decide)
  (case c2 => rfl)
  (case c3 => rfl)
  (case c4 => rfl)
  (intro L h₁ tk F N hpos)))

local macro_rules | `(tactic| walk_at "m_pos") => `(tactic| first | assumption | (dsimp only; omega) | omega)
local macro_rules | `(tactic| walk_at "m_bs") => `(tactic| exact Fr.bs (by assumption) (by assumption))
local macro_rules | `(tactic| walk_at "m_room") => `(tactic| (simp only [depth_deeper]; omega))
local macro_rules | `(tactic| walk_at "execs cons") => `(tactic| ((with_reducible refine wpAny_execs_cons ?_); try dsimp only))
local macro_rules | `(tactic| walk_at "execs nil") => `(tactic| refine wpAny_execs_nil ?_)
theorem c_written {w : World} {A : Around} {s : Shared} {E : Value → Shared → Prop} {mg mb : Str → Option Value} {x : Str} {t u : Tok} {hand : Int}
    (B : Bs w mg mb s.heap) (hroom : A.depth + 10 < recursionLimit) (hpos : 0 < s.toks) (hx : x.length ≤ 100000) :
    wpAny (model Challenge.rw_nb0384_01.row.prog w) A (call (.ref 63) [.int hand u, .str x t]) (fun v s' => Keeps s s' ∧ ∃ u, v = .str (fm (sp1 hand) x) u) E s := by
  have B0 := B
  revert B0; obtain ⟨X, T⟩ := B; revert X; k_fill; intro X B
  walk_at "m_enter"
  k_steps
  · refine' use (R := fun v _ => ∃ u, v = .str (fm spCdata x) u) (by assumption) (by assumption) (by walk_at "m_pos") (c_cdata (by walk_at "m_bs") (by walk_at "m_room") (by walk_at "m_pos") (by assumption)) ?_
    rintro _ h' tk ⟨u, rfl⟩ F N hk hpos
    exact ⟨⟨_, _, rfl, Fr.keep (by assumption)⟩, _, by rw [sp1_0 (by assumption)]⟩
  · refine' use (R := fun v _ => ∃ u, v = .str (fm spAttrib x) u) (by assumption) (by assumption) (by walk_at "m_pos") (c_attrib (by walk_at "m_bs") (by walk_at "m_room") (by walk_at "m_pos") (by assumption)) ?_
    rintro _ h' tk ⟨u, rfl⟩ F N hk hpos
    exact ⟨⟨_, _, rfl, Fr.keep (by assumption)⟩, _, by rw [sp1_1 (by assumption)]⟩
  · refine' use (R := fun v _ => ∃ u, v = .str (fm spHtml x) u) (by assumption) (by assumption) (by walk_at "m_pos") (c_html (by walk_at "m_bs") (by walk_at "m_room") (by walk_at "m_pos") (by assumption)) ?_
    rintro _ h' tk ⟨u, rfl⟩ F N hk hpos
    exact ⟨⟨_, _, rfl, Fr.keep (by assumption)⟩, _, by rw [sp1_2 (by assumption)]⟩
  · refine' use (R := fun v _ => ∃ u, v = .str (fm spCdataC x) u) (by assumption) (by assumption) (by walk_at "m_pos") (c_cdataC (by walk_at "m_bs") (by walk_at "m_room") (by walk_at "m_pos") (by assumption)) ?_
    rintro _ h' tk ⟨u, rfl⟩ F N hk hpos
    exact ⟨⟨_, _, rfl, Fr.keep (by assumption)⟩, _, by rw [sp1_3 (by assumption)]⟩
  · refine' use (R := fun v _ => ∃ u, v = .str (fm spAttribC x) u) (by assumption) (by assumption) (by walk_at "m_pos") (c_attribC (by walk_at "m_bs") (by walk_at "m_room") (by walk_at "m_pos") (by assumption)) ?_
    rintro _ h' tk ⟨u, rfl⟩ F N hk hpos
    exact ⟨⟨_, _, rfl, Fr.keep (by assumption)⟩, _, by rw [sp1_4 (by assumption) (by assumption) (by assumption) (by assumption)]⟩
end Mine
end
section
open PySem PySem.W PyProof.Rows
set_option maxRecDepth 100000
set_option maxHeartbeats 8000000
namespace Mine

local macro_rules | `(tactic| walk_at "m_enter") => `(tactic| (
  (refine' enter (Bs.X (by assumption)) (TopRead.nolimit (Bs.T (by assumption))) ?k8 (by assumption) ?k6 ?k7 ?k9 ?kB ?c5 ?c2 ?c3 ?c4 ?_)
  (case k6 => k_is)
  (case k7 => k_is)
  (case k8 => first | assumption | omega)
  (case k9 => exact BindsTo.of_eq rfl)
  (case kB => exact locs rfl)
  (case c5 => decide)
  (case c2 => rfl)
  (case c3 => rfl)
  (case c4 => rfl)))
local macro_rules | `(tactic| walk_at "execs cons") => `(tactic| ((with_reducible refine wpAny_execs_cons ?_); try dsimp only))
local macro_rules | `(tactic| walk_at "execs nil") => `(tactic| refine wpAny_execs_nil ?_)


def pick5 (n : Int) (a b c d e : Str) : Str := if n = 0 then a else if n = 1 then b else if n = 2 then c else if n = 3 then d else e
theorem pick5_at {n : Int} (h0 : 0 ≤ n) (h5 : n < 5) (a b c d e : Str) (t0 t1 t2 t3 t4 : Tok) :
    ∃ t, [Value.str a t0, Value.str b t1, Value.str c t2, Value.str d t3, Value.str e t4][n.toNat]? = some (.str (pick5 n a b c d e) t) := by
  rcases (by omega : n = 0 ∨ n = 1 ∨ n = 2 ∨ n = 3 ∨ n = 4) with rfl | rfl | rfl | rfl | rfl
  all_goals exact ⟨_, rfl⟩

def bareS (n : Int) : Str := pick5 n (Str.ofString "\"\x0d\n\t") (Str.ofString "") (Str.ofString "<\x0d\n\t") (Str.ofString "\"\n\t") (Str.ofString ">")
def isSpec (c : Nat) : Prop := c = 38 ∨ c = 60 ∨ c = 62 ∨ c = 34 ∨ c = 13 ∨ c = 10 ∨ c = 9
theorem spec_mem (c : Nat) : c ∈ (Str.ofString "&<>\"\x0d\n\t").cps.toList ↔ isSpec c := by
  have : (Str.ofString "&<>\"\x0d\n\t").cps.toList = [38, 60, 62, 34, 13, 10, 9] := by decide +kernel
  rw [this]; simp [isSpec]
theorem bare_list (n : Int) (h0 : 0 ≤ n) (h5 : n < 5) : (bareS n).cps.toList = if n = 0 then [34, 13, 10, 9] else if n = 1 then [] else if n = 2 then [60, 13, 10, 9] else if n = 3 then [34, 10, 9] else [62] := by
  rcases (by omega : n = 0 ∨ n = 1 ∨ n = 2 ∨ n = 3 ∨ n = 4) with rfl | rfl | rfl | rfl | rfl
  all_goals decide +kernel
theorem sp1_bare {n : Int} (h0 : 0 ≤ n) (h5 : n < 5) {c : Nat} (hc : c ∈ (bareS n).cps.toList) : sp1 n c = [c] := by
  rw [bare_list n h0 h5] at hc
  rcases (by omega : n = 0 ∨ n = 1 ∨ n = 2 ∨ n = 3 ∨ n = 4) with rfl | rfl | rfl | rfl | rfl
  all_goals simp at hc
  · rcases hc with rfl | rfl | rfl | rfl <;> decide
  · rcases hc with rfl | rfl | rfl | rfl <;> decide
  · rcases hc with rfl | rfl | rfl <;> decide
  · subst hc; decide
theorem sp1_plain {n : Int} {c : Nat} (hc : ¬ isSpec c) : sp1 n c = [c] := by
  unfold isSpec at hc
  unfold sp1
  repeat' split
  all_goals simp only [spCdata, spAttrib, spHtml, spCdataC, spAttribC]
  all_goals (repeat' split)
  all_goals first | rfl | omega
theorem sp1_low {n : Int} (h0 : 0 ≤ n) (h5 : n < 5) (h2 : ¬ 2 < n) {c : Nat} (hc : c ∉ (bareS n).cps.toList) (hs : isSpec c) :
    sp1 n c = if c = 38 then amp else if c = 60 then lt else if c = 62 then gt else if c = 34 then quot else if c = 13 then r13 else if c = 10 then r10 else r09 := by
  rw [bare_list n h0 h5] at hc
  rcases (by omega : n = 0 ∨ n = 1 ∨ n = 2) with rfl | rfl | rfl
  all_goals rcases hs with rfl | rfl | rfl | rfl | rfl | rfl | rfl
  all_goals first | decide | (exact absurd (by decide) hc)
theorem sp1_high {n : Int} (h0 : 0 ≤ n) (h5 : n < 5) (h2 : 2 < n) {c : Nat} (hc : c ∉ (bareS n).cps.toList) (hs : isSpec c) :
    sp1 n c = if c = 38 then amp else if c = 60 then lt else if c = 62 then gt else if c = 34 then quot else if c = 13 then rxD else if c = 10 then rxA else rx9 := by
  rw [bare_list n h0 h5] at hc
  rcases (by omega : n = 3 ∨ n = 4) with rfl | rfl
  all_goals rcases hs with rfl | rfl | rfl | rfl | rfl | rfl | rfl
  all_goals first | decide | (exact absurd (by decide) hc)
theorem str_of {x : Str} {l : List Nat} (h : x.cps.toList = l) : x = ⟨l.toArray⟩ := Str.ext' (by rw [← h])

theorem c_spelled {w : World} {A : Around} {s : Shared} {E : Value → Shared → Prop} {mg mb : Str → Option Value} {c : Nat} {t u : Tok} {hand : Int}
    (B : Bs w mg mb s.heap) (hroom : A.depth + 10 < recursionLimit) (hpos : 0 < s.toks) (h05 : 0 ≤ hand ∧ hand < 5) :
    wpAny (model Challenge.rw_nb0384_01.row.prog w) A (call (.ref 70) [.int hand u, .str ⟨#[c]⟩ t]) (fun v s' => Keeps s s' ∧ ∃ u, v = .str ⟨(sp1 hand c).toArray⟩ u) E s := by
  have B0 := B
  revert B0; obtain ⟨X, T⟩ := B; revert X; k_fill; intro X B
  walk_at "m_enter"
  intro L h₁ tk F N hpos
  refine wpAny_execs_cons (wpAny_Assign_Name (Subscript_ (List_ (spliced_more (Calls.Constant_str (spliced_more (Calls.Constant_str (spliced_more (Calls.Constant_str
    (spliced_more (Calls.Constant_str (spliced_more (Calls.Constant_str (spliced_none ?_))))))))))))))
  refine newList_N F N (fun h2 F2 N2 => ld F2 rfl ?_)
  obtain ⟨bt, hbt⟩ := pick5_at h05.1 h05.2 (Str.ofString "\"\x0d\n\t") (Str.ofString "") (Str.ofString "<\x0d\n\t") (Str.ofString "\"\n\t") (Str.ofString ">") tk (tk + 1) (tk + 1 + 1) (tk + 1 + 1 + 1) (tk + 1 + 1 + 1 + 1)
  refine item_litK (News.isList N2 (.head _)) h05.1 (by have := h05.2; omega) hbt ?_
  refine stN F2 N2 fun h3 F3 N3 => ?_
  dsimp only
  refine wpAny_execs_cons (wpAny_If (isTrue_or (wpAny_isTrue_Compare1 (ld F3 rfl (ld F3 rfl (PyProof.Rows.in_str (wpAny_truthy_bool ?_)))))))
  rw [StrLaws.found_one]
  by_cases hb : c ∈ (bareS hand).cps.toList
  · rw [show decide (c ∈ (pick5 hand (Str.ofString "\"\x0d\n\t") (Str.ofString "") (Str.ofString "<\x0d\n\t") (Str.ofString "\"\n\t") (Str.ofString ">")).cps.toList) = true from decide_eq_true hb]
    refine wpAny_execs_cons (wpAny_Return_some (ld F3 rfl ?_))
    exact ⟨⟨_, _, rfl, F3.keep⟩, t, by rw [sp1_bare h05.1 h05.2 hb]⟩
  · rw [show decide (c ∈ (pick5 hand (Str.ofString "\"\x0d\n\t") (Str.ofString "") (Str.ofString "<\x0d\n\t") (Str.ofString "\"\n\t") (Str.ofString ">")).cps.toList) = false from decide_eq_false hb]
    refine isTrue_or (wpAny_isTrue_Compare1 (ld F3 rfl (Calls.Constant_str (PyProof.Rows.notIn_str (wpAny_truthy_bool ?_)))))
    rw [StrLaws.found_one]
    by_cases hs : isSpec c
    case neg =>
      rw [show decide (c ∈ (Str.ofString "&<>\"\x0d\n\t").cps.toList) = false from decide_eq_false (fun h => hs ((spec_mem c).mp h))]
      refine wpAny_execs_cons (wpAny_Return_some (ld F3 rfl ?_))
      exact ⟨⟨_, _, rfl, F3.keep⟩, t, by rw [sp1_plain hs]⟩
    rw [show decide (c ∈ (Str.ofString "&<>\"\x0d\n\t").cps.toList) = true from decide_eq_true ((spec_mem c).mpr hs)]
    refine isTrue_or_nil (wpAny_execs_nil ?_)
    refine wpAny_execs_cons (wpAny_Assign_Name (List_ (spliced_more (Calls.Constant_str (spliced_more (Calls.Constant_str (spliced_more (Calls.Constant_str
      (spliced_more (Calls.Constant_str (spliced_more (Calls.Constant_str (spliced_more (Calls.Constant_str (spliced_more (Calls.Constant_str (spliced_none ?_)))))))))))))))))
    refine newList_N F3 N3 (fun h4 F4 N4 => stN F4 N4 fun h5 F5 N5 => ?_)
    dsimp only
    refine wpAny_execs_cons (wpAny_If (wpAny_isTrue_Compare1 (ld F5 rfl (wpAny_Constant_int (gt_int (wpAny_truthy_bool ?_))))))
    by_cases h2 : 2 < hand
    · rw [show decide (hand > 2) = true from decide_eq_true h2]
      have hsp := sp1_high h05.1 h05.2 h2 hb hs
      refine wpAny_execs_cons (wpAny_Assign_Name (List_ (spliced_more (Calls.Constant_str (spliced_more (Calls.Constant_str (spliced_more (Calls.Constant_str
        (spliced_more (Calls.Constant_str (spliced_more (Calls.Constant_str (spliced_more (Calls.Constant_str (spliced_more (Calls.Constant_str (spliced_none ?_)))))))))))))))))
      refine newList_N F5 N5 (fun h6 F6 N6 => stN F6 N6 fun h7 F7 N7 => ?_)
      dsimp only
      refine wpAny_execs_nil ?_
      refine wpAny_execs_cons (wpAny_Return_some (Subscript_ (ld F7 rfl (MethodCall_ (Calls.Constant_str (GM.index (callWith_method1 (spliced_more (ld F7 rfl (spliced_none ?_))))))))))
      rcases hs with rfl | rfl | rfl | rfl | rfl | rfl | rfl
      · refine SC.index (i := 0) (rest := []) (by decide +kernel) (item_litK (News.isList N7 (.head _)) (by decide) (by decide) rfl ?_)
        exact ⟨⟨_, _, rfl, F7.keep⟩, _, by rw [hsp]; exact congrArg (Value.str · _) (str_of t_amp)⟩
      · refine SC.index (i := 1) (rest := []) (by decide +kernel) (item_litK (News.isList N7 (.head _)) (by decide) (by decide) rfl ?_)
        exact ⟨⟨_, _, rfl, F7.keep⟩, _, by rw [hsp]; exact congrArg (Value.str · _) (str_of t_lt)⟩
      · refine SC.index (i := 2) (rest := []) (by decide +kernel) (item_litK (News.isList N7 (.head _)) (by decide) (by decide) rfl ?_)
        exact ⟨⟨_, _, rfl, F7.keep⟩, _, by rw [hsp]; exact congrArg (Value.str · _) (str_of t_gt)⟩
      · refine SC.index (i := 3) (rest := []) (by decide +kernel) (item_litK (News.isList N7 (.head _)) (by decide) (by decide) rfl ?_)
        exact ⟨⟨_, _, rfl, F7.keep⟩, _, by rw [hsp]; exact congrArg (Value.str · _) (str_of t_quot)⟩
      · refine SC.index (i := 4) (rest := []) (by decide +kernel) (item_litK (News.isList N7 (.head _)) (by decide) (by decide) rfl ?_)
        exact ⟨⟨_, _, rfl, F7.keep⟩, _, by rw [hsp]; exact congrArg (Value.str · _) (str_of t_rxD)⟩
      · refine SC.index (i := 5) (rest := []) (by decide +kernel) (item_litK (News.isList N7 (.head _)) (by decide) (by decide) rfl ?_)
        exact ⟨⟨_, _, rfl, F7.keep⟩, _, by rw [hsp]; exact congrArg (Value.str · _) (str_of t_rxA)⟩
      · refine SC.index (i := 6) (rest := []) (by decide +kernel) (item_litK (News.isList N7 (.head _)) (by decide) (by decide) rfl ?_)
        exact ⟨⟨_, _, rfl, F7.keep⟩, _, by rw [hsp]; exact congrArg (Value.str · _) (str_of t_rx9)⟩
    · rw [show decide (hand > 2) = false from decide_eq_false h2]
      have hsp := sp1_low h05.1 h05.2 h2 hb hs
      refine wpAny_execs_nil ?_
      refine wpAny_execs_cons (wpAny_Return_some (Subscript_ (ld F5 rfl (MethodCall_ (Calls.Constant_str (GM.index (callWith_method1 (spliced_more (ld F5 rfl (spliced_none ?_))))))))))
      rcases hs with rfl | rfl | rfl | rfl | rfl | rfl | rfl
      · refine SC.index (i := 0) (rest := []) (by decide +kernel) (item_litK (News.isList N5 (.head _)) (by decide) (by decide) rfl ?_)
        exact ⟨⟨_, _, rfl, F5.keep⟩, _, by rw [hsp]; exact congrArg (Value.str · _) (str_of t_amp)⟩
      · refine SC.index (i := 1) (rest := []) (by decide +kernel) (item_litK (News.isList N5 (.head _)) (by decide) (by decide) rfl ?_)
        exact ⟨⟨_, _, rfl, F5.keep⟩, _, by rw [hsp]; exact congrArg (Value.str · _) (str_of t_lt)⟩
      · refine SC.index (i := 2) (rest := []) (by decide +kernel) (item_litK (News.isList N5 (.head _)) (by decide) (by decide) rfl ?_)
        exact ⟨⟨_, _, rfl, F5.keep⟩, _, by rw [hsp]; exact congrArg (Value.str · _) (str_of t_gt)⟩
      · refine SC.index (i := 3) (rest := []) (by decide +kernel) (item_litK (News.isList N5 (.head _)) (by decide) (by decide) rfl ?_)
        exact ⟨⟨_, _, rfl, F5.keep⟩, _, by rw [hsp]; exact congrArg (Value.str · _) (str_of t_quot)⟩
      · refine SC.index (i := 4) (rest := []) (by decide +kernel) (item_litK (News.isList N5 (.head _)) (by decide) (by decide) rfl ?_)
        exact ⟨⟨_, _, rfl, F5.keep⟩, _, by rw [hsp]; exact congrArg (Value.str · _) (str_of t_r13)⟩
      · refine SC.index (i := 5) (rest := []) (by decide +kernel) (item_litK (News.isList N5 (.head _)) (by decide) (by decide) rfl ?_)
        exact ⟨⟨_, _, rfl, F5.keep⟩, _, by rw [hsp]; exact congrArg (Value.str · _) (str_of t_r10)⟩
      · refine SC.index (i := 6) (rest := []) (by decide +kernel) (item_litK (News.isList N5 (.head _)) (by decide) (by decide) rfl ?_)
        exact ⟨⟨_, _, rfl, F5.keep⟩, _, by rw [hsp]; exact congrArg (Value.str · _) (str_of t_r09)⟩
end Mine
end
section
open PySem PySem.W PyProof.Rows
set_option maxRecDepth 100000
set_option maxHeartbeats 8000000
namespace Mine
theorem pick_of {h : Heap} {D : Addr} {n : Nat} {items : List Value} {k : Int} (P : Value → Prop) (hD : h.get? D = some (listOf items.toArray n)) (h0 : 0 ≤ k) (hk : k < items.length) (hP : ∀ v ∈ items, P v) :
    ∃ v, items[k.toNat]? = some v ∧ P v ∧ h.IsList D items.toArray := by
  have hlt : k.toNat < items.length := by omega
  exact ⟨items[k.toNat], by simp [hlt], hP _ (List.getElem_mem hlt), _, hD, rfl, n, rfl⟩
theorem strs_of_paired {P : Value → Prop} {F : Value → Value → Prop} (hF : ∀ v y, F v y → ∃ x u, y = .str x u ∧ x.length ≤ 4) : ∀ {l : List Value} {ys : List Value}, Paired F l ys → ∃ q : List (Str × Tok), ys = strValues q ∧ (∀ y ∈ q.map (·.1), y.length ≤ 4) ∧ q.length = l.length
  | _, _, .nil => ⟨[], rfl, by simp, rfl⟩
  | _, _, .cons (a := a) (b := b) h r => by
    obtain ⟨q, rfl, hq, hl⟩ := strs_of_paired (P := P) hF r
    obtain ⟨x, u, rfl, hx⟩ := hF _ _ h
    refine ⟨(x, u) :: q, rfl, ?_, by simp [hl]⟩
    intro y hy
    rcases List.mem_cons.mp hy with rfl | hy
    · exact hx
    · exact hq y hy
theorem filter_ints {p : Value → Bool} {pz : Int → Bool} : ∀ {vs : List Value} {ns : List Int}, IntsAre vs ns → (∀ n u, p (.int n u) = pz n) → (vs.filter p).length = (ns.filter pz).length
  | _, _, .nil, _ => rfl
  | _, _, .cons n t r, h => by
    have ih := filter_ints r h
    rw [List.filter_cons, List.filter_cons, h n t]
    split <;> simp [ih]
theorem int_mem {vs : List Value} {ns : List Int} (hi : IntsAre vs ns) {i : Nat} {v : Value} (hv : vs.toArray[i]? = some v) : ∃ n u, v = .int n u ∧ n ∈ ns := by
  obtain ⟨n, u, rfl, hn⟩ := hi.at i v (by simpa using hv)
  exact ⟨n, u, rfl, List.mem_of_getElem? hn⟩

local macro_rules | `(tactic| walk_at "m_enterC") => `(tactic| (
  (refine' enterC (Bs.X (by assumption)) (TopRead.nolimit (Bs.T (by assumption))) ?k8 (by assumption) ?k6 ?k7 ?k9 ?kB ?kD ?c2 ?c3 ?c4 ?_)
  (case k6 => k_is)
  (case k7 => k_is)
  (case k8 => first | assumption | omega)
  (case k9 => exact rfl)
  (case kB => exact rfl)
  (case kD => decide +kernel)
  (case c2 => rfl)
  (case c3 => rfl)
  (case c4 => rfl)))

theorem c_pieces {w : World} {A : Around} {s : Shared} {E : Value → Shared → Prop} {mg mb : Str → Option Value} {l : Addr} {t : Tok} {odd : Int} {vs : List Value} {ns : List Int}
    (B : Bs w mg mb s.heap) (hroom : A.depth + 10 < recursionLimit) (hA : A.handled = none) (hpos : 0 < s.toks) (hl : s.heap.IsList l vs.toArray) (hi : IntsAre vs ns) (hb : ∀ n ∈ ns, 0 ≤ n ∧ n < 32) (hn : ns.length ≤ 6) :
    wpAny (model Challenge.rw_nb0384_01.row.prog w) A (call (.ref 75) [.ref l, .int odd t]) (fun v s' => Keeps s s' ∧ ∃ x u, v = .str x u ∧ x.length ≤ 4 * (ns.filter fun n => n.fmod 2 == odd).length) E s := by
  have B0 := B
  revert B0; obtain ⟨X, T⟩ := B; revert X; k_fill; intro X B
  walk_at "m_enterC"
  intro L h₁ tk cells F N Y hpos
  obtain ⟨o1, o2, rfl, d1, d2⟩ := CellsAre.two Y
  clear Y
  refine wpAny_execs_cons ?_
  refine wpAny_Assign_Name ?_
  refine List_ ?_
  (iterate 16 (refine spliced_more ?_; refine Calls.Constant_str ?_; dsimp only))
  refine spliced_none ?_
  refine newList_K F N (fun D h2 F2 N2 hD => ?_)
  k_lt hD
  dsimp only
  refine storeX_C F2 N2 (c := L + 1 + 1) rfl (by k_updF) d1 (fun h3 o1' F3 N3 d1' => ?_)
  dsimp only at N3 ⊢
  refine wpAny_execs_cons ?_
  refine wpAny_Return_some ?_
  refine MethodCall_ ?_
  refine Calls.Constant_str ?_
  refine GM.join ?_
  refine callWith_method1 ?_
  refine spliced_more ?_
  dsimp only
  have hl3 : h3.IsList l vs.toArray := hl.at fun o e => F3.keep _ o e
  have hlen := hi.length
  refine evComp (fun v => match v with | .int a _ => a.fmod 2 == odd | _ => false) (fun _ y => ∃ x u, y = .str x u ∧ x.length ≤ 4) (cl := [(Str.ofString "pieces", L + 1 + 1), (Str.ofString "odd", L + 1)]) rfl (by decide) rfl (by decide) rfl hA (by dsimp only; omega) ?_
  refine nameX_L F3 rfl ?_
  refine Or.inl ⟨l, vs.toArray, rfl, hl3, by simp only [List.size_toArray]; rw [sizeLine_eq]; omega, ⟨?_, ?_⟩, ?_⟩
  · intro C i v s₃ m₃ E' hv hns hm hk ht hC
    obtain ⟨n, u, rfl, hnm⟩ : ∃ n u, v = .int n u ∧ n ∈ ns := int_mem hi hv
    refine wpAny_tests_one ?_
    refine wpAny_isTrue_Compare1 ?_
    refine wpAny_BinOp ?_
    refine wpAny_Name (wpAny_loadName_local rfl rfl hns hm ?_) (by decide)
    refine wpAny_Constant_int ?_
    refine mod_int' (by decide) ?_
    refine wpAny_Name (wpAny_loadName_cell rfl rfl (c := L + 1) rfl ⟨o2, hk _ _ (N3.get (by k_mem)), d2⟩ ?_) (by decide)
    refine P.eq_int ?_
    refine wpAny_truthy_bool ?_
    exact ⟨rfl, _, _, rfl, fun _ _ e => e⟩
  · intro C i v s₃ m₃ E' hv hpv hns hm hk ht hC
    obtain ⟨n, u, rfl, hnm⟩ : ∃ n u, v = .int n u ∧ n ∈ ns := int_mem hi hv
    refine Subscript_ ?_
    refine wpAny_Name (wpAny_loadName_cell rfl rfl (c := L + 1 + 1) rfl ⟨o1', hk _ _ (N3.get (by k_mem)), d1'⟩ ?_) (by decide)
    refine wpAny_BinOp ?_
    refine wpAny_Name (wpAny_loadName_local rfl rfl hns hm ?_) (by decide)
    refine wpAny_Constant_int ?_
    refine floordiv_int (by decide) ?_ (Or.inl (PyProof.noPylong_small (by have := hb n hnm; omega)))
    dsimp only
    have hfd : n.fdiv 2 = n / 2 := Int.fdiv_eq_ediv_of_nonneg _ (by decide)
    have hbn := hb n hnm
    obtain ⟨v, hv', ⟨x, u', rfl, hx⟩, hL⟩ := pick_of (k := n.fdiv 2) (fun v => ∃ x u, v = .str x u ∧ x.length ≤ 4) (hk _ _ (N3.get (show (D, _) ∈ _ by k_mem))) (by omega) (by rw [hfd]; simp only [List.length_cons, List.length_nil]; omega)
      (by
        intro v hv
        simp only [List.mem_cons, List.not_mem_nil, or_false] at hv
        rcases hv with rfl | rfl | rfl | rfl | rfl | rfl | rfl | rfl | rfl | rfl | rfl | rfl | rfl | rfl | rfl | rfl
        all_goals exact ⟨_, _, rfl, by decide +kernel⟩)
    refine item_litK hL (by omega) (by omega) hv' ?_
    exact ⟨⟨_, _, rfl, hx⟩, _, _, rfl, fun _ _ e => e⟩
  · intro D' h' tk' ys vs' hD' hpl hlen hP hF hk _
    obtain ⟨q, hq, hq4, hql⟩ := strs_of_paired (P := fun _ => True) (fun _ _ h => h) hF
    obtain rfl : vs' = vs := by
      refine List.ext_getElem? fun j => ?_
      rcases Nat.lt_or_ge j vs'.length with hj | hj
      · have := hP j vs'[j] (by simp [hj])
        rw [List.getElem?_eq_getElem hj, ← this]; simp
      · rw [List.getElem?_eq_none hj, List.getElem?_eq_none (by simpa [hlen] using hj)]
    have hqc : q.length = (ns.filter fun n => n.fmod 2 == odd).length := by rw [hql]; exact filter_ints hi (fun _ _ => rfl)
    have hq6 : q.length ≤ 6 := by
      have := List.length_filter_le (fun n : Int => n.fmod 2 == odd) ns
      omega
    refine spliced_none ?_
    dsimp only
    have hsum := StrLaws.sumLen_le _ hq4
    have hlm : (q.map (·.1)).length = q.length := List.length_map ..
    rw [hlm] at hsum
    have hx0 : (Str.ofString "").length = 0 := by decide +kernel
    refine SC.join (l := q) ?_ rfl (joinOk_of ?_) (fun t' k => ?_)
    · obtain ⟨n, hn'⟩ := hpl
      refine ⟨_, hn', rfl, n, ?_⟩
      show Data.seq ys n = _
      rw [← hq]
    · rw [hx0, hlm]; omega
    · refine ⟨⟨_, _, rfl, fun b o e => hk b o (F3.keep b o e)⟩, _, _, rfl, ?_⟩
      have := StrLaws.join_length_le (Str.ofString "") (q.map (·.1))
      rw [hx0] at this
      have h2 : (Txt.join (Str.ofString "") (q.map (·.1))).length ≤ 4 * (ns.filter fun n => n.fmod 2 == odd).length := by
        rw [show Txt.join (Str.ofString "") (q.map (·.1)) = Str.join (Str.ofString "") (q.map (·.1)) from StrLaws.glued_eq_join _ _]
        omega
      exact h2
end Mine
end
section
namespace Mine
/-- the heads that the law tries at place k: none, and the tails of the reference ahead of it -/
def hds (f : Nat → List Nat) (s : List Nat) (k : Nat) : List (List Nat) :=
  [] :: (if k = 0 then [] else (List.range ((f (s.getD (k - 1) 0)).length - 1)).map fun n => (f (s.getD (k - 1) 0)).drop (1 + n))
def hit (s t : List Nat) (k : Nat) (head : List Nat) : Bool :=
  decide (head ++ s.drop k ≠ []) && decide (t.take (head ++ s.drop k).length = head ++ s.drop k)
def val (f : Nat → List Nat) (s : List Nat) (k : Nat) (head : List Nat) : Int := ((head.length + ((s.drop k).flatMap f).length : Nat) : Int)
def dueAt (f g : Nat → List Nat) (s t : List Nat) (k : Nat) : List Int :=
  if (s.drop k).map f = (s.drop k).map g then ((hds f s k).filter (hit s t k)).map (val f s k) else []
def dueTo (f g : Nat → List Nat) (s t : List Nat) (k : Nat) : List Int := (List.range k).flatMap (dueAt f g s t)
theorem dueTo_succ (f g : Nat → List Nat) (s t : List Nat) (k : Nat) : dueTo f g s t (k + 1) = dueTo f g s t k ++ dueAt f g s t k := by
  simp [dueTo, List.range_succ]
/-- the numbers that the law's comprehension keeps -/
def toldL (a b : List Nat) : List Int := ((List.range a.length).map fun (i : Nat) => (1 + (i : Int))).filter fun n => decide (a.drop (a.length - n.toNat) = b.take n.toNat)
end Mine
end
section
open PySem PySem.W PyProof.Rows
set_option maxRecDepth 100000
set_option maxHeartbeats 8000000
namespace Mine

theorem gname {w : World} {mg mb : Str → Option Value} {M : Model} {A : Around} {E : Value → Shared → Prop} {s : Shared} {env : Env} {x : Str} {pos : Pos} {v : Value} {Q : Value → Shared → Prop}
    (B : Bs w mg mb s.heap) (e : nsIn (hd.heap_39 w.params) mainGlobals x = some (some v)) (h : Q v s) (hg : env.globals = mainGlobals) (hk : env.scope.kind = .function) (hx : env.kindOf x = some .globalImplicit)
    (hd : (x == ("__debug__" : Str)) = false) : wpAny M A (eval (.Name x pos) env) Q E s :=
  Calls.Name_function_global hk hx (Calls.loadGlobal_global (hg ▸ B.T.g) (mg_of B.X B.T.g e) h) hd
theorem bname {w : World} {mg mb : Str → Option Value} {M : Model} {A : Around} {E : Value → Shared → Prop} {s : Shared} {env : Env} {x : Str} {pos : Pos} {v : Value} {Q : Value → Shared → Prop}
    (B : Bs w mg mb s.heap) (e : nsIn (hd.heap_39 w.params) mainGlobals x = some none) (hv : bootBuiltins x = some v) (hn : x ≠ "__name__") (h : Q v s) (hg : env.globals = mainGlobals) (hb : env.builtins = builtinsNs)
    (hk : env.scope.kind = .function) (hx : env.kindOf x = some .globalImplicit) (hd : (x == ("__debug__" : Str)) = false) : wpAny M A (eval (.Name x pos) env) Q E s :=
  Calls.Name_function_global hk hx (Calls.loadGlobal_builtin (hg ▸ B.T.g) (mg_none_of B.X B.T.g e) (hb ▸ B.T.b) ((B.T.builtins x hn).trans hv) h) hd

theorem signs_paired {g : Nat → Str} {ys : List Value} : ∀ {vs : List Value} {l : List Nat}, vs.length = l.length → (∀ (j : Nat) (v : Value), vs[j]? = some v → ∃ (c : Nat) (u : Tok), l[j]? = some c ∧ v = Value.str ⟨#[c]⟩ u) →
    Paired (fun v y => ∃ c u u', v = Value.str ⟨#[c]⟩ u ∧ y = Value.str (g c) u') vs ys → ∃ q : List (Str × Tok), ys = strValues q ∧ q.map (·.1) = l.map g := by
  induction ys with
  | nil =>
    intro vs l hl _ hp
    cases hp
    cases l with
    | nil => exact ⟨[], rfl, rfl⟩
    | cons => cases hl
  | cons y ys ih =>
    intro vs l hl hv hp
    cases hp with
    | cons h r =>
      rename_i a vs
      cases l with
      | nil => cases hl
      | cons c l =>
        obtain ⟨q, rfl, hq⟩ := ih (l := l) (by simpa using hl) (fun j v e => by simpa using hv (j + 1) v (by simpa using e)) r
        obtain ⟨c', u, u', rfl, rfl⟩ := h
        obtain ⟨c'', u'', h1, h2⟩ := hv 0 _ rfl
        simp at h1 h2
        obtain ⟨h2, _⟩ := h2
        subst h1; subst h2
        exact ⟨(g c', u') :: q, rfl, by simp [hq]⟩

theorem filter_all (vs : List Value) : vs.filter (fun _ => true) = vs := by simp

/-- a turn of the comprehensions that spell a text's signs -/
theorem spell_turn {w : World} {A : Around} {mg mb : Str → Option Value} {s₁ : Shared} {env : Env} {scope : Scope} {cl : List (Str × Addr)} {x nm cn : Str} {hand : Int} {th : Tok} {c : Addr} {oc : Obj} {y : Str} {p1 p2 p3 p4 : Pos}
    (B : Bs w mg mb s₁.heap) (hroom : A.depth + 10 < recursionLimit) (hpos : 0 < s₁.toks) (h05 : 0 ≤ hand ∧ hand < 5) (hc : s₁.heap.get? c = some oc) (hoc : oc.data = .cell (some (.int hand th)))
    (e1 : nsIn (hd.heap_39 w.params) mainGlobals nm = some (some (.ref 70))) (e2 : keepIn (hd.heap_39 w.params) (.ref 70) = true)
    (hg : env.globals = mainGlobals)
    (k1 : ∀ C, (compEnvC scope cl C env).scope.kind = .function) (k2 : ∀ C, (compEnvC scope cl C env).kindOf nm = some .globalImplicit) (k3 : ∀ C, (compEnvC scope cl C env).kindOf cn = some .cell) (k4 : ∀ C, (compEnvC scope cl C env).kindOf x = some .local)
    (hcl : cl.lookup cn = some c)
    (d1 : (nm == ("__debug__" : Str)) = false) (d2 : (cn == ("__debug__" : Str)) = false) (d3 : (x == ("__debug__" : Str)) = false)
    (he : ∀ C, eval (.Call (.Name nm p1) [.Name cn p2, .Name x p3] [] p4) (compEnvC scope cl C env) = (do callWith p4 (← eval (.Name nm p1) (compEnvC scope cl C env)) [] (backTo p4 (starEach [.Name cn p2, .Name x p3] (compEnvC scope cl C env))) (backToKw p4 (keywordEach [] (compEnvC scope cl C env))))) :
    CompTurn Challenge.rw_nb0384_01.row.prog w A env scope cl x [] (.Call (.Name nm p1) [.Name cn p2, .Name x p3] [] p4) (fun _ => true) (fun v y => ∃ c u u', v = Value.str ⟨#[c]⟩ u ∧ y = .str (tx (sp1 hand c)) u') (SignAt y) s₁ := by
  refine ⟨?_, ?_⟩
  · intro C i v s₃ m₃ E' hv hns hm hk ht hC
    exact wpAny_tests_nil ⟨rfl, _, _, rfl, fun _ _ e => e⟩
  · intro C i v s₃ m₃ E' hv _ hns hm hk ht hC
    obtain ⟨cc, u, _, rfl⟩ := hv
    have B3 := B.keeps hk
    refine Call_ ?_ (he C)
    refine gname B3 e1 ?_ hg (k1 C) (k2 C) d1
    refine callWith_K B3.X e2 ?_
    refine spliced_more ?_
    refine wpAny_Name (wpAny_loadName_cell (k1 C) (k3 C) hcl ⟨oc, hk _ _ hc, hoc⟩ ?_) d2
    refine spliced_more ?_
    refine wpAny_Name (wpAny_loadName_local (k1 C) (k4 C) hns hm ?_) d3
    refine spliced_none ?_
    refine ⟨B3.X, ?_⟩
    refine wpAny_mono (c_spelled B3 hroom (Nat.lt_of_lt_of_le hpos ht) h05) (fun v s' h => ?_) fun _ _ e => e
    obtain ⟨hK, u', rfl⟩ := h
    exact ⟨⟨cc, u, u', rfl, rfl⟩, hK⟩
end Mine
end
section
open PySem PySem.W PyProof.Rows
set_option maxRecDepth 100000
set_option maxHeartbeats 8000000
namespace Mine
theorem range_paired {g : Nat → Str} {ys : List Value} : ∀ {n off : Nat} {vs : List Value}, vs.length = n → (∀ (j : Nat) (v : Value), vs[j]? = some v → ∃ t : Tok, v = Value.int (1 + ((off + j : Nat) : Int)) t) →
    Paired (fun v y => ∃ (j : Nat) (u u' : Tok), v = Value.int (1 + (j : Int)) u ∧ y = Value.str (g j) u') vs ys → ∃ q : List (Str × Tok), ys = strValues q ∧ q.map (·.1) = (List.range' off n).map g := by
  induction ys with
  | nil =>
    intro n off vs hl _ hp
    cases hp
    obtain rfl : n = 0 := by simpa using hl.symm
    exact ⟨[], rfl, rfl⟩
  | cons y ys ih =>
    intro n off vs hl hv hp
    cases hp with
    | cons h r =>
      rename_i a vs
      cases n with
      | zero => cases hl
      | succ n =>
        obtain ⟨q, rfl, hq⟩ := ih (n := n) (off := off + 1) (by simpa using hl) (fun j v e => by
          have := hv (j + 1) v (by simpa using e)
          rwa [show off + (j + 1) = off + 1 + j by omega] at this) r
        obtain ⟨j, u, u', rfl, rfl⟩ := h
        obtain ⟨t, h1⟩ := hv 0 _ rfl
        have hj : j = off := by
          injection h1 with h1 _
          omega
        subst hj
        exact ⟨(g j, u') :: q, rfl, by simp [hq, List.range'_succ]⟩
theorem tx_app (a b : List Nat) : tx a ++ tx b = tx (a ++ b) := Str.ext' (by simp [Str.cps_append])
theorem text_at {l : List (List Nat)} {q : List (Str × Tok)} (hm : q.map (·.1) = l.map tx) {j : Nat} {v : Value} (hv : (strValues q).toArray[j]? = some v) : ∃ a u, v = .str (tx a) u ∧ l[j]? = some a := by
  have hl : q.length = l.length := by simpa using congrArg List.length hm
  have hj : j < q.length := by
    rcases Nat.lt_or_ge j q.length with h | h
    · exact h
    · simp [strValues, h] at hv
  have hj2 : j < l.length := by omega
  have e := congrArg (·[j]?) hm
  simp [hj, hj2] at e
  simp [strValues, hj] at hv
  subst hv
  exact ⟨l[j], (q[j]).2, by rw [e], by simp [hj2]⟩
theorem head_len {f : Nat → List Nat} (hf : ∀ c, (f c).length ≤ 6) {sl : List Nat} {i : Nat} {a : List Nat} (ha : a ∈ hds f sl i) : a.length ≤ 6 := by
  unfold hds at ha
  rcases List.mem_cons.mp ha with rfl | ha
  · simp
  · split at ha
    · cases ha
    · obtain ⟨n, _, rfl⟩ := List.mem_map.mp ha
      have := hf (sl.getD (i - 1) 0)
      rw [List.length_drop]; omega
theorem join_len (f : Nat → List Nat) (l : List Nat) : (Txt.join (tx []) (l.map fun c => tx (f c))).length = (l.flatMap f).length := by
  rw [show Txt.join (tx []) (l.map fun c => tx (f c)) = Str.join (tx []) (l.map fun c => tx (f c)) from StrLaws.glued_eq_join _ _]
  induction l with
  | nil => rfl
  | cons c l ih =>
    cases l with
    | nil => simp [Str.join, Str.length]
    | cons d l =>
      rw [List.flatMap_cons, List.length_append, ← ih]
      show (tx (f c) ++ tx [] ++ Str.join (tx []) ((d :: l).map fun c => tx (f c))).length = _
      rw [Str.length_append, Str.length_append, tx_len, tx_len]
      simp
theorem dueTo_mono {f g : Nat → List Nat} {s t : List Nat} {a b : Nat} (h : a ≤ b) : (dueTo f g s t a).length ≤ (dueTo f g s t b).length := by
  induction b with
  | zero => obtain rfl : a = 0 := by omega
            exact Nat.le_refl _
  | succ b ih =>
    rcases Nat.lt_or_ge b a with h1 | h1
    · obtain rfl : a = b + 1 := by omega
      exact Nat.le_refl _
    · rw [dueTo_succ, List.length_append]
      have := ih h1
      omega
theorem len_sp1 (n : Int) (c : Nat) : (sp1 n c).length ≤ 6 := by
  unfold sp1
  repeat' split
  · exact len_cdata c
  · exact len_attrib c
  · exact len_html c
  · exact len_cdataC c
  · exact len_attribC c
theorem spelled_at {f : Nat → List Nat} {sl : List Nat} {q : List (Str × Tok)} (hm : q.map (·.1) = sl.map fun c => tx (f c)) {i : Nat} (h0 : 0 < i) (hi : i ≤ sl.length) :
    ∃ u, (strValues q)[((i : Int) - 1).toNat]? = some (.str (tx (f (sl.getD (i - 1) 0))) u) := by
  have e : ((i : Int) - 1).toNat = i - 1 := by omega
  have hl : q.length = sl.length := by simpa using congrArg List.length hm
  have h1 : i - 1 < q.length := by omega
  have h2 : i - 1 < sl.length := by omega
  have h3 : (q[i - 1]).1 = tx (f (sl[i - 1])) := by
    have := congrArg (·[i - 1]?) hm
    simpa [h1, h2] using this
  refine ⟨(q[i - 1]).2, ?_⟩
  rw [e]
  simp [strValues, h1, h2, h3, List.getD]
local macro_rules | `(tactic| walk_at "m_enterC") => `(tactic| (
  (refine' enterC (Bs.X (by assumption)) (TopRead.nolimit (Bs.T (by assumption))) ?k8 (by assumption) ?k6 ?k7 ?k9 ?kB ?kD ?c2 ?c3 ?c4 ?_)
  (case k6 => k_is)
  (case k7 => k_is)
  (case k8 => first | assumption | omega)
  (case k9 => exact rfl)
  (case kB => exact rfl)
  (case kD => decide +kernel)
  (case c2 => rfl)
  (case c3 => rfl)
  (case c4 => rfl)))

theorem c_due {w : World} {A : Around} {s : Shared} {E : Value → Shared → Prop} {mg mb : Str → Option Value} {first second : Int} {sl tl : List Nat} {t1 t2 t3 t4 : Tok}
    (B : Bs w mg mb s.heap) (hroom : A.depth + 20 < recursionLimit) (hA : A.handled = none) (hu : A.units + 100 < cLine) (hpos : 0 < s.toks) (h1 : 0 ≤ first ∧ first < 5) (h2 : 0 ≤ second ∧ second < 5)
    (hs : sl.length ≤ 100) (ht : tl.length ≤ 1000) (h64 : (dueTo (sp1 first) (sp1 second) sl tl (sl.length + 1)).length < 64) :
    wpAny (model Challenge.rw_nb0384_01.row.prog w) A (call (.ref 80) [.int first t1, .str (tx sl) t2, .int second t3, .str (tx tl) t4])
      (fun v s' => Keeps s s' ∧ ∃ D vs ns, v = .ref D ∧ s'.heap.IsList D vs.toArray ∧ IntsAre vs ns ∧ ns.Perm (dueTo (sp1 first) (sp1 second) sl tl (sl.length + 1)) ∧ ns.Pairwise (· ≤ ·)) E s := by
  have B0 := B
  revert B0; obtain ⟨X, T⟩ := B; revert X; k_fill; intro X B
  walk_at "m_enterC"
  intro L h₁ tk cells F N Y hpos
  obtain ⟨oK, oO, oS, oF, rfl, dK, dO, dS, dF⟩ := CellsAre.four Y
  clear Y
  refine wpAny_execs_cons ?_
  refine wpAny_Assign_Name ?_
  refine evComp (fun _ => true) (fun v y => ∃ c u u', v = Value.str ⟨#[c]⟩ u ∧ y = .str (tx (sp1 first c)) u') (cl := [(Str.ofString "first", L + 1)]) rfl (by decide) rfl (by decide) rfl hA hpos ?_
  refine nameX_L F rfl ?_
  refine Or.inr (Or.inr ⟨_, _, rfl, by rw [tx_len, sizeLine_eq]; omega, spell_turn (Fr.bs F B) (by simp only [depth_deeper]; omega) hpos h1 (N.get (by k_mem)) dF (by k_is) (by k_is) rfl (fun _ => rfl) (fun _ => rfl) (fun _ => rfl) (fun _ => rfl) rfl (by decide) (by decide) (by decide) (fun _ => rfl), ?_⟩)
  intro D1 g2 tk2 ys1 vs1 hD1 hpl1 hlen1 hP1 hF1 hk1 hpos2
  rw [filter_all] at hF1
  obtain ⟨q1, hq1, hm1⟩ := signs_paired (g := fun c => tx (sp1 first c)) (l := sl) (by simpa using hlen1) (fun j v e => by simpa [SignAt] using hP1 j v e) hF1
  clear hF1 hP1 hlen1
  obtain rfl : ys1 = (strValues q1).toArray := by rw [← hq1]
  clear hq1
  obtain ⟨n1, hg1⟩ := hpl1
  have F2 := Fr.up F hk1
  have N2 := News.add F (News.up N hk1) hD1 hg1
  dsimp only
  refine storeX_C F2 N2 (c := L + 1 + 1 + 1) rfl (UpdF.tail (ne_none hD1 (N.get (by k_mem))) (by k_updF)) dO (fun h3 oO' F3 N3 dO' => ?_)
  dsimp only at N3 ⊢
  -- other
  refine wpAny_execs_cons ?_
  refine evCompA (fun _ => true) (fun v y => ∃ c u u', v = Value.str ⟨#[c]⟩ u ∧ y = .str (tx (sp1 second c)) u') (cl := [(Str.ofString "second", L + 1 + 1)]) rfl rfl (by decide) rfl (by decide) rfl rfl rfl hA hpos2 ?_
  refine nameX_L F3 rfl ?_
  refine Or.inr (Or.inr ⟨_, _, rfl, by rw [tx_len, sizeLine_eq]; omega, spell_turn (Fr.bs F3 B) (by simp only [depth_deeper]; omega) hpos2 h2 (N3.get (by k_mem)) dS (by k_is) (by k_is) rfl (fun _ => rfl) (fun _ => rfl) (fun _ => rfl) (fun _ => rfl) rfl (by decide) (by decide) (by decide) (fun _ => rfl), ?_⟩)
  refine ⟨_, F3.ns, ?_⟩
  intro D2 h4 tk4 ys2 vs2 hD2 hpl2 hlen2 hP2 hF2 hns4 hk4 hpos4
  rw [filter_all] at hF2
  obtain ⟨q2, hq2, hm2⟩ := signs_paired (g := fun c => tx (sp1 second c)) (l := sl) (by simpa using hlen2) (fun j v e => by simpa [SignAt] using hP2 j v e) hF2
  clear hF2 hP2 hlen2
  obtain rfl : ys2 = (strValues q2).toArray := by rw [← hq2]
  clear hq2
  obtain ⟨n2, hg2⟩ := hpl2
  have F4 := Fr.setA F3 hns4 hk4
  have N4 := News.add F3 (News.setA N3 hk4) hD2 hg2
  dsimp only
  refine wpAny_execs_cons ?_
  refine wpAny_Assign_Name ?_
  refine List_ ?_
  refine spliced_none ?_
  refine newList_K F4 N4 (fun D3 h5 F5 N5 hD3 => ?_)
  k_lt hD3
  refine storeX_L F5 N5 (fun h6 F6 N6 => ?_)
  dsimp only
  refine wpAny_execs_cons ?_
  refine wpAny_For ?_
  refine Call_ ?_
  refine bname (Fr.bs F6 B) (by k_is) (by boot_by_name) (by decide) ?_ rfl rfl rfl rfl (by decide)
  refine PyProof.Rows.callWith_type1 ?_
  refine spliced_more ?_
  refine wpAny_BinOp ?_
  refine Call_ ?_
  refine bname (Fr.bs F6 B) (by k_is) (by boot_by_name) (by decide) ?_ rfl rfl rfl rfl (by decide)
  refine PyProof.Rows.callWith_builtin1 ?_
  refine spliced_more ?_
  refine nameX_L F6 rfl ?_
  refine spliced_none ?_
  refine PyProof.Rows.len_str (by rw [tx_len]; omega) ?_
  dsimp only
  refine wpAny_Constant_int ?_
  refine add_int ?_
  refine spliced_none ?_
  dsimp only
  refine wpAny_with_toks (n := 1) (by dsimp only; omega) ?_
  refine range1_rows F6 N6 (fun h7 tk7 r1 r2 r3 hr F7 N7 hk7 hpos7 => ?_)
  dsimp only at hr ⊢
  have hcast : (((tx sl).length : Int) + 1) = ((sl.length + 1 : Nat) : Int) := by rw [tx_len]; push_cast; rfl
  rw [hcast] at hr
  have hsm := rng_small (sl.length + 1) 0 (by omega) (by omega) (by omega)
  have hrs := rng_size (sl.length + 1)
  refine wpAny_pyIter_range hr hsm ?_
  dsimp only
  -- the ledger: what stands, the cell of k, the list due
  have n3K : D3 ≠ L + 1 + 1 + 1 + 1 := by k_ne
  have nfix3 : ∀ p ∈ [(D2, ({ cls := .type "list", data := .seq (strValues q2).toArray n2 } : Obj)), (D1, { cls := .type "list", data := .seq (strValues q1).toArray n1 }), (L + 1 + 1 + 1, oO'), (L + 1 + 1, oS), (L + 1, oF)], p.1 ≠ D3 := by k_all
  have nfixK : ∀ p ∈ [(D2, ({ cls := .type "list", data := .seq (strValues q2).toArray n2 } : Obj)), (D1, { cls := .type "list", data := .seq (strValues q1).toArray n1 }), (L + 1 + 1 + 1, oO'), (L + 1 + 1, oS), (L + 1, oF)], p.1 ≠ L + 1 + 1 + 1 + 1 := by
    refine List.forall_mem_cons.mpr ⟨ne_none hD2 (N3.get (by k_mem)), List.forall_mem_cons.mpr ⟨ne_none hD1 (N.get (by k_mem)), by k_all⟩⟩
  have mD2 : (D2, listOf (strValues q2).toArray n2) ∈ [(D2, ({ cls := .type "list", data := .seq (strValues q2).toArray n2 } : Obj)), (D1, { cls := .type "list", data := .seq (strValues q1).toArray n1 }), (L + 1 + 1 + 1, oO'), (L + 1 + 1, oS), (L + 1, oF)] := by k_mem
  have mD1 : (D1, listOf (strValues q1).toArray n1) ∈ [(D2, ({ cls := .type "list", data := .seq (strValues q2).toArray n2 } : Obj)), (D1, { cls := .type "list", data := .seq (strValues q1).toArray n1 }), (L + 1 + 1 + 1, oO'), (L + 1 + 1, oS), (L + 1, oF)] := by k_mem
  have mO : (L + 1 + 1 + 1, oO') ∈ [(D2, ({ cls := .type "list", data := .seq (strValues q2).toArray n2 } : Obj)), (D1, { cls := .type "list", data := .seq (strValues q1).toArray n1 }), (L + 1 + 1 + 1, oO'), (L + 1 + 1, oS), (L + 1, oF)] := by k_mem
  generalize hfix : [(D2, ({ cls := .type "list", data := .seq (strValues q2).toArray n2 } : Obj)), (D1, { cls := .type "list", data := .seq (strValues q1).toArray n1 }), (L + 1 + 1 + 1, oO'), (L + 1 + 1, oS), (L + 1, oF)] = fixed at nfix3 nfixK mD2 mD1 mO
  have N7' : News s.heap L h7 ((D3, listOf #[] 0) :: (L + 1 + 1 + 1 + 1, oK) :: fixed) := News.sub N7 (by subst hfix; intro p hp; simp only [List.mem_cons, List.not_mem_nil, or_false] at hp ⊢; rcases hp with h | h | h | h | h | h | h <;> simp [h])
  have F7m := F7
  have hLI : L ≠ h7.objs.size := Nat.ne_of_lt F7.ns.lt
  have hnI : s.heap.get? h7.objs.size = none := next_is_new F7
  have n3I : D3 ≠ h7.objs.size := Nat.ne_of_lt (Heap.lt_size (N7'.get (by k_mem)))
  have nKI : L + 1 + 1 + 1 + 1 ≠ h7.objs.size := Nat.ne_of_lt (Heap.lt_size (N7'.get (by k_mem)))
  have nfixI : ∀ p ∈ fixed, p.1 ≠ h7.objs.size := fun p hp => Nat.ne_of_lt (Heap.lt_size (N7'.get (List.mem_cons_of_mem _ (List.mem_cons_of_mem _ hp))))
  generalize hI : h7.objs.size = I at hLI hnI n3I nKI nfixI
  refine for_walks (J := fun i h => ∃ m ys nd oK', Fr s.heap L h m ∧ News s.heap L h ((D3, listOf ys.toArray nd) :: (L + 1 + 1 + 1 + 1, oK') :: fixed) ∧ (∃ v, oK'.data = .cell v) ∧
      IntsAre ys (dueTo (sp1 first) (sp1 second) sl tl i) ∧ m (Str.ofString "s") = some (.str (tx sl) t2) ∧ m (Str.ofString "t") = some (.str (tx tl) t4) ∧ m (Str.ofString "other") = some (.ref D2) ∧ m (Str.ofString "due") = some (.ref D3))
    (W := (Walks.range (by exact hA) I 0 1 (sl.length + 1)).bound) hpos7 ?_ ?_ ?_ ?_ ?_
  · show IsRangeIter _ _ _ _ _
    subst hI
    rw [hrs]; simpa using Heap.get?_push_size _ rfl
  · refine ⟨_, [], 0, oK, Fr.push F7 _, News.up N7' (fun b o e => Heap.get?_push_of_some _ e), ⟨_, dK⟩, ?_, rfl, rfl, rfl, rfl⟩
    simpa [dueTo] using IntsAre.nil
  · rintro i h h' ⟨m, ys, nd, oK', hF, hN, hd, hi, e1, e2, e3, e4⟩ hk
    exact ⟨m, ys, nd, oK', Fr.off hF hk hLI hnI, News.off hN hk (List.forall_mem_cons.mpr ⟨n3I, List.forall_mem_cons.mpr ⟨nKI, nfixI⟩⟩), hd, hi, e1, e2, e3, e4⟩
  · rintro i v h tk8 hi ⟨_, tv, rfl⟩ ⟨m, ys, nd, oK', hF, hN, ⟨vK, hd⟩, hIn, e1, e2, e3, e4⟩ hst htk
    obtain ⟨itO, hitO⟩ : ∃ o, h.get? I = some o := ⟨_, hst⟩
    clear hst
    have hNI : News s.heap L h ((I, itO) :: (D3, listOf ys.toArray nd) :: (L + 1 + 1 + 1 + 1, oK') :: fixed) := List.forall_mem_cons.mpr ⟨⟨hitO, Ne.symm hLI, hnI⟩, hN⟩
    rw [show (0 + (i : Int) * 1) = (i : Int) by omega]
    refine wpAny_assign_Name ?_
    refine storeX_C hF hNI (c := L + 1 + 1 + 1 + 1) rfl (UpdF.tail (Ne.symm nKI) (UpdF.tail n3K (UpdF.head nfixK))) hd (fun h9 oK9 F9 N9 d9 => ?_)
    dsimp only at N9 ⊢
    have N9f : News s.heap L h9 fixed := News.sub N9 fun p hp => .tail _ (.tail _ (.tail _ hp))
    refine wpAny_execs_cons ?_
    refine wpAny_If ?_
    refine wpAny_isTrue_Compare1 ?_
    refine Subscript_ ?_
    refine nameX_C N9f (c := L + 1 + 1 + 1) rfl mO dO' ?_
    refine wpAny_Slice ?_
    refine evalPart_some_step ?_
    refine nameX_C N9 (c := L + 1 + 1 + 1 + 1) rfl (by k_mem) d9 ?_
    refine evalPart_none_step ?_
    refine evalPart_none_step ?_
    dsimp only
    have hl1 : h9.IsList D1 (strValues q1).toArray := ⟨_, N9f.get mD1, rfl, _, rfl⟩
    have hql1 : q1.length = sl.length := by simpa using congrArg List.length hm1
    have hql2 : q2.length = sl.length := by simpa using congrArg List.length hm2
    refine lst_from (items := strValues q1) (i := i) hl1 (fun Da h10 hDa hga hk10 => ?_) ?hs ?ht ?hz
    case hs => rfl
    case ht => intro _; rfl
    case hz => simp [strValues]; omega
    try dsimp only
    refine Subscript_ ?_
    refine nameX_L (Fr.up F9 hk10) e3 ?_
    refine wpAny_Slice ?_
    refine evalPart_some_step ?_
    refine nameX_C (News.up N9 hk10) (c := L + 1 + 1 + 1 + 1) rfl (by k_mem) d9 ?_
    refine evalPart_none_step ?_
    refine evalPart_none_step ?_
    dsimp only
    have hl2 : h10.IsList D2 (strValues q2).toArray := ⟨_, hk10 _ _ (N9f.get mD2), rfl, _, rfl⟩
    refine lst_from (items := strValues q2) (i := i) hl2 (fun Db h11 hDb hgb hk11 => ?_) ?hs ?ht ?hz
    case hs => rfl
    case ht => intro _; rfl
    case hz => simp [strValues]; omega
    try dsimp only
    refine eq_texts (q1 := q1.drop i) (q2 := q2.drop i) ⟨_, hk11 _ _ hga, rfl, 0, by simp [strValues]⟩ ⟨_, hgb, rfl, 0, by simp [strValues]⟩ (by simp [hql1, hql2]) (by simp only [Around.deeper_units]; omega) ?_
    refine wpAny_truthy_bool ?_
    have hcond : ((q1.drop i).map (·.1) = (q2.drop i).map (·.1)) ↔ ((sl.drop i).map (sp1 first) = (sl.drop i).map (sp1 second)) := by
      rw [List.map_drop, List.map_drop, hm1, hm2, ← List.map_drop, ← List.map_drop]
      have e : ∀ g : Nat → List Nat, (sl.drop i).map (fun c => tx (g c)) = ((sl.drop i).map g).map tx := fun g => by rw [List.map_map]; rfl
      rw [e, e]
      exact List.map_inj_right (fun a b h => by simpa [tx] using h)
    have hk12 : ∀ b o, h9.get? b = some o → h11.get? b = some o := fun b o e => hk11 _ _ (hk10 _ _ e)
    have F11 := Fr.up F9 hk12
    have N11 := News.up N9 hk12
    by_cases hc : (sl.drop i).map (sp1 first) = (sl.drop i).map (sp1 second)
    · rw [decide_eq_true (hcond.mpr hc)]
      refine wpAny_execs_cons ?_
      refine wpAny_Assign_Name ?_
      refine List_ ?_
      refine spliced_more ?_
      refine Calls.Constant_str ?_
      refine spliced_none ?_
      dsimp only
      refine newList_K F11 N11 (fun H h12 F12 N12 hH => ?_) (by rw [sizeLine_eq]; exact (by decide : 1 ≤ 16777216))
      have hHI := hH _ (.head _)
      have hH3 := hH _ (.tail _ (.head _))
      have hHK := hH _ (.tail _ (.tail _ (.head _)))
      clear hH
      refine storeX_L F12 N12 (fun h13 F13 N13 => ?_)
      dsimp only
      have hl0 : (Str.ofString "") = tx [] := by decide +kernel
      rw [hl0] at N13
      refine wpAny_execs_cons ?_
      refine wpAny_mono (Q := fun f s' => f = .next ∧ ∃ H h tk m' qh nH, s' = { s with heap := h, toks := tk } ∧ 0 < tk ∧ Fr s.heap L h m' ∧
          News s.heap L h ((H, listOf (strValues qh).toArray nH) :: (I, itO) :: (D3, listOf ys.toArray nd) :: (L + 1 + 1 + 1 + 1, oK9) :: fixed) ∧ H ≠ D3 ∧ H ≠ L + 1 + 1 + 1 + 1 ∧ qh.map (·.1) = (hds (sp1 first) sl i).map tx ∧
          m' (Str.ofString "s") = some (.str (tx sl) t2) ∧ m' (Str.ofString "t") = some (.str (tx tl) t4) ∧ m' (Str.ofString "other") = some (.ref D2) ∧ m' (Str.ofString "due") = some (.ref D3) ∧ m' (Str.ofString "heads") = some (.ref H))
        (E := fun _ _ => False) ?ifp ?rest (fun _ _ e => e.elim)
      case ifp =>
        refine wpAny_If ?_
        refine wpAny_isTrue_Compare1 ?_
        refine nameX_C N13 (c := L + 1 + 1 + 1 + 1) rfl (by k_mem) d9 ?_
        refine wpAny_Constant_int ?_
        refine P.gt_int ?_
        refine wpAny_truthy_bool ?_
        by_cases hi0 : i = 0
        · subst hi0
          refine wpAny_execs_nil ?_
          refine ⟨rfl, H, h13, _, _, [(tx [], _)], 0, rfl, ?_, F13, N13, Nat.ne_of_gt hH3, Nat.ne_of_gt hHK, by simp [hds], e1, e2, e3, e4, rfl⟩
          dsimp only; omega
        · rw [decide_eq_true (show (i : Int) > 0 by omega)]
          have N13f : News s.heap L h13 fixed := News.sub N13 fun p hp => .tail _ (.tail _ (.tail _ (.tail _ hp)))
          obtain ⟨u0, hx0⟩ := spelled_at (f := sp1 first) hm1 (show 0 < i by omega) (show i ≤ sl.length by omega)
          generalize hR : sp1 first (sl.getD (i - 1) 0) = R at hx0
          have hR6 : R.length ≤ 6 := by rw [← hR]; exact len_sp1 _ _
          refine wpAny_execs_cons ?_
          refine wpAny_Assign_Name ?_
          refine wpAny_BinOp ?_
          refine nameX_L F13 rfl ?_
          refine evComp (fun _ => true) (fun v y => ∃ (j : Nat) (u u' : Tok), v = Value.int (1 + (j : Int)) u ∧ y = Value.str (tx (R.drop (1 + j))) u') (cl := [(Str.ofString "one", L + 1 + 1 + 1), (Str.ofString "k", L + 1 + 1 + 1 + 1)]) rfl (by decide) rfl (by decide) rfl hA (by dsimp only; omega) ?_
          refine Call_ ?_
          refine bname (Fr.bs F13 B) (by k_is) (by boot_by_name) (by decide) ?_ rfl rfl rfl rfl (by decide)
          refine PyProof.Rows.callWith_type1 ?_
          refine spliced_more ?_
          refine wpAny_Constant_int ?_
          refine spliced_more ?_
          refine Call_ ?_
          refine bname (Fr.bs F13 B) (by k_is) (by boot_by_name) (by decide) ?_ rfl rfl rfl rfl (by decide)
          refine PyProof.Rows.callWith_builtin1 ?_
          refine spliced_more ?_
          refine Subscript_ ?_
          refine nameX_C N13f (c := L + 1 + 1 + 1) rfl mO dO' ?_
          refine wpAny_BinOp ?_
          refine nameX_C N13 (c := L + 1 + 1 + 1 + 1) rfl (by k_mem) d9 ?_
          refine wpAny_Constant_int ?_
          refine sub_int ?_
          dsimp only
          refine item_litK ⟨_, N13f.get mD1, rfl, _, rfl⟩ (by omega) (by omega) hx0 ?_
          refine spliced_none ?_
          refine PyProof.Rows.len_str (by rw [tx_len]; omega) ?_
          dsimp only
          refine spliced_none ?_
          refine wpAny_with_toks (n := 1) (by dsimp only; omega) ?_
          refine range2_rows F13 N13 (fun h15 tk15 r1 r2 r3 hr F15 N15 hk15 hpos15 => ?_)
          dsimp only at hr ⊢
          rw [tx_len] at hr
          have hN15f : News s.heap L h15 fixed := News.up N13f hk15
          have hrs2 : Builtin.Range.rangeSize 1 (R.length : Int) 1 = ((R.length - 1 : Nat) : Int) := by rw [rangeSize_one]; split <;> omega
          refine Or.inr (Or.inl ⟨_, 1, _, _, _, _, R.length - 1, rfl, hr, rng_small _ _ (by omega) (by omega) (by omega), hrs2, by rw [sizeLine_eq]; omega, ⟨?_, ?_⟩, ?_⟩)
          · intro C j v s₃ m₃ E' hv hns hm hk ht' hC
            exact wpAny_tests_nil ⟨rfl, _, _, rfl, fun _ _ e => e⟩
          · intro C j v s₃ m₃ E' hv _ hns hm hk ht' hC
            obtain ⟨hj, uv, rfl⟩ := hv
            refine Subscript_ ?_
            refine Subscript_ ?_
            refine wpAny_Name (wpAny_loadName_cell rfl rfl (c := L + 1 + 1 + 1) rfl ⟨oO', hk _ _ (hN15f.get mO), dO'⟩ ?_) (by decide)
            refine wpAny_BinOp ?_
            refine wpAny_Name (wpAny_loadName_cell rfl rfl (c := L + 1 + 1 + 1 + 1) rfl ⟨oK9, hk _ _ (N15.get (by k_mem)), d9⟩ ?_) (by decide)
            refine wpAny_Constant_int ?_
            refine sub_int ?_
            dsimp only
            refine item_litK ⟨_, hk _ _ (hN15f.get mD1), rfl, _, rfl⟩ (by omega) (by omega) hx0 ?_
            refine wpAny_Slice ?_
            refine evalPart_some_step ?_
            refine wpAny_Name (wpAny_loadName_local rfl rfl hns hm ?_) (by decide)
            refine evalPart_none_step ?_
            refine evalPart_none_step ?_
            dsimp only
            rw [show (1 + (j : Int)) = ((1 + j : Nat) : Int) by push_cast; rfl]
            refine txt_from (i := 1 + j) (fun h' t' k hk' => ?_) ?hs ?ht (by omega)
            case hs => rfl
            case ht => intro _; rfl
            refine ⟨⟨j, uv, t', by push_cast; rfl, rfl⟩, h', k, rfl, hk'⟩
          · intro D' h16 tk16 ys' vs' hD' hpl' hlen' hP' hF' hk16 hpos16
            rw [filter_all] at hF'
            obtain ⟨q', hq', hm'⟩ := range_paired (g := fun j => tx (R.drop (1 + j))) (off := 0) hlen' (fun j v e => by obtain ⟨_, t', h⟩ := hP' j v e; exact ⟨t', by simpa using h⟩) hF'
            obtain rfl : ys' = (strValues q').toArray := by rw [← hq']
            obtain ⟨n', hg'⟩ := hpl'
            have hkk : ∀ b o, h13.get? b = some o → h16.get? b = some o := fun b o e => hk16 _ _ (hk15 _ _ e)
            have F16 := Fr.up F13 hkk
            have N16 := News.up N13 hkk
            have hq'l : q'.length = R.length - 1 := by simpa using congrArg List.length hm'
            refine add_arrays F16 N16 ⟨_, N16.get (.head _), rfl, _, rfl⟩ ⟨_, hg', rfl, _, rfl⟩ (fun h17 F17 N17 => ?_) (by simp [strValues]; rw [sizeLine_eq]; omega)
            dsimp only at N17 ⊢
            refine storeX_L F17 N17 (fun h18 F18 N18 => ?_)
            dsimp only
            refine wpAny_execs_nil ?_
            refine ⟨rfl, h16.objs.size, h18, _, _, (tx [], tk8) :: q', 0, rfl, ?_, F18, News.sub N18 ?_, Nat.ne_of_gt (Heap.lt_size (N16.get (.tail _ (.tail _ (.head _))))), Nat.ne_of_gt (Heap.lt_size (N16.get (.tail _ (.tail _ (.tail _ (.head _)))))), ?_, e1, e2, e3, e4, rfl⟩
            · omega
            · intro p hp
              rcases List.mem_cons.mp hp with rfl | hp
              · exact .head _
              · exact .tail _ (.tail _ hp)
            · rw [hds, if_neg hi0, hR, List.map_cons, List.map_cons, hm', List.map_map, ← List.range_eq_range']
              rfl
      case rest =>
        rintro f s' ⟨rfl, H, h14, tk14, m', qh, nH, rfl, htk14, F14, N14, hH3, hHK, hqh, f1, f2, f3, f4, f5⟩
        dsimp only
        clear F13 N13 F12 N12 hHI
        have hqhl : qh.length = (hds (sp1 first) sl i).length := by simpa using congrArg List.length hqh
        have hqh7 : qh.length ≤ 7 := by
          rw [hqhl, hds]
          split
          · simp
          · have := len_sp1 first (sl.getD (i - 1) 0)
            simp only [List.length_cons, List.length_map, List.length_range]; omega
        refine wpAny_execs_cons ?_
        refine wpAny_For ?_
        refine nameX_L F14 f5 ?_
        refine wpAny_pyIter_list ⟨_, N14.get (.head _), rfl, _, rfl⟩ ?_
        dsimp only
        have hLI2 : L ≠ h14.objs.size := Nat.ne_of_lt F14.ns.lt
        have hnI2 : s.heap.get? h14.objs.size = none := next_is_new F14
        have nHI2 : H ≠ h14.objs.size := Nat.ne_of_lt (Heap.lt_size (N14.get (.head _)))
        have nII2 : I ≠ h14.objs.size := Nat.ne_of_lt (Heap.lt_size (N14.get (.tail _ (.head _))))
        have n3I2 : D3 ≠ h14.objs.size := Nat.ne_of_lt (Heap.lt_size (N14.get (.tail _ (.tail _ (.head _)))))
        have nKI2 : L + 1 + 1 + 1 + 1 ≠ h14.objs.size := Nat.ne_of_lt (Heap.lt_size (N14.get (.tail _ (.tail _ (.tail _ (.head _))))))
        have nfI2 : ∀ p ∈ fixed, p.1 ≠ h14.objs.size := fun p hp => Nat.ne_of_lt (Heap.lt_size (N14.get (.tail _ (.tail _ (.tail _ (.tail _ hp))))))
        have F14p := Fr.push F14 { cls := .type "list_iterator", data := .fields #[.ref H, .int 0 0] }
        have N14p := News.up N14 (h' := h14.push { cls := .type "list_iterator", data := .fields #[.ref H, .int 0 0] }) (fun b o e => Heap.get?_push_of_some _ e)
        have hst0 : (h14.push { cls := .type "list_iterator", data := .fields #[.ref H, .int 0 0] }).IsListIter h14.objs.size H 0 := ⟨_, Heap.get?_push_size _ rfl, rfl, rfl⟩
        generalize h14.push { cls := .type "list_iterator", data := .fields #[.ref H, .int 0 0] } = h14' at F14p N14p hst0 ⊢
        generalize h14.objs.size = I2 at hLI2 hnI2 nHI2 nII2 n3I2 nKI2 nfI2 hst0 ⊢
        clear F14 N14
        refine for_walks (J := fun j h => ∃ m ys' nd', Fr s.heap L h m ∧ News s.heap L h ((H, listOf (strValues qh).toArray nH) :: (I, itO) :: (D3, listOf ys'.toArray nd') :: (L + 1 + 1 + 1 + 1, oK9) :: fixed) ∧
            IntsAre ys' (dueTo (sp1 first) (sp1 second) sl tl i ++ (((hds (sp1 first) sl i).take j).filter (hit sl tl i)).map (val (sp1 first) sl i)) ∧
            m (Str.ofString "s") = some (.str (tx sl) t2) ∧ m (Str.ofString "t") = some (.str (tx tl) t4) ∧ m (Str.ofString "other") = some (.ref D2) ∧ m (Str.ofString "due") = some (.ref D3))
          (W := Walks.list (by exact hA) I2 H nHI2 (strValues qh).toArray) htk14 ⟨hst0, ⟨_, N14p.get (.head _), rfl, _, rfl⟩⟩ ?_ ?_ ?_ ?_
        · exact ⟨m', ys, nd, F14p, N14p, by simpa using hIn, f1, f2, f3, f4⟩
        · rintro j h h' ⟨m, ys', nd', hF, hN, hi', e1, e2, e3, e4⟩ hk
          exact ⟨m, ys', nd', Fr.off hF hk hLI2 hnI2, News.off hN hk (List.forall_mem_cons.mpr ⟨nHI2, List.forall_mem_cons.mpr ⟨nII2, List.forall_mem_cons.mpr ⟨n3I2, List.forall_mem_cons.mpr ⟨nKI2, nfI2⟩⟩⟩⟩), hi', e1, e2, e3, e4⟩
        · rintro j v h20 tk20 hj hPv ⟨m20, ys', nd', F20, N20, hi', g1, g2, g3, g4⟩ ⟨⟨it2, hit2, _⟩, _⟩ htk20
          have hNI2 : News s.heap L h20 ((I2, it2) :: (H, listOf (strValues qh).toArray nH) :: (I, itO) :: (D3, listOf ys'.toArray nd') :: (L + 1 + 1 + 1 + 1, oK9) :: fixed) := List.forall_mem_cons.mpr ⟨⟨hit2, Ne.symm hLI2, hnI2⟩, N20⟩
          obtain ⟨head, uh, rfl, hhead⟩ := text_at hqh hPv
          have hhl : head.length ≤ 6 := head_len (fun c => len_sp1 first c) (List.mem_of_getElem? hhead)
          clear N20
          refine wpAny_assign_Name ?_
          refine storeX_L F20 hNI2 (fun h21 F21 N21 => ?_)
          dsimp only
          refine wpAny_execs_cons ?_
          refine wpAny_Assign_Name ?_
          refine wpAny_BinOp ?_
          refine nameX_L F21 rfl ?_
          refine Subscript_ ?_
          refine nameX_L F21 g1 ?_
          refine wpAny_Slice ?_
          refine evalPart_some_step ?_
          refine nameX_C N21 (c := L + 1 + 1 + 1 + 1) rfl (by k_mem) d9 ?_
          refine evalPart_none_step ?_
          refine evalPart_none_step ?_
          dsimp only
          refine wpAny_with_toks (n := 1) (by dsimp only; omega) ?_
          refine txt_from (i := i) (fun h22 t22 k22 hk22 hpos22 => ?_) ?hs ?ht (by omega)
          case hs => rfl
          case ht => intro _; rfl
          dsimp only at hpos22 ⊢
          refine wpAny_with_toks (n := 1) hpos22 ?_
          refine PyProof.Rows.add_str (fun t23 k23 hpos23 => ?_) (by rw [tx_len, tx_len, sizeLine_eq, List.length_drop]; omega)
          dsimp only at hpos23 ⊢
          rw [tx_app]
          refine storeX_L (Fr.up F21 hk22) (News.up N21 hk22) (fun h23 F23 N23 => ?_)
          dsimp only
          generalize hbg : head ++ sl.drop i = bg at F23
          have hbgl : bg.length ≤ 106 := by rw [← hbg, List.length_append, List.length_drop]; omega
          refine wpAny_execs_cons ?_
          refine wpAny_If ?_
          refine isTrue_and ?_
          refine wpAny_isTrue_Compare1 ?_
          refine nameX_L F23 rfl ?_
          refine Calls.Constant_str ?_
          refine PyProof.Rows.ne_str ?_
          refine wpAny_truthy_bool ?_
          have htake : ((hds (sp1 first) sl i).take (j + 1)).filter (hit sl tl i) = ((hds (sp1 first) sl i).take j).filter (hit sl tl i) ++ (if hit sl tl i head = true then [head] else []) := take_succ_filter _ _ _ _ hhead
          have hfp : ∀ {h' : Heap} {ys'' : List Value} {nd'' : Nat}, News s.heap L h' ((I2, it2) :: (H, listOf (strValues qh).toArray nH) :: (I, itO) :: (D3, listOf ys''.toArray nd'') :: (L + 1 + 1 + 1 + 1, oK9) :: fixed) →
              ∀ b ∈ [I2, H], ∀ o, h20.get? b = some o → h'.get? b = some o := by
            intro h' ys'' nd'' N b hb o e
            rcases List.mem_cons.mp hb with rfl | hb
            · rw [hit2] at e; cases e; exact N.get (.head _)
            · rw [List.mem_singleton.mp hb] at e ⊢
              rw [hNI2.get (.tail _ (.head _))] at e; cases e; exact N.get (.tail _ (.head _))
          by_cases hb0 : bg = []
          · rw [show (tx bg != Str.ofString "") = false by rw [hb0, hl0]; simp]
            refine wpAny_execs_nil ?_
            refine wpAny_execs_nil ?_
            have hno : hit sl tl i head = false := by rw [hit, hbg, hb0]; simp
            rw [hno] at htake
            refine ⟨Or.inl rfl, _, _, rfl, ⟨_, ys', nd', F23, News.sub N23 fun p hp => .tail _ hp, ?_, g1, g2, g3, g4⟩, hfp N23⟩
            rw [htake]; simpa using hi'
          · rw [show (tx bg != Str.ofString "") = true by rw [hl0]; simpa [tx] using hb0]
            refine isTrue_and ?_
            refine wpAny_isTrue_Compare1 ?_
            refine Subscript_ ?_
            refine nameX_L F23 g2 ?_
            refine wpAny_Slice ?_
            refine evalPart_none_step ?_
            refine evalPart_some_step ?_
            refine Call_ ?_
            refine bname (Fr.bs F23 B) (by k_is) (by boot_by_name) (by decide) ?_ rfl rfl rfl rfl (by decide)
            refine PyProof.Rows.callWith_builtin1 ?_
            refine spliced_more ?_
            refine nameX_L F23 rfl ?_
            refine spliced_none ?_
            refine PyProof.Rows.len_str (by rw [tx_len]; omega) ?_
            dsimp only
            refine evalPart_none_step ?_
            dsimp only
            rw [tx_len]
            refine wpAny_with_toks (n := 1) (by dsimp only; omega) ?_
            refine txt_to (i := bg.length) (fun h24 t24 k24 hk24 hpos24 => ?_) ?hs ?ht (by omega)
            case hs => rfl
            case ht => intro _; rfl
            dsimp only at hpos24 ⊢
            have F24 := Fr.up F23 hk24
            have N24 := News.up N23 hk24
            refine nameX_L F24 rfl ?_
            refine PyProof.Rows.eq_str ?_
            refine wpAny_truthy_bool ?_
            by_cases hh : tl.take bg.length = bg
            · rw [show (tx (tl.take bg.length) == tx bg) = true by rw [hh]; simp]
              have hyes : hit sl tl i head = true := by rw [hit, hbg]; simp [hb0, hh]
              rw [hyes] at htake
              refine isTrue_and_nil ?_
              have N24f : News s.heap L h24 fixed := News.sub N24 fun p hp => .tail _ (.tail _ (.tail _ (.tail _ (.tail _ hp))))
              refine wpAny_execs_cons ?_
              refine wpAny_Expr_any ?_
              refine MethodCall_ ?_
              refine nameX_L F24 g4 ?_
              refine getMethod_append_N N24 (.tail _ (.tail _ (.tail _ (.head _)))) ?_
              refine callWith_method1 ?_
              refine spliced_more ?_
              refine wpAny_BinOp ?_
              refine Call_ ?_
              refine bname (Fr.bs F24 B) (by k_is) (by boot_by_name) (by decide) ?_ rfl rfl rfl rfl (by decide)
              refine PyProof.Rows.callWith_builtin1 ?_
              refine spliced_more ?_
              refine nameX_L F24 rfl ?_
              refine spliced_none ?_
              refine PyProof.Rows.len_str (by rw [tx_len]; omega) ?_
              dsimp only
              refine Call_ ?_
              refine bname (Fr.bs F24 B) (by k_is) (by boot_by_name) (by decide) ?_ rfl rfl rfl rfl (by decide)
              refine PyProof.Rows.callWith_builtin1 ?_
              refine spliced_more ?_
              refine MethodCall_ ?_
              refine Calls.Constant_str ?_
              refine GM.join ?_
              refine callWith_method1 ?_
              refine spliced_more ?_
              refine Subscript_ ?_
              refine nameX_C N24f (c := L + 1 + 1 + 1) rfl mO dO' ?_
              refine wpAny_Slice ?_
              refine evalPart_some_step ?_
              refine nameX_C N24 (c := L + 1 + 1 + 1 + 1) rfl (by k_mem) d9 ?_
              refine evalPart_none_step ?_
              refine evalPart_none_step ?_
              dsimp only
              refine lst_from (items := strValues q1) (i := i) ⟨_, N24f.get mD1, rfl, _, rfl⟩ (fun Dj h25 hDj hgj hk25 => ?_) ?hs ?ht ?hz
              case hs => rfl
              case ht => intro _; rfl
              case hz => simp [strValues]; omega
              refine spliced_none ?_
              try dsimp only
              have hjt : (q1.drop i).map (·.1) = (sl.drop i).map fun c => tx (sp1 first c) := by rw [List.map_drop, hm1, ← List.map_drop]
              have hj6 : ∀ y ∈ (q1.drop i).map (·.1), y.length ≤ 6 := by
                rw [hjt]
                intro y hy
                obtain ⟨c, _, rfl⟩ := List.mem_map.mp hy
                rw [tx_len]; exact len_sp1 _ _
              have hjs := StrLaws.sumLen_le _ hj6
              have hjl : ((q1.drop i).map (·.1)).length ≤ 100 := by rw [List.length_map, List.length_drop]; omega
              refine wpAny_with_toks (n := 1) (by dsimp only; omega) ?_
              refine SC.join (l := q1.drop i) ⟨_, hgj, rfl, 0, by simp [strValues]⟩ rfl (joinOk_of (by rw [hl0, tx_len]; simp only [List.length_nil]; omega)) (fun t26 k26 hpos26 => ?_)
              dsimp only at hpos26 ⊢
              refine spliced_none ?_
              have hjoin : (Txt.join (Str.ofString "") ((q1.drop i).map (·.1))).length = ((sl.drop i).flatMap (sp1 first)).length := by
                rw [hjt, hl0]; exact join_len _ _
              have hfl : ((sl.drop i).flatMap (sp1 first)).length ≤ 600 := by
                have := length_flatMap_le (len_sp1 first) (sl.drop i)
                rw [List.length_drop] at this; omega
              refine PyProof.Rows.len_str (by rw [hjoin]; omega) ?_
              dsimp only
              refine add_int ?_
              refine spliced_none ?_
              dsimp only
              have F25 := Fr.up F24 hk25
              have N25 := News.up N24 hk25
              refine append_K F25 N25 (Upd.tail (Ne.symm n3I2) (Upd.tail hH3 (Upd.tail (Ne.symm n3I) (Upd.head (List.forall_mem_cons.mpr ⟨Ne.symm n3K, nfix3⟩))))) (fun h27 F27 N27 => ?_) ?hsz
              case hsz =>
                have hlen := hi'.length
                have : ys'.length < 1000 := by
                  rw [hlen, List.length_append, List.length_map]
                  have hA1 := List.length_filter_le (hit sl tl i) ((hds (sp1 first) sl i).take j)
                  have hA2 : ((hds (sp1 first) sl i).take j).length ≤ 7 := by rw [List.length_take]; omega
                  have hA3 : (dueTo (sp1 first) (sp1 second) sl tl i).length ≤ (dueTo (sp1 first) (sp1 second) sl tl (sl.length + 1)).length := dueTo_mono (by omega)
                  omega
                simp only [List.size_toArray]; rw [sizeLine_eq]; omega
              refine wpAny_execs_nil ?_
              refine wpAny_execs_nil ?_
              rw [List.push_toArray] at N27
              refine ⟨Or.inl rfl, _, _, rfl, ⟨_, ys' ++ [_], nd' + 1, F27, News.sub N27 fun p hp => .tail _ hp, ?_, g1, g2, g3, g4⟩, hfp N27⟩
              rw [htake, if_pos rfl, List.map_append, ← List.append_assoc]
              refine IntsAre.append hi' ?_
              have hv : (((tx head).length : Int) + ((Txt.join (Str.ofString "") ((q1.drop i).map (·.1))).length : Int)) = val (sp1 first) sl i head := by
                rw [hjoin, tx_len, val]; push_cast; rfl
              rw [hv]
              exact .cons _ _ .nil
            · rw [show (tx (tl.take bg.length) == tx bg) = false by simpa [tx] using hh]
              refine wpAny_execs_nil ?_
              refine wpAny_execs_nil ?_
              have hno : hit sl tl i head = false := by rw [hit, hbg]; simp [hh]
              rw [hno] at htake
              refine ⟨Or.inl rfl, _, _, rfl, ⟨_, ys', nd', F24, News.sub N24 fun p hp => .tail _ hp, ?_, g1, g2, g3, g4⟩, hfp N24⟩
              rw [htake]; simpa using hi'
        · rintro h20 tk20 ⟨m20, ys', nd', F20, N20, hi', g1, g2, g3, g4⟩ htk20
          refine wpAny_execs_nil ?_
          refine wpAny_execs_nil ?_
          refine ⟨Or.inl rfl, _, _, rfl, ⟨m20, ys', nd', oK9, F20, News.sub N20 fun p hp => .tail _ (.tail _ hp), ⟨_, d9⟩, ?_, g1, g2, g3, g4⟩, ?_⟩
          · rw [dueTo_succ, dueAt, if_pos hc]
            have e : (strValues qh).toArray.size = (hds (sp1 first) sl i).length := by simp [strValues, hqhl]
            rw [e, List.take_length] at hi'
            exact hi'
          · intro b hb o e
            rw [List.mem_singleton.mp hb] at e ⊢
            rw [hitO] at e
            cases e
            exact N20.get (.tail _ (.head _))
    · rw [decide_eq_false (fun h => hc (hcond.mp h))]
      refine wpAny_execs_nil ?_
      refine wpAny_execs_nil ?_
      refine ⟨Or.inl rfl, _, _, rfl, ⟨m, ys, nd, oK9, F11, News.sub N11 fun p hp => .tail _ hp, ⟨_, d9⟩, ?_, e1, e2, e3, e4⟩, ?_⟩
      · rw [dueTo_succ, dueAt, if_neg hc, List.append_nil]; exact hIn
      · intro b hb o e
        rw [List.mem_singleton.mp hb] at e ⊢
        rw [hitO] at e
        cases e
        exact N11.get (.head _)
  · rintro h tk8 ⟨m, ys, nd, oK', hF, hN, hd, hIn, e1, e2, e3, e4⟩ htk
    refine wpAny_execs_cons ?_
    refine wpAny_Return_some ?_
    refine Call_ ?_
    refine bname (Fr.bs hF B) (by k_is) (by boot_by_name) (by decide) ?_ rfl rfl rfl rfl (by decide)
    refine PyProof.Rows.callWith_builtin1 ?_
    refine spliced_more ?_
    refine nameX_L hF e4 ?_
    refine spliced_none ?_
    refine sorted_N hF hN ⟨_, hN.get (.head _), rfl, _, rfl⟩ hIn (by rw [hIn.length]; exact h64) (fun h' vs' ns' e' F' N' hI' hp' hs' => ?_)
    exact ⟨⟨_, _, rfl, F'.keep⟩, _, vs', ns', rfl, ⟨_, N'.get (.head _), rfl, _, rfl⟩, hI', hp', hs'⟩
end Mine
end
section
namespace Mine

/-- how an escape spells: bare, or a reference -/
structure Spell (f : Nat → List Nat) : Prop where
  bare : ∀ c, (f c = [c] ∧ c ≠ 38) ∨ ∃ r, f c = 38 :: (r ++ [59]) ∧ 59 ∉ r
  nodup : ∀ c, ((f c).drop 1).Nodup
/-- two escapes beside one another -/
structure Pair2 (f g : Nat → List Nat) : Prop where
  sf : Spell f
  sg : Spell g
  inj : ∀ c d r, f c = 38 :: r → g d = 38 :: r → c = d
  tail : ∀ c d, d ∈ (f c).drop 1 → g d = [d]

theorem cut59 {r r' x y : List Nat} (h : 59 ∉ r) (h' : 59 ∉ r') (hp : (r ++ 59 :: x) <+: (r' ++ 59 :: y)) : r = r' ∧ x <+: y := by
  induction r generalizing r' with
  | nil =>
    cases r' with
    | nil => exact ⟨rfl, by simpa using hp⟩
    | cons a r' =>
      rw [List.nil_append, List.cons_append, List.cons_prefix_cons] at hp
      exact absurd (hp.1 ▸ List.mem_cons_self ..) h'
  | cons a r ih =>
    cases r' with
    | nil =>
      rw [List.nil_append, List.cons_append, List.cons_prefix_cons] at hp
      exact absurd (hp.1 ▸ List.mem_cons_self ..) h
    | cons b r' =>
      rw [List.cons_append, List.cons_append, List.cons_prefix_cons] at hp
      obtain ⟨e, hx⟩ := ih (fun m => h (List.mem_cons_of_mem _ m)) (fun m => h' (List.mem_cons_of_mem _ m)) hp.2
      exact ⟨by rw [hp.1, e], hx⟩

theorem pre_iff {f g : Nat → List Nat} (H : Pair2 f g) : ∀ (u v : List Nat), (u.flatMap f <+: v.flatMap g) ↔ (u <+: v ∧ u.map f = u.map g) := by
  intro u
  induction u with
  | nil => intro v; simp
  | cons c u ih =>
    intro v
    constructor
    · intro hp
      rw [List.flatMap_cons] at hp
      have hne : f c ≠ [] := by
        rcases H.sf.bare c with ⟨e, _⟩ | ⟨r, e, _⟩ <;> rw [e] <;> simp
      cases v with
      | nil =>
        rw [List.flatMap_nil, List.prefix_nil, List.append_eq_nil_iff] at hp
        exact absurd hp.1 hne
      | cons d v =>
        rw [List.flatMap_cons] at hp
        rcases H.sf.bare c with ⟨e, h38⟩ | ⟨r, e, h59⟩
        · rcases H.sg.bare d with ⟨e', _⟩ | ⟨r', e', _⟩
          · rw [e, e'] at hp
            simp only [List.cons_append, List.nil_append, List.cons_prefix_cons] at hp
            obtain ⟨rfl, hp⟩ := hp
            obtain ⟨h1, h2⟩ := (ih v).mp hp
            exact ⟨by rw [List.cons_prefix_cons]; exact ⟨rfl, h1⟩, by rw [List.map_cons, List.map_cons, h2, e, e']⟩
          · rw [e, e'] at hp
            simp only [List.cons_append, List.nil_append, List.cons_prefix_cons] at hp
            exact absurd hp.1 h38
        · rcases H.sg.bare d with ⟨e', h38'⟩ | ⟨r', e', h59'⟩
          · rw [e, e'] at hp
            simp only [List.cons_append, List.nil_append, List.cons_prefix_cons] at hp
            exact absurd hp.1.symm h38'
          · rw [e, e'] at hp
            simp only [List.cons_append, List.append_assoc, List.nil_append, List.cons_prefix_cons, true_and] at hp
            obtain ⟨er, hp2⟩ := cut59 h59 h59' hp
            subst er
            obtain rfl := H.inj c d _ e e'
            obtain ⟨h1, h2⟩ := (ih v).mp hp2
            exact ⟨by rw [List.cons_prefix_cons]; exact ⟨rfl, h1⟩, by rw [List.map_cons, List.map_cons, h2, e, e']⟩
    · rintro ⟨⟨w, rfl⟩, hm⟩
      have : (c :: u).flatMap f = (c :: u).flatMap g := by
        rw [List.flatMap_def, List.flatMap_def, hm]
      rw [List.flatMap_append, this]
      exact List.prefix_append _ _

theorem flatMap_bare {g : Nat → List Nat} : ∀ {h : List Nat}, (∀ d ∈ h, g d = [d]) → h.flatMap g = h
  | [], _ => rfl
  | d :: h, H => by
    rw [List.flatMap_cons, H d (List.mem_cons_self ..), flatMap_bare fun e he => H e (List.mem_cons_of_mem _ he)]; rfl

/-- a head of signs that the second escape leaves bare, in front -/
theorem pre_head {f g : Nat → List Nat} (H : Pair2 f g) (u : List Nat) : ∀ (h v : List Nat), (∀ d ∈ h, g d = [d] ∧ d ≠ 38) → ((h ++ u.flatMap f <+: v.flatMap g) ↔ (h ++ u <+: v ∧ u.map f = u.map g))
  | [], v, _ => by simpa using pre_iff H u v
  | d :: h, v, hd => by
    have ih := fun v => pre_head H u h v fun e he => hd e (List.mem_cons_of_mem _ he)
    have h1 := hd d (List.mem_cons_self ..)
    cases v with
    | nil => simp
    | cons e v =>
      rw [List.flatMap_cons, List.cons_append, List.cons_append, List.cons_prefix_cons, and_assoc, ← ih v]
      rcases H.sg.bare e with ⟨e', h38⟩ | ⟨r, e', h59⟩
      · rw [e', List.cons_append, List.nil_append, List.cons_prefix_cons]
      · rw [e', List.cons_append, List.cons_prefix_cons]
        constructor
        · rintro ⟨rfl, _⟩; exact absurd rfl h1.2
        · rintro ⟨rfl, _⟩
          rw [h1.1] at e'
          injection e' with e1 e2
          exact absurd e1 h1.2

theorem prefix_take {x y : List Nat} : x <+: y ↔ y.take x.length = x := by
  constructor
  · rintro ⟨w, rfl⟩; simp
  · intro h; rw [← h]; exact List.take_prefix _ _

theorem not38 {f g : Nat → List Nat} (H : Pair2 f g) {c d : Nat} (hd : d ∈ (f c).drop 1) : g d = [d] ∧ d ≠ 38 := by
  have h := H.tail c d hd
  refine ⟨h, ?_⟩
  rintro rfl
  rcases H.sg.bare 38 with ⟨_, h1⟩ | ⟨r, e, _⟩
  · exact h1 rfl
  · rw [h] at e; simp at e

theorem hds_bare {f g : Nat → List Nat} (H : Pair2 f g) {s : List Nat} {k : Nat} {h : List Nat} (hh : h ∈ hds f s k) : ∀ d ∈ h, g d = [d] ∧ d ≠ 38 := by
  intro d hd
  unfold hds at hh
  rcases List.mem_cons.mp hh with rfl | hh
  · cases hd
  · split at hh
    · cases hh
    · obtain ⟨n, _, rfl⟩ := List.mem_map.mp hh
      rw [← List.drop_drop] at hd
      exact not38 H (List.mem_of_mem_drop hd)

/-- what stands behind a place of what is written -/
theorem drop_val {f : Nat → List Nat} {s : List Nat} {k : Nat} (hk : k ≤ s.length) {h : List Nat} (hh : h ∈ hds f s k) :
    (s.flatMap f).drop ((s.flatMap f).length - (h.length + ((s.drop k).flatMap f).length)) = h ++ (s.drop k).flatMap f ∧ h.length + ((s.drop k).flatMap f).length ≤ (s.flatMap f).length := by
  have key : ∀ p, s.flatMap f = p ++ (h ++ (s.drop k).flatMap f) → (s.flatMap f).drop ((s.flatMap f).length - (h.length + ((s.drop k).flatMap f).length)) = h ++ (s.drop k).flatMap f ∧ h.length + ((s.drop k).flatMap f).length ≤ (s.flatMap f).length := by
    intro p e
    have hl : (s.flatMap f).length = p.length + (h.length + ((s.drop k).flatMap f).length) := by rw [e]; simp
    refine ⟨?_, by omega⟩
    rw [hl, Nat.add_sub_cancel, e, List.drop_left]
  unfold hds at hh
  rcases List.mem_cons.mp hh with rfl | hh
  · refine key ((s.take k).flatMap f) ?_
    rw [List.nil_append, ← List.flatMap_append, List.take_append_drop]
  · split at hh
    · cases hh
    · rename_i hk0
      obtain ⟨n, hn, rfl⟩ := List.mem_map.mp hh
      have hk1 : k - 1 < s.length := by omega
      have e1 : s.drop (k - 1) = s.getD (k - 1) 0 :: s.drop k := by
        rw [List.drop_eq_getElem_cons hk1, show k - 1 + 1 = k by omega]
        simp [List.getD, hk1]
      refine key ((s.take (k - 1)).flatMap f ++ (f (s.getD (k - 1) 0)).take (1 + n)) ?_
      rw [List.append_assoc, ← List.append_assoc ((f (s.getD (k - 1) 0)).take (1 + n)), List.take_append_drop, ← List.flatMap_cons, ← e1, ← List.flatMap_append, List.take_append_drop]

/-- the heart: what is told at a place is what the texts tell -/
theorem told_iff {f g : Nat → List Nat} (H : Pair2 f g) {s t : List Nat} {k : Nat} (hk : k ≤ s.length) {h : List Nat} (hh : h ∈ hds f s k) :
    (((s.drop k).map f = (s.drop k).map g) ∧ hit s t k h = true) ↔
      (0 < h.length + ((s.drop k).flatMap f).length ∧ (s.flatMap f).drop ((s.flatMap f).length - (h.length + ((s.drop k).flatMap f).length)) = (t.flatMap g).take (h.length + ((s.drop k).flatMap f).length)) := by
  rw [(drop_val hk hh).1]
  have e := pre_head H (s.drop k) h t (hds_bare H hh)
  rw [prefix_take, prefix_take, List.length_append] at e
  have e0 : (h ++ s.drop k ≠ []) ↔ 0 < h.length + ((s.drop k).flatMap f).length := by
    constructor
    · intro hne
      cases h with
      | cons a h => simp; omega
      | nil =>
        cases hd : s.drop k with
        | nil => rw [hd] at hne; exact absurd rfl hne
        | cons c u =>
          rw [List.flatMap_cons, List.length_append]
          have : 0 < (f c).length := by rcases H.sf.bare c with ⟨e, _⟩ | ⟨r, e, _⟩ <;> rw [e] <;> simp
          omega
    · intro hlt hnil
      rw [List.append_eq_nil_iff] at hnil
      rw [hnil.1, hnil.2] at hlt
      simp at hlt
  unfold hit
  rw [Bool.and_eq_true, decide_eq_true_eq, decide_eq_true_eq, e0]
  constructor
  · rintro ⟨h1, h2, h3⟩
    exact ⟨h2, (e.mpr ⟨h3, h1⟩).symm⟩
  · rintro ⟨h1, h2⟩
    obtain ⟨h3, h4⟩ := e.mp h2.symm
    exact ⟨h4, h1, h3⟩

/-- the values of all heads at all places, once each -/
def allV (f : Nat → List Nat) (s : List Nat) : List Nat := (List.range (s.length + 1)).flatMap fun k => (hds f s k).map fun h => h.length + ((s.drop k).flatMap f).length

theorem down_perm : ∀ (m L : Nat), ((List.range m).map fun n => (m - n) + L).Perm ((List.range m).map fun n => L + 1 + n)
  | 0, _ => .nil
  | m + 1, L => by
    have ih := down_perm m L
    have e : ((List.range (m + 1)).map fun n => (m + 1 - n) + L) = (m + 1 + L) :: (List.range m).map fun n => (m - n) + L := by
      rw [List.range_succ_eq_map, List.map_cons, List.map_map]
      simp only [Nat.sub_zero, List.cons.injEq, true_and]
      apply List.map_congr_left
      intro n _
      simp
    rw [e, List.range_succ, List.map_append, List.map_cons, List.map_nil]
    refine (List.Perm.cons _ ih).trans ?_
    rw [show m + 1 + L = L + 1 + m by omega]
    exact List.perm_append_comm (l₁ := [L + 1 + m])

theorem allV_perm {f : Nat → List Nat} (hf : ∀ c, f c ≠ []) : ∀ s : List Nat, (allV f s).Perm (List.range ((s.flatMap f).length + 1))
  | [] => by simp [allV, hds]
  | c :: s => by
    have ih := allV_perm hf s
    have eS : allV f s = (s.flatMap f).length :: ((List.range s.length).flatMap fun k => (hds f s (k + 1)).map fun h => h.length + ((s.drop (k + 1)).flatMap f).length) := by
      unfold allV
      rw [List.range_succ_eq_map, List.flatMap_cons, List.flatMap_map]
      simp [hds]
    have hpos : 0 < (f c).length := List.length_pos_iff.mpr (hf c)
    have eC : allV f (c :: s) = ((f c).length + (s.flatMap f).length) :: ((s.flatMap f).length :: ((List.range ((f c).length - 1)).map fun n => ((f c).length - 1 - n) + (s.flatMap f).length)) ++
        ((List.range s.length).flatMap fun k => (hds f s (k + 1)).map fun h => h.length + ((s.drop (k + 1)).flatMap f).length) := by
      unfold allV
      rw [List.length_cons, List.range_succ_eq_map, List.flatMap_cons, List.flatMap_map, List.range_succ_eq_map, List.flatMap_cons, List.flatMap_map, List.cons_append]
      have e0 : ((hds f (c :: s) 0).map fun h => h.length + (((c :: s).drop 0).flatMap f).length) = [(f c).length + (s.flatMap f).length] := by simp [hds]
      have e1 : ((hds f (c :: s) (0 + 1)).map fun h => h.length + (((c :: s).drop (0 + 1)).flatMap f).length) = (s.flatMap f).length :: ((List.range ((f c).length - 1)).map fun n => ((f c).length - 1 - n) + (s.flatMap f).length) := by
        simp only [hds, Nat.zero_add, Nat.reduceEqDiff, if_false, List.map_cons, List.map_map, List.length_nil, List.drop_succ_cons, List.drop_zero, Nat.sub_self, List.getD_cons_zero]
        congr 1
        apply List.map_congr_left
        intro n _
        simp only [Function.comp, List.length_drop]
        omega
      rw [e0]
      simp only [List.singleton_append, List.cons.injEq, true_and]
      show ((hds f (c :: s) (0 + 1)).map fun h => h.length + (((c :: s).drop (0 + 1)).flatMap f).length) ++ _ = _
      rw [e1]
      congr 1
    rw [eC, List.flatMap_cons, List.length_append]
    rw [eS] at ih
    have hA : (((f c).length + (s.flatMap f).length) :: ((s.flatMap f).length :: ((List.range ((f c).length - 1)).map fun n => ((f c).length - 1 - n) + (s.flatMap f).length)) ++
        ((List.range s.length).flatMap fun k => (hds f s (k + 1)).map fun h => h.length + ((s.drop (k + 1)).flatMap f).length)).Perm
        (((s.flatMap f).length :: ((List.range s.length).flatMap fun k => (hds f s (k + 1)).map fun h => h.length + ((s.drop (k + 1)).flatMap f).length)) ++
          (((List.range ((f c).length - 1)).map fun n => ((f c).length - 1 - n) + (s.flatMap f).length) ++ [(f c).length + (s.flatMap f).length])) := by
      rw [List.perm_iff_count]
      intro a
      simp only [List.count_cons, List.count_append, List.cons_append, List.count_nil]
      omega
    refine hA.trans ?_
    refine (List.Perm.append ih ((down_perm _ _).append_right _)).trans ?_
    generalize (s.flatMap f).length = L
    have : (List.range ((f c).length - 1)).map (fun n => L + 1 + n) ++ [(f c).length + L] = (List.range (f c).length).map fun n => L + 1 + n := by
      conv => rhs; rw [show (f c).length = ((f c).length - 1) + 1 by omega, List.range_succ, List.map_append]
      simp
      omega
    rw [this, show (f c).length + L + 1 = (L + 1) + (f c).length by omega, show List.range (L + 1 + (f c).length) = List.range (L + 1) ++ (List.range (f c).length).map (fun n => L + 1 + n) from List.range_add ..]

/-- what the law finds is what is told, in another order -/
theorem due_perm {f g : Nat → List Nat} (H : Pair2 f g) (s t : List Nat) : (dueTo f g s t (s.length + 1)).Perm (toldL (s.flatMap f) (t.flatMap g)) := by
  have hf : ∀ c, f c ≠ [] := fun c => by rcases H.sf.bare c with ⟨e, _⟩ | ⟨r, e, _⟩ <;> rw [e] <;> simp
  let P : Nat → Bool := fun n => decide (0 < n ∧ (s.flatMap f).drop ((s.flatMap f).length - n) = (t.flatMap g).take n)
  have h1 : dueTo f g s t (s.length + 1) = ((allV f s).filter P).map fun (n : Nat) => (n : Int) := by
    unfold dueTo allV
    rw [List.filter_flatMap, List.map_flatMap]
    rw [List.flatMap_def, List.flatMap_def]
    congr 1
    apply List.map_congr_left
    intro k hk
    have hk' : k ≤ s.length := by have := List.mem_range.mp hk; omega
    unfold dueAt
    rw [List.filter_map, List.map_map]
    split
    · rename_i hc
      have : (hds f s k).filter (hit s t k) = (hds f s k).filter (P ∘ fun h => h.length + ((s.drop k).flatMap f).length) := by
        apply List.filter_congr
        intro h hh
        have e := told_iff H (t := t) hk' hh
        have e2 : (hit s t k h = true) ↔ (P (h.length + ((s.drop k).flatMap f).length) = true) := by
          simp only [P, decide_eq_true_eq]
          rw [← e]
          exact ⟨fun x => ⟨hc, x⟩, fun x => x.2⟩
        exact Bool.eq_iff_iff.mpr e2
      rw [this]
      rfl
    · rename_i hc
      have : (hds f s k).filter (P ∘ fun h => h.length + ((s.drop k).flatMap f).length) = [] := by
        rw [List.filter_eq_nil_iff]
        intro h hh hP
        have e := told_iff H (t := t) hk' hh
        simp only [P, Function.comp, decide_eq_true_eq] at hP
        exact hc (e.mpr hP).1
      rw [this]
      rfl
  rw [h1]
  have h2 : toldL (s.flatMap f) (t.flatMap g) = ((List.range ((s.flatMap f).length + 1)).filter P).map fun (n : Nat) => (n : Int) := by
    unfold toldL
    rw [List.range_succ_eq_map, List.filter_cons]
    have : P 0 = false := by simp [P]
    rw [this]
    simp only [Bool.false_eq_true, if_false]
    rw [List.filter_map, List.filter_map, List.map_map, List.filter_congr (q := P ∘ Nat.succ)]
    · apply List.map_congr_left
      intro n _
      simp; omega
    · intro n _
      simp only [Function.comp, P]
      have : (1 + (n : Int)).toNat = n + 1 := by omega
      rw [this]
      simp
  rw [h2]
  exact ((allV_perm hf s).filter P).map _

theorem told_sorted (a b : List Nat) : (toldL a b).Pairwise (· ≤ ·) := by
  unfold toldL
  refine List.Pairwise.filter _ ?_
  rw [List.pairwise_map]
  refine List.Pairwise.imp ?_ (List.pairwise_lt_range (n := a.length))
  intro x y h
  omega

theorem told_of {f g : Nat → List Nat} (H : Pair2 f g) {s t : List Nat} {ns : List Int} (hp : ns.Perm (dueTo f g s t (s.length + 1))) (ho : ns.Pairwise (· ≤ ·)) : ns = toldL (s.flatMap f) (t.flatMap g) :=
  List.Perm.eq_of_pairwise (fun a b _ _ h1 h2 => Int.le_antisymm h1 h2) ho (told_sorted _ _) (hp.trans (due_perm H s t))

theorem filter_one {p : Nat → Bool} : ∀ {l : List Nat}, l.Nodup → (∀ a ∈ l, ∀ b ∈ l, p a = true → p b = true → a = b) → (l.filter p).length ≤ 1
  | [], _, _ => by simp
  | a :: l, hn, h => by
    rw [List.nodup_cons] at hn
    have ih := filter_one (p := p) hn.2 fun x hx y hy => h x (List.mem_cons_of_mem _ hx) y (List.mem_cons_of_mem _ hy)
    rw [List.filter_cons]
    split
    · rename_i hp
      have : l.filter p = [] := by
        rw [List.filter_eq_nil_iff]
        intro b hb hpb
        have := h a (List.mem_cons_self ..) b (List.mem_cons_of_mem _ hb) hp hpb
        subst this
        exact hn.1 hb
      rw [this]; simp
    · exact ih

theorem at_most_two {f g : Nat → List Nat} (H : Pair2 f g) (s t : List Nat) (k : Nat) : (dueAt f g s t k).length ≤ 2 := by
  unfold dueAt
  split
  · rw [List.length_map]
    unfold hds
    rw [List.filter_cons]
    have key : ((if k = 0 then [] else (List.range ((f (s.getD (k - 1) 0)).length - 1)).map fun n => (f (s.getD (k - 1) 0)).drop (1 + n)).filter (hit s t k)).length ≤ 1 := by
      split
      · simp
      · rw [List.filter_map, List.length_map]
        refine filter_one List.nodup_range ?_
        intro a ha b hb pa pb
        rw [List.mem_range] at ha hb
        have hd := H.sf.nodup (s.getD (k - 1) 0)
        generalize f (s.getD (k - 1) 0) = R at ha hb pa pb hd
        have look : ∀ n, n < R.length - 1 → hit s t k (R.drop (1 + n)) = true → t[0]? = (R.drop 1)[n]? := by
          intro n hn hp
          unfold hit at hp
          rw [Bool.and_eq_true, decide_eq_true_eq, decide_eq_true_eq] at hp
          have h0 := congrArg (·[0]?) hp.2
          have hlen : 0 < (R.drop (1 + n)).length := by rw [List.length_drop]; omega
          have hlen2 : 0 < (R.drop (1 + n) ++ s.drop k).length := by rw [List.length_append]; omega
          simp only [List.getElem?_take] at h0
          rw [if_pos hlen2, List.getElem?_append_left hlen] at h0
          rw [h0, List.getElem?_drop, List.getElem?_drop]
          simp
        have e := (look a ha pa).symm.trans (look b hb pb)
        have la : a < (R.drop 1).length := by rw [List.length_drop]; omega
        have lb : b < (R.drop 1).length := by rw [List.length_drop]; omega
        exact (List.getElem?_inj la hd).mp e
    split
    · rw [List.length_cons]; omega
    · omega
  · simp

theorem short_of {f g : Nat → List Nat} (H : Pair2 f g) (s t : List Nat) : ∀ k, (dueTo f g s t k).length ≤ 2 * k
  | 0 => by simp [dueTo]
  | k + 1 => by
    have := short_of H s t k
    have := at_most_two H s t k
    rw [dueTo_succ, List.length_append]
    omega
end Mine
end
section
open PySem PySem.W PyProof.Rows
set_option maxRecDepth 100000
set_option maxHeartbeats 8000000
namespace Mine
section
variable {prog : Program} {w : World} {A : Around} {E : Value → Shared → Prop} {s : Shared} {Q : Value → Shared → Prop} {value slice : Expr}
theorem lst_mid {h : Heap} {tk : Nat} {l : Addr} {items : List Value} {vl vu : Value} {lo hi : Option Int} (hl : h.IsList l items.toArray) (pl : IsPart vl lo) (pu : IsPart vu hi)
    (hq : ∀ D h', h.get? D = none → h'.get? D = some (listOf ((items.drop (lo.elim 0 (clipAt items.length))).take (hi.elim items.length (clipAt items.length) - lo.elim 0 (clipAt items.length))).toArray 0) → (∀ b o, h.get? b = some o → h'.get? b = some o) → Q (.ref D) { s with heap := h', toks := tk })
    (hs : subscripted slice false (.ref l) (.ref h.objs.size) = operate [.ref h.objs.size, .ref l] (getItem (.ref l) (.ref h.objs.size)))
    (ht : ∀ r, letTemporaryGo value (.ref l) r = pure ()) (hsz : items.length ≤ 1000000) :
    wpAny (model prog w) A (subscriptTail value slice (.ref l) (.ref h.objs.size)) Q E { s with heap := h.push { cls := .type "slice", data := .fields #[vl, vu, .none] }, toks := tk } := by
  refine slice_listK (s := { s with heap := h, toks := tk }) hl pl pu ?_ hs ht (by simp only [List.size_toArray]; rw [sizeLine_eq]; omega)
  refine hq _ _ ?_ ?_ fun b o e => Heap.get?_push_of_some _ (Heap.get?_push_of_some _ e)
  · cases e : h.get? (h.objs.size + 1) with
    | none => rfl
    | some o => exact absurd (Heap.lt_size e) (Nat.not_lt.mpr (Nat.le_succ _))
  · have e := Heap.get?_push_size (o := ({ cls := .type "list", data := .seq (slicePick items.toArray lo hi none) } : Obj)) (h.push { cls := .type "slice", data := .fields #[vl, vu, .none] }) rfl
    rw [Heap.size_push, slicePick_plain] at e
    dsimp only
    rw [slicePick_plain]
    simpa using e
end

theorem enterC0 {K : Frag} {prog : Program} {w : World} {A : Around} {s : Shared} {E : Value → Shared → Prop} {Q : Value → Shared → Prop}
    {name qual : Str} {params : Arguments} {body : List Stmt} {scope : Scope} {dV kV doc pm cdv ct oc : Value} {an od : Option Addr} {osl : Array (Option Value)} {f : Addr}
    {args : List Value} {binds : List (Str × Value)}
    (X : K.In s.heap) (nl : s.heap.NoLimit) (hroom : A.depth < recursionLimit)
    (ho : K.lookup f = some ⟨oc, od, .func (fnOf name qual params body scope dV kV doc pm an cdv ct), osl⟩) (hcd : codeIn K cdv qual = true)
    (hbind : bindArgs (fnOf name qual params body scope dV kV doc pm an cdv ct) ⟨args, []⟩ = pure binds)
    (hkind : (binds.all fun y => scope.names.lookup y.1 == some .local || scope.names.lookup y.1 == some .cell) = true)
    (hnd : ((cellsFrom 0 scope.names []).map (·.1)).Nodup)
    (hco : scope.isCoroutine = false) (hgen : scope.isGenerator = false) (hk : scope.kind = .function)
    (h : ∀ L h₁ tk cells, Fr s.heap L h₁ (bindL (envOfC qual scope L f cdv).kindOf binds fun _ => none) → News s.heap L h₁ cells →
      CellsAre (bindC (envOfC qual scope L f cdv).kindOf binds fun _ => none) (cellsFrom (L + 1) scope.names []) cells →
      wpAny (model prog w) (A.deeper (envOfC qual scope L f cdv)) (execs body (envOfC qual scope L f cdv))
        (fun fl s' => Q (match fl with | .ret v => v | _ => .none) s') (fun _ _ => False) { s with heap := h₁, toks := tk }) :
    wpAny (model prog w) A (call (.ref f) args) Q E s := by
  refine wpAny_call (codeAny_call_function hroom (X _ _ ho) rfl hco hgen rfl (codeRec_of X hcd) ?_)
  rw [hbind]
  refine wpAny_pure (wpAny_newFunctionEnv_cells hk (kindsX hkind _) fun env' he s' x => ?_)
  subst he
  refine ⟨nl.keeps x.toInCall.keep, codeAny_func ?_⟩
  obtain ⟨h₁, tk, rfl, _⟩ := x.done
  obtain ⟨cells, NC, Y⟩ := Cl.news (h₀ := s.heap) (Nat.le_refl _) fun n c hm => ⟨x.cell n c (lookup_of_mem_nodup (cellsFrom_names scope.names 0 (s.heap.objs.size + 1) [] [] rfl ▸ hnd) hm), x.above n c hm⟩
  exact wpAny_mono (h s.heap.objs.size h₁ tk cells ⟨x.toInCall.ns, x.toInCall.keep, Nat.le_refl _⟩ NC Y) (fun fl s' hl => hl) fun _ _ y => y.elim

theorem mods_paired {ys : List Value} : ∀ {vs : List Value} {ns : List Int}, IntsAre vs ns → Paired (fun v y => ∃ (n : Int) (u u' : Tok), v = Value.int n u ∧ y = Value.int (n.fmod 32) u') vs ys →
    IntsAre ys (ns.map fun n => n.fmod 32) := by
  induction ys with
  | nil => intro vs ns hi hp; cases hp; cases hi; exact .nil
  | cons y ys ih =>
    intro vs ns hi hp
    cases hp with
    | cons h r =>
      cases hi with
      | cons n t hi =>
        obtain ⟨n', u, u', e, rfl⟩ := h
        cases e
        exact .cons _ _ (ih hi r)

theorem first_int {sub : List Value} (h : ∀ v ∈ sub, ∃ (n : Int) (t : Tok), v = .int n t) (t : Tok) : ∃ n u, (sub ++ [Value.int 0 t])[0]? = some (.int n u) := by
  cases sub with
  | nil => exact ⟨0, t, rfl⟩
  | cons a r =>
    obtain ⟨n, u, rfl⟩ := h a (.head _)
    exact ⟨n, u, rfl⟩
theorem parts_le (ns : List Int) : (ns.filter fun n => n.fmod 2 == 0).length + (ns.filter fun n => n.fmod 2 == 1).length ≤ ns.length := by
  induction ns with
  | nil => simp
  | cons n r ih =>
    rw [List.filter_cons, List.filter_cons, List.length_cons]
    split <;> split
    · rename_i h1 h2
      have e1 : n.fmod 2 = 0 := by simpa using h1
      have e2 : n.fmod 2 = 1 := by simpa using h2
      omega
    all_goals (try simp only [List.length_cons]); omega
theorem ints_of {vs : List Value} : ∀ {n off : Nat}, vs.length = n → (∀ (j : Nat) (v : Value), vs[j]? = some v → ∃ t : Tok, v = Value.int (1 + ((off + j : Nat) : Int)) t) → IntsAre vs ((List.range' off n).map fun (i : Nat) => (1 + (i : Int))) := by
  induction vs with
  | nil => intro n off hl _; obtain rfl : n = 0 := by simpa using hl.symm
           exact .nil
  | cons v vs ih =>
    intro n off hl hv
    cases n with
    | zero => cases hl
    | succ n =>
      have h1 := ih (n := n) (off := off + 1) (by simpa using hl) (fun j v e => by
        have := hv (j + 1) v (by simpa using e)
        rwa [show off + (j + 1) = off + 1 + j by omega] at this)
      obtain ⟨t, rfl⟩ := hv 0 v rfl
      rw [List.range'_succ, List.map_cons]
      exact .cons _ _ h1
theorem filter_paired {p : Value → Bool} {pz : Int → Bool} : ∀ {vs ys : List Value} {ns : List Int}, IntsAre vs ns → (∀ n u, p (.int n u) = pz n) →
    Paired (fun v y => ∃ (n : Int) (u u' : Tok), v = Value.int n u ∧ y = Value.int n u') (vs.filter p) ys → IntsAre ys (ns.filter pz) := by
  intro vs ys ns hi hp
  induction hi generalizing ys with
  | nil => intro h; cases h; exact .nil
  | cons n t r ih =>
    intro h
    rw [List.filter_cons, hp n t] at h
    rw [List.filter_cons]
    cases hz : pz n with
    | false => simp only [hz, Bool.false_eq_true, if_false] at h ⊢; exact ih h
    | true =>
      simp only [hz, if_true] at h ⊢
      cases h with
      | cons h1 h2 =>
        obtain ⟨n', u, u', e, rfl⟩ := h1
        cases e
        exact .cons _ _ (ih h2)
theorem told_paired {AL BL : List Nat} {vs ys : List Value} (hl : vs.length = AL.length) (hv : ∀ (j : Nat) (v : Value), vs[j]? = some v → ∃ t : Tok, v = Value.int (1 + (j : Int)) t)
    (hp : Paired (fun v y => ∃ (n : Int) (u u' : Tok), v = Value.int n u ∧ y = Value.int n u') (vs.filter fun v => match v with | .int n _ => decide (AL.drop (AL.length - n.toNat) = BL.take n.toNat) | _ => false) ys) : IntsAre ys (toldL AL BL) := by
  have hi := ints_of (off := 0) hl (fun j v e => by simpa using hv j v e)
  rw [← List.range_eq_range'] at hi
  exact filter_paired hi (fun _ _ => rfl) hp
theorem empties {vs ys : List Value} (hl : vs.length = 5) (h : Paired (fun _ y => ∃ u' : Tok, y = Value.str (tx []) u') vs ys) : ∃ q : List (Str × Tok), ys = strValues q ∧ q.map (·.1) = [tx [], tx [], tx [], tx [], tx []] := by
  match vs, hl, h with
  | [_, _, _, _, _], _, .cons ⟨u1, h1⟩ (.cons ⟨u2, h2⟩ (.cons ⟨u3, h3⟩ (.cons ⟨u4, h4⟩ (.cons ⟨u5, h5⟩ .nil)))) =>
    subst h1 h2 h3 h4 h5
    exact ⟨[(tx [], u1), (tx [], u2), (tx [], u3), (tx [], u4), (tx [], u5)], rfl, rfl⟩
theorem spell_sp1 {n : Int} (h0 : 0 ≤ n) (h5 : n < 5) : Spell (sp1 n) := by
  constructor
  · intro c
    by_cases hs : isSpec c
    · rcases (by omega : n = 0 ∨ n = 1 ∨ n = 2 ∨ n = 3 ∨ n = 4) with rfl | rfl | rfl | rfl | rfl
      all_goals rcases hs with rfl | rfl | rfl | rfl | rfl | rfl | rfl
      all_goals first
        | exact Or.inl ⟨by decide, by decide⟩
        | exact Or.inr ⟨[97, 109, 112], by decide, by decide⟩
        | exact Or.inr ⟨[108, 116], by decide, by decide⟩
        | exact Or.inr ⟨[103, 116], by decide, by decide⟩
        | exact Or.inr ⟨[113, 117, 111, 116], by decide, by decide⟩
        | exact Or.inr ⟨[35, 49, 51], by decide, by decide⟩
        | exact Or.inr ⟨[35, 49, 48], by decide, by decide⟩
        | exact Or.inr ⟨[35, 48, 57], by decide, by decide⟩
        | exact Or.inr ⟨[35, 120, 68], by decide, by decide⟩
        | exact Or.inr ⟨[35, 120, 65], by decide, by decide⟩
        | exact Or.inr ⟨[35, 120, 57], by decide, by decide⟩
    · refine Or.inl ⟨sp1_plain hs, ?_⟩
      rintro rfl
      exact hs (Or.inl rfl)
  · intro c
    by_cases hs : isSpec c
    · rcases (by omega : n = 0 ∨ n = 1 ∨ n = 2 ∨ n = 3 ∨ n = 4) with rfl | rfl | rfl | rfl | rfl
      all_goals rcases hs with rfl | rfl | rfl | rfl | rfl | rfl | rfl
      all_goals decide
    · rw [sp1_plain hs]; simp
theorem refs_inj {n m : Int} (h0 : 0 ≤ n) (h5 : n < 5) (k0 : 0 ≤ m) (k5 : m < 5) (c d : Nat) (r : List Nat) (h : sp1 n c = 38 :: r) (k : sp1 m d = 38 :: r) : c = d := by
  by_cases hs : isSpec c
  · by_cases ks : isSpec d
    · rcases (by omega : n = 0 ∨ n = 1 ∨ n = 2 ∨ n = 3 ∨ n = 4) with rfl | rfl | rfl | rfl | rfl
      all_goals rcases (by omega : m = 0 ∨ m = 1 ∨ m = 2 ∨ m = 3 ∨ m = 4) with rfl | rfl | rfl | rfl | rfl
      all_goals
        have e := h.trans k.symm
        clear h k
        rcases hs with rfl | rfl | rfl | rfl | rfl | rfl | rfl <;> rcases ks with rfl | rfl | rfl | rfl | rfl | rfl | rfl <;> first | rfl | exact absurd e (by decide)
    · rw [sp1_plain ks] at k
      injection k with k1 k2
      exact absurd (k1 ▸ Or.inl rfl) ks
  · rw [sp1_plain hs] at h
    injection h with h1 h2
    exact absurd (h1 ▸ Or.inl rfl) hs
theorem tail_plain {n : Int} (h0 : 0 ≤ n) (h5 : n < 5) (c d : Nat) (h : d ∈ (sp1 n c).drop 1) : ¬ isSpec d := by
  by_cases hs : isSpec c
  · rcases (by omega : n = 0 ∨ n = 1 ∨ n = 2 ∨ n = 3 ∨ n = 4) with rfl | rfl | rfl | rfl | rfl
    all_goals
      rcases hs with rfl | rfl | rfl | rfl | rfl | rfl | rfl
      all_goals
        simp [sp1, spCdata, spAttrib, spHtml, spCdataC, spAttribC, amp, lt, gt, quot, r13, r10, r09, rxD, rxA, rx9] at h
        try (unfold isSpec; omega)
  · rw [sp1_plain hs] at h; simp at h
theorem pair_sp1 {n m : Int} (h0 : 0 ≤ n) (h5 : n < 5) (k0 : 0 ≤ m) (k5 : m < 5) : Pair2 (sp1 n) (sp1 m) :=
  ⟨spell_sp1 h0 h5, spell_sp1 k0 k5, refs_inj h0 h5 k0 k5, fun c d hd => sp1_plain (tail_plain h0 h5 c d hd)⟩
theorem due_short {first second : Int} {SL TL : List Nat} (h0 : 0 ≤ first) (h1 : first < 5) (h2 : 0 ≤ second) (h3 : second < 5) (hl : SL.length ≤ 27) : (dueTo (sp1 first) (sp1 second) SL TL (SL.length + 1)).length < 64 := by
  have := short_of (pair_sp1 h0 h1 h2 h3) SL TL (SL.length + 1)
  omega
theorem told_due {first second : Int} {SL TL : List Nat} {ns : List Int} (h0 : 0 ≤ first) (h1 : first < 5) (h2 : 0 ≤ second) (h3 : second < 5) (hp : ns.Perm (dueTo (sp1 first) (sp1 second) SL TL (SL.length + 1))) (ho : ns.Pairwise (· ≤ ·)) :
    ns = toldL (SL.flatMap (sp1 first)) (TL.flatMap (sp1 second)) := told_of (pair_sp1 h0 h1 h2 h3) hp ho
theorem one_sign {x : Str} (h : x.length = 1) : ∃ c, x = ⟨#[c]⟩ := by
  obtain ⟨⟨l⟩⟩ := x
  match l, h with
  | [c], _ => exact ⟨c, rfl⟩
local macro_rules | `(tactic| walk_at "m_enterC0") => `(tactic| (
  (refine' enterC0 (Bs.X (by assumption)) (TopRead.nolimit (Bs.T (by assumption))) ?k8 ?k6 ?k7 ?k9 ?kB ?kD ?c2 ?c3 ?c4 ?_)
  (case k6 => k_is)
  (case k7 => k_is)
  (case k8 => first | assumption | omega)
  (case k9 => exact rfl)
  (case kB => exact rfl)
  (case kD => decide +kernel)
  (case c2 => rfl)
  (case c3 => rfl)
  (case c4 => rfl)))

theorem c_law {w : World} {A : Around} {s : Shared} {E : Value → Shared → Prop} {mg mb : Str → Option Value} {l : Addr} {vs : List Value} {ns : List Int}
    (B : Bs w mg mb s.heap) (hroom : A.depth + 40 < recursionLimit) (hA : A.handled = none) (hu : A.units + 200 < cLine) (hl : s.heap.IsList l vs.toArray) (hi : IntsAre vs ns) (hn : ns.length ≤ 63) :
    wpAny (model Challenge.rw_nb0384_01.row.prog w) A (call (.ref 85) [.ref l]) (fun v s' => Keeps s s' ∧ v = .bool true) E s := by
  have B0 := B
  revert B0; obtain ⟨X, T⟩ := B; revert X; k_fill; intro X B
  walk_at "m_enterC0"
  intro L h₁ tk cells F N Y
  obtain ⟨oB, oA, rfl, dB, dA⟩ := CellsAre.two Y
  clear Y
  have hvl : vs.length = ns.length := hi.length
  -- setting
  refine wpAny_execs_cons ?_
  refine wpAny_Assign_Name ?_
  refine wpAny_BinOp ?_
  refine Subscript_ ?_
  refine wpAny_BinOp ?_
  refine Subscript_ ?_
  refine nameX_L F rfl ?_
  refine wpAny_Slice ?_
  refine evalPart_none_step ?_
  refine evalPart_some_step ?_
  refine wpAny_Constant_int ?_
  refine evalPart_none_step ?_
  dsimp only
  refine lst_mid (items := vs) (hl.at fun o e => F.keep _ o e) .none (.int _ _) (fun D1 h2 hD1 hg1 hk1 => ?_) ?hs ?ht (by omega)
  case hs => rfl
  case ht => intro _; rfl
  refine List_ ?_
  refine spliced_more ?_
  refine wpAny_Constant_int ?_
  refine spliced_none ?_
  dsimp only
  refine newList_K (Fr.up F hk1) (News.add F (News.up N hk1) hD1 hg1) (fun D2 h3 F3 N3 _ => ?_) (by rw [sizeLine_eq]; exact (by decide : 1 ≤ 16777216))
  refine add_arrays F3 N3 ⟨_, N3.get (.tail _ (.head _)), rfl, _, rfl⟩ ⟨_, N3.get (.head _), rfl, _, rfl⟩ (fun h4 F4 N4 => ?_) (by simp; rw [sizeLine_eq]; omega)
  dsimp only
  refine wpAny_Constant_int ?_
  obtain ⟨n0, u0, hx0⟩ := first_int (sub := (vs.drop ((none : Option Int).elim 0 (clipAt vs.length))).take ((some 1 : Option Int).elim vs.length (clipAt vs.length) - (none : Option Int).elim 0 (clipAt vs.length))) (fun v hv => hi.all v (List.mem_of_mem_drop (List.mem_of_mem_take hv))) (tk + 1)
  refine item_litK ⟨_, N4.get (.head _), rfl, _, rfl⟩ (by decide) (by decide) (by simpa using hx0) ?_
  refine wpAny_Constant_int ?_
  refine mod_int' (by decide) ?_
  dsimp only
  refine storeX_L F4 N4 (fun h5 F5 N5 => ?_)
  dsimp only
  have hst0 : 0 ≤ n0.fmod 2100 := Int.fmod_nonneg_of_pos _ (by decide)
  have hst1 : n0.fmod 2100 < 2100 := Int.fmod_lt_of_pos _ (by decide)
  generalize n0.fmod 2100 = st at F5 hst0 hst1
  have N5 : News s.heap L h5 [(L + 1 + 1, oB), (L + 1, oA)] := News.sub N5 fun p hp => .tail _ (.tail _ (.tail _ hp))
  clear N4 F4 N3 F3
  -- numbers
  refine wpAny_execs_cons ?_
  refine evCompA (fun _ => true) (fun v y => ∃ (n : Int) (u u' : Tok), v = Value.int n u ∧ y = Value.int (n.fmod 32) u') (cl := []) rfl rfl (by decide) rfl (by decide) rfl rfl rfl hA (by dsimp only; omega) ?_
  refine Subscript_ ?_
  refine nameX_L F5 rfl ?_
  refine wpAny_Slice ?_
  refine evalPart_some_step ?_
  refine wpAny_Constant_int ?_
  refine evalPart_some_step ?_
  refine wpAny_Constant_int ?_
  refine evalPart_none_step ?_
  dsimp only
  refine lst_mid (items := vs) (hl.at fun o e => F5.keep _ o e) (.int _ _) (.int _ _) (fun D6 h6 hD6 hg6 hk6 => ?_) ?hs ?ht (by omega)
  case hs => rfl
  case ht => intro _; rfl
  have hi6 := (hi.drop ((some 1 : Option Int).elim 0 (clipAt vs.length))).take ((some 7 : Option Int).elim vs.length (clipAt vs.length) - (some 1 : Option Int).elim 0 (clipAt vs.length))
  have hlen6 : ((ns.drop ((some 1 : Option Int).elim 0 (clipAt vs.length))).take ((some 7 : Option Int).elim vs.length (clipAt vs.length) - (some 1 : Option Int).elim 0 (clipAt vs.length))).length ≤ 6 := by
    have a1 : clipAt vs.length 1 = min 1 vs.length := clipAt_nat vs.length 1
    have a7 : clipAt vs.length 7 = min 7 vs.length := clipAt_nat vs.length 7
    simp only [Option.elim]
    rw [List.length_take, a1, a7]
    omega
  generalize (ns.drop ((some 1 : Option Int).elim 0 (clipAt vs.length))).take ((some 7 : Option Int).elim vs.length (clipAt vs.length) - (some 1 : Option Int).elim 0 (clipAt vs.length)) = ms at hi6 hlen6
  generalize (vs.drop ((some 1 : Option Int).elim 0 (clipAt vs.length))).take ((some 7 : Option Int).elim vs.length (clipAt vs.length) - (some 1 : Option Int).elim 0 (clipAt vs.length)) = sub at hi6 hg6
  have hsub6 : sub.length ≤ 6 := by rw [hi6.length]; exact hlen6
  refine Or.inl ⟨D6, sub.toArray, rfl, ⟨_, hg6, rfl, _, rfl⟩, by simp only [List.size_toArray]; rw [sizeLine_eq]; omega, ⟨?_, ?_⟩, ⟨_, (Fr.up F5 hk6).ns, ?_⟩⟩
  · intro C j v s₃ m₃ E' hv hns hm hk ht' hC
    exact wpAny_tests_nil ⟨rfl, _, _, rfl, fun _ _ e => e⟩
  · intro C j v s₃ m₃ E' hv _ hns hm hk ht' hC
    obtain ⟨n, u, rfl, _⟩ := int_mem hi6 hv
    refine wpAny_BinOp ?_
    refine wpAny_Name (wpAny_loadName_local rfl rfl hns hm ?_) (by decide)
    refine wpAny_Constant_int ?_
    refine mod_int' (by decide) ?_
    exact ⟨⟨n, u, _, rfl, rfl⟩, _, _, rfl, fun _ _ e => e⟩
  intro D7 h7 tk7 ys7 vs7 hD7 hpl7 hlen7 hP7 hF7 hns7 hk7 hpos7
  rw [filter_all] at hF7
  obtain rfl : vs7 = sub := by
    refine List.ext_getElem? fun j => ?_
    rcases Nat.lt_or_ge j vs7.length with hj | hj
    · have := hP7 j vs7[j] (by simp [hj])
      rw [List.getElem?_eq_getElem hj, ← this]; simp
    · rw [List.getElem?_eq_none hj, List.getElem?_eq_none (by simpa [hlen7] using hj)]
  have hi7 := mods_paired hi6 hF7
  have F7 := Fr.setA (Fr.up F5 hk6) hns7 hk7
  have N7 := News.add (Fr.up F5 hk6) (News.setA (News.up N5 hk6) hk7) hD7 hpl7.choose_spec
  generalize hpl7.choose = n7 at N7
  clear hpl7 hns7 hk7 hP7 hF7 hlen7
  have hm7 : ∀ n ∈ ms.map fun n => n.fmod 32, 0 ≤ n ∧ n < 32 := by
    intro n hn
    obtain ⟨a, _, rfl⟩ := List.mem_map.mp hn
    exact ⟨Int.fmod_nonneg_of_pos _ (by decide), Int.fmod_lt_of_pos _ (by decide)⟩
  have hl7 : (ms.map fun n => n.fmod 32).length ≤ 6 := by rw [List.length_map]; exact hlen6
  generalize (ms.map fun n => n.fmod 32) = nums at hi7 hm7 hl7
  dsimp only
  -- first, second, sign
  refine wpAny_execs_cons ?_
  refine wpAny_Assign_Name ?_
  refine wpAny_BinOp ?_
  refine nameX_L F7 rfl ?_
  refine wpAny_Constant_int ?_
  refine mod_int' (by decide) ?_
  refine storeX_L F7 N7 (fun h8 F8 N8 => ?_)
  dsimp only
  have hf0 : 0 ≤ st.fmod 5 := Int.fmod_nonneg_of_pos _ (by decide)
  have hf1 : st.fmod 5 < 5 := Int.fmod_lt_of_pos _ (by decide)
  generalize st.fmod 5 = first at F8 hf0 hf1
  refine wpAny_execs_cons ?_
  refine wpAny_Assign_Name ?_
  refine wpAny_BinOp ?_
  refine wpAny_BinOp ?_
  refine nameX_L F8 rfl ?_
  refine wpAny_BinOp ?_
  refine nameX_L F8 rfl ?_
  refine wpAny_Constant_int ?_
  refine floordiv_int (by decide) ?_ (Or.inl (PyProof.noPylong_small (by omega)))
  refine add_int ?_
  refine wpAny_Constant_int ?_
  refine mod_int' (by decide) ?_
  dsimp only
  refine storeX_L F8 N8 (fun h9 F9 N9 => ?_)
  dsimp only
  have hs0 : 0 ≤ (first + st.fdiv 35).fmod 5 := Int.fmod_nonneg_of_pos _ (by decide)
  have hs1 : (first + st.fdiv 35).fmod 5 < 5 := Int.fmod_lt_of_pos _ (by decide)
  generalize (first + st.fdiv 35).fmod 5 = second at F9 hs0 hs1
  refine wpAny_execs_cons ?_
  refine wpAny_Assign_Name ?_
  refine Subscript_ ?_
  refine Calls.Constant_str ?_
  refine wpAny_BinOp ?_
  refine wpAny_BinOp ?_
  refine nameX_L F9 rfl ?_
  refine wpAny_Constant_int ?_
  refine floordiv_int (by decide) ?_ (Or.inl (PyProof.noPylong_small (by omega)))
  refine wpAny_Constant_int ?_
  refine mod_int' (by decide) ?_
  dsimp only
  have hk0 : 0 ≤ (st.fdiv 5).fmod 7 := Int.fmod_nonneg_of_pos _ (by decide)
  have hk1 : (st.fdiv 5).fmod 7 < 7 := Int.fmod_lt_of_pos _ (by decide)
  generalize (st.fdiv 5).fmod 7 = k7 at hk0 hk1
  have hx7 : (Str.ofString "&<>\"\x0d\n\t").length = 7 := by decide +kernel
  refine item_str (by simp [fitsSsize]; omega) (by omega) (by rw [hx7]; omega) (fun hlen1 => ?_)
  obtain ⟨c, hc⟩ := one_sign (Nat.le_antisymm hlen1.2 hlen1.1)
  rw [hc]
  clear hlen1
  refine storeX_L F9 N9 (fun h10 F10 N10 => ?_)
  dsimp only
  -- tail
  refine wpAny_execs_cons ?_
  refine wpAny_Assign_Name ?_
  refine Subscript_ ?_
  refine Call_ ?_
  refine gname (Fr.bs F10 B) (by k_is) ?_ rfl rfl rfl (by decide)
  refine callWith_K (Fr.bs F10 B).X (by k_is) ?_
  refine spliced_more ?_
  refine Subscript_ ?_
  refine List_ ?_
  refine spliced_more ?_
  refine wpAny_Constant_int ?_
  refine spliced_more ?_
  refine wpAny_Constant_int ?_
  refine spliced_none ?_
  dsimp only
  refine newList_K F10 N10 (fun D11 h11 F11 N11 _ => ?_) (by rw [sizeLine_eq]; exact (by decide : 2 ≤ 16777216))
  refine wpAny_BinOp ?_
  refine nameX_L F11 rfl ?_
  refine wpAny_Constant_int ?_
  refine floordiv_int (by decide) ?_ (Or.inl (PyProof.noPylong_small (by omega)))
  dsimp only
  have hd1 : st.fdiv 1050 = st / 1050 := Int.fdiv_eq_ediv_of_nonneg _ (by decide)
  obtain ⟨vh, hxh, ⟨hand, uh, rfl, hh⟩, hL11⟩ := pick_of (k := st.fdiv 1050) (fun v => ∃ (hand : Int) (u : Tok), v = .int hand u ∧ 0 ≤ hand ∧ hand < 5) (N11.get (.head _)) (by omega) (by simp only [List.length_cons, List.length_nil]; omega)
    (by
      intro v hv
      simp only [List.mem_cons, List.not_mem_nil, or_false] at hv
      rcases hv with rfl | rfl
      · exact ⟨_, _, rfl, by decide⟩
      · exact ⟨_, _, rfl, by decide⟩)
  refine item_litK hL11 (by omega) (by omega) hxh ?_
  refine spliced_more ?_
  refine nameX_L F11 rfl ?_
  refine spliced_none ?_
  refine ⟨(Fr.bs F11 B).X, ?_⟩
  dsimp only
  refine use (R := fun v _ => ∃ u, v = .str (tx (sp1 hand c)) u) F11 N11 (by dsimp only; omega) (c_spelled (Fr.bs F11 B) (by simp only [depth_deeper]; omega) (by dsimp only; omega) hh) ?_
  rintro _ h12 tk12 ⟨u12, rfl⟩ F12 N12 hk12 hpos12
  dsimp only
  refine wpAny_Slice ?_
  refine evalPart_some_step ?_
  refine wpAny_BinOp ?_
  refine wpAny_Constant_int ?_
  refine wpAny_BinOp ?_
  refine wpAny_BinOp ?_
  refine nameX_L F12 rfl ?_
  refine wpAny_Constant_int ?_
  refine floordiv_int (by decide) ?_ (Or.inl (PyProof.noPylong_small (by omega)))
  refine wpAny_Constant_int ?_
  refine mod_int' (by decide) ?_
  refine add_int ?_
  refine evalPart_none_step ?_
  refine evalPart_none_step ?_
  dsimp only
  have hq0 : 0 ≤ (st.fdiv 175).fmod 6 := Int.fmod_nonneg_of_pos _ (by decide)
  obtain ⟨nt, hnt⟩ : ∃ nt : Nat, 1 + (st.fdiv 175).fmod 6 = (nt : Int) := ⟨(1 + (st.fdiv 175).fmod 6).toNat, by omega⟩
  rw [hnt]
  have hsl6 := len_sp1 hand c
  refine wpAny_with_toks (n := 1) (by dsimp only; omega) ?_
  refine txt_from (i := nt) (fun h13 t13 tk13 hk13 hpos13 => ?_) ?hs ?ht (by omega)
  case hs => rfl
  case ht => intro _; rfl
  dsimp only at hpos13 ⊢
  have htl : ((sp1 hand c).drop nt).length ≤ 6 := by rw [List.length_drop]; omega
  generalize (sp1 hand c).drop nt = tail at htl ⊢
  refine storeX_L (Fr.up F12 hk13) (News.up N12 hk13) (fun h14 F14 N14 => ?_)
  dsimp only
  have N14 : News s.heap L h14 [(D7, { cls := .type "list", data := .seq ys7 n7 }), (L + 1 + 1, oB), (L + 1, oA)] := News.sub N14 fun p hp => .tail _ hp
  clear N12 F12 N11 F11 N10 F10 N9 F9 hL11
  have hD7l : h14.IsList D7 ys7.toList.toArray := ⟨_, N14.get (.head _), rfl, n7, by show Data.seq ys7 n7 = _; simp⟩
  have hcnt := parts_le nums
  -- z
  refine wpAny_execs_cons ?_
  refine wpAny_Assign_Name ?_
  refine wpAny_BinOp ?_
  refine Call_ ?_
  refine gname (Fr.bs F14 B) (by k_is) ?_ rfl rfl rfl (by decide)
  refine callWith_K (Fr.bs F14 B).X (by k_is) ?_
  refine spliced_more ?_
  refine nameX_L F14 rfl ?_
  refine spliced_more ?_
  refine wpAny_Constant_int ?_
  refine spliced_none ?_
  refine ⟨(Fr.bs F14 B).X, ?_⟩
  dsimp only
  refine use (R := fun v _ => ∃ x u, v = .str x u ∧ x.length ≤ 4 * (nums.filter fun n => n.fmod 2 == 0).length) F14 N14 (by dsimp only; omega) (c_pieces (Fr.bs F14 B) (by simp only [depth_deeper]; omega) hA (by dsimp only; omega) hD7l hi7 hm7 hl7) ?_
  rintro _ h15 tk15 ⟨z0, u15, rfl, hz0⟩ F15 N15 hk15 hpos15
  dsimp only
  obtain ⟨zl, rfl⟩ : ∃ zl, z0 = tx zl := ⟨_, (tx_list z0).symm⟩
  rw [tx_len] at hz0
  refine Calls.Constant_str ?_
  have hq2 : Str.ofString "';" = tx [39, 59] := by decide +kernel
  rw [hq2]
  refine wpAny_with_toks (n := 1) (by dsimp only; omega) ?_
  refine PyProof.Rows.add_str (fun t16 tk16 hpos16 => ?_) (by rw [tx_len, tx_len, sizeLine_eq]; simp only [List.length_cons, List.length_nil]; omega)
  dsimp only at hpos16 ⊢
  rw [tx_app]
  refine storeX_L F15 N15 (fun h17 F17 N17 => ?_)
  dsimp only
  have hzl : (zl ++ [39, 59]).length ≤ 4 * (nums.filter fun n => n.fmod 2 == 0).length + 2 := by rw [List.length_append]; simp only [List.length_cons, List.length_nil]; omega
  generalize zl ++ [39, 59] = z at F17 hzl
  have hD7m : h17.IsList D7 ys7.toList.toArray := ⟨_, N17.get (.head _), rfl, n7, by show Data.seq ys7 n7 = _; simp⟩
  -- m
  refine wpAny_execs_cons ?_
  refine wpAny_Assign_Name ?_
  refine Call_ ?_
  refine gname (Fr.bs F17 B) (by k_is) ?_ rfl rfl rfl (by decide)
  refine callWith_K (Fr.bs F17 B).X (by k_is) ?_
  refine spliced_more ?_
  refine nameX_L F17 rfl ?_
  refine spliced_more ?_
  refine wpAny_Constant_int ?_
  refine spliced_none ?_
  refine ⟨(Fr.bs F17 B).X, ?_⟩
  dsimp only
  refine use (R := fun v _ => ∃ x u, v = .str x u ∧ x.length ≤ 4 * (nums.filter fun n => n.fmod 2 == 1).length) F17 N17 (by dsimp only; omega) (c_pieces (Fr.bs F17 B) (by simp only [depth_deeper]; omega) hA (by dsimp only; omega) hD7m hi7 hm7 hl7) ?_
  rintro _ h18 tk18 ⟨m0, u18, rfl, hm0⟩ F18 N18 hk18 hpos18
  obtain ⟨ml, rfl⟩ : ∃ ml, m0 = tx ml := ⟨_, (tx_list m0).symm⟩
  rw [tx_len] at hm0
  dsimp only
  refine storeX_L F18 N18 (fun h19 F19 N19 => ?_)
  dsimp only
  have N19 : News s.heap L h19 [(L + 1 + 1, oB), (L + 1, oA)] := News.sub N19 fun p hp => .tail _ hp
  clear N18 F18 N17 F17 hD7m hD7l N15 F15 N14 F14
  -- s
  refine wpAny_execs_cons ?_
  refine wpAny_Assign_Name ?_
  refine wpAny_BinOp ?_
  refine wpAny_BinOp ?_
  refine nameX_L F19 rfl ?_
  refine nameX_L F19 rfl ?_
  refine wpAny_with_toks (n := 1) (by dsimp only; omega) ?_
  refine PyProof.Rows.add_str (y := tx [c]) (fun t20 tk20 hpos20 => ?_) (by rw [tx_len, tx_len, sizeLine_eq]; simp only [List.length_cons, List.length_nil]; omega)
  dsimp only at hpos20 ⊢
  rw [tx_app]
  refine nameX_L F19 rfl ?_
  refine wpAny_with_toks (n := 1) (by dsimp only; omega) ?_
  refine PyProof.Rows.add_str (fun t21 tk21 hpos21 => ?_) (by rw [tx_len, tx_len, sizeLine_eq, List.length_append]; simp only [List.length_cons, List.length_nil]; omega)
  dsimp only at hpos21 ⊢
  rw [tx_app]
  refine storeX_L F19 N19 (fun h22 F22 N22 => ?_)
  dsimp only
  have hsl : (ml ++ [c] ++ z).length ≤ 27 := by rw [List.length_append, List.length_append]; simp only [List.length_cons, List.length_nil]; omega
  -- t
  refine wpAny_execs_cons ?_
  refine wpAny_Assign_Name ?_
  refine wpAny_BinOp ?_
  refine wpAny_BinOp ?_
  refine nameX_L F22 rfl ?_
  refine nameX_L F22 rfl ?_
  refine wpAny_with_toks (n := 1) (by dsimp only; omega) ?_
  refine PyProof.Rows.add_str (fun t23 tk23 hpos23 => ?_) (by rw [tx_len, tx_len, sizeLine_eq]; omega)
  dsimp only at hpos23 ⊢
  rw [tx_app]
  refine nameX_L F22 rfl ?_
  refine wpAny_with_toks (n := 1) (by dsimp only; omega) ?_
  refine PyProof.Rows.add_str (fun t24 tk24 hpos24 => ?_) (by rw [tx_len, tx_len, sizeLine_eq, List.length_append]; omega)
  dsimp only at hpos24 ⊢
  rw [tx_app]
  refine storeX_L F22 N22 (fun h25 F25 N25 => ?_)
  dsimp only
  have htll : (tail ++ z ++ ml).length ≤ 32 := by rw [List.length_append, List.length_append]; omega
  clear N22 F22 N19 F19
  -- a
  refine wpAny_execs_cons ?_
  refine wpAny_Assign_Name ?_
  refine Call_ ?_
  refine gname (Fr.bs F25 B) (by k_is) ?_ rfl rfl rfl (by decide)
  refine callWith_K (Fr.bs F25 B).X (by k_is) ?_
  refine spliced_more ?_
  refine nameX_L F25 rfl ?_
  refine spliced_more ?_
  refine nameX_L F25 rfl ?_
  refine spliced_none ?_
  refine ⟨(Fr.bs F25 B).X, ?_⟩
  dsimp only
  refine use (R := fun v _ => ∃ u, v = .str (fm (sp1 first) (tx (ml ++ [c] ++ z))) u) F25 N25 (by dsimp only; omega) (c_written (Fr.bs F25 B) (by simp only [depth_deeper]; omega) (by dsimp only; omega) (by rw [tx_len]; omega)) ?_
  rintro _ h26 tk26 ⟨u26, rfl⟩ F26 N26 hk26 hpos26
  dsimp only
  refine storeX_C F26 N26 (c := L + 1) rfl (by k_updF) dA (fun h27 oA' F27 N27 dA' => ?_)
  dsimp only at N27 ⊢
  -- b
  refine wpAny_execs_cons ?_
  refine wpAny_Assign_Name ?_
  refine Call_ ?_
  refine gname (Fr.bs F27 B) (by k_is) ?_ rfl rfl rfl (by decide)
  refine callWith_K (Fr.bs F27 B).X (by k_is) ?_
  refine spliced_more ?_
  refine nameX_L F27 rfl ?_
  refine spliced_more ?_
  refine nameX_L F27 rfl ?_
  refine spliced_none ?_
  refine ⟨(Fr.bs F27 B).X, ?_⟩
  dsimp only
  refine use (R := fun v _ => ∃ u, v = .str (fm (sp1 second) (tx (tail ++ z ++ ml))) u) F27 N27 (by dsimp only; omega) (c_written (Fr.bs F27 B) (by simp only [depth_deeper]; omega) (by dsimp only; omega) (by rw [tx_len]; omega)) ?_
  rintro _ h28 tk28 ⟨u28, rfl⟩ F28 N28 hk28 hpos28
  dsimp only
  refine storeX_C F28 N28 (c := L + 1 + 1) rfl (by k_updF) dB (fun h29 oB' F29 N29 dB' => ?_)
  dsimp only at N29 ⊢
  have ea : fm (sp1 first) (tx (ml ++ [c] ++ z)) = tx ((ml ++ [c] ++ z).flatMap (sp1 first)) := by simp [fm, tx]
  have eb : fm (sp1 second) (tx (tail ++ z ++ ml)) = tx ((tail ++ z ++ ml).flatMap (sp1 second)) := by simp [fm, tx]
  rw [ea] at dA'
  rw [eb] at dB'
  generalize hSL : ml ++ [c] ++ z = SL at F29 dA' hsl
  generalize hTL : tail ++ z ++ ml = TL at F29 dB' htll
  have hal := length_flatMap_le (len_sp1 first) SL
  have hbl := length_flatMap_le (len_sp1 second) TL
  generalize hAL : SL.flatMap (sp1 first) = AL at dA' hal
  generalize hBL : TL.flatMap (sp1 second) = BL at dB' hbl
  clear F28 N28 F27 N27 F26 N26 F25 N25 ea eb
  -- told
  refine wpAny_execs_cons ?_
  refine evCompA (fun v => match v with | .int n _ => decide (AL.drop (AL.length - n.toNat) = BL.take n.toNat) | _ => false) (fun v y => ∃ (n : Int) (u u' : Tok), v = Value.int n u ∧ y = Value.int n u') (cl := [(Str.ofString "b", L + 1 + 1), (Str.ofString "a", L + 1)]) rfl rfl (by decide) rfl (by decide) rfl rfl rfl hA (by dsimp only; omega) ?_
  refine Call_ ?_
  refine bname (Fr.bs F29 B) (by k_is) (by boot_by_name) (by decide) ?_ rfl rfl rfl rfl (by decide)
  refine PyProof.Rows.callWith_type1 ?_
  refine spliced_more ?_
  refine wpAny_Constant_int ?_
  refine spliced_more ?_
  refine wpAny_BinOp ?_
  refine Call_ ?_
  refine bname (Fr.bs F29 B) (by k_is) (by boot_by_name) (by decide) ?_ rfl rfl rfl rfl (by decide)
  refine PyProof.Rows.callWith_builtin1 ?_
  refine spliced_more ?_
  refine nameX_C N29 (c := L + 1) rfl (by k_mem) dA' ?_
  refine spliced_none ?_
  refine PyProof.Rows.len_str (by rw [tx_len]; omega) ?_
  dsimp only
  refine wpAny_Constant_int ?_
  refine add_int ?_
  refine spliced_none ?_
  dsimp only
  refine wpAny_with_toks (n := 1) (by dsimp only; omega) ?_
  refine range2_rows F29 N29 (fun h30 tk30 r1 r2 r3 hr F30 N30 hk30 hpos30 => ?_)
  dsimp only at hr hpos30 ⊢
  rw [tx_len] at hr
  have hrc : ((AL.length : Int) + 1) = ((AL.length + 1 : Nat) : Int) := by push_cast; rfl
  rw [hrc] at hr
  have hrs : Builtin.Range.rangeSize 1 ((AL.length + 1 : Nat) : Int) 1 = (AL.length : Int) := by rw [rangeSize_one]; split <;> omega
  refine Or.inr (Or.inl ⟨_, 1, _, _, _, _, AL.length, rfl, hr, rng_small _ _ (by omega) (by omega) (by omega), hrs, by rw [sizeLine_eq]; omega, ⟨?_, ?_⟩, ⟨_, F30.ns, ?_⟩⟩)
  · intro C j v s₃ m₃ E' hv hns hm hk ht' hC
    obtain ⟨hj, uv, rfl⟩ := hv
    have B3 : Bs w mg mb s₃.heap := Bs.keeps (Fr.bs F30 B) hk
    refine wpAny_tests_one ?_
    refine wpAny_isTrue_Compare1 ?_
    refine Subscript_ ?_
    refine wpAny_Name (wpAny_loadName_cell rfl rfl (c := L + 1) rfl ⟨oA', hk _ _ (N30.get (by k_mem)), dA'⟩ ?_) (by decide)
    refine wpAny_Slice ?_
    refine evalPart_some_step ?_
    refine wpAny_BinOp ?_
    refine Call_ ?_
    refine bname B3 (by k_is) (by boot_by_name) (by decide) ?_ rfl rfl rfl rfl (by decide)
    refine PyProof.Rows.callWith_builtin1 ?_
    refine spliced_more ?_
    refine wpAny_Name (wpAny_loadName_cell rfl rfl (c := L + 1) rfl ⟨oA', hk _ _ (N30.get (by k_mem)), dA'⟩ ?_) (by decide)
    refine spliced_none ?_
    refine PyProof.Rows.len_str (by rw [tx_len]; omega) ?_
    dsimp only
    refine wpAny_Name (wpAny_loadName_local rfl rfl hns hm ?_) (by decide)
    refine sub_int ?_
    refine evalPart_none_step ?_
    refine evalPart_none_step ?_
    dsimp only
    rw [tx_len, show ((AL.length : Int) - (1 + (j : Int))) = ((AL.length - (1 + j) : Nat) : Int) by omega]
    refine txt_from (i := AL.length - (1 + j)) (fun h31 t31 tk31 hk31 => ?_) ?hs ?ht (by omega)
    case hs => rfl
    case ht => intro _; rfl
    try dsimp only
    refine Subscript_ ?_
    refine wpAny_Name (wpAny_loadName_cell rfl rfl (c := L + 1 + 1) rfl ⟨oB', hk31 _ _ (hk _ _ (N30.get (by k_mem))), dB'⟩ ?_) (by decide)
    refine wpAny_Slice ?_
    refine evalPart_none_step ?_
    refine evalPart_some_step ?_
    refine wpAny_Name (wpAny_loadName_local rfl rfl (hns.keeps hk31) hm ?_) (by decide)
    refine evalPart_none_step ?_
    dsimp only
    rw [show (1 + (j : Int)) = ((1 + j : Nat) : Int) by push_cast; rfl]
    refine txt_to (i := 1 + j) (fun h32 t32 tk32 hk32 => ?_) ?hs ?ht (by omega)
    case hs => rfl
    case ht => intro _; rfl
    refine PyProof.Rows.eq_str ?_
    refine wpAny_truthy_bool ?_
    refine ⟨?_, _, _, rfl, fun b o e => hk32 _ _ (hk31 _ _ e)⟩
    have e : (((1 + j : Nat) : Int)).toNat = 1 + j := by omega
    simp only [e]
    by_cases hq : AL.drop (AL.length - (1 + j)) = BL.take (1 + j)
    · rw [decide_eq_true hq, hq]; simp
    · rw [decide_eq_false hq]; simpa [tx] using hq
  · intro C j v s₃ m₃ E' hv _ hns hm hk ht' hC
    obtain ⟨hj, uv, rfl⟩ := hv
    refine wpAny_Name (wpAny_loadName_local rfl rfl hns hm ?_) (by decide)
    exact ⟨⟨_, _, _, rfl, rfl⟩, _, _, rfl, fun _ _ e => e⟩
  intro D33 h33 tk33 ys33 vs33 hD33 hpl33 hlen33 hP33 hF33 hns33 hk33 hpos33
  have F33 := Fr.setA F30 hns33 hk33
  have N33 := News.add F30 (News.setA N30 hk33) hD33 hpl33.choose_spec
  generalize hpl33.choose = n33 at N33
  have hI33 := told_paired hlen33 (fun j v e => (hP33 j v e).2) hF33
  clear hpl33 hns33 hk33 hP33 hF33 hlen33 F30 N30 F29 N29
  dsimp only
  -- empty
  refine wpAny_execs_cons ?_
  refine evCompA (fun _ => true) (fun _ y => ∃ u' : Tok, y = Value.str (tx []) u') (cl := []) rfl rfl (by decide) rfl (by decide) rfl rfl rfl hA (by dsimp only; omega) ?_
  refine Call_ ?_
  refine bname (Fr.bs F33 B) (by k_is) (by boot_by_name) (by decide) ?_ rfl rfl rfl rfl (by decide)
  refine PyProof.Rows.callWith_type1 ?_
  refine spliced_more ?_
  refine wpAny_Constant_int ?_
  refine spliced_none ?_
  dsimp only
  refine wpAny_with_toks (n := 1) (by dsimp only; omega) ?_
  refine range1_rows F33 N33 (fun h34 tk34 r4 r5 r6 hr F34 N34 hk34 hpos34 => ?_)
  dsimp only at hr hpos34 ⊢
  refine Or.inr (Or.inl ⟨_, 0, _, _, _, _, 5, rfl, hr, rng_small 5 0 (by omega) (by omega) (by omega), rng_size 5, by rw [sizeLine_eq]; omega, ⟨?_, ?_⟩, ⟨_, F34.ns, ?_⟩⟩)
  · intro C j v s₃ m₃ E' hv hns hm hk ht' hC
    exact wpAny_tests_nil ⟨rfl, _, _, rfl, fun _ _ e => e⟩
  · intro C j v s₃ m₃ E' hv _ hns hm hk ht' hC
    obtain ⟨hj, uv, rfl⟩ := hv
    have B3 : Bs w mg mb s₃.heap := Bs.keeps (Fr.bs F34 B) hk
    refine Call_ ?_
    refine gname B3 (by k_is) ?_ rfl rfl rfl (by decide)
    refine callWith_K B3.X (by k_is) ?_
    refine spliced_more ?_
    refine wpAny_Name (wpAny_loadName_local rfl rfl hns hm ?_) (by decide)
    refine spliced_more ?_
    refine Calls.Constant_str ?_
    refine spliced_none ?_
    refine ⟨B3.X, ?_⟩
    refine wpAny_mono (c_written (s := { s₃ with toks := s₃.toks + 1 }) B3 (by simp only [depth_deeper]; omega) (by dsimp only; omega) (by decide +kernel)) (fun v s' h => ?_) fun _ _ e => e
    obtain ⟨hK, u', rfl⟩ := h
    obtain ⟨h', tk', rfl, hk'⟩ := hK
    refine ⟨⟨u', ?_⟩, h', tk', rfl, hk'⟩
    have : fm (sp1 (0 + (j : Int))) (Str.ofString "") = tx [] := by
      rw [show Str.ofString "" = tx [] by decide +kernel]; simp [fm, tx]
    rw [← this]
  intro D35 h35 tk35 ys35 vs35 hD35 hpl35 hlen35 hP35 hF35 hns35 hk35 hpos35
  rw [filter_all] at hF35
  have F35 := Fr.setA F34 hns35 hk35
  have N35 := News.add F34 (News.setA N34 hk35) hD35 hpl35.choose_spec
  generalize hpl35.choose = n35 at N35
  obtain ⟨q35, hq35, hm35⟩ := empties hlen35 hF35
  obtain rfl : ys35 = (strValues q35).toArray := by rw [← hq35]
  clear hpl35 hns35 hk35 hP35 hF35 hlen35 F34 N34 F33 N33
  dsimp only
  -- the answer
  refine wpAny_execs_cons ?_
  refine wpAny_Return_some ?_
  refine BoolOp_and ?_
  refine wpAny_Compare1 ?_
  refine nameX_L F35 rfl ?_
  refine Call_ ?_
  refine gname (Fr.bs F35 B) (by k_is) ?_ rfl rfl rfl (by decide)
  refine callWith_K (Fr.bs F35 B).X (by k_is) ?_
  refine spliced_more ?_
  refine nameX_L F35 rfl ?_
  refine spliced_more ?_
  refine nameX_L F35 rfl ?_
  refine spliced_more ?_
  refine nameX_L F35 rfl ?_
  refine spliced_more ?_
  refine nameX_L F35 rfl ?_
  refine spliced_none ?_
  refine ⟨(Fr.bs F35 B).X, ?_⟩
  dsimp only
  refine use (R := fun v h => ∃ D vs ns, v = .ref D ∧ h.IsList D vs.toArray ∧ IntsAre vs ns ∧ ns.Perm (dueTo (sp1 first) (sp1 second) SL TL (SL.length + 1)) ∧ ns.Pairwise (· ≤ ·)) F35 N35 (by dsimp only; omega)
    (c_due (Fr.bs F35 B) (by simp only [depth_deeper]; omega) hA (by simp only [Around.deeper_units]; omega) (by dsimp only; omega) ⟨hf0, hf1⟩ ⟨hs0, hs1⟩ (by omega) (by omega) (due_short hf0 hf1 hs0 hs1 hsl)) ?_
  rintro _ h36 tk36 ⟨D36, vs36, ns36, rfl, hl36, hi36, hp36, ho36⟩ F36 N36 hk36 hpos36
  obtain rfl : ns36 = toldL AL BL := by rw [← hAL, ← hBL]; exact told_due hf0 hf1 hs0 hs1 hp36 ho36
  dsimp only
  refine eq_intsK ⟨_, N36.get (.tail _ (.head _)), rfl, n33, by show Data.seq ys33 n33 = Data.seq ys33.toList.toArray n33; simp⟩ hI33 hl36 hi36 (by simp only [Around.deeper_units]; omega) ?_
  rw [decide_eq_true rfl]
  refine wpAny_truthy_bool ?_
  refine BoolOp_one ?_
  refine wpAny_Compare1 ?_
  refine nameX_L F36 rfl ?_
  refine List_ ?_
  refine spliced_more ?_
  refine Calls.Constant_str ?_
  refine spliced_more ?_
  refine Calls.Constant_str ?_
  refine spliced_more ?_
  refine Calls.Constant_str ?_
  refine spliced_more ?_
  refine Calls.Constant_str ?_
  refine spliced_more ?_
  refine Calls.Constant_str ?_
  refine spliced_none ?_
  dsimp only
  refine newList_K F36 N36 (fun D37 h37 F37 N37 _ => ?_) (by rw [sizeLine_eq]; exact (by decide : 5 ≤ 16777216))
  dsimp only
  refine eq_texts (q1 := q35) (q2 := [(Str.ofString "", tk36), (Str.ofString "", tk36 + 1), (Str.ofString "", tk36 + 1 + 1), (Str.ofString "", tk36 + 1 + 1 + 1), (Str.ofString "", tk36 + 1 + 1 + 1 + 1)]) ⟨_, N37.get (.tail _ (.head _)), rfl, _, rfl⟩ ⟨_, N37.get (.head _), rfl, _, rfl⟩ ?_ (by simp only [Around.deeper_units]; omega) ?_
  · have := congrArg List.length hm35; simpa using this
  · rw [decide_eq_true (by rw [hm35]; simp only [List.map_cons, List.map_nil]; rw [show Str.ofString "" = tx [] by decide +kernel])]
    exact ⟨⟨_, _, rfl, F37.keep⟩, rfl⟩
end Mine
end
section
open PySem PySem.W PyProof.Rows
set_option maxRecDepth 100000
set_option maxHeartbeats 8000000
namespace Mine
theorem final : PySem.Challenge.rw_nb0384_01.Holds := hd (by
  k_fill
  intro w s₀ s₁ mg mb G Y fa o pm cd doc dV kV ho hdd hcd hD hmg hg args vals as hpre hlay hrd hwl hlo
  have KX := kIn_of Y
  refine Ground.open G ?_
  intro T B D TE TW
  wrow_args hpre hlay hrd hwl hlo
  have hfa : mg (Str.ofString "law") = some (.ref 85) := mg_of KX T.g (by k_is)
  have hfa2 := hmg.symm.trans hfa
  cases hfa2
  dsimp only
  refine wpAny_mono (c_law (E := fun _ _ => False) ⟨KX, topRead_of T⟩ (by decide) rfl (by decide) (by assumption) (by assumption) (by omega)) (fun v s' h => ?_) fun _ _ e => e.elim
  obtain ⟨⟨h', tk', rfl, hk⟩, rfl⟩ := h
  refine GoodW.toG ?_
  refine ⟨Or.inl ⟨.bool true, .bool true, [], rfl, ?_, ?_, ?_, ?_⟩, hk, rfl, hg⟩
  · intro cls; rfl
  · first | exact ReadsW.bool _ | constructor
  · exact postW_of (by wrow_shape) (by wtm_val) (by first | rfl | (str_meet; first | done | w_fin))
  · intro _; exact ⟨.nil, fun _ ha => nomatch ha⟩)
end Mine
end
theorem PySem.Challenge.cw_nb0384_01_holds : PySem.Challenge.rw_nb0384_01.Holds := by
  exact Mine.final
