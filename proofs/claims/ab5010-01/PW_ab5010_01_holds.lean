import PyProof.Rows.All
import Wide.All
import OpenK.AllK
import Wide.FinOn
import PySem.Challenge.RW_ab5010_01
/-! ab5010-01: the law over NameDict. First the head and the contracts of the functions (each walked once), then the plain law, last the law's own body. -/
set_option Elab.async false
set_option maxRecDepth 100000
set_option maxHeartbeats 8000000
section
open PySem PySem.W PyProof.Rows
namespace Mine
open_top hd for PySem.Challenge.rw_ab5010_01
end Mine
end
section
open PySem PySem.W PyProof.Rows PySem.Calls
namespace Mine
/-! ## the program's model, the kept part of the top -/
abbrev prg : Program := PySem.Challenge.rw_ab5010_01.row.prog

/-- everything that stood stands -/
def Ext (h h' : Heap) : Prop := ∀ b o, h.get? b = some o → h'.get? b = some o
theorem Ext.rfl' {h : Heap} : Ext h h := fun _ _ e => e
theorem Ext.trans {a b c : Heap} (x : Ext a b) (y : Ext b c) : Ext a c := fun d o e => y d o (x d o e)
theorem Ext.push {h : Heap} (o : Obj) : Ext h (h.push o) := fun _ _ e => Heap.get?_push_of_some _ e

/-! ## bytes.lower -/
theorem slot_lower : Slot "bytes" "lower" "bytes.lower" :=
  .of (owner := "bytes") (n := "lower") (by rw [typeLookup_type, builtinLookup_eq_fast]; kernel_rfl) (by decide +kernel) (by decide +kernel) (by decide +kernel)
    (by first | exact .inl (by decide +kernel) | exact .inr (by decide +kernel)) (by rw [isSubtype_type]; kernel_rfl)
theorem type_lower : typeOf (.builtin "bytes.lower") = pure (.type "method_descriptor") := by show builtinType _ = _; rw [builtinType_eq_fast]; kernel_rfl
theorem entry_lower : entryFor table "bytes.lower" = some Builtin.«bytes.lower» := entryFor_of_tree (by kernel_rfl)
theorem args_lower (a : Value) : argsOk "bytes.lower" ⟨[a], []⟩ := by
  unfold argsOk; rw [signature?_of (id := "bytes.lower") (n := ['r', 'e', 'w', 'o', 'l']) (o := ['s', 'e', 't', 'y', 'b']) (by kernel_rfl) FB.owner_bytes]; kernel_rfl

/-- a label's small letters -/
def lowB (b : List UInt8) : List UInt8 := b.map Builtin.Bytes.toLower
/-- a name's small letters -/
def low (ls : List (List UInt8)) : List (List UInt8) := ls.map lowB
theorem lowB_length (b : List UInt8) : (lowB b).length = b.length := by simp [lowB]
theorem low_length (b : List (List UInt8)) : (low b).length = b.length := by simp [low]

section
variable {w : World} {A : Around} {s : Shared} {E : Value → Shared → Prop}
theorem lower_entry (b : List UInt8) (t : Tok) : Builtin.«bytes.lower» ⟨[.bytes b.toArray t], []⟩ = (mkBytes (lowB b).toArray >>= fun v => ret v) := by
  rfl
theorem call_lower {b : List UInt8} {t : Tok} {Q : Value → Shared → Prop} (hb : b.length ≤ sizeLine) (h : Q (.bytes (lowB b).toArray s.toks) { s with toks := s.toks + 1 }) :
    wpAny (model prg w) A (call (.builtin "bytes.lower") [.bytes b.toArray t]) Q E s := by
  refine wpAny_call_entry slot_lower (typeIs_bytes _ _ _) entry_lower ?_ (args_lower _)
  rw [lower_entry]
  unfold mkBytes
  rw [if_neg (by simp [lowB_length]; omega)]
  exact wpAny_bind (wpAny_bind (wpAny_fresh (wpAny_pure (wpAny_pure ⟨_, rfl, h⟩))))
theorem method_lower {M : Model} {b : Array UInt8} {t : Tok} {pl : Sem Bool} {Q : Value × List Value → Shared → Prop} (h : Q (.builtin "bytes.lower", [.bytes b t]) s) : wpAny M A (getMethod (.bytes b t) "lower" pl) Q E s := by
  with_reducible exact KBd.method_of (.bytes b t) (typeIs_bytes _ _ _) slot_lower type_lower KBd.noRef h
end

/-! ## a def of the top is entered: everything below it stays -/
theorem enter {w : World} {A : Around} {s : Shared} {Q E : Value → Shared → Prop} {K : Frag} {name qual : Str} {params : Arguments} {body : List Stmt} {scope : Scope} {dV kV doc pm cdv ct oc : Value} {an od : Option Addr} {osl : Array (Option Value)} {f : Addr} {pos : List Value} {kw : List (Str × Value)} {binds : List (Str × Value)}
    (X : K.In s.heap) (hlim : s.heap.NoLimit)
    (ho : K.lookup f = some ⟨oc, od, .func (fnOf name qual params body scope dV kV doc pm an cdv ct), osl⟩) (hcd : codeIn K cdv qual = true) (hroom : A.depth < recursionLimit)
    (hbind : BindsTo s (fnOf name qual params body scope dV kV doc pm an cdv ct) ⟨pos, kw⟩ binds) (hloc : ∀ y ∈ binds, scope.names.lookup y.1 = some .local)
    (hcell : ∀ x ∈ scope.names, x.2 ≠ .cell) (hco : scope.isCoroutine = false) (hgen : scope.isGenerator = false) (hk : scope.kind = .function)
    (h : ∀ h₁, Fr s.heap s.heap.objs.size h₁ (fun y => binds.reverse.lookup y) →
      wpAny (model prg w) (A.deeper (envOf qual scope s.heap.objs.size f cdv)) (execs body (envOf qual scope s.heap.objs.size f cdv))
        (fun fl s' => Q (match fl with | .ret v => v | _ => .none) s')
        (fun e s' => wpAny (model prg w) (A.deeper (envOf qual scope s.heap.objs.size f cdv)) (leaving (envOf qual scope s.heap.objs.size f cdv) e) (fun _ s'' => E e s'') (fun e' s'' => E e' s'') s')
        { s with heap := h₁, toks := s.toks + binds.length }) :
    wpAny (model prg w) A (call (.ref f) pos kw) Q E s := by
  refine wpAny_call ?_
  exact codeAny_call_def (fd := fnOf name qual params body scope dV kV doc pm an cdv ct) (body := body) (binds := binds) hroom (X _ _ ho) rfl hlim (codeRec_of X hcd) rfl hbind hcell hloc
    (fun h₁ hns hk₁ => h h₁ ⟨hns, hk₁, Nat.le_refl _⟩) hco hgen hk

section
variable {w : World} {p : Program} {loose : List Str} {mean : ExcName → Option Value} {mg mb : Str → Option Value} {A : Around} {s : Shared} {Q E : Value → Shared → Prop}
/-! ## _maybe_convert_to_binary -/
theorem maybe_ok {b : Array UInt8} {tk : Tok} (T : Top p loose mean mg mb s.heap) (hdp : A.depth < recursionLimit)
    (h : ∀ h' tk', Ext s.heap h' → Q (.bytes b tk) { s with heap := h', toks := tk' }) :
    (hd.heap_39 w.params).In s.heap → wpAny (model PySem.Challenge.rw_ab5010_01.row.prog w) A (call (.ref 153) [.bytes b tk]) Q E s := by
  k_fill
  intro X
  k_dflt (refine enter X T.nolimit (by k_is) (by k_is) hdp (BindsTo.of_eq rfl) (locs rfl) (by decide) rfl rfl rfl ?_)
  intro h₁ F
  have N : News s.heap s.heap.objs.size h₁ [] := News.nil
  (try k_fold)
  k_steps
  exact h _ _ F.keep
end
end Mine
end
section
open PySem PySem.W PyProof.Rows PySem.Calls
namespace Mine

/-! ## a def of the top that raises nothing -/
theorem enterP {w : World} {A : Around} {s : Shared} {Q E : Value → Shared → Prop} {K : Frag} {name qual : Str} {params : Arguments} {body : List Stmt} {scope : Scope} {dV kV doc pm cdv ct oc : Value} {an od : Option Addr} {osl : Array (Option Value)} {f : Addr} {pos : List Value} {kw : List (Str × Value)} {binds : List (Str × Value)}
    (X : K.In s.heap) (hlim : s.heap.NoLimit)
    (ho : K.lookup f = some ⟨oc, od, .func (fnOf name qual params body scope dV kV doc pm an cdv ct), osl⟩) (hcd : codeIn K cdv qual = true) (hroom : A.depth < recursionLimit)
    (hbind : BindsTo s (fnOf name qual params body scope dV kV doc pm an cdv ct) ⟨pos, kw⟩ binds) (hloc : ∀ y ∈ binds, scope.names.lookup y.1 = some .local)
    (hcell : ∀ x ∈ scope.names, x.2 ≠ .cell) (hco : scope.isCoroutine = false) (hgen : scope.isGenerator = false) (hk : scope.kind = .function)
    (h : ∀ L h₁ tk, Fr s.heap L h₁ (fun y => binds.reverse.lookup y) →
      wpAny (model prg w) (A.deeper (envOf qual scope L f cdv)) (execs body (envOf qual scope L f cdv))
        (fun fl s' => Q (match fl with | .ret v => v | _ => .none) s') (fun _ _ => False)
        { s with heap := h₁, toks := tk }) :
    wpAny (model prg w) A (call (.ref f) pos kw) Q E s :=
  enter X hlim ho hcd hroom hbind hloc hcell hco hgen hk fun h₁ F => wpAny_mono (h _ h₁ _ F) (fun _ _ x => x) fun _ _ x => x.elim

/-- what is wanted, behind a letter: the walk leaves it alone -/
theorem hideQ {α : Type} {M : Model} {A : Around} {t : Sem α} {Q : α → Shared → Prop} {E : Value → Shared → Prop} {s : Shared} (h : ∀ QQ : α → Shared → Prop, (∀ y s', Q y s' → QQ y s') → wpAny M A t QQ E s) : wpAny M A t Q E s := h Q fun _ _ x => x

/-! ## comprehensions over a tuple, a list, bytes -/
section
variable {w : World} {A : Around} {s : Shared} {Q E : Value → Shared → Prop} {env : Env} {scope : Scope} {cl : List (Str × Addr)} {x : Str} {ifs : List Expr} {elt : Expr} {p : Value → Bool} {F : Value → Value → Prop}

abbrev testsTree (ifs : List Expr) (env : Env) : Sem Bool := forIn ifs true fun c r => if r = true then do let ok ← isTrue c env (eval c env); pure (ForInStep.yield ok) else pure (ForInStep.yield r)

/-- what a comprehension's turn must show -/
structure Turns (w : World) (A : Around) (env : Env) (scope : Scope) (cl : List (Str × Addr)) (x : Str) (ifs : List Expr) (elt : Expr) (S : Value → Prop) (p : Value → Bool) (F : Value → Value → Prop) (h : Heap) : Prop where
  tests : ∀ C v s₃ m₃ E', h.get? C = none → S v → s₃.heap.Ns C m₃ → m₃ x = some v → Ext h s₃.heap →
    wpAny (model prg w) A (testsTree ifs (compEnvC scope cl C env)) (fun ok s₄ => ok = p v ∧ Keeps s₃ s₄) E' s₃
  elt : ∀ C v s₃ m₃ E', h.get? C = none → S v → p v = true → s₃.heap.Ns C m₃ → m₃ x = some v → Ext h s₃.heap →
    wpAny (model prg w) A (eval elt (compEnvC scope cl C env)) (fun y s₄ => F v y ∧ Keeps s₃ s₄) E' s₃

theorem get_none_of_size {h : Heap} {a : Addr} (ha : h.objs.size ≤ a) : h.get? a = none := by
  cases e : h.get? a with
  | none => rfl
  | some o => exact absurd (Heap.lt_size e) (Nat.not_lt.mpr ha)
theorem ext_of_wr {h h₂ h₃ : Heap} {oI : Obj} (e : h₂ = h.push oI) (k : ∀ b o, b ∉ [h.objs.size] → h₂.get? b = some o → h₃.get? b = some o) : Ext h h₃ := fun b o q => by
  subst e
  exact k b o (fun hm => by rw [List.mem_singleton.mp hm] at q; exact absurd (Heap.lt_size q) (Nat.lt_irrefl _)) (Heap.get?_push_of_some _ q)

/-- the source's iterator stands at I; the rest is the turn's and the end's -/
def CompAt (w : World) (A : Around) (env : Env) (scope : Scope) (cl : List (Str × Addr)) (x : Str) (ifs : List Expr) (elt : Expr) (p : Value → Bool) (F : Value → Value → Prop) (Q : Value → Shared → Prop) (it : Value) (s₂ : Shared) : Prop :=
  ∃ I fp wr n P St, it = .ref I ∧ Walks prg w A I fp wr n P St ∧ n ≤ sizeLine ∧ St 0 s₂.heap ∧ (∀ b ∈ fp, b < s₂.heap.objs.size) ∧
      QuietOnC prg w A env scope cl x ifs elt wr P p F s₂ ∧
      (∀ D h' tk ys (vs : List Value), s₂.heap.get? D = none → h'.IsList D ys → h'.PlainList D ys → vs.length = n → (∀ j v, vs[j]? = some v → P j v) → Paired F (vs.filter p) ys.toList →
        (∀ b o, b ∉ wr → s₂.heap.get? b = some o → h'.get? b = some o) → Q (.ref D) { s₂ with heap := h', toks := tk })

theorem vs_eq {items : Array Value} {vs : List Value} (hl : vs.length = items.size) (hP : ∀ (j : Nat) v, vs[j]? = some v → items[j]? = some v) : vs = items.toList := by
  apply List.ext_getElem?
  intro j
  cases e : vs[j]? with
  | some v => rw [Array.getElem?_toList, hP j v e]
  | none =>
    have : vs.length ≤ j := List.getElem?_eq_none_iff.mp e
    symm
    rw [List.getElem?_eq_none_iff]; simp; omega

theorem comp_tuple {t : Addr} {items : Array Value} (hh : A.handled = none) (ht : s.heap.IsTuple t items) (hsz : items.size ≤ sizeLine)
    (hT : Turns w A env scope cl x ifs elt (fun v => v ∈ items.toList) p F s.heap)
    (hfin : ∀ D h' tk ys, h'.IsList D ys → s.heap.get? D = none → Paired F (items.toList.filter p) ys.toList → Ext s.heap h' → Q (.ref D) { s with heap := h', toks := tk }) :
    wpAny (model prg w) A (pyIter (.ref t)) (CompAt w A env scope cl x ifs elt p F Q) E s := by
  refine wpAny_pyIter_tuple ht ?_
  obtain ⟨ot, hot, _⟩ := id ht
  have hlt : t < s.heap.objs.size := Heap.lt_size hot
  have hpush := Heap.get?_push_size (h := s.heap) (o := { cls := .type "tuple_iterator", data := .fields #[.ref t, .int 0 0] }) rfl
  refine ⟨s.heap.objs.size, _, _, items.size, _, _, rfl, Walks.tuple hh s.heap.objs.size t (Nat.ne_of_lt hlt) items, hsz, ⟨⟨_, hpush, rfl, rfl⟩, ht.push _⟩, ?_, ?_, ?_⟩
  · intro b hb
    rw [Heap.size_push]
    simp only [List.mem_cons, List.not_mem_nil, or_false] at hb
    rcases hb with rfl | rfl
    · exact Nat.lt_succ_self _
    · exact Nat.lt_succ_of_lt hlt
  · refine ⟨fun C i v s₃ m₃ E' hC hP hn hm hk _ => ?_, fun C i v s₃ m₃ E' hC hP hp hn hm hk _ => ?_⟩
    · exact hT.tests C v s₃ m₃ E' (get_none_of_size (Nat.le_trans (by simp [Heap.size_push]) hC)) (Array.mem_toList_iff.mpr (Array.mem_of_getElem? hP)) hn hm (ext_of_wr rfl hk)
    · exact hT.elt C v s₃ m₃ E' (get_none_of_size (Nat.le_trans (by simp [Heap.size_push]) hC)) (Array.mem_toList_iff.mpr (Array.mem_of_getElem? hP)) hp hn hm (ext_of_wr rfl hk)
  · intro D h' tk ys vs hD hl _ hlen hP hpair hk
    obtain rfl := vs_eq hlen hP
    exact hfin D h' tk ys hl (by cases q : s.heap.get? D with | none => rfl | some o => rw [Heap.get?_push_of_some _ q] at hD; cases hD) hpair (ext_of_wr rfl hk)

theorem comp_list {t : Addr} {items : Array Value} (hh : A.handled = none) (ht : s.heap.IsList t items) (hsz : items.size ≤ sizeLine)
    (hT : Turns w A env scope cl x ifs elt (fun v => v ∈ items.toList) p F s.heap)
    (hfin : ∀ D h' tk ys, h'.IsList D ys → s.heap.get? D = none → Paired F (items.toList.filter p) ys.toList → Ext s.heap h' → Q (.ref D) { s with heap := h', toks := tk }) :
    wpAny (model prg w) A (pyIter (.ref t)) (CompAt w A env scope cl x ifs elt p F Q) E s := by
  refine wpAny_pyIter_list ht ?_
  obtain ⟨ot, hot, hr⟩ := id ht
  have hlt : t < s.heap.objs.size := Heap.lt_size hot
  have hpush := Heap.get?_push_size (h := s.heap) (o := { cls := .type "list_iterator", data := .fields #[.ref t, .int 0 0] }) rfl
  refine ⟨s.heap.objs.size, _, _, items.size, _, _, rfl, Walks.list hh s.heap.objs.size t (Nat.ne_of_lt hlt) items, hsz, ⟨⟨_, hpush, rfl, rfl⟩, ⟨_, Heap.get?_push_of_some _ hot, hr⟩⟩, ?_, ?_, ?_⟩
  · intro b hb
    rw [Heap.size_push]
    simp only [List.mem_cons, List.not_mem_nil, or_false] at hb
    rcases hb with rfl | rfl
    · exact Nat.lt_succ_self _
    · exact Nat.lt_succ_of_lt hlt
  · refine ⟨fun C i v s₃ m₃ E' hC hP hn hm hk _ => ?_, fun C i v s₃ m₃ E' hC hP hp hn hm hk _ => ?_⟩
    · exact hT.tests C v s₃ m₃ E' (get_none_of_size (Nat.le_trans (by simp [Heap.size_push]) hC)) (Array.mem_toList_iff.mpr (Array.mem_of_getElem? hP)) hn hm (ext_of_wr rfl hk)
    · exact hT.elt C v s₃ m₃ E' (get_none_of_size (Nat.le_trans (by simp [Heap.size_push]) hC)) (Array.mem_toList_iff.mpr (Array.mem_of_getElem? hP)) hp hn hm (ext_of_wr rfl hk)
  · intro D h' tk ys vs hD hl _ hlen hP hpair hk
    obtain rfl := vs_eq hlen hP
    exact hfin D h' tk ys hl (by cases q : s.heap.get? D with | none => rfl | some o => rw [Heap.get?_push_of_some _ q] at hD; cases hD) hpair (ext_of_wr rfl hk)

theorem comp_seq {t : Addr} {items : Array Value} (hh : A.handled = none) (ht : s.heap.IsList t items ∨ s.heap.IsTuple t items) (hsz : items.size ≤ sizeLine)
    (hT : Turns w A env scope cl x ifs elt (fun v => v ∈ items.toList) p F s.heap)
    (hfin : ∀ D h' tk ys, h'.IsList D ys → s.heap.get? D = none → Paired F (items.toList.filter p) ys.toList → Ext s.heap h' → Q (.ref D) { s with heap := h', toks := tk }) :
    wpAny (model prg w) A (pyIter (.ref t)) (CompAt w A env scope cl x ifs elt p F Q) E s :=
  ht.elim (fun h => comp_list hh h hsz hT hfin) fun h => comp_tuple hh h hsz hT hfin

theorem comp_bytes {b : Array UInt8} {t : Tok} (hh : A.handled = none) (hsz : b.size ≤ sizeLine)
    (hT : Turns w A env scope cl x ifs elt (fun v => ∃ c u, c ∈ b.toList ∧ v = .int (c.toNat : Int) u) p F s.heap)
    (hfin : ∀ D h' tk ys (vs : List Value), h'.IsList D ys → s.heap.get? D = none → vs.length = b.size → (∀ (j : Nat) v, vs[j]? = some v → ∃ c u, b[j]? = some c ∧ v = .int (c.toNat : Int) u) → Paired F (vs.filter p) ys.toList → Ext s.heap h' → Q (.ref D) { s with heap := h', toks := tk }) :
    wpAny (model prg w) A (pyIter (.bytes b t)) (CompAt w A env scope cl x ifs elt p F Q) E s := by
  refine KBw.pyIter_bytes ?_
  have hpush := Heap.get?_push_size (h := s.heap) (o := { cls := .type "bytes_iterator", data := .fields #[.bytes b t, .int 0 0] }) rfl
  refine ⟨s.heap.objs.size, _, _, b.size, _, _, rfl, KBw.walks hh s.heap.objs.size b t, hsz, ⟨_, hpush, rfl, rfl⟩, ?_, ?_, ?_⟩
  · intro b hb
    rw [Heap.size_push, List.mem_singleton.mp hb]
    exact Nat.lt_succ_self _
  · refine ⟨fun C i v s₃ m₃ E' hC hP hn hm hk _ => ?_, fun C i v s₃ m₃ E' hC hP hp hn hm hk _ => ?_⟩
    · obtain ⟨c, u, hc, rfl⟩ := hP
      exact hT.tests C _ s₃ m₃ E' (get_none_of_size (Nat.le_trans (by simp [Heap.size_push]) hC)) ⟨c, u, Array.mem_toList_iff.mpr (Array.mem_of_getElem? hc), rfl⟩ hn hm (ext_of_wr rfl hk)
    · obtain ⟨c, u, hc, rfl⟩ := hP
      exact hT.elt C _ s₃ m₃ E' (get_none_of_size (Nat.le_trans (by simp [Heap.size_push]) hC)) ⟨c, u, Array.mem_toList_iff.mpr (Array.mem_of_getElem? hc), rfl⟩ hp hn hm (ext_of_wr rfl hk)
  · intro D h' tk ys vs hD hl _ hlen hP hpair hk
    exact hfin D h' tk ys vs hl (by cases q : s.heap.get? D with | none => rfl | some o => rw [Heap.get?_push_of_some _ q] at hD; cases hD) hlen hP hpair (ext_of_wr rfl hk)

theorem comp_eval {iter : Expr} {px pos : Pos} (p : Value → Bool) (F : Value → Value → Prop)
    (hclos : closureFor scope env = pure cl) (hcell : ∀ y ∈ scope.names, y.2 ≠ .cell) (hkind : scope.kind = .function)
    (hnames : ∀ y ∈ scope.names, y.2 = .local → scope.names.lookup y.1 = some .local) (hx : scope.names.lookup x = some .local)
    (h : wpAny (model prg w) A (eval iter env) (fun xv s₁ => wpAny (model prg w) A (pyIter xv) (CompAt w A env scope cl x ifs elt p F Q) E s₁) E s)
    (hs : ∀ x, foldedSetIterable iter env x = pure x := by intro _; rfl) :
    wpAny (model prg w) A (eval (.ListComp elt [⟨.Name x px, iter, ifs, 0⟩] scope pos) env) Q E s :=
  wpAny_ListComp_free p F hclos hcell hkind hnames hx h hs
end
end Mine
end
section
open PySem PySem.W PyProof.Rows PySem.Calls
namespace Mine
/-- steps of the library's walk up to a comprehension, a call of the text's own, a loop -/
local macro_rules | `(tactic| walk_at "my go") => `(tactic| repeat' (
  ((fail_if_success (with_reducible show wpAny _ _ (eval (Expr.ListComp _ _ _ _) _) _ _ _));
   (fail_if_success (with_reducible show wpAny _ _ (call (Value.ref _) _ _) _ _ _));
   (fail_if_success (with_reducible show wpAny _ _ (pyIter _) _ _ _));
   (first | (k_unfold; (try dsimp only)) | walk1 | (dsimp only; walk1)))))

theorem inst_base {g h : Heap} {L x C : Addr} {m : Str → Option Value} {ox : Obj} {od : Option Obj} (F : Fr g L h m) (I : InstAt g x ox C od) : InstAt h x ox C od := by
  refine ⟨F.keep _ _ I.at_, I.cls, I.no, ?_⟩
  have := I.dict
  cases e : ox.dict with
  | none =>
    rw [e] at this
    cases od with
    | none => exact this
    | some o => exact this
  | some dx =>
    rw [e] at this
    cases od with
    | none => exact this
    | some o => exact F.keep _ _ this
local macro_rules | `(tactic| k_inst) => `(tactic| exact inst_base (by k_asm) (by assumption))

/-- a name of the program's: the object, its dict, the tuple of its labels -/
structure NameAt (w : World) (h : Heap) (x C dx t : Addr) (tk : Tok) (ls : List (List UInt8)) : Prop where
  inst : InstAt h x (instObj C dx) C (some (W.dictOf [⟨PyData.keyHash w.params (Str.ofString "labels"), .str (Str.ofString "labels") tk, .ref t⟩] 1))
  tup : IsTupleKey (bytesKind prg w) h ls t

theorem tupk_ext {w : World} {h h' : Heap} {ls : List (List UInt8)} {t : Addr} (x : IsTupleKey (bytesKind prg w) h ls t) (e : Ext h h') : IsTupleKey (bytesKind prg w) h' ls t :=
  let ⟨o, i, n, ho, r⟩ := x; ⟨o, i, n, e _ _ ho, r⟩
theorem paired_items {w : World} {f : List UInt8 → List UInt8} {F : Value → Value → Prop} (hF : ∀ k v y, isBytes k v = true → F v y → isBytes (f k) y = true) :
    ∀ {ls : List (List UInt8)} {vs ys : List Value}, ItemsAre (bytesKind prg w) ls vs → Paired F vs ys → ItemsAre (bytesKind prg w) (ls.map f) ys
  | _, _, _, .nil, .nil => .nil
  | _, _, _, .cons h r, .cons h' r' => .cons (hF _ _ _ h h') (paired_items hF r r')
theorem items_mem {w : World} : ∀ {ls : List (List UInt8)} {vs : List Value}, ItemsAre (bytesKind prg w) ls vs → ∀ v ∈ vs, ∃ b ∈ ls, isBytes b v = true
  | _, _, .nil, _, h => nomatch h
  | _, _, .cons h r, v, hm => by
    rcases List.mem_cons.mp hm with rfl | hm
    · exact ⟨_, .head _, h⟩
    · obtain ⟨b, hb, e⟩ := items_mem r v hm; exact ⟨b, .tail _ hb, e⟩
theorem filter_true {α : Type} (l : List α) : l.filter (fun _ => true) = l := by simp

theorem tupk_open {w : World} {h : Heap} {ls : List (List UInt8)} {t : Addr} (x : IsTupleKey (bytesKind prg w) h ls t) :
    ∃ vs, h.IsTuple t vs.toArray ∧ ItemsAre (bytesKind prg w) ls vs ∧ vs.length = ls.length ∧ ∃ o, h.get? t = some o := by
  obtain ⟨o, ⟨items⟩, n, ho, hc, hd, hi⟩ := x
  exact ⟨items, ⟨o, ho, hc, n, hd⟩, hi, hi.length.symm, o, ho⟩
theorem len_tupk {w : World} {A : Around} {s : Shared} {Q E : Value → Shared → Prop} {t : Addr} {ls : List (List UInt8)} (ht : IsTupleKey (bytesKind prg w) s.heap ls t) (hl : ls.length ≤ 1000)
    (h : ∀ u, Q (.int ls.length u) { s with toks := s.toks + 1 + 1 }) : wpAny (model prg w) A (call (.builtin "len") [.ref t]) Q E s := by
  obtain ⟨vs, htup, _, hlen, _⟩ := tupk_open ht
  refine len_tuple htup (by rw [List.size_toArray, hlen]; omega) ?_
  rw [List.size_toArray, hlen]
  exact h _

theorem len_lab {w : World} {A : Around} {s : Shared} {Q E : Value → Shared → Prop} {b : List UInt8} {t : Tok} (hl : b.length ≤ 1000)
    (h : ∀ u, Q (.int b.length u) { s with toks := s.toks + 1 + 1 }) : wpAny (model prg w) A (call (.builtin "len") [.bytes b.toArray t]) Q E s := by
  refine len_bytes (by rw [List.size_toArray]; omega) ?_
  rw [List.size_toArray]
  exact h _
theorem items_get {w : World} {ls : List (List UInt8)} {vs : List Value} (h : ItemsAre (bytesKind prg w) ls vs) : ∀ {i : Nat} {v : Value}, vs[i]? = some v → ∃ b t, ls[i]? = some b ∧ v = .bytes b.toArray t := by
  induction h with
  | nil => intro i v e; simp at e
  | cons h _ ih =>
    intro i v e
    cases i with
    | zero =>
      obtain ⟨t, rfl⟩ := isBytes_shape h
      simp only [List.getElem?_cons_zero, Option.some.injEq] at e
      exact ⟨_, t, rfl, e.symm⟩
    | succ i => exact ih e

section
variable {w : World} {p : Program} {loose : List Str} {mean : ExcName → Option Value} {mg mb : Str → Option Value} {A : Around} {s : Shared} {Q E : Value → Shared → Prop}

theorem folded_okC {C x dx t : Addr} {tk : Tok} {ls : List (List UInt8)} (hC : C = 482 ∨ C = 503) (T : Top p loose mean mg mb s.heap) (hh : A.handled = none) (hdp : A.depth + 2 < recursionLimit) (hx : NameAt w s.heap x C dx t tk ls)
    (hsz : ∀ b ∈ ls, b.length ≤ 63) (hsl : ls.length ≤ 1000)
    (h : ∀ h' tk' t, Ext s.heap h' → IsTupleKey (bytesKind prg w) h' (low ls) t → Q (.ref t) { s with heap := h', toks := tk' }) :
    (hd.heap_39 w.params).In s.heap → wpAny (model PySem.Challenge.rw_ab5010_01.row.prog w) A (call (.ref 522) [.ref x]) Q E s := by
  k_fill
  intro X
  rcases hC with rfl | rfl
  all_goals (
    obtain ⟨I, ht⟩ := hx
    k_dflt (refine enterP X T.nolimit (by k_is) (by k_is) (by omega) (BindsTo.of_eq rfl) (locs rfl) (by decide) rfl rfl rfl ?_)
    intro L h₁ tk₁ F
    have N : News s.heap L h₁ [] := News.nil
    (try k_fold)
    walk_at "my go"
    refine comp_eval (cl := []) (fun _ => true) (fun v y => ∀ b, isBytes b v = true → isBytes (lowB b) y = true) rfl (by decide) rfl (by decide) rfl ?_
    walk_at "my go"
    obtain ⟨ot, items, n, hot, hotc, hotd, hi⟩ := id ht
    refine comp_tuple (items := items) hh ⟨ot, F.keep _ _ hot, hotc, n, hotd⟩ (by rw [← Array.length_toList, ← hi.length, sizeLine_eq]; omega) ⟨fun C v s₃ m₃ E' hC hS hn hm hk => ?_, fun C v s₃ m₃ E' hC hS hp hn hm hk => ?_⟩ ?_
    · exact wpAny_tests_nil ⟨rfl, s₃.heap, s₃.toks, rfl, fun _ _ e => e⟩
    · obtain ⟨b, hb, e⟩ := items_mem hi v hS
      obtain ⟨t', rfl⟩ := isBytes_shape e
      refine MethodCall_ (ldVarK hn hm ?_)
      refine method_lower (callWith_method0 (call_lower (by have := hsz b hb; rw [sizeLine_eq]; omega) ⟨fun b' hb' => ?_, s₃.heap, _, rfl, fun _ _ e => e⟩))
      simp only [isBytes, beq_iff_eq] at hb' ⊢
      rw [hb']
    · intro D h' tk' ys hD hD0 hpair hext
      rw [filter_true] at hpair
      have hit := paired_items (w := w) (f := lowB) (fun k v y hk hF => hF k hk) hi hpair
      dsimp only
      refine args_nil ?_
      refine call_tuple_list hD (fun h'' hk'' => ?_) (by rw [← Array.length_toList, ← hit.length, List.length_map, sizeLine_eq]; omega)
      refine h _ _ _ ?_ ⟨_, ys, 0, Heap.get?_push_size _ rfl, rfl, rfl, hit⟩
      exact fun b o e => Heap.get?_push_of_some _ (hk'' _ _ (hext _ _ (F.keep _ _ e))))

theorem folded_ok {x dx t : Addr} {tk : Tok} {ls : List (List UInt8)} (T : Top p loose mean mg mb s.heap) (hh : A.handled = none) (hdp : A.depth + 2 < recursionLimit) (hx : NameAt w s.heap x 482 dx t tk ls)
    (hsz : ∀ b ∈ ls, b.length ≤ 63) (hsl : ls.length ≤ 1000)
    (h : ∀ h' tk' t, Ext s.heap h' → IsTupleKey (bytesKind prg w) h' (low ls) t → Q (.ref t) { s with heap := h', toks := tk' }) :
    (hd.heap_39 w.params).In s.heap → wpAny (model PySem.Challenge.rw_ab5010_01.row.prog w) A (call (.ref 522) [.ref x]) Q E s := folded_okC (.inl rfl) T hh hdp hx hsz hsl h
end
end Mine
end
section
open PySem PySem.W PyProof.Rows PySem.Calls
namespace Mine

/-! ## a for loop that raises nothing, by an invariant over the frame's names and the ledger -/
def LoopOut (g : Heap) (L : Addr) (J : Nat → (Str → Option Value) → List (Addr × Obj) → Prop) (I : Addr) (oI : Obj) (i : Nat) (s : Shared) (Q : Flow → Shared → Prop) (f : Flow) (s₃ : Shared) : Prop :=
  match f with
  | .ret v => Q (.ret v) s₃
  | .brk => Q .next s₃
  | _ => ∃ h' tk' m' nx', s₃ = { s with heap := h', toks := tk' } ∧ Fr g L h' m' ∧ News g L h' ((I, oI) :: nx') ∧ (∀ p ∈ nx', p.1 ≠ I) ∧ J (i + 1) m' nx'

theorem for_led {w : World} {A : Around} {E : Value → Shared → Prop} {s : Shared} {env : Env} {Q : Flow → Shared → Prop} {g : Heap} {m₀ : Str → Option Value} {nx₀ src : List (Addr × Obj)} {I : Addr} {fp : List Addr} {n : Nat} {P : Nat → Value → Prop} {St : Nat → Heap → Prop} {target : Expr} {body : List Stmt}
    (W : Walks prg w A I fp [I] n P St) (J : Nat → (Str → Option Value) → List (Addr × Obj) → Prop)
    (hIg : g.get? I = none) (hIL : I ≠ env.locals) (hIo : ∀ i h, St i h → ∃ o, h.get? I = some o)
    (hfp : ∀ b ∈ fp, b = I ∨ (∃ o, g.get? b = some o) ∨ ∃ o, (b, o) ∈ src) (hsrc : ∀ i m nx, J i m nx → ∀ p ∈ src, p ∈ nx)
    (hst : St 0 s.heap) (F : Fr g env.locals s.heap m₀) (N : News g env.locals s.heap nx₀) (hnI : ∀ p ∈ nx₀, p.1 ≠ I) (hJ : J 0 m₀ nx₀)
    (turn : ∀ i v m₁ nx h tk oI, i < n → P i v → J i m₁ nx → (∀ p ∈ nx, p.1 ≠ I) → St (i + 1) h → Fr g env.locals h m₁ → News g env.locals h ((I, oI) :: nx) →
      wpAny (model prg w) A (letOwnedTupleGo target (.ref I) v) (fun _ s₁ => wpAny (model prg w) A (assign target env v) (fun _ s₂ => wpAny (model prg w) A (execs body env) (LoopOut g env.locals J I oI i s Q)
        (fun _ _ => False) s₂) (fun _ _ => False) s₁) (fun _ _ => False) { s with heap := h, toks := tk })
    (done : ∀ h tk m nx, J n m nx → Fr g env.locals h m → News g env.locals h nx → Q .next { s with heap := h, toks := tk }) :
    codeAny (model prg w) A (.forLoop target (.ref I) body [] env) (fun r s' => match r with | .ok f => Q f s' | .error e => cameBackBy (model prg w) A env E e s') s := by
  refine codeAny_forLoop_any
    (fun k s' => ∃ h tk m nx i, s' = { s with heap := h, toks := tk } ∧ St i h ∧ Fr g env.locals h m ∧ News g env.locals h nx ∧ (∀ p ∈ nx, p.1 ≠ I) ∧ J i m nx ∧ i ≤ n ∧ k = n + 1 - i) ?_ (n + 1)
    ⟨s.heap, s.toks, m₀, nx₀, 0, rfl, hst, F, N, hnI, hJ, Nat.zero_le _, rfl⟩
  rintro k s' ⟨h, tk, m, nx, i, rfl, hst', F', N', hnx, hJ', hi, rfl⟩
  have next : ∀ h₁ : Heap, (∀ b o, b ∉ [I] → h.get? b = some o → h₁.get? b = some o) → Fr g env.locals h₁ m ∧ News g env.locals h₁ nx := fun h₁ hk₁ =>
    ⟨⟨F'.ns.at' fun o e => hk₁ _ o (by simpa using Ne.symm hIL) e, fun b o e => hk₁ b o (by intro hb; rw [List.mem_singleton.mp hb, hIg] at e; cases e) (F'.keep b o e), F'.above⟩,
      fun p hp => ⟨hk₁ _ _ (by simpa using hnx p hp) (N' p hp).1, (N' p hp).2⟩⟩
  by_cases hlt : i < n
  · refine W.item i _ _ _ hlt hst' fun v h₁ tk₁ hP hst₁ hk₁ => ?_
    obtain ⟨F₁, N₁⟩ := next h₁ hk₁
    obtain ⟨oI, hoI⟩ := hIo _ _ hst₁
    have N₂ : News g env.locals h₁ ((I, oI) :: nx) := fun p hp => by
      rcases List.mem_cons.mp hp with rfl | hp
      · exact ⟨hoI, hIL, hIg⟩
      · exact N₁ p hp
    refine wpAny_mono (turn i v m nx h₁ tk₁ oI hlt hP hJ' hnx hst₁ F₁ N₂) (fun _ s₁ h1 => wpAny_mono h1 (fun _ s₂ h2 => wpAny_mono h2 (fun f s₃ h3 => ?_) fun _ _ x => x.elim) fun _ _ x => x.elim) fun _ _ x => x.elim
    have fin : (∃ h' tk' m' nx', s₃ = { s with heap := h', toks := tk' } ∧ Fr g env.locals h' m' ∧ News g env.locals h' ((I, oI) :: nx') ∧ (∀ p ∈ nx', p.1 ≠ I) ∧ J (i + 1) m' nx') →
        ∃ m_1, m_1 < n + 1 - i ∧ ∃ h tk m nx i, s₃ = { s with heap := h, toks := tk } ∧ St i h ∧ Fr g env.locals h m ∧ News g env.locals h nx ∧ (∀ p ∈ nx, p.1 ≠ I) ∧ J i m nx ∧ i ≤ n ∧ m_1 = n + 1 - i := by
      rintro ⟨h', tk', m', nx', rfl, F₃, N₃, hn₃, hJ₃⟩
      refine ⟨n + 1 - (i + 1), by omega, h', tk', m', nx', i + 1, rfl, W.frame _ _ _ hst₁ fun b hb o e => ?_, F₃, fun p hp => N₃ p (.tail _ hp), hn₃, hJ₃, hlt, rfl⟩
      rcases hfp b hb with rfl | ⟨o', ho'⟩ | ⟨o', ho'⟩
      · obtain rfl : oI = o := Option.some.inj (hoI.symm.trans e)
        exact (N₃ _ (.head _)).1
      · have e' := F₁.keep b o' ho'
        obtain rfl : o' = o := Option.some.inj (e'.symm.trans e)
        exact F₃.keep b o' ho'
      · have e' := (N₁ _ (hsrc _ _ _ hJ' _ ho')).1
        obtain rfl : o' = o := Option.some.inj (e'.symm.trans e)
        exact (N₃ _ (.tail _ (hsrc _ _ _ hJ₃ _ ho'))).1
    cases f with
    | ret v => exact h3
    | brk => exact h3
    | next => exact fin h3
    | cont => exact fin h3
  · have hin : i = n := by omega
    subst hin
    refine W.done _ _ _ hst' fun h₁ tk₁ hk₁ => wpAny_execs_nil ?_
    obtain ⟨F₁, N₁⟩ := next h₁ hk₁
    exact done h₁ tk₁ m nx hJ' F₁ N₁

/-- a for's head: the source's iterator is made -/
theorem for_head {w : World} {A : Around} {E : Value → Shared → Prop} {s : Shared} {env : Env} {Q : Flow → Shared → Prop} {target iter : Expr} {body : List Stmt} {pos : Pos}
    (h : wpAny (model prg w) A (eval iter env) (fun x s₁ => wpAny (model prg w) A (pyIter x) (fun it s₂ =>
      codeAny (model prg w) A (.forLoop target it body [] env) (fun r s' => match r with | .ok f => Q f s' | .error e => cameBackBy (model prg w) A env E e s') s₂) E s₁) E s)
    (hs : ∀ x, foldedSetIterable iter env x = pure x := by intro _; rfl) :
    wpAny (model prg w) A (exec (.For target iter body [] pos) env) Q E s := wpAny_For h hs

theorem news_push_iter {g h : Heap} {L : Addr} {m : Str → Option Value} {nx : List (Addr × Obj)} (F : Fr g L h m) (N : News g L h nx) (o : Obj) :
    Fr g L (h.push o) m ∧ News g L (h.push o) nx ∧ (∀ p ∈ nx, p.1 ≠ h.objs.size) ∧ g.get? h.objs.size = none ∧ h.objs.size ≠ L :=
  ⟨F.push _, fun p hp => ⟨Heap.get?_push_of_some _ (N p hp).1, (N p hp).2⟩, fun p hp => Nat.ne_of_lt (Heap.lt_size (N p hp).1), next_is_new F, Nat.ne_of_gt F.ns.lt⟩

/-- a turn's item goes to the loop's name -/
theorem turn_name {w : World} {A : Around} {E : Value → Shared → Prop} {s : Shared} {g : Heap} {m : Str → Option Value} {nx : List (Addr × Obj)} {qual : Str} {scope : Scope} {L f I : Addr} {cd v : Value} {x : Str} {px : Pos} {Q : Unit → Shared → Prop}
    (F : Fr g L s.heap m) (N : News g L s.heap nx)
    (h : ∀ h', Fr g L h' (fun y => if y = x then some v else m y) → News g L h' nx → Q () { s with heap := h', toks := s.toks + 1 })
    (hk : scope.kind = .function := by rfl) (hl : (envOf qual scope L f cd).kindOf x = some .local := by rfl) :
    wpAny (model prg w) A (letOwnedTupleGo (.Name x px) (.ref I) v) (fun _ s₁ => wpAny (model prg w) A (assign (.Name x px) (envOf qual scope L f cd) v) Q E s₁) E s := by
  refine wpAny_pure ?_
  exact wpAny_assign_Name (stN F N h hk hl)

/-- over a tuple -/
theorem for_tuple {w : World} {A : Around} {E : Value → Shared → Prop} {s : Shared} {env : Env} {Q : Flow → Shared → Prop} {g : Heap} {m₀ : Str → Option Value} {nx₀ src : List (Addr × Obj)} {t : Addr} {items : Array Value} {target : Expr} {body : List Stmt}
    (J : Nat → (Str → Option Value) → List (Addr × Obj) → Prop) (hh : A.handled = none) (ht : s.heap.IsTuple t items)
    (hfp : (∃ o, g.get? t = some o) ∨ ∃ o, (t, o) ∈ src) (hsrc : ∀ i m nx, J i m nx → ∀ p ∈ src, p ∈ nx)
    (F : Fr g env.locals s.heap m₀) (N : News g env.locals s.heap nx₀) (hJ : J 0 m₀ nx₀)
    (turn : ∀ I i v m₁ nx h tk oI, i < items.size → items[i]? = some v → J i m₁ nx → (∀ p ∈ nx, p.1 ≠ I) → h.IsTupleIter I t (i + 1) → Fr g env.locals h m₁ → News g env.locals h ((I, oI) :: nx) →
      wpAny (model prg w) A (letOwnedTupleGo target (.ref I) v) (fun _ s₁ => wpAny (model prg w) A (assign target env v) (fun _ s₂ => wpAny (model prg w) A (execs body env) (LoopOut g env.locals J I oI i s Q)
        (fun _ _ => False) s₂) (fun _ _ => False) s₁) (fun _ _ => False) { s with heap := h, toks := tk })
    (done : ∀ h tk m nx, J items.size m nx → Fr g env.locals h m → News g env.locals h nx → Q .next { s with heap := h, toks := tk }) :
    wpAny (model prg w) A (pyIter (.ref t)) (fun it s₂ => codeAny (model prg w) A (.forLoop target it body [] env) (fun r s' => match r with | .ok f => Q f s' | .error e => cameBackBy (model prg w) A env E e s') s₂) E s := by
  refine wpAny_pyIter_tuple ht ?_
  obtain ⟨ot, hot, _⟩ := id ht
  have hlt : t < s.heap.objs.size := Heap.lt_size hot
  have hpush := Heap.get?_push_size (h := s.heap) (o := { cls := .type "tuple_iterator", data := .fields #[.ref t, .int 0 0] }) rfl
  obtain ⟨F', N', hn, hIg, hIL⟩ := news_push_iter F N { cls := .type "tuple_iterator", data := .fields #[.ref t, .int 0 0] }
  refine for_led (src := src) (Walks.tuple hh s.heap.objs.size t (Nat.ne_of_lt hlt) items) J hIg hIL (fun i h hs => let ⟨o, ho, _⟩ := hs.1; ⟨o, ho⟩) ?_ hsrc ⟨⟨_, hpush, rfl, rfl⟩, ht.push _⟩ F' N' hn hJ ?_ ?_
  · intro b hb
    simp only [List.mem_cons, List.not_mem_nil, or_false] at hb
    rcases hb with rfl | rfl
    · exact .inl rfl
    · exact .inr hfp
  · intro i v m₁ nx h tk oI hi hP hJ' hnx hst F₁ N₁
    exact turn _ i v m₁ nx h tk oI hi hP hJ' hnx hst.1 F₁ N₁
  · intro h tk m nx hJ' F₁ N₁
    exact done h tk m nx hJ' F₁ N₁

/-- over a list -/
theorem for_list {w : World} {A : Around} {E : Value → Shared → Prop} {s : Shared} {env : Env} {Q : Flow → Shared → Prop} {g : Heap} {m₀ : Str → Option Value} {nx₀ src : List (Addr × Obj)} {t : Addr} {items : Array Value} {target : Expr} {body : List Stmt}
    (J : Nat → (Str → Option Value) → List (Addr × Obj) → Prop) (hh : A.handled = none) (ht : s.heap.IsList t items)
    (hfp : (∃ o, g.get? t = some o) ∨ ∃ o, (t, o) ∈ src) (hsrc : ∀ i m nx, J i m nx → ∀ p ∈ src, p ∈ nx)
    (F : Fr g env.locals s.heap m₀) (N : News g env.locals s.heap nx₀) (hJ : J 0 m₀ nx₀)
    (turn : ∀ I i v m₁ nx h tk oI, i < items.size → items[i]? = some v → J i m₁ nx → (∀ p ∈ nx, p.1 ≠ I) → h.IsListIter I t (i + 1) → Fr g env.locals h m₁ → News g env.locals h ((I, oI) :: nx) →
      wpAny (model prg w) A (letOwnedTupleGo target (.ref I) v) (fun _ s₁ => wpAny (model prg w) A (assign target env v) (fun _ s₂ => wpAny (model prg w) A (execs body env) (LoopOut g env.locals J I oI i s Q)
        (fun _ _ => False) s₂) (fun _ _ => False) s₁) (fun _ _ => False) { s with heap := h, toks := tk })
    (done : ∀ h tk m nx, J items.size m nx → Fr g env.locals h m → News g env.locals h nx → Q .next { s with heap := h, toks := tk }) :
    wpAny (model prg w) A (pyIter (.ref t)) (fun it s₂ => codeAny (model prg w) A (.forLoop target it body [] env) (fun r s' => match r with | .ok f => Q f s' | .error e => cameBackBy (model prg w) A env E e s') s₂) E s := by
  refine wpAny_pyIter_list ht ?_
  obtain ⟨ot, hot, hr⟩ := id ht
  have hlt : t < s.heap.objs.size := Heap.lt_size hot
  have hpush := Heap.get?_push_size (h := s.heap) (o := { cls := .type "list_iterator", data := .fields #[.ref t, .int 0 0] }) rfl
  obtain ⟨F', N', hn, hIg, hIL⟩ := news_push_iter F N { cls := .type "list_iterator", data := .fields #[.ref t, .int 0 0] }
  refine for_led (src := src) (Walks.list hh s.heap.objs.size t (Nat.ne_of_lt hlt) items) J hIg hIL (fun i h hs => let ⟨o, ho, _⟩ := hs.1; ⟨o, ho⟩) ?_ hsrc ⟨⟨_, hpush, rfl, rfl⟩, ⟨_, Heap.get?_push_of_some _ hot, hr⟩⟩ F' N' hn hJ ?_ ?_
  · intro b hb
    simp only [List.mem_cons, List.not_mem_nil, or_false] at hb
    rcases hb with rfl | rfl
    · exact .inl rfl
    · exact .inr hfp
  · intro i v m₁ nx h tk oI hi hP hJ' hnx hst F₁ N₁
    exact turn _ i v m₁ nx h tk oI hi hP hJ' hnx hst.1 F₁ N₁
  · intro h tk m nx hJ' F₁ N₁
    exact done h tk m nx hJ' F₁ N₁

/-- over a range that counts up by ones -/
theorem for_range {w : World} {A : Around} {E : Value → Shared → Prop} {s : Shared} {env : Env} {Q : Flow → Shared → Prop} {g : Heap} {m₀ : Str → Option Value} {nx₀ : List (Addr × Obj)} {r : Addr} {a b : Int} {n : Nat} {t₀ u₀ v₀ : Tok} {target : Expr} {body : List Stmt}
    (J : Nat → (Str → Option Value) → List (Addr × Obj) → Prop) (hh : A.handled = none) (hr : IsRange s.heap r a b 1 t₀ u₀ v₀) (hsmall : Builtin.Range.small a b 1 = true) (hsz : Builtin.Range.rangeSize a b 1 = (n : Int))
    (F : Fr g env.locals s.heap m₀) (N : News g env.locals s.heap nx₀) (hJ : J 0 m₀ nx₀)
    (turn : ∀ I i t m₁ nx h tk oI, i < n → J i m₁ nx → (∀ p ∈ nx, p.1 ≠ I) → IsRangeIter h I (a + ((i + 1 : Nat) : Int) * 1) ((n : Int) - ((i + 1 : Nat) : Int)) 1 → Fr g env.locals h m₁ → News g env.locals h ((I, oI) :: nx) →
      wpAny (model prg w) A (letOwnedTupleGo target (.ref I) (.int (a + (i : Int)) t)) (fun _ s₁ => wpAny (model prg w) A (assign target env (.int (a + (i : Int)) t)) (fun _ s₂ => wpAny (model prg w) A (execs body env) (LoopOut g env.locals J I oI i s Q)
        (fun _ _ => False) s₂) (fun _ _ => False) s₁) (fun _ _ => False) { s with heap := h, toks := tk })
    (done : ∀ h tk m nx, J n m nx → Fr g env.locals h m → News g env.locals h nx → Q .next { s with heap := h, toks := tk }) :
    wpAny (model prg w) A (pyIter (.ref r)) (fun it s₂ => codeAny (model prg w) A (.forLoop target it body [] env) (fun r s' => match r with | .ok f => Q f s' | .error e => cameBackBy (model prg w) A env E e s') s₂) E s := by
  refine wpAny_pyIter_range hr hsmall ?_
  obtain ⟨F', N', hn, hIg, hIL⟩ := news_push_iter F N { cls := .type "range_iterator", data := .fields #[rawInt a, rawInt (Builtin.Range.rangeSize a b 1), rawInt 1] }
  refine for_led (src := []) (LCg.range_walks (prog := prg) (w := w) (A := A) (I := s.heap.objs.size) hh a n) J hIg hIL (fun i h hs => ⟨_, hs⟩) ?_ (fun _ _ _ _ p hp => nomatch hp) (by show IsRangeIter _ _ _ _ _; rw [hsz]; simpa using Heap.get?_push_size _ rfl) F' N' hn hJ ?_ ?_
  · intro b hb
    exact .inl (List.mem_singleton.mp hb)
  · rintro i v m₁ nx h tk oI hi ⟨t, rfl⟩ hJ' hnx hst F₁ N₁
    exact turn _ i t m₁ nx h tk oI hi hJ' hnx hst F₁ N₁
  · intro h tk m nx hJ' F₁ N₁
    exact done h tk m nx hJ' F₁ N₁
end Mine
end
section
open PySem PySem.W PyProof.Rows PySem.Calls
namespace Mine
/-- steps of the library's walk up to a comprehension, a call of the text's own, a loop -/
local macro_rules | `(tactic| walk_at "my go") => `(tactic| repeat' (
  ((fail_if_success (with_reducible show wpAny _ _ (eval (Expr.ListComp _ _ _ _) _) _ _ _));
   (fail_if_success (with_reducible show wpAny _ _ (call (Value.ref _) _ _) _ _ _));
   (fail_if_success (with_reducible show wpAny _ _ (exec (Stmt.For _ _ _ _ _) _) _ _ _));
   (fail_if_success (with_reducible show wpAny _ _ (pyIter _) _ _ _));
   (first | (k_unfold; (try dsimp only)) | walk1 | (dsimp only; walk1)))))
local macro_rules | `(tactic| k_inst) => `(tactic| exact inst_base (by k_asm) (by assumption))
/-- a name's value out of the frame's facts -/
local macro_rules | `(tactic| walk_at "my look") => `(tactic| first
  | assumption
  | exact if_pos rfl
  | exact rfl
  | (refine (if_neg (by decide)).trans ?_; walk_at "my look"))
local macro_rules | `(tactic| walk_at "eval Name") => `(tactic| (k_here; k_dflt (refine' ld ?k1 ?k2 ?_; (case k1 => k_asm); (case k2 => walk_at "my look"); k_whole)))

local macro_rules | `(tactic| walk_at "loadName") => `(tactic| (k_here; k_dflt (refine' ldn ?k1 ?k2 ?_; (case k1 => k_asm); (case k2 => walk_at "my look"); k_whole)))

section
variable {w : World} {p : Program} {loose : List Str} {mean : ExcName → Option Value} {mg mb : Str → Option Value} {A : Around} {s : Shared} {Q E : Value → Shared → Prop}

/-- the names that the law builds: seven labels at most, of two letters at most, the empty one last or nowhere -/
structure Good (ls : List (List UInt8)) : Prop where
  len : ls.length ≤ 7
  short : ∀ b ∈ ls, b.length ≤ 2
  last : ∀ (k : Nat), k + 1 < ls.length → ls[k]? ≠ some []

def tot (ls : List (List UInt8)) : Int := (ls.map fun b => (b.length : Int) + 1).sum

theorem tot_le {ls : List (List UInt8)} (hg : Good ls) : tot ls ≤ 255 := by
  have key : ∀ l : List (List UInt8), (∀ b ∈ l, b.length ≤ 2) → tot l ≤ 3 * l.length := by
    intro l
    induction l with
    | nil => intro _; simp [tot]
    | cons a r ih =>
      intro h
      have h1 := h a (.head _)
      have h2 := ih fun b hb => h b (.tail _ hb)
      simp only [tot, List.map_cons, List.sum_cons, List.length_cons] at h2 ⊢
      omega
  have := key ls hg.short
  have := hg.len
  omega

def VInv (ls : List (List UInt8)) (k : Nat) (m : Str → Option Value) (nx : List (Addr × Obj)) : Prop :=
  nx = [] ∧ (∃ t, m (Str.ofString "l") = some (.int ls.length t)) ∧ (∃ t, m (Str.ofString "total") = some (.int (tot (ls.take k)) t)) ∧ (∃ t, m (Str.ofString "j") = some (.int k t)) ∧
  ∃ (iv : Int) (t : Tok), m (Str.ofString "i") = some (.int iv t) ∧ ((iv = -1 ∧ ∀ b ∈ ls.take k, b ≠ []) ∨ (iv = (ls.length : Int) - 1 ∧ k = ls.length))

theorem validate_ok {t : Addr} {ls : List (List UInt8)} (T : Top p loose mean mg mb s.heap) (hh : A.handled = none) (hdp : A.depth + 2 < recursionLimit) (ht : IsTupleKey (bytesKind prg w) s.heap ls t) (hg : Good ls)
    (h : ∀ h' tk', Ext s.heap h' → Q .none { s with heap := h', toks := tk' }) :
    (hd.heap_39 w.params).In s.heap → wpAny (model PySem.Challenge.rw_ab5010_01.row.prog w) A (call (.ref 146) [.ref t]) Q E s := by
  k_fill
  intro X
  k_dflt (refine enterP X T.nolimit (by k_is) (by k_is) (by omega) (BindsTo.of_eq rfl) (locs rfl) (by decide) rfl rfl rfl ?_)
  intro L h₁ tk₁ F
  have N : News s.heap L h₁ [] := News.nil
  obtain ⟨vs, htup, hi, hlen, o, ho⟩ := tupk_open ht
  walk_at "my go"
  refine len_tupk (tupk_ext ht F.keep) (by have := hg.len; omega) fun u₁ => ?_
  walk_at "my go"
  refine for_head ?_
  walk_at "my go"
  (with_reducible rename Fr _ _ _ _ => F₁)
  refine for_tuple (src := []) (VInv ls) hh (htup.at fun o e => F₁.keep _ _ e) (.inl ⟨o, ho⟩) (fun _ _ _ _ p hp => nomatch hp) F₁ (News.nil) ⟨rfl, ⟨_, by walk_at "my look"⟩, ⟨_, by walk_at "my look"⟩, ⟨_, by walk_at "my look"⟩, _, _, by walk_at "my look", .inl ⟨rfl, by simp⟩⟩ ?_ ?_
  · intro I i v m₁ nx h tk oI hi' hv hJ hnx hit F₂ N₂
    obtain ⟨rfl, ⟨tl, hl⟩, ⟨tt, htt⟩, ⟨tj, hj⟩, iv, ti, hiv, hcase⟩ := hJ
    obtain ⟨b, tb, hb, rfl⟩ := items_get hi (by simpa using hv)
    have hbl := hg.short b (List.mem_of_getElem? hb)
    refine turn_name F₂ N₂ fun h₃ F₃ N₃ => ?_
    clear F₂ N₂ F₁
    have hbs : (b.toArray.size : Int) = b.length := by rw [List.size_toArray]
    have htot : tot (ls.take (i + 1)) = tot (ls.take i) + ((b.length : Int) + 1) := by
      rw [List.take_add_one, hb]; simp [tot]
    walk_at "my go"
    · (with_reducible rename ((_ == _) = true) => hbe)
      have hbn : b = [] := by simpa using hbe
      subst hbn
      have hend : i + 1 = ls.length := by
        have h1 := hg.last i
        have h2 : i < ls.length := by rw [← hlen]; simpa using hi'
        rcases Nat.lt_or_ge (i + 1) ls.length with h3 | h3
        · exact absurd hb (h1 h3)
        · omega
      refine ⟨_, _, _, [], rfl, by assumption, by assumption, (fun p hp => nomatch hp), rfl, ⟨_, by walk_at "my look"⟩, ⟨_, by rw [htot, ← hbs]; walk_at "my look"⟩, ⟨_, by rw [Int.natCast_succ]; walk_at "my look"⟩, _, _, by walk_at "my look", .inr ⟨by omega, hend⟩⟩
    · (with_reducible rename ((_ == _) = false) => hbe)
      have hbn : b ≠ [] := by intro e; subst e; simp at hbe
      have h2 : i < ls.length := by rw [← hlen]; simpa using hi'
      refine ⟨_, _, _, [], rfl, by assumption, by assumption, (fun p hp => nomatch hp), rfl, ⟨_, by walk_at "my look"⟩, ⟨_, by rw [htot, ← hbs]; walk_at "my look"⟩, ⟨_, by rw [Int.natCast_succ]; walk_at "my look"⟩, iv, ti, by walk_at "my look", ?_⟩
      rcases hcase with ⟨e1, e2⟩ | ⟨_, e2⟩
      · refine .inl ⟨e1, fun c hc => ?_⟩
        rw [List.take_add_one, hb] at hc
        rcases List.mem_append.mp hc with hc | hc
        · exact e2 c hc
        · rw [show c = b from by simpa using hc]; exact hbn
      · omega
  · intro h₅ tk₅ m₅ nx hJ F₅ N₅
    obtain ⟨rfl, ⟨tl, hl⟩, ⟨tt, htt⟩, ⟨tj, hj⟩, iv, ti, hiv, hcase⟩ := hJ
    rw [List.take_of_length_le (by rw [List.size_toArray, hlen]; omega)] at htt
    have htb := tot_le hg
    have hcase' : iv = -1 ∨ iv = (ls.length : Int) - 1 := by rcases hcase with h | h; exact .inl h.1; exact .inr h.1
    clear hcase F₁
    walk_at "my go"
    all_goals first | exact h _ _ (Fr.keep (by with_reducible assumption)) | (exfalso; omega)
end
end Mine
end
section
open PySem PySem.W PyProof.Rows PySem.Calls
namespace Mine

/-! ## a comprehension that goes to a name -/
section
variable {w : World} {A : Around} {s : Shared} {Q : Flow → Shared → Prop} {E : Value → Shared → Prop} {env : Env} {scope : Scope} {cl : List (Str × Addr)} {x : Str} {ifs : List Expr} {elt : Expr} {p : Value → Bool} {F : Value → Value → Prop}

def CompAtA (w : World) (A : Around) (env : Env) (scope : Scope) (cl : List (Str × Addr)) (x y : Str) (ifs : List Expr) (elt : Expr) (p : Value → Bool) (F : Value → Value → Prop) (Q : Flow → Shared → Prop) (it : Value) (s₂ : Shared) : Prop :=
  ∃ I fp wr n P St m, it = .ref I ∧ Walks prg w A I fp wr n P St ∧ n ≤ sizeLine ∧ St 0 s₂.heap ∧ (∀ b ∈ fp, b < s₂.heap.objs.size) ∧
      env.locals ∉ wr ∧ s₂.heap.Ns env.locals m ∧ QuietOnC prg w A env scope cl x ifs elt wr P p F s₂ ∧
      (∀ D h' tk ys (vs : List Value), s₂.heap.get? D = none → h'.IsList D ys → h'.PlainList D ys → vs.length = n → (∀ j v, vs[j]? = some v → P j v) → Paired F (vs.filter p) ys.toList →
        h'.Ns env.locals (fun z => if z = y then some (.ref D) else m z) → (∀ b o, b ≠ env.locals → b ∉ wr → s₂.heap.get? b = some o → h'.get? b = some o) → Q .next { s₂ with heap := h', toks := tk })

theorem compA_eval {iter : Expr} {y : Str} {px py pos spos : Pos} (p : Value → Bool) (F : Value → Value → Prop)
    (hsw : swapsWith (.ListComp elt [⟨.Name x px, iter, ifs, 0⟩] scope pos) (some (.Name y py)) spos.line env = pure true)
    (hclos : closureFor scope env = pure cl) (hcell : ∀ y ∈ scope.names, y.2 ≠ .cell) (hkind : scope.kind = .function)
    (hnames : ∀ y ∈ scope.names, y.2 = .local → scope.names.lookup y.1 = some .local) (hx : scope.names.lookup x = some .local)
    (hy : env.kindOf y = some .local) (hp : (env.scope.kind == .class || (env.scope.kind == .module && env.locals != env.globals)) = false)
    (h : wpAny (model prg w) A (eval iter env) (fun xv s₁ => wpAny (model prg w) A (pyIter xv) (CompAtA w A env scope cl x y ifs elt p F Q) E s₁) E s)
    (hs : ∀ x, foldedSetIterable iter env x = pure x := by intro _; rfl) :
    wpAny (model prg w) A (exec (.Assign [.Name y py] (.ListComp elt [⟨.Name x px, iter, ifs, 0⟩] scope pos) spos) env) Q E s :=
  wpAny_Assign_ListComp_free p F hsw hclos hcell hkind hnames hx hy hp h hs

theorem ext_of_wrL {h h₂ h₃ : Heap} {oI : Obj} {L : Addr} (e : h₂ = h.push oI) (k : ∀ b o, b ≠ L → b ∉ [h.objs.size] → h₂.get? b = some o → h₃.get? b = some o) : ∀ b o, b ≠ L → h.get? b = some o → h₃.get? b = some o := fun b o hL q => by
  subst e
  exact k b o hL (fun hm => by rw [List.mem_singleton.mp hm] at q; exact absurd (Heap.lt_size q) (Nat.lt_irrefl _)) (Heap.get?_push_of_some _ q)

theorem fr_of_ns {g h h' : Heap} {L : Addr} {m m' : Str → Option Value} (F : Fr g L h m) (hn : h'.Ns L m') (k : ∀ b o, b ≠ L → h.get? b = some o → h'.get? b = some o) : Fr g L h' m' :=
  ⟨hn, fun b o e => k b o (Nat.ne_of_lt (Nat.lt_of_lt_of_le (Heap.lt_size e) F.above)) (F.keep b o e), F.above⟩
theorem news_of_but {g h h' : Heap} {L : Addr} {nx : List (Addr × Obj)} (N : News g L h nx) (k : ∀ b o, b ≠ L → h.get? b = some o → h'.get? b = some o) : News g L h' nx :=
  fun p hp => ⟨k _ _ (N p hp).2.1 (N p hp).1, (N p hp).2⟩

theorem compA_core {y : Str} {g : Heap} {m : Str → Option Value} {nx : List (Addr × Obj)} {items : Array Value} {oI : Obj} {fp : List Addr} {P : Nat → Value → Prop} {St : Nat → Heap → Prop}
    (W : Walks prg w A s.heap.objs.size fp [s.heap.objs.size] items.size P St) (hP : ∀ i v, P i v → items[i]? = some v) (hsz : items.size ≤ sizeLine) (hst : St 0 (s.heap.push oI)) (hfp : ∀ b ∈ fp, b < s.heap.objs.size + 1)
    (Fm : Fr g env.locals s.heap m) (N : News g env.locals s.heap nx)
    (hT : Turns w A env scope cl x ifs elt (fun v => v ∈ items.toList) p F s.heap)
    (hfin : ∀ D h' tk ys c, Fr g env.locals h' (fun z => if z = y then some (.ref D) else m z) → News g env.locals h' ((D, PySem.W.listOf ys c) :: nx) → Paired F (items.toList.filter p) ys.toList → (∀ b o, b ≠ env.locals → s.heap.get? b = some o → h'.get? b = some o) → Q .next { s with heap := h', toks := tk }) :
    CompAtA w A env scope cl x y ifs elt p F Q (.ref s.heap.objs.size) { s with heap := s.heap.push oI } := by
  have hLlt : env.locals < s.heap.objs.size := Fm.ns.lt
  have hns := (Fm.push oI).ns
  refine ⟨s.heap.objs.size, fp, _, items.size, P, St, m, rfl, W, hsz, hst, ?_, ?_, hns, ?_, ?_⟩
  · intro b hb
    rw [Heap.size_push]
    exact hfp b hb
  · intro hm
    exact Nat.lt_irrefl _ (List.mem_singleton.mp hm ▸ hLlt)
  · refine ⟨fun C i v s₃ m₃ E' hC hPv hn hm hk _ => ?_, fun C i v s₃ m₃ E' hC hPv hp hn hm hk _ => ?_⟩
    · exact hT.tests C v s₃ m₃ E' (get_none_of_size (Nat.le_trans (by simp [Heap.size_push]) hC)) (Array.mem_toList_iff.mpr (Array.mem_of_getElem? (hP _ _ hPv))) hn hm (ext_of_wr rfl hk)
    · exact hT.elt C v s₃ m₃ E' (get_none_of_size (Nat.le_trans (by simp [Heap.size_push]) hC)) (Array.mem_toList_iff.mpr (Array.mem_of_getElem? (hP _ _ hPv))) hp hn hm (ext_of_wr rfl hk)
  · intro D h' tk ys vs hD hl hpl hlen hPv hpair hn hk
    obtain rfl := vs_eq hlen fun j v e => hP j v (hPv j v e)
    have k := ext_of_wrL (h := s.heap) (h₃ := h') rfl hk
    obtain ⟨c, hc⟩ := hpl
    have hgD : g.get? D = none := by
      cases q : g.get? D with
      | none => rfl
      | some o => have := Fm.keep _ _ q; rw [Heap.get?_push_of_some _ this] at hD; cases hD
    have hDL : D ≠ env.locals := by
      intro e
      obtain ⟨oL, _, _, hL, _⟩ := hns
      rw [e] at hD
      rw [hL] at hD
      cases hD
    refine hfin D h' tk ys c (fr_of_ns Fm hn k) (fun q hq => ?_) hpair k
    rcases List.mem_cons.mp hq with rfl | hq
    · exact ⟨hc, hDL, hgD⟩
    · exact news_of_but N k q hq

theorem compA_tuple {y : Str} {g : Heap} {m : Str → Option Value} {nx : List (Addr × Obj)} {t : Addr} {items : Array Value} (hh : A.handled = none) (ht : s.heap.IsTuple t items) (hsz : items.size ≤ sizeLine)
    (Fm : Fr g env.locals s.heap m) (N : News g env.locals s.heap nx)
    (hT : Turns w A env scope cl x ifs elt (fun v => v ∈ items.toList) p F s.heap)
    (hfin : ∀ D h' tk ys c, Fr g env.locals h' (fun z => if z = y then some (.ref D) else m z) → News g env.locals h' ((D, PySem.W.listOf ys c) :: nx) → Paired F (items.toList.filter p) ys.toList → (∀ b o, b ≠ env.locals → s.heap.get? b = some o → h'.get? b = some o) → Q .next { s with heap := h', toks := tk }) :
    wpAny (model prg w) A (pyIter (.ref t)) (CompAtA w A env scope cl x y ifs elt p F Q) E s := by
  refine wpAny_pyIter_tuple ht ?_
  obtain ⟨ot, hot, _⟩ := id ht
  have hlt : t < s.heap.objs.size := Heap.lt_size hot
  have hpush := Heap.get?_push_size (h := s.heap) (o := { cls := .type "tuple_iterator", data := .fields #[.ref t, .int 0 0] }) rfl
  refine compA_core (Walks.tuple hh s.heap.objs.size t (Nat.ne_of_lt hlt) items) (fun _ _ e => e) hsz ⟨⟨_, hpush, rfl, rfl⟩, ht.push _⟩ ?_ Fm N hT hfin
  intro b hb
  simp only [List.mem_cons, List.not_mem_nil, or_false] at hb
  rcases hb with rfl | rfl
  · exact Nat.lt_succ_self _
  · exact Nat.lt_succ_of_lt hlt

theorem compA_list {y : Str} {g : Heap} {m : Str → Option Value} {nx : List (Addr × Obj)} {t : Addr} {items : Array Value} (hh : A.handled = none) (ht : s.heap.IsList t items) (hsz : items.size ≤ sizeLine)
    (Fm : Fr g env.locals s.heap m) (N : News g env.locals s.heap nx)
    (hT : Turns w A env scope cl x ifs elt (fun v => v ∈ items.toList) p F s.heap)
    (hfin : ∀ D h' tk ys c, Fr g env.locals h' (fun z => if z = y then some (.ref D) else m z) → News g env.locals h' ((D, PySem.W.listOf ys c) :: nx) → Paired F (items.toList.filter p) ys.toList → (∀ b o, b ≠ env.locals → s.heap.get? b = some o → h'.get? b = some o) → Q .next { s with heap := h', toks := tk }) :
    wpAny (model prg w) A (pyIter (.ref t)) (CompAtA w A env scope cl x y ifs elt p F Q) E s := by
  refine wpAny_pyIter_list ht ?_
  obtain ⟨ot, hot, hr⟩ := id ht
  have hlt : t < s.heap.objs.size := Heap.lt_size hot
  have hpush := Heap.get?_push_size (h := s.heap) (o := { cls := .type "list_iterator", data := .fields #[.ref t, .int 0 0] }) rfl
  refine compA_core (Walks.list hh s.heap.objs.size t (Nat.ne_of_lt hlt) items) (fun _ _ e => e) hsz ⟨⟨_, hpush, rfl, rfl⟩, ⟨_, Heap.get?_push_of_some _ hot, hr⟩⟩ ?_ Fm N hT hfin
  intro b hb
  simp only [List.mem_cons, List.not_mem_nil, or_false] at hb
  rcases hb with rfl | rfl
  · exact Nat.lt_succ_self _
  · exact Nat.lt_succ_of_lt hlt
theorem compA_seq {y : Str} {g : Heap} {m : Str → Option Value} {nx : List (Addr × Obj)} {t : Addr} {items : Array Value} (hh : A.handled = none) (ht : s.heap.IsList t items ∨ s.heap.IsTuple t items) (hsz : items.size ≤ sizeLine)
    (Fm : Fr g env.locals s.heap m) (N : News g env.locals s.heap nx)
    (hT : Turns w A env scope cl x ifs elt (fun v => v ∈ items.toList) p F s.heap)
    (hfin : ∀ D h' tk ys c, Fr g env.locals h' (fun z => if z = y then some (.ref D) else m z) → News g env.locals h' ((D, PySem.W.listOf ys c) :: nx) → Paired F (items.toList.filter p) ys.toList → (∀ b o, b ≠ env.locals → s.heap.get? b = some o → h'.get? b = some o) → Q .next { s with heap := h', toks := tk }) :
    wpAny (model prg w) A (pyIter (.ref t)) (CompAtA w A env scope cl x y ifs elt p F Q) E s :=
  ht.elim (fun h => compA_list hh h hsz Fm N hT hfin) fun h => compA_tuple hh h hsz Fm N hT hfin
end

/-! ## the code of a def, entered; an object made -/
theorem enterC {w : World} {A : Around} {s : Shared} {R : Result → Shared → Prop} {K : Frag} {name qual : Str} {params : Arguments} {body : List Stmt} {scope : Scope} {dV kV doc pm cdv ct oc : Value} {an od : Option Addr} {osl : Array (Option Value)} {f : Addr} {args : Args} {binds : List (Str × Value)}
    (X : K.In s.heap) (hlim : s.heap.NoLimit)
    (ho : K.lookup f = some ⟨oc, od, .func (fnOf name qual params body scope dV kV doc pm an cdv ct), osl⟩) (hcd : codeIn K cdv qual = true) (hroom : A.depth < recursionLimit)
    (hbind : BindsTo s (fnOf name qual params body scope dV kV doc pm an cdv ct) args binds) (hloc : ∀ y ∈ binds, scope.names.lookup y.1 = some .local)
    (hcell : ∀ x ∈ scope.names, x.2 ≠ .cell) (hco : scope.isCoroutine = false) (hgen : scope.isGenerator = false) (hk : scope.kind = .function)
    (h : ∀ L h₁ tk, Fr s.heap L h₁ (fun y => binds.reverse.lookup y) →
      wpAny (model prg w) (A.deeper (envOf qual scope L f cdv)) (execs body (envOf qual scope L f cdv))
        (fun fl s' => R (.ok (.ret (match fl with | .ret v => v | _ => .none))) s') (fun _ _ => False)
        { s with heap := h₁, toks := tk }) :
    codeAny (model prg w) A (.call (.ref f) args) R s :=
  codeAny_call_def (fd := fnOf name qual params body scope dV kV doc pm an cdv ct) (body := body) (binds := binds) hroom (X _ _ ho) rfl hlim (codeRec_of X hcd) rfl hbind hcell hloc
    (fun h₁ hns hk₁ => wpAny_mono (h _ h₁ _ ⟨hns, hk₁, Nat.le_refl _⟩) (fun _ _ x => x) fun _ _ x => x.elim) hco hgen hk

theorem make_H {w : World} {A : Around} {K : Frag} {C : Addr} {s : Shared} {R : Result → Shared → Prop} {rest : List Value} {kw : List (Str × Value)} {fI : Addr} (X : K.In s.heap) (hm : makesIn K C = true)
    (hi : findIn K (.ref C) "__init__" = some (some (.ref fI))) (hf : typeIn K (.ref fI) = some (.type "function"))
    (h : codeAny (model prg w) (A.under (.builtin "type.__call__" ⟨.ref C :: rest, kw⟩)) (.call (.ref fI) ⟨.ref (s.heap.objs.size + 1) :: rest, kw⟩) (InitBack (s.heap.objs.size + 1) R)
      { s with heap := (s.heap.push (PySem.W.dictOf [] 0)).push (instObj C s.heap.objs.size) }) :
    codeAny (model prg w) A (.call (.ref C) ⟨rest, kw⟩) R s := by
  obtain ⟨hh, g, d, t, os⟩ := s
  exact make_core (makes_of X hm) (looks_findIn X hi) (fun self => bind_fn X self hf) (.inl rfl) h

theorem paired_eq {α : Type} : ∀ {l₁ l₂ : List α}, Paired (fun v y => y = v) l₁ l₂ → l₂ = l₁
  | _, _, .nil => rfl
  | _, _, .cons h r => by rw [h, paired_eq r]
abbrev tupObj (items : Array Value) : Obj := { cls := .type "tuple", data := .seq items }
/-- tuple(a list), onto the ledger -/
theorem tup_of_list {w : World} {A : Around} {s : Shared} {Q E : Value → Shared → Prop} {g : Heap} {L l : Addr} {m : Str → Option Value} {nx : List (Addr × Obj)} {items : Array Value} (F : Fr g L s.heap m) (N : News g L s.heap nx) (hl : s.heap.IsList l items)
    (h : ∀ t h', Fr g L h' m → News g L h' ((t, tupObj items) :: nx) → Ext s.heap h' → s.heap.get? t = none → Q (.ref t) { s with heap := h' }) (hsz : items.size ≤ sizeLine) :
    wpAny (model prg w) A (call (.type "tuple") [.ref l]) Q E s := by
  refine call_tuple_list hl (fun h' hk => ?_) hsz
  have F' := F.keeps hk
  have N' : News g L h' nx := fun q hq => ⟨hk _ _ (N q hq).1, (N q hq).2⟩
  refine h _ _ (F'.push _) (N'.push F' (tupObj items)) (fun b o e => Heap.get?_push_of_some _ (hk _ _ e)) ?_
  cases e : s.heap.get? h'.objs.size with
  | none => rfl
  | some o => exact absurd (Heap.lt_size (hk _ _ e)) (Nat.lt_irrefl _)
theorem news_ne {g h : Heap} {L a b : Addr} {nx : List (Addr × Obj)} {o o' : Obj} (N : News g L h nx) (h1 : (a, o) ∈ nx) (h2 : (b, o') ∈ nx) (hne : (o.cls == o'.cls) = false) : @Ne Nat a b := by
  intro e
  have e1 := (N _ h1).1
  have e2 := (N _ h2).1
  rw [show a = b from e] at e1
  rw [e1] at e2
  cases e2
  simp at hne
theorem fr_base {g g' h : Heap} {L : Addr} {m : Str → Option Value} (F : Fr g L h m) (k : ∀ b o, g'.get? b = some o → g.get? b = some o) (hs : g'.objs.size ≤ g.objs.size) : Fr g' L h m :=
  ⟨F.ns, fun b o e => F.keep b o (k b o e), Nat.le_trans hs F.above⟩
end Mine
end
section
open PySem PySem.W PyProof.Rows PySem.Calls
namespace Mine
/-- steps of the library's walk up to a comprehension, a call of the text's own, a loop -/
local macro_rules | `(tactic| walk_at "my go") => `(tactic| repeat' (
  ((fail_if_success (with_reducible show wpAny _ _ (eval (Expr.ListComp _ _ _ _) _) _ _ _));
   (fail_if_success (with_reducible show wpAny _ _ (call (Value.ref _) _ _) _ _ _));
   (fail_if_success (with_reducible show wpAny _ _ (call (Value.type _) _ _) _ _ _));
   (fail_if_success (with_reducible show wpAny _ _ (exec (Stmt.For _ _ _ _ _) _) _ _ _));
   (fail_if_success (with_reducible show wpAny _ _ (exec (Stmt.Assign _ (Expr.ListComp _ _ _ _) _) _) _ _ _));
   (fail_if_success (with_reducible show wpAny _ _ (pyIter _) _ _ _));
   (first | (k_unfold; (try dsimp only)) | walk1 | (dsimp only; walk1)))))
local macro_rules | `(tactic| k_inst) => `(tactic| exact inst_base (by k_asm) (by assumption))
/-- a name's value out of the frame's facts -/
local macro_rules | `(tactic| walk_at "my look") => `(tactic| first
  | assumption
  | exact if_pos rfl
  | exact rfl
  | (refine (if_neg (by decide)).trans ?_; walk_at "my look"))
local macro_rules | `(tactic| walk_at "eval Name") => `(tactic| (k_here; k_dflt (refine' ld ?k1 ?k2 ?_; (case k1 => k_asm); (case k2 => walk_at "my look"); k_whole)))
local macro_rules | `(tactic| walk_at "loadName") => `(tactic| (k_here; k_dflt (refine' ldn ?k1 ?k2 ?_; (case k1 => k_asm); (case k2 => walk_at "my look"); k_whole)))

section
variable {w : World} {p : Program} {loose : List Str} {mean : ExcName → Option Value} {mg mb : Str → Option Value} {A : Around} {s : Shared} {Q E : Value → Shared → Prop}

/-- a list or a tuple of bytes -/
def SrcOf (w : World) (h : Heap) (l : Addr) (ls : List (List UInt8)) : Prop :=
  ∃ vs, (h.IsList l vs.toArray ∨ h.IsTuple l vs.toArray) ∧ ItemsAre (bytesKind prg w) ls vs
theorem tup_list {w : World} {h : Heap} {ls : List (List UInt8)} {t : Addr} (x : IsTupleKey (bytesKind prg w) h ls t) : SrcOf w h t ls :=
  let ⟨vs, a, b, _⟩ := tupk_open x; ⟨vs, .inr a, b⟩

theorem name_ok {l : Addr} {ls : List (List UInt8)} (T : Top p loose mean mg mb s.heap) (hh : A.handled = none) (hdp : A.depth + 5 < recursionLimit) (hl : SrcOf w s.heap l ls) (hg : Good ls)
    (h : ∀ h' tk' x dx t tk, Ext s.heap h' → NameAt w h' x 482 dx t tk ls → s.heap.get? x = none → s.heap.get? dx = none → s.heap.get? t = none → Q (.ref x) { s with heap := h', toks := tk' }) :
    (hd.heap_39 w.params).In s.heap → wpAny (model PySem.Challenge.rw_ab5010_01.row.prog w) A (call (.ref 482) [.ref l]) Q E s := by
  k_fill
  intro X
  refine wpAny_call (make_H X (by k_is) (by k_is) (by k_is) ?_)
  have e0 : Ext s.heap ((s.heap.push (PySem.W.dictOf [] 0)).push (instObj 482 s.heap.objs.size)) := (Ext.push _).trans (Ext.push _)
  have X₁ : (hd.heap_39 w.params).In ((s.heap.push (PySem.W.dictOf [] 0)).push (instObj 482 s.heap.objs.size)) := X.keeps e0
  have hdep : (A.under (.builtin "type.__call__" ⟨[.ref 482, .ref l], []⟩)).depth = A.depth + 1 := rfl
  k_dflt (refine enterC X₁ (T.nolimit.keeps e0) (by k_is) (by k_is) (by rw [hdep]; omega) (BindsTo.of_eq rfl) (locs rfl) (by decide) rfl rfl rfl ?_)
  intro L h₁ tk₁ F₁
  have hx1 := F₁.keep _ _ (Heap.get?_push_size (h := s.heap.push (PySem.W.dictOf [] 0)) (o := instObj 482 s.heap.objs.size) rfl)
  have hdx1 := F₁.keep _ _ (Heap.get?_push_of_some (instObj 482 s.heap.objs.size) (Heap.get?_push_size (h := s.heap) (o := PySem.W.dictOf [] 0) rfl))
  have F := fr_base F₁ (fun b o e => e0 b o e) (by simp only [Heap.size_push]; omega)
  have hLx : s.heap.objs.size + 1 < L := by have := F₁.above; simp only [Heap.size_push] at this; omega
  rw [Heap.size_push] at hx1
  clear F₁
  generalize hdxe : s.heap.objs.size = dx at *
  generalize hxe : dx + 1 = x at *
  have N : News s.heap L h₁ [(x, instObj 482 dx), (dx, PySem.W.dictOf [] 0)] := by
    intro q hq
    simp only [List.mem_cons, List.not_mem_nil, or_false] at hq
    rcases hq with rfl | rfl
    · exact ⟨hx1, by show x ≠ L; omega, get_none_of_size (by omega)⟩
    · exact ⟨hdx1, by show dx ≠ L; omega, get_none_of_size (by omega)⟩
  walk_at "my go"
  obtain ⟨vs, hsrc, hi⟩ := hl
  have hlen := hi.length
  have hsz9 : vs.toArray.size ≤ sizeLine := by rw [List.size_toArray, ← hlen, sizeLine_eq]; have := hg.len; omega
  refine compA_eval (cl := []) (fun _ => true) (fun v y => y = v) rfl rfl (by decide) rfl (by decide) rfl rfl rfl ?_
  walk_at "my go"
  refine compA_seq (items := vs.toArray) hh (hsrc.imp (fun ⟨o, a, b⟩ => ⟨o, F.keep _ _ a, b⟩) fun ⟨o, a, b⟩ => ⟨o, F.keep _ _ a, b⟩) hsz9 F N ⟨fun C v s₃ m₃ E' hC hS hn hm hk => ?_, fun C v s₃ m₃ E' hC hS hp hn hm hk => ?_⟩ ?_
  · exact wpAny_tests_nil ⟨rfl, s₃.heap, s₃.toks, rfl, fun _ _ e => e⟩
  · obtain ⟨b, hb, e⟩ := items_mem hi v (by simpa using hS)
    obtain ⟨t', rfl⟩ := isBytes_shape e
    have F₃ := F.keeps hk
    refine Call_ ?_
    refine LCgL.ld_global F₃ X T (by k_is) ?_
    refine callWith_K X (by k_is) ?_
    refine args_cons (ldVarK hn hm ?_)
    refine args_nil ⟨X.keeps F₃.keep, ?_⟩
    refine maybe_ok (T.keeps F₃.keep) (by show (A.depth + 1 + 1) < recursionLimit; omega) (fun h' tk' hk' => ⟨rfl, h', tk', rfl, hk'⟩) (X.keeps F₃.keep)
  · intro D h₂ tk₂ ys c F₂ N₂ hpair hext
    rw [filter_true] at hpair
    change Fr s.heap L h₂ _ at F₂
    change News s.heap L h₂ _ at N₂
    have hys := paired_eq hpair
    clear F N
    walk_at "my go"
    refine tup_of_list F₂ N₂ ⟨_, (N₂ _ (.head _)).1, rfl, c, rfl⟩ (fun t h₃ F₃ N₃ he₃ ht₃ => ?_) ?_
    · clear F₂ N₂
      have n1 := news_ne N₃ (a := t) (b := dx) (.head _) (.tail _ (.tail _ (.tail _ (.head _)))) rfl
      have n2 := news_ne N₃ (a := D) (b := dx) (.tail _ (.head _)) (.tail _ (.tail _ (.tail _ (.head _)))) rfl
      have n3 := news_ne N₃ (a := x) (b := dx) (.tail _ (.tail _ (.head _))) (.tail _ (.tail _ (.tail _ (.head _)))) rfl
      walk_at "my go"
      (with_reducible rename Fr _ _ _ _ => F₄)
      (with_reducible rename News _ _ _ _ => N₄)
      have htk : IsTupleKey (bytesKind prg w) _ ls t := ⟨_, ys, 0, (N₄ _ (.head _)).1, rfl, rfl, by rw [hys]; simpa using hi⟩
      refine validate_ok (T.keeps F₄.keep) hh (by show (A.depth + 1 + 1 + 2) < recursionLimit; omega) htk hg (fun h₅ tk₅ he₅ => ?_) (X.keeps F₄.keep)
      have F₅ := F₄.keeps he₅
      refine wpAny_execs_nil ⟨rfl, h _ _ x dx t _ F₅.keep ⟨⟨he₅ _ _ (N₄ _ (.tail _ (.tail _ (.head _)))).1, rfl, rfl, he₅ _ _ (N₄ _ (.tail _ (.tail _ (.tail _ (.head _))))).1⟩, tupk_ext htk he₅⟩ (N₄ _ (.tail _ (.tail _ (.head _)))).2.2 (N₄ _ (.tail _ (.tail _ (.tail _ (.head _))))).2.2 (N₄ _ (.head _)).2.2⟩
    · rw [← Array.length_toList, hys]; simpa using hsz9
end
end Mine
end
section
open PySem PySem.W PyProof.Rows PySem.Calls
namespace Mine
/-- steps of the library's walk up to a comprehension, a call of the text's own, a loop -/
local macro_rules | `(tactic| walk_at "my go") => `(tactic| repeat' (
  ((fail_if_success (with_reducible show wpAny _ _ (eval (Expr.ListComp _ _ _ _) _) _ _ _));
   (fail_if_success (with_reducible show wpAny _ _ (call (Value.ref _) _ _) _ _ _));
   (fail_if_success (with_reducible show wpAny _ _ (call (Value.type _) _ _) _ _ _));
   (fail_if_success (with_reducible show wpAny _ _ (exec (Stmt.For _ _ _ _ _) _) _ _ _));
   (fail_if_success (with_reducible show wpAny _ _ (exec (Stmt.Assign _ (Expr.ListComp _ _ _ _) _) _) _ _ _));
   (fail_if_success (with_reducible show wpAny _ _ (pyIter _) _ _ _));
   (first | (k_unfold; (try dsimp only)) | walk1 | (dsimp only; walk1)))))
local macro_rules | `(tactic| k_inst) => `(tactic| exact inst_base (by k_asm) (by assumption))
/-- a name's value out of the frame's facts -/
local macro_rules | `(tactic| walk_at "my look") => `(tactic| first
  | assumption
  | exact if_pos rfl
  | exact rfl
  | (refine (if_neg (by decide)).trans ?_; walk_at "my look"))
local macro_rules | `(tactic| walk_at "eval Name") => `(tactic| (k_here; k_dflt (refine' ld ?k1 ?k2 ?_; (case k1 => k_asm); (case k2 => walk_at "my look"); k_whole)))
local macro_rules | `(tactic| walk_at "loadName") => `(tactic| (k_here; k_dflt (refine' ldn ?k1 ?k2 ?_; (case k1 => k_asm); (case k2 => walk_at "my look"); k_whole)))

local macro_rules | `(tactic| walk_at "eval Name") => `(tactic| ((with_reducible show wpAny _ _ (eval (Expr.Name _ _) (compEnvC _ _ _ _)) _ _ _); k_dflt (refine ldVarK (by assumption) (by assumption) ?_)))

section
variable {w : World} {p : Program} {loose : List Str} {mean : ExcName → Option Value} {mg mb : Str → Option Value} {A : Around} {s : Shared} {Q E : Value → Shared → Prop}

theorem up_iff (c : UInt8) : Builtin.Bytes.isUpper c = decide ((65 : Int) ≤ c.toNat ∧ (c.toNat : Int) ≤ 90) := by
  unfold Builtin.Bytes.isUpper
  rw [Bool.eq_iff_iff]
  simp only [Bool.and_eq_true, decide_eq_true_eq, UInt8.le_iff_toNat_le]
  have e1 : (65 : UInt8).toNat = 65 := rfl
  have e2 : (90 : UInt8).toNat = 90 := rfl
  rw [e1, e2]
  omega
theorem octet_up {c : UInt8} (h1 : (65 : Int) ≤ c.toNat) (h2 : (c.toNat : Int) ≤ 90) : (c.toNat : Int) + 32 = (Builtin.Bytes.toLower c).toNat := by
  unfold Builtin.Bytes.toLower
  rw [up_iff, if_pos (by simp [h1, h2]), UInt8.toNat_add]
  have e1 : (32 : UInt8).toNat = 32 := rfl
  rw [e1]
  omega
theorem octet_same {c : UInt8} (h : ¬ ((65 : Int) ≤ c.toNat ∧ (c.toNat : Int) ≤ 90)) : (c.toNat : Int) = (Builtin.Bytes.toLower c).toNat := by
  unfold Builtin.Bytes.toLower
  rw [up_iff, if_neg (by simpa using h)]
theorem low_ints {b : List UInt8} {vs ys : List Value} (hl : vs.length = b.toArray.size) (hv : ∀ (j : Nat) v, vs[j]? = some v → ∃ c u, b[j]? = some c ∧ v = .int (UInt8.toNat c) u)
    (hp : Paired (fun v y => ∃ c u u', v = Value.int (UInt8.toNat c) u ∧ y = Value.int (UInt8.toNat (Builtin.Bytes.toLower c)) u') vs ys) :
    IntsAre ys ((lowB b).map fun c => (c.toNat : Int)) ∧ (byteArr ((lowB b).map fun c => (c.toNat : Int))).toList = lowB b := by
  constructor
  · rw [List.size_toArray] at hl
    unfold lowB
    induction hp generalizing b with
    | nil =>
      cases b with
      | nil => exact .nil
      | cons _ _ => simp at hl
    | cons h r ih =>
      cases b with
      | nil => simp at hl
      | cons c b =>
        obtain ⟨c', u, u', e1, rfl⟩ := h
        obtain ⟨c₂, u₂, e2, e3⟩ := hv 0 _ rfl
        simp only [List.getElem?_cons_zero, Option.some.injEq] at e2
        subst e2
        rw [e1] at e3
        injection e3 with e4 _
        have hcc : c' = c := UInt8.toNat_inj.mp (by exact_mod_cast e4)
        subst hcc
        simp only [List.map_cons]
        exact .cons _ _ (ih (by simpa using hl) fun j v e => by simpa using hv (j + 1) v (by simpa using e))
  · simp only [byteArr, List.map_map]
    conv => rhs; rw [← List.map_id (lowB b)]
    apply List.map_congr_left
    intro c _
    simp

theorem lawlow_ok {l : Addr} {ls : List (List UInt8)} (T : Top p loose mean mg mb s.heap) (hh : A.handled = none) (hdp : A.depth + 5 < recursionLimit) (hl : SrcOf w s.heap l ls) (hg : ∀ b ∈ ls, b.length ≤ 2) (hlen : ls.length ≤ 7)
    (h : ∀ h' tk' t, Ext s.heap h' → IsTupleKey (bytesKind prg w) h' (low ls) t → s.heap.get? t = none → Q (.ref t) { s with heap := h', toks := tk' }) :
    (hd.heap_39 w.params).In s.heap → wpAny (model PySem.Challenge.rw_ab5010_01.row.prog w) A (call (.ref 597) [.ref l]) Q E s := by
  k_fill
  intro X
  k_dflt (refine enterP X T.nolimit (by k_is) (by k_is) (by omega) (BindsTo.of_eq rfl) (locs rfl) (by decide) rfl rfl rfl ?_)
  intro L h₁ tk₁ F
  have N : News s.heap L h₁ [] := News.nil
  walk_at "my go"
  obtain ⟨vs, hsrc, hi⟩ := hl
  have hlen' := hi.length
  have hsz9 : vs.toArray.size ≤ sizeLine := by rw [List.size_toArray, ← hlen', sizeLine_eq]; omega
  refine comp_eval (cl := []) (fun _ => true) (fun v y => ∀ b, isBytes b v = true → isBytes (lowB b) y = true) rfl (by decide) rfl (by decide) rfl ?_
  walk_at "my go"
  refine comp_seq (items := vs.toArray) hh (hsrc.imp (fun ⟨o, a, b⟩ => ⟨o, F.keep _ _ a, b⟩) fun ⟨o, a, b⟩ => ⟨o, F.keep _ _ a, b⟩) hsz9 ⟨fun C v s₃ m₃ E' hC hS hn hm hk => ?_, fun C v s₃ m₃ E' hC hS hp hn hm hk => ?_⟩ ?_
  · exact wpAny_tests_nil ⟨rfl, s₃.heap, s₃.toks, rfl, fun _ _ e => e⟩
  · obtain ⟨b, hb, e⟩ := items_mem hi v (by simpa using hS)
    obtain ⟨t', rfl⟩ := isBytes_shape e
    have F₃ := F.keeps hk
    refine Call_ ?_
    refine LCgL.ld_built F₃ X T (by k_is) (by boot_fast) (by decide) ?_
    refine callWith_type1 (args_cons ?_)
    refine comp_eval (cl := []) (fun _ => true) (fun v y => ∃ c u u', v = .int (UInt8.toNat c) u ∧ y = .int (UInt8.toNat (Builtin.Bytes.toLower c)) u') rfl (by decide) rfl (by decide) rfl ?_
    refine ldVarK hn hm ?_
    refine comp_bytes hh (by rw [List.size_toArray, sizeLine_eq]; have := hg b hb; omega) ⟨fun C' v s₄ m₄ E'' hC' hS' hn' hm' hk' => ?_, fun C' v s₄ m₄ E'' hC' hS' hp' hn' hm' hk' => ?_⟩ ?_
    · exact wpAny_tests_nil ⟨rfl, s₄.heap, s₄.toks, rfl, fun _ _ e => e⟩
    · obtain ⟨c, u, hc, rfl⟩ := hS'
      clear hn hm
      have hcl := c.toNat_lt
      refine hideQ fun QQ hQQ => ?_
      walk_at "my go"
      · refine hQQ _ _ ⟨⟨c, u, _, rfl, congrArg (fun z => Value.int z _) (octet_up (by assumption) (by assumption))⟩, _, _, rfl, fun _ _ e => e⟩
      · refine hQQ _ _ ⟨⟨c, u, _, rfl, congrArg (fun z => Value.int z _) (octet_same (by omega))⟩, _, _, rfl, fun _ _ e => e⟩
      · refine hQQ _ _ ⟨⟨c, u, _, rfl, congrArg (fun z => Value.int z _) (octet_same (by omega))⟩, _, _, rfl, fun _ _ e => e⟩
    · intro D h' tk' ys vs' hD hD0 hvl hvs hpair hext
      rw [filter_true] at hpair
      refine args_nil ?_
      obtain ⟨hia, hlow⟩ := low_ints (b := b) hvl (fun j v e => by simpa using hvs j v e) hpair
      obtain ⟨ys⟩ := ys
      refine call_bytes_ints hD hia ?_ ?_ hh fun h'' t'' k'' hk'' => ?_
      · intro n hn
        obtain ⟨c, _, rfl⟩ := List.mem_map.mp hn
        have := c.toNat_lt
        omega
      · rw [hia.length, List.length_map, lowB_length, sizeLine_eq]; have := hg b hb; omega
      · refine ⟨fun b' hb' => ?_, h'', _, rfl, hext.trans hk''⟩
        have : b = b' := by simpa [isBytes] using hb'
        subst this
        simp only [isBytes, beq_iff_eq]
        rw [hlow]
  · intro D h' tk' ys hD hD0 hpair hext
    rw [filter_true] at hpair
    have hit := paired_items (w := w) (f := lowB) (F := fun v y => ∀ b, isBytes b v = true → isBytes (lowB b) y = true) (fun k v y hk hF => hF k hk) hi (by simpa using hpair)
    dsimp only
    refine args_nil ?_
    refine tup_of_list (F.keeps hext) News.nil hD (fun t h₃ F₃ N₃ he₃ ht₃ => ?_) ?_
    · refine h _ _ t F₃.keep ⟨_, ys, 0, (N₃ _ (.head _)).1, rfl, rfl, hit⟩ (N₃ _ (.head _)).2.2
    · rw [← Array.length_toList, ← hit.length, List.length_map, sizeLine_eq]; omega
end
end Mine
end
section
open PySem PySem.W PyProof.Rows PySem.Calls
namespace Mine
/-- steps of the library's walk up to a comprehension, a call of the text's own, a loop -/
local macro_rules | `(tactic| walk_at "my go") => `(tactic| repeat' (
  ((fail_if_success (with_reducible show wpAny _ _ (eval (Expr.ListComp _ _ _ _) _) _ _ _));
   (fail_if_success (with_reducible show wpAny _ _ (call (Value.ref _) _ _) _ _ _));
   (fail_if_success (with_reducible show wpAny _ _ (call (Value.type _) _ _) _ _ _));
   (fail_if_success (with_reducible show wpAny _ _ (exec (Stmt.For _ _ _ _ _) _) _ _ _));
   (fail_if_success (with_reducible show wpAny _ _ (exec (Stmt.Assign _ (Expr.ListComp _ _ _ _) _) _) _ _ _));
   (fail_if_success (with_reducible show wpAny _ _ (pyIter _) _ _ _));
   (first | (k_unfold; (try dsimp only)) | walk1 | (dsimp only; walk1)))))
local macro_rules | `(tactic| k_inst) => `(tactic| exact inst_base (by k_asm) (by assumption))
/-- a name's value out of the frame's facts -/
local macro_rules | `(tactic| walk_at "my look") => `(tactic| first
  | assumption
  | exact if_pos rfl
  | exact rfl
  | (refine (if_neg (by decide)).trans ?_; walk_at "my look"))
local macro_rules | `(tactic| walk_at "eval Name") => `(tactic| (k_here; k_dflt (refine' ld ?k1 ?k2 ?_; (case k1 => k_asm); (case k2 => walk_at "my look"); k_whole)))
local macro_rules | `(tactic| walk_at "loadName") => `(tactic| (k_here; k_dflt (refine' ldn ?k1 ?k2 ?_; (case k1 => k_asm); (case k2 => walk_at "my look"); k_whole)))
local macro_rules | `(tactic| walk_at "eval Name") => `(tactic| ((with_reducible show wpAny _ _ (eval (Expr.Name _ _) (compEnvC _ _ _ _)) _ _ _); k_dflt (refine ldVarK (by assumption) (by assumption) ?_)))

section
variable {w : World} {p : Program} {loose : List Str} {mean : ExcName → Option Value} {mg mb : Str → Option Value} {A : Around} {s : Shared} {Q E : Value → Shared → Prop}
theorem namelen_ok {x dx t : Addr} {tk : Tok} {ls : List (List UInt8)} (T : Top p loose mean mg mb s.heap) (hdp : A.depth + 2 < recursionLimit) (hx : NameAt w s.heap x 482 dx t tk ls) (hsl : ls.length ≤ 1000)
    (h : ∀ h' tk' u, Ext s.heap h' → Q (.int ls.length u) { s with heap := h', toks := tk' }) :
    (hd.heap_39 w.params).In s.heap → wpAny (model PySem.Challenge.rw_ab5010_01.row.prog w) A (call (.ref 399) [.ref x]) Q E s := by
  k_fill
  intro X
  obtain ⟨I, ht⟩ := hx
  k_dflt (refine enterP X T.nolimit (by k_is) (by k_is) (by omega) (BindsTo.of_eq rfl) (locs rfl) (by decide) rfl rfl rfl ?_)
  intro L h₁ tk₁ F
  have N : News s.heap L h₁ [] := News.nil
  walk_at "my go"
  refine len_tupk (tupk_ext ht F.keep) hsl fun u => ?_
  exact h _ _ _ F.keep


theorem items_drop {w : World} {ls : List (List UInt8)} {vs : List Value} (h : ItemsAre (bytesKind prg w) ls vs) : ∀ k, ItemsAre (bytesKind prg w) (ls.drop k) (vs.drop k) := by
  induction h with
  | nil => intro k; simp; exact .nil
  | cons h r ih =>
    intro k
    cases k with
    | zero => exact .cons h r
    | succ k => exact ih k
/-! ## a tuple's tail -/
theorem adjust_neg (k n : Nat) (h1 : 1 ≤ k) (hk : k ≤ n) : Builtin.Slice.sliceAdjust (some (-(k : Int))) none 1 (n : Int) = (((n - k : Nat) : Int), (n : Int)) := by
  unfold Builtin.Slice.sliceAdjust
  have h0 : ¬ ((1 : Int) < 0) := by omega
  have h2 : (-(k : Int)) < 0 := by omega
  simp only [h0, h2, if_false, if_true]
  congr 1
  omega
theorem sliceApplied_neg {sl : Addr} {k n : Nat} {u : Tok} {Q : Int × Int × Nat → Shared → Prop} (hs : s.heap.IsSliceOf sl (.int (-(k : Int)) u) .none .none) (h1 : 1 ≤ k) (hk : k ≤ n) (h : Q (((n - k : Nat) : Int), 1, n - (n - k)) s) :
    wpAny (model prg w) A (Builtin.Slice.sliceApplied (.ref sl) (pure (n : Int))) Q E s := by
  obtain ⟨os, hos, hcs, hds⟩ := id hs
  unfold Builtin.Slice.sliceApplied Builtin.Slice.sliceFields
  refine wpAny_bind (wpAny_bind (wpAny_field hos hds (x := .int (-(k : Int)) u) rfl (wpAny_bind (wpAny_field hos hds (x := .none) rfl (wpAny_bind (wpAny_field hos hds (x := .none) rfl (wpAny_pure ?_)))))))
  refine wpAny_bind (slicePart_none ?_)
  show wpAny _ _ (if ((1 : Int) == 0) = true then _ else _) _ _ s
  rw [if_neg (by decide)]
  refine wpAny_bind (slicePart_int (wpAny_bind (slicePart_none (wpAny_bind (wpAny_pure ?_)))))
  show wpAny _ _ (match Builtin.Slice.sliceAdjust (some (-(k : Int))) none 1 (n : Int) with | (lo, hi) => pure (lo, (1 : Int), Builtin.Slice.slicePlaces lo hi 1)) _ _ s
  rw [adjust_neg k n h1 hk]
  show wpAny _ _ (pure (((n - k : Nat) : Int), (1 : Int), Builtin.Slice.slicePlaces ((n - k : Nat) : Int) (n : Int) 1)) _ _ s
  rw [places_from (n - k) n (Nat.sub_le _ _)]
  exact wpAny_pure h
theorem getItem_tuple_neg {t sl : Addr} {items : Array Value} {k : Nat} {u : Tok} {Q : Value → Shared → Prop} (ht : s.heap.IsTuple t items) (hs : s.heap.IsSliceOf sl (.int (-(k : Int)) u) .none .none) (h1 : 1 ≤ k) (hk : k ≤ items.size)
    (h : ∀ h' t', Ext s.heap h' → h'.IsTuple t' (items.toList.drop (items.size - k)).toArray → Q (.ref t') { s with heap := h' })
    (hsz : items.size ≤ sizeLine) : wpAny (model prg w) A (getItem (.ref t) (.ref sl)) Q E s := by
  have hdrop : sizeOk (.seq (items.toList.drop (items.size - k)).toArray) := by
    show (items.toList.drop (items.size - k)).toArray.size ≤ sizeLine
    rw [List.size_toArray, List.length_drop, Array.length_toList]
    omega
  obtain ⟨os, hos, hcs, hds⟩ := id hs
  have hTs : s.TypeIs (.ref sl) "slice" := ⟨os, hos, hcs⟩
  unfold getItem
  try with_reducible refine wpAny_holding ?_
  first | refine wpAny_bind (wpAny_pure ?_) | skip
  refine wpAny_bind (wpAny_sequenceKey ht.typeIs (by decide) ?_)
  refine wpAny_bind (wpAny_callSpecial?_slot (name := Str.ofString "__getitem__") ht.typeIs slot_tuple_getitem
    (wpAny_call_entry slot_tuple_getitem ht.typeIs entry_tuple_getitem ?_ (args_tuple_getitem _ _)))
  show wpAny _ _ (Builtin.Tuple.tupleItemsOf (.ref t) >>= _) _ _ s
  refine wpAny_bind (tupleItemsOf_ ht ?_)
  refine wpAny_bind (wpAny_typeOf hTs ?_)
  rw [if_pos (by decide)]
  refine wpAny_bind (sliceApplied_neg hs h1 hk ?_)
  have hnew : wpAny (model prg w) A.in1 (Builtin.Tuple.tupleExact ((List.range (items.size - (items.size - k))).filterMap fun (j : Nat) => items[(((items.size - k : Nat) : Int) + (j : Int) * 1).toNat]?).toArray) (fun v s' => Q v s') E s := by
    rw [pick_from items (items.size - k) (Nat.sub_le _ _)]
    exact wpAny_newObj_type (h _ _ (Ext.push _) ⟨_, Heap.get?_push_size _ rfl, rfl, 0, rfl⟩) hdrop
  by_cases hz : k = items.size
  · subst hz
    show wpAny _ _ (if (((items.size - items.size : Nat) : Int) == 0 && (1 : Int) == 1 && (items.size - (items.size - items.size)) == items.size) = true then _ else _) _ _ s
    rw [if_pos (by simp)]
    refine wpAny_bind (wpAny_bind (wpAny_typeOf ht.typeIs (wpAny_pure ?_)))
    rw [if_pos (by decide)]
    have hq : Q (.ref t) s := h s.heap t Ext.rfl' (by simpa using ht)
    first
      | exact wpAny_bind (wpAny_rule (wpAny_pure ⟨_, rfl, wpAny_pure hq⟩))
      | exact wpAny_bind (wpAny_rule (wpAny_bind (wpAny_pure (wpAny_pure ⟨_, rfl, wpAny_pure hq⟩))))
  · have hno : ¬ ((((items.size - k : Nat) : Int) == 0 && (1 : Int) == 1 && (items.size - (items.size - k)) == items.size) = true) := by
      have : (((items.size - k : Nat) : Int) == 0) = false := by rw [beq_eq_false_iff_ne]; omega
      rw [this]; simp
    show wpAny _ _ (if (((items.size - k : Nat) : Int) == 0 && (1 : Int) == 1 && (items.size - (items.size - k)) == items.size) = true then _ else _) _ _ s
    rw [if_neg hno]
    have hpost := wpAny_mono hnew (Q' := fun v s' => wpAny (model prg w) A (pure v) Q E s') (E' := E) (fun v s' x => wpAny_pure x) fun _ _ x => x
    first
      | exact wpAny_bind (wpAny_mono hnew (fun v s' x => wpAny_pure ⟨_, rfl, wpAny_pure x⟩) fun _ _ x => x)
      | exact wpAny_bind (wpAny_bind (wpAny_mono hnew (fun v s' x => wpAny_pure (wpAny_pure ⟨_, rfl, wpAny_pure x⟩)) fun _ _ x => x))
      | exact wpAny_bind (wpAny_mono hnew (fun v s' x => wpAny_bind (wpAny_pure (wpAny_pure ⟨_, rfl, wpAny_pure x⟩))) fun _ _ x => x)

theorem nameitem_ok {x dx t i : Addr} {tk u : Tok} {k : Nat} {ls : List (List UInt8)} (T : Top p loose mean mg mb s.heap) (hdp : A.depth + 2 < recursionLimit) (hx : NameAt w s.heap x 482 dx t tk ls) (hsl : ls.length ≤ 1000)
    (hsi : s.heap.IsSliceOf i (.int (-(k : Int)) u) .none .none) (h1 : 1 ≤ k) (hk : k ≤ ls.length)
    (h : ∀ h' tk' t, Ext s.heap h' → SrcOf w h' t (ls.drop (ls.length - k)) → Q (.ref t) { s with heap := h', toks := tk' }) :
    (hd.heap_39 w.params).In s.heap → wpAny (model PySem.Challenge.rw_ab5010_01.row.prog w) A (call (.ref 406) [.ref x, .ref i]) Q E s := by
  k_fill
  intro X
  obtain ⟨I, ht⟩ := hx
  k_dflt (refine enterP X T.nolimit (by k_is) (by k_is) (by omega) (BindsTo.of_eq rfl) (locs rfl) (by decide) rfl rfl rfl ?_)
  intro L h₁ tk₁ F
  have N : News s.heap L h₁ [] := News.nil
  walk_at "my go"
  obtain ⟨vs, htup, hi, hlen, _⟩ := tupk_open ht
  have htup' := htup.at fun o e => F.keep _ _ e
  refine tail_any htup'.typeIs slot_tuple_getitem.lookup (getItem_tuple_neg htup' (let ⟨o, a, b⟩ := hsi; ⟨o, F.keep _ _ a, b⟩) h1 (by rw [List.size_toArray, hlen]; exact hk) (fun h' t' he ht' => ?_) (by rw [List.size_toArray, hlen, sizeLine_eq]; omega)) (by with_unfolding_all rfl)
  refine h _ _ _ ((fun b o e => he _ _ (F.keep b o e))) ⟨_, .inr ht', ?_⟩
  rw [List.size_toArray, hlen]
  exact items_drop hi _
end
end Mine
end
section
open PySem PySem.W PyProof.Rows PySem.Calls
namespace Mine
/-- steps of the library's walk up to a comprehension, a call of the text's own, a loop -/
local macro_rules | `(tactic| walk_at "my go") => `(tactic| repeat' (
  ((fail_if_success (with_reducible show wpAny _ _ (eval (Expr.ListComp _ _ _ _) _) _ _ _));
   (fail_if_success (with_reducible show wpAny _ _ (call (Value.ref _) _ _) _ _ _));
   (fail_if_success (with_reducible show wpAny _ _ (call (Value.type _) _ _) _ _ _));
   (fail_if_success (with_reducible show wpAny _ _ (exec (Stmt.For _ _ _ _ _) _) _ _ _));
   (fail_if_success (with_reducible show wpAny _ _ (exec (Stmt.Assign _ (Expr.ListComp _ _ _ _) _) _) _ _ _));
   (fail_if_success (with_reducible show wpAny _ _ (pyIter _) _ _ _));
   (first | (k_unfold; (try dsimp only)) | walk1 | (dsimp only; walk1)))))
local macro_rules | `(tactic| k_inst) => `(tactic| exact inst_base (by k_asm) (by assumption))
/-- a name's value out of the frame's facts -/
local macro_rules | `(tactic| walk_at "my look") => `(tactic| first
  | assumption
  | exact if_pos rfl
  | exact rfl
  | (refine (if_neg (by decide)).trans ?_; walk_at "my look"))
local macro_rules | `(tactic| walk_at "eval Name") => `(tactic| (k_here; k_dflt (refine' ld ?k1 ?k2 ?_; (case k1 => k_asm); (case k2 => walk_at "my look"); k_whole)))
local macro_rules | `(tactic| walk_at "loadName") => `(tactic| (k_here; k_dflt (refine' ldn ?k1 ?k2 ?_; (case k1 => k_asm); (case k2 => walk_at "my look"); k_whole)))
local macro_rules | `(tactic| walk_at "eval Name") => `(tactic| ((with_reducible show wpAny _ _ (eval (Expr.Name _ _) (compEnvC _ _ _ _)) _ _ _); k_dflt (refine ldVarK (by assumption) (by assumption) ?_)))

section
variable {w : World} {p : Program} {loose : List Str} {mean : ExcName → Option Value} {mg mb : Str → Option Value} {A : Around} {s : Shared} {Q E : Value → Shared → Prop}
/-! ## the name dictionary -/
structure Ent where
  labels : List (List UInt8)
  val : Int
abbrev TK (w : World) : HeapKind prg w (List (List UInt8)) := tupleKind (bytesKind prg w)

structure EntAt (w : World) (h : Heap) (x : List (List UInt8) × Addr × Value) (e : Ent) : Prop where
  key : x.1 = low e.labels
  good : Good e.labels
  at_ : ∃ pa kx kdx kt ktk u n, x.2.2 = .ref pa ∧ h.get? pa = some ({ cls := .type "tuple", data := .seq #[.ref kx, .int e.val u] n } : Obj) ∧ NameAt w h kx 482 kdx kt ktk e.labels

inductive EntsAt (w : World) (h : Heap) : List (List (List UInt8) × Addr × Value) → List Ent → Prop
  | nil : EntsAt w h [] []
  | cons {x e xs D} : EntAt w h x e → EntsAt w h xs D → EntsAt w h (x :: xs) (e :: D)

abbrev ndObj (w : World) (d : Addr) (md mi : Int) (t1 t2 t3 u2 u3 : Tok) : Obj :=
  PySem.W.dictOf [⟨PyData.keyHash w.params (Str.ofString "_NameDict__store"), .str (Str.ofString "_NameDict__store") t1, .ref d⟩,
    ⟨PyData.keyHash w.params (Str.ofString "max_depth"), .str (Str.ofString "max_depth") t2, .int md u2⟩,
    ⟨PyData.keyHash w.params (Str.ofString "max_depth_items"), .str (Str.ofString "max_depth_items") t3, .int mi u3⟩] 3

structure DictAt (w : World) (h : Heap) (nd dx d : Addr) (D : List Ent) (md mi : Int) : Prop where
  inst : ∃ t1 t2 t3 u2 u3, InstAt h nd (instObj 588 dx) 588 (some (ndObj w d md mi t1 t2 t3 u2 u3))
  store : ∃ xs, h.DictOfH (TK w) d xs ∧ EntsAt w h xs D
  mods : (d == sysModules) = false

theorem inst_ext {h h' : Heap} {x C : Addr} {ox : Obj} {od : Option Obj} (I : InstAt h x ox C od) (e : Ext h h') : InstAt h' x ox C od := by
  refine ⟨e _ _ I.at_, I.cls, I.no, ?_⟩
  have := I.dict
  cases q : ox.dict with
  | none =>
    rw [q] at this
    cases od with
    | none => exact this
    | some o => exact this
  | some dx =>
    rw [q] at this
    cases od with
    | none => exact this
    | some o => exact e _ _ this
theorem nameat_ext {w : World} {h h' : Heap} {x C dx t : Addr} {tk : Tok} {ls : List (List UInt8)} (N : NameAt w h x C dx t tk ls) (e : Ext h h') : NameAt w h' x C dx t tk ls :=
  ⟨inst_ext N.inst e, tupk_ext N.tup e⟩
theorem entat_ext {w : World} {h h' : Heap} {x : List (List UInt8) × Addr × Value} {en : Ent} (N : EntAt w h x en) (e : Ext h h') : EntAt w h' x en :=
  ⟨N.key, N.good, let ⟨pa, kx, kdx, kt, ktk, u, n, a, b, c⟩ := N.at_; ⟨pa, kx, kdx, kt, ktk, u, n, a, e _ _ b, nameat_ext c e⟩⟩
theorem entsat_ext {w : World} {h h' : Heap} {xs : List (List (List UInt8) × Addr × Value)} {D : List Ent} (N : EntsAt w h xs D) (e : Ext h h') : EntsAt w h' xs D := by
  induction N with
  | nil => exact .nil
  | cons a _ ih => exact .cons (entat_ext a e) ih
theorem dictofh_ext {w : World} {h h' : Heap} {d : Addr} {xs : List (List (List UInt8) × Addr × Value)} (N : h.DictOfH (TK w) d xs) (e : Ext h h') : h'.DictOfH (TK w) d xs :=
  let ⟨o, es, ep, a, b, c, f, g, i⟩ := N; ⟨o, es, ep, e _ _ a, b, c, f, fun x hx => tupk_ext (g x hx) e, i⟩
theorem dictat_ext {w : World} {h h' : Heap} {nd dx d : Addr} {D : List Ent} {md mi : Int} (N : DictAt w h nd dx d D md mi) (e : Ext h h') : DictAt w h' nd dx d D md mi :=
  ⟨let ⟨t1, t2, t3, u2, u3, I⟩ := N.inst; ⟨t1, t2, t3, u2, u3, inst_ext I e⟩, let ⟨xs, a, b⟩ := N.store; ⟨xs, dictofh_ext a e, entsat_ext b e⟩, N.mods⟩

/-- what the dictionary tells of a key -/
def find (D : List Ent) (k : List (List UInt8)) : Option Ent := D.find? fun e => decide (low e.labels = k)
theorem ents_find {h : Heap} {xs : List (List (List UInt8) × Addr × Value)} {D : List Ent} (N : EntsAt w h xs D) (k : List (List UInt8)) :
    (atKey xs k = none ∧ find D k = none) ∨ ∃ p e, atKey xs k = some p ∧ find D k = some e ∧ EntAt w h (k, p) e := by
  induction N with
  | nil => exact .inl ⟨rfl, rfl⟩
  | @cons x e xs D hx _ ih =>
    by_cases hk : x.1 = k
    · refine .inr ⟨x.2, e, ?_, ?_, ?_⟩
      · simp [atKey, hk]
      · simp [find, ← hx.key, hk]
      · rw [← hk]; exact hx
    · have e1 : atKey (x :: xs) k = atKey xs k := by simp [atKey, hk]
      have e2 : find (e :: D) k = find D k := by simp [find, ← hx.key, hk]
      rw [e1, e2]; exact ih

theorem haskey_ok {nd dx d x kdx kt : Addr} {ktk : Tok} {D : List Ent} {md mi : Int} {ls : List (List UInt8)} (T : Top p loose mean mg mb s.heap) (hh : A.handled = none) (hdp : A.depth + 6 < recursionLimit) (hun : A.units + 60 < cLine)
    (hd' : DictAt w s.heap nd dx d D md mi) (hx : NameAt w s.heap x 482 kdx kt ktk ls) (hg : Good ls)
    (h : ∀ h' tk', Ext s.heap h' → Q (.bool (find D (low ls)).isSome) { s with heap := h', toks := tk' }) :
    (hd.heap_39 w.params).In s.heap → wpAny (model PySem.Challenge.rw_ab5010_01.row.prog w) A (call (.ref 578) [.ref nd, .ref x]) Q E s := by
  k_fill
  intro X
  obtain ⟨t1, t2, t3, u2, u3, I⟩ := hd'.inst
  k_dflt (refine enterP X T.nolimit (by k_is) (by k_is) (by omega) (BindsTo.of_eq rfl) (locs rfl) (by decide) rfl rfl rfl ?_)
  intro L h₁ tk₁ F
  have N : News s.heap L h₁ [] := News.nil
  walk_at "my go"
  refine folded_ok (T.keeps F.keep) hh (by show A.depth + 1 + 2 < recursionLimit; omega) (nameat_ext hx F.keep) (fun b hb => by have := hg.short b hb; omega) (by have := hg.len; omega) (fun h₂ tk₂ t he₂ ht₂ => ?_) (X.keeps F.keep)
  have F₂ := F.keeps he₂
  have N₂ : News s.heap L h₂ [] := News.nil
  clear F N
  walk_at "my go"
  obtain ⟨xs, hm, hE⟩ := (dictat_ext hd' F₂.keep).store
  refine wpAny_in_heap (knd := TK w) (show A.units + 3 + 1 < cLine by omega) ht₂ hd'.mods hm ?_
  have hb : (atKey xs (low ls)).isSome = (find D (low ls)).isSome := by
    rcases ents_find hE (low ls) with ⟨e1, e2⟩ | ⟨p', e', e1, e2, _⟩ <;> rw [e1, e2] <;> rfl
  rw [hb]
  exact h _ _ F₂.keep

theorem dictget_ok {nd dx d x C kdx kt : Addr} {ktk : Tok} {D : List Ent} {md mi : Int} {ls : List (List UInt8)} {e : Ent} (hC : C = 482 ∨ C = 503) (T : Top p loose mean mg mb s.heap) (hh : A.handled = none) (hdp : A.depth + 6 < recursionLimit) (hun : A.units + 60 < cLine)
    (hd' : DictAt w s.heap nd dx d D md mi) (hx : NameAt w s.heap x C kdx kt ktk ls) (hg : Good ls) (hf : find D (low ls) = some e)
    (h : ∀ h' tk' u, Ext s.heap h' → Q (.int e.val u) { s with heap := h', toks := tk' }) :
    (hd.heap_39 w.params).In s.heap → wpAny (model PySem.Challenge.rw_ab5010_01.row.prog w) A (call (.ref 550) [.ref nd, .ref x]) Q E s := by
  k_fill
  intro X
  obtain ⟨t1, t2, t3, u2, u3, I⟩ := hd'.inst
  k_dflt (refine enterP X T.nolimit (by k_is) (by k_is) (by omega) (BindsTo.of_eq rfl) (locs rfl) (by decide) rfl rfl rfl ?_)
  intro L h₁ tk₁ F
  have N : News s.heap L h₁ [] := News.nil
  walk_at "my go"
  refine folded_okC hC (T.keeps F.keep) hh (by show A.depth + 1 + 2 < recursionLimit; omega) (nameat_ext hx F.keep) (fun b hb => by have := hg.short b hb; omega) (by have := hg.len; omega) (fun h₂ tk₂ t he₂ ht₂ => ?_) (X.keeps F.keep)
  have F₂ := F.keeps he₂
  have N₂ : News s.heap L h₂ [] := News.nil
  clear F N
  obtain ⟨xs, hm, hE⟩ := (dictat_ext hd' F₂.keep).store
  obtain ⟨p', e1, hp'⟩ : ∃ p', atKey xs (low ls) = some p' ∧ EntAt w h₂ (low ls, p') e := by
    rcases ents_find hE (low ls) with ⟨_, e2⟩ | ⟨p', e', e1, e2, e3⟩
    · rw [hf] at e2; cases e2
    · rw [hf] at e2; cases e2; exact ⟨p', e1, e3⟩
  obtain ⟨pa, kx, kdx', kt', ktk', u, n, ep, hpa, hk⟩ := hp'.at_
  have ep' : p'.2 = .ref pa := ep
  refine tail_any hm.typeIs slot_dict_getitem.lookup (wpAny_getItem_heap (knd := TK w) (show A.units + 3 + 1 < cLine by omega) ht₂ hm e1 ?_) (by with_unfolding_all rfl)
  rw [ep']
  walk_at "my go"
  refine item_tupleT (l := [.ref kx, .int e.val u]) ⟨_, hpa, rfl, n, rfl⟩ (by decide) (by decide) rfl rfl ?_
  exact h _ _ _ F₂.keep
end
end Mine
end
section
open PySem PySem.W PyProof.Rows PySem.Calls
namespace Mine
/-- steps of the library's walk up to a comprehension, a call of the text's own, a loop -/
local macro_rules | `(tactic| walk_at "my go") => `(tactic| repeat' (
  ((fail_if_success (with_reducible show wpAny _ _ (eval (Expr.ListComp _ _ _ _) _) _ _ _));
   (fail_if_success (with_reducible show wpAny _ _ (call (Value.ref _) _ _) _ _ _));
   (fail_if_success (with_reducible show wpAny _ _ (call (Value.type _) _ _) _ _ _));
   (fail_if_success (with_reducible show wpAny _ _ (exec (Stmt.For _ _ _ _ _) _) _ _ _));
   (fail_if_success (with_reducible show wpAny _ _ (exec (Stmt.Assign _ (Expr.ListComp _ _ _ _) _) _) _ _ _));
   (fail_if_success (with_reducible show wpAny _ _ (pyIter _) _ _ _));
   (first | (k_unfold; (try dsimp only)) | walk1 | (dsimp only; walk1)))))
local macro_rules | `(tactic| k_inst) => `(tactic| exact inst_base (by k_asm) (by assumption))
/-- a name's value out of the frame's facts -/
local macro_rules | `(tactic| walk_at "my look") => `(tactic| first
  | assumption
  | exact if_pos rfl
  | exact rfl
  | (refine (if_neg (by decide)).trans ?_; walk_at "my look"))
local macro_rules | `(tactic| walk_at "eval Name") => `(tactic| (k_here; k_dflt (refine' ld ?k1 ?k2 ?_; (case k1 => k_asm); (case k2 => walk_at "my look"); k_whole)))
local macro_rules | `(tactic| walk_at "loadName") => `(tactic| (k_here; k_dflt (refine' ldn ?k1 ?k2 ?_; (case k1 => k_asm); (case k2 => walk_at "my look"); k_whole)))
local macro_rules | `(tactic| walk_at "eval Name") => `(tactic| ((with_reducible show wpAny _ _ (eval (Expr.Name _ _) (compEnvC _ _ _ _)) _ _ _); k_dflt (refine ldVarK (by assumption) (by assumption) ?_)))

section
variable {w : World} {p : Program} {loose : List Str} {mean : ExcName → Option Value} {mg mb : Str → Option Value} {A : Around} {s : Shared} {Q E : Value → Shared → Prop}
/-! ## len and pop of a dict under keys of the heap -/
theorem len_dictH {d : Addr} {xs : List (List (List UInt8) × Addr × Value)} (hd : (d == sysModules) = false) (hm : s.heap.DictOfH (TK w) d xs) (hfit : (xs.length : Int) < 2 ^ 63)
    (h : ∀ u, Q (.int xs.length u) { s with toks := s.toks + 1 + 1 }) : wpAny (model prg w) A (call (.builtin "len") [.ref d]) Q E s := by
  refine Calls.call_function_entry kind_len plain_len entry_len (args_len1 _) ?_
  unfold Builtin.«len»
  refine wpAny_bind (m := oneArg "len" _) (wpAny_pure ?_)
  refine wpAny_bind (m := callSpecial? (.ref d) (Str.ofString "__len__")) (wpAny_callSpecial?_slot (name := Str.ofString "__len__") hm.typeIs F.slot_dict_len
    (wpAny_call_entry F.slot_dict_len hm.typeIs F.entry_dict_len ?_ (F.args_dict_len_1 _)))
  obtain ⟨o, es, ep, ho, hc, hdat, he, his, hn⟩ := hm
  show wpAny _ _ (dictSize d >>= _) _ _ s
  unfold dictSize
  refine wpAny_bind (wpAny_bind (wpAny_dictEntries ho hdat (wpAny_pure ?_)))
  show wpAny _ _ (Builtin.Dict.pendingCount d >>= _) _ _ s
  refine wpAny_bind (wpAny_pendingCount_other hd ?_)
  have hsz : es.size = xs.length := size_of_entries he
  rw [show ((es.size : Int) + ((0 : Nat) : Int)) = (xs.length : Int) by rw [hsz]; omega]
  refine wpAny_ret_mkInt ?_
  show wpAny _ _ _ _ _ { s with toks := s.toks + 1 }
  refine wpAny_bind (wpAny_holding (wpAny_pure ?_))
  refine wpAny_bind (wpAny_letGo ?_)
  show wpAny _ _ (if ((xs.length : Nat) : Int) < 0 then _ else _) _ _ _
  rw [if_neg (by omega)]
  show wpAny _ _ (if ((xs.length : Nat) : Int) ≥ 2 ^ 63 then _ else _) _ _ _
  rw [if_neg (by omega)]
  exact wpAny_bind (wpAny_mkInt (wpAny_pure ⟨_, rfl, h _⟩))

def out (xs : List (List (List UInt8) × Addr × Value)) (k : List (List UInt8)) : List (List (List UInt8) × Addr × Value) := xs.filter fun x => !decide (x.1 = k)

theorem wpAny_ite_true {α : Type} {prog : Program} {A : Around} {b : Bool} {m n : Sem α} {Q : α → Shared → Prop} {E : Value → Shared → Prop} {s : Shared} (h : b = true) (k : wpAny (model prog w) A m Q E s) : wpAny (model prog w) A (if b = true then m else n) Q E s := by
  subst h; exact k
theorem wpAny_ite_false {α : Type} {prog : Program} {A : Around} {b : Bool} {m n : Sem α} {Q : α → Shared → Prop} {E : Value → Shared → Prop} {s : Shared} (h : b = false) (k : wpAny (model prog w) A n Q E s) : wpAny (model prog w) A (if b = true then m else n) Q E s := by
  subst h; exact k
theorem map_erase {α β : Type} (f : α → β) : ∀ (l : List α) (j : Nat), (l.map f).eraseIdx j = (l.eraseIdx j).map f
  | [], j => by cases j <;> rfl
  | x :: xs, 0 => rfl
  | x :: xs, j + 1 => by simp only [List.map_cons, List.eraseIdx_cons_succ, map_erase f xs j]

theorem erase_out {k : List (List UInt8)} : ∀ {xs : List (List (List UInt8) × Addr × Value)} {j : Nat} {p : Addr × Value}, (xs.map (·.1)).Nodup → xs[j]? = some (k, p) → xs.eraseIdx j = out xs k
  | [], j, p, _, h => by simp at h
  | x :: xs, 0, p, hn, h => by
    simp only [List.getElem?_cons_zero, Option.some.injEq] at h
    subst h
    rw [List.map_cons, List.nodup_cons] at hn
    have : out xs k = xs := by
      unfold out
      rw [List.filter_eq_self]
      intro y hy
      have : y.1 ≠ k := fun e => hn.1 (List.mem_map.mpr ⟨y, hy, e⟩)
      simp [this]
    simp only [List.eraseIdx_cons_zero]
    unfold out at this ⊢
    rw [List.filter_cons_of_neg (by simp), this]
  | x :: xs, j + 1, p, hn, h => by
    rw [List.map_cons, List.nodup_cons] at hn
    simp only [List.getElem?_cons_succ] at h
    have hne : x.1 ≠ k := fun e => hn.1 (List.mem_map.mpr ⟨(k, p), List.mem_of_getElem? h, e.symm⟩)
    have ih := erase_out hn.2 h
    simp only [List.eraseIdx_cons_succ]
    rw [ih]
    unfold out
    rw [List.filter_cons_of_pos (by simp [hne])]

theorem takeOut_H {d a : Addr} {xs : List (List (List UInt8) × Addr × Value)} {k : List (List UInt8)} {Q : Option DictEntry → Shared → Prop} (hu : (TK w).room A) (hkey : (TK w).is s.heap k a) (hm : s.heap.DictOfH (TK w) d xs) (hsz : xs.length ≤ sizeLine)
    (hno : atKey xs k = none → Q none { s with toks := s.toks + (TK w).draws k })
    (hyes : ∀ p e h', atKey xs k = some p → e.val = p.2 → h'.DictOfH (TK w) d (out xs k) → Heap.SameBut d s.heap h' → Q (some e) { s with heap := h', toks := s.toks + (TK w).draws k }) :
    wpAny (model prg w) A (Builtin.Dict.takeOut d (.ref a)) Q E s := by
  obtain ⟨o, es, ep, ho, hc, hd, he, his, hn⟩ := hm
  unfold Builtin.Dict.takeOut
  refine wpAny_holding ?_
  refine wpAny_bind ((TK w).pyHash hu hkey (wpAny_bind (wpAny_dictFind_heap (s := { s with toks := s.toks + (TK w).draws k }) hu hkey ho hd he his hn ?_ ?_)))
  · intro hnone
    exact wpAny_pure (hno (atKey_none_of_get hnone))
  · intro j p hj
    refine wpAny_bind (wpAny_dictEntries (s := { s with toks := s.toks + (TK w).draws k }) ho hd ?_)
    rw [entry_at he j, hj]
    refine wpAny_bind (wpAny_updateDictKeys (hz := by have e := size_of_entries he; omega) (s := { s with toks := s.toks + (TK w).draws k }) ho hd (wpAny_pure (hyes p _ _ (atKey_of_get hn hj) rfl
      ⟨_, _, ep + 1, Heap.get?_update_self _ ho (Obj.isFreed_of_dict (Obj.data_mapDictKeys hd _)), hc.mapDictKeys _, Obj.data_mapDictKeys hd _, ?_, ?_, ?_⟩ (Heap.SameBut.update ..))))
    · have hlt : j < es.size := by
        rw [size_of_entries he]
        exact (List.getElem?_eq_some_iff.mp hj).1
      rw [Array.eraseIdxIfInBounds, dif_pos hlt, Array.toList_eraseIdx, he, ← erase_out hn hj]
      rw [map_erase]
    · intro x hx
      exact (TK w).keeps (his x (List.mem_filter.mp hx).1) ho hd (Heap.SameBut.update ..)
    · exact hn.sublist (List.Sublist.map _ List.filter_sublist)

theorem pop_H {d a : Addr} {xs : List (List (List UInt8) × Addr × Value)} {k : List (List UInt8)} (hu : (TK w).room A.in1) (hkey : (TK w).is s.heap k a) (hd : (d == sysModules) = false) (hh : A.handled = none) (hm : s.heap.DictOfH (TK w) d xs) (hsz : xs.length ≤ sizeLine)
    (hno : atKey xs k = none → ∀ h' e tk', Heap.NewExc s.heap h' e "KeyError" → E (.ref e) { s with heap := h', toks := tk' })
    (hyes : ∀ p h', atKey xs k = some p → h'.DictOfH (TK w) d (out xs k) → Heap.SameBut d s.heap h' → Q p.2 { s with heap := h', toks := s.toks + (TK w).draws k }) :
    wpAny (model prg w) A (call (.builtin "dict.pop") [.ref d, .ref a]) Q E s := by
  refine wpAny_call_entry F.slot_dict_pop hm.typeIs F.entry_dict_pop ?_ (F.args_dict_pop_2 _ _)
  unfold Builtin.«dict.pop»
  refine wpAny_bind ?_
  unfold Builtin.Dict.keyAndDefault
  refine wpAny_bind (wpAny_notOrdered_dict hm.typeIs ?_)
  show wpAny _ _ (pure (d, Value.ref a, none)) _ _ s
  refine wpAny_pure ?_
  obtain ⟨o, es, ep, ho, hc, hdat, he, his, hn⟩ := id hm
  simp only [show (keyPart (Value.ref a)).isSome = false from rfl, Bool.false_eq_true, if_false]
  refine wpAny_bind (wpAny_dictEntries ho hdat ?_)
  refine wpAny_bind (wpAny_pure ?_)
  have hsz' : es.size = xs.length := size_of_entries he
  by_cases h0 : xs = []
  · have hemp : es.isEmpty = true := by rw [Array.isEmpty_iff_size_eq_zero, hsz', h0]; rfl
    refine wpAny_ite_true hemp ?_
    refine wpAny_bind (wpAny_rule ?_)
    refine wpAny_bind (wpAny_pure ?_)
    simp only [Option.isNone_none, if_true]
    refine wpAny_bind (wpAny_missedRemoval_other hd ?_)
    refine wpAny_bind (wpAny_rule (wpAny_raise_newExc (A := A.in1) plainExc_KeyError hh ?_))
    intro h' e hn'
    exact hno (by rw [h0]; rfl) h' e _ hn'
  · have hemp : es.isEmpty = false := by
      rw [Bool.eq_false_iff, Ne, Array.isEmpty_iff_size_eq_zero, hsz']
      intro e
      exact h0 (List.length_eq_zero_iff.mp e)
    refine wpAny_ite_false hemp ?_
    refine wpAny_bind (takeOut_H hu hkey hm hsz (fun hnone => ?_) fun p e h' hsome hev hm' hs' => ?_)
    · simp only [Option.isNone_none, if_true]
      refine wpAny_bind (wpAny_missedRemoval_other hd ?_)
      refine wpAny_bind (wpAny_rule (wpAny_raise_newExc (A := A.in1) plainExc_KeyError hh ?_))
      intro h' e hn'
      exact hno hnone h' e _ hn'
    · simp only [Option.isNone_some, Bool.false_eq_true, if_false]
      exact wpAny_bind (wpAny_letGo (wpAny_pure ⟨e.val, rfl, by rw [hev]; exact hyes p h' hsome hm' hs'⟩))
end
end Mine
end
section
open PySem PySem.W PyProof.Rows PySem.Calls
namespace Mine
/-- steps of the library's walk up to a comprehension, a call of the text's own, a loop -/
local macro_rules | `(tactic| walk_at "my go") => `(tactic| repeat' (
  ((fail_if_success (with_reducible show wpAny _ _ (eval (Expr.ListComp _ _ _ _) _) _ _ _));
   (fail_if_success (with_reducible show wpAny _ _ (call (Value.ref _) _ _) _ _ _));
   (fail_if_success (with_reducible show wpAny _ _ (call (Value.type _) _ _) _ _ _));
   (fail_if_success (with_reducible show wpAny _ _ (exec (Stmt.For _ _ _ _ _) _) _ _ _));
   (fail_if_success (with_reducible show wpAny _ _ (exec (Stmt.Assign _ (Expr.ListComp _ _ _ _) _) _) _ _ _));
   (fail_if_success (with_reducible show wpAny _ _ (pyIter _) _ _ _));
   (first | (k_unfold; (try dsimp only)) | walk1 | (dsimp only; walk1)))))
local macro_rules | `(tactic| k_inst) => `(tactic| exact inst_base (by k_asm) (by assumption))
/-- a name's value out of the frame's facts -/
local macro_rules | `(tactic| walk_at "my look") => `(tactic| first
  | assumption
  | exact if_pos rfl
  | exact rfl
  | (refine (if_neg (by decide)).trans ?_; walk_at "my look"))
local macro_rules | `(tactic| walk_at "eval Name") => `(tactic| (k_here; k_dflt (refine' ld ?k1 ?k2 ?_; (case k1 => k_asm); (case k2 => walk_at "my look"); k_whole)))
local macro_rules | `(tactic| walk_at "loadName") => `(tactic| (k_here; k_dflt (refine' ldn ?k1 ?k2 ?_; (case k1 => k_asm); (case k2 => walk_at "my look"); k_whole)))
local macro_rules | `(tactic| walk_at "eval Name") => `(tactic| ((with_reducible show wpAny _ _ (eval (Expr.Name _ _) (compEnvC _ _ _ _)) _ _ _); k_dflt (refine ldVarK (by assumption) (by assumption) ?_)))

section
variable {w : World} {p : Program} {loose : List Str} {mean : ExcName → Option Value} {mg mb : Str → Option Value} {A : Around} {s : Shared} {Q E : Value → Shared → Prop}
theorem ents_len {h : Heap} {xs : List (List (List UInt8) × Addr × Value)} {D : List Ent} (N : EntsAt w h xs D) : xs.length = D.length := by
  induction N with
  | nil => rfl
  | cons _ _ ih => simp only [List.length_cons]; omega
theorem dictlen_ok {nd dx d : Addr} {D : List Ent} {md mi : Int} (T : Top p loose mean mg mb s.heap) (hh : A.handled = none) (hdp : A.depth + 6 < recursionLimit) (hun : A.units + 60 < cLine)
    (hd' : DictAt w s.heap nd dx d D md mi) (hD : D.length ≤ 100)
    (h : ∀ h' tk' u, Ext s.heap h' → Q (.int D.length u) { s with heap := h', toks := tk' }) :
    (hd.heap_39 w.params).In s.heap → wpAny (model PySem.Challenge.rw_ab5010_01.row.prog w) A (call (.ref 571) [.ref nd]) Q E s := by
  k_fill
  intro X
  obtain ⟨t1, t2, t3, u2, u3, I⟩ := hd'.inst
  k_dflt (refine enterP X T.nolimit (by k_is) (by k_is) (by omega) (BindsTo.of_eq rfl) (locs rfl) (by decide) rfl rfl rfl ?_)
  intro L h₁ tk₁ F
  have N : News s.heap L h₁ [] := News.nil
  obtain ⟨xs, hm, hE⟩ := (dictat_ext hd' F.keep).store
  have hl : xs.length = D.length := ents_len hE
  walk_at "my go"
  refine len_dictH hd'.mods hm (by omega) fun u => ?_
  rw [hl]
  exact h _ _ _ F.keep
end
end Mine
end
section
open PySem PySem.W PyProof.Rows PySem.Calls
namespace Mine
/-- steps of the library's walk up to a comprehension, a call of the text's own, a loop -/
local macro_rules | `(tactic| walk_at "my go") => `(tactic| repeat' (
  ((fail_if_success (with_reducible show wpAny _ _ (eval (Expr.ListComp _ _ _ _) _) _ _ _));
   (fail_if_success (with_reducible show wpAny _ _ (call (Value.ref _) _ _) _ _ _));
   (fail_if_success (with_reducible show wpAny _ _ (call (Value.type _) _ _) _ _ _));
   (fail_if_success (with_reducible show wpAny _ _ (exec (Stmt.For _ _ _ _ _) _) _ _ _));
   (fail_if_success (with_reducible show wpAny _ _ (exec (Stmt.Assign _ (Expr.ListComp _ _ _ _) _) _) _ _ _));
   (fail_if_success (with_reducible show wpAny _ _ (pyIter _) _ _ _));
   (first | (k_unfold; (try dsimp only)) | walk1 | (dsimp only; walk1)))))
local macro_rules | `(tactic| k_inst) => `(tactic| exact inst_base (by k_asm) (by assumption))
/-- a name's value out of the frame's facts -/
local macro_rules | `(tactic| walk_at "my look") => `(tactic| first
  | assumption
  | exact if_pos rfl
  | exact rfl
  | (refine (if_neg (by decide)).trans ?_; walk_at "my look"))
local macro_rules | `(tactic| walk_at "eval Name") => `(tactic| (k_here; k_dflt (refine' ld ?k1 ?k2 ?_; (case k1 => k_asm); (case k2 => walk_at "my look"); k_whole)))
local macro_rules | `(tactic| walk_at "loadName") => `(tactic| (k_here; k_dflt (refine' ldn ?k1 ?k2 ?_; (case k1 => k_asm); (case k2 => walk_at "my look"); k_whole)))
local macro_rules | `(tactic| walk_at "eval Name") => `(tactic| ((with_reducible show wpAny _ _ (eval (Expr.Name _ _) (compEnvC _ _ _ _)) _ _ _); k_dflt (refine ldVarK (by assumption) (by assumption) ?_)))

section
variable {w : World} {p : Program} {loose : List Str} {mean : ExcName → Option Value} {mg mb : Str → Option Value} {A : Around} {s : Shared} {Q E : Value → Shared → Prop}
theorem news_keeps {g h h' : Heap} {L : Addr} {nx : List (Addr × Obj)} (N : News g L h nx) (e : Ext h h') : News g L h' nx := fun q hq => ⟨e _ _ (N q hq).1, (N q hq).2⟩
theorem stays2 {h₀ h : Heap} {L nd dx : Addr} {m : Str → Option Value} {od : Obj} (F : Fr (hideAll h₀ [nd, dx]) L h m) (N : News (hideAll h₀ [nd, dx]) L h [(nd, instObj 588 dx), (dx, od)]) (hnd : h₀.get? nd = some (instObj 588 dx)) :
    ∀ b o, b ≠ dx → h₀.get? b = some o → h.get? b = some o := fun b o hb e => by
  by_cases e1 : b = nd
  · rw [e1] at e ⊢
    rw [hnd] at e
    cases e
    exact (N _ (.head _)).1
  · exact F.keep _ _ (hideAll_get _ e (by
      intro hm
      simp only [List.mem_cons, List.not_mem_nil, or_false] at hm
      exact hm.elim e1 hb))
theorem upd_ok {g : Heap} {nd dx key kdx kt d : Addr} {ktk t1 t2 t3 u2 u3 : Tok} {ls : List (List UInt8)} {md mi : Int} (T : Top p loose mean mg mb g) (hge : Ext g s.heap) (hgn : g.get? nd = none) (hgx : g.get? dx = none) (hdp : A.depth + 6 < recursionLimit)
    (hnd : s.heap.get? nd = some (instObj 588 dx)) (hdx : s.heap.get? dx = some (ndObj w d md mi t1 t2 t3 u2 u3)) (hk : NameAt w g key 482 kdx kt ktk ls) (hg : Good ls)
    (h : ∀ h' tk' md' mi' t1 t2 t3 u2 u3, (∀ b o, b ≠ dx → s.heap.get? b = some o → h'.get? b = some o) → h'.get? dx = some (ndObj w d md' mi' t1 t2 t3 u2 u3) → md ≤ md' → (ls.length : Int) ≤ md' → Q .none { s with heap := h', toks := tk' }) :
    (hd.heap_39 w.params).In g → wpAny (model PySem.Challenge.rw_ab5010_01.row.prog w) A (call (.ref 543) [.ref nd, .ref key]) Q E s := by
  k_fill
  intro X
  have e0 : ∀ b o, g.get? b = some o → (hideAll s.heap [nd, dx]).get? b = some o := fun b o e => hideAll_get _ (hge b o e) (by
    intro hm
    simp only [List.mem_cons, List.not_mem_nil, or_false] at hm
    rcases hm with rfl | rfl
    · rw [hgn] at e; cases e
    · rw [hgx] at e; cases e)
  k_dflt (refine enterP (X.keeps hge) (T.keeps hge).nolimit (by k_is) (by k_is) (by omega) (BindsTo.of_eq rfl) (locs rfl) (by decide) rfl rfl rfl ?_)
  intro L h₁ tk₁ F₁
  have hL := F₁.above
  have F := fr_base F₁ (g' := hideAll s.heap [nd, dx]) (fun b o e => of_hideAll _ e) (Nat.le_of_eq (hideAll_size _ _))
  have hnd1 := F₁.keep _ _ hnd
  have hdx1 := F₁.keep _ _ hdx
  have N : News (hideAll s.heap [nd, dx]) L h₁ [(nd, instObj 588 dx), (dx, ndObj w d md mi t1 t2 t3 u2 u3)] := by
    intro q hq
    simp only [List.mem_cons, List.not_mem_nil, or_false] at hq
    rcases hq with rfl | rfl
    · exact ⟨hnd1, Nat.ne_of_lt (Nat.lt_of_lt_of_le (Heap.lt_size hnd) hL), hideAll_none _ (.head _)⟩
    · exact ⟨hdx1, Nat.ne_of_lt (Nat.lt_of_lt_of_le (Heap.lt_size hdx) hL), hideAll_none _ (.tail _ (.head _))⟩
  clear F₁
  replace T := T.keeps e0
  replace X := X.keeps e0
  replace hk := nameat_ext hk e0
  obtain ⟨I, ht⟩ := id hk
  have n1 : @Ne Nat nd dx := by
    intro e
    rw [show nd = dx from e] at hnd1
    rw [hnd1] at hdx1
    cases hdx1
  clear hnd1 hdx1 hdx hgn hgx hge
  have hlen := hg.len
  walk_at "my go"
  refine namelen_ok (T.keeps F.keep) (by show A.depth + 1 + 2 < recursionLimit; omega) (nameat_ext hk F.keep) (by omega) (fun h₂ tk₂ u he₂ => ?_) (X.keeps F.keep)
  have F₂ := F.keeps he₂
  have N₂ := news_keeps N he₂
  clear F N
  refine ⟨⟨by omega, by omega⟩, ?_⟩
  walk_at "my go"
  · (with_reducible rename Fr _ _ _ _ => F₃)
    (with_reducible rename News _ _ _ _ => N₃)
    exact h _ _ _ _ _ _ _ _ _ (stays2 F₃ N₃ hnd) (N₃ _ (.tail _ (.head _))).1 (by omega) (by omega)
  · (with_reducible rename Fr _ _ _ _ => F₃)
    (with_reducible rename News _ _ _ _ => N₃)
    refine namelen_ok (T.keeps F₃.keep) (by show A.depth + 1 + 2 < recursionLimit; omega) (nameat_ext hk F₃.keep) (by omega) (fun h₄ tk₄ u₄ he₄ => ?_) (X.keeps F₃.keep)
    have F₄ := F₃.keeps he₄
    have N₄ := news_keeps N₃ he₄
    clear F₃ N₃
    refine ⟨⟨by omega, by omega⟩, ?_⟩
    walk_at "my go"
    · (with_reducible rename Fr _ _ _ _ => F₃)
      (with_reducible rename News _ _ _ _ => N₃)
      refine namelen_ok (T.keeps F₃.keep) (by show A.depth + 1 + 2 < recursionLimit; omega) (nameat_ext hk F₃.keep) (by omega) (fun h₅ tk₅ u₅ he₅ => ?_) (X.keeps F₃.keep)
      have F₅ := F₃.keeps he₅
      have N₅ := news_keeps N₃ he₅
      clear F₃ N₃
      refine ⟨⟨by omega, by omega⟩, ?_⟩
      walk_at "my go"
      (with_reducible rename Fr _ _ _ _ => F₃)
      (with_reducible rename News _ _ _ _ => N₃)
      exact h _ _ _ _ _ _ _ _ _ (stays2 F₃ N₃ hnd) (N₃ _ (.tail _ (.head _))).1 (by omega) (by omega)
    · (with_reducible rename Fr _ _ _ _ => F₃)
      (with_reducible rename News _ _ _ _ => N₃)
      exact h _ _ _ _ _ _ _ _ _ (stays2 F₃ N₃ hnd) (N₃ _ (.tail _ (.head _))).1 (by omega) (by omega)
end
end Mine
end
section
open PySem PySem.W PyProof.Rows PySem.Calls
namespace Mine
/-- steps of the library's walk up to a comprehension, a call of the text's own, a loop -/
local macro_rules | `(tactic| walk_at "my go") => `(tactic| repeat' (
  ((fail_if_success (with_reducible show wpAny _ _ (eval (Expr.ListComp _ _ _ _) _) _ _ _));
   (fail_if_success (with_reducible show wpAny _ _ (call (Value.ref _) _ _) _ _ _));
   (fail_if_success (with_reducible show wpAny _ _ (call (Value.type _) _ _) _ _ _));
   (fail_if_success (with_reducible show wpAny _ _ (exec (Stmt.For _ _ _ _ _) _) _ _ _));
   (fail_if_success (with_reducible show wpAny _ _ (exec (Stmt.Assign _ (Expr.ListComp _ _ _ _) _) _) _ _ _));
   (fail_if_success (with_reducible show wpAny _ _ (pyIter _) _ _ _));
   (first | (k_unfold; (try dsimp only)) | walk1 | (dsimp only; walk1)))))
local macro_rules | `(tactic| k_inst) => `(tactic| exact inst_base (by k_asm) (by assumption))
/-- a name's value out of the frame's facts -/
local macro_rules | `(tactic| walk_at "my look") => `(tactic| first
  | assumption
  | exact if_pos rfl
  | exact rfl
  | (refine (if_neg (by decide)).trans ?_; walk_at "my look"))
local macro_rules | `(tactic| walk_at "eval Name") => `(tactic| (k_here; k_dflt (refine' ld ?k1 ?k2 ?_; (case k1 => k_asm); (case k2 => walk_at "my look"); k_whole)))
local macro_rules | `(tactic| walk_at "loadName") => `(tactic| (k_here; k_dflt (refine' ldn ?k1 ?k2 ?_; (case k1 => k_asm); (case k2 => walk_at "my look"); k_whole)))
local macro_rules | `(tactic| walk_at "eval Name") => `(tactic| ((with_reducible show wpAny _ _ (eval (Expr.Name _ _) (compEnvC _ _ _ _)) _ _ _); k_dflt (refine ldVarK (by assumption) (by assumption) ?_)))

section
variable {w : World} {p : Program} {loose : List Str} {mean : ExcName → Option Value} {mg mb : Str → Option Value} {A : Around} {s : Shared} {Q E : Value → Shared → Prop}
abbrev hid (h : Heap) (nd dx d : Addr) : Heap := hideAll h [nd, dx, d]
theorem hid_mem {h : Heap} {nd dx d b : Addr} {o : Obj} (e : h.get? b = some o) (n1 : b ≠ nd) (n2 : b ≠ dx) (n3 : b ≠ d) : (hid h nd dx d).get? b = some o :=
  hideAll_get _ e (by
    intro hm
    simp only [List.mem_cons, List.not_mem_nil, or_false] at hm
    rcases hm with a | a | a
    · exact n1 a
    · exact n2 a
    · exact n3 a)
section
variable {h : Heap} {nd dx d : Addr} {D : List Ent} {md mi : Int}
theorem DictAt.nd_at (H : DictAt w h nd dx d D md mi) : h.get? nd = some (instObj 588 dx) := let ⟨_, _, _, _, _, I⟩ := H.inst; I.at_
theorem DictAt.dx_at (H : DictAt w h nd dx d D md mi) : ∃ t1 t2 t3 u2 u3, h.get? dx = some (ndObj w d md mi t1 t2 t3 u2 u3) := let ⟨t1, t2, t3, u2, u3, I⟩ := H.inst; ⟨t1, t2, t3, u2, u3, I.dict⟩
theorem tup_hid (H : DictAt w h nd dx d D md mi) {b : Addr} {o : Obj} (e : h.get? b = some o) (hc : o.cls = .type "tuple") : (hid h nd dx d).get? b = some o := by
  refine hid_mem e ?_ ?_ ?_
  · intro q; rw [q, H.nd_at] at e; cases e; cases hc
  · intro q; obtain ⟨t1, t2, t3, u2, u3, hx⟩ := H.dx_at; rw [q, hx] at e; cases e; injection hc with hc; exact absurd hc (by decide)
  · intro q; obtain ⟨xs, ⟨od, es, ep, h1, h2, h3⟩, _⟩ := H.store; rw [q, h1] at e; cases e; rw [h2.1] at hc; injection hc with hc; exact absurd hc (by decide)
theorem name_hid (H : DictAt w h nd dx d D md mi) {x C kdx t : Addr} {tk : Tok} {ls : List (List UInt8)} (hC : (588 == C) = false) (N : NameAt w h x C kdx t tk ls) : NameAt w (hid h nd dx d) x C kdx t tk ls := by
  obtain ⟨I, ot, items, n, h1, h2, h3⟩ := N
  obtain ⟨t1, t2, t3, u2, u3, hx⟩ := H.dx_at
  obtain ⟨xs, ⟨od, es, ep, h4, h5, h6, h7, h8⟩, _⟩ := H.store
  refine ⟨⟨?_, I.cls, I.no, ?_⟩, ot, items, n, tup_hid H h1 h2, h2, h3⟩
  · refine hid_mem I.at_ ?_ ?_ ?_
    · intro q
      have := I.at_
      rw [q, H.nd_at] at this
      injection this with this
      injection this with this
      injection this with this
      rw [this] at hC
      simp at hC
    · intro q; have := I.at_; rw [q, hx] at this; cases this
    · intro q; have := I.at_; rw [q, h4] at this; cases this; have := h5.1; cases this
  · have hk : h.get? kdx = some (W.dictOf [⟨PyData.keyHash w.params (Str.ofString "labels"), .str (Str.ofString "labels") tk, .ref t⟩] 1) := I.dict
    show (hid h nd dx d).get? kdx = some _
    refine hid_mem hk ?_ ?_ ?_
    · intro q; rw [q, H.nd_at] at hk; cases hk
    · intro q
      rw [q, hx] at hk
      injection hk with hk
      injection hk with _ _ hk
      injection hk with hk
      have := congrArg Array.size hk
      simp at this
    · intro q
      rw [q, h4] at hk
      injection hk with hk
      rw [hk] at h6
      injection h6 with h6
      rw [← h6] at h7
      cases xs with
      | nil => cases h7
      | cons a b =>
        injection h7 with h7
        injection h7 with _ h7
        cases h7
theorem ents_hid (H : DictAt w h nd dx d D md mi) {xs : List (List (List UInt8) × Addr × Value)} {E : List Ent} (N : EntsAt w h xs E) : EntsAt w (hid h nd dx d) xs E := by
  induction N with
  | nil => exact .nil
  | cons a _ ih =>
    refine .cons ⟨a.key, a.good, ?_⟩ ih
    obtain ⟨pa, kx, kdx, kt, ktk, u, n, h1, h2, h3⟩ := a.at_
    exact ⟨pa, kx, kdx, kt, ktk, u, n, h1, tup_hid H h2 rfl, name_hid H rfl h3⟩
end
/-- the dictionary, opened: its three objects stand beside a base that holds the rest -/
structure Opened (w : World) (g h : Heap) (nd dx d : Addr) (D : List Ent) (od : Obj) (es : Array DictEntry) (ep : Nat) (xs : List (List (List UInt8) × Addr × Value)) : Prop where
  sub : Ext g h
  nond : g.get? nd = none
  nodx : g.get? dx = none
  nod : g.get? d = none
  atd : h.get? d = some od
  exact_ : od.ExactDict
  data : od.data = .dict es ep
  ents : es.toList = xs.map (entryOfKey (TK w))
  keys : ∀ x ∈ xs, IsTupleKey (bytesKind prg w) g x.1 x.2.1
  nodup : (xs.map (·.1)).Nodup
  all : EntsAt w g xs D
  mods : (d == sysModules) = false
  ne1 : @Ne Nat nd dx
  ne2 : @Ne Nat nd d
  ne3 : @Ne Nat dx d
structure Rest (w : World) (h₀ B : Heap) (nd dx d : Addr) : Prop where
  stay : ∀ b o, h₀.get? b = some o → b ≠ nd → b ≠ dx → b ≠ d → B.get? b = some o
  size : B.objs.size ≤ h₀.objs.size
  name : ∀ x C kdx t tk ls, (588 == C) = false → NameAt w h₀ x C kdx t tk ls → NameAt w B x C kdx t tk ls
theorem Rest.base {h₀ B g : Heap} {nd dx d : Addr} (R : Rest w h₀ B nd dx d) (hge : Ext g h₀) (hgn : g.get? nd = none) (hgx : g.get? dx = none) (hgd : g.get? d = none) : Ext g B :=
  fun b o e => R.stay b o (hge b o e) (fun q => by rw [q, hgn] at e; cases e) (fun q => by rw [q, hgx] at e; cases e) (fun q => by rw [q, hgd] at e; cases e)
theorem open_dict {h : Heap} {nd dx d : Addr} {D : List Ent} {md mi : Int} (H : DictAt w h nd dx d D md mi) : ∃ B od es ep xs, Opened w B h nd dx d D od es ep xs ∧ Rest w h B nd dx d := by
  obtain ⟨xs, ⟨od, es, ep, h4, h5, h6, h7, h8, h9⟩, hE⟩ := id H.store
  obtain ⟨t1, t2, t3, u2, u3, hx⟩ := H.dx_at
  have hn := H.nd_at
  refine ⟨hid h nd dx d, od, es, ep, xs, ⟨fun b o e => of_hideAll _ e, hideAll_none _ (.head _), hideAll_none _ (.tail _ (.head _)), hideAll_none _ (.tail _ (.tail _ (.head _))), h4, h5, h6, h7, ?_, h9, ents_hid H hE, H.mods, ?_, ?_, ?_⟩, ⟨fun b o e n1 n2 n3 => hid_mem e n1 n2 n3, Nat.le_of_eq (hideAll_size _ _), fun x C kdx t tk ls hC N => name_hid H hC N⟩⟩
  · intro x hx'
    obtain ⟨ot, items, n, h1, h2, h3⟩ := h8 x hx'
    exact ⟨ot, items, n, tup_hid H h1 h2, h2, h3⟩
  · intro q; rw [show nd = dx from q, hx] at hn; cases hn
  · intro q; rw [show nd = d from q, h4] at hn; cases hn; have := h5.1; cases this
  · intro q
    rw [show dx = d from q, h4] at hx
    injection hx with hx
    rw [hx] at h6
    injection h6 with h6
    rw [← h6] at h7
    cases xs with
    | nil => cases h7
    | cons a b =>
      injection h7 with h7
      injection h7 with _ h7
      cases h7
end
end Mine
end
section
open PySem PySem.W PyProof.Rows PySem.Calls
namespace Mine
/-- steps of the library's walk up to a comprehension, a call of the text's own, a loop -/
local macro_rules | `(tactic| walk_at "my go") => `(tactic| repeat' (
  ((fail_if_success (with_reducible show wpAny _ _ (eval (Expr.ListComp _ _ _ _) _) _ _ _));
   (fail_if_success (with_reducible show wpAny _ _ (call (Value.ref _) _ _) _ _ _));
   (fail_if_success (with_reducible show wpAny _ _ (call (Value.type _) _ _) _ _ _));
   (fail_if_success (with_reducible show wpAny _ _ (exec (Stmt.For _ _ _ _ _) _) _ _ _));
   (fail_if_success (with_reducible show wpAny _ _ (exec (Stmt.Assign _ (Expr.ListComp _ _ _ _) _) _) _ _ _));
   (fail_if_success (with_reducible show wpAny _ _ (pyIter _) _ _ _));
   (first | (k_unfold; (try dsimp only)) | walk1 | (dsimp only; walk1)))))
local macro_rules | `(tactic| k_inst) => `(tactic| exact inst_base (by k_asm) (by assumption))
/-- a name's value out of the frame's facts -/
local macro_rules | `(tactic| walk_at "my look") => `(tactic| first
  | assumption
  | exact if_pos rfl
  | exact rfl
  | (refine (if_neg (by decide)).trans ?_; walk_at "my look"))
local macro_rules | `(tactic| walk_at "eval Name") => `(tactic| (k_here; k_dflt (refine' ld ?k1 ?k2 ?_; (case k1 => k_asm); (case k2 => walk_at "my look"); k_whole)))
local macro_rules | `(tactic| walk_at "loadName") => `(tactic| (k_here; k_dflt (refine' ldn ?k1 ?k2 ?_; (case k1 => k_asm); (case k2 => walk_at "my look"); k_whole)))
local macro_rules | `(tactic| walk_at "eval Name") => `(tactic| ((with_reducible show wpAny _ _ (eval (Expr.Name _ _) (compEnvC _ _ _ _)) _ _ _); k_dflt (refine ldVarK (by assumption) (by assumption) ?_)))

section
variable {w : World} {p : Program} {loose : List Str} {mean : ExcName → Option Value} {mg mb : Str → Option Value} {A : Around} {s : Shared} {Q E : Value → Shared → Prop}
def Deep (D : List Ent) (md : Int) : Prop := 0 ≤ md ∧ ∀ e ∈ D, (e.labels.length : Int) ≤ md
def put (D : List Ent) (ls : List (List UInt8)) (v : Int) : List Ent :=
  if (find D (low ls)).isSome then D.map (fun e => if low e.labels = low ls then ⟨e.labels, v⟩ else e) else D ++ [⟨ls, v⟩]

theorem ents_app {h : Heap} {xs : List (List (List UInt8) × Addr × Value)} {D : List Ent} {x : List (List UInt8) × Addr × Value} {e : Ent} (N : EntsAt w h xs D) (a : EntAt w h x e) : EntsAt w h (xs ++ [x]) (D ++ [e]) := by
  induction N with
  | nil => exact .cons a .nil
  | cons b _ ih => exact .cons b ih
theorem ents_keys {h : Heap} {xs : List (List (List UInt8) × Addr × Value)} {D : List Ent} (N : EntsAt w h xs D) : xs.map (·.1) = D.map fun e => low e.labels := by
  induction N with
  | nil => rfl
  | cons b _ ih => simp only [List.map_cons, ih, b.key]
theorem ents_map {h : Heap} {xs : List (List (List UInt8) × Addr × Value)} {D : List Ent} {k : List (List UInt8)} {p : Addr × Value} {e : Ent} {v' : Value} {v : Int} (N : EntsAt w h xs D) (hn : (xs.map (·.1)).Nodup) (e1 : atKey xs k = some p) (e2 : find D k = some e)
    (a : EntAt w h (k, p.1, v') ⟨e.labels, v⟩) : EntsAt w h (xs.map (putAt k v')) (D.map fun e => if low e.labels = k then ⟨e.labels, v⟩ else e) := by
  induction N with
  | nil => cases e1
  | @cons x e0 xs D b N ih =>
    rw [List.map_cons, List.nodup_cons] at hn
    rw [List.map_cons, List.map_cons]
    by_cases hk : x.1 = k
    · have hk' : low e0.labels = k := by rw [← b.key]; exact hk
      have q1 : x.2 = p := by simpa [atKey, hk] using e1
      have q2 : e0 = e := by simpa [find, hk'] using e2
      have hnot : k ∉ xs.map (·.1) := by rw [← hk]; exact hn.1
      rw [map_putAt_of_not_mem _ _ _ hnot]
      have : D.map (fun e => if low e.labels = k then (⟨e.labels, v⟩ : Ent) else e) = D := by
        conv => rhs; rw [← List.map_id D]
        apply List.map_congr_left
        intro y hy
        rw [if_neg]; · rfl
        intro q
        rw [ents_keys N] at hnot
        exact hnot (List.mem_map.mpr ⟨y, hy, q⟩)
      rw [this, if_pos hk']
      refine .cons ?_ N
      rw [putAt, if_pos hk, hk, q2, q1]
      exact a
    · have hk' : low e0.labels ≠ k := by rw [← b.key]; exact hk
      rw [if_neg hk', putAt, if_neg hk]
      refine .cons b (ih hn.2 ?_ ?_)
      · simpa [atKey, hk] using e1
      · simpa [find, hk'] using e2
theorem deep_put {D : List Ent} {ls : List (List UInt8)} {v md md' : Int} (hd : Deep D md) (h1 : md ≤ md') (h2 : find D (low ls) = none → (ls.length : Int) ≤ md') : Deep (put D ls v) md' := by
  refine ⟨Int.le_trans hd.1 h1, ?_⟩
  intro e he
  unfold put at he
  split at he
  · obtain ⟨e', he', rfl⟩ := List.mem_map.mp he
    have := hd.2 e' he'
    split
    · show (e'.labels.length : Int) ≤ md'; omega
    · omega
  · rename_i hn
    rcases List.mem_append.mp he with he | he
    · have := hd.2 e he; omega
    · rw [List.mem_singleton.mp he]
      exact h2 (by simpa using hn)
theorem base_same {g h h' : Heap} {d : Addr} (e : Ext g h) (hs : Heap.SameBut d h h') (hd' : g.get? d = none) : Ext g h' := fun b o q => by
  rw [hs.2 b (fun x => by rw [x, hd'] at q; cases q)]
  exact e b o q
theorem stays3 {h₀ B h : Heap} {nd dx d : Addr} (RB : Rest w h₀ B nd dx d) (e : Ext B h) (hnd : h₀.get? nd = some (instObj 588 dx)) (hnd' : h.get? nd = some (instObj 588 dx)) : ∀ b o, b ≠ dx → b ≠ d → h₀.get? b = some o → h.get? b = some o := fun b o n1 n2 q => by
  by_cases q1 : b = nd
  · rw [q1] at q ⊢
    rw [hnd] at q
    cases q
    exact hnd'
  · exact e _ _ (RB.stay _ _ q q1 n1 n2)
theorem dictat_mk {h : Heap} {nd dx d : Addr} {D : List Ent} {md mi : Int} {t1 t2 t3 u2 u3 : Tok} {xs : List (List (List UInt8) × Addr × Value)} (a : h.get? nd = some (instObj 588 dx)) (b : h.get? dx = some (ndObj w d md mi t1 t2 t3 u2 u3)) (c : h.DictOfH (TK w) d xs) (e : EntsAt w h xs D) (m : (d == sysModules) = false) : DictAt w h nd dx d D md mi :=
  ⟨⟨t1, t2, t3, u2, u3, ⟨a, rfl, rfl, b⟩⟩, ⟨xs, c, e⟩, m⟩
/-- behind the last store: the dictionary with the pair put in -/
theorem set_end {h₀ B h₅ h₆ : Heap} {L nd dx d pa kx kdx kt t' : Addr} {m : Str → Option Value} {ktk vt t1 t2 t3 u2 u3 : Tok} {D : List Ent} {od : Obj} {es : Array DictEntry} {ep n : Nat} {xs : List (List (List UInt8) × Addr × Value)} {ls : List (List UInt8)} {e' : Ent} {md' mi' v : Int}
    (O : Opened w B h₀ nd dx d D od es ep xs) (RB : Rest w h₀ B nd dx d) (hnd : h₀.get? nd = some (instObj 588 dx)) (F : Fr B L h₅ m) (h1 : h₅.get? nd = some (instObj 588 dx)) (h2 : h₅.get? dx = some (ndObj w d md' mi' t1 t2 t3 u2 u3)) (h3 : h₅.get? pa = some { cls := .type "tuple", data := .seq #[.ref kx, .int v vt] n }) (hpd : pa ≠ d)
    (hm : h₆.DictOfH (TK w) d (storedH xs (low ls) t' (.ref pa))) (hs : Heap.SameBut d h₅ h₆) (hk : NameAt w h₅ kx 482 kdx kt ktk e'.labels) (hkg : Ext B h₅ → NameAt w B kx 482 kdx kt ktk e'.labels) (hg : Good e'.labels)
    (hf : (atKey xs (low ls) = none ∧ find D (low ls) = none ∧ e'.labels = ls) ∨ ∃ p' , atKey xs (low ls) = some p' ∧ find D (low ls) = some e') :
    (∀ b o, b ≠ dx → b ≠ d → h₀.get? b = some o → h₆.get? b = some o) ∧ DictAt w h₆ nd dx d (put D ls v) md' mi' := by
  have eb := base_same F.keep hs O.nod
  have q1 : h₆.get? nd = some (instObj 588 dx) := by rw [hs.2 nd O.ne2]; exact h1
  have q2 : h₆.get? dx = some (ndObj w d md' mi' t1 t2 t3 u2 u3) := by rw [hs.2 dx O.ne3]; exact h2
  have q3 : h₆.get? pa = some { cls := .type "tuple", data := .seq #[.ref kx, .int v vt] n } := by rw [hs.2 pa hpd]; exact h3
  have qk : NameAt w h₆ kx 482 kdx kt ktk e'.labels := nameat_ext (hkg F.keep) eb
  have hE := entsat_ext O.all eb
  refine ⟨stays3 RB eb hnd q1, dictat_mk q1 q2 hm ?_ O.mods⟩
  rcases hf with ⟨e1, e2, e3⟩ | ⟨p', e1, e2⟩
  · rw [storedH_new e1, put, e2]
    rw [e3] at qk hg
    exact ents_app hE ⟨rfl, hg, _, _, _, _, _, _, _, rfl, q3, qk⟩
  · rw [storedH_old e1, put, e2]
    have hlow : low ls = low e'.labels := by
      have := List.find?_some e2
      exact Eq.symm (by simpa using this)
    exact ents_map hE O.nodup e1 e2 ⟨hlow, hg, _, _, _, _, _, _, _, rfl, q3, qk⟩
theorem fr_but {g h h' : Heap} {L dx : Addr} {m : Str → Option Value} (F : Fr g L h m) (hg : g.get? dx = none) (hL : @Ne Nat dx L) (k : ∀ b o, b ≠ dx → h.get? b = some o → h'.get? b = some o) : Fr g L h' m :=
  ⟨let ⟨oL, es, ep, e, r⟩ := F.ns; ⟨oL, es, ep, k _ _ (fun q => hL q.symm) e, r⟩, fun b o e => k _ _ (fun q => by rw [q, hg] at e; cases e) (F.keep b o e), F.above⟩
theorem store_at {g h h' : Heap} {nd dx d : Addr} {D : List Ent} {od : Obj} {es : Array DictEntry} {ep : Nat} {xs : List (List (List UInt8) × Addr × Value)} (O : Opened w g h nd dx d D od es ep xs) (e : Ext g h') (hd' : h'.get? d = some od) : h'.DictOfH (TK w) d xs :=
  ⟨od, es, ep, hd', O.exact_, O.data, O.ents, fun x hx => tupk_ext (O.keys x hx) e, O.nodup⟩
theorem Opened.len {g h : Heap} {nd dx d : Addr} {D : List Ent} {od : Obj} {es : Array DictEntry} {ep : Nat} {xs : List (List (List UInt8) × Addr × Value)} (O : Opened w g h nd dx d D od es ep xs) (hl : D.length ≤ 100) : xs.length ≤ 100 := by
  rw [ents_len O.all]; exact hl
theorem setitem_ok {g : Heap} {nd dx d key kdx kt : Addr} {ktk vt : Tok} {D : List Ent} {md mi v : Int} {ls : List (List UInt8)} (T : Top p loose mean mg mb g) (hge : Ext g s.heap) (hgn : g.get? nd = none) (hgx : g.get? dx = none) (hgd : g.get? d = none) (hh : A.handled = none) (hdp : A.depth + 8 < recursionLimit) (hun : A.units + 60 < cLine)
    (hD : DictAt w s.heap nd dx d D md mi) (hDl : D.length ≤ 100) (hdeep : Deep D md) (hk : NameAt w s.heap key 482 kdx kt ktk ls) (hg : Good ls)
    (h : ∀ h' tk' md' mi', (∀ b o, b ≠ dx → b ≠ d → s.heap.get? b = some o → h'.get? b = some o) → DictAt w h' nd dx d (put D ls v) md' mi' → Deep (put D ls v) md' → Q .none { s with heap := h', toks := tk' }) :
    (hd.heap_39 w.params).In g → wpAny (model PySem.Challenge.rw_ab5010_01.row.prog w) A (call (.ref 557) [.ref nd, .ref key, .int v vt]) Q E s := by
  k_fill
  intro X
  obtain ⟨B, od, es, ep, xs, O, RB⟩ := open_dict hD
  obtain ⟨t1, t2, t3, u2, u3, hdx⟩ := hD.dx_at
  have hnd := hD.nd_at
  have e0 := RB.base hge hgn hgx hgd
  k_dflt (refine enterP (X.keeps hge) (T.keeps hge).nolimit (by k_is) (by k_is) (by omega) (BindsTo.of_eq rfl) (locs rfl) (by decide) rfl rfl rfl ?_)
  intro L h₁ tk₁ F₁
  have hL := F₁.above
  have F := fr_base F₁ O.sub RB.size
  have N : News (B) L h₁ [(nd, instObj 588 dx), (dx, ndObj w d md mi t1 t2 t3 u2 u3), (d, od)] := by
    intro q hq
    simp only [List.mem_cons, List.not_mem_nil, or_false] at hq
    rcases hq with rfl | rfl | rfl
    · exact ⟨F₁.keep _ _ hnd, Nat.ne_of_lt (Nat.lt_of_lt_of_le (Heap.lt_size hnd) hL), O.nond⟩
    · exact ⟨F₁.keep _ _ hdx, Nat.ne_of_lt (Nat.lt_of_lt_of_le (Heap.lt_size hdx) hL), O.nodx⟩
    · exact ⟨F₁.keep _ _ O.atd, Nat.ne_of_lt (Nat.lt_of_lt_of_le (Heap.lt_size O.atd) hL), O.nod⟩
  clear F₁
  obtain ⟨m₀, F, q₁, q₂, q₃⟩ : ∃ m₀, Fr B L h₁ m₀ ∧ m₀ (Str.ofString "self") = some (.ref nd) ∧ m₀ (Str.ofString "key") = some (.ref key) ∧ m₀ (Str.ofString "value") = some (.int v vt) := ⟨_, F, rfl, rfl, rfl⟩
  replace T := T.keeps e0
  replace X := X.keeps e0
  replace hk := RB.name _ _ _ _ _ _ rfl hk
  have n1 := O.ne1
  have n2 := O.ne2
  have n3 := O.ne3
  obtain ⟨I, ht⟩ := id hk
  walk_at "my go"
  refine folded_ok (T.keeps F.keep) hh (by show A.depth + 1 + 2 < recursionLimit; omega) (nameat_ext hk F.keep) (fun b hb => by have := hg.short b hb; omega) (by have := hg.len; omega) (fun h₂ tk₂ t he₂ ht₂ => ?_) (X.keeps F.keep)
  have F₂ := F.keeps he₂
  have N₂ := news_keeps N he₂
  clear F N
  walk_at "my go"
  rcases ents_find O.all (low ls) with ⟨e1, e2⟩ | ⟨p', e, e1, e2, e3⟩
  · refine wpAny_in_heap (knd := TK w) (show A.units + 3 + 1 < cLine by omega) ht₂ hD.mods (store_at O F₂.keep (N₂ _ (.tail _ (.tail _ (.head _)))).1) ?_
    rw [e1]
    walk_at "my go"
    refine upd_ok T F₂.keep O.nond O.nodx (by show A.depth + 1 + 6 < recursionLimit; omega) (N₂ _ (.head _)).1 (N₂ _ (.tail _ (.head _))).1 hk hg (fun h₃ tk₃ md' mi' t1' t2' t3' u2' u3' hst hdx3 hmd1 hmd2 => ?_) X
    have F₃ := fr_but F₂ O.nodx (N₂ _ (.tail _ (.head _))).2.1 hst
    have N₃ : News (B) L h₃ [(nd, instObj 588 dx), (dx, ndObj w d md' mi' t1' t2' t3' u2' u3'), (d, od)] := by
      intro q hq
      simp only [List.mem_cons, List.not_mem_nil, or_false] at hq
      rcases hq with rfl | rfl | rfl
      · exact ⟨hst _ _ n1 (N₂ _ (.head _)).1, (N₂ _ (.head _)).2⟩
      · exact ⟨hdx3, (N₂ _ (.tail _ (.head _))).2⟩
      · exact ⟨hst _ _ (Ne.symm n3) (N₂ _ (.tail _ (.tail _ (.head _)))).1, (N₂ _ (.tail _ (.tail _ (.head _)))).2⟩
    clear F₂ N₂
    walk_at "my go"
    (with_reducible rename Fr _ _ _ _ => F₄)
    (with_reducible rename News _ _ _ _ => N₄)
    refine folded_ok (T.keeps F₄.keep) hh (by show A.depth + 1 + 2 < recursionLimit; omega) (nameat_ext hk F₄.keep) (fun b hb => by have := hg.short b hb; omega) (by have := hg.len; omega) (fun h₅ tk₅ t' he₅ ht₅ => ?_) (X.keeps F₄.keep)
    have F₅ := F₄.keeps he₅
    have N₅ := news_keeps N₄ he₅
    clear F₄ N₄
    walk_at "my go"
    refine wpAny_setItem_heap (knd := TK w) (show A.units + 3 + 1 < cLine by omega) ht₅ (store_at O F₅.keep (N₅ _ (.tail _ (.tail _ (.tail _ (.head _))))).1) (fun h₆ hm₆ hs₆ => ?_) (by have := O.len hDl; rw [sizeLine_eq]; omega)
    have hend := set_end (e' := ⟨ls, v⟩) O RB hnd F₅ (N₅ _ (.tail _ (.head _))).1 (N₅ _ (.tail _ (.tail _ (.head _)))).1 (N₅ _ (.head _)).1 (news_ne N₅ (.head _) (.tail _ (.tail _ (.tail _ (.head _)))) (by rw [O.exact_.1]; rfl)) hm₆ hs₆ (nameat_ext hk F₅.keep) (fun _ => hk) hg (.inl ⟨e1, e2, rfl⟩)
    refine wpAny_execs_nil ?_
    exact h _ _ _ _ hend.1 hend.2 (deep_put hdeep hmd1 fun _ => hmd2)
  · refine wpAny_in_heap (knd := TK w) (show A.units + 3 + 1 < cLine by omega) ht₂ hD.mods (store_at O F₂.keep (N₂ _ (.tail _ (.tail _ (.head _)))).1) ?_
    rw [show (atKey xs (low ls)).isSome = true by rw [e1]; rfl]
    walk_at "my go"
    refine folded_ok (T.keeps F₂.keep) hh (by show A.depth + 1 + 2 < recursionLimit; omega) (nameat_ext hk F₂.keep) (fun b hb => by have := hg.short b hb; omega) (by have := hg.len; omega) (fun h₃ tk₃ t₃ he₃ ht₃ => ?_) (X.keeps F₂.keep)
    have F₃ := F₂.keeps he₃
    have N₃ := news_keeps N₂ he₃
    clear F₂ N₂
    have hm₃ := store_at O F₃.keep (N₃ _ (.tail _ (.tail _ (.head _)))).1
    obtain ⟨pa, kx, kdx', kt', ktk', u, n, ep', hpa, hk'⟩ := e3.at_
    change p'.2 = .ref pa at ep'
    refine tail_any hm₃.typeIs slot_dict_getitem.lookup (wpAny_getItem_heap (knd := TK w) (show A.units + 3 + 1 < cLine by omega) ht₃ hm₃ e1 ?_) (by with_unfolding_all rfl)
    rw [ep']
    walk_at "my go"
    refine item_tupleT (l := [.ref kx, .int e.val u]) ⟨_, F₃.keep _ _ hpa, rfl, n, rfl⟩ (by decide) (by decide) rfl rfl ?_
    obtain ⟨I', ht'⟩ := id hk'
    walk_at "my go"
    (with_reducible rename Fr _ _ _ _ => F₄)
    (with_reducible rename News _ _ _ _ => N₄)
    have hlow : low e.labels = low ls := by
      have := List.find?_some e2
      simpa using this
    have hge' := e3.good
    refine folded_ok (T.keeps F₄.keep) hh (by show A.depth + 1 + 2 < recursionLimit; omega) (nameat_ext hk' F₄.keep) (fun b hb => by have := hge'.short b hb; omega) (by have := hge'.len; omega) (fun h₅ tk₅ t' he₅ ht₅ => ?_) (X.keeps F₄.keep)
    have F₅ := F₄.keeps he₅
    have N₅ := news_keeps N₄ he₅
    clear F₄ N₄
    walk_at "my go"
    rw [hlow] at ht₅
    refine wpAny_setItem_heap (knd := TK w) (show A.units + 3 + 1 < cLine by omega) ht₅ (store_at O F₅.keep (N₅ _ (.tail _ (.tail _ (.tail _ (.head _))))).1) (fun h₆ hm₆ hs₆ => ?_) (by have := O.len hDl; rw [sizeLine_eq]; omega)
    have hend := set_end (e' := e) O RB hnd F₅ (N₅ _ (.tail _ (.head _))).1 (N₅ _ (.tail _ (.tail _ (.head _)))).1 (N₅ _ (.head _)).1 (news_ne N₅ (.head _) (.tail _ (.tail _ (.tail _ (.head _)))) (by rw [O.exact_.1]; rfl)) hm₆ hs₆ (nameat_ext hk' F₅.keep) (fun _ => hk') hge' (.inr ⟨p', e1, e2⟩)
    refine wpAny_execs_nil ?_
    exact h _ _ _ _ hend.1 hend.2 (deep_put hdeep (Int.le_refl _) (fun q => by rw [e2] at q; cases q))
end
end Mine
end
section
open PySem PySem.W PyProof.Rows PySem.Calls
namespace Mine
/-- steps of the library's walk up to a comprehension, a call of the text's own, a loop -/
local macro_rules | `(tactic| walk_at "my go") => `(tactic| repeat' (
  ((fail_if_success (with_reducible show wpAny _ _ (eval (Expr.ListComp _ _ _ _) _) _ _ _));
   (fail_if_success (with_reducible show wpAny _ _ (call (Value.ref _) _ _) _ _ _));
   (fail_if_success (with_reducible show wpAny _ _ (call (Value.type _) _ _) _ _ _));
   (fail_if_success (with_reducible show wpAny _ _ (exec (Stmt.For _ _ _ _ _) _) _ _ _));
   (fail_if_success (with_reducible show wpAny _ _ (exec (Stmt.Assign _ (Expr.ListComp _ _ _ _) _) _) _ _ _));
   (fail_if_success (with_reducible show wpAny _ _ (pyIter _) _ _ _));
   (first | (k_unfold; (try dsimp only)) | walk1 | (dsimp only; walk1)))))
local macro_rules | `(tactic| k_inst) => `(tactic| exact inst_base (by k_asm) (by assumption))
/-- a name's value out of the frame's facts -/
local macro_rules | `(tactic| walk_at "my look") => `(tactic| first
  | assumption
  | exact if_pos rfl
  | exact rfl
  | (refine (if_neg (by decide)).trans ?_; walk_at "my look"))
local macro_rules | `(tactic| walk_at "eval Name") => `(tactic| (k_here; k_dflt (refine' ld ?k1 ?k2 ?_; (case k1 => k_asm); (case k2 => walk_at "my look"); k_whole)))
local macro_rules | `(tactic| walk_at "loadName") => `(tactic| (k_here; k_dflt (refine' ldn ?k1 ?k2 ?_; (case k1 => k_asm); (case k2 => walk_at "my look"); k_whole)))
local macro_rules | `(tactic| walk_at "eval Name") => `(tactic| ((with_reducible show wpAny _ _ (eval (Expr.Name _ _) (compEnvC _ _ _ _)) _ _ _); k_dflt (refine ldVarK (by assumption) (by assumption) ?_)))

section
variable {w : World} {p : Program} {loose : List Str} {mean : ExcName → Option Value} {mg mb : Str → Option Value} {A : Around} {s : Shared} {Q E : Value → Shared → Prop}
/-! ## values of a dict, whatever its keys are -/
def DEnts (h : Heap) (d : Addr) (es : Array DictEntry) (ep : Nat) : Prop := ∃ o, h.get? d = some o ∧ o.ExactDict ∧ o.data = .dict es ep
theorem DEnts.typeIs {d : Addr} {es : Array DictEntry} {ep : Nat} (x : DEnts s.heap d es ep) : s.TypeIs (.ref d) "dict" := let ⟨o, ho, hc, _⟩ := x; ⟨o, ho, hc.1⟩
theorem DEnts.at {h h' : Heap} {d : Addr} {es : Array DictEntry} {ep : Nat} (x : DEnts h d es ep) (e : ∀ o, h.get? d = some o → h'.get? d = some o) : DEnts h' d es ep := let ⟨o, ho, r⟩ := x; ⟨o, e _ ho, r⟩

theorem values_call {d : Addr} {es : Array DictEntry} {ep : Nat} (hd : (d == sysModules) = false) (hm : DEnts s.heap d es ep)
    (h : Q (.ref s.heap.objs.size) { s with heap := s.heap.push { cls := .type "dict_values", data := .fields #[.ref d] } }) :
    wpAny (model prg w) A (call (.builtin "dict.values") [.ref d]) Q E s := by
  refine wpAny_call_entry F.slot_dict_values hm.typeIs F.entry_dict_values ?_ (F.args_dict_values_1 _)
  refine wpAny_bind ?_
  unfold Builtin.Dict.noArgs
  refine wpAny_bind (wpAny_notOrdered_dict hm.typeIs ?_)
  show wpAny _ _ (pure d) _ _ s
  refine wpAny_pure ?_
  show wpAny _ _ (Builtin.Dict.showsAll d >>= _) _ _ s
  unfold Builtin.Dict.showsAll
  rw [if_neg (by rw [hd]; exact Bool.false_ne_true)]
  refine wpAny_bind (wpAny_pure ?_)
  exact wpAny_bind (wpAny_newObj_type (wpAny_pure ⟨_, rfl, h⟩))

theorem values_iter {v d : Addr} {es : Array DictEntry} {ep : Nat} (hv : s.heap.IsValuesView v d) (hm : DEnts s.heap d es ep)
    (hQ : Q (.ref s.heap.objs.size) { s with heap := s.heap.push { cls := .type "dict_valueiterator", data := .fields #[.ref d, .int 0 0, .int es.size 0, .int ep 0] } }) :
    wpAny (model prg w) A (pyIter (.ref v)) Q E s := by
  obtain ⟨ov, hov, hcv, hdv⟩ := id hv
  obtain ⟨o, ho, hc, hdat⟩ := id hm
  refine wpAny_pyIter_slot hv.typeIs F.slot_dict_values_iter (wpAny_call_entry F.slot_dict_values_iter hv.typeIs F.entry_dict_values_iter ?_ (F.args_dict_values_iter_1 _))
  unfold Builtin.«dict_values.__iter__»
  refine wpAny_bind (wpAny_pure ?_)
  refine wpAny_bind ?_
  unfold Builtin.Dict_items.dictOf
  refine wpAny_bind (wpAny_field hov hdv (x := .ref d) rfl (wpAny_pure ?_))
  refine wpAny_bind ?_
  unfold Builtin.Dict_items.newIterator
  refine wpAny_bind (wpAny_dictEntries ho hdat ?_)
  refine wpAny_bind (wpAny_dictEpoch ho hdat ?_)
  have hown : Builtin.Dict_items.ownsTuple "dict_valueiterator" = false := by decide
  simp only [hown, Bool.false_eq_true, if_false]
  refine wpAny_newObj_type (wpAny_pure ⟨_, rfl, "dict_valueiterator", _, ⟨_, Heap.get?_push_size _ rfl, rfl⟩, F.slot_dict_valueiterator_next.lookup, ?_⟩)
  simpa [rawInt] using hQ

theorem values_item {it d : Addr} {i ep : Nat} {es : Array DictEntry} {Q : Option Value → Shared → Prop} (hit : s.heap.IsValIter it d i es.size ep)
    (hm : DEnts s.heap d es ep) (hlt' : i < es.size)
    (hQ : ∀ h', h'.IsValIter it d (i + 1) es.size ep → Heap.SameBut it s.heap h' → Q (some es[i].val) { s with heap := h' }) :
    wpAny (model prg w) A (pyNext (.ref it)) Q E s := by
  obtain ⟨o, ho, hc, hd⟩ := id hit
  obtain ⟨od, hod, hcd, hdd⟩ := id hm
  unfold pyNext
  refine wpAny_bind (wpAny_attempt (wpAny_callSpecial?_slot (name := Str.ofString "__next__") hit.typeIs F.slot_dict_valueiterator_next
    (wpAny_call_entry F.slot_dict_valueiterator_next hit.typeIs F.entry_dict_valueiterator_next ?_ (F.args_dict_valueiterator_next_1 _))))
  refine wpAny_bind (wpAny_pure ?_)
  refine wpAny_bind ?_
  refine wpAny_bind ?_
  first | refine wpAny_bind (wpAny_typeNameOfWhole_valiter hit.typeIs (wpAny_pure ?_)) | refine wpAny_bind (wpAny_typeNameOf_valiter hit.typeIs (wpAny_pure ?_))
  refine wpAny_bind (wpAny_fieldsOf ho hd ?_)
  have hown : Builtin.Dict_items.ownsTuple "dict_valueiterator" = false := by decide
  simp only [hown, Bool.false_eq_true, if_false]
  show wpAny _ _ (if (Value.ref d == Value.none) = true then _ else _) _ _ s
  rw [if_neg (show ¬ ((Value.ref d == Value.none) = true) from Bool.false_ne_true)]
  refine wpAny_bind (wpAny_pure ?_)
  refine wpAny_bind (wpAny_dictEntries hod hdd ?_)
  rw [if_neg (by simp)]
  refine wpAny_bind (wpAny_pure ?_)
  refine wpAny_bind (wpAny_dictEpoch hod hdd ?_)
  rw [if_neg (by simp)]
  refine wpAny_pure ?_
  simp only [show ¬ ((i : Int) < 0) from by omega, if_false, Int.toNat_natCast, Array.getElem?_eq_getElem hlt']
  refine wpAny_bind ?_
  first | refine wpAny_bind (wpAny_typeNameOfWhole_valiter hit.typeIs (wpAny_pure ?_)) | refine wpAny_bind (wpAny_typeNameOf_valiter hit.typeIs (wpAny_pure ?_))
  refine wpAny_bind (wpAny_isOneOf_valiter hit.typeIs ?_)
  show wpAny _ _ (setField (.ref it) 1 (rawInt ((i : Int) + 1)) >>= _) _ _ s
  refine wpAny_bind (wpAny_setField ho hd (by simp) ?_)
  have hit' : (s.heap.update it (Obj.mapFields (·.setIfInBounds 1 (rawInt ((i : Int) + 1))))).IsValIter it d (i + 1) es.size ep :=
    ⟨_, Heap.get?_update_self _ ho (Obj.isFreed_of_fields (Obj.data_mapFields hd _)), (Obj.cls_mapFields ..).trans hc, by rw [Obj.data_mapFields hd]; simp [rawInt]⟩
  refine wpAny_bind (wpAny_holding ?_)
  refine wpAny_bind (wpAny_isOneOf_valiter (s := { s with heap := s.heap.update it (Obj.mapFields (·.setIfInBounds 1 (rawInt ((i : Int) + 1)))) }) hit'.typeIs ?_)
  refine wpAny_bind (wpAny_isOneOf_valiter (s := { s with heap := s.heap.update it (Obj.mapFields (·.setIfInBounds 1 (rawInt ((i : Int) + 1)))) }) hit'.typeIs ?_)
  show wpAny _ _ (pure es[i].val) _ _ _
  exact wpAny_pure (wpAny_pure ⟨_, rfl, wpAny_pure (hQ _ hit' (Heap.SameBut.update ..))⟩)

theorem values_end {it d : Addr} {i ep : Nat} {es : Array DictEntry} {Q : Option Value → Shared → Prop} (hh : A.handled = none) (hit : s.heap.IsValIter it d i es.size ep)
    (hm : DEnts s.heap d es ep) (hge : es.size ≤ i)
    (hQ : ∀ h', Heap.ExtBut it s.heap h' → Q none { s with heap := h' }) : wpAny (model prg w) A (pyNext (.ref it)) Q E s := by
  obtain ⟨o, ho, hc, hd⟩ := id hit
  obtain ⟨od, hod, hcd, hdd⟩ := id hm
  unfold pyNext
  refine wpAny_bind (wpAny_attempt (wpAny_callSpecial?_slot (name := Str.ofString "__next__") hit.typeIs F.slot_dict_valueiterator_next
    (wpAny_call_entry F.slot_dict_valueiterator_next hit.typeIs F.entry_dict_valueiterator_next ?_ (F.args_dict_valueiterator_next_1 _))))
  refine wpAny_bind (wpAny_pure ?_)
  refine wpAny_bind ?_
  refine wpAny_bind ?_
  first | refine wpAny_bind (wpAny_typeNameOfWhole_valiter hit.typeIs (wpAny_pure ?_)) | refine wpAny_bind (wpAny_typeNameOf_valiter hit.typeIs (wpAny_pure ?_))
  refine wpAny_bind (wpAny_fieldsOf ho hd ?_)
  have hown : Builtin.Dict_items.ownsTuple "dict_valueiterator" = false := by decide
  simp only [hown, Bool.false_eq_true, if_false]
  show wpAny _ _ (if (Value.ref d == Value.none) = true then _ else _) _ _ s
  rw [if_neg (show ¬ ((Value.ref d == Value.none) = true) from Bool.false_ne_true)]
  refine wpAny_bind (wpAny_pure ?_)
  refine wpAny_bind (wpAny_dictEntries hod hdd ?_)
  rw [if_neg (by simp)]
  refine wpAny_bind (wpAny_pure ?_)
  refine wpAny_bind (wpAny_dictEpoch hod hdd ?_)
  rw [if_neg (by simp)]
  refine wpAny_pure ?_
  simp only [show ¬ ((i : Int) < 0) from by omega, if_false, Int.toNat_natCast, Array.getElem?_eq_none hge]
  refine wpAny_bind ?_
  first | refine wpAny_bind (wpAny_typeNameOfWhole_valiter hit.typeIs (wpAny_pure ?_)) | refine wpAny_bind (wpAny_typeNameOf_valiter hit.typeIs (wpAny_pure ?_))
  show wpAny _ _ (setField (.ref it) 0 .none >>= _) _ _ s
  refine wpAny_bind (wpAny_setField ho hd (by simp) ?_)
  show wpAny _ _ (newExc (.type "StopIteration") [] >>= _) _ _ _
  refine wpAny_bind ?_
  simp only [newExc, newTuple]
  refine wpAny_bind (wpAny_newObj_type ?_ (by size_fits))
  refine wpAny_bind (m := firstArgMember _ _) (wpAny_of_eq (a := Value.none) (by first | rfl | (simp only [firstArgMember]; rfl)) ?_)
  refine wpAny_newObj_type ?_ (by size_fits)
  simp only [raiseNew]
  refine wpAny_bind (wpAny_handled ?_)
  rw [show A.in1.handled = none from hh]
  refine wpAny_bind (wpAny_pure (wpAny_throw ?_))
  refine wpAny_bind (wpAny_isInstance (T := "StopIteration") (b := true) ⟨_, Heap.get?_push_size _ rfl, rfl⟩ isSubtype_stop ?_)
  exact wpAny_pure (hQ _ (((Heap.SameBut.update ..).extBut.push _).push _))

theorem walks_values (hh : A.handled = none) (I d : Addr) (hne : d ≠ I) (es : Array DictEntry) (ep : Nat) :
    Walks prg w A I [I, d] [I] es.size (fun i v => ∃ e, es[i]? = some e ∧ v = e.val) (fun i h => h.IsValIter I d i es.size ep ∧ DEnts h d es ep) where
  sub := fun b hb => by simp at hb; simp [hb]
  frame := fun _ _ _ st hk => ⟨st.1.at fun o e => hk I (by simp) o e, st.2.at fun o e => hk d (by simp) o e⟩
  item := fun i s Q E hi st hQ => by
    refine values_item st.1 st.2 hi fun h' hit' hs' => ?_
    exact hQ _ h' s.toks ⟨_, Array.getElem?_eq_getElem hi, rfl⟩ ⟨hit', st.2.at fun o e => (hs'.2 d hne).trans e⟩ fun b o hb e => hs'.extBut b o (fun h => hb (by simp [h])) e
  done := fun s Q E st hQ => values_end hh st.1 st.2 (Nat.le_refl _) fun h' he' => hQ h' s.toks fun b o hb e => he' b o (fun h => hb (by simp [h])) e
  self := fun _ _ _ _ st hQ => wpAny_pyIter_valiter st.1 hQ

/-- over a dict's values -/
theorem for_values {E : Value → Shared → Prop} {env : Env} {Q : Flow → Shared → Prop} {g : Heap} {m₀ : Str → Option Value} {nx₀ src : List (Addr × Obj)} {v d : Addr} {es : Array DictEntry} {ep : Nat} {target : Expr} {body : List Stmt}
    (J : Nat → (Str → Option Value) → List (Addr × Obj) → Prop) (hh : A.handled = none) (hv : s.heap.IsValuesView v d) (hm : DEnts s.heap d es ep)
    (hfp : (∃ o, g.get? d = some o) ∨ ∃ o, (d, o) ∈ src) (hsrc : ∀ i m nx, J i m nx → ∀ p ∈ src, p ∈ nx)
    (F : Fr g env.locals s.heap m₀) (N : News g env.locals s.heap nx₀) (hJ : J 0 m₀ nx₀)
    (turn : ∀ I i e m₁ nx h tk oI, es[i]? = some e → J i m₁ nx → (∀ p ∈ nx, p.1 ≠ I) → h.IsValIter I d (i + 1) es.size ep → Fr g env.locals h m₁ → News g env.locals h ((I, oI) :: nx) →
      wpAny (model prg w) A (letOwnedTupleGo target (.ref I) e.val) (fun _ s₁ => wpAny (model prg w) A (assign target env e.val) (fun _ s₂ => wpAny (model prg w) A (execs body env) (LoopOut g env.locals J I oI i s Q)
        (fun _ _ => False) s₂) (fun _ _ => False) s₁) (fun _ _ => False) { s with heap := h, toks := tk })
    (done : ∀ h tk m nx, J es.size m nx → Fr g env.locals h m → News g env.locals h nx → Q .next { s with heap := h, toks := tk }) :
    wpAny (model prg w) A (pyIter (.ref v)) (fun it s₂ => codeAny (model prg w) A (.forLoop target it body [] env) (fun r s' => match r with | .ok f => Q f s' | .error e => cameBackBy (model prg w) A env E e s') s₂) E s := by
  refine values_iter hv hm ?_
  obtain ⟨od, hod, _⟩ := id hm
  have hlt : d < s.heap.objs.size := Heap.lt_size hod
  have hpush := Heap.get?_push_size (h := s.heap) (o := { cls := .type "dict_valueiterator", data := .fields #[.ref d, .int 0 0, .int es.size 0, .int ep 0] }) rfl
  obtain ⟨F', N', hn, hIg, hIL⟩ := news_push_iter F N { cls := .type "dict_valueiterator", data := .fields #[.ref d, .int 0 0, .int es.size 0, .int ep 0] }
  refine for_led (src := src) (walks_values hh s.heap.objs.size d (Nat.ne_of_lt hlt) es ep) J hIg hIL (fun i h hs => let ⟨o, ho, _⟩ := hs.1; ⟨o, ho⟩) ?_ hsrc ⟨⟨_, hpush, rfl, rfl⟩, hm.at fun o e => Heap.get?_push_of_some _ e⟩ F' N' hn hJ ?_ ?_
  · intro b hb
    simp only [List.mem_cons, List.not_mem_nil, or_false] at hb
    rcases hb with rfl | rfl
    · exact .inl rfl
    · exact .inr hfp
  · rintro i v m₁ nx h tk oI hi ⟨e, he, rfl⟩ hJ' hnx hst F₁ N₁
    exact turn _ i e m₁ nx h tk oI he hJ' hnx hst.1 F₁ N₁
  · intro h tk m nx hJ' F₁ N₁
    exact done h tk m nx hJ' F₁ N₁
end
end Mine
end
section
open PySem PySem.W PyProof.Rows PySem.Calls
namespace Mine
/-- steps of the library's walk up to a comprehension, a call of the text's own, a loop -/
local macro_rules | `(tactic| walk_at "my go") => `(tactic| repeat' (
  ((fail_if_success (with_reducible show wpAny _ _ (eval (Expr.ListComp _ _ _ _) _) _ _ _));
   (fail_if_success (with_reducible show wpAny _ _ (call (Value.ref _) _ _) _ _ _));
   (fail_if_success (with_reducible show wpAny _ _ (call (Value.type _) _ _) _ _ _));
   (fail_if_success (with_reducible show wpAny _ _ (exec (Stmt.For _ _ _ _ _) _) _ _ _));
   (fail_if_success (with_reducible show wpAny _ _ (exec (Stmt.Assign _ (Expr.ListComp _ _ _ _) _) _) _ _ _));
   (fail_if_success (with_reducible show wpAny _ _ (pyIter _) _ _ _));
   (fail_if_success (with_reducible show wpAny _ _ (getMethod (Value.ref _) (PySem.Str.ofString "values") _) _ _ _));
   (fail_if_success (with_reducible show wpAny _ _ (getMethod (Value.ref _) (PySem.Str.ofString "pop") _) _ _ _));
   (first | (k_unfold; (try dsimp only)) | walk1 | (dsimp only; walk1)))))
local macro_rules | `(tactic| k_inst) => `(tactic| exact inst_base (by k_asm) (by assumption))
/-- a name's value out of the frame's facts -/
local macro_rules | `(tactic| walk_at "my look") => `(tactic| first
  | assumption
  | exact if_pos rfl
  | exact rfl
  | (refine (if_neg (by decide)).trans ?_; walk_at "my look"))
local macro_rules | `(tactic| walk_at "eval Name") => `(tactic| (k_here; k_dflt (refine' ld ?k1 ?k2 ?_; (case k1 => k_asm); (case k2 => walk_at "my look"); k_whole)))
local macro_rules | `(tactic| walk_at "loadName") => `(tactic| (k_here; k_dflt (refine' ldn ?k1 ?k2 ?_; (case k1 => k_asm); (case k2 => walk_at "my look"); k_whole)))
local macro_rules | `(tactic| walk_at "eval Name") => `(tactic| ((with_reducible show wpAny _ _ (eval (Expr.Name _ _) (compEnvC _ _ _ _)) _ _ _); k_dflt (refine ldVarK (by assumption) (by assumption) ?_)))

section
variable {w : World} {p : Program} {loose : List Str} {mean : ExcName → Option Value} {mg mb : Str → Option Value} {A : Around} {s : Shared} {Q E : Value → Shared → Prop}
def outD (D : List Ent) (k : List (List UInt8)) : List Ent := D.filter fun e => !decide (low e.labels = k)
theorem ents_out {h : Heap} {xs : List (List (List UInt8) × Addr × Value)} {D : List Ent} (k : List (List UInt8)) (N : EntsAt w h xs D) : EntsAt w h (out xs k) (outD D k) := by
  induction N with
  | nil => exact .nil
  | @cons x e xs D a N ih =>
    unfold out outD at *
    by_cases hk : x.1 = k
    · rw [List.filter_cons_of_neg (by simp [hk]), List.filter_cons_of_neg (by simp [← a.key, hk])]
      exact ih
    · rw [List.filter_cons_of_pos (by simp [hk]), List.filter_cons_of_pos (by simp [← a.key, hk])]
      exact .cons a ih

theorem turn_pair {env : Env} {g : Heap} {m : Str → Option Value} {nx : List (Addr × Obj)} {I T : Addr} {oI : Obj} {n : String} {vs : Array Value} {a b : Str} {pa pb tp : Pos} {kk : Nat} {x y : Value} {Q : Unit → Shared → Prop} (hh : A.handled = none)
    (hI : s.heap.get? I = some oI) (hc : oI.cls = .type n) (hd : oI.data = .fields vs) (hno : (["enumerate", "zip", "dict_itemiterator", "dict_reverseitemiterator", "odict_iterator", "itertools.zip_longest", "itertools.pairwise"].contains n) = false)
    (ht : s.heap.IsTuple T #[x, y]) (F : Fr g env.locals s.heap m) (N : News g env.locals s.heap nx)
    (h : ∀ h' tk, Fr g env.locals h' (fun z => if z = b then some y else if z = a then some x else m z) → News g env.locals h' nx → (∀ c o, c ≠ env.locals → s.heap.get? c = some o → h'.get? c = some o) → Q () { s with heap := h', toks := tk })
    (ha : env.kindOf a = some .local := by rfl) (hb : env.kindOf b = some .local := by rfl) (hp : (env.scope.kind == .class || (env.scope.kind == .module && env.locals != env.globals)) = false := by rfl) :
    wpAny (model prg w) A (letOwnedTupleGo (.Tuple [.Name a pa, .Name b pb] kk tp) (.ref I) (.ref T)) (fun _ s₁ => wpAny (model prg w) A (assign (.Tuple [.Name a pa, .Name b pb] kk tp) env (.ref T)) Q E s₁) E s := by
  unfold letOwnedTupleGo
  refine wpAny_bind (wpAny_load hI ?_)
  rw [hc, hd]
  show wpAny _ A (if (_ && (vs[0]? == some (rawInt T))) = true then _ else _) _ E s
  rw [if_neg (by
    intro h
    rw [hno, Bool.false_and] at h
    cases h)]
  refine wpAny_pure ?_
  exact kcp_assign hh ht ha hb hp F.ns fun h' tk hn hk => h h' tk (fr_of_ns F hn hk) (news_of_but N hk) hk
theorem ents_nth {h : Heap} {xs : List (List (List UInt8) × Addr × Value)} {D : List Ent} (N : EntsAt w h xs D) {i : Nat} {x : List (List UInt8) × Addr × Value} (hx : xs[i]? = some x) : ∃ e, D[i]? = some e ∧ EntAt w h x e := by
  induction N generalizing i with
  | nil => simp at hx
  | cons a _ ih =>
    cases i with
    | zero => simp only [List.getElem?_cons_zero, Option.some.injEq] at hx ⊢; subst hx; exact ⟨_, rfl, a⟩
    | succ i => simp only [List.getElem?_cons_succ] at hx ⊢; exact ih hx

theorem method_dict {d : Addr} {es : Array DictEntry} {ep : Nat} {name : Str} {id : String} {pl : Sem Bool} {Q : Value × List Value → Shared → Prop} (slot : Slot "dict" name id) (hty : typeOf (.builtin id) = pure (.type "method_descriptor"))
    (x : DEnts s.heap d es ep) (h : Q (.builtin id, [.ref d]) s) : wpAny (model prg w) A (getMethod (.ref d) name pl) Q E s :=
  getMethod_builtin x.typeIs PySem.F.plainAttrs_dict slot hty (fun a e => by cases e; obtain ⟨o, ho, hc, _⟩ := x; exact ⟨o, ho, hc.2.1⟩) h

theorem deep_out {D : List Ent} {k : List (List UInt8)} {md : Int} (hd : Deep D md) : Deep (outD D k) md := ⟨hd.1, fun e he => hd.2 e (List.mem_filter.mp he).1⟩
theorem del_end {h₀ B h h₃ : Heap} {L nd dx d : Addr} {m : Str → Option Value} {D' : List Ent} {od' : Obj} {es' : Array DictEntry} {ep' : Nat} {xs' : List (List (List UInt8) × Addr × Value)} {md mi : Int} {t1 t2 t3 u2 u3 : Tok} {tk : Nat}
    (O' : Opened w B h₃ nd dx d D' od' es' ep' xs') (RB : Rest w h₀ B nd dx d) (hnd : h₀.get? nd = some (instObj 588 dx)) (F : Fr B L h m) (N : News B L h [(nd, instObj 588 dx), (dx, ndObj w d md mi t1 t2 t3 u2 u3), (d, od')]) (hdp : Deep D' md)
    (k : ∀ h' tk' md' mi', (∀ b o, b ≠ dx → b ≠ d → h₀.get? b = some o → h'.get? b = some o) → DictAt w h' nd dx d D' md' mi' → Deep D' md' → Q .none { s with heap := h', toks := tk' }) : Q .none { s with heap := h, toks := tk } :=
  k _ _ md mi (stays3 RB F.keep hnd (N _ (.head _)).1) (dictat_mk (N _ (.head _)).1 (N _ (.tail _ (.head _))).1 (store_at O' F.keep (N _ (.tail _ (.tail _ (.head _)))).1) (entsat_ext O'.all F.keep) O'.mods) hdp

theorem del_entry {g h : Heap} {nd dx d : Addr} {D : List Ent} {od : Obj} {es : Array DictEntry} {ep : Nat} {xs : List (List (List UInt8) × Addr × Value)} (O : Opened w g h nd dx d D od es ep xs) {i : Nat} {e : DictEntry} (he : es[i]? = some e) : ∃ x, xs[i]? = some x ∧ entryOfKey (TK w) x = e := by
  rw [← Array.getElem?_toList, O.ents, List.getElem?_map] at he
  cases hx : xs[i]? with
  | none => rw [hx] at he; cases he
  | some x => rw [hx] at he; exact ⟨x, rfl, by simpa using he⟩
theorem del_deep {g h : Heap} {nd dx d : Addr} {D : List Ent} {od : Obj} {es : Array DictEntry} {ep : Nat} {xs : List (List (List UInt8) × Addr × Value)} (O : Opened w g h nd dx d D od es ep xs) {md : Int} (h0 : 0 ≤ md) (hd : ∀ (j : Nat) e, j < es.size → D[j]? = some e → (e.labels.length : Int) ≤ md) : Deep D md := by
  refine ⟨h0, ?_⟩
  intro e he
  obtain ⟨j, hj, rfl⟩ := List.getElem_of_mem he
  refine hd j _ ?_ (List.getElem?_eq_getElem hj)
  rw [← Array.length_toList, O.ents, List.length_map, ents_len O.all]
  exact hj
theorem delitem_ok {g : Heap} {nd dx d key kdx kt : Addr} {ktk : Tok} {D : List Ent} {md mi : Int} {ls : List (List UInt8)} {e : Ent} (T : Top p loose mean mg mb g) (hge : Ext g s.heap) (hgn : g.get? nd = none) (hgx : g.get? dx = none) (hgd : g.get? d = none) (hh : A.handled = none) (hdp : A.depth + 8 < recursionLimit) (hun : A.units + 60 < cLine)
    (hD : DictAt w s.heap nd dx d D md mi) (hDl : D.length ≤ 100) (hdeep : Deep D md) (hk : NameAt w s.heap key 482 kdx kt ktk ls) (hg : Good ls) (hfind : find D (low ls) = some e)
    (h : ∀ h' tk' md' mi', (∀ b o, b ≠ dx → b ≠ d → s.heap.get? b = some o → h'.get? b = some o) → DictAt w h' nd dx d (outD D (low ls)) md' mi' → Deep (outD D (low ls)) md' → Q .none { s with heap := h', toks := tk' }) :
    (hd.heap_39 w.params).In g → wpAny (model PySem.Challenge.rw_ab5010_01.row.prog w) A (call (.ref 564) [.ref nd, .ref key]) Q E s := by
  k_fill
  intro X
  obtain ⟨B, od, es, ep, xs, O, RB⟩ := open_dict hD
  obtain ⟨t1, t2, t3, u2, u3, hdx⟩ := hD.dx_at
  have hnd := hD.nd_at
  have e0 := RB.base hge hgn hgx hgd
  k_dflt (refine enterP (X.keeps hge) (T.keeps hge).nolimit (by k_is) (by k_is) (by omega) (BindsTo.of_eq rfl) (locs rfl) (by decide) rfl rfl rfl ?_)
  intro L h₁ tk₁ F₁
  have hL := F₁.above
  have F := fr_base F₁ O.sub RB.size
  have N : News (B) L h₁ [(nd, instObj 588 dx), (dx, ndObj w d md mi t1 t2 t3 u2 u3), (d, od)] := by
    intro q hq
    simp only [List.mem_cons, List.not_mem_nil, or_false] at hq
    rcases hq with rfl | rfl | rfl
    · exact ⟨F₁.keep _ _ hnd, Nat.ne_of_lt (Nat.lt_of_lt_of_le (Heap.lt_size hnd) hL), O.nond⟩
    · exact ⟨F₁.keep _ _ hdx, Nat.ne_of_lt (Nat.lt_of_lt_of_le (Heap.lt_size hdx) hL), O.nodx⟩
    · exact ⟨F₁.keep _ _ O.atd, Nat.ne_of_lt (Nat.lt_of_lt_of_le (Heap.lt_size O.atd) hL), O.nod⟩
  clear F₁
  obtain ⟨m₀, F, q₁, q₂⟩ : ∃ m₀, Fr B L h₁ m₀ ∧ m₀ (Str.ofString "self") = some (.ref nd) ∧ m₀ (Str.ofString "key") = some (.ref key) := ⟨_, F, rfl, rfl⟩
  replace T := T.keeps e0
  replace X := X.keeps e0
  replace hk := RB.name _ _ _ _ _ _ rfl hk
  have n1 := O.ne1
  have n2 := O.ne2
  have n3 := O.ne3
  obtain ⟨I, ht⟩ := id hk
  walk_at "my go"
  refine method_dict PySem.F.slot_dict_pop PySem.F.type_dict_pop ⟨od, (N _ (.tail _ (.tail _ (.head _)))).1, O.exact_, O.data⟩ ?_
  walk_at "my go"
  refine folded_ok (T.keeps F.keep) hh (by show A.depth + 1 + 2 < recursionLimit; omega) (nameat_ext hk F.keep) (fun b hb => by have := hg.short b hb; omega) (by have := hg.len; omega) (fun h₂ tk₂ t he₂ ht₂ => ?_) (X.keeps F.keep)
  have F₂ := F.keeps he₂
  have N₂ := news_keeps N he₂
  clear F N
  walk_at "my go"
  obtain ⟨p', e1, e3⟩ : ∃ p', atKey xs (low ls) = some p' ∧ EntAt w (B) (low ls, p') e := by
    rcases ents_find O.all (low ls) with ⟨_, e2⟩ | ⟨p', e', e1, e2, e3⟩
    · rw [hfind] at e2; cases e2
    · rw [hfind] at e2; cases e2; exact ⟨p', e1, e3⟩
  refine pop_H (show A.units + 3 + 1 < cLine by omega) ht₂ O.mods hh (store_at O F₂.keep (N₂ _ (.tail _ (.tail _ (.head _)))).1) (by have := O.len hDl; rw [sizeLine_eq]; omega) (fun q => by rw [e1] at q; cases q) (fun p₂ h₃ _ hm₃ hs₃ => ?_)
  obtain ⟨od', es', ep', hod', hex', hdat', hes', his', hnod'⟩ := id hm₃
  have F₃ := fr_but F₂ O.nod (N₂ _ (.tail _ (.tail _ (.head _)))).2.1 (fun b o hb q => (hs₃.2 b hb).trans q)
  have N₃ : News (B) L h₃ [(nd, instObj 588 dx), (dx, ndObj w d md mi t1 t2 t3 u2 u3), (d, od')] := by
    intro q hq
    simp only [List.mem_cons, List.not_mem_nil, or_false] at hq
    rcases hq with rfl | rfl | rfl
    · exact ⟨(hs₃.2 _ n2).trans (N₂ _ (.head _)).1, (N₂ _ (.head _)).2⟩
    · exact ⟨(hs₃.2 _ n3).trans (N₂ _ (.tail _ (.head _))).1, (N₂ _ (.tail _ (.head _))).2⟩
    · exact ⟨hod', (N₂ _ (.tail _ (.tail _ (.head _)))).2⟩
  have O' : Opened w (B) h₃ nd dx d (outD D (low ls)) od' es' ep' (out xs (low ls)) :=
    ⟨F₃.keep, O.nond, O.nodx, O.nod, hod', hex', hdat', hes', fun x hx => O.keys x (List.mem_filter.mp hx).1, hnod', ents_out _ O.all, O.mods, n1, n2, n3⟩
  clear F₂ N₂ hod' hex' hdat' hes' his' hnod' hm₃ hs₃ e1 e3
  walk_at "my go"
  refine namelen_ok (T.keeps F₃.keep) (by show A.depth + 1 + 2 < recursionLimit; omega) (nameat_ext hk F₃.keep) (by have := hg.len; omega) (fun h₄ tk₄ u₄ he₄ => ?_) (X.keeps F₃.keep)
  have F₄ := F₃.keeps he₄
  have N₄ := news_keeps N₃ he₄
  clear F₃ N₃
  have hlen := hg.len
  refine ⟨⟨by omega, by omega⟩, ?_⟩
  walk_at "my go"
  · (with_reducible rename Fr _ _ _ _ => F₅)
    (with_reducible rename News _ _ _ _ => N₅)
    refine for_head ?_
    walk_at "my go"
    have hde : DEnts _ d es' ep' := ⟨od', (N₅ _ (.tail _ (.tail _ (.head _)))).1, O'.exact_, O'.data⟩
    refine method_dict PySem.F.slot_dict_values PySem.F.type_dict_values hde ?_
    walk_at "my go"
    refine values_call O.mods hde ?_
    refine for_values (src := [(d, od')]) (fun i m nx => m (Str.ofString "self") = some (.ref nd) ∧ ∃ md' mi' t1 t2 t3 u2 u3, nx = [(nd, instObj 588 dx), (dx, ndObj w d md' mi' t1 t2 t3 u2 u3), (d, od')] ∧ 0 ≤ md' ∧ ∀ j e, j < i → (outD D (low ls))[j]? = some e → (e.labels.length : Int) ≤ md')
      hh ⟨_, Heap.get?_push_size _ rfl, rfl, rfl⟩ (hde.at fun o e => Heap.get?_push_of_some _ e) (.inr ⟨_, .head _⟩) (fun i m nx hJ p hp => ?_) (F₅.push _) (news_keeps N₅ (Ext.push _)) ⟨by walk_at "my look", _, _, _, _, _, _, _, rfl, Int.le_refl _, fun j e hj => absurd hj (Nat.not_lt_zero _)⟩ ?_ ?_
    · obtain ⟨_, md', mi', _, _, _, _, _, rfl, _⟩ := hJ
      rw [List.mem_singleton.mp hp]
      exact .tail _ (.tail _ (.head _))
    · intro I i e' m₁ nx h₆ tk₆ oI he' hJ hnx hIt F₆ N₆
      obtain ⟨hself, md', mi', t1', t2', t3', u2', u3', rfl, hm0, hdi⟩ := hJ
      obtain ⟨x, hx, rfl⟩ := del_entry O' he'
      obtain ⟨en, hen, hea⟩ := ents_nth O'.all hx
      obtain ⟨pa, kx, kdx', kt', ktk', u, n, ep'', hpa, hk'⟩ := hea.at_
      obtain ⟨o', ho', hc', hd'⟩ := hIt
      have hnI : @Ne Nat dx I := hnx _ (.tail _ (.head _))
      rw [show (entryOfKey (TK w) x).val = .ref pa from ep'']
      refine turn_pair hh ho' hc' hd' (by decide) ⟨_, F₆.keep _ _ hpa, rfl, n, rfl⟩ F₆ N₆ fun h₇ tk₇ F₇ N₇ _ => ?_
      walk_at "my go"
      refine upd_ok T F₇.keep O.nond O.nodx (by show A.depth + 1 + 6 < recursionLimit; omega) (N₇ _ (.tail _ (.head _))).1 (N₇ _ (.tail _ (.tail _ (.head _)))).1 hk' hea.good (fun h₈ tk₈ md'' mi'' t1'' t2'' t3'' u2'' u3'' hst hdx8 hmd1 hmd2 => ?_) X
      have F₈ := fr_but F₇ O.nodx (N₇ _ (.tail _ (.tail _ (.head _)))).2.1 hst
      have q2 := (N₇ _ (.tail _ (.tail _ (.head _)))).2
      have N₈ : News (B) L h₈ [(I, oI), (nd, instObj 588 dx), (dx, ndObj w d md'' mi'' t1'' t2'' t3'' u2'' u3''), (d, od')] := by
        intro q hq
        simp only [List.mem_cons, List.not_mem_nil, or_false] at hq
        rcases hq with rfl | rfl | rfl | rfl
        · exact ⟨hst _ _ (Ne.symm hnI) (N₇ _ (.head _)).1, (N₇ _ (.head _)).2⟩
        · exact ⟨hst _ _ n1 (N₇ _ (.tail _ (.head _))).1, (N₇ _ (.tail _ (.head _))).2⟩
        · exact ⟨hdx8, q2⟩
        · exact ⟨hst _ _ (Ne.symm n3) (N₇ _ (.tail _ (.tail _ (.tail _ (.head _))))).1, (N₇ _ (.tail _ (.tail _ (.tail _ (.head _))))).2⟩
      clear F₇ N₇ F₆ N₆
      walk_at "my go"
      refine ⟨_, _, _, _, rfl, F₈, N₈, ?_, by walk_at "my look", _, _, _, _, _, _, _, rfl, Int.le_trans hm0 hmd1, ?_⟩
      · intro q hq
        simp only [List.mem_cons, List.not_mem_nil, or_false] at hq
        rcases hq with rfl | rfl | rfl
        · exact hnx _ (.head _)
        · exact hnI
        · exact hnx _ (.tail _ (.tail _ (.head _)))
      · intro j e hj he
        by_cases hji : j = i
        · subst hji
          rw [hen] at he
          cases he
          exact hmd2
        · exact Int.le_trans (hdi j e (by omega) he) hmd1
    · intro h₆ tk₆ m₆ nx hJ F₆ N₆
      obtain ⟨hself, md', mi', t1', t2', t3', u2', u3', rfl, hm0, hdi⟩ := hJ
      walk_at "my go"
      exact del_end O' RB hnd F₆ N₆ (del_deep O' hm0 hdi) h
  · (with_reducible rename Fr _ _ _ _ => F₅)
    (with_reducible rename News _ _ _ _ => N₅)
    exact del_end O' RB hnd F₅ N₅ (deep_out hdeep) h
  · (with_reducible rename Fr _ _ _ _ => F₅)
    (with_reducible rename News _ _ _ _ => N₅)
    refine for_head ?_
    walk_at "my go"
    have hde : DEnts _ d es' ep' := ⟨od', (N₅ _ (.tail _ (.tail _ (.head _)))).1, O'.exact_, O'.data⟩
    refine method_dict PySem.F.slot_dict_values PySem.F.type_dict_values hde ?_
    walk_at "my go"
    refine values_call O.mods hde ?_
    refine for_values (src := [(d, od')]) (fun i m nx => m (Str.ofString "self") = some (.ref nd) ∧ ∃ md' mi' t1 t2 t3 u2 u3, nx = [(nd, instObj 588 dx), (dx, ndObj w d md' mi' t1 t2 t3 u2 u3), (d, od')] ∧ 0 ≤ md' ∧ ∀ j e, j < i → (outD D (low ls))[j]? = some e → (e.labels.length : Int) ≤ md')
      hh ⟨_, Heap.get?_push_size _ rfl, rfl, rfl⟩ (hde.at fun o e => Heap.get?_push_of_some _ e) (.inr ⟨_, .head _⟩) (fun i m nx hJ p hp => ?_) (F₅.push _) (news_keeps N₅ (Ext.push _)) ⟨by walk_at "my look", _, _, _, _, _, _, _, rfl, Int.le_refl _, fun j e hj => absurd hj (Nat.not_lt_zero _)⟩ ?_ ?_
    · obtain ⟨_, md', mi', _, _, _, _, _, rfl, _⟩ := hJ
      rw [List.mem_singleton.mp hp]
      exact .tail _ (.tail _ (.head _))
    · intro I i e' m₁ nx h₆ tk₆ oI he' hJ hnx hIt F₆ N₆
      obtain ⟨hself, md', mi', t1', t2', t3', u2', u3', rfl, hm0, hdi⟩ := hJ
      obtain ⟨x, hx, rfl⟩ := del_entry O' he'
      obtain ⟨en, hen, hea⟩ := ents_nth O'.all hx
      obtain ⟨pa, kx, kdx', kt', ktk', u, n, ep'', hpa, hk'⟩ := hea.at_
      obtain ⟨o', ho', hc', hd'⟩ := hIt
      have hnI : @Ne Nat dx I := hnx _ (.tail _ (.head _))
      rw [show (entryOfKey (TK w) x).val = .ref pa from ep'']
      refine turn_pair hh ho' hc' hd' (by decide) ⟨_, F₆.keep _ _ hpa, rfl, n, rfl⟩ F₆ N₆ fun h₇ tk₇ F₇ N₇ _ => ?_
      walk_at "my go"
      refine upd_ok T F₇.keep O.nond O.nodx (by show A.depth + 1 + 6 < recursionLimit; omega) (N₇ _ (.tail _ (.head _))).1 (N₇ _ (.tail _ (.tail _ (.head _)))).1 hk' hea.good (fun h₈ tk₈ md'' mi'' t1'' t2'' t3'' u2'' u3'' hst hdx8 hmd1 hmd2 => ?_) X
      have F₈ := fr_but F₇ O.nodx (N₇ _ (.tail _ (.tail _ (.head _)))).2.1 hst
      have q2 := (N₇ _ (.tail _ (.tail _ (.head _)))).2
      have N₈ : News (B) L h₈ [(I, oI), (nd, instObj 588 dx), (dx, ndObj w d md'' mi'' t1'' t2'' t3'' u2'' u3''), (d, od')] := by
        intro q hq
        simp only [List.mem_cons, List.not_mem_nil, or_false] at hq
        rcases hq with rfl | rfl | rfl | rfl
        · exact ⟨hst _ _ (Ne.symm hnI) (N₇ _ (.head _)).1, (N₇ _ (.head _)).2⟩
        · exact ⟨hst _ _ n1 (N₇ _ (.tail _ (.head _))).1, (N₇ _ (.tail _ (.head _))).2⟩
        · exact ⟨hdx8, q2⟩
        · exact ⟨hst _ _ (Ne.symm n3) (N₇ _ (.tail _ (.tail _ (.tail _ (.head _))))).1, (N₇ _ (.tail _ (.tail _ (.tail _ (.head _))))).2⟩
      clear F₇ N₇ F₆ N₆
      walk_at "my go"
      refine ⟨_, _, _, _, rfl, F₈, N₈, ?_, by walk_at "my look", _, _, _, _, _, _, _, rfl, Int.le_trans hm0 hmd1, ?_⟩
      · intro q hq
        simp only [List.mem_cons, List.not_mem_nil, or_false] at hq
        rcases hq with rfl | rfl | rfl
        · exact hnx _ (.head _)
        · exact hnI
        · exact hnx _ (.tail _ (.tail _ (.head _)))
      · intro j e hj he
        by_cases hji : j = i
        · subst hji
          rw [hen] at he
          cases he
          exact hmd2
        · exact Int.le_trans (hdi j e (by omega) he) hmd1
    · intro h₆ tk₆ m₆ nx hJ F₆ N₆
      obtain ⟨hself, md', mi', t1', t2', t3', u2', u3', rfl, hm0, hdi⟩ := hJ
      walk_at "my go"
      exact del_end O' RB hnd F₆ N₆ (del_deep O' hm0 hdi) h
  · exact del_end O' RB hnd F₄ N₄ (deep_out hdeep) h
end
end Mine
end
section
open PySem PySem.W PyProof.Rows PySem.Calls
namespace Mine
/-- steps of the library's walk up to a comprehension, a call of the text's own, a loop -/
local macro_rules | `(tactic| walk_at "my go") => `(tactic| repeat' (
  ((fail_if_success (with_reducible show wpAny _ _ (eval (Expr.ListComp _ _ _ _) _) _ _ _));
   (fail_if_success (with_reducible show wpAny _ _ (call (Value.ref _) _ _) _ _ _));
   (fail_if_success (with_reducible show wpAny _ _ (call (Value.type _) _ _) _ _ _));
   (fail_if_success (with_reducible show wpAny _ _ (exec (Stmt.For _ _ _ _ _) _) _ _ _));
   (fail_if_success (with_reducible show wpAny _ _ (exec (Stmt.Assign _ (Expr.ListComp _ _ _ _) _) _) _ _ _));
   (fail_if_success (with_reducible show wpAny _ _ (pyIter _) _ _ _));
   (fail_if_success (with_reducible show wpAny _ _ (getMethod (Value.ref _) (PySem.Str.ofString "values") _) _ _ _));
   (fail_if_success (with_reducible show wpAny _ _ (getMethod (Value.ref _) (PySem.Str.ofString "pop") _) _ _ _));
   (first | (k_unfold; (try dsimp only)) | walk1 | (dsimp only; walk1)))))
local macro_rules | `(tactic| k_inst) => `(tactic| exact inst_base (by k_asm) (by assumption))
/-- a name's value out of the frame's facts -/
local macro_rules | `(tactic| walk_at "my look") => `(tactic| first
  | assumption
  | exact if_pos rfl
  | exact rfl
  | (refine (if_neg (by decide)).trans ?_; walk_at "my look"))
local macro_rules | `(tactic| walk_at "eval Name") => `(tactic| (k_here; k_dflt (refine' ld ?k1 ?k2 ?_; (case k1 => k_asm); (case k2 => walk_at "my look"); k_whole)))
local macro_rules | `(tactic| walk_at "loadName") => `(tactic| (k_here; k_dflt (refine' ldn ?k1 ?k2 ?_; (case k1 => k_asm); (case k2 => walk_at "my look"); k_whole)))
local macro_rules | `(tactic| walk_at "eval Name") => `(tactic| ((with_reducible show wpAny _ _ (eval (Expr.Name _ _) (compEnvC _ _ _ _)) _ _ _); k_dflt (refine ldVarK (by assumption) (by assumption) ?_)))

section
variable {w : World} {p : Program} {loose : List Str} {mean : ExcName → Option Value} {mg mb : Str → Option Value} {A : Around} {s : Shared} {Q E : Value → Shared → Prop}
theorem dictget_miss {β : Heap} {outer : List Env} {nd dx d x C kdx kt : Addr} {ktk : Tok} {D : List Ent} {md mi : Int} {ls : List (List UInt8)} (hC : C = 482 ∨ C = 503) (K : Below A β outer s.heap) (T : Top p loose mean mg mb s.heap) (hh : A.handled = none) (hdp : A.depth + 6 < recursionLimit) (hun : A.units + 60 < cLine)
    (hd' : DictAt w s.heap nd dx d D md mi) (hx : NameAt w s.heap x C kdx kt ktk ls) (hg : Good ls) (hf : find D (low ls) = none)
    (h : ∀ h' tk' e, RaisedN β outer e (.type "KeyError") [] h' → s.heap.UpToSlots h' → E (.ref e) { s with heap := h', toks := tk' }) :
    (hd.heap_39 w.params).In s.heap → wpAny (model PySem.Challenge.rw_ab5010_01.row.prog w) A (call (.ref 550) [.ref nd, .ref x]) Q E s := by
  k_fill
  intro X
  obtain ⟨t1, t2, t3, u2, u3, I⟩ := hd'.inst
  k_dflt (refine enter X T.nolimit (by k_is) (by k_is) (by omega) (BindsTo.of_eq rfl) (locs rfl) (by decide) rfl rfl rfl ?_)
  intro h₁ F
  generalize hLe : s.heap.objs.size = L at *
  have N : News s.heap L h₁ [] := News.nil
  walk_at "my go"
  refine folded_okC hC (T.keeps F.keep) hh (by show A.depth + 1 + 2 < recursionLimit; omega) (nameat_ext hx F.keep) (fun b hb => by have := hg.short b hb; omega) (by have := hg.len; omega) (fun h₂ tk₂ t he₂ ht₂ => ?_) (X.keeps F.keep)
  have F₂ := F.keeps he₂
  have N₂ : News s.heap L h₂ [] := News.nil
  clear F N
  obtain ⟨xs, hm, hE⟩ := (dictat_ext hd' F₂.keep).store
  have e1 : atKey xs (low ls) = none := by
    rcases ents_find hE (low ls) with ⟨e1, _⟩ | ⟨p', e', e1, e2, e3⟩
    · exact e1
    · rw [hf] at e2; cases e2
  refine tail_any hm.typeIs slot_dict_getitem.lookup (wpAny_getItem_missing_heap (knd := TK w) (show A.units + 3 + 1 < cLine by omega) ht₂ hd'.mods hh hm e1 fun h₃ e hx₃ => ?_) (by with_unfolding_all rfl)
  refine leave_newK K hx₃ F₂ N₂ fun h₄ hR hU => ?_
  exact h _ _ _ hR hU

theorem delitem_miss {β : Heap} {outer : List Env} {nd dx d x kdx kt : Addr} {ktk : Tok} {D : List Ent} {md mi : Int} {ls : List (List UInt8)} (K : Below A β outer s.heap) (T : Top p loose mean mg mb s.heap) (hh : A.handled = none) (hdp : A.depth + 6 < recursionLimit) (hun : A.units + 60 < cLine)
    (hd' : DictAt w s.heap nd dx d D md mi) (hDl : D.length ≤ 100) (hx : NameAt w s.heap x 482 kdx kt ktk ls) (hg : Good ls) (hf : find D (low ls) = none)
    (h : ∀ h' tk' e, RaisedN β outer e (.type "KeyError") [] h' → s.heap.UpToSlots h' → E (.ref e) { s with heap := h', toks := tk' }) :
    (hd.heap_39 w.params).In s.heap → wpAny (model PySem.Challenge.rw_ab5010_01.row.prog w) A (call (.ref 564) [.ref nd, .ref x]) Q E s := by
  k_fill
  intro X
  obtain ⟨t1, t2, t3, u2, u3, I⟩ := hd'.inst
  k_dflt (refine enter X T.nolimit (by k_is) (by k_is) (by omega) (BindsTo.of_eq rfl) (locs rfl) (by decide) rfl rfl rfl ?_)
  intro h₁ F
  generalize hLe : s.heap.objs.size = L at *
  have N : News s.heap L h₁ [] := News.nil
  walk_at "my go"
  obtain ⟨xs₁, ⟨od, es, ep, hod, hex, hdat, _⟩, _⟩ := (dictat_ext hd' F.keep).store
  refine method_dict PySem.F.slot_dict_pop PySem.F.type_dict_pop ⟨od, hod, hex, hdat⟩ ?_
  walk_at "my go"
  refine folded_ok (T.keeps F.keep) hh (by show A.depth + 1 + 2 < recursionLimit; omega) (nameat_ext hx F.keep) (fun b hb => by have := hg.short b hb; omega) (by have := hg.len; omega) (fun h₂ tk₂ t he₂ ht₂ => ?_) (X.keeps F.keep)
  have F₂ := F.keeps he₂
  have N₂ : News s.heap L h₂ [] := News.nil
  clear F N
  obtain ⟨xs, hm, hE⟩ := (dictat_ext hd' F₂.keep).store
  have e1 : atKey xs (low ls) = none := by
    rcases ents_find hE (low ls) with ⟨e1, _⟩ | ⟨p', e', e1, e2, e3⟩
    · exact e1
    · rw [hf] at e2; cases e2
  walk_at "my go"
  refine pop_H (show A.units + 3 + 1 < cLine by omega) ht₂ hd'.mods hh hm (by rw [ents_len hE, sizeLine_eq]; omega) (fun _ h₃ e tk₃ hx₃ => ?_) (fun p₂ h₃ q _ _ => by rw [e1] at q; cases q)
  refine leave_newK K hx₃ F₂ N₂ fun h₄ hR hU => ?_
  exact h _ _ _ hR hU

theorem raisedN_of_K {β h : Heap} {l : List Env} {e t : Addr} {cls : Value} {vs : List Value} {nx : List (Addr × Obj)} (R : RaisedK β l e cls t vs nx h) : RaisedN β l e cls nx h :=
  let ⟨⟨B, a, b, c, _⟩, _⟩ := R; ⟨B, _, a, b, c⟩
theorem setitem_refused {β : Heap} {outer : List Env} {nd : Addr} {kt vt : Tok} {v : Int} (K : Below A β outer s.heap) (T : Top p loose mean mg mb s.heap) (hh : A.handled = none) (hdp : A.depth + 6 < recursionLimit)
    (h : ∀ h' tk' e, RaisedN β outer e (.type "ValueError") [] h' → s.heap.UpToSlots h' → E (.ref e) { s with heap := h', toks := tk' }) :
    (hd.heap_39 w.params).In s.heap → wpAny (model PySem.Challenge.rw_ab5010_01.row.prog w) A (call (.ref 557) [.ref nd, .str (Str.ofString "a") kt, .int v vt]) Q E s := by
  k_fill
  intro X
  k_dflt (refine enter X T.nolimit (by k_is) (by k_is) (by omega) (BindsTo.of_eq rfl) (locs rfl) (by decide) rfl rfl rfl ?_)
  intro h₁ F
  generalize hLe : s.heap.objs.size = L at *
  have N : News s.heap L h₁ [] := News.nil
  walk_at "my go"
  refine Raise_madeB PySem.F.excCall_ValueError PySem.F.excRaise_ValueError hh ?_
  walk_at "my go"
  (with_reducible rename RaisedK _ _ _ _ _ _ _ _ => R)
  exact h _ _ _ (raisedN_of_K R) (by assumption)
end
end Mine
end
section
open PySem PySem.W PyProof.Rows PySem.Calls
namespace Mine
/-- steps of the library's walk up to a comprehension, a call of the text's own, a loop -/
local macro_rules | `(tactic| walk_at "my go") => `(tactic| repeat' (
  ((fail_if_success (with_reducible show wpAny _ _ (eval (Expr.ListComp _ _ _ _) _) _ _ _));
   (fail_if_success (with_reducible show wpAny _ _ (call (Value.ref _) _ _) _ _ _));
   (fail_if_success (with_reducible show wpAny _ _ (call (Value.type _) _ _) _ _ _));
   (fail_if_success (with_reducible show wpAny _ _ (exec (Stmt.For _ _ _ _ _) _) _ _ _));
   (fail_if_success (with_reducible show wpAny _ _ (exec (Stmt.Assign _ (Expr.ListComp _ _ _ _) _) _) _ _ _));
   (fail_if_success (with_reducible show wpAny _ _ (pyIter _) _ _ _));
   (fail_if_success (with_reducible show wpAny _ _ (getMethod (Value.ref _) (PySem.Str.ofString "values") _) _ _ _));
   (fail_if_success (with_reducible show wpAny _ _ (getMethod (Value.ref _) (PySem.Str.ofString "pop") _) _ _ _));
   (first | (k_unfold; (try dsimp only)) | walk1 | (dsimp only; walk1)))))
local macro_rules | `(tactic| k_inst) => `(tactic| exact inst_base (by k_asm) (by assumption))
/-- a name's value out of the frame's facts -/
local macro_rules | `(tactic| walk_at "my look") => `(tactic| first
  | assumption
  | exact if_pos rfl
  | exact rfl
  | (refine (if_neg (by decide)).trans ?_; walk_at "my look"))
local macro_rules | `(tactic| walk_at "eval Name") => `(tactic| (k_here; k_dflt (refine' ld ?k1 ?k2 ?_; (case k1 => k_asm); (case k2 => walk_at "my look"); k_whole)))
local macro_rules | `(tactic| walk_at "loadName") => `(tactic| (k_here; k_dflt (refine' ldn ?k1 ?k2 ?_; (case k1 => k_asm); (case k2 => walk_at "my look"); k_whole)))
local macro_rules | `(tactic| walk_at "eval Name") => `(tactic| ((with_reducible show wpAny _ _ (eval (Expr.Name _ _) (compEnvC _ _ _ _)) _ _ _); k_dflt (refine ldVarK (by assumption) (by assumption) ?_)))

section
variable {w : World} {p : Program} {loose : List Str} {mean : ExcName → Option Value} {mg mb : Str → Option Value} {A : Around} {s : Shared} {Q E : Value → Shared → Prop}
theorem empty_at {h : Heap} : (hd.heap_39 w.params).In h → ∃ t tk, NameAt w h 512 503 511 t tk [] := by
  k_fill
  intro X
  exact ⟨_, _, ⟨⟨X _ _ (by rfl), rfl, rfl, X _ _ (by rfl)⟩, ⟨_, _, _, X _ _ (by rfl), rfl, rfl, .nil⟩⟩⟩
theorem empty_at' {h : Heap} : (hd.heap_39 w.params).In h → ∃ tk, NameAt w h 512 503 511 510 tk [] := by
  k_fill
  intro X
  exact ⟨_, ⟨⟨X _ _ (by rfl), rfl, rfl, X _ _ (by rfl)⟩, ⟨_, _, _, X _ _ (by rfl), rfl, rfl, .nil⟩⟩⟩
end
end Mine
end
section
open PySem PySem.W PyProof.Rows PySem.Calls
namespace Mine
/-- steps of the library's walk up to a comprehension, a call of the text's own, a loop -/
local macro_rules | `(tactic| walk_at "my go") => `(tactic| repeat' (
  ((fail_if_success (with_reducible show wpAny _ _ (eval (Expr.ListComp _ _ _ _) _) _ _ _));
   (fail_if_success (with_reducible show wpAny _ _ (call (Value.ref _) _ _) _ _ _));
   (fail_if_success (with_reducible show wpAny _ _ (call (Value.type _) _ _) _ _ _));
   (fail_if_success (with_reducible show wpAny _ _ (exec (Stmt.For _ _ _ _ _) _) _ _ _));
   (fail_if_success (with_reducible show wpAny _ _ (exec (Stmt.Assign _ (Expr.ListComp _ _ _ _) _) _) _ _ _));
   (fail_if_success (with_reducible show wpAny _ _ (pyIter _) _ _ _));
   (fail_if_success (with_reducible show wpAny _ _ (getMethod (Value.ref _) (PySem.Str.ofString "values") _) _ _ _));
   (fail_if_success (with_reducible show wpAny _ _ (getMethod (Value.ref _) (PySem.Str.ofString "pop") _) _ _ _));
   (first | (k_unfold; (try dsimp only)) | walk1 | (dsimp only; walk1)))))
local macro_rules | `(tactic| walk_at "my gs") => `(tactic| repeat' (
  ((fail_if_success (with_reducible show wpAny _ _ (subscriptTail (Expr.Name _ _) (Expr.Slice _ _ _ _) _ _) _ _ _));
   (fail_if_success (with_reducible show wpAny _ _ (eval (Expr.ListComp _ _ _ _) _) _ _ _));
   (fail_if_success (with_reducible show wpAny _ _ (call (Value.ref _) _ _) _ _ _));
   (fail_if_success (with_reducible show wpAny _ _ (call (Value.type _) _ _) _ _ _));
   (fail_if_success (with_reducible show wpAny _ _ (exec (Stmt.For _ _ _ _ _) _) _ _ _));
   (fail_if_success (with_reducible show wpAny _ _ (exec (Stmt.Assign _ (Expr.ListComp _ _ _ _) _) _) _ _ _));
   (fail_if_success (with_reducible show wpAny _ _ (pyIter _) _ _ _));
   (fail_if_success (with_reducible show wpAny _ _ (getMethod (Value.ref _) (PySem.Str.ofString "values") _) _ _ _));
   (fail_if_success (with_reducible show wpAny _ _ (getMethod (Value.ref _) (PySem.Str.ofString "pop") _) _ _ _));
   (first | (k_unfold; (try dsimp only)) | walk1 | (dsimp only; walk1)))))
local macro_rules | `(tactic| k_inst) => `(tactic| exact inst_base (by k_asm) (by assumption))
/-- a name's value out of the frame's facts -/
local macro_rules | `(tactic| walk_at "my look") => `(tactic| first
  | assumption
  | exact if_pos rfl
  | exact rfl
  | (refine (if_neg (by decide)).trans ?_; walk_at "my look"))
local macro_rules | `(tactic| walk_at "eval Name") => `(tactic| (k_here; k_dflt (refine' ld ?k1 ?k2 ?_; (case k1 => k_asm); (case k2 => walk_at "my look"); k_whole)))
local macro_rules | `(tactic| walk_at "loadName") => `(tactic| (k_here; k_dflt (refine' ldn ?k1 ?k2 ?_; (case k1 => k_asm); (case k2 => walk_at "my look"); k_whole)))
local macro_rules | `(tactic| walk_at "eval Name") => `(tactic| ((with_reducible show wpAny _ _ (eval (Expr.Name _ _) (compEnvC _ _ _ _)) _ _ _); k_dflt (refine ldVarK (by assumption) (by assumption) ?_)))

section
variable {w : World} {p : Program} {loose : List Str} {mean : ExcName → Option Value} {mg mb : Str → Option Value} {A : Around} {s : Shared} {Q E : Value → Shared → Prop}
/-- the first tail, of k labels and fewer, that stands in the dictionary -/
noncomputable def deepFrom (D : List Ent) (ls : List (List UInt8)) : Nat → Option (List (List UInt8) × Int)
  | 0 => (find D []).map fun e => ([], e.val)
  | k + 1 => match find D (low (ls.drop (ls.length - (k + 1)))) with
    | some e => some (ls.drop (ls.length - (k + 1)), e.val)
    | none => deepFrom D ls k
theorem find_deep {D : List Ent} {md : Int} (hd : Deep D md) {l : List (List UInt8)} (h : md < l.length) : find D (low l) = none := by
  cases hf : find D (low l) with
  | none => rfl
  | some e =>
    have h1 := hd.2 e (List.mem_of_find?_eq_some hf)
    have h2 := List.find?_some hf
    have h3 : low e.labels = low l := by simpa using h2
    have h4 := congrArg List.length h3
    rw [low_length, low_length] at h4
    omega
theorem deepFrom_cut {D : List Ent} {md : Int} (hd : Deep D md) (ls : List (List UInt8)) {k : Nat} : ∀ n, n ≤ ls.length → (k ≤ n) → (∀ j, k < j → j ≤ n → md < j) → deepFrom D ls n = deepFrom D ls k
  | 0, _, h, _ => by obtain rfl : k = 0 := by omega
                     rfl
  | n + 1, hn, h, hj => by
    by_cases e : k = n + 1
    · rw [e]
    · rw [deepFrom, find_deep hd (by rw [List.length_drop]; have := hj (n + 1) (by omega) (Nat.le_refl _); omega)]
      exact deepFrom_cut hd ls n (by omega) (by omega) fun j a b => hj j a (by omega)
theorem good_nil : Good [] := ⟨by decide, by simp, fun k hk => by simp at hk⟩
theorem good_drop {ls : List (List UInt8)} (hg : Good ls) (k : Nat) : Good (ls.drop k) := by
  refine ⟨by rw [List.length_drop]; have := hg.len; omega, fun b hb => hg.short b (List.mem_of_mem_drop hb), fun j hj e => ?_⟩
  rw [List.length_drop] at hj
  rw [List.getElem?_drop] at e
  exact hg.last (k + j) (by omega) e


theorem sub_slice {K : Frag} {g : Heap} {L x C f : Addr} {m : Str → Option Value} {ox : Obj} {od : Option Obj} {value : Expr} {ea eb : Option Expr} {sp : Pos} {i : Value} (F : Fr g L s.heap m) (X₀ : K.In g) (I : InstAt s.heap x ox C od) (hq : noSeq K C = true) (hs : findIn K (.ref C) "__getitem__" = some (some (.ref f))) (hf : fnIn K f = true) (hfn : isFn K (.ref f) = true)
    (h : wpAny (model prg w) A (call (.ref f) [.ref x, i]) Q E s) : wpAny (model prg w) A (subscriptTail value (.Slice ea eb none sp) (.ref x) i) Q E s := by
  have X := X₀.keeps F.keep
  unfold fnIn at hf
  split at hf
  · rename_i e
    unfold subscriptTail getitemInPython
    refine wpAny_bind (wpAny_bind (wpAny_bind (I.type.here ((looks_findIn X hs).here ?_))))
    dsimp only
    refine wpAny_bind (wpAny_load (X _ _ e) (wpAny_pure ?_))
    dsimp only
    rw [show subscripted (.Slice ea eb none sp) true (.ref x) i = operate [i, .ref x] (getItem (.ref x) i) from rfl]
    refine wpAny_bind (wpAny_operating ?_)
    unfold getItem sequenceKey
    refine wpAny_holding (wpAny_bind (wpAny_bind (I.type.here ?_)))
    refine wpAny_bind ((anyM_none X hq).here ?_)
    rw [if_pos (show (!false) = true from rfl)]
    refine wpAny_pure (wpAny_bind (special_fn X I hs (beq_iff_eq.mp hfn) (wpAny_mono h (fun v s' z => wpAny_pure ?_) fun _ _ z => z)))
    exact wpAny_bind (wpAny_letTemporaryGo (wpAny_pure z))
  · cases hf

/-- a name's three objects on the ledger -/
def NameIn (w : World) (nx : List (Addr × Obj)) (y C ky kt : Addr) (tk : Tok) (ls : List (List UInt8)) : Prop :=
  (y, instObj C ky) ∈ nx ∧ (ky, W.dictOf [⟨PyData.keyHash w.params (Str.ofString "labels"), .str (Str.ofString "labels") tk, .ref kt⟩] 1) ∈ nx ∧ ∃ ot items n, (kt, ot) ∈ nx ∧ ot.cls = .type "tuple" ∧ ot.data = .seq items n ∧ ItemsAre (bytesKind prg w) ls items.toList
theorem name_of_news {g h : Heap} {L y C ky kt : Addr} {tk : Tok} {ls : List (List UInt8)} {nx : List (Addr × Obj)} (N : News g L h nx) (I : NameIn w nx y C ky kt tk ls) : NameAt w h y C ky kt tk ls :=
  let ⟨a, b, ot, items, n, c, d, e, f⟩ := I
  ⟨⟨(N _ a).1, rfl, rfl, (N _ b).1⟩, ot, items, n, (N _ c).1, d, e, f⟩
theorem NameIn.mono {nx nx' : List (Addr × Obj)} {y C ky kt : Addr} {tk : Tok} {ls : List (List UInt8)} (I : NameIn w nx y C ky kt tk ls) (k : ∀ p ∈ nx, p ∈ nx') : NameIn w nx' y C ky kt tk ls :=
  let ⟨a, b, ot, items, n, c, d⟩ := I; ⟨k _ a, k _ b, ot, items, n, k _ c, d⟩
theorem news_name {g h₈ h₉ : Heap} {L y C ky kt : Addr} {m : Str → Option Value} {tk : Tok} {ls : List (List UInt8)} {nx : List (Addr × Obj)} (F : Fr g L h₈ m) (N : News g L h₉ nx) (hy : NameAt w h₉ y C ky kt tk ls) (h1 : h₈.get? y = none) (h2 : h₈.get? ky = none) (h3 : h₈.get? kt = none) :
    ∃ ot, News g L h₉ ((y, instObj C ky) :: (ky, W.dictOf [⟨PyData.keyHash w.params (Str.ofString "labels"), .str (Str.ofString "labels") tk, .ref kt⟩] 1) :: (kt, ot) :: nx) ∧
      NameIn w ((y, instObj C ky) :: (ky, W.dictOf [⟨PyData.keyHash w.params (Str.ofString "labels"), .str (Str.ofString "labels") tk, .ref kt⟩] 1) :: (kt, ot) :: nx) y C ky kt tk ls := by
  obtain ⟨I, ot, items, n, h4, h5, h6, h7⟩ := hy
  have new : ∀ b, h₈.get? b = none → b ≠ L ∧ g.get? b = none := fun b e => by
    refine ⟨fun q => ?_, ?_⟩
    · obtain ⟨oL, _, _, hL, _⟩ := F.ns
      rw [q, hL] at e; cases e
    · cases q : g.get? b with
      | none => rfl
      | some o => rw [F.keep _ _ q] at e; cases e
  refine ⟨ot, fun p hp => ?_, .head _, .tail _ (.head _), ot, items, n, .tail _ (.tail _ (.head _)), h5, h6, h7⟩
  rcases List.mem_cons.mp hp with rfl | hp
  · exact ⟨I.at_, new _ h1⟩
  rcases List.mem_cons.mp hp with rfl | hp
  · exact ⟨I.dict, new _ h2⟩
  rcases List.mem_cons.mp hp with rfl | hp
  · exact ⟨h4, new _ h3⟩
  · exact N p hp

theorem below_in1 {β h : Heap} {outer : List Env} (K : Below A β outer h) : Below A.in1 β outer h := ⟨K.stack, K.stays, K.frames⟩
theorem deepest_ok {β : Heap} {outer : List Env} {nd dx d x kdx kt : Addr} {ktk : Tok} {D : List Ent} {md mi : Int} {ls : List (List UInt8)} (K : Below A β outer s.heap) (T : Top p loose mean mg mb s.heap) (hh : A.handled = none) (hdp : A.depth + 10 < recursionLimit) (hun : A.units + 100 < cLine)
    (hd' : DictAt w s.heap nd dx d D md mi) (hdeep : Deep D md) (hx : NameAt w s.heap x 482 kdx kt ktk ls) (hg : Good ls)
    (hyes : ∀ suf v, deepFrom D ls ls.length = some (suf, v) → ∀ h' tk' t y C kdx' kt' ktk' u n, Ext s.heap h' → ((C = 482 ∧ s.heap.get? y = none ∧ s.heap.get? kdx' = none ∧ s.heap.get? kt' = none) ∨ (suf = [] ∧ y = 512)) → NameAt w h' y C kdx' kt' ktk' suf → h'.get? t = some { cls := .type "tuple", data := .seq #[.ref y, .int v u] n } → Q (.ref t) { s with heap := h', toks := tk' })
    (hno : deepFrom D ls ls.length = none → ∀ h' tk' e, RaisedN β outer e (.type "KeyError") [] h' → s.heap.UpToSlots h' → E (.ref e) { s with heap := h', toks := tk' }) :
    (hd.heap_39 w.params).In s.heap → wpAny (model PySem.Challenge.rw_ab5010_01.row.prog w) A (call (.ref 585) [.ref nd, .ref x]) Q E s := by
  k_fill
  intro X
  obtain ⟨t1, t2, t3, u2, u3, I⟩ := hd'.inst
  obtain ⟨I', ht⟩ := id hx
  k_dflt (refine enter X T.nolimit (by k_is) (by k_is) (by omega) (BindsTo.of_eq rfl) (locs rfl) (by decide) rfl rfl rfl ?_)
  intro h₁ F
  generalize hLe : s.heap.objs.size = L at *
  have N : News s.heap L h₁ [] := News.nil
  obtain ⟨m₀, F, q₁, q₂⟩ : ∃ m₀, Fr s.heap L h₁ m₀ ∧ m₀ (Str.ofString "self") = some (.ref nd) ∧ m₀ (Str.ofString "name") = some (.ref x) := ⟨_, F, rfl, rfl⟩
  have hlen := hg.len
  have hmd0 := hdeep.1
  walk_at "my go"
  refine namelen_ok (T.keeps F.keep) (by show A.depth + 1 + 2 < recursionLimit; omega) (nameat_ext hx F.keep) (by omega) (fun h₂ tk₂ u₂ he₂ => ?_) (X.keeps F.keep)
  have F₂ := F.keeps he₂
  have N₂ : News s.heap L h₂ [] := News.nil
  clear F N
  refine ⟨⟨by omega, by omega⟩, ?_⟩
  walk_at "my go"
  · (with_reducible rename Fr _ _ _ _ => F₃)
    have hcut : deepFrom D ls ls.length = deepFrom D ls (md.toNat) := deepFrom_cut hdeep ls _ (Nat.le_refl _) (by omega) fun j a b => by omega
    refine for_head ?_
    walk_at "my go"
    refine range2_rows F₃ News.nil fun h₄ tk₄ t₁ u₁ v₁ hr F₄ N₄ he₄ => ?_
    refine for_range (n := md.toNat) (fun i m nx => m (Str.ofString "self") = some (.ref nd) ∧ m (Str.ofString "name") = some (.ref x) ∧ nx = [] ∧ deepFrom D ls (md.toNat) = deepFrom D ls (md.toNat - i)) hh hr (small_one (by omega) (by omega) (by decide) (by decide)) (by rw [rangeSize_nat]; omega) F₄ News.nil ⟨by walk_at "my look", by walk_at "my look", rfl, rfl⟩ ?_ ?_
    · intro I i ti m₁ nx h₅ tk₅ oI hi hJ hnx hIt F₅ N₅
      obtain ⟨j1, j2, rfl, j4⟩ := hJ
      rw [show (-(md) + (i : Int)) = -((md.toNat - i : Nat) : Int) by omega]
      have hD1 : 1 ≤ md.toNat - i := by omega
      have hD2 : md.toNat - i ≤ ls.length := by omega
      have hD3 : md.toNat - (i + 1) = md.toNat - i - 1 := by omega
      refine turn_name F₅ N₅ fun h₆ F₆ N₆ => ?_
      rw [hcut, j4] at hyes
      clear F₅ N₅ F₃ F₄ hno hr he₄ hIt hi
      rw [← hD3] at *
      generalize hdi : md.toNat - i = k at *
      clear hcut
      walk_at "my gs"
      have F₇ := F₆.push ({ cls := .type "slice", data := .fields #[.int (-(k : Int)) ti, .none, .none] } : Obj)
      have N₇ := news_keeps N₆ (Ext.push ({ cls := .type "slice", data := .fields #[.int (-(k : Int)) ti, .none, .none] } : Obj))
      have hsl := Heap.get?_push_size (h := h₆) (o := { cls := .type "slice", data := .fields #[.int (-(k : Int)) ti, .none, .none] }) rfl
      clear F₆ N₆
      dsimp only at F₇ N₇ hsl ⊢
      generalize hpe : h₆.push ({ cls := .type "slice", data := .fields #[.int (-(k : Int)) ti, .none, .none] } : Obj) = h₇ at *
      generalize hse : h₆.objs.size = sl at *
      clear hpe hse
      refine sub_slice F₇ X (by k_inst) (by k_is) (by k_is) (by k_is) (by k_is) ?_
      refine nameitem_ok (T.keeps F₇.keep) (by show A.depth + 1 + 2 < recursionLimit; omega) (nameat_ext hx F₇.keep) (by omega) ⟨_, hsl, rfl, rfl⟩ (by omega) (by omega) (fun h₈ tk₈ sq he₈ hsrc₈ => ?_) (X.keeps F₇.keep)
      have F₈ := F₇.keeps he₈
      have N₈ := news_keeps N₇ he₈
      clear F₇ N₇ hsl
      walk_at "my go"
      generalize hsuf : ls.drop (ls.length - k) = suf at *
      have hgs : Good suf := hsuf ▸ good_drop hg _
      refine name_ok (T.keeps F₈.keep) hh (by show A.depth + 1 + 5 < recursionLimit; omega) hsrc₈ hgs (fun h₉ tk₉ y ky kty tky he₉ hy hy1 hy2 hy3 => ?_) (X.keeps F₈.keep)
      have F₉ := F₈.keeps he₉
      obtain ⟨ot, N₉, hin⟩ := news_name F₈ (news_keeps N₈ he₉) hy hy1 hy2 hy3
      clear F₈ N₈ hsrc₈ hy
      walk_at "my go"
      (with_reducible rename Fr _ _ _ _ => F₁)
      (with_reducible rename News _ _ _ _ => N₁)
      have hy := name_of_news N₁ hin
      refine haskey_ok (T.keeps F₁.keep) hh (by show A.depth + 1 + 6 < recursionLimit; omega) (show A.units + 3 + 60 < cLine by omega) (dictat_ext hd' F₁.keep) hy hgs (fun h₂ tk₂ he₂ => ?_) (X.keeps F₁.keep)
      have F₂ := F₁.keeps he₂
      have N₂ := news_keeps N₁ he₂
      replace hy := nameat_ext hy he₂
      clear F₁ N₁
      cases hf : find D (low suf) with
      | some e =>
        rw [show (some e : Option Ent).isSome = true from rfl]
        walk_at "my go"
        refine dictget_ok (.inl rfl) (T.keeps F₂.keep) hh (by show A.depth + 1 + 6 < recursionLimit; omega) (show A.units + 3 + 1 + 60 < cLine by omega) (dictat_ext hd' F₂.keep) hy hgs hf (fun h₃ tk₃ u₃ he₃ => ?_) (X.keeps F₂.keep)
        have F₃ := F₂.keeps he₃
        have N₃ := news_keeps N₂ he₃
        clear F₂ N₂ hy
        walk_at "my go"
        (with_reducible rename Fr _ _ _ _ => F₁)
        (with_reducible rename News _ _ _ _ => N₁)
        refine hyes suf e.val ?_ _ _ _ y 482 ky kty tky _ _ F₁.keep (.inl ⟨rfl, (N₁ _ (.tail _ hin.1)).2.2, (N₁ _ (.tail _ hin.2.1)).2.2, let ⟨_, _, _, q, _⟩ := hin.2.2; (N₁ _ (.tail _ q)).2.2⟩) (name_of_news N₁ (hin.mono fun p hp => .tail _ hp)) (N₁ _ (.head _)).1
        obtain ⟨k', rfl⟩ : ∃ k', k = k' + 1 := ⟨k - 1, by omega⟩
        rw [deepFrom, hsuf, hf]
      | none =>
        rw [show (none : Option Ent).isSome = false from rfl]
        walk_at "my go"
        refine ⟨_, _, _, _, rfl, F₂, fun p hp => N₂ p (.tail _ (.tail _ (.tail _ hp))), hnx, by walk_at "my look", by walk_at "my look", rfl, ?_⟩
        rw [j4]
        obtain ⟨k', rfl⟩ : ∃ k', k = k' + 1 := ⟨k - 1, by omega⟩
        rw [deepFrom, hsuf, hf, show md.toNat - (i + 1) = k' by omega]
    · intro h₅ tk₅ m₅ nx hJ F₅ N₅
      obtain ⟨j1, j2, rfl, j4⟩ := hJ
      rw [hcut, j4, Nat.sub_self] at hyes hno
      clear hcut hr F₃ F₄ he₄
      walk_at "my go"
      obtain ⟨et, etk, hem⟩ := empty_at (X.keeps F₅.keep)
      cases hf : find D [] with
      | some e =>
        refine dictget_ok (.inr rfl) (T.keeps F₅.keep) hh (by show A.depth + 1 + 6 < recursionLimit; omega) (show A.units + 3 + 1 + 60 < cLine by omega) (dictat_ext hd' F₅.keep) hem good_nil hf (fun h₃ tk₃ u₃ he₃ => ?_) (X.keeps F₅.keep)
        have F₆ := F₅.keeps he₃
        have N₆ := news_keeps N₅ he₃
        clear F₅ N₅
        walk_at "my go"
        (with_reducible rename Fr _ _ _ _ => F₁)
        (with_reducible rename News _ _ _ _ => N₁)
        obtain ⟨et', etk', hem'⟩ := empty_at (X.keeps F₁.keep)
        exact hyes [] e.val (by rw [deepFrom, hf]; rfl) _ _ _ 512 503 511 et' etk' _ _ F₁.keep (.inr ⟨rfl, rfl⟩) hem' (N₁ _ (.head _)).1
      | none =>
        refine dictget_miss (.inr rfl) (below_in1 (pushX K F₅ rfl rfl)) (T.keeps F₅.keep) hh (by show A.depth + 1 + 6 < recursionLimit; omega) (show A.units + 3 + 1 + 60 < cLine by omega) (dictat_ext hd' F₅.keep) hem good_nil hf (fun h₃ tk₃ e hR hU => ?_) (X.keeps F₅.keep)
        refine leave_onN K F₅ hR hU fun h₄ hR hU => ?_
        exact hno (by rw [deepFrom, hf]; rfl) _ _ _ hR hU
  · (with_reducible rename Fr _ _ _ _ => F₃)
    have hcut : deepFrom D ls ls.length = deepFrom D ls (ls.length) := rfl
    refine for_head ?_
    walk_at "my go"
    refine range2_rows F₃ News.nil fun h₄ tk₄ t₁ u₁ v₁ hr F₄ N₄ he₄ => ?_
    refine for_range (n := ls.length) (fun i m nx => m (Str.ofString "self") = some (.ref nd) ∧ m (Str.ofString "name") = some (.ref x) ∧ nx = [] ∧ deepFrom D ls (ls.length) = deepFrom D ls (ls.length - i)) hh hr (small_one (by omega) (by omega) (by decide) (by decide)) (by rw [rangeSize_nat]; omega) F₄ News.nil ⟨by walk_at "my look", by walk_at "my look", rfl, rfl⟩ ?_ ?_
    · intro I i ti m₁ nx h₅ tk₅ oI hi hJ hnx hIt F₅ N₅
      obtain ⟨j1, j2, rfl, j4⟩ := hJ
      rw [show (-((ls.length : Int)) + (i : Int)) = -((ls.length - i : Nat) : Int) by omega]
      have hD1 : 1 ≤ ls.length - i := by omega
      have hD2 : ls.length - i ≤ ls.length := by omega
      have hD3 : ls.length - (i + 1) = ls.length - i - 1 := by omega
      refine turn_name F₅ N₅ fun h₆ F₆ N₆ => ?_
      rw [hcut, j4] at hyes
      clear F₅ N₅ F₃ F₄ hno hr he₄ hIt hi
      rw [← hD3] at *
      generalize hdi : ls.length - i = k at *
      clear hcut
      walk_at "my gs"
      have F₇ := F₆.push ({ cls := .type "slice", data := .fields #[.int (-(k : Int)) ti, .none, .none] } : Obj)
      have N₇ := news_keeps N₆ (Ext.push ({ cls := .type "slice", data := .fields #[.int (-(k : Int)) ti, .none, .none] } : Obj))
      have hsl := Heap.get?_push_size (h := h₆) (o := { cls := .type "slice", data := .fields #[.int (-(k : Int)) ti, .none, .none] }) rfl
      clear F₆ N₆
      dsimp only at F₇ N₇ hsl ⊢
      generalize hpe : h₆.push ({ cls := .type "slice", data := .fields #[.int (-(k : Int)) ti, .none, .none] } : Obj) = h₇ at *
      generalize hse : h₆.objs.size = sl at *
      clear hpe hse
      refine sub_slice F₇ X (by k_inst) (by k_is) (by k_is) (by k_is) (by k_is) ?_
      refine nameitem_ok (T.keeps F₇.keep) (by show A.depth + 1 + 2 < recursionLimit; omega) (nameat_ext hx F₇.keep) (by omega) ⟨_, hsl, rfl, rfl⟩ (by omega) (by omega) (fun h₈ tk₈ sq he₈ hsrc₈ => ?_) (X.keeps F₇.keep)
      have F₈ := F₇.keeps he₈
      have N₈ := news_keeps N₇ he₈
      clear F₇ N₇ hsl
      walk_at "my go"
      generalize hsuf : ls.drop (ls.length - k) = suf at *
      have hgs : Good suf := hsuf ▸ good_drop hg _
      refine name_ok (T.keeps F₈.keep) hh (by show A.depth + 1 + 5 < recursionLimit; omega) hsrc₈ hgs (fun h₉ tk₉ y ky kty tky he₉ hy hy1 hy2 hy3 => ?_) (X.keeps F₈.keep)
      have F₉ := F₈.keeps he₉
      obtain ⟨ot, N₉, hin⟩ := news_name F₈ (news_keeps N₈ he₉) hy hy1 hy2 hy3
      clear F₈ N₈ hsrc₈ hy
      walk_at "my go"
      (with_reducible rename Fr _ _ _ _ => F₁)
      (with_reducible rename News _ _ _ _ => N₁)
      have hy := name_of_news N₁ hin
      refine haskey_ok (T.keeps F₁.keep) hh (by show A.depth + 1 + 6 < recursionLimit; omega) (show A.units + 3 + 60 < cLine by omega) (dictat_ext hd' F₁.keep) hy hgs (fun h₂ tk₂ he₂ => ?_) (X.keeps F₁.keep)
      have F₂ := F₁.keeps he₂
      have N₂ := news_keeps N₁ he₂
      replace hy := nameat_ext hy he₂
      clear F₁ N₁
      cases hf : find D (low suf) with
      | some e =>
        rw [show (some e : Option Ent).isSome = true from rfl]
        walk_at "my go"
        refine dictget_ok (.inl rfl) (T.keeps F₂.keep) hh (by show A.depth + 1 + 6 < recursionLimit; omega) (show A.units + 3 + 1 + 60 < cLine by omega) (dictat_ext hd' F₂.keep) hy hgs hf (fun h₃ tk₃ u₃ he₃ => ?_) (X.keeps F₂.keep)
        have F₃ := F₂.keeps he₃
        have N₃ := news_keeps N₂ he₃
        clear F₂ N₂ hy
        walk_at "my go"
        (with_reducible rename Fr _ _ _ _ => F₁)
        (with_reducible rename News _ _ _ _ => N₁)
        refine hyes suf e.val ?_ _ _ _ y 482 ky kty tky _ _ F₁.keep (.inl ⟨rfl, (N₁ _ (.tail _ hin.1)).2.2, (N₁ _ (.tail _ hin.2.1)).2.2, let ⟨_, _, _, q, _⟩ := hin.2.2; (N₁ _ (.tail _ q)).2.2⟩) (name_of_news N₁ (hin.mono fun p hp => .tail _ hp)) (N₁ _ (.head _)).1
        obtain ⟨k', rfl⟩ : ∃ k', k = k' + 1 := ⟨k - 1, by omega⟩
        rw [deepFrom, hsuf, hf]
      | none =>
        rw [show (none : Option Ent).isSome = false from rfl]
        walk_at "my go"
        refine ⟨_, _, _, _, rfl, F₂, fun p hp => N₂ p (.tail _ (.tail _ (.tail _ hp))), hnx, by walk_at "my look", by walk_at "my look", rfl, ?_⟩
        rw [j4]
        obtain ⟨k', rfl⟩ : ∃ k', k = k' + 1 := ⟨k - 1, by omega⟩
        rw [deepFrom, hsuf, hf, show ls.length - (i + 1) = k' by omega]
    · intro h₅ tk₅ m₅ nx hJ F₅ N₅
      obtain ⟨j1, j2, rfl, j4⟩ := hJ
      rw [hcut, j4, Nat.sub_self] at hyes hno
      clear hcut hr F₃ F₄ he₄
      walk_at "my go"
      obtain ⟨et, etk, hem⟩ := empty_at (X.keeps F₅.keep)
      cases hf : find D [] with
      | some e =>
        refine dictget_ok (.inr rfl) (T.keeps F₅.keep) hh (by show A.depth + 1 + 6 < recursionLimit; omega) (show A.units + 3 + 1 + 60 < cLine by omega) (dictat_ext hd' F₅.keep) hem good_nil hf (fun h₃ tk₃ u₃ he₃ => ?_) (X.keeps F₅.keep)
        have F₆ := F₅.keeps he₃
        have N₆ := news_keeps N₅ he₃
        clear F₅ N₅
        walk_at "my go"
        (with_reducible rename Fr _ _ _ _ => F₁)
        (with_reducible rename News _ _ _ _ => N₁)
        obtain ⟨et', etk', hem'⟩ := empty_at (X.keeps F₁.keep)
        exact hyes [] e.val (by rw [deepFrom, hf]; rfl) _ _ _ 512 503 511 et' etk' _ _ F₁.keep (.inr ⟨rfl, rfl⟩) hem' (N₁ _ (.head _)).1
      | none =>
        refine dictget_miss (.inr rfl) (below_in1 (pushX K F₅ rfl rfl)) (T.keeps F₅.keep) hh (by show A.depth + 1 + 6 < recursionLimit; omega) (show A.units + 3 + 1 + 60 < cLine by omega) (dictat_ext hd' F₅.keep) hem good_nil hf (fun h₃ tk₃ e hR hU => ?_) (X.keeps F₅.keep)
        refine leave_onN K F₅ hR hU fun h₄ hR hU => ?_
        exact hno (by rw [deepFrom, hf]; rfl) _ _ _ hR hU
end
end Mine
end
section
open PySem PySem.W PyProof.Rows PySem.Calls
namespace Mine
/-- steps of the library's walk up to a comprehension, a call of the text's own, a loop -/
local macro_rules | `(tactic| walk_at "my go") => `(tactic| repeat' (
  ((fail_if_success (with_reducible show wpAny _ _ (eval (Expr.ListComp _ _ _ _) _) _ _ _));
   (fail_if_success (with_reducible show wpAny _ _ (call (Value.ref _) _ _) _ _ _));
   (fail_if_success (with_reducible show wpAny _ _ (call (Value.type _) _ _) _ _ _));
   (fail_if_success (with_reducible show wpAny _ _ (exec (Stmt.For _ _ _ _ _) _) _ _ _));
   (fail_if_success (with_reducible show wpAny _ _ (exec (Stmt.Assign _ (Expr.ListComp _ _ _ _) _) _) _ _ _));
   (fail_if_success (with_reducible show wpAny _ _ (pyIter _) _ _ _));
   (fail_if_success (with_reducible show wpAny _ _ (getMethod (Value.ref _) (PySem.Str.ofString "values") _) _ _ _));
   (fail_if_success (with_reducible show wpAny _ _ (getMethod (Value.ref _) (PySem.Str.ofString "pop") _) _ _ _));
   (first | (k_unfold; (try dsimp only)) | walk1 | (dsimp only; walk1)))))
local macro_rules | `(tactic| k_inst) => `(tactic| exact inst_base (by k_asm) (by assumption))
/-- a name's value out of the frame's facts -/
local macro_rules | `(tactic| walk_at "my look") => `(tactic| first
  | assumption
  | exact if_pos rfl
  | exact rfl
  | (refine (if_neg (by decide)).trans ?_; walk_at "my look"))
local macro_rules | `(tactic| walk_at "eval Name") => `(tactic| (k_here; k_dflt (refine' ld ?k1 ?k2 ?_; (case k1 => k_asm); (case k2 => walk_at "my look"); k_whole)))
local macro_rules | `(tactic| walk_at "loadName") => `(tactic| (k_here; k_dflt (refine' ldn ?k1 ?k2 ?_; (case k1 => k_asm); (case k2 => walk_at "my look"); k_whole)))
local macro_rules | `(tactic| walk_at "eval Name") => `(tactic| ((with_reducible show wpAny _ _ (eval (Expr.Name _ _) (compEnvC _ _ _ _)) _ _ _); k_dflt (refine ldVarK (by assumption) (by assumption) ?_)))

section
variable {w : World} {p : Program} {loose : List Str} {mean : ExcName → Option Value} {mg mb : Str → Option Value} {A : Around} {s : Shared} {Q E : Value → Shared → Prop}
theorem caughtH {A₀ : Around} {β h : Heap} {outer : List Env} {L a e : Addr} {m : Str → Option Value} {name : Str} {scope : Scope} {cd : Value} {x : Str} {np pos : Pos} {b₀ : Stmt} {suite : List Stmt} {rest : List ExceptHandler} {Q : Flow → Shared → Prop} {X T' : String}
    (hst : A₀.frames = some outer) (F : Fr β L h m) (hsm : h.UpToSlots s.heap) (R : RaisedN β (envOf name scope L a cd :: outer) e (.type X) [] s.heap)
    (hexc : isSubtype (.type T') (.type "BaseException") = pure true) (hnt : isSubtype (.type ((Manifest.find? T').elim "type" fun y => y.metatype)) (.type "tuple") = pure false) (hsub : isSubtype (.type X) (.type T') = pure true)
    (hcls : ∀ (s₅ : Shared) (Q' : Value → Shared → Prop) (E' : Value → Shared → Prop), Fr β L s₅.heap m → Q' (.type T') s₅ → wpAny (model prg w) ((A₀.deeper (envOf name scope L a cd)).mark (some (.ref e))) (eval (.Name x np) (envOf name scope L a cd)) Q' E' s₅)
    (k : ∀ h', Fr β L h' m → h.UpToSlots h' → wpAny (model prg w) ((A₀.deeper (envOf name scope L a cd)).mark (some (.ref e))) (execs (b₀ :: suite) (envOf name scope L a cd)) Q E { s with heap := h' })
    (hE : PassesOwnAt (model prg w) ((A₀.deeper (envOf name scope L a cd)).mark (some (.ref e))) (A₀.deeper (envOf name scope L a cd)) (envOf name scope L a cd) E := by passes_own) :
    wpAny (model prg w) (A₀.deeper (envOf name scope L a cd)) (noteFrame (.ref e) (envOf name scope L a cd))
      (fun _ s₂ => wpAny (model prg w) (A₀.deeper (envOf name scope L a cd)) (setFlight (.ref e) none) (fun _ s₃ =>
        wpAny (model prg w) (A₀.deeper (envOf name scope L a cd)) (handleBy (.ref e) (envOf name scope L a cd) (.ExceptHandler (some (.Name x np)) none (b₀ :: suite) pos :: rest)) Q E s₃) E s₂) E s := by
  obtain ⟨B, a0, hB, _, hfl⟩ := R
  refine wpAny_looks_onW (Around.frames_deeper hst) rfl hfl fun h₄ hheld₄ hsm₄ => ?_
  refine wpAny_landsW hheld₄ fun h₅ hheld hsm₅' => ?_
  have hsm₅ := hsm₄.trans hsm₅'
  have hheld' := flyingW_base hB hheld
  have F₅ := F.of_stays hheld'.1 (hsm.trans hsm₅)
  obtain ⟨ob, hob, hobc⟩ := hheld'.there
  refine wpAny_handleBy_builtin (X := X) (T := T') (b := true) hexc hnt hsub (hcls _ _ _ F₅ ⟨rfl, ⟨ob, hob, hobc⟩, ?_⟩)
  refine lands_againW hheld fun h₆ hfl₆ hsm₆ => ?_
  exact wpAny_passesOwnAt hE (k h₆ (F.of_stays (flyingW_base hB hfl₆).1 ((hsm.trans hsm₅).trans hsm₆)) ((hsm.trans hsm₅).trans hsm₆))

theorem asked_ok {β : Heap} {outer : List Env} {nd dx d x kdx kt : Addr} {ktk : Tok} {D : List Ent} {md mi : Int} {ls : List (List UInt8)} (K : Below A β outer s.heap) (hβs : β.objs.size ≤ s.heap.objs.size) (T : Top p loose mean mg mb β) (hh : A.handled = none) (hdp : A.depth + 10 < recursionLimit) (hun : A.units + 100 < cLine)
    (hd' : DictAt w β nd dx d D md mi) (hx : NameAt w β x 482 kdx kt ktk ls) (hg : Good ls)
    (h : ∀ h' tk' u, β.StaysIn h' → s.heap.UpToSlots h' → Q (match find D (low ls) with | some e => .int e.val u | none => .none) { s with heap := h', toks := tk' }) :
    (hd.heap_39 w.params).In β → wpAny (model PySem.Challenge.rw_ab5010_01.row.prog w) A (call (.ref 611) [.ref nd, .ref x]) Q E s := by
  k_fill
  intro X
  have Xs := X.keeps K.stays
  obtain ⟨t1, t2, t3, u2, u3, I⟩ := (dictat_ext hd' K.stays).inst
  k_dflt (refine enter Xs (T.keeps K.stays).nolimit (by k_is) (by k_is) (by omega) (BindsTo.of_eq rfl) (locs rfl) (by decide) rfl rfl rfl ?_)
  intro h₁ F
  generalize hLe : s.heap.objs.size = L at *
  have N : News s.heap L h₁ [] := News.nil
  obtain ⟨m₀, F, q₁, q₂⟩ : ∃ m₀, Fr s.heap L h₁ m₀ ∧ m₀ (Str.ofString "names") = some (.ref nd) ∧ m₀ (Str.ofString "key") = some (.ref x) := ⟨_, F, rfl, rfl⟩
  walk_at "my go"
  have hst : ∀ {h' : Heap}, Ext s.heap h' → β.StaysIn h' ∧ s.heap.UpToSlots h' := fun e => ⟨fun b o q => e _ _ (K.stays b o q), Heap.UpToSlots.of_keeps e⟩
  cases hf : find D (low ls) with
  | some e =>
    rw [hf] at h
    refine dictget_ok (.inl rfl) ((T.keeps K.stays).keeps F.keep) hh (by show A.depth + 1 + 6 < recursionLimit; omega) (show A.units + 3 + 1 + 60 < cLine by omega) (dictat_ext (dictat_ext hd' K.stays) F.keep) (nameat_ext (nameat_ext hx K.stays) F.keep) hg hf (fun h₃ tk₃ u₃ he₃ => ?_) (Xs.keeps F.keep)
    have F₃ := F.keeps he₃
    walk_at "my go"
    exact h _ _ _ (hst F₃.keep).1 (hst F₃.keep).2
  | none =>
    rw [hf] at h
    refine dictget_miss (.inl rfl) (below_in1 (pushX K F rfl rfl)) ((T.keeps K.stays).keeps F.keep) hh (by show A.depth + 1 + 6 < recursionLimit; omega) (show A.units + 3 + 1 + 60 < cLine by omega) (dictat_ext (dictat_ext hd' K.stays) F.keep) (nameat_ext (nameat_ext hx K.stays) F.keep) hg hf (fun h₃ tk₃ e hR hU => ?_) (Xs.keeps F.keep)
    have Fβ := fr_base F K.stays (by omega)
    have hF := hst F.keep
    clear F N I
    refine caughtH (T' := "KeyError") K.stack Fβ hU hR kr_isExc_KeyError kr_notTuple_KeyError (by rw [isSubtype_type]; kernel_rfl) (fun s₅ Q' E' F₅ hq => ?_) (fun h₄ F₄ hU₄ => ?_)
    · have N₅ : News β L s₅.heap [] := News.nil
      walk_at "my go"
      exact hq
    · have N₄ : News β L h₄ [] := News.nil
      walk_at "my go"
      exact h _ _ 0 F₄.keep (hF.2.trans hU₄)
end
end Mine
end
section
open PySem PySem.W PyProof.Rows PySem.Calls
namespace Mine
/-- steps of the library's walk up to a comprehension, a call of the text's own, a loop -/
local macro_rules | `(tactic| walk_at "my go") => `(tactic| repeat' (
  ((fail_if_success (with_reducible show wpAny _ _ (eval (Expr.ListComp _ _ _ _) _) _ _ _));
   (fail_if_success (with_reducible show wpAny _ _ (call (Value.ref _) _ _) _ _ _));
   (fail_if_success (with_reducible show wpAny _ _ (call (Value.type _) _ _) _ _ _));
   (fail_if_success (with_reducible show wpAny _ _ (exec (Stmt.For _ _ _ _ _) _) _ _ _));
   (fail_if_success (with_reducible show wpAny _ _ (exec (Stmt.Assign _ (Expr.ListComp _ _ _ _) _) _) _ _ _));
   (fail_if_success (with_reducible show wpAny _ _ (pyIter _) _ _ _));
   (fail_if_success (with_reducible show wpAny _ _ (getMethod (Value.ref _) (PySem.Str.ofString "values") _) _ _ _));
   (fail_if_success (with_reducible show wpAny _ _ (getMethod (Value.ref _) (PySem.Str.ofString "pop") _) _ _ _));
   (first | (k_unfold; (try dsimp only)) | walk1 | (dsimp only; walk1)))))
local macro_rules | `(tactic| k_inst) => `(tactic| exact inst_base (by k_asm) (by assumption))
/-- a name's value out of the frame's facts -/
local macro_rules | `(tactic| walk_at "my look") => `(tactic| first
  | assumption
  | exact if_pos rfl
  | exact rfl
  | (refine (if_neg (by decide)).trans ?_; walk_at "my look"))
local macro_rules | `(tactic| walk_at "eval Name") => `(tactic| (k_here; k_dflt (refine' ld ?k1 ?k2 ?_; (case k1 => k_asm); (case k2 => walk_at "my look"); k_whole)))
local macro_rules | `(tactic| walk_at "loadName") => `(tactic| (k_here; k_dflt (refine' ldn ?k1 ?k2 ?_; (case k1 => k_asm); (case k2 => walk_at "my look"); k_whole)))
local macro_rules | `(tactic| walk_at "eval Name") => `(tactic| ((with_reducible show wpAny _ _ (eval (Expr.Name _ _) (compEnvC _ _ _ _)) _ _ _); k_dflt (refine ldVarK (by assumption) (by assumption) ?_)))

section
variable {w : World} {p : Program} {loose : List Str} {mean : ExcName → Option Value} {mg mb : Str → Option Value} {A : Around} {s : Shared} {Q E : Value → Shared → Prop}
/-- what _law_match and _law_due give back -/
def MatchAt (w : World) (h : Heap) (v : Value) : Option (List (List UInt8) × Int) → Prop
  | none => v = .none
  | some (suf, val) => ∃ r l u n vs c, v = .ref r ∧ h.get? r = some { cls := .type "tuple", data := .seq #[.ref l, .int val u] n } ∧ h.get? l = some (PySem.W.listOf vs c) ∧ ItemsAre (bytesKind prg w) suf vs.toList

theorem deep_short {D : List Ent} {ls suf : List (List UInt8)} {v : Int} (hg : Good ls) : ∀ {k : Nat}, deepFrom D ls k = some (suf, v) → suf.length ≤ 7
  | 0, h => by
    rw [deepFrom] at h
    cases hf : find D [] with
    | none => rw [hf] at h; cases h
    | some e => rw [hf] at h; cases h; decide
  | k + 1, h => by
    rw [deepFrom] at h
    split at h
    · cases h; rw [List.length_drop]; have := hg.len; omega
    · exact deep_short hg h
theorem match_ok {β : Heap} {outer : List Env} {nd dx d x kdx kt : Addr} {ktk : Tok} {D : List Ent} {md mi : Int} {ls : List (List UInt8)} (K : Below A β outer s.heap) (hβs : β.objs.size ≤ s.heap.objs.size) (T : Top p loose mean mg mb β) (hh : A.handled = none) (hdp : A.depth + 12 < recursionLimit) (hun : A.units + 110 < cLine)
    (hd' : DictAt w β nd dx d D md mi) (hdeep : Deep D md) (hx : NameAt w β x 482 kdx kt ktk ls) (hg : Good ls)
    (h : ∀ h' tk' v, β.StaysIn h' → s.heap.UpToSlots h' → MatchAt w h' v (deepFrom D ls ls.length) → Q v { s with heap := h', toks := tk' }) :
    (hd.heap_39 w.params).In β → wpAny (model PySem.Challenge.rw_ab5010_01.row.prog w) A (call (.ref 618) [.ref nd, .ref x]) Q E s := by
  k_fill
  intro X
  have Xs := X.keeps K.stays
  have Ts := T.keeps K.stays
  obtain ⟨t1, t2, t3, u2, u3, I⟩ := (dictat_ext hd' K.stays).inst
  k_dflt (refine enter Xs (T.keeps K.stays).nolimit (by k_is) (by k_is) (by omega) (BindsTo.of_eq rfl) (locs rfl) (by decide) rfl rfl rfl ?_)
  intro h₁ F
  generalize hLe : s.heap.objs.size = L at *
  have N : News s.heap L h₁ [] := News.nil
  obtain ⟨m₀, F, q₁, q₂⟩ : ∃ m₀, Fr s.heap L h₁ m₀ ∧ m₀ (Str.ofString "names") = some (.ref nd) ∧ m₀ (Str.ofString "key") = some (.ref x) := ⟨_, F, rfl, rfl⟩
  walk_at "my go"
  have hst : ∀ {h' : Heap}, Ext s.heap h' → β.StaysIn h' ∧ s.heap.UpToSlots h' := fun e => ⟨fun b o q => e _ _ (K.stays b o q), Heap.UpToSlots.of_keeps e⟩
  refine deepest_ok (pushX K F rfl rfl) ((T.keeps K.stays).keeps F.keep) hh (by show A.depth + 1 + 10 < recursionLimit; omega) (show A.units + 3 + 100 < cLine by omega) (dictat_ext (dictat_ext hd' K.stays) F.keep) hdeep (nameat_ext (nameat_ext hx K.stays) F.keep) hg (fun suf v hsome h₃ tk₃ t y C kdx' kt' ktk' u n he₃ hC hy ht => ?_) (fun hnone h₃ tk₃ e hR hU => ?_) (Xs.keeps F.keep)
  · rw [hsome] at h
    have F₃ := F.keeps he₃
    have N₃ : News s.heap L h₃ [] := News.nil
    clear N
    walk_at "my go"
    refine kcp_assign hh ⟨_, ht, rfl, n, rfl⟩ rfl rfl rfl F₃.ns (fun h₄ tk₄ hn hk => ?_)
    have F₄ := fr_of_ns F₃ hn hk
    rcases hC with ⟨rfl, hy1, hy2, hy3⟩ | ⟨rfl, rfl⟩
    · obtain ⟨ot, N₅, hin⟩ := news_name (L := L) (h₈ := h₁) F (News.nil (h := h₃)) hy hy1 hy2 hy3
      have N₄ := news_of_but N₅ hk
      clear F₃ N₃ N₅ hy F
      obtain ⟨I', ht'⟩ := name_of_news N₄ hin
      walk_at "my go"
      obtain ⟨ot', items, n', hot, hotc, hotd, hi⟩ := id ht'
      refine call_list_seq kt' (.inr rfl) hot hotc hotd (fun h₅ c' hk₅ hl => ?_) (by rw [← Array.length_toList, ← hi.length, sizeLine_eq]; have := deep_short hg hsome; omega)
      have F₅ := F₄.keeps hk₅
      have N₅ : News s.heap L h₅ [(h₄.objs.size, PySem.W.listOf items c')] := by
        intro q hq
        rw [List.mem_singleton.mp hq]
        exact ⟨hl, Nat.ne_of_gt F₄.ns.lt, next_is_new F₄⟩
      dsimp only at N₅ ⊢
      generalize h₄.objs.size = l at *
      clear F₄ N₄ hl
      walk_at "my go"
      (with_reducible rename Fr _ _ _ _ => F₆)
      (with_reducible rename News _ _ _ _ => N₆)
      refine h _ _ _ (hst F₆.keep).1 (hst F₆.keep).2 ⟨_, _, _, _, items, c', rfl, (N₆ _ (.head _)).1, (N₆ _ (.tail _ (.head _))).1, hi⟩
    · clear hy N₃ F₃ F
      have N₄ : News s.heap L h₄ [] := News.nil
      obtain ⟨etk, hem⟩ := empty_at' (Xs.keeps F₄.keep)
      obtain ⟨I', ht'⟩ := id hem
      walk_at "my go"
      obtain ⟨ot', items, n', hot, hotc, hotd, hi⟩ := id ht'
      refine call_list_seq 510 (.inr rfl) hot hotc hotd (fun h₅ c' hk₅ hl => ?_) (by rw [← Array.length_toList, ← hi.length, sizeLine_eq]; have := hi.length; have : ([] : List (List UInt8)).length = 0 := rfl; omega)
      have F₅ := F₄.keeps hk₅
      have N₅ : News s.heap L h₅ [(h₄.objs.size, PySem.W.listOf items c')] := by
        intro q hq
        rw [List.mem_singleton.mp hq]
        exact ⟨hl, Nat.ne_of_gt F₄.ns.lt, next_is_new F₄⟩
      dsimp only at N₅ ⊢
      generalize h₄.objs.size = l at *
      clear F₄ N₄ hl
      walk_at "my go"
      (with_reducible rename Fr _ _ _ _ => F₆)
      (with_reducible rename News _ _ _ _ => N₆)
      refine h _ _ _ (hst F₆.keep).1 (hst F₆.keep).2 ⟨_, _, _, _, items, c', rfl, (N₆ _ (.head _)).1, (N₆ _ (.tail _ (.head _))).1, hi⟩
  · rw [hnone] at h
    have Fβ := fr_base F K.stays (by omega)
    have hF := hst F.keep
    clear F N I
    refine caughtH (T' := "KeyError") K.stack Fβ hU hR kr_isExc_KeyError kr_notTuple_KeyError (by rw [isSubtype_type]; kernel_rfl) (fun s₅ Q' E' F₅ hq => ?_) (fun h₄ F₄ hU₄ => ?_)
    · have N₅ : News β L s₅.heap [] := News.nil
      walk_at "my go"
      exact hq
    · have N₄ : News β L h₄ [] := News.nil
      walk_at "my go"
      exact h _ _ _ F₄.keep (hF.2.trans hU₄) rfl
end
end Mine
end
section
open PySem PySem.W PyProof.Rows PySem.Calls
namespace Mine
/-- steps of the library's walk up to a comprehension, a call of the text's own, a loop -/
local macro_rules | `(tactic| walk_at "my go") => `(tactic| repeat' (
  ((fail_if_success (with_reducible show wpAny _ _ (eval (Expr.ListComp _ _ _ _) _) _ _ _));
   (fail_if_success (with_reducible show wpAny _ _ (call (Value.ref _) _ _) _ _ _));
   (fail_if_success (with_reducible show wpAny _ _ (call (Value.type _) _ _) _ _ _));
   (fail_if_success (with_reducible show wpAny _ _ (exec (Stmt.For _ _ _ _ _) _) _ _ _));
   (fail_if_success (with_reducible show wpAny _ _ (exec (Stmt.Assign _ (Expr.ListComp _ _ _ _) _) _) _ _ _));
   (fail_if_success (with_reducible show wpAny _ _ (pyIter _) _ _ _));
   (fail_if_success (with_reducible show wpAny _ _ (getMethod (Value.ref _) (PySem.Str.ofString "values") _) _ _ _));
   (fail_if_success (with_reducible show wpAny _ _ (getMethod (Value.ref _) (PySem.Str.ofString "pop") _) _ _ _));
   (first | (k_unfold; (try dsimp only)) | walk1 | (dsimp only; walk1)))))
local macro_rules | `(tactic| k_inst) => `(tactic| exact inst_base (by k_asm) (by assumption))
/-- a name's value out of the frame's facts -/
local macro_rules | `(tactic| walk_at "my look") => `(tactic| first
  | assumption
  | exact if_pos rfl
  | exact rfl
  | (refine (if_neg (by decide)).trans ?_; walk_at "my look"))
local macro_rules | `(tactic| walk_at "eval Name") => `(tactic| (k_here; k_dflt (refine' ld ?k1 ?k2 ?_; (case k1 => k_asm); (case k2 => walk_at "my look"); k_whole)))
local macro_rules | `(tactic| walk_at "loadName") => `(tactic| (k_here; k_dflt (refine' ldn ?k1 ?k2 ?_; (case k1 => k_asm); (case k2 => walk_at "my look"); k_whole)))
local macro_rules | `(tactic| walk_at "eval Name") => `(tactic| ((with_reducible show wpAny _ _ (eval (Expr.Name _ _) (compEnvC _ _ _ _)) _ _ _); k_dflt (refine ldVarK (by assumption) (by assumption) ?_)))

section
variable {w : World} {p : Program} {loose : List Str} {mean : ExcName → Option Value} {mg mb : Str → Option Value} {A : Around} {s : Shared} {Q E : Value → Shared → Prop}
theorem del_inst {K : Frag} {g : Heap} {L x C f : Addr} {m : Str → Option Value} {ox : Obj} {od : Option Obj} {i : Value} {Q : Unit → Shared → Prop} (F : Fr g L s.heap m) (X₀ : K.In g) (I : InstAt s.heap x ox C od) (hq : noSeq K C = true) (hs : findIn K (.ref C) "__delitem__" = some (some (.ref f))) (hf : isFn K (.ref f) = true)
    (h : wpAny (model prg w) A (call (.ref f) [.ref x, i]) (fun _ s' => Q () s') E s) : wpAny (model prg w) A (delItem (.ref x) i) Q E s := by
  have X := X₀.keeps F.keep
  unfold delItem sequenceKey
  refine wpAny_holding (wpAny_bind (wpAny_bind (I.type.here ?_)))
  refine wpAny_bind ((anyM_none X hq).here ?_)
  rw [if_pos (show (!false) = true from rfl)]
  exact wpAny_pure (wpAny_bind (special_fn X I hs (beq_iff_eq.mp hf) (wpAny_mono h (fun _ _ z => wpAny_pure z) fun _ _ z => z)))
theorem refused_ok {β : Heap} {outer : List Env} {nd dx d : Addr} {D : List Ent} {md mi : Int} (K : Below A β outer s.heap) (hβs : β.objs.size ≤ s.heap.objs.size) (T : Top p loose mean mg mb β) (hh : A.handled = none) (hdp : A.depth + 12 < recursionLimit)
    (hd' : DictAt w β nd dx d D md mi)
    (h : ∀ h' tk', β.StaysIn h' → s.heap.UpToSlots h' → Q (.bool true) { s with heap := h', toks := tk' }) :
    (hd.heap_39 w.params).In β → wpAny (model PySem.Challenge.rw_ab5010_01.row.prog w) A (call (.ref 639) [.ref nd]) Q E s := by
  k_fill
  intro X
  have Xs := X.keeps K.stays
  have Ts := T.keeps K.stays
  obtain ⟨t1, t2, t3, u2, u3, I⟩ := (dictat_ext hd' K.stays).inst
  k_dflt (refine enter Xs (T.keeps K.stays).nolimit (by k_is) (by k_is) (by omega) (BindsTo.of_eq rfl) (locs rfl) (by decide) rfl rfl rfl ?_)
  intro h₁ F
  generalize hLe : s.heap.objs.size = L at *
  have N : News s.heap L h₁ [] := News.nil
  obtain ⟨m₀, F, q₁⟩ : ∃ m₀, Fr s.heap L h₁ m₀ ∧ m₀ (Str.ofString "names") = some (.ref nd) := ⟨_, F, rfl⟩
  walk_at "my go"
  have hst : ∀ {h' : Heap}, Ext s.heap h' → β.StaysIn h' ∧ s.heap.UpToSlots h' := fun e => ⟨fun b o q => e _ _ (K.stays b o q), Heap.UpToSlots.of_keeps e⟩
  refine setitem_refused (pushX K F rfl rfl) (Ts.keeps F.keep) hh (by show A.depth + 1 + 6 < recursionLimit; omega) (fun h₃ tk₃ e hR hU => ?_) (Xs.keeps F.keep)
  have Fβ := fr_base F K.stays (by omega)
  have hF := hst F.keep
  clear F N I
  refine caughtH (T' := "ValueError") K.stack Fβ hU hR PySem.F.isExc_ValueError PySem.F.notTuple_ValueError (by rw [isSubtype_type]; kernel_rfl) (fun s₅ Q' E' F₅ hq => ?_) (fun h₄ F₄ hU₄ => ?_)
  · have N₅ : News β L s₅.heap [] := News.nil
    walk_at "my go"
    exact hq
  · have N₄ : News β L h₄ [] := News.nil
    walk_at "my go"
    exact h _ _ F₄.keep (hF.2.trans hU₄)

theorem taken_no {β : Heap} {outer : List Env} {nd dx d x kdx kt : Addr} {ktk : Tok} {D : List Ent} {md mi : Int} {ls : List (List UInt8)} (K : Below A β outer s.heap) (hβs : β.objs.size ≤ s.heap.objs.size) (T : Top p loose mean mg mb β) (hh : A.handled = none) (hdp : A.depth + 10 < recursionLimit) (hun : A.units + 100 < cLine)
    (hd' : DictAt w β nd dx d D md mi) (hDl : D.length ≤ 100) (hx : NameAt w β x 482 kdx kt ktk ls) (hg : Good ls) (hf : find D (low ls) = none)
    (h : ∀ h' tk', β.StaysIn h' → s.heap.UpToSlots h' → Q (.bool false) { s with heap := h', toks := tk' }) :
    (hd.heap_39 w.params).In β → wpAny (model PySem.Challenge.rw_ab5010_01.row.prog w) A (call (.ref 632) [.ref nd, .ref x]) Q E s := by
  k_fill
  intro X
  have Xs := X.keeps K.stays
  have Ts := T.keeps K.stays
  obtain ⟨t1, t2, t3, u2, u3, I⟩ := (dictat_ext hd' K.stays).inst
  k_dflt (refine enter Xs (T.keeps K.stays).nolimit (by k_is) (by k_is) (by omega) (BindsTo.of_eq rfl) (locs rfl) (by decide) rfl rfl rfl ?_)
  intro h₁ F
  generalize hLe : s.heap.objs.size = L at *
  have N : News s.heap L h₁ [] := News.nil
  obtain ⟨m₀, F, q₁, q₂⟩ : ∃ m₀, Fr s.heap L h₁ m₀ ∧ m₀ (Str.ofString "names") = some (.ref nd) ∧ m₀ (Str.ofString "key") = some (.ref x) := ⟨_, F, rfl, rfl⟩
  walk_at "my go"
  have hst : ∀ {h' : Heap}, Ext s.heap h' → β.StaysIn h' ∧ s.heap.UpToSlots h' := fun e => ⟨fun b o q => e _ _ (K.stays b o q), Heap.UpToSlots.of_keeps e⟩
  refine del_inst F Xs (by k_inst) (by k_is) (by k_is) (by k_is) ?_
  refine delitem_miss (pushX K F rfl rfl) (Ts.keeps F.keep) hh (by show A.depth + 1 + 6 < recursionLimit; omega) (show A.units + 3 + 60 < cLine by omega) (dictat_ext (dictat_ext hd' K.stays) F.keep) hDl (nameat_ext (nameat_ext hx K.stays) F.keep) hg hf (fun h₃ tk₃ e hR hU => ?_) (Xs.keeps F.keep)
  have Fβ := fr_base F K.stays (by omega)
  have hF := hst F.keep
  clear F N I
  refine caughtH (T' := "KeyError") K.stack Fβ hU hR kr_isExc_KeyError kr_notTuple_KeyError (by rw [isSubtype_type]; kernel_rfl) (fun s₅ Q' E' F₅ hq => ?_) (fun h₄ F₄ hU₄ => ?_)
  · have N₅ : News β L s₅.heap [] := News.nil
    walk_at "my go"
    exact hq
  · have N₄ : News β L h₄ [] := News.nil
    walk_at "my go"
    exact h _ _ F₄.keep (hF.2.trans hU₄)

theorem taken_yes {g : Heap} {nd dx d x kdx kt : Addr} {ktk : Tok} {D : List Ent} {md mi : Int} {ls : List (List UInt8)} {e : Ent} (T : Top p loose mean mg mb g) (hge : Ext g s.heap) (hgs : g.objs.size ≤ s.heap.objs.size) (hgn : g.get? nd = none) (hgx : g.get? dx = none) (hgd : g.get? d = none) (hh : A.handled = none) (hdp : A.depth + 10 < recursionLimit) (hun : A.units + 100 < cLine)
    (hD : DictAt w s.heap nd dx d D md mi) (hDl : D.length ≤ 100) (hdeep : Deep D md) (hx : NameAt w s.heap x 482 kdx kt ktk ls) (hg : Good ls) (hf : find D (low ls) = some e)
    (h : ∀ h' tk' md' mi', (∀ b o, b ≠ dx → b ≠ d → s.heap.get? b = some o → h'.get? b = some o) → DictAt w h' nd dx d (outD D (low ls)) md' mi' → Deep (outD D (low ls)) md' → Q (.bool true) { s with heap := h', toks := tk' }) :
    (hd.heap_39 w.params).In g → wpAny (model PySem.Challenge.rw_ab5010_01.row.prog w) A (call (.ref 632) [.ref nd, .ref x]) Q E s := by
  k_fill
  intro X
  have Xs := X.keeps hge
  have Ts := T.keeps hge
  obtain ⟨t1, t2, t3, u2, u3, I⟩ := hD.inst
  k_dflt (refine enter Xs Ts.nolimit (by k_is) (by k_is) (by omega) (BindsTo.of_eq rfl) (locs rfl) (by decide) rfl rfl rfl ?_)
  intro h₁ F
  have hL1 : @Ne Nat dx s.heap.objs.size := Nat.ne_of_lt (Heap.lt_size I.dict)
  have hL2 : @Ne Nat d s.heap.objs.size := by obtain ⟨_, ⟨_, _, _, a, _⟩, _⟩ := hD.store; exact Nat.ne_of_lt (Heap.lt_size a)
  generalize hLe : s.heap.objs.size = L at *
  have N : News s.heap L h₁ [] := News.nil
  obtain ⟨m₀, F, q₁, q₂⟩ : ∃ m₀, Fr s.heap L h₁ m₀ ∧ m₀ (Str.ofString "names") = some (.ref nd) ∧ m₀ (Str.ofString "key") = some (.ref x) := ⟨_, F, rfl, rfl⟩
  walk_at "my go"
  refine del_inst F Xs (by k_inst) (by k_is) (by k_is) (by k_is) ?_
  refine delitem_ok T (hge.trans F.keep) hgn hgx hgd hh (by show A.depth + 1 + 8 < recursionLimit; omega) (show A.units + 3 + 60 < cLine by omega) (dictat_ext hD F.keep) hDl hdeep (nameat_ext hx F.keep) hg hf (fun h₃ tk₃ md' mi' hk hD₃ hdp₃ => ?_) X
  have F₃ : Fr g L h₃ m₀ := ⟨let ⟨oL, es, ep, e, r⟩ := F.ns; ⟨oL, es, ep, hk _ _ (fun q => hL1 q.symm) (fun q => hL2 q.symm) e, r⟩, fun b o e => hk _ _ (fun q => by rw [q, hgx] at e; cases e) (fun q => by rw [q, hgd] at e; cases e) (F.keep _ _ (hge _ _ e)), by omega⟩
  have N₃ : News g L h₃ [] := News.nil
  have hk' : ∀ b o, b ≠ dx → b ≠ d → s.heap.get? b = some o → h₃.get? b = some o := fun b o n1 n2 e => hk b o n1 n2 (F.keep _ _ e)
  clear F N I
  walk_at "my go"
  exact h _ _ _ _ hk' hD₃ hdp₃
end
end Mine
end
section
open PySem PySem.W PyProof.Rows PySem.Calls
namespace Mine
/-- steps of the library's walk up to a comprehension, a call of the text's own, a loop -/
local macro_rules | `(tactic| walk_at "my go") => `(tactic| repeat' (
  ((fail_if_success (with_reducible show wpAny _ _ (eval (Expr.ListComp _ _ _ _) _) _ _ _));
   (fail_if_success (with_reducible show wpAny _ _ (call (Value.ref _) _ _) _ _ _));
   (fail_if_success (with_reducible show wpAny _ _ (call (Value.type _) _ _) _ _ _));
   (fail_if_success (with_reducible show wpAny _ _ (exec (Stmt.For _ _ _ _ _) _) _ _ _));
   (fail_if_success (with_reducible show wpAny _ _ (exec (Stmt.Assign _ (Expr.ListComp _ _ _ _) _) _) _ _ _));
   (fail_if_success (with_reducible show wpAny _ _ (pyIter _) _ _ _));
   (fail_if_success (with_reducible show wpAny _ _ (getMethod (Value.ref _) (PySem.Str.ofString "values") _) _ _ _));
   (fail_if_success (with_reducible show wpAny _ _ (getMethod (Value.ref _) (PySem.Str.ofString "pop") _) _ _ _));
   (first | (k_unfold; (try dsimp only)) | walk1 | (dsimp only; walk1)))))
local macro_rules | `(tactic| k_inst) => `(tactic| exact inst_base (by k_asm) (by assumption))
/-- a name's value out of the frame's facts -/
local macro_rules | `(tactic| walk_at "my look") => `(tactic| first
  | assumption
  | exact if_pos rfl
  | exact rfl
  | (refine (if_neg (by decide)).trans ?_; walk_at "my look"))
local macro_rules | `(tactic| walk_at "eval Name") => `(tactic| (k_here; k_dflt (refine' ld ?k1 ?k2 ?_; (case k1 => k_asm); (case k2 => walk_at "my look"); k_whole)))
local macro_rules | `(tactic| walk_at "loadName") => `(tactic| (k_here; k_dflt (refine' ldn ?k1 ?k2 ?_; (case k1 => k_asm); (case k2 => walk_at "my look"); k_whole)))
local macro_rules | `(tactic| walk_at "eval Name") => `(tactic| ((with_reducible show wpAny _ _ (eval (Expr.Name _ _) (compEnvC _ _ _ _)) _ _ _); k_dflt (refine ldVarK (by assumption) (by assumption) ?_)))

local macro_rules | `(tactic| walk_at "my gn") => `(tactic| repeat' (
  ((fail_if_success (with_reducible show wpAny _ _ (call (Value.builtin "len") _ _) _ _ _));
   (fail_if_success (with_reducible show wpAny _ _ (subscriptTail (Expr.Name _ _) _ _ _) _ _ _));
   (fail_if_success (with_reducible show wpAny _ _ (binaryOp Operator.Add (Value.ref _) _) _ _ _));
   (fail_if_success (with_reducible show wpAny _ _ (call (Value.builtin "list.append") _ _) _ _ _));
   (fail_if_success (with_reducible show wpAny _ _ (call (Value.ref _) _ _) _ _ _));
   (first | (k_unfold; (try dsimp only)) | walk1 | (dsimp only; walk1)))))

section
variable {w : World} {p : Program} {loose : List Str} {mean : ExcName → Option Value} {mg mb : Str → Option Value} {A : Around} {s : Shared} {Q E : Value → Shared → Prop}
/-- a list of label lists, its lists on the ledger (or in the heap) -/
inductive ListsAre (w : World) (M : Addr → Obj → Prop) : List Value → List (List (List UInt8)) → Prop
  | nil : ListsAre w M [] []
  | cons {l : Addr} {ws : Array Value} {c : Nat} {ls : List (List UInt8)} {vs lss} : M l (PySem.W.listOf ws c) → ItemsAre (bytesKind prg w) ls ws.toList → Good ls → ls.length ≤ 6 → ListsAre w M vs lss → ListsAre w M (.ref l :: vs) (ls :: lss)
theorem ListsAre.mono {M M' : Addr → Obj → Prop} {vs : List Value} {lss : List (List (List UInt8))} (x : ListsAre w M vs lss) (k : ∀ a o, M a o → M' a o) : ListsAre w M' vs lss := by
  induction x with
  | nil => exact .nil
  | cons a b c d _ ih => exact .cons (k _ _ a) b c d ih
theorem ListsAre.length {M : Addr → Obj → Prop} {vs : List Value} {lss : List (List (List UInt8))} (x : ListsAre w M vs lss) : vs.length = lss.length := by
  induction x with
  | nil => rfl
  | cons _ _ _ _ _ ih => simp only [List.length_cons, ih]
theorem ListsAre.nth {M : Addr → Obj → Prop} {vs : List Value} {lss : List (List (List UInt8))} (x : ListsAre w M vs lss) {i : Nat} (hi : i < vs.length) :
    ∃ l ws c ls, vs[i]? = some (.ref l) ∧ lss[i]? = some ls ∧ M l (PySem.W.listOf ws c) ∧ ItemsAre (bytesKind prg w) ls ws.toList ∧ Good ls ∧ ls.length ≤ 6 := by
  induction x generalizing i with
  | nil => simp at hi
  | cons a b c d _ ih =>
    cases i with
    | zero => exact ⟨_, _, _, _, rfl, rfl, a, b, c, d⟩
    | succ i => exact ih (by simpa using hi)
theorem ListsAre.snoc {M : Addr → Obj → Prop} {vs : List Value} {lss : List (List (List UInt8))} {l : Addr} {ws : Array Value} {c : Nat} {ls : List (List UInt8)} (x : ListsAre w M vs lss) (a : M l (PySem.W.listOf ws c)) (b : ItemsAre (bytesKind prg w) ls ws.toList) (d : Good ls) (e : ls.length ≤ 6) : ListsAre w M (vs ++ [.ref l]) (lss ++ [ls]) := by
  induction x with
  | nil => exact .cons a b d e .nil
  | cons a' b' c' d' _ ih => exact .cons a' b' c' d' ih

def goodB (ls : List (List UInt8)) : Bool := decide (ls.length ≤ 7) && ls.all (fun b => decide (b.length ≤ 2)) && ls.dropLast.all fun b => !b.isEmpty
theorem good_of {ls : List (List UInt8)} (h : goodB ls = true) : Good ls := by
  unfold goodB at h
  simp only [Bool.and_eq_true, List.all_eq_true, decide_eq_true_eq] at h
  refine ⟨h.1.1, h.1.2, fun k hk e => ?_⟩
  have : ls.dropLast[k]? = some [] := by rw [List.getElem?_dropLast, if_pos (by omega)]; exact e
  have := h.2 _ (List.mem_of_getElem? this)
  simp at this
theorem fmod_range {a b : Int} (hb : 0 < b) : 0 ≤ a.fmod b ∧ a.fmod b < b := by
  rw [Int.fmod_eq_emod_of_nonneg _ (Int.le_of_lt hb)]
  exact ⟨Int.emod_nonneg _ (by omega), Int.emod_lt_of_pos _ hb⟩
theorem item4 {value slice : Expr} {l : Addr} {x0 x1 x2 x3 : Value} {k : Int} {u : Tok} (hl : s.heap.IsList l #[x0, x1, x2, x3]) (h0 : 0 ≤ k) (h1 : k < 4) (P : Value → Prop) (p0 : P x0) (p1 : P x1) (p2 : P x2) (p3 : P x3) (h : ∀ x, P x → Q x s)
    (hs : subscripted slice false (.ref l) (.int k u) = operate [.ref l, .int k u] (getItem (.ref l) (.int k u)) := by with_unfolding_all rfl) (hg : ∀ r, letTemporaryGo value (.ref l) r = pure () := by intro _; with_unfolding_all rfl) :
    wpAny (model prg w) A (subscriptTail value slice (.ref l) (.int k u)) Q E s := by
  obtain ⟨x, hx, hp⟩ : ∃ x, (#[x0, x1, x2, x3] : Array Value)[k.toNat]? = some x ∧ P x := by
    have : k.toNat = 0 ∨ k.toNat = 1 ∨ k.toNat = 2 ∨ k.toNat = 3 := by omega
    rcases this with e | e | e | e <;> rw [e]
    · exact ⟨_, rfl, p0⟩
    · exact ⟨_, rfl, p1⟩
    · exact ⟨_, rfl, p2⟩
    · exact ⟨_, rfl, p3⟩
  exact item_list hl h0 (by omega) hx (h x hp) hs hg
theorem good_cons {ls : List (List UInt8)} {lb : List UInt8} (hg : Good ls) (h1 : lb ≠ []) (h2 : lb.length ≤ 2) (h3 : ls.length < 7) : Good (lb :: ls) := by
  refine ⟨by rw [List.length_cons]; omega, fun b hb => ?_, fun k hk e => ?_⟩
  · rcases List.mem_cons.mp hb with rfl | hb
    · exact h2
    · exact hg.short b hb
  · rw [List.length_cons] at hk
    cases k with
    | zero => simp only [List.getElem?_cons_zero, Option.some.injEq] at e; exact h1 e
    | succ k => simp only [List.getElem?_cons_succ] at e; exact hg.last k (by omega) e
theorem pool_ok {a : Addr} {xs : List Value} {zs : List Int} (T : Top p loose mean mg mb s.heap) (hh : A.handled = none) (hdp : A.depth + 4 < recursionLimit) (hl : s.heap.IsList a xs.toArray) (hi : IntsAre xs zs) (hlen : zs.length ≤ 1000)
    (h : ∀ h' tk' P vs c lss, Ext s.heap h' → h'.get? P = some (PySem.W.listOf vs c) → ListsAre w (fun a o => h'.get? a = some o) vs.toList lss → lss.length = 4 + min 16 zs.length → Q (.ref P) { s with heap := h', toks := tk' }) :
    (hd.heap_39 w.params).In s.heap → wpAny (model PySem.Challenge.rw_ab5010_01.row.prog w) A (call (.ref 604) [.ref a]) Q E s := by
  k_fill
  intro X
  k_dflt (refine enterP X T.nolimit (by k_is) (by k_is) (by omega) (BindsTo.of_eq rfl) (locs rfl) (by decide) rfl rfl rfl ?_)
  intro L h₁ tk₁ F
  have N : News s.heap L h₁ [] := News.nil
  obtain ⟨m₀, F, q₁⟩ : ∃ m₀, Fr s.heap L h₁ m₀ ∧ m₀ (Str.ofString "script") = some (.ref a) := ⟨_, F, rfl⟩
  walk_at "my go"
  refine for_head ?_
  walk_at "my go"
  rename_i l₁ h₃ lt₁ l₂ h₄ lt₂ l₃ h₅ lt₃ l₄ h₆ lt₄ P h₇ lt₅ h₈ D ws h₉ F₉ N₉ hI hC hL lt₆
  refine for_list (items := ws.toArray) (src := [(D, PySem.W.listOf ws.toArray 0)]) (fun i m nx => ∃ P vs c rest lss, nx = (D, PySem.W.listOf ws.toArray 0) :: (P, PySem.W.listOf vs c) :: rest ∧ m (Str.ofString "pool") = some (.ref P) ∧ (∀ p ∈ rest, p.1 ≠ P) ∧ @Ne Nat D P ∧ ListsAre w (fun a o => (a, o) ∈ rest) vs.toList lss ∧ lss.length = 4 + i)
    hh ⟨_, (N₉ _ (.head _)).1, rfl, 0, rfl⟩ (.inr ⟨_, .head _⟩) (fun i m nx hJ q hq => ?_) F₉ N₉ ?_ ?_ ?_
  · obtain ⟨P, vs, c, rest, lss, rfl, _⟩ := hJ
    rw [List.mem_singleton.mp hq]
    exact .head _
  · refine ⟨P, _, _, _, [[], [[]], [[97], []], [[97]]], rfl, by walk_at "my look", ?_, by omega, ?_, rfl⟩
    · intro p hp
      simp only [List.mem_cons, List.not_mem_nil, or_false] at hp
      rcases hp with rfl | rfl | rfl | rfl <;> (show @Ne Nat _ _; omega)
    · exact .cons (.tail _ (.tail _ (.tail _ (.head _)))) .nil good_nil (by decide)
        (.cons (.tail _ (.tail _ (.head _))) (.cons rfl .nil) (good_of (by decide)) (by decide)
        (.cons (.tail _ (.head _)) (.cons rfl (.cons rfl .nil)) (good_of (by decide)) (by decide)
        (.cons (.head _) (.cons rfl .nil) (good_of (by decide)) (by decide) .nil)))
  · intro I i v m₁ nx h₂ tk₂ oI hi hv hJ hnx hIt F₂ N₂
    obtain ⟨P, vs, c, rest, lss, rfl, j1, j2, j3, j4, j5⟩ := hJ
    clear F₉ N₉
    obtain ⟨z, t, rfl, _⟩ := hI.at i v (by rw [← hv]; simp)
    refine turn_name F₂ N₂ fun h₃ F₃ N₃ => ?_
    walk_at "my gn"
    (with_reducible rename Fr _ _ _ _ => F₄)
    (with_reducible rename News _ _ _ _ => N₄)
    clear F₂ N₂
    have hsz : (vs.size : Int) = 4 + i := by rw [← Array.length_toList, j4.length, j5]; omega
    have hi16 : i < 16 := by
      have := hI.sizeZ
      rw [List.size_toArray] at this
      rw [List.size_toArray] at hi
      omega
    refine len_list ⟨_, (N₄ _ (.tail _ (.tail _ (.head _)))).1, rfl, c, rfl⟩ (by omega) ?_
    rw [hsz]
    walk_at "my gn"
    obtain ⟨hk0, hk1⟩ := fmod_range (a := if z < 0 then -z else z) (b := 4 + (i : Int)) (by omega)
    generalize hval : (if z < 0 then -z else z) = val at *
    generalize hk : val.fmod (4 + (i : Int)) = k at *
    obtain ⟨l, bs, c', ls, e1, e2, hmem, hits, hgood, hl6⟩ := j4.nth (i := k.toNat) (by rw [Array.length_toList]; omega)
    refine item_list ⟨_, (N₄ _ (.tail _ (.tail _ (.head _)))).1, rfl, c, rfl⟩ hk0 (by omega) (by rw [← Array.getElem?_toList]; exact e1) ?_
    walk_at "my gn"
    (with_reducible rename Fr _ _ _ _ => F₅)
    (with_reducible rename News _ _ _ _ => N₅)
    obtain ⟨hq0, hq1⟩ := fmod_range (a := val.fdiv 16) (b := 4) (by decide)
    refine item4 ⟨_, (N₅ _ (.head _)).1, rfl, 0, rfl⟩ hq0 hq1 (fun v => ∃ lb t, v = .bytes (List.toArray lb) t ∧ lb ≠ [] ∧ lb.length ≤ 2) ⟨[97], _, rfl, by decide, by decide⟩ ⟨[65], _, rfl, by decide, by decide⟩ ⟨[98], _, rfl, by decide, by decide⟩ ⟨[66, 99], _, rfl, by decide, by decide⟩ ?_
    rintro _ ⟨lb, tb, rfl, hlb1, hlb2⟩
    walk_at "my gn"
    (with_reducible rename Fr _ _ _ _ => F₆)
    (with_reducible rename News _ _ _ _ => N₆)
    have hbs : (bs.size : Int) = ls.length := by rw [← Array.length_toList, ← hits.length]
    refine len_list ⟨_, (N₆ _ (.tail _ (.tail _ (.tail _ (.tail _ hmem))))).1, rfl, c', rfl⟩ (by omega) ?_
    rw [hbs]
    walk_at "my gn"
    · (with_reducible rename Fr _ _ _ _ => F₁)
      (with_reducible rename News _ _ _ _ => N₁)
      refine PySem.P.add_list (N₁ _ (.head _)).1 (N₁ _ (.tail _ (.tail _ (.tail _ (.tail _ (.tail _ hmem)))))).1 ?_ (by rw [sizeLine_eq]; simp; omega)
      dsimp only
      have F₂ := F₁.push ({ cls := .type "list", data := .seq (#[.bytes lb.toArray tb] ++ bs) } : Obj)
      have N₂ := N₁.push F₁ ({ cls := .type "list", data := .seq (#[.bytes lb.toArray tb] ++ bs) } : Obj)
      have hnlP := Heap.lt_size (N₁ _ (.tail _ (.tail _ (.tail _ (.tail _ (.head _)))))).1
      have hnlI := Heap.lt_size (N₁ _ (.tail _ (.tail _ (.head _)))).1
      dsimp only at hnlP hnlI
      revert hnlP hnlI F₂ N₂
      generalize hpe : Heap.push _ _ = h₇
      generalize hse : Array.size _ = nl
      intro F₂ N₂ hnlP hnlI
      clear F₁ N₁ hpe hse
      have N₃ : News s.heap L h₇ ((nl, PySem.W.listOf (#[.bytes lb.toArray tb] ++ bs) 0) :: (I, oI) :: (D, PySem.W.listOf ws.toArray 0) :: (P, PySem.W.listOf vs c) :: rest) := by
        intro p hp
        rcases List.mem_cons.mp hp with rfl | hp
        · exact N₂ _ (.head _)
        · exact N₂ _ (.tail _ (.tail _ (.tail _ hp)))
      clear N₂
  
      walk_at "my gn"
      have nIP : @Ne Nat I P := fun q => hnx _ (.tail _ (.head _)) q.symm
      refine append_K F₂ N₃ (.tail (fun q => absurd q (Nat.ne_of_gt hnlP)) (.tail nIP (.tail j3 (.head fun p hp => j2 p hp)))) (fun h₈ F₈ N₈ => ?_) (by rw [sizeLine_eq]; omega)
      clear F₂ N₃
      walk_at "my gn"
      refine ⟨_, _, _, (D, PySem.W.listOf ws.toArray 0) :: (P, PySem.W.listOf (vs.push (.ref nl)) (c + 1)) :: (nl, PySem.W.listOf (#[.bytes lb.toArray tb] ++ bs) 0) :: rest, rfl, F₈, ?_, ?_, P, _, _, _, lss ++ [lb :: ls], rfl, by walk_at "my look", ?_, j3, ?_, by rw [List.length_append, j5]; rfl⟩
      · intro p hp
        simp only [List.mem_cons] at hp
        rcases hp with rfl | rfl | rfl | rfl | hp
        · exact N₈ _ (.tail _ (.head _))
        · exact N₈ _ (.tail _ (.tail _ (.head _)))
        · exact N₈ _ (.tail _ (.tail _ (.tail _ (.head _))))
        · exact N₈ _ (.head _)
        · exact N₈ _ (.tail _ (.tail _ (.tail _ (.tail _ hp))))
      · intro p hp
        simp only [List.mem_cons] at hp
        rcases hp with rfl | rfl | rfl | hp
        · exact hnx _ (.head _)
        · exact Ne.symm nIP
        · exact Nat.ne_of_gt hnlI
        · exact hnx _ (.tail _ (.tail _ hp))
      · intro p hp
        rcases List.mem_cons.mp hp with rfl | hp
        · exact Nat.ne_of_gt hnlP
        · exact j2 p hp
      · rw [Array.toList_push]
        exact (j4.mono fun a o q => .tail _ q).snoc (.head _) (by rw [Array.toList_append]; exact .cons (by simp [isBytes, bytesKind]) hits) (good_cons hgood hlb1 hlb2 (by omega)) (by rw [List.length_cons]; omega)
    · (with_reducible rename Fr _ _ _ _ => F₁)
      (with_reducible rename News _ _ _ _ => N₁)
      have hnlP := Heap.lt_size (N₁ _ (.tail _ (.tail _ (.tail _ (.head _))))).1
      have hnlI := Heap.lt_size (N₁ _ (.tail _ (.head _))).1
      refine slice_list (lo := some ((1 : Nat) : Int)) (hi := none) F₁ N₁ ⟨_, (N₁ _ (.tail _ (.tail _ (.tail _ (.tail _ hmem))))).1, rfl, c', rfl⟩ (.int _ _) .none (fun h₇ F₂ N₂ => ?_)
      rw [slicePick_from'] at N₂
      dsimp only at hnlP hnlI F₂ N₂ ⊢
      revert hnlP hnlI N₂
      generalize hse : Array.size _ = nl₀
      intro hnlP hnlI N₂
      replace hnlP : P < nl₀ + 1 := Nat.lt_succ_of_lt hnlP
      replace hnlI : I < nl₀ + 1 := Nat.lt_succ_of_lt hnlI
      generalize hse1 : nl₀ + 1 = nl at *
      clear F₁ N₁ hse hse1
      have N₃ : News s.heap L h₇ ((nl, PySem.W.listOf ((bs.toList.drop 1).toArray) 0) :: (I, oI) :: (D, PySem.W.listOf ws.toArray 0) :: (P, PySem.W.listOf vs c) :: rest) := by
        intro p hp
        rcases List.mem_cons.mp hp with rfl | hp
        · exact N₂ _ (.head _)
        · exact N₂ _ (.tail _ (.tail _ hp))
      clear N₂
  
      walk_at "my gn"
      have nIP : @Ne Nat I P := fun q => hnx _ (.tail _ (.head _)) q.symm
      refine append_K F₂ N₃ (.tail (fun q => absurd q (Nat.ne_of_gt hnlP)) (.tail nIP (.tail j3 (.head fun p hp => j2 p hp)))) (fun h₈ F₈ N₈ => ?_) (by rw [sizeLine_eq]; omega)
      clear F₂ N₃
      walk_at "my gn"
      refine ⟨_, _, _, (D, PySem.W.listOf ws.toArray 0) :: (P, PySem.W.listOf (vs.push (.ref nl)) (c + 1)) :: (nl, PySem.W.listOf ((bs.toList.drop 1).toArray) 0) :: rest, rfl, F₈, ?_, ?_, P, _, _, _, lss ++ [ls.drop 1], rfl, by walk_at "my look", ?_, j3, ?_, by rw [List.length_append, j5]; rfl⟩
      · intro p hp
        simp only [List.mem_cons] at hp
        rcases hp with rfl | rfl | rfl | rfl | hp
        · exact N₈ _ (.tail _ (.head _))
        · exact N₈ _ (.tail _ (.tail _ (.head _)))
        · exact N₈ _ (.tail _ (.tail _ (.tail _ (.head _))))
        · exact N₈ _ (.head _)
        · exact N₈ _ (.tail _ (.tail _ (.tail _ (.tail _ hp))))
      · intro p hp
        simp only [List.mem_cons] at hp
        rcases hp with rfl | rfl | rfl | hp
        · exact hnx _ (.head _)
        · exact Ne.symm nIP
        · exact Nat.ne_of_gt hnlI
        · exact hnx _ (.tail _ (.tail _ hp))
      · intro p hp
        rcases List.mem_cons.mp hp with rfl | hp
        · exact Nat.ne_of_gt hnlP
        · exact j2 p hp
      · rw [Array.toList_push]
        exact (j4.mono fun a o q => .tail _ q).snoc (.head _) (by simpa using items_drop hits 1) (good_drop hgood 1) (by rw [List.length_drop]; omega)
    · (with_reducible rename Fr _ _ _ _ => F₁)
      (with_reducible rename News _ _ _ _ => N₁)
      have hnlP := Heap.lt_size (N₁ _ (.tail _ (.tail _ (.tail _ (.head _))))).1
      have hnlI := Heap.lt_size (N₁ _ (.tail _ (.head _))).1
      refine slice_list (lo := some ((1 : Nat) : Int)) (hi := none) F₁ N₁ ⟨_, (N₁ _ (.tail _ (.tail _ (.tail _ (.tail _ hmem))))).1, rfl, c', rfl⟩ (.int _ _) .none (fun h₇ F₂ N₂ => ?_)
      rw [slicePick_from'] at N₂
      dsimp only at hnlP hnlI F₂ N₂ ⊢
      revert hnlP hnlI N₂
      generalize hse : Array.size _ = nl₀
      intro hnlP hnlI N₂
      replace hnlP : P < nl₀ + 1 := Nat.lt_succ_of_lt hnlP
      replace hnlI : I < nl₀ + 1 := Nat.lt_succ_of_lt hnlI
      generalize hse1 : nl₀ + 1 = nl at *
      clear F₁ N₁ hse hse1
      have N₃ : News s.heap L h₇ ((nl, PySem.W.listOf ((bs.toList.drop 1).toArray) 0) :: (I, oI) :: (D, PySem.W.listOf ws.toArray 0) :: (P, PySem.W.listOf vs c) :: rest) := by
        intro p hp
        rcases List.mem_cons.mp hp with rfl | hp
        · exact N₂ _ (.head _)
        · exact N₂ _ (.tail _ (.tail _ hp))
      clear N₂
  
      walk_at "my gn"
      have nIP : @Ne Nat I P := fun q => hnx _ (.tail _ (.head _)) q.symm
      refine append_K F₂ N₃ (.tail (fun q => absurd q (Nat.ne_of_gt hnlP)) (.tail nIP (.tail j3 (.head fun p hp => j2 p hp)))) (fun h₈ F₈ N₈ => ?_) (by rw [sizeLine_eq]; omega)
      clear F₂ N₃
      walk_at "my gn"
      refine ⟨_, _, _, (D, PySem.W.listOf ws.toArray 0) :: (P, PySem.W.listOf (vs.push (.ref nl)) (c + 1)) :: (nl, PySem.W.listOf ((bs.toList.drop 1).toArray) 0) :: rest, rfl, F₈, ?_, ?_, P, _, _, _, lss ++ [ls.drop 1], rfl, by walk_at "my look", ?_, j3, ?_, by rw [List.length_append, j5]; rfl⟩
      · intro p hp
        simp only [List.mem_cons] at hp
        rcases hp with rfl | rfl | rfl | rfl | hp
        · exact N₈ _ (.tail _ (.head _))
        · exact N₈ _ (.tail _ (.tail _ (.head _)))
        · exact N₈ _ (.tail _ (.tail _ (.tail _ (.head _))))
        · exact N₈ _ (.head _)
        · exact N₈ _ (.tail _ (.tail _ (.tail _ (.tail _ hp))))
      · intro p hp
        simp only [List.mem_cons] at hp
        rcases hp with rfl | rfl | rfl | hp
        · exact hnx _ (.head _)
        · exact Ne.symm nIP
        · exact Nat.ne_of_gt hnlI
        · exact hnx _ (.tail _ (.tail _ hp))
      · intro p hp
        rcases List.mem_cons.mp hp with rfl | hp
        · exact Nat.ne_of_gt hnlP
        · exact j2 p hp
      · rw [Array.toList_push]
        exact (j4.mono fun a o q => .tail _ q).snoc (.head _) (by simpa using items_drop hits 1) (good_drop hgood 1) (by rw [List.length_drop]; omega)
  · intro h₂ tk₂ m₂ nx hJ F₂ N₂
    obtain ⟨P, vs, c, rest, lss, rfl, j1, j2, j3, j4, j5⟩ := hJ
    clear F₉ N₉
    walk_at "my gn"
    refine h _ _ P vs c lss F₂.keep (N₂ _ (.tail _ (.head _))).1 (j4.mono fun a o q => (N₂ _ (.tail _ (.tail _ q))).1) ?_
    have := hI.sizeZ
    rw [List.size_toArray] at this j5
    omega
end
end Mine
end
section
open PySem PySem.W PyProof.Rows PySem.Calls
namespace Mine
/-- steps of the library's walk up to a comprehension, a call of the text's own, a loop -/
local macro_rules | `(tactic| walk_at "my go") => `(tactic| repeat' (
  ((fail_if_success (with_reducible show wpAny _ _ (eval (Expr.ListComp _ _ _ _) _) _ _ _));
   (fail_if_success (with_reducible show wpAny _ _ (call (Value.ref _) _ _) _ _ _));
   (fail_if_success (with_reducible show wpAny _ _ (call (Value.type _) _ _) _ _ _));
   (fail_if_success (with_reducible show wpAny _ _ (exec (Stmt.For _ _ _ _ _) _) _ _ _));
   (fail_if_success (with_reducible show wpAny _ _ (exec (Stmt.Assign _ (Expr.ListComp _ _ _ _) _) _) _ _ _));
   (fail_if_success (with_reducible show wpAny _ _ (pyIter _) _ _ _));
   (fail_if_success (with_reducible show wpAny _ _ (getMethod (Value.ref _) (PySem.Str.ofString "values") _) _ _ _));
   (fail_if_success (with_reducible show wpAny _ _ (getMethod (Value.ref _) (PySem.Str.ofString "pop") _) _ _ _));
   (first | (k_unfold; (try dsimp only)) | walk1 | (dsimp only; walk1)))))
local macro_rules | `(tactic| k_inst) => `(tactic| exact inst_base (by k_asm) (by assumption))
/-- a name's value out of the frame's facts -/
local macro_rules | `(tactic| walk_at "my look") => `(tactic| first
  | assumption
  | exact if_pos rfl
  | exact rfl
  | (refine (if_neg (by decide)).trans ?_; walk_at "my look"))
local macro_rules | `(tactic| walk_at "eval Name") => `(tactic| (k_here; k_dflt (refine' ld ?k1 ?k2 ?_; (case k1 => k_asm); (case k2 => walk_at "my look"); k_whole)))
local macro_rules | `(tactic| walk_at "loadName") => `(tactic| (k_here; k_dflt (refine' ldn ?k1 ?k2 ?_; (case k1 => k_asm); (case k2 => walk_at "my look"); k_whole)))
local macro_rules | `(tactic| walk_at "eval Name") => `(tactic| ((with_reducible show wpAny _ _ (eval (Expr.Name _ _) (compEnvC _ _ _ _)) _ _ _); k_dflt (refine ldVarK (by assumption) (by assumption) ?_)))

section
variable {w : World} {p : Program} {loose : List Str} {mean : ExcName → Option Value} {mg mb : Str → Option Value} {A : Around} {s : Shared} {Q E : Value → Shared → Prop}
open PySem.SeqAt
theorem all_dec {α : Type} [DecidableEq α] (x y : List α) : ((List.range (min x.length y.length)).all (fun j => decide (x[j]? = y[j]?)) && (x.length == y.length)) = decide (x = y) := by
  rw [Bool.eq_iff_iff]
  simp only [Bool.and_eq_true, List.all_eq_true, List.mem_range, decide_eq_true_eq, beq_iff_eq]
  constructor
  · rintro ⟨h, hl⟩
    apply List.ext_getElem?
    intro j
    by_cases hj : j < x.length
    · exact h j (by omega)
    · rw [List.getElem?_eq_none (by omega), List.getElem?_eq_none (by omega)]
  · rintro rfl
    exact ⟨fun _ _ => rfl, rfl⟩
theorem items_nth {x : List (List UInt8)} {vs : List Value} (h : ItemsAre (bytesKind prg w) x vs) {j : Nat} {v : Value} (hv : vs[j]? = some v) : ∃ b, x[j]? = some b ∧ isBytes b v = true := by
  induction h generalizing j with
  | nil => simp at hv
  | cons a _ ih =>
    cases j with
    | zero => simp only [List.getElem?_cons_zero, Option.some.injEq] at hv ⊢; subst hv; exact ⟨_, rfl, a⟩
    | succ j => simp only [List.getElem?_cons_succ] at hv ⊢; exact ih hv
theorem eq_bytes {a b : List UInt8} {u v : Value} (h1 : isBytes a u = true) (h2 : isBytes b v = true) : EqAt A s u v (decide (a = b)) := fun prog w E Q hq => (bytesKind prog w).eqBool h1 h2 hq
theorem eq_items {x y : List (List UInt8)} {vs ws : Array Value} (hx : ItemsAre (bytesKind prg w) x vs.toList) (hy : ItemsAre (bytesKind prg w) y ws.toList) (j : Nat) (h1 : j < vs.size) (h2 : j < ws.size) : EqAt A s vs[j] ws[j] (decide (x[j]? = y[j]?)) := by
  obtain ⟨a, e1, i1⟩ := items_nth hx (j := j) (v := vs[j]) (by simp)
  obtain ⟨b, e2, i2⟩ := items_nth hy (j := j) (v := ws[j]) (by simp)
  rw [e1, e2]
  have := eq_bytes (A := A) (s := s) i1 i2
  simpa using this
theorem rc_tuple {x y : List (List UInt8)} {a b : Addr} (hx : IsTupleKey (bytesKind prg w) s.heap x a) (hy : IsTupleKey (bytesKind prg w) s.heap y b) (hu : A.units < cLine) : RcAt A s (.ref a) (.ref b) (decide (x = y)) := by
  obtain ⟨oa, xs, na, hoa, hca, hda, hia⟩ := hx
  obtain ⟨ob, ys, nb, hob, hcb, hdb, hib⟩ := hy
  have := RcAt.tuples (e := fun j => decide (x[j]? = y[j]?)) ⟨oa, hoa, hca, na, hda⟩ ⟨ob, hob, hcb, nb, hdb⟩ hu fun j h1 h2 => eq_items hia hib j h1 h2
  rw [← Array.length_toList, ← Array.length_toList, ← hia.length, ← hib.length, all_dec] at this
  exact this
theorem rcne_tuple {x y : List (List UInt8)} {a b : Addr} (hx : IsTupleKey (bytesKind prg w) s.heap x a) (hy : IsTupleKey (bytesKind prg w) s.heap y b) (hu : A.units < cLine) : RcNeAt A s (.ref a) (.ref b) (!decide (x = y)) := by
  obtain ⟨oa, xs, na, hoa, hca, hda, hia⟩ := hx
  obtain ⟨ob, ys, nb, hob, hcb, hdb, hib⟩ := hy
  have := RcNeAt.tuples (e := fun j => decide (x[j]? = y[j]?)) ⟨oa, hoa, hca, na, hda⟩ ⟨ob, hob, hcb, nb, hdb⟩ hu fun j h1 h2 => eq_items hia hib j h1 h2
  rw [← Array.length_toList, ← Array.length_toList, ← hia.length, ← hib.length, all_dec] at this
  exact this
theorem eq_lists {x y : List (List UInt8)} {a b : Addr} {xs ys : Array Value} (ha : s.heap.IsList a xs) (hb : s.heap.IsList b ys) (hx : ItemsAre (bytesKind prg w) x xs.toList) (hy : ItemsAre (bytesKind prg w) y ys.toList) (hu : A.units < cLine) : EqAt A s (.ref a) (.ref b) (decide (x = y)) := by
  by_cases hab : a = b
  · subst hab
    obtain ⟨oa, hoa, hca, na, hda⟩ := ha
    obtain ⟨ob, hob, hcb, nb, hdb⟩ := hb
    rw [hoa] at hob
    cases hob
    rw [hda] at hdb
    cases hdb
    rw [hx.inj hy, decide_eq_true rfl]
    exact EqAt.same _
  · refine EqAt.of_refs hab ?_
    by_cases hsz : xs.size = ys.size
    · have := RcAt.lists (e := fun j => decide (x[j]? = y[j]?)) ha hb hsz hu fun j h1 h2 => eq_items hx hy j h1 h2
      have e := all_dec x y
      have e1 : x.length = xs.size := by rw [hx.length, Array.length_toList]
      have e2 : y.length = ys.size := by rw [hy.length, Array.length_toList]
      rw [e1, e2, ← hsz, Nat.min_self, beq_self_eq_true, Bool.and_true] at e
      rw [← e]
      exact this
    · have e1 : x.length = xs.size := by rw [hx.length, Array.length_toList]
      have e2 : y.length = ys.size := by rw [hy.length, Array.length_toList]
      have hne : decide (x = y) = false := decide_eq_false fun e => hsz (by rw [← e1, ← e2, e])
      rw [hne]
      exact RcAt.lists_lengths ha hb (by simpa using hsz) hu
theorem rcne_match {v v' : Value} {o o' : Option (List (List UInt8) × Int)} (h : MatchAt w s.heap v o) (h' : MatchAt w s.heap v' o') (hu : A.units + 1 < cLine) : RcNeAt A s v v' (!decide (o = o')) := by
  cases o with
  | none =>
    obtain rfl := h
    cases o' with
    | none => obtain rfl := h'; exact RcNeAt.none_none
    | some p =>
      obtain ⟨r, l, u, n, vs, c, rfl, h1, _⟩ := h'
      exact RcNeAt.none_tuple ⟨_, h1, rfl, n, rfl⟩ (by omega)
  | some p =>
    obtain ⟨r, l, u, n, vs, c, rfl, h1, h2, h3⟩ := h
    cases o' with
    | none =>
      obtain rfl := h'
      exact RcNeAt.tuple_none ⟨_, h1, rfl, n, rfl⟩ (by omega)
    | some p' =>
      obtain ⟨r', l', u', n', vs', c', rfl, h1', h2', h3'⟩ := h'
      have := RcNeAt.tuples (A := A) (e := fun j => if j = 0 then decide (p.1 = p'.1) else p.2 == p'.2) ⟨_, h1, rfl, n, rfl⟩ ⟨_, h1', rfl, n', rfl⟩ (by omega) (fun j i1 i2 => by
        have : j = 0 ∨ j = 1 := by have : j < 2 := i1; omega
        rcases this with rfl | rfl
        · exact eq_lists ⟨_, h2, rfl, c, rfl⟩ ⟨_, h2', rfl, c', rfl⟩ h3 h3' (show A.units + 1 < cLine by omega)
        · exact EqAt.int_int _ _ _ _)
      have e : ((List.range 2).all (fun j => if j = 0 then decide (p.1 = p'.1) else p.2 == p'.2) && (2 : Nat) == 2) = decide (some p = some p') := by
        obtain ⟨a, b⟩ := p
        obtain ⟨a', b'⟩ := p'
        rw [Bool.eq_iff_iff]
        simp [List.range, List.range.loop]
      rw [← e]
      exact this
theorem cmp_eq {v v' : Value} {b : Bool} (h : RcAt A s v v' b) (hq : Q (.bool b) s) : wpAny (model prg w) A (compareOp .Eq v v') Q E s := h prg w E Q hq
theorem cmp_ne {v v' : Value} {b : Bool} (h : RcNeAt A s v v' b) (hq : Q (.bool b) s) : wpAny (model prg w) A (compareOp .NotEq v v') Q E s := h prg w E Q hq
end
end Mine
end
section
open PySem PySem.W PyProof.Rows PySem.Calls
namespace Mine
/-- steps of the library's walk up to a comprehension, a call of the text's own, a loop -/
local macro_rules | `(tactic| walk_at "my go") => `(tactic| repeat' (
  ((fail_if_success (with_reducible show wpAny _ _ (eval (Expr.ListComp _ _ _ _) _) _ _ _));
   (fail_if_success (with_reducible show wpAny _ _ (call (Value.ref _) _ _) _ _ _));
   (fail_if_success (with_reducible show wpAny _ _ (call (Value.type _) _ _) _ _ _));
   (fail_if_success (with_reducible show wpAny _ _ (exec (Stmt.For _ _ _ _ _) _) _ _ _));
   (fail_if_success (with_reducible show wpAny _ _ (exec (Stmt.Assign _ (Expr.ListComp _ _ _ _) _) _) _ _ _));
   (fail_if_success (with_reducible show wpAny _ _ (pyIter _) _ _ _));
   (fail_if_success (with_reducible show wpAny _ _ (getMethod (Value.ref _) (PySem.Str.ofString "values") _) _ _ _));
   (fail_if_success (with_reducible show wpAny _ _ (getMethod (Value.ref _) (PySem.Str.ofString "pop") _) _ _ _));
   (first | (k_unfold; (try dsimp only)) | walk1 | (dsimp only; walk1)))))
local macro_rules | `(tactic| k_inst) => `(tactic| exact inst_base (by k_asm) (by assumption))
/-- a name's value out of the frame's facts -/
local macro_rules | `(tactic| walk_at "my look") => `(tactic| first
  | assumption
  | exact if_pos rfl
  | exact rfl
  | (refine (if_neg (by decide)).trans ?_; walk_at "my look"))
local macro_rules | `(tactic| walk_at "eval Name") => `(tactic| (k_here; k_dflt (refine' ld ?k1 ?k2 ?_; (case k1 => k_asm); (case k2 => walk_at "my look"); k_whole)))
local macro_rules | `(tactic| walk_at "loadName") => `(tactic| (k_here; k_dflt (refine' ldn ?k1 ?k2 ?_; (case k1 => k_asm); (case k2 => walk_at "my look"); k_whole)))
local macro_rules | `(tactic| walk_at "eval Name") => `(tactic| ((with_reducible show wpAny _ _ (eval (Expr.Name _ _) (compEnvC _ _ _ _)) _ _ _); k_dflt (refine ldVarK (by assumption) (by assumption) ?_)))

section
variable {w : World} {p : Program} {loose : List Str} {mean : ExcName → Option Value} {mg mb : Str → Option Value} {A : Around} {s : Shared} {Q E : Value → Shared → Prop}
inductive RowsAre (w : World) (M : Addr → Obj → Prop) : List Value → List (List (List UInt8) × Int) → Prop
  | nil : RowsAre w M [] []
  | cons {pa t : Addr} {u : Tok} {n : Nat} {k : List (List UInt8)} {v : Int} {vs rows} : M pa { cls := .type "tuple", data := .seq #[.ref t, .int v u] n } → (∃ ot items n', M t ot ∧ ot.cls = .type "tuple" ∧ ot.data = .seq items n' ∧ ItemsAre (bytesKind prg w) k items.toList) → RowsAre w M vs rows → RowsAre w M (.ref pa :: vs) ((k, v) :: rows)
theorem RowsAre.mono {M M' : Addr → Obj → Prop} {vs : List Value} {rows : List (List (List UInt8) × Int)} (x : RowsAre w M vs rows) (k : ∀ a o, M a o → M' a o) : RowsAre w M' vs rows := by
  induction x with
  | nil => exact .nil
  | cons a b _ ih => exact .cons (k _ _ a) (let ⟨ot, i, n, q, r⟩ := b; ⟨ot, i, n, k _ _ q, r⟩) ih
theorem RowsAre.length {M : Addr → Obj → Prop} {vs : List Value} {rows : List (List (List UInt8) × Int)} (x : RowsAre w M vs rows) : vs.length = rows.length := by
  induction x with
  | nil => rfl
  | cons _ _ _ ih => simp only [List.length_cons, ih]
theorem RowsAre.nth {M : Addr → Obj → Prop} {vs : List Value} {rows : List (List (List UInt8) × Int)} (x : RowsAre w M vs rows) {i : Nat} {v : Value} (hv : vs[i]? = some v) :
    ∃ pa t u n k z, v = .ref pa ∧ rows[i]? = some (k, z) ∧ M pa { cls := .type "tuple", data := .seq #[.ref t, .int z u] n } ∧ ∃ ot items n', M t ot ∧ ot.cls = .type "tuple" ∧ ot.data = .seq items n' ∧ ItemsAre (bytesKind prg w) k items.toList := by
  induction x generalizing i with
  | nil => simp at hv
  | cons a b _ ih =>
    cases i with
    | zero => simp only [List.getElem?_cons_zero, Option.some.injEq] at hv ⊢; subst hv; exact ⟨_, _, _, _, _, _, rfl, rfl, a, b⟩
    | succ i => simp only [List.getElem?_cons_succ] at hv ⊢; exact ih hv

def rowFind (rows : List (List (List UInt8) × Int)) (k : List (List UInt8)) : Option Int := (rows.find? fun r => decide (r.1 = k)).map (·.2)
noncomputable def dueFrom (rows : List (List (List UInt8) × Int)) (ls : List (List UInt8)) : Nat → Option (List (List UInt8) × Int)
  | 0 => (rowFind rows []).map fun v => ([], v)
  | k + 1 => match rowFind rows (low (ls.drop (ls.length - (k + 1)))) with
    | some v => some (ls.drop (ls.length - (k + 1)), v)
    | none => dueFrom rows ls k

theorem rowFind_hit {rows : List (List (List UInt8) × Int)} {j : Nat} {k : List (List UInt8)} {z : Int} (h : rows[j]? = some (k, z)) : rowFind (rows.drop j) k = some z := by
  obtain ⟨hj, e⟩ := List.getElem?_eq_some_iff.mp h
  rw [List.drop_eq_getElem_cons hj, e]
  simp [rowFind]
theorem rowFind_skip {rows : List (List (List UInt8) × Int)} {j : Nat} {k kk : List (List UInt8)} {z : Int} (h : rows[j]? = some (kk, z)) (hk : kk ≠ k) : rowFind (rows.drop j) k = rowFind (rows.drop (j + 1)) k := by
  obtain ⟨hj, e⟩ := List.getElem?_eq_some_iff.mp h
  rw [List.drop_eq_getElem_cons hj, e]
  simp [rowFind, hk]
theorem due_ok {R l : Addr} {rv lv : Array Value} {rows : List (List (List UInt8) × Int)} {ls : List (List UInt8)} (T : Top p loose mean mg mb s.heap) (hh : A.handled = none) (hdp : A.depth + 6 < recursionLimit) (hun : A.units + 60 < cLine)
    (hR : s.heap.IsList R rv) (hrows : RowsAre w (fun a o => s.heap.get? a = some o) rv.toList rows) (hrl : rows.length ≤ 100) (hl : s.heap.IsList l lv) (hi : ItemsAre (bytesKind prg w) ls lv.toList) (hg : Good ls)
    (h : ∀ h' tk' v, Ext s.heap h' → MatchAt w h' v (dueFrom rows ls ls.length) → Q v { s with heap := h', toks := tk' }) :
    (hd.heap_39 w.params).In s.heap → wpAny (model PySem.Challenge.rw_ab5010_01.row.prog w) A (call (.ref 625) [.ref R, .ref l]) Q E s := by
  k_fill
  intro X
  k_dflt (refine enterP X T.nolimit (by k_is) (by k_is) (by omega) (BindsTo.of_eq rfl) (locs rfl) (by decide) rfl rfl rfl ?_)
  intro L h₁ tk₁ F
  have N : News s.heap L h₁ [] := News.nil
  obtain ⟨m₀, F, q₁, q₂⟩ : ∃ m₀, Fr s.heap L h₁ m₀ ∧ m₀ (Str.ofString "rows") = some (.ref R) ∧ m₀ (Str.ofString "labels") = some (.ref l) := ⟨_, F, rfl, rfl⟩
  have hlen := hg.len
  have hls : (lv.size : Int) = ls.length := by rw [← Array.length_toList, ← hi.length]
  have hrs : (rv.size : Int) = rows.length := by rw [← Array.length_toList, hrows.length]
  walk_at "my go"
  refine for_head ?_
  walk_at "my go"
  rw [hls]
  refine range1_rows F N fun h₂ tk₂ t₁ u₁ v₁ hr F₂ N₂ he₂ => ?_
  refine for_range (n := ls.length) (fun i m nx => m (Str.ofString "rows") = some (.ref R) ∧ m (Str.ofString "labels") = some (.ref l) ∧ nx = [] ∧ dueFrom rows ls ls.length = dueFrom rows ls (ls.length - i)) hh hr (small_one (by decide) (by decide) (by omega) (by omega)) (by rw [rangeSize_nat]; omega) F₂ News.nil ⟨by walk_at "my look", by walk_at "my look", rfl, rfl⟩ ?_ ?_
  · intro I i ti m₁ nx h₃ tk₃ oI hi' hJ hnx hIt F₃ N₃
    obtain ⟨j1, j2, rfl, j4⟩ := hJ
    rw [show ((0 : Int) + (i : Int)) = ((i : Nat) : Int) by omega]
    refine turn_name F₃ N₃ fun h₄ F₄ N₄ => ?_
    clear F₃ N₃ F₂ N₂ F N hr he₂ hIt
    walk_at "my go"
    refine for_head ?_
    walk_at "my go"
    generalize hsuf : ls.drop i = suf at *
    have hgs : Good suf := hsuf ▸ good_drop hg _
    have hsi : ItemsAre (bytesKind prg w) suf (lv.toList.drop i) := hsuf ▸ items_drop hi i
    obtain ⟨oR, hoR, hoRr⟩ := id hR
    refine for_list (items := rv) (src := []) (fun j m nx => m (Str.ofString "rows") = some (.ref R) ∧ m (Str.ofString "labels") = some (.ref l) ∧ m (Str.ofString "k") = some (.int (i : Int) ti) ∧ nx = [(I, oI)] ∧ rowFind rows (low suf) = rowFind (rows.drop j) (low suf)) hh ⟨oR, F₄.keep _ _ hoR, hoRr⟩ (.inl ⟨oR, hoR⟩) (fun _ _ _ _ _ hp => by cases hp) F₄ N₄ ⟨by walk_at "my look", by walk_at "my look", by walk_at "my look", rfl, rfl⟩ ?_ ?_
    · intro I₂ j v m₂ nx h₅ tk₅ oI₂ hj hv hJ hnx₂ hIt₂ F₅ N₅
      obtain ⟨k1, k2, k3, rfl, k5⟩ := hJ
      obtain ⟨pa, t, u, n, kk, z, rfl, hrj, hpa, ot, items, n', hot, hotc, hotd, hoti⟩ := hrows.nth (i := j) (v := v) (by rw [Array.getElem?_toList]; exact hv)
      obtain ⟨oi, hoi, hoic, hoid⟩ := hIt₂
      have hI₂ : @Ne Nat I I₂ := hnx₂ _ (.head _)
      refine turn_pair hh hoi hoic hoid (by decide) ⟨_, F₅.keep _ _ hpa, rfl, n, rfl⟩ F₅ N₅ fun h₆ tk₆ F₆ N₆ _ => ?_
      clear F₅ N₅ F₄ N₄ hoi
      change Fr s.heap L h₆ _ at F₆
      change News s.heap L h₆ _ at N₆
      walk_at "my go"
      (with_reducible rename Fr _ _ _ _ => F₇)
      (with_reducible rename News _ _ _ _ => N₇)
      clear F₆ N₆
      rw [slicePick_from'] at N₇
      refine lawlow_ok (T.keeps F₇.keep) hh (by show A.depth + 1 + 5 < recursionLimit; omega) ⟨lv.toList.drop i, .inl ⟨_, (N₇ _ (.head _)).1, rfl, 0, rfl⟩, hsi⟩ hgs.short hgs.len (fun h₈ tk₈ t₈ he₈ ht₈ _ => ?_) (X.keeps F₇.keep)
      have F₈ := F₇.keeps he₈
      have N₈ : News s.heap L h₈ [(I₂, oI₂), (I, oI)] := fun p hp => news_keeps N₇ he₈ p (.tail _ hp)
      clear F₇ N₇
      walk_at "my go"
      refine cmp_eq (rc_tuple ⟨ot, items, n', F₈.keep _ _ hot, hotc, hotd, hoti⟩ ht₈ (show A.units + 3 < cLine by omega)) ?_
      by_cases hk : kk = low suf
      · rw [decide_eq_true hk]
        walk_at "my go"
        (with_reducible rename Fr _ _ _ _ => F₉)
        (with_reducible rename News _ _ _ _ => N₉)
        rw [slicePick_from'] at N₉
        have hv : dueFrom rows ls ls.length = some (suf, z) := by
          rw [j4]
          obtain ⟨k', hk'⟩ : ∃ k', ls.length - i = k' + 1 := ⟨ls.length - i - 1, by omega⟩
          rw [hk', dueFrom, show ls.length - (k' + 1) = i by omega, hsuf, k5, ← hk, rowFind_hit hrj]
        rw [hv] at h
        exact h _ _ _ F₉.keep ⟨_, _, _, _, _, _, rfl, (N₉ _ (.head _)).1, (N₉ _ (.tail _ (.head _))).1, by simpa using hsi⟩
      · rw [decide_eq_false hk]
        walk_at "my go"
        refine ⟨_, _, _, _, rfl, F₈, N₈, fun p hp => by rw [List.mem_singleton.mp hp]; exact hI₂, by walk_at "my look", by walk_at "my look", by walk_at "my look", rfl, ?_⟩
        rw [k5, rowFind_skip hrj hk]
    · intro h₅ tk₅ m₂ nx hJ F₅ N₅
      obtain ⟨k1, k2, k3, rfl, k5⟩ := hJ
      walk_at "my go"
      refine ⟨_, _, _, _, rfl, F₅, N₅, hnx, by walk_at "my look", by walk_at "my look", rfl, ?_⟩
      rw [j4]
      obtain ⟨k', hk'⟩ : ∃ k', ls.length - i = k' + 1 := ⟨ls.length - i - 1, by omega⟩
      rw [hk', dueFrom, show ls.length - (k' + 1) = i by omega, hsuf, k5, show ls.length - (i + 1) = k' by omega]
      rw [List.drop_eq_nil_of_le (by omega)]
      rfl
  · intro h₃ tk₃ m₁ nx hJ F₃ N₃
    obtain ⟨j1, j2, rfl, j4⟩ := hJ
    clear F₂ N₂ F N hr he₂
    rw [Nat.sub_self] at j4
    rw [j4] at h
    walk_at "my go"
    refine for_head ?_
    walk_at "my go"
    obtain ⟨oR, hoR, hoRr⟩ := id hR
    refine for_list (items := rv) (src := []) (fun j m nx => m (Str.ofString "rows") = some (.ref R) ∧ nx = [] ∧ rowFind rows [] = rowFind (rows.drop j) []) hh ⟨oR, F₃.keep _ _ hoR, hoRr⟩ (.inl ⟨oR, hoR⟩) (fun _ _ _ _ _ hp => by cases hp) F₃ N₃ ⟨by walk_at "my look", rfl, rfl⟩ ?_ ?_
    · intro I₂ j v m₂ nx h₅ tk₅ oI₂ hj hv hJ hnx₂ hIt₂ F₅ N₅
      obtain ⟨k1, rfl, k5⟩ := hJ
      obtain ⟨pa, t, u, n, kk, z, rfl, hrj, hpa, ot, items, n', hot, hotc, hotd, hoti⟩ := hrows.nth (i := j) (v := v) (by rw [Array.getElem?_toList]; exact hv)
      obtain ⟨oi, hoi, hoic, hoid⟩ := hIt₂
      refine turn_pair hh hoi hoic hoid (by decide) ⟨_, F₅.keep _ _ hpa, rfl, n, rfl⟩ F₅ N₅ fun h₆ tk₆ F₆ N₆ _ => ?_
      clear F₅ N₅ F₃ N₃ hoi
      change Fr s.heap L h₆ _ at F₆
      change News s.heap L h₆ _ at N₆
      walk_at "my go"
      (with_reducible rename Fr _ _ _ _ => F₇)
      (with_reducible rename News _ _ _ _ => N₇)
      refine cmp_eq (rc_tuple (x := kk) (y := []) ⟨ot, items, n', F₇.keep _ _ hot, hotc, hotd, hoti⟩ ⟨_, _, 0, (N₇ _ (.head _)).1, rfl, rfl, .nil⟩ (show A.units + 3 < cLine by omega)) ?_
      by_cases hk : kk = []
      · rw [decide_eq_true hk]
        subst hk
        walk_at "my go"
        (with_reducible rename Fr _ _ _ _ => F₉)
        (with_reducible rename News _ _ _ _ => N₉)
        rw [dueFrom, k5, rowFind_hit hrj] at h
        exact h _ _ _ F₉.keep ⟨_, _, _, _, _, _, rfl, (N₉ _ (.head _)).1, (N₉ _ (.tail _ (.head _))).1, .nil⟩
      · rw [decide_eq_false hk]
        walk_at "my go"
        refine ⟨_, _, _, [], rfl, F₇, fun p hp => N₇ p (.tail _ hp), fun p hp => (nomatch hp), by walk_at "my look", rfl, ?_⟩
        rw [k5, rowFind_skip hrj hk]
    · intro h₅ tk₅ m₂ nx hJ F₅ N₅
      obtain ⟨k1, rfl, k5⟩ := hJ
      walk_at "my go"
      rw [dueFrom, k5, List.drop_eq_nil_of_le (by omega)] at h
      exact h _ _ _ F₅.keep rfl
end
end Mine
end
section
open PySem PySem.W PyProof.Rows PySem.Calls
namespace Mine
/-- steps of the library's walk up to a comprehension, a call of the text's own, a loop -/
local macro_rules | `(tactic| walk_at "my go") => `(tactic| repeat' (
  ((fail_if_success (with_reducible show wpAny _ _ (eval (Expr.ListComp _ _ _ _) _) _ _ _));
   (fail_if_success (with_reducible show wpAny _ _ (call (Value.ref _) _ _) _ _ _));
   (fail_if_success (with_reducible show wpAny _ _ (call (Value.type _) _ _) _ _ _));
   (fail_if_success (with_reducible show wpAny _ _ (exec (Stmt.For _ _ _ _ _) _) _ _ _));
   (fail_if_success (with_reducible show wpAny _ _ (exec (Stmt.Assign _ (Expr.ListComp _ _ _ _) _) _) _ _ _));
   (fail_if_success (with_reducible show wpAny _ _ (pyIter _) _ _ _));
   (fail_if_success (with_reducible show wpAny _ _ (getMethod (Value.ref _) (PySem.Str.ofString "values") _) _ _ _));
   (fail_if_success (with_reducible show wpAny _ _ (getMethod (Value.ref _) (PySem.Str.ofString "pop") _) _ _ _));
   (first | (k_unfold; (try dsimp only)) | walk1 | (dsimp only; walk1)))))
local macro_rules | `(tactic| k_inst) => `(tactic| exact inst_base (by k_asm) (by assumption))
/-- a name's value out of the frame's facts -/
local macro_rules | `(tactic| walk_at "my look") => `(tactic| first
  | assumption
  | exact if_pos rfl
  | exact rfl
  | (refine (if_neg (by decide)).trans ?_; walk_at "my look"))
local macro_rules | `(tactic| walk_at "eval Name") => `(tactic| (k_here; k_dflt (refine' ld ?k1 ?k2 ?_; (case k1 => k_asm); (case k2 => walk_at "my look"); k_whole)))
local macro_rules | `(tactic| walk_at "loadName") => `(tactic| (k_here; k_dflt (refine' ldn ?k1 ?k2 ?_; (case k1 => k_asm); (case k2 => walk_at "my look"); k_whole)))
local macro_rules | `(tactic| walk_at "eval Name") => `(tactic| ((with_reducible show wpAny _ _ (eval (Expr.Name _ _) (compEnvC _ _ _ _)) _ _ _); k_dflt (refine ldVarK (by assumption) (by assumption) ?_)))

section
variable {w : World} {p : Program} {loose : List Str} {mean : ExcName → Option Value} {mg mb : Str → Option Value} {A : Around} {s : Shared} {Q E : Value → Shared → Prop}
theorem typeCall_dict_0 : checkTypeCall "dict" ⟨[], []⟩ = pure () := by kernel_rfl
theorem newCall_dict_0 : checkBuiltinCall "dict.__new__" ⟨[.type "dict"], []⟩ = pure () := by kernel_rfl
theorem code_dict_new {Q₁ : Value → Shared → Prop} (h : Q₁ (.ref s.heap.objs.size) { s with heap := s.heap.push { cls := .type "dict", data := .dict #[] } }) :
    codeAny (model prg w) A (.call (.builtin "dict.__new__") ⟨[.type "dict"], []⟩) (wants Q₁ E) s := by
  refine codeAny_call_builtin F.kt_plain_dict_new F.kt_entry_dict_new (wpAny_of_eq newCall_dict_0 ?_)
  have hsub := F.kt_sub_dict
  have hmro := F.kt_mro_dict
  obtain ⟨hp, g, d, tk, os⟩ := s
  unfold Builtin.«dict.__new__»
  wp_walk
  exact h
theorem call_dict0 (h : Q (.ref s.heap.objs.size) { s with heap := s.heap.push { cls := .type "dict", data := .dict #[] } }) : wpAny (model prg w) A (call (.type "dict") []) Q E s := by
  refine callType_codes (Q₁ := fun obj s₁ => obj = .ref s.heap.objs.size ∧ s₁ = { s with heap := s.heap.push { cls := .type "dict", data := .dict #[] } }) F.kt_called_dict typeCall_dict_0 F.entry_dict_init (code_dict_new ⟨rfl, rfl⟩) ?_
  rintro obj s₁ ⟨rfl, rfl⟩
  have hnew : (s.heap.push { cls := .type "dict", data := .dict #[] }).DictOfH (TK w) s.heap.objs.size [] := Heap.DictOfH.new s.heap
  refine ⟨Heap.DictOfH.typeIs (s := { s with heap := s.heap.push { cls := .type "dict", data := .dict #[] } }) hnew, F.args_dict_init_1 _, ?_⟩
  unfold Builtin.«dict.__init__»
  refine wpAny_bind ?_
  unfold Builtin.Dict.selfAndRest
  refine wpAny_bind (wpAny_notOrdered_dict (Heap.DictOfH.typeIs (s := { s with heap := s.heap.push { cls := .type "dict", data := .dict #[] } }) hnew) ?_)
  show wpAny _ _ (pure (s.heap.objs.size, [])) _ _ _
  refine wpAny_pure ?_
  show wpAny _ _ (Builtin.Dict.addKeywords s.heap.objs.size [] >>= fun _ => ret .none) _ _ _
  exact wpAny_bind (wpAny_pure (wpAny_pure ⟨rfl, h⟩))
theorem enterV {w : World} {A : Around} {s : Shared} {R : Result → Shared → Prop} {K : Frag} {name qual : Str} {params : Arguments} {body : List Stmt} {scope : Scope} {dV kV doc pm cdv ct oc : Value} {an od : Option Addr} {osl : Array (Option Value)} {f : Addr} {args : Args} {binds : Addr → Addr → List (Str × Value)}
    (X : K.In s.heap) (hlim : s.heap.NoLimit)
    (ho : K.lookup f = some ⟨oc, od, .func (fnOf name qual params body scope dV kV doc pm an cdv ct), osl⟩) (hcd : codeIn K cdv qual = true) (hroom : A.depth < recursionLimit)
    (hbind : ∀ (M : Model) (B : Around) (E : Value → Shared → Prop) (Q : List (Str × Value) → Shared → Prop), (∀ C D h', Ext s.heap h' → s.heap.objs.size ≤ h'.objs.size → Q (binds C D) { s with heap := h' }) → wpAny M B (bindArgs (fnOf name qual params body scope dV kV doc pm an cdv ct) args) Q E s)
    (hloc : ∀ C D, ∀ y ∈ binds C D, scope.names.lookup y.1 = some .local)
    (hcell : ∀ x ∈ scope.names, x.2 ≠ .cell) (hco : scope.isCoroutine = false) (hgen : scope.isGenerator = false) (hk : scope.kind = .function)
    (h : ∀ C D L h₁ tk, Fr s.heap L h₁ (fun y => (binds C D).reverse.lookup y) →
      wpAny (model prg w) (A.deeper (envOf qual scope L f cdv)) (execs body (envOf qual scope L f cdv))
        (fun fl s' => R (.ok (.ret (match fl with | .ret v => v | _ => .none))) s') (fun _ _ => False)
        { s with heap := h₁, toks := tk }) :
    codeAny (model prg w) A (.call (.ref f) args) R s := by
  refine codeAny_call_function (fd := fnOf name qual params body scope dV kV doc pm an cdv ct) (body := body) hroom (X _ _ ho) rfl hco hgen rfl (codeRec_of X hcd) ?_
  refine hbind _ _ _ _ fun C D h' he hz => ?_
  refine wpAny_newFunctionEnv hcell (hloc C D) (fun h₁ hns hsb => ⟨(hlim.keeps he).fresh _ hsb, codeAny_func ?_⟩) hk
  have hk₁ : ∀ b o, h'.get? b = some o → h₁.get? b = some o := fun b o e => hsb.extBut b o (Nat.ne_of_lt (Heap.lt_size e)) (Heap.get?_push_of_some _ e)
  exact wpAny_mono (h C D h'.objs.size h₁ _ ⟨hns, fun b o e => hk₁ b o (he b o e), hz⟩) (fun _ _ x => x) fun _ _ x => x.elim

theorem ctor_ok (T : Top p loose mean mg mb s.heap) (hh : A.handled = none) (hdp : A.depth + 5 < recursionLimit)
    (h : ∀ h' tk' nd dx d, Ext s.heap h' → DictAt w h' nd dx d [] 0 0 → s.heap.get? nd = none → s.heap.get? dx = none → s.heap.get? d = none → Q (.ref nd) { s with heap := h', toks := tk' }) :
    (hd.heap_39 w.params).In s.heap → wpAny (model PySem.Challenge.rw_ab5010_01.row.prog w) A (call (.ref 588) []) Q E s := by
  k_fill
  intro X
  refine wpAny_call (make_H X (by k_is) (by k_is) (by k_is) ?_)
  have e0 : Ext s.heap ((s.heap.push (PySem.W.dictOf [] 0)).push (instObj 588 s.heap.objs.size)) := (Ext.push _).trans (Ext.push _)
  have X₁ : (hd.heap_39 w.params).In ((s.heap.push (PySem.W.dictOf [] 0)).push (instObj 588 s.heap.objs.size)) := X.keeps e0
  have hdep : (A.under (.builtin "type.__call__" ⟨[.ref 588], []⟩)).depth = A.depth + 1 := rfl
  k_dflt (refine enterV (binds := fun C D => [(Str.ofString "self", .ref (s.heap.objs.size + 1)), (Str.ofString "args", .ref C), (Str.ofString "kwargs", .ref D)]) X₁ (T.nolimit.keeps e0) (by k_is) (by k_is) (by rw [hdep]; omega) (fun M B E' Q' hq => ?_) (fun C D => locs rfl) (by decide) rfl rfl rfl ?_)
  · show wpAny M B (newTuple [] >>= fun v => (alloc { cls := .type "dict", data := .dict #[] } >>= fun d => pure [(Str.ofString "self", .ref (s.heap.objs.size + 1)), (Str.ofString "args", v), (Str.ofString "kwargs", .ref d)])) Q' E' _
    refine wpAny_bind (wpAny_newTuple ?_)
    refine wpAny_bind (wpAny_alloc (wpAny_pure ?_))
    exact hq _ _ _ ((Ext.push _).trans (Ext.push _)) (by simp only [Heap.size_push]; omega)
  intro Ca Da L h₁ tk₁ F₁
  have hx1 := F₁.keep _ _ (Heap.get?_push_size (h := s.heap.push (PySem.W.dictOf [] 0)) (o := instObj 588 s.heap.objs.size) rfl)
  have hdx1 := F₁.keep _ _ (Heap.get?_push_of_some (instObj 588 s.heap.objs.size) (Heap.get?_push_size (h := s.heap) (o := PySem.W.dictOf [] 0) rfl))
  have F := fr_base F₁ (fun b o e => e0 b o e) (by simp only [Heap.size_push]; omega)
  have hLx : s.heap.objs.size + 1 < L := by have := F₁.above; simp only [Heap.size_push] at this; omega
  rw [Heap.size_push] at hx1
  clear F₁
  generalize hdxe : s.heap.objs.size = dx at *
  generalize hxe : dx + 1 = x at *
  have N : News s.heap L h₁ [(x, instObj 588 dx), (dx, PySem.W.dictOf [] 0)] := by
    intro q hq
    simp only [List.mem_cons, List.not_mem_nil, or_false] at hq
    rcases hq with rfl | rfl
    · exact ⟨hx1, by show x ≠ L; omega, get_none_of_size (by omega)⟩
    · exact ⟨hdx1, by show dx ≠ L; omega, get_none_of_size (by omega)⟩
  walk_at "my go"
  refine call_dict0 ?_
  have hnm := F.notModules (modules_low T.nolimit)
  have F₂ := F.push ({ cls := .type "dict", data := .dict #[] } : Obj)
  have N₂ := N.push F ({ cls := .type "dict", data := .dict #[] } : Obj)
  have l1 := Heap.lt_size (N _ (.head _)).1
  have l2 := Heap.lt_size (N _ (.tail _ (.head _))).1
  have l3 : @Ne Nat x dx := by omega
  dsimp only at F₂ N₂ l1 l2 ⊢
  revert F₂ N₂ l1 l2 hnm
  generalize hpe : Heap.push _ _ = h₂
  generalize hse : Array.size _ = d
  intro hnm F₂ N₂ l1 l2
  clear F N hx1 hdx1 hpe hse
  have n1 : @Ne Nat d dx := Nat.ne_of_gt l2
  have n2 : @Ne Nat d x := Nat.ne_of_gt l1
  walk_at "my go"
  (with_reducible rename Fr _ _ _ _ => F₅)
  (with_reducible rename News _ _ _ _ => N₅)
  exact ⟨rfl, h _ _ x dx d F₅.keep (dictat_mk (N₅ _ (.tail _ (.head _))).1 (N₅ _ (.tail _ (.tail _ (.head _)))).1 (show Heap.DictOfH (TK w) _ d [] from ⟨_, #[], 0, (N₅ _ (.head _)).1, ⟨rfl, rfl, rfl⟩, rfl, rfl, (fun _ hx => by simp at hx), List.nodup_nil⟩) .nil hnm) (N₅ _ (.tail _ (.head _))).2.2 (N₅ _ (.tail _ (.tail _ (.head _)))).2.2 (N₅ _ (.head _)).2.2⟩
end
end Mine
end
section
open PySem PySem.W PyProof.Rows PySem.Calls
namespace Mine
/-- steps of the library's walk up to a comprehension, a call of the text's own, a loop -/
local macro_rules | `(tactic| walk_at "my go") => `(tactic| repeat' (
  ((fail_if_success (with_reducible show wpAny _ _ (eval (Expr.ListComp _ _ _ _) _) _ _ _));
   (fail_if_success (with_reducible show wpAny _ _ (call (Value.ref _) _ _) _ _ _));
   (fail_if_success (with_reducible show wpAny _ _ (call (Value.type _) _ _) _ _ _));
   (fail_if_success (with_reducible show wpAny _ _ (exec (Stmt.For _ _ _ _ _) _) _ _ _));
   (fail_if_success (with_reducible show wpAny _ _ (exec (Stmt.Assign _ (Expr.ListComp _ _ _ _) _) _) _ _ _));
   (fail_if_success (with_reducible show wpAny _ _ (pyIter _) _ _ _));
   (fail_if_success (with_reducible show wpAny _ _ (getMethod (Value.ref _) (PySem.Str.ofString "values") _) _ _ _));
   (fail_if_success (with_reducible show wpAny _ _ (getMethod (Value.ref _) (PySem.Str.ofString "pop") _) _ _ _));
   (first | (k_unfold; (try dsimp only)) | walk1 | (dsimp only; walk1)))))
local macro_rules | `(tactic| k_inst) => `(tactic| exact inst_base (by k_asm) (by assumption))
/-- a name's value out of the frame's facts -/
local macro_rules | `(tactic| walk_at "my look") => `(tactic| first
  | assumption
  | exact if_pos rfl
  | exact rfl
  | (refine (if_neg (by decide)).trans ?_; walk_at "my look"))
local macro_rules | `(tactic| walk_at "eval Name") => `(tactic| (k_here; k_dflt (refine' ld ?k1 ?k2 ?_; (case k1 => k_asm); (case k2 => walk_at "my look"); k_whole)))
local macro_rules | `(tactic| walk_at "loadName") => `(tactic| (k_here; k_dflt (refine' ldn ?k1 ?k2 ?_; (case k1 => k_asm); (case k2 => walk_at "my look"); k_whole)))
local macro_rules | `(tactic| walk_at "eval Name") => `(tactic| ((with_reducible show wpAny _ _ (eval (Expr.Name _ _) (compEnvC _ _ _ _)) _ _ _); k_dflt (refine ldVarK (by assumption) (by assumption) ?_)))

section
variable {w : World} {p : Program} {loose : List Str} {mean : ExcName → Option Value} {mg mb : Str → Option Value} {A : Around} {s : Shared} {Q E : Value → Shared → Prop}
theorem snap {g h : Heap} {L : Addr} {m : Str → Option Value} (F : Fr g L h m) (S : List Addr) : ∃ rest : List (Addr × Obj), News g L h rest ∧ (∀ p ∈ rest, p.1 ∉ S) ∧ ∀ a o, a ≠ L → a ∉ S → h.get? a = some o → g.get? a = some o ∨ (a, o) ∈ rest := by
  refine ⟨(List.range h.objs.size).filterMap fun a => if a = L ∨ a ∈ S ∨ (g.get? a).isSome = true then none else (h.get? a).map fun o => (a, o), fun p hp => ?_, fun p hp => ?_, fun a o h1 h2 e => ?_⟩
  · obtain ⟨a, _, ha⟩ := List.mem_filterMap.mp hp
    split at ha
    · cases ha
    · rename_i hc
      cases e : h.get? a with
      | none => rw [e] at ha; cases ha
      | some o =>
        rw [e] at ha
        cases ha
        refine ⟨e, fun q => hc (.inl q), ?_⟩
        cases q : g.get? a with
        | none => rfl
        | some o' => exact absurd (.inr (.inr (by rw [q]; rfl))) hc
  · obtain ⟨a, _, ha⟩ := List.mem_filterMap.mp hp
    split at ha
    · cases ha
    · rename_i hc
      cases e : h.get? a with
      | none => rw [e] at ha; cases ha
      | some o =>
        rw [e] at ha
        cases ha
        exact fun q => hc (.inr (.inl q))
  · cases q : g.get? a with
    | some o' =>
      have := F.keep _ _ q
      rw [e] at this
      cases this
      exact .inl rfl
    | none =>
      refine .inr (List.mem_filterMap.mpr ⟨a, List.mem_range.mpr (Heap.lt_size e), ?_⟩)
      rw [if_neg (by simp [h1, h2, q]), e]
      rfl

/-- an object that changes under the law: its frame, its cells, an iterator -/
def Spec (h : Heap) (b : Addr) : Prop := ∃ o, h.get? b = some o ∧ ((∃ v, o.data = .cell v) ∨ (∃ fs, o.data = .fields fs) ∨ ∃ es ep, o.data = .dict es ep ∧ (nsFind es (Str.ofString "script")).isSome = true)
def Plain (o : Obj) : Prop := (∃ vs n, o.data = .seq vs n) ∨ o.data = .plain ∨ ∃ es ep, o.data = .dict es ep ∧ nsFind es (Str.ofString "script") = none
theorem spec_ne {h : Heap} {a b : Addr} {o : Obj} (hb : Spec h b) (e : h.get? a = some o) (hp : Plain o) : a ≠ b := by
  intro q
  obtain ⟨o', e', hs⟩ := hb
  rw [q, e'] at e
  cases e
  rcases hs with ⟨v, hs⟩ | ⟨fs, hs⟩ | ⟨es, ep, hs, hx⟩ <;> rcases hp with ⟨vs, n, hp⟩ | hp | ⟨es', ep', hp, hy⟩ <;> rw [hs] at hp <;> cases hp
  rw [hy] at hx
  cases hx

structure LawSt (w : World) (h : Heap) (nd dx d P R : Addr) (lss : List (List (List UInt8))) (D : List Ent) (rows : List (List (List UInt8) × Int)) (md mi : Int) : Prop where
  dict : DictAt w h nd dx d D md mi
  pool : ∃ vs c, h.get? P = some (PySem.W.listOf vs c) ∧ ListsAre w (fun a o => h.get? a = some o) vs.toList lss
  rows : ∃ rv c, h.get? R = some (PySem.W.listOf rv c) ∧ RowsAre w (fun a o => h.get? a = some o) rv.toList rows

theorem ns_none {es : Array DictEntry} {x : Str} (h : ∀ e ∈ es.toList, e.key.isStr x = false) : nsFind es x = none := by
  unfold nsFind findBy
  rw [Option.map_eq_none_iff, Array.find?_eq_none]
  intro e he
  show ¬ (e.key.isStr x = true)
  rw [h e (Array.mem_toList_iff.mpr he)]
  decide
theorem plain_seq {o : Obj} {vs : Array Value} {n : Nat} (h : o.data = .seq vs n) : Plain o := .inl ⟨_, _, h⟩
theorem plain_inst {C dx : Addr} : Plain (instObj C dx) := .inr (.inl rfl)
theorem plain_labels {tk : Tok} {t : Addr} : Plain (PySem.W.dictOf [⟨PyData.keyHash w.params (Str.ofString "labels"), .str (Str.ofString "labels") tk, .ref t⟩] 1) :=
  .inr (.inr ⟨_, _, rfl, ns_none fun e he => by
    simp only [List.mem_cons, List.not_mem_nil, or_false] at he
    subst he
    rfl⟩)
theorem plain_nd {d : Addr} {md mi : Int} {t1 t2 t3 u2 u3 : Tok} : Plain (ndObj w d md mi t1 t2 t3 u2 u3) :=
  .inr (.inr ⟨_, _, rfl, ns_none fun e he => by
    simp only [List.mem_cons, List.not_mem_nil, or_false] at he
    rcases he with rfl | rfl | rfl <;> rfl⟩)
theorem plain_store {od : Obj} {es : Array DictEntry} {ep : Nat} {xs : List (List (List UInt8) × Addr × Value)} (h : od.data = .dict es ep) (he : es.toList = xs.map (entryOfKey (TK w))) : Plain od :=
  .inr (.inr ⟨_, _, h, ns_none fun e h => by
    rw [he] at h
    obtain ⟨x, _, rfl⟩ := List.mem_map.mp h
    rfl⟩)

/-- what the law holds goes over to a heap that keeps the plain objects -/
def Kept (h h' : Heap) : Prop := ∀ a o, h.get? a = some o → Plain o → h'.get? a = some o
theorem Kept.ext {h h' : Heap} (e : Ext h h') : Kept h h' := fun a o q _ => e a o q
theorem Kept.trans {h h' h'' : Heap} (x : Kept h h') (y : Kept h' h'') : Kept h h'' := fun a o q p => y a o (x a o q p) p
theorem kept_tup {h h' : Heap} (k : Kept h h') {ls : List (List UInt8)} {t : Addr} (x : IsTupleKey (bytesKind prg w) h ls t) : IsTupleKey (bytesKind prg w) h' ls t :=
  let ⟨o, i, n, a, b, c, d⟩ := x; ⟨o, i, n, k _ _ a (plain_seq c), b, c, d⟩
theorem kept_name {h h' : Heap} (k : Kept h h') {x C dx t : Addr} {tk : Tok} {ls : List (List UInt8)} (N : NameAt w h x C dx t tk ls) : NameAt w h' x C dx t tk ls :=
  ⟨⟨k _ _ N.inst.at_ plain_inst, N.inst.cls, N.inst.no, k _ _ N.inst.dict plain_labels⟩, kept_tup k N.tup⟩
theorem kept_ents {h h' : Heap} (k : Kept h h') {xs : List (List (List UInt8) × Addr × Value)} {D : List Ent} (N : EntsAt w h xs D) : EntsAt w h' xs D := by
  induction N with
  | nil => exact .nil
  | cons a _ ih =>
    refine .cons ⟨a.key, a.good, ?_⟩ ih
    obtain ⟨pa, kx, kdx, kt, ktk, u, n, h1, h2, h3⟩ := a.at_
    exact ⟨pa, kx, kdx, kt, ktk, u, n, h1, k _ _ h2 (plain_seq rfl), kept_name k h3⟩
theorem kept_dict {h h' : Heap} (k : Kept h h') {nd dx d : Addr} {D : List Ent} {md mi : Int} (H : DictAt w h nd dx d D md mi) : DictAt w h' nd dx d D md mi := by
  obtain ⟨xs, ⟨od, es, ep, h4, h5, h6, h7, h8, h9⟩, hE⟩ := id H.store
  obtain ⟨t1, t2, t3, u2, u3, hx⟩ := H.dx_at
  exact dictat_mk (k _ _ H.nd_at plain_inst) (k _ _ hx plain_nd) ⟨od, es, ep, k _ _ h4 (plain_store h6 h7), h5, h6, h7, fun x hx => kept_tup k (h8 x hx), h9⟩ (kept_ents k hE) H.mods
theorem kept_lists {h h' : Heap} (k : Kept h h') {vs : List Value} {lss : List (List (List UInt8))} (x : ListsAre w (fun a o => h.get? a = some o) vs lss) : ListsAre w (fun a o => h'.get? a = some o) vs lss := by
  induction x with
  | nil => exact .nil
  | cons a b c d _ ih => exact .cons (k _ _ a (plain_seq rfl)) b c d ih
theorem kept_rows {h h' : Heap} (k : Kept h h') {vs : List Value} {rows : List (List (List UInt8) × Int)} (x : RowsAre w (fun a o => h.get? a = some o) vs rows) : RowsAre w (fun a o => h'.get? a = some o) vs rows := by
  induction x with
  | nil => exact .nil
  | cons a b _ ih => exact .cons (k _ _ a (plain_seq rfl)) (let ⟨ot, i, n, q, r, c, d⟩ := b; ⟨ot, i, n, k _ _ q (plain_seq c), r, c, d⟩) ih
theorem kept_st {h h' : Heap} (k : Kept h h') {nd dx d P R : Addr} {lss : List (List (List UInt8))} {D : List Ent} {rows : List (List (List UInt8) × Int)} {md mi : Int} (x : LawSt w h nd dx d P R lss D rows md mi) : LawSt w h' nd dx d P R lss D rows md mi :=
  ⟨kept_dict k x.dict, let ⟨vs, c, a, b⟩ := x.pool; ⟨vs, c, k _ _ a (plain_seq rfl), kept_lists k b⟩, let ⟨rv, c, a, b⟩ := x.rows; ⟨rv, c, k _ _ a (plain_seq rfl), kept_rows k b⟩⟩
/-- a snapshot on the ledger keeps the plain objects -/
theorem kept_snap {g h h' : Heap} {L : Addr} {m : Str → Option Value} {S : List Addr} {rest nx : List (Addr × Obj)} (hL : Spec h L) (hS : ∀ b ∈ S, Spec h b) (hr : ∀ a o, a ≠ L → a ∉ S → h.get? a = some o → g.get? a = some o ∨ (a, o) ∈ rest)
    (F : Fr g L h' m) (N : News g L h' nx) (hsub : ∀ p ∈ rest, p ∈ nx) : Kept h h' := fun a o e hp => by
  rcases hr a o (spec_ne hL e hp) (fun hm => spec_ne (hS a hm) e hp rfl) e with q | q
  · exact F.keep _ _ q
  · exact (N _ (hsub _ q)).1
theorem spec_frame {h : Heap} {L : Addr} {m : Str → Option Value} {v : Value} (hn : h.Ns L m) (hm : m (Str.ofString "script") = some v) : Spec h L :=
  let ⟨o, es, ep, e, d, _, f⟩ := hn; ⟨o, e, .inr (.inr ⟨es, ep, d, by rw [f, hm]; rfl⟩)⟩

/-- all of the heap on the ledger, the two cells ahead -/
theorem snap_cells {g h : Heap} {L c1 c2 : Addr} {m : Str → Option Value} {v : Value} {o1 o2 : Obj} {v1 v2 : Option Value} (F : Fr g L h m) (hm : m (Str.ofString "script") = some v) (N : News g L h [(c2, o2), (c1, o1)]) (d2 : o2.data = .cell v2) (d1 : o1.data = .cell v1) (S : List Addr) (hS : ∀ b ∈ S, Spec h b) :
    ∃ rest, News g L h ((c2, o2) :: (c1, o1) :: rest) ∧ (∀ h' m' nx, Fr g L h' m' → News g L h' nx → (∀ p ∈ rest, p ∈ nx) → Kept h h') ∧ (∀ p ∈ rest, @Ne Nat p.1 c1 ∧ @Ne Nat p.1 c2 ∧ p.1 ∉ S) ∧
      ∀ b o, b ∉ L :: c2 :: c1 :: S → h.get? b = some o → g.get? b = some o ∨ (b, o) ∈ rest := by
  obtain ⟨rest, Nr, h1, h2⟩ := snap F (c2 :: c1 :: S)
  refine ⟨rest, fun p hp => ?_, fun h' m' nx F' N' hs => kept_snap (spec_frame F.ns hm) (S := c2 :: c1 :: S) (fun b hb => ?_) h2 F' N' hs, fun p hp => ?_, fun b o hb e => h2 b o (fun q => hb (q ▸ .head _)) (fun q => hb (.tail _ q)) e⟩
  · rcases List.mem_cons.mp hp with rfl | hp
    · exact N _ (.head _)
    rcases List.mem_cons.mp hp with rfl | hp
    · exact N _ (.tail _ (.head _))
    · exact Nr _ hp
  · rcases List.mem_cons.mp hb with rfl | hb
    · exact ⟨_, (N _ (.head _)).1, .inl ⟨_, d2⟩⟩
    rcases List.mem_cons.mp hb with rfl | hb
    · exact ⟨_, (N _ (.tail _ (.head _))).1, .inl ⟨_, d1⟩⟩
    · exact hS _ hb
  · have := h1 p hp
    simp only [List.mem_cons, not_or] at this
    exact ⟨this.2.1, this.1, this.2.2⟩
end
end Mine
end
section
open PySem PySem.W PyProof.Rows PySem.Calls
namespace Mine
/-- steps of the library's walk up to a comprehension, a call of the text's own, a loop -/
local macro_rules | `(tactic| walk_at "my go") => `(tactic| repeat' (
  ((fail_if_success (with_reducible show wpAny _ _ (eval (Expr.ListComp _ _ _ _) _) _ _ _));
   (fail_if_success (with_reducible show wpAny _ _ (call (Value.ref _) _ _) _ _ _));
   (fail_if_success (with_reducible show wpAny _ _ (call (Value.type _) _ _) _ _ _));
   (fail_if_success (with_reducible show wpAny _ _ (exec (Stmt.For _ _ _ _ _) _) _ _ _));
   (fail_if_success (with_reducible show wpAny _ _ (exec (Stmt.Assign _ (Expr.ListComp _ _ _ _) _) _) _ _ _));
   (fail_if_success (with_reducible show wpAny _ _ (pyIter _) _ _ _));
   (fail_if_success (with_reducible show wpAny _ _ (getMethod (Value.ref _) (PySem.Str.ofString "values") _) _ _ _));
   (fail_if_success (with_reducible show wpAny _ _ (getMethod (Value.ref _) (PySem.Str.ofString "pop") _) _ _ _));
   (first | (k_unfold; (try dsimp only)) | walk1 | (dsimp only; walk1)))))
local macro_rules | `(tactic| k_inst) => `(tactic| exact inst_base (by k_asm) (by assumption))
/-- a name's value out of the frame's facts -/
local macro_rules | `(tactic| walk_at "my look") => `(tactic| first
  | assumption
  | exact if_pos rfl
  | exact rfl
  | (refine (if_neg (by decide)).trans ?_; walk_at "my look"))
local macro_rules | `(tactic| walk_at "eval Name") => `(tactic| (k_here; k_dflt (refine' ld ?k1 ?k2 ?_; (case k1 => k_asm); (case k2 => walk_at "my look"); k_whole)))
local macro_rules | `(tactic| walk_at "loadName") => `(tactic| (k_here; k_dflt (refine' ldn ?k1 ?k2 ?_; (case k1 => k_asm); (case k2 => walk_at "my look"); k_whole)))
local macro_rules | `(tactic| walk_at "eval Name") => `(tactic| ((with_reducible show wpAny _ _ (eval (Expr.Name _ _) (compEnvC _ _ _ _)) _ _ _); k_dflt (refine ldVarK (by assumption) (by assumption) ?_)))

section
variable {w : World} {p : Program} {loose : List Str} {mean : ExcName → Option Value} {mg mb : Str → Option Value} {A : Around} {s : Shared} {Q E : Value → Shared → Prop}
/-! ## the plain law -/
abbrev Row := List (List UInt8) × Int
structure Rel (D : List Ent) (rows : List Row) : Prop where
  fnd : ∀ k, (Mine.find D k).map (·.val) = rowFind rows k
  len : D.length = rows.length
  nodD : (D.map fun e => low e.labels).Nodup
  nodR : (rows.map (·.1)).Nodup
def rest (rows : List Row) (k : List (List UInt8)) : List Row := rows.filter fun r => !decide (r.1 = k)
theorem rel_nil : Rel [] [] := ⟨fun _ => rfl, rfl, List.nodup_nil, List.nodup_nil⟩

theorem rowFind_rest (rows : List Row) (k k' : List (List UInt8)) : rowFind (rest rows k) k' = if k' = k then none else rowFind rows k' := by
  induction rows with
  | nil => simp [rest, rowFind]
  | cons r rows ih =>
    unfold rest at ih ⊢
    by_cases hk : r.1 = k
    · rw [List.filter_cons_of_neg (by simp [hk]), ih]
      by_cases h' : k' = k
      · simp [h']
      · simp only [h', if_false]
        have : r.1 ≠ k' := fun e => h' (by rw [← e, hk])
        simp [rowFind, this]
    · rw [List.filter_cons_of_pos (by simp [hk])]
      by_cases h1 : r.1 = k'
      · have : k' ≠ k := fun e => hk (by rw [h1, e])
        simp [rowFind, h1, this]
      · have e1 : ∀ l : List Row, rowFind (r :: l) k' = rowFind l k' := fun l => by simp [rowFind, h1]
        rw [e1, e1, ih]
theorem rowFind_app (rows : List Row) (k k' : List (List UInt8)) (v : Int) (h : rowFind rows k = none) : rowFind (rows ++ [(k, v)]) k' = if k' = k then some v else rowFind rows k' := by
  induction rows with
  | nil =>
    by_cases h' : k' = k
    · simp [rowFind, h']
    · have : k ≠ k' := fun e => h' e.symm
      simp [rowFind, h', this]
  | cons r rows ih =>
    have hk : r.1 ≠ k := fun e => by simp [rowFind, e] at h
    have h2 : rowFind rows k = none := by simpa [rowFind, hk] using h
    by_cases h1 : r.1 = k'
    · have : k' ≠ k := fun e => hk (by rw [h1, e])
      simp [rowFind, h1, this]
    · have e1 : ∀ l : List Row, rowFind (r :: l) k' = rowFind l k' := fun l => by simp [rowFind, h1]
      rw [List.cons_append, e1, e1, ih h2]
theorem find_outD (D : List Ent) (k k' : List (List UInt8)) : find (outD D k) k' = if k' = k then none else find D k' := by
  induction D with
  | nil => simp [outD, find]
  | cons r D ih =>
    unfold outD at ih ⊢
    by_cases hk : low r.labels = k
    · rw [List.filter_cons_of_neg (by simp [hk]), ih]
      by_cases h' : k' = k
      · simp [h']
      · simp only [h', if_false]
        have : low r.labels ≠ k' := fun e => h' (by rw [← e, hk])
        simp [find, this]
    · rw [List.filter_cons_of_pos (by simp [hk])]
      by_cases h1 : low r.labels = k'
      · have : k' ≠ k := fun e => hk (by rw [h1, e])
        simp [find, h1, this]
      · have e1 : ∀ l : List Ent, find (r :: l) k' = find l k' := fun l => by simp [find, h1]
        rw [e1, e1, ih]
theorem find_put (D : List Ent) (ls : List (List UInt8)) (v : Int) (k' : List (List UInt8)) : (find (put D ls v) k').map (·.val) = if k' = low ls then some v else (find D k').map (·.val) := by
  unfold put
  cases hf : find D (low ls) with
  | none =>
    simp only [Option.isSome_none, Bool.false_eq_true, if_false]
    induction D with
    | nil =>
      by_cases h' : k' = low ls
      · simp [find, h']
      · have : low ls ≠ k' := fun e => h' e.symm
        simp [find, h', this]
    | cons r D ih =>
      have hk : low r.labels ≠ low ls := fun e => by simp [find, e] at hf
      have h2 : find D (low ls) = none := by simpa [find, hk] using hf
      by_cases h1 : low r.labels = k'
      · have : k' ≠ low ls := fun e => hk (by rw [h1, e])
        simp [find, h1, this]
      · have e1 : ∀ l : List Ent, find (r :: l) k' = find l k' := fun l => by simp [find, h1]
        rw [List.cons_append, e1, e1, ih h2]
  | some e0 =>
    simp only [Option.isSome_some, if_true]
    have hin : ∀ D : List Ent, (find (D.map fun e => if low e.labels = low ls then (⟨e.labels, v⟩ : Ent) else e) k').map (·.val) = if k' = low ls then (find D k').map fun _ => v else (find D k').map (·.val) := by
      intro D
      induction D with
      | nil => simp [find]
      | cons r D ih =>
        rw [List.map_cons]
        by_cases h1 : low r.labels = k'
        · by_cases h' : k' = low ls
          · simp [find, h1, h']
          · have : low r.labels ≠ low ls := fun e => h' (by rw [← h1, e])
            simp [find, h1, h']
        · have e1 : ∀ (r' : Ent) (l : List Ent), low r'.labels ≠ k' → find (r' :: l) k' = find l k' := fun r' l h => by simp [find, h]
          rw [e1 _ _ (by split <;> exact h1), e1 _ _ h1, ih]
    rw [hin D]
    by_cases h' : k' = low ls
    · simp only [h', if_true]
      rw [hf]
      rfl
    · simp only [h', if_false]
theorem find_mem {D : List Ent} {k : List (List UInt8)} : (find D k).isSome = true ↔ k ∈ D.map fun e => low e.labels := by
  unfold find
  rw [List.find?_isSome, List.mem_map]
  constructor
  · rintro ⟨e, he, h⟩
    exact ⟨e, he, by simpa using h⟩
  · rintro ⟨e, he, h⟩
    exact ⟨e, he, by simpa using h⟩
theorem rowFind_mem {rows : List Row} {k : List (List UInt8)} : (rowFind rows k).isSome = true ↔ k ∈ rows.map (·.1) := by
  unfold rowFind
  rw [Option.isSome_map, List.find?_isSome, List.mem_map]
  constructor
  · rintro ⟨e, he, h⟩
    exact ⟨e, he, by simpa using h⟩
  · rintro ⟨e, he, h⟩
    exact ⟨e, he, by simpa using h⟩
theorem len_filter {α β : Type} [DecidableEq β] (f : α → β) (k : β) : ∀ l : List α, (l.map f).Nodup → (l.filter fun x => !decide (f x = k)).length + (if k ∈ l.map f then 1 else 0) = l.length
  | [], _ => by simp
  | x :: l, h => by
    rw [List.map_cons, List.nodup_cons] at h
    have ih := len_filter f k l h.2
    by_cases hk : f x = k
    · have hn : k ∉ l.map f := hk ▸ h.1
      rw [List.filter_cons_of_neg (by simp [hk]), List.map_cons]
      simp only [hn, if_false, Nat.add_zero] at ih
      rw [if_pos (by simp [hk]), ih]
      rfl
    · rw [List.filter_cons_of_pos (by simp [hk]), List.map_cons, List.length_cons, List.length_cons]
      have : (k ∈ f x :: l.map f) ↔ k ∈ l.map f := by
        rw [List.mem_cons]
        constructor
        · rintro (e | e)
          · exact absurd e.symm hk
          · exact e
        · exact .inr
      simp only [this]
      omega
theorem rel_some {D : List Ent} {rows : List Row} (R : Rel D rows) (k : List (List UInt8)) : (find D k).isSome = (rowFind rows k).isSome := by
  rw [← R.fnd k, Option.isSome_map]
theorem rel_none {D : List Ent} {rows : List Row} (R : Rel D rows) (k : List (List UInt8)) : find D k = none ↔ rowFind rows k = none := by
  rw [← R.fnd k, Option.map_eq_none_iff]
theorem rel_take {D : List Ent} {rows : List Row} (R : Rel D rows) (k : List (List UInt8)) : Rel (outD D k) (rest rows k) := by
  refine ⟨fun k' => ?_, ?_, R.nodD.sublist (List.Sublist.map _ List.filter_sublist), R.nodR.sublist (List.Sublist.map _ List.filter_sublist)⟩
  · rw [find_outD, rowFind_rest]
    by_cases h : k' = k
    · simp [h]
    · simp only [h, if_false]
      exact R.fnd k'
  · have h1 := len_filter (fun e : Ent => low e.labels) k D R.nodD
    have h2 := len_filter (fun r : Row => r.1) k rows R.nodR
    have h3 : (k ∈ D.map fun e => low e.labels) ↔ k ∈ rows.map (·.1) := by rw [← find_mem, ← rowFind_mem, rel_some R]
    have h4 := R.len
    unfold outD rest
    by_cases h : k ∈ rows.map (·.1)
    · rw [if_pos (h3.mpr h)] at h1
      rw [if_pos h] at h2
      omega
    · rw [if_neg (fun x => h (h3.mp x))] at h1
      rw [if_neg h] at h2
      omega
theorem put_keys {D : List Ent} {ls : List (List UInt8)} {v : Int} : (put D ls v).map (fun e => low e.labels) = if (find D (low ls)).isSome = true then D.map fun e => low e.labels else (D.map fun e => low e.labels) ++ [low ls] := by
  unfold put
  split
  · rw [List.map_map]
    apply List.map_congr_left
    intro e _
    show low (if _ then _ else _ : Ent).labels = _
    split <;> rfl
  · simp
theorem rel_put {D : List Ent} {rows : List Row} (R : Rel D rows) (ls : List (List UInt8)) (v : Int) : Rel (put D ls v) (rest rows (low ls) ++ [(low ls, v)]) := by
  have hno : rowFind (rest rows (low ls)) (low ls) = none := by rw [rowFind_rest, if_pos rfl]
  refine ⟨fun k' => ?_, ?_, ?_, ?_⟩
  · rw [find_put, rowFind_app _ _ _ _ hno, rowFind_rest]
    by_cases h : k' = low ls
    · simp [h]
    · simp only [h, if_false]
      exact R.fnd k'
  · have h1 : (put D ls v).length = ((put D ls v).map fun e => low e.labels).length := by rw [List.length_map]
    have h2 := len_filter (fun r : Row => r.1) (low ls) rows R.nodR
    have h4 := R.len
    rw [h1, put_keys, List.length_append, List.length_singleton]
    unfold rest
    by_cases h : (find D (low ls)).isSome = true
    · rw [if_pos h, List.length_map]
      rw [if_pos (rowFind_mem.mp (by rw [← rel_some R]; exact h))] at h2
      omega
    · rw [if_neg h, List.length_append, List.length_map, List.length_singleton]
      rw [if_neg (fun x => h (by rw [rel_some R]; exact rowFind_mem.mpr x))] at h2
      omega
  · rw [put_keys]
    split
    · exact R.nodD
    · rename_i h
      rw [List.nodup_append]
      refine ⟨R.nodD, by simp, fun a ha b hb e => ?_⟩
      rw [List.mem_singleton] at hb
      exact h (find_mem.mpr (by rw [← hb, ← e]; exact ha))
  · rw [List.map_append, List.nodup_append]
    refine ⟨R.nodR.sublist (List.Sublist.map _ List.filter_sublist), by simp, fun a ha b hb e => ?_⟩
    simp only [List.map_cons, List.map_nil, List.mem_singleton] at hb
    have := rowFind_mem.mpr (show low ls ∈ (rest rows (low ls)).map (·.1) from (e.trans hb) ▸ ha)
    rw [hno] at this
    cases this
theorem rest_none {rows : List Row} {k : List (List UInt8)} (h : rowFind rows k = none) : rest rows k = rows := by
  unfold rest
  rw [List.filter_eq_self]
  intro r hr
  have : r.1 ≠ k := fun e => by
    have := rowFind_mem.mpr (show k ∈ rows.map (·.1) from List.mem_map.mpr ⟨r, hr, e⟩)
    rw [h] at this
    cases this
  simp [this]
theorem deep_due {D : List Ent} {rows : List Row} (R : Rel D rows) (ls : List (List UInt8)) : ∀ n, deepFrom D ls n = dueFrom rows ls n
  | 0 => by
    rw [deepFrom, dueFrom, ← R.fnd, Option.map_map]
    rfl
  | n + 1 => by
    rw [deepFrom, dueFrom, ← R.fnd, deep_due R ls n]
    cases find D (low (ls.drop (ls.length - (n + 1)))) <;> rfl
/-- the row of pairs a name has -/
def same (rows : List Row) (k : List (List UInt8)) : List Row := rows.filter fun r => decide (r.1 = k)
theorem same_some {rows : List Row} {k : List (List UInt8)} : (same rows k = []) ↔ rowFind rows k = none := by
  unfold same rowFind
  rw [Option.map_eq_none_iff, List.find?_eq_none, List.filter_eq_nil_iff]
theorem same_head {rows : List Row} {k : List (List UInt8)} : ((same rows k).map (·.2)).head? = rowFind rows k := by
  unfold same rowFind
  rw [List.head?_map, List.head?_filter]
end
end Mine
end
section
open PySem PySem.W PyProof.Rows PySem.Calls
namespace Mine
/-- steps of the library's walk up to a comprehension, a call of the text's own, a loop -/
local macro_rules | `(tactic| walk_at "my go") => `(tactic| repeat' (
  ((fail_if_success (with_reducible show wpAny _ _ (eval (Expr.ListComp _ _ _ _) _) _ _ _));
   (fail_if_success (with_reducible show wpAny _ _ (call (Value.ref _) _ _) _ _ _));
   (fail_if_success (with_reducible show wpAny _ _ (call (Value.type _) _ _) _ _ _));
   (fail_if_success (with_reducible show wpAny _ _ (exec (Stmt.For _ _ _ _ _) _) _ _ _));
   (fail_if_success (with_reducible show wpAny _ _ (exec (Stmt.Assign _ (Expr.ListComp _ _ _ _) _) _) _ _ _));
   (fail_if_success (with_reducible show wpAny _ _ (pyIter _) _ _ _));
   (fail_if_success (with_reducible show wpAny _ _ (getMethod (Value.ref _) (PySem.Str.ofString "values") _) _ _ _));
   (fail_if_success (with_reducible show wpAny _ _ (getMethod (Value.ref _) (PySem.Str.ofString "pop") _) _ _ _));
   (first | (k_unfold; (try dsimp only)) | walk1 | (dsimp only; walk1)))))
local macro_rules | `(tactic| k_inst) => `(tactic| exact inst_base (by k_asm) (by assumption))
/-- a name's value out of the frame's facts -/
local macro_rules | `(tactic| walk_at "my look") => `(tactic| first
  | assumption
  | exact if_pos rfl
  | exact rfl
  | (refine (if_neg (by decide)).trans ?_; walk_at "my look"))
local macro_rules | `(tactic| walk_at "eval Name") => `(tactic| (k_here; k_dflt (refine' ld ?k1 ?k2 ?_; (case k1 => k_asm); (case k2 => walk_at "my look"); k_whole)))
local macro_rules | `(tactic| walk_at "loadName") => `(tactic| (k_here; k_dflt (refine' ldn ?k1 ?k2 ?_; (case k1 => k_asm); (case k2 => walk_at "my look"); k_whole)))
local macro_rules | `(tactic| walk_at "eval Name") => `(tactic| ((with_reducible show wpAny _ _ (eval (Expr.Name _ _) (compEnvC _ _ _ _)) _ _ _); k_dflt (refine ldVarK (by assumption) (by assumption) ?_)))

section
variable {w : World} {p : Program} {loose : List Str} {mean : ExcName → Option Value} {mg mb : Str → Option Value} {A : Around} {s : Shared} {Q E : Value → Shared → Prop}
theorem paired_snoc {Fv : Value → Value → Prop} : ∀ {l ys : List Value} {v y : Value}, Paired Fv l ys → Fv v y → Paired Fv (l ++ [v]) (ys ++ [y])
  | _, _, _, _, .nil, h => .cons h .nil
  | _, _, _, _, .cons a r, h => .cons a (paired_snoc r h)
theorem paired_len {Fv : Value → Value → Prop} : ∀ {l ys : List Value}, Paired Fv l ys → ys.length = l.length
  | _, _, .nil => rfl
  | _, _, .cons _ r => by simp [paired_len r]
/-- name := [elt for a, b in a list of pairs if c] -/
theorem compPT {env : Env} {a b y : Str} {pa pb tp py pos spos : Pos} {kk : Nat} {iter elt c : Expr} {scope : Scope} {cl : List (Str × Addr)} {R : Addr} {rv : Array Value} {m : Str → Option Value} {p : Value → Bool} {Fv : Value → Value → Prop} {Q : Flow → Shared → Prop}
    (hh : A.handled = none) (hR : s.heap.IsList R rv) (hsz : rv.size ≤ sizeLine) (hn : s.heap.Ns env.locals m)
    (hsw : swapsWith (.ListComp elt [⟨.Tuple [.Name a pa, .Name b pb] kk tp, iter, [c], 0⟩] scope pos) (some (.Name y py)) spos.line env = pure true)
    (hclos : closureFor scope env = pure cl) (hcell : ∀ z ∈ scope.names, z.2 ≠ .cell) (hkind : scope.kind = .function)
    (hnames : ∀ z ∈ scope.names, z.2 = .local → scope.names.lookup z.1 = some .local) (hxa : scope.names.lookup a = some .local) (hxb : scope.names.lookup b = some .local) (hab : ¬ a = b)
    (hy : env.kindOf y = some .local) (hp : (env.scope.kind == .class || (env.scope.kind == .module && env.locals != env.globals)) = false)
    (heval : ∀ Q', Q' (Value.ref R) s → wpAny (model prg w) A (eval iter env) Q' E s)
    (item : ∀ v ∈ rv.toList, ∃ T x1 x2, v = .ref T ∧ s.heap.IsTuple T #[x1, x2])
    (test : ∀ C T x1 x2 s₃ m₃ E', s.heap.get? C = none → Value.ref T ∈ rv.toList → s.heap.IsTuple T #[x1, x2] → s₃.heap.Ns C m₃ → m₃ a = some x1 → m₃ b = some x2 → Ext s.heap s₃.heap →
      wpAny (model prg w) A (isTrue c (compEnvC scope cl C env) (eval c (compEnvC scope cl C env))) (fun ok s₄ => ok = p (.ref T) ∧ Keeps s₃ s₄) E' s₃)
    (elem : ∀ C T x1 x2 s₃ m₃ E', s.heap.get? C = none → Value.ref T ∈ rv.toList → s.heap.IsTuple T #[x1, x2] → p (.ref T) = true → s₃.heap.Ns C m₃ → m₃ a = some x1 → m₃ b = some x2 → Ext s.heap s₃.heap →
      wpAny (model prg w) A (eval elt (compEnvC scope cl C env)) (fun v s₄ => Fv (.ref T) v ∧ Keeps s₃ s₄) E' s₃)
    (hfin : ∀ D h' tk ys n, s.heap.get? D = none → h'.get? D = some (PySem.W.listOf ys n) → Paired Fv (rv.toList.filter p) ys.toList → h'.Ns env.locals (fun z => if z = y then some (.ref D) else m z) → (∀ b o, b ≠ env.locals → s.heap.get? b = some o → h'.get? b = some o) → Q .next { s with heap := h', toks := tk })
    (hs : ∀ x, foldedSetIterable iter env x = pure x := by intro _; rfl) :
    wpAny (model prg w) A (exec (.Assign [.Name y py] (.ListComp elt [⟨.Tuple [.Name a pa, .Name b pb] kk tp, iter, [c], 0⟩] scope pos) spos) env) Q E s := by
  rw [exec_Assign_Name_used _ _ _ _ hsw]
  refine wpAny_bind (wpAny_standAt (wpAny_bind ?_))
  show wpAny _ A (do let _ ← comprehension (.ListComp elt [⟨.Tuple [.Name a pa, .Name b pb] kk tp, iter, [c], 0⟩] scope pos) scope env _ (newList []) false (eval iter env) (some (assign (.Name y py) env))) _ _ s
  refine wpAny_bind (wpAny_mono (wpAny_comprehension_free (use := some (assign (.Name y py) env)) (Q := fun _ s' => Q .next s') rfl hs hclos hkind hnames
    (heval _ ?_)) (fun _ s' hq => wpAny_pure (wpAny_pure hq)) fun _ _ e => e)
  have hlt : R < s.heap.objs.size := by obtain ⟨_, e, _⟩ := hR; exact Heap.lt_size e
  refine wpAny_pyIter_list hR ?_
  have W := Walks.list (prog := prg) (w := w) hh s.heap.objs.size R (Nat.ne_of_lt hlt) rv
  have hst0 : (s.heap.push { cls := .type "list_iterator", data := .fields #[.ref R, .int 0 0] }).IsListIter s.heap.objs.size R 0 ∧ (s.heap.push { cls := .type "list_iterator", data := .fields #[.ref R, .int 0 0] }).IsList R rv :=
    ⟨⟨_, Heap.get?_push_size _ rfl, rfl, rfl⟩, let ⟨o, e, r⟩ := hR; ⟨o, Heap.get?_push_of_some _ e, r⟩⟩
  have e0 : Ext s.heap (s.heap.push { cls := .type "list_iterator", data := .fields #[.ref R, .int 0 0] }) := Ext.push _
  have z0 : (s.heap.push { cls := .type "list_iterator", data := .fields #[.ref R, .int 0 0] }).objs.size = s.heap.objs.size + 1 := by rw [Heap.size_push]
  generalize s.heap.push { cls := .type "list_iterator", data := .fields #[.ref R, .int 0 0] } = g₁ at *
  generalize hI : s.heap.objs.size = I at *
  refine wpAny_newObj_type (wpAny_newFunctionEnv hcell (by intro y hy; simp at hy) (fun h₁ hns₁ hsb₁ => ?_) hkind)
  dsimp only at hns₁ hsb₁ ⊢
  generalize hH2 : g₁.push { cls := .type "list", dict := none, data := .seq ([] : List Value).toArray } = H2 at hns₁ hsb₁ ⊢
  have hCz : H2.objs.size = I + 2 := by rw [← hH2, Heap.size_push, z0]
  generalize hC : H2.objs.size = C at *
  generalize hD : g₁.objs.size = D at *
  have hDI : D = I + 1 := z0
  have old : Ext g₁ h₁ := fun b o e => hsb₁.extBut b o (fun q => by have h1 : @LT.lt Nat _ b D := hD ▸ Heap.lt_size e; have q' : @Eq Nat b C := q; omega) (Heap.get?_push_of_some _ (hH2 ▸ Heap.get?_push_of_some _ e))
  have hDat : h₁.get? D = some (PySem.W.listOf #[] 0) := hsb₁.extBut _ _ (fun q => by rw [q] at hDI; omega) (Heap.get?_push_of_some _ (hH2 ▸ hD ▸ Heap.get?_push_size _ rfl))
  have none_ : ∀ b, I ≤ b → s.heap.get? b = none := fun b hb => get_none_of_size (by rw [hI]; exact hb)
  have hLI : @LT.lt Nat _ env.locals I := hI ▸ hn.lt
  clear hsb₁ hH2 hC hD
  have hCI : @Ne Nat C I := by omega
  have hCD : @Ne Nat C D := by omega
  have hDI' : @Ne Nat D I := by omega
  have hLC : @Ne Nat env.locals C := by omega
  have hLD : @Ne Nat env.locals D := by omega
  have hLI' : @Ne Nat env.locals I := by omega
  have loop : ∀ s₃ : Shared, (∃ tk, s₃ = { s with heap := h₁, toks := tk }) →
      codeAny (model prg w) A (.compLoop (.ListComp elt [⟨.Tuple [.Name a pa, .Name b pb] kk tp, iter, [c], 0⟩] scope pos) 0 (.ref I) (.ref D) (compEnvC scope cl C env))
        (compPost (model prg w) A E (some (assign (.Name y py) env)) (fun _ s' => Q .next s') (.ref D) C) s₃ := by
    rintro s₃ ⟨tk₀, rfl⟩
    refine kct_loop
      (fun k s' => ∃ h' tk i ys n m', s' = { s with heap := h', toks := tk } ∧ i ≤ rv.size ∧ k = rv.size + 1 - i ∧ ys.size ≤ i ∧ h'.IsListIter I R i ∧ Ext s.heap h' ∧ h'.Ns C m' ∧ h'.get? D = some (PySem.W.listOf ys n) ∧ Paired Fv ((rv.toList.take i).filter p) ys.toList) ?_ (rv.size + 1)
      ⟨h₁, tk₀, 0, #[], 0, _, rfl, Nat.zero_le _, rfl, Nat.le_refl _, let ⟨o, e, r⟩ := hst0.1; ⟨o, old _ _ e, r⟩, e0.trans old, hns₁, hDat, .nil⟩
    rintro k s' ⟨h', tk, i, ys, n, m', rfl, hi, rfl, hyl, hit, he, hnC, hDl, hpr⟩
    have hRl : h'.IsList R rv := let ⟨o, e, r⟩ := hR; ⟨o, he _ _ e, r⟩
    by_cases hlt' : i < rv.size
    · refine W.item i _ _ _ hlt' ⟨hit, hRl⟩ fun v h₂ tk₂ hv hst₂ hk₂ => ?_
      have hvm : v ∈ rv.toList := Array.mem_toList_iff.mpr (Array.mem_of_getElem? hv)
      obtain ⟨T, x1, x2, rfl, hT⟩ := item v hvm
      have k2 : ∀ b o, b ≠ I → h'.get? b = some o → h₂.get? b = some o := fun b o hb e => hk₂ b o (by simpa using hb) e
      have he₂ : Ext s.heap h₂ := fun b o e => k2 b o (fun q => by rw [q, none_ I (Nat.le_refl _)] at e; cases e) (he _ _ e)
      refine wpAny_letOwnedTupleGo_listiter hst₂.1 ?_
      refine kcp_assign (env := compEnvC scope cl C env) hh (let ⟨o, e, r⟩ := hT; ⟨o, he₂ _ _ e, r⟩) (lookup_relabel_local hxa) (lookup_relabel_local hxb) (by simp [compEnvC, relabel, hkind]) (hnC.at' fun o e => k2 _ o hCI e) fun h₃ tk₃ hn₃ hk₃ => ?_
      have k3 : ∀ b o, b ≠ C → h₂.get? b = some o → h₃.get? b = some o := hk₃
      have he₃ : Ext s.heap h₃ := fun b o e => k3 b o (fun q => by rw [q, none_ C (by omega)] at e; cases e) (he₂ _ _ e)
      have hI₃ : h₃.IsListIter I R (i + 1) := let ⟨o, e, r⟩ := hst₂.1; ⟨o, k3 _ _ (Ne.symm hCI) e, r⟩
      have hD₃ : h₃.get? D = some (PySem.W.listOf ys n) := k3 _ _ (Ne.symm hCD) (k2 _ _ hDI' hDl)
      have htake : rv.toList.take (i + 1) = rv.toList.take i ++ [.ref T] := by
        rw [List.take_add_one, Array.getElem?_toList, hv]
        rfl
      refine wpAny_mono (test C T x1 x2 _ _ _ (none_ C (by omega)) hvm hT hn₃ (by simp [hab]) (by simp) he₃) (fun ok s₅ hs₅ => ?_) fun _ _ e => e
      obtain ⟨rfl, h₅, tk₅, rfl, hk₅⟩ := hs₅
      cases hpT : p (.ref T) with
      | false =>
        refine ⟨rv.size + 1 - (i + 1), by omega, h₅, tk₅, i + 1, ys, n, _, rfl, hlt', rfl, by omega, let ⟨o, e, r⟩ := hI₃; ⟨o, hk₅ _ _ e, r⟩, fun b o e => hk₅ _ _ (he₃ _ _ e), hn₃.at' fun o e => hk₅ _ _ e, hk₅ _ _ hD₃, ?_⟩
        rw [htake, List.filter_append, List.filter_cons_of_neg (by simp [hpT]), List.filter_nil, List.append_nil]
        exact hpr
      | true =>
        refine wpAny_mono (elem C T x1 x2 { s with heap := h₅, toks := tk₅ } _ _ (none_ C (by omega)) hvm hT hpT (hn₃.at' fun o e => hk₅ _ _ e) (by simp [hab]) (by simp) fun b o e => hk₅ _ _ (he₃ _ _ e)) (fun yv s₆ hs₆ => ?_) fun _ _ e => e
        obtain ⟨hFv, h₆, tk₆, rfl, hk₆⟩ := hs₆
        refine append_at (hsz := by omega) (hk₆ _ _ (hk₅ _ _ hD₃)) fun h₇ hs₇ hD₇ => ?_
        have hk₇ : ∀ b o, b ≠ D → h₃.get? b = some o → h₇.get? b = some o := fun b o hb e => (hs₇.2 b hb).trans (hk₆ _ _ (hk₅ _ _ e))
        refine ⟨rv.size + 1 - (i + 1), by omega, h₇, tk₆, i + 1, ys.push yv, n + 1, _, rfl, hlt', rfl, by rw [Array.size_push]; omega, let ⟨o, e, r⟩ := hI₃; ⟨o, hk₇ _ _ (Ne.symm hDI') e, r⟩, fun b o e => hk₇ _ _ (fun q => by rw [q, none_ D (by omega)] at e; cases e) (he₃ _ _ e), hn₃.at' fun o e => hk₇ _ _ hCD e, hD₇, ?_⟩
        rw [htake, List.filter_append, List.filter_cons_of_pos (by simp [hpT]), List.filter_nil, Array.toList_push]
        exact paired_snoc hpr hFv
    · have hin : i = rv.size := by omega
      subst hin
      refine W.done _ _ _ ⟨hit, hRl⟩ fun h₂ tk₂ hk₂ => ?_
      have k2 : ∀ b o, b ≠ I → h'.get? b = some o → h₂.get? b = some o := fun b o hb e => hk₂ b o (by simpa using hb) e
      have he₂ : Ext s.heap h₂ := fun b o e => k2 b o (fun q => by rw [q, none_ I (Nat.le_refl _)] at e; cases e) (he _ _ e)
      show wpAny _ A (assign (.Name y py) env (.ref D)) _ _ _
      refine wpAny_assign_Name (wpAny_storeName_local hy (hn.at' fun o e => he₂ _ o e) (fun h₄ hn₄ hs₄ => ?_) hp)
      refine ⟨m', (hnC.at' fun o e => k2 _ o hCI e).sameBut hs₄ (Ne.symm hLC), fun h₅ hs₅ => ?_⟩
      refine hfin D h₅ _ ys n (none_ D (by omega)) ((hs₅.2 _ (Ne.symm hCD)).trans ((hs₄.2 _ (Ne.symm hLD)).trans (k2 _ _ hDI' hDl))) ?_ (hn₄.sameBut hs₅ hLC) fun b o hb e => (hs₅.2 _ (fun q => by rw [q, none_ C (by omega)] at e; cases e)).trans ((hs₄.2 _ hb).trans (he₂ _ _ e))
      rw [List.take_of_length_le (by simp)] at hpr
      exact hpr
  exact codeAny_compStart_list (loop _ ⟨_, rfl⟩) (W.self 0 _ _ _ ⟨let ⟨o, e, r⟩ := hst0.1; ⟨o, old _ _ e, r⟩, let ⟨o, e, r⟩ := hst0.2; ⟨o, old _ _ e, r⟩⟩ (loop _ ⟨_, rfl⟩))
end
end Mine
end
section
open PySem PySem.W PyProof.Rows PySem.Calls
namespace Mine
/-- steps of the library's walk up to a comprehension, a call of the text's own, a loop -/
local macro_rules | `(tactic| walk_at "my go") => `(tactic| repeat' (
  ((fail_if_success (with_reducible show wpAny _ _ (eval (Expr.ListComp _ _ _ _) _) _ _ _));
   (fail_if_success (with_reducible show wpAny _ _ (call (Value.ref _) _ _) _ _ _));
   (fail_if_success (with_reducible show wpAny _ _ (call (Value.type _) _ _) _ _ _));
   (fail_if_success (with_reducible show wpAny _ _ (exec (Stmt.For _ _ _ _ _) _) _ _ _));
   (fail_if_success (with_reducible show wpAny _ _ (exec (Stmt.Assign _ (Expr.ListComp _ _ _ _) _) _) _ _ _));
   (fail_if_success (with_reducible show wpAny _ _ (pyIter _) _ _ _));
   (fail_if_success (with_reducible show wpAny _ _ (getMethod (Value.ref _) (PySem.Str.ofString "values") _) _ _ _));
   (fail_if_success (with_reducible show wpAny _ _ (getMethod (Value.ref _) (PySem.Str.ofString "pop") _) _ _ _));
   (first | (k_unfold; (try dsimp only)) | walk1 | (dsimp only; walk1)))))
local macro_rules | `(tactic| k_inst) => `(tactic| exact inst_base (by k_asm) (by assumption))
/-- a name's value out of the frame's facts -/
local macro_rules | `(tactic| walk_at "my look") => `(tactic| first
  | assumption
  | exact if_pos rfl
  | exact rfl
  | (refine (if_neg (by decide)).trans ?_; walk_at "my look"))
local macro_rules | `(tactic| walk_at "eval Name") => `(tactic| (k_here; k_dflt (refine' ld ?k1 ?k2 ?_; (case k1 => k_asm); (case k2 => walk_at "my look"); k_whole)))
local macro_rules | `(tactic| walk_at "loadName") => `(tactic| (k_here; k_dflt (refine' ldn ?k1 ?k2 ?_; (case k1 => k_asm); (case k2 => walk_at "my look"); k_whole)))
local macro_rules | `(tactic| walk_at "eval Name") => `(tactic| ((with_reducible show wpAny _ _ (eval (Expr.Name _ _) (compEnvC _ _ _ _)) _ _ _); k_dflt (refine ldVarK (by assumption) (by assumption) ?_)))

section
variable {w : World} {p : Program} {loose : List Str} {mean : ExcName → Option Value} {mg mb : Str → Option Value} {A : Around} {s : Shared} {Q E : Value → Shared → Prop}
open PySem.SeqAt
theorem tupkey_inj {h : Heap} {x y : List (List UInt8)} {a : Addr} (hx : IsTupleKey (bytesKind prg w) h x a) (hy : IsTupleKey (bytesKind prg w) h y a) : x = y := by
  obtain ⟨oa, xs, na, hoa, hca, hda, hia⟩ := hx
  obtain ⟨ob, ys, nb, hob, hcb, hdb, hib⟩ := hy
  rw [hoa] at hob
  cases hob
  rw [hda] at hdb
  cases hdb
  exact hia.inj hib
abbrev pairObj (t : Addr) (z : Int) (u : Tok) (n : Nat) : Obj := { cls := .type "tuple", data := .seq #[.ref t, .int z u] n }
/-- rows picked by their key, told of the values -/
theorem rows_pick {h : Heap} {vs : List Value} {rows : List Row} (x : RowsAre w (fun a o => h.get? a = some o) vs rows) (q : List (List UInt8) → Bool) :
    ∃ p : Value → Bool, (∀ pa t u n k z, h.get? pa = some (pairObj t z u n) → IsTupleKey (bytesKind prg w) h k t → p (.ref pa) = q k) ∧ RowsAre w (fun a o => h.get? a = some o) (vs.filter p) (rows.filter fun r => q r.1) := by
  have hp : ∃ p : Value → Bool, ∀ pa t u n k z, h.get? pa = some (pairObj t z u n) → IsTupleKey (bytesKind prg w) h k t → p (.ref pa) = q k := by
    refine ⟨fun v => @decide (∃ pa t u n k z, v = .ref pa ∧ h.get? pa = some (pairObj t z u n) ∧ IsTupleKey (bytesKind prg w) h k t ∧ q k = true) (Classical.propDecidable _), fun pa t u n k z e1 e2 => ?_⟩
    haveI := Classical.propDecidable
    cases hq : q k with
    | true => exact @decide_eq_true _ (_) ⟨pa, t, u, n, k, z, rfl, e1, e2, hq⟩
    | false =>
      refine @decide_eq_false _ (_) ?_
      rintro ⟨pa', t', u', n', k', z', e, e1', e2', hq'⟩
      cases e
      rw [e1] at e1'
      cases e1'
      rw [tupkey_inj e2 e2'] at hq
      rw [hq] at hq'
      cases hq'
  obtain ⟨p, hp⟩ := hp
  refine ⟨p, hp, ?_⟩
  induction x with
  | nil => exact .nil
  | @cons pa t u n k v vs rows a b _ ih =>
    have e := hp pa t u n k v a b
    cases hq : q k with
    | true =>
      rw [List.filter_cons_of_pos (by rw [e, hq]), List.filter_cons_of_pos (by simpa using hq)]
      exact .cons a b ih
    | false =>
      rw [List.filter_cons_of_neg (by rw [e, hq]; decide), List.filter_cons_of_neg (by simp [hq])]
      exact ih
theorem rows_mem {h : Heap} {vs : List Value} {rows : List Row} (x : RowsAre w (fun a o => h.get? a = some o) vs rows) {v : Value} (hv : v ∈ vs) : ∃ pa t u n k z, v = .ref pa ∧ h.get? pa = some (pairObj t z u n) ∧ IsTupleKey (bytesKind prg w) h k t := by
  obtain ⟨j, hj, e⟩ := List.getElem_of_mem hv
  obtain ⟨pa, t, u, n, k, z, rfl, _, h1, h2⟩ := x.nth (i := j) (v := v) (by rw [List.getElem?_eq_getElem hj, e])
  exact ⟨pa, t, u, n, k, z, rfl, h1, h2⟩
/-- the numbers of rows -/
theorem rows_nums {h : Heap} {vs ys : List Value} {rows : List Row} (x : RowsAre w (fun a o => h.get? a = some o) vs rows) (hp : Paired (fun v y => ∀ pa t z u n, v = .ref pa → h.get? pa = some (pairObj t z u n) → ∃ u', y = .int z u') vs ys) : ys.length = rows.length ∧ ∀ v, rows.head?.map (·.2) = some v → ∃ u, ys.head? = some (.int v u) := by
  refine ⟨(paired_len hp).trans x.length, fun v e => ?_⟩
  cases x with
  | nil => cases e
  | cons a b _ =>
    cases hp with
    | cons f _ =>
      obtain ⟨u', rfl⟩ := f _ _ _ _ _ rfl a
      cases e
      exact ⟨u', rfl⟩
theorem ne_nil {D e : Addr} {ys : Array Value} (h1 : s.heap.IsList D ys) (h2 : s.heap.IsList e #[]) (hu : A.units < cLine) : RcNeAt A s (.ref D) (.ref e) (decide (ys.size ≠ 0)) := by
  by_cases hz : ys.size = 0
  · have := RcNeAt.lists (A := A) (e := fun _ => true) h1 h2 hz hu (fun j i1 i2 => absurd i2 (Nat.not_lt_zero _))
    have e : (decide (ys.size ≠ 0)) = (!(List.range ys.size).all fun _ => true) := by simp [hz]
    rw [e]
    exact this
  · rw [decide_eq_true hz]
    exact RcNeAt.lists_lengths h1 h2 (by simpa using hz) hu

/-! ## a call that may raise and be caught, below the frame -/
theorem aside {g h : Heap} {L : Addr} {m : Str → Option Value} (F : Fr g L h m) :
    ∃ β, (∀ {A : Around} {env : Env}, A.frames = some [env] → env.frame = some L → env.scope.kind = .function → Below A β [env] h) ∧ Ext g β ∧ β.objs.size ≤ h.objs.size ∧ ∀ b o, @Ne Nat b L → h.get? b = some o → β.get? b = some o :=
  have k : ∀ b o, @Ne Nat b L → h.get? b = some o → (hideAll h [L]).get? b = some o := fun b o hb e => hideAll_get _ e fun hm => hb (List.mem_singleton.mp hm)
  ⟨hideAll h [L], fun hA hf hk => ⟨hA, fun b o e => of_hideAll _ e, .cons (by rw [hk]; decide) hf F.ns (hideAll_none _ (.head _)) trivial⟩,
    fun b o e => k b o (Nat.ne_of_lt (Nat.lt_of_lt_of_le (Heap.lt_size e) F.above)) (F.keep b o e), Nat.le_of_eq (hideAll_size _ _), k⟩
theorem aside_back {g h h' β : Heap} {L : Addr} {m : Str → Option Value} {nx : List (Addr × Obj)} (F : Fr g L h m) (N : News g L h nx) (k : ∀ b o, @Ne Nat b L → h.get? b = some o → β.get? b = some o) (st : β.StaysIn h') (u : h.UpToSlots h') :
    Fr g L h' m ∧ News g L h' nx ∧ ∀ b o, @Ne Nat b L → h.get? b = some o → h'.get? b = some o :=
  ⟨⟨u.ns F.ns, fun b o e => st b o (k b o (Nat.ne_of_lt (Nat.lt_of_lt_of_le (Heap.lt_size e) F.above)) (F.keep b o e)), F.above⟩, fun p hp => ⟨st _ _ (k _ _ (N p hp).2.1 (N p hp).1), (N p hp).2⟩, fun b o hb e => st b o (k b o hb e)⟩
theorem kept_but {h h' : Heap} {L : Addr} {m : Str → Option Value} {v : Value} (hn : h.Ns L m) (hm : m (Str.ofString "script") = some v) (k : ∀ b o, @Ne Nat b L → h.get? b = some o → h'.get? b = some o) : Kept h h' :=
  fun b o e hp => k b o (spec_ne (spec_frame hn hm) e hp) e

/-! ## a deed that changes the dictionary -/
def KeptQ (h h' : Heap) : Prop := ∀ a o, h.get? a = some o → (∃ vs n, o.data = .seq vs n) → h'.get? a = some o
theorem seq_tup {h h' : Heap} (k : KeptQ h h') {ls : List (List UInt8)} {t : Addr} (x : IsTupleKey (bytesKind prg w) h ls t) : IsTupleKey (bytesKind prg w) h' ls t :=
  let ⟨o, i, n, a, b, c, d⟩ := x; ⟨o, i, n, k _ _ a ⟨_, _, c⟩, b, c, d⟩
theorem seq_lists {h h' : Heap} (k : KeptQ h h') {vs : List Value} {lss : List (List (List UInt8))} (x : ListsAre w (fun a o => h.get? a = some o) vs lss) : ListsAre w (fun a o => h'.get? a = some o) vs lss := by
  induction x with
  | nil => exact .nil
  | cons a b c d _ ih => exact .cons (k _ _ a ⟨_, _, rfl⟩) b c d ih
theorem seq_rows {h h' : Heap} (k : KeptQ h h') {vs : List Value} {rows : List Row} (x : RowsAre w (fun a o => h.get? a = some o) vs rows) : RowsAre w (fun a o => h'.get? a = some o) vs rows := by
  induction x with
  | nil => exact .nil
  | cons a b _ ih => exact .cons (k _ _ a ⟨_, _, rfl⟩) (let ⟨ot, i, n, q, r, c, d⟩ := b; ⟨ot, i, n, k _ _ q ⟨_, _, c⟩, r, c, d⟩) ih
theorem deed_seq {h h' : Heap} {nd dx d : Addr} {D : List Ent} {md mi : Int} (H : DictAt w h nd dx d D md mi) (k : ∀ b o, b ≠ dx → b ≠ d → h.get? b = some o → h'.get? b = some o) : KeptQ h h' := fun a o e ⟨vs, n, hd⟩ => by
  obtain ⟨t1, t2, t3, u2, u3, hx⟩ := H.dx_at
  obtain ⟨xs, ⟨od, es, ep, h4, h5, h6, _⟩, _⟩ := H.store
  refine k a o (fun q => ?_) (fun q => ?_) e
  · rw [q, hx] at e
    cases e
    cases hd
  · rw [q, h4] at e
    cases e
    rw [h6] at hd
    cases hd
theorem deed_st {h h' : Heap} {nd dx d P R : Addr} {lss : List (List (List UInt8))} {D D' : List Ent} {rows : List Row} {md mi md' mi' : Int} (st : LawSt w h nd dx d P R lss D rows md mi) (k : ∀ b o, b ≠ dx → b ≠ d → h.get? b = some o → h'.get? b = some o) (H' : DictAt w h' nd dx d D' md' mi') :
    LawSt w h' nd dx d P R lss D' rows md' mi' :=
  have q := deed_seq st.dict k
  ⟨H', let ⟨vs, c, a, b⟩ := st.pool; ⟨vs, c, q _ _ a ⟨_, _, rfl⟩, seq_lists q b⟩, let ⟨rv, c, a, b⟩ := st.rows; ⟨rv, c, q _ _ a ⟨_, _, rfl⟩, seq_rows q b⟩⟩
theorem deed_back {g h h' : Heap} {L nd dx d : Addr} {D : List Ent} {md mi : Int} {m : Str → Option Value} {v : Value} {nx : List (Addr × Obj)} (H : DictAt w h nd dx d D md mi) (F : Fr g L h m) (hm : m (Str.ofString "script") = some v) (N : News g L h nx) (k : ∀ b o, b ≠ dx → b ≠ d → h.get? b = some o → h'.get? b = some o) (gx : g.get? dx = none) (gd : g.get? d = none)
    (hs : ∀ p ∈ nx, (∃ v, p.2.data = .cell v) ∨ ∃ fs, p.2.data = .fields fs) : Fr g L h' m ∧ News g L h' nx := by
  obtain ⟨t1, t2, t3, u2, u3, hx⟩ := H.dx_at
  obtain ⟨xs, ⟨od, es, ep, h4, h5, h6, h7, _⟩, _⟩ := H.store
  have px : Plain (ndObj w d md mi t1 t2 t3 u2 u3) := plain_nd
  have pd : Plain od := plain_store h6 h7
  have hL := spec_frame F.ns hm
  refine ⟨⟨let ⟨oL, es, ep, e, r⟩ := F.ns; ⟨oL, es, ep, k _ _ (Ne.symm (spec_ne hL hx px)) (Ne.symm (spec_ne hL h4 pd)) e, r⟩, fun b o e => k b o (fun q => by rw [q, gx] at e; cases e) (fun q => by rw [q, gd] at e; cases e) (F.keep b o e), F.above⟩, fun p hp => ⟨k _ _ (Ne.symm (spec_ne ?_ hx px)) (Ne.symm (spec_ne ?_ h4 pd)) (N p hp).1, (N p hp).2⟩⟩
  · exact ⟨_, (N p hp).1, (hs p hp).imp_right .inl⟩
  · exact ⟨_, (N p hp).1, (hs p hp).imp_right .inl⟩

/-- all of the heap on the ledger, the loop's iterator and the two cells ahead -/
theorem snapI {g h : Heap} {L c1 c2 I : Addr} {m : Str → Option Value} {v : Value} {o1 o2 oI : Obj} {v1 v2 : Option Value} {fs : Array Value} (F : Fr g L h m) (hm : m (Str.ofString "script") = some v) (N : News g L h [(I, oI), (c2, o2), (c1, o1)]) (dI : oI.data = .fields fs) (d2 : o2.data = .cell v2) (d1 : o1.data = .cell v1) :
    ∃ rest, News g L h ((I, oI) :: (c2, o2) :: (c1, o1) :: rest) ∧ (∀ h' m' nx, Fr g L h' m' → News g L h' nx → (∀ p ∈ rest, p ∈ nx) → Kept h h') ∧ (∀ p ∈ rest, @Ne Nat p.1 c1 ∧ @Ne Nat p.1 c2 ∧ @Ne Nat p.1 I) ∧ (∀ b ∈ [L, c2, c1, I], Spec h b) ∧
      ∀ b o, b ∉ [L, c2, c1, I] → h.get? b = some o → g.get? b = some o ∨ (b, o) ∈ rest := by
  have hSI : ∀ b ∈ [I], Spec h b := fun b hb => by rw [List.mem_singleton.mp hb]; exact ⟨_, (N _ (.head _)).1, .inr (.inl ⟨_, dI⟩)⟩
  obtain ⟨rest, Nr, k, off, cov⟩ := snap_cells (c1 := c1) (c2 := c2) F hm (fun p hp => N p (.tail _ hp)) d2 d1 [I] hSI
  refine ⟨rest, fun p hp => ?_, k, fun p hp => ⟨(off p hp).1, (off p hp).2.1, fun q => (off p hp).2.2 (List.mem_singleton.mpr q)⟩, fun b hb => ?_, cov⟩
  · rcases List.mem_cons.mp hp with rfl | hp
    · exact N _ (.head _)
    · exact Nr _ hp
  · simp only [List.mem_cons, List.not_mem_nil, or_false] at hb
    rcases hb with rfl | rfl | rfl | rfl
    · exact spec_frame F.ns hm
    · exact ⟨_, (N _ (.tail _ (.head _))).1, .inl ⟨_, d2⟩⟩
    · exact ⟨_, (N _ (.tail _ (.tail _ (.head _)))).1, .inl ⟨_, d1⟩⟩
    · exact hSI _ (.head _)
theorem news_ned {g h : Heap} {L a b : Addr} {nx : List (Addr × Obj)} {o o' : Obj} (N : News g L h nx) (h1 : (a, o) ∈ nx) (h2 : (b, o') ∈ nx) (hne : o.data ≠ o'.data) : @Ne Nat a b := by
  intro e
  have e1 := (N _ h1).1
  have e2 := (N _ h2).1
  rw [show a = b from e] at e1
  rw [e1] at e2
  cases e2
  exact hne rfl
theorem turn_nameC {M : Model} {A : Around} {E : Value → Shared → Prop} {s : Shared} {g : Heap} {L a I c : Addr} {m : Str → Option Value} {nx : List (Addr × Obj)} {gg : Obj → List (Addr × Obj)} {o : Obj} {v₀ : Option Value} {cn : Str} {cs : Scope} {ccd v : Value} {cl : List (Str × Addr)} {x : Str} {px : Pos} {Q : Unit → Shared → Prop}
    (F : Fr g L s.heap m) (N : News g L s.heap nx) (hc : cl.lookup x = some c) (U : UpdF c o nx gg) (hd : o.data = .cell v₀)
    (h : ∀ h' o', Fr g L h' m → News g L h' (gg o') → o'.data = .cell (some v) → Q () { s with heap := h' })
    (hk : cs.kind = .function := by rfl) (hx : (envX cn cs L a ccd cl).kindOf x = some .cell := by rfl) :
    wpAny M A (letOwnedTupleGo (.Name x px) (.ref I) v) (fun _ s₁ => wpAny M A (assign (.Name x px) (envX cn cs L a ccd cl) v) Q E s₁) E s := by
  refine wpAny_pure ?_
  exact wpAny_assign_Name (storeX_C F N hc U hd h hk hx)
/-- one new object more on the ledger -/
theorem news_add {g h h' : Heap} {L t : Addr} {m : Str → Option Value} {nx : List (Addr × Obj)} {o : Obj} (F : Fr g L h m) (N : News g L h nx) (he : Ext h h') (f : h.get? t = none) (e : h'.get? t = some o) : News g L h' ((t, o) :: nx) ∧ ∀ p ∈ nx, @Ne Nat p.1 t := by
  refine ⟨fun p hp => ?_, fun p hp q => ?_⟩
  · rcases List.mem_cons.mp hp with rfl | hp
    · refine ⟨e, fun q => ?_, ?_⟩
      · obtain ⟨oL, es, ep, e', _⟩ := F.ns
        rw [show t = L from q, e'] at f
        cases f
      · cases q : g.get? t with
        | none => rfl
        | some o' => rw [F.keep _ _ q] at f; cases f
    · exact ⟨he _ _ (N p hp).1, (N p hp).2⟩
  · have := (N p hp).1
    rw [show p.1 = t from q, f] at this
    cases this
theorem isTup_of {h : Heap} {k : List (List UInt8)} {t : Addr} (x : IsTupleKey (bytesKind prg w) h k t) : ∃ ot items n, h.get? t = some ot ∧ ot.cls = .type "tuple" ∧ ot.data = .seq items n ∧ ItemsAre (bytesKind prg w) k items.toList := x
/-- all of the heap but the frame, on the ledger -/
theorem snapL {g h : Heap} {L : Addr} {m : Str → Option Value} (F : Fr g L h m) : ∃ rest, News g L h rest ∧ ∀ h' m' nx, Fr g L h' m' → News g L h' nx → (∀ p ∈ rest, p ∈ nx) → ∀ b o, @Ne Nat b L → h.get? b = some o → h'.get? b = some o := by
  obtain ⟨rest, Nr, _, h2⟩ := snap F []
  refine ⟨rest, Nr, fun h' m' nx F' N' hs b o hb e => ?_⟩
  rcases h2 b o hb (by simp) e with q | q
  · exact F'.keep _ _ q
  · exact (N' _ (hs _ q)).1
theorem news_cons {g h : Heap} {L a : Addr} {o : Obj} {nx : List (Addr × Obj)} (N : News g L h nx) (h1 : h.get? a = some o) (h2 : @Ne Nat a L) (h3 : g.get? a = none) : News g L h ((a, o) :: nx) := fun p hp => by
  rcases List.mem_cons.mp hp with rfl | hp
  · exact ⟨h1, h2, h3⟩
  · exact N p hp
theorem new_addr {g h : Heap} {L a : Addr} {m : Str → Option Value} (F : Fr g L h m) (e : h.get? a = none) : @Ne Nat a L ∧ g.get? a = none := by
  constructor
  · intro q
    obtain ⟨oL, es, ep, e', _⟩ := F.ns
    rw [show a = L from q, e'] at e
    cases e
  · cases q : g.get? a with
    | none => rfl
    | some o' => rw [F.keep _ _ q] at e; cases e
end
end Mine
end
section
open PySem PySem.W PyProof.Rows PySem.Calls
namespace Mine
/-- steps of the library's walk up to a comprehension, a call of the text's own, a loop -/
local macro_rules | `(tactic| walk_at "my go") => `(tactic| repeat' (
  ((fail_if_success (with_reducible show wpAny _ _ (eval (Expr.ListComp _ _ _ _) _) _ _ _));
   (fail_if_success (with_reducible show wpAny _ _ (call (Value.ref _) _ _) _ _ _));
   (fail_if_success (with_reducible show wpAny _ _ (call (Value.type _) _ _) _ _ _));
   (fail_if_success (with_reducible show wpAny _ _ (exec (Stmt.For _ _ _ _ _) _) _ _ _));
   (fail_if_success (with_reducible show wpAny _ _ (exec (Stmt.Assign _ (Expr.ListComp _ _ _ _) _) _) _ _ _));
   (fail_if_success (with_reducible show wpAny _ _ (pyIter _) _ _ _));
   (fail_if_success (with_reducible show wpAny _ _ (getMethod (Value.ref _) (PySem.Str.ofString "values") _) _ _ _));
   (fail_if_success (with_reducible show wpAny _ _ (getMethod (Value.ref _) (PySem.Str.ofString "pop") _) _ _ _));
   (first | (k_unfold; (try dsimp only)) | walk1 | (dsimp only; walk1)))))
local macro_rules | `(tactic| k_inst) => `(tactic| exact inst_base (by k_asm) (by assumption))
/-- a name's value out of the frame's facts -/
local macro_rules | `(tactic| walk_at "my look") => `(tactic| first
  | assumption
  | exact if_pos rfl
  | exact rfl
  | (refine (if_neg (by decide)).trans ?_; walk_at "my look"))
local macro_rules | `(tactic| walk_at "eval Name") => `(tactic| (k_here; k_dflt (refine' ld ?k1 ?k2 ?_; (case k1 => k_asm); (case k2 => walk_at "my look"); k_whole)))
local macro_rules | `(tactic| walk_at "loadName") => `(tactic| (k_here; k_dflt (refine' ldn ?k1 ?k2 ?_; (case k1 => k_asm); (case k2 => walk_at "my look"); k_whole)))
local macro_rules | `(tactic| walk_at "eval Name") => `(tactic| ((with_reducible show wpAny _ _ (eval (Expr.Name _ _) (compEnvC _ _ _ _)) _ _ _); k_dflt (refine ldVarK (by assumption) (by assumption) ?_)))

section
variable {w : World} {p : Program} {loose : List Str} {mean : ExcName → Option Value} {mg mb : Str → Option Value} {A : Around} {s : Shared} {Q E : Value → Shared → Prop}
/-- what stands between the law's deeds -/
def LawJ (w : World) (g : Heap) (L c1 c2 nd dx d P : Addr) (lss : List (List (List UInt8))) (a : Addr) (i : Nat) (m : Str → Option Value) (nx : List (Addr × Obj)) : Prop :=
  ∃ (h₀ : Heap) (S : List Addr) (R : Addr) (D : List Ent) (rows : List Row) (md mi : Int) (o1 o2 : Obj) (v1 v2 : Option Value), (∀ b ∈ S, Spec h₀ b) ∧ (∀ b o, b ∉ S → h₀.get? b = some o → g.get? b = some o ∨ (b, o) ∈ nx) ∧
    LawSt w h₀ nd dx d P R lss D rows md mi ∧ Deep D md ∧ Rel D rows ∧ rows.length ≤ i ∧
    m (Str.ofString "script") = some (.ref a) ∧ m (Str.ofString "pool") = some (.ref P) ∧ m (Str.ofString "names") = some (.ref nd) ∧ m (Str.ofString "rows") = some (.ref R) ∧
    (c1, o1) ∈ nx ∧ (c2, o2) ∈ nx ∧ o1.data = .cell v1 ∧ o2.data = .cell v2
theorem turn_nameX {M : Model} {A : Around} {E : Value → Shared → Prop} {s : Shared} {g : Heap} {L a I : Addr} {m : Str → Option Value} {nx : List (Addr × Obj)} {cn : Str} {cs : Scope} {ccd v : Value} {cl : List (Str × Addr)} {x : Str} {px : Pos} {Q : Unit → Shared → Prop}
    (F : Fr g L s.heap m) (N : News g L s.heap nx)
    (h : ∀ h', Fr g L h' (fun y => if y = x then some v else m y) → News g L h' nx → Q () { s with heap := h', toks := s.toks + 1 })
    (hk : cs.kind = .function := by rfl) (hl : (envX cn cs L a ccd cl).kindOf x = some .local := by rfl) :
    wpAny M A (letOwnedTupleGo (.Name x px) (.ref I) v) (fun _ s₁ => wpAny M A (assign (.Name x px) (envX cn cs L a ccd cl) v) Q E s₁) E s := by
  refine wpAny_pure ?_
  exact wpAny_assign_Name (storeX_L F N h hk hl)
/-- behind the deed -/
def Mid (w : World) (s₁ : Shared) (L c1 c2 I : Addr) (oI o2 o1 : Obj) (nd dx d P : Addr) (lss : List (List (List UInt8))) (a l : Addr) (bs : Array Value) (c' : Nat) (val : Int) (i : Nat) (s' : Shared) : Prop :=
  ∃ (h : Heap) (tk : Nat) (m : Str → Option Value) (R : Addr) (D : List Ent) (rows : List Row) (md mi : Int) (tv ti : Tok), s' = { s₁ with heap := h, toks := tk } ∧ Fr s₁.heap L h m ∧ News s₁.heap L h [(I, oI), (c2, o2), (c1, o1)] ∧
    LawSt w h nd dx d P R lss D rows md mi ∧ Deep D md ∧ Rel D rows ∧ rows.length ≤ i + 1 ∧
    m (Str.ofString "script") = some (.ref a) ∧ m (Str.ofString "pool") = some (.ref P) ∧ m (Str.ofString "names") = some (.ref nd) ∧ m (Str.ofString "rows") = some (.ref R) ∧ m (Str.ofString "value") = some (.int val tv) ∧ m (Str.ofString "labels") = some (.ref l) ∧ m (Str.ofString "k") = some (.int (i : Int) ti) ∧
    h.get? l = some (PySem.W.listOf bs c')
theorem rows_snoc {M : Addr → Obj → Prop} {vs : List Value} {rows : List Row} {pa t : Addr} {u : Tok} {n : Nat} {k : List (List UInt8)} {v : Int} (x : RowsAre w M vs rows) (a : M pa (pairObj t v u n)) (b : ∃ ot items n', M t ot ∧ ot.cls = .type "tuple" ∧ ot.data = .seq items n' ∧ ItemsAre (bytesKind prg w) k items.toList) : RowsAre w M (vs ++ [.ref pa]) (rows ++ [(k, v)]) := by
  induction x with
  | nil => exact .cons a b .nil
  | cons a' b' _ ih => exact .cons a' b' ih
theorem rest_len (rows : List Row) (k : List (List UInt8)) : (rest rows k).length ≤ rows.length := List.length_filter_le _ _
theorem three_cells {I c2 c1 : Addr} {oI o2 o1 : Obj} {fs : Array Value} {v1 v2 : Option Value} (dI : oI.data = .fields fs) (d2 : o2.data = .cell v2) (d1 : o1.data = .cell v1) : ∀ p ∈ [(I, oI), (c2, o2), (c1, o1)], (∃ v, p.2.data = .cell v) ∨ ∃ fs, p.2.data = .fields fs := fun p hp => by
  simp only [List.mem_cons, List.not_mem_nil, or_false] at hp
  rcases hp with rfl | rfl | rfl
  · exact .inr ⟨_, dI⟩
  · exact .inl ⟨_, d2⟩
  · exact .inl ⟨_, d1⟩
theorem items_take {w : World} {ls : List (List UInt8)} {vs : List Value} (h : ItemsAre (bytesKind prg w) ls vs) : ∀ k, ItemsAre (bytesKind prg w) (ls.take k) (vs.take k) := by
  induction h with
  | nil => intro k; simp; exact .nil
  | cons a b ih =>
    intro k
    cases k with
    | zero => exact .nil
    | succ k => exact .cons a (ih k)
theorem good_take {ls : List (List UInt8)} (hg : Good ls) (k : Nat) : Good (ls.take k) :=
  ⟨by have := hg.len; rw [List.length_take]; omega, fun b hb => hg.short b (List.mem_of_mem_take hb), fun j hj e => by
    rw [List.length_take] at hj
    rw [List.getElem?_take_of_lt (by omega)] at e
    exact hg.last j (by omega) e⟩
theorem match_ext {h h' : Heap} {v : Value} {o : Option (List (List UInt8) × Int)} (x : MatchAt w h v o) (e : Ext h h') : MatchAt w h' v o := by
  cases o with
  | none => exact x
  | some p =>
    obtain ⟨r, l, u, n, vs, c, a, b, d, f⟩ := x
    exact ⟨r, l, u, n, vs, c, a, e _ _ b, e _ _ d, f⟩
end
/-- the same, and up to an if -/
local macro_rules | `(tactic| walk_at "my ga") => `(tactic| repeat' (
  ((fail_if_success (with_reducible show wpAny _ _ (exec (Stmt.If _ _ _ _) _) _ _ _));
   (fail_if_success (with_reducible show wpAny _ _ (eval (Expr.ListComp _ _ _ _) _) _ _ _));
   (fail_if_success (with_reducible show wpAny _ _ (call (Value.ref _) _ _) _ _ _));
   (fail_if_success (with_reducible show wpAny _ _ (call (Value.type _) _ _) _ _ _));
   (fail_if_success (with_reducible show wpAny _ _ (call (Value.builtin "len") _ _) _ _ _));
   (fail_if_success (with_reducible show wpAny _ _ (subscriptTail _ _ _ _) _ _ _));
   (fail_if_success (with_reducible show wpAny _ _ (compareOp _ (Value.ref _) _) _ _ _));
   (fail_if_success (with_reducible show wpAny _ _ (binaryOp _ (Value.ref _) _) _ _ _));
   (fail_if_success (with_reducible show wpAny _ _ (setItem (Value.ref _) _ _) _ _ _));
   (fail_if_success (with_reducible show wpAny _ _ (exec (Stmt.For _ _ _ _ _) _) _ _ _));
   (fail_if_success (with_reducible show wpAny _ _ (exec (Stmt.Assign _ (Expr.ListComp _ _ _ _) _) _) _ _ _));
   (fail_if_success (with_reducible show wpAny _ _ (pyIter _) _ _ _));
   (first | (k_unfold; (try dsimp only)) | walk1 | (dsimp only; walk1)))))
local macro_rules | `(tactic| walk_at "my gb") => `(tactic| ((walk_at "my ga"); (all_goals try (first | (with_reducible show Str; exact Str.ofString "") | (with_reducible show Addr; exact (0 : Nat)) | (with_reducible show Value; exact Value.none)))))
/-- into an if, too -/
local macro_rules | `(tactic| walk_at "my gc") => `(tactic| (
  (repeat' (
  ((fail_if_success (with_reducible show wpAny _ _ (eval (Expr.ListComp _ _ _ _) _) _ _ _));
   (fail_if_success (with_reducible show wpAny _ _ (call (Value.ref _) _ _) _ _ _));
   (fail_if_success (with_reducible show wpAny _ _ (call (Value.type _) _ _) _ _ _));
   (fail_if_success (with_reducible show wpAny _ _ (call (Value.builtin "len") _ _) _ _ _));
   (fail_if_success (with_reducible show wpAny _ _ (subscriptTail _ _ _ _) _ _ _));
   (fail_if_success (with_reducible show wpAny _ _ (compareOp _ (Value.ref _) _) _ _ _));
   (fail_if_success (with_reducible show wpAny _ _ (binaryOp _ (Value.ref _) _) _ _ _));
   (fail_if_success (with_reducible show wpAny _ _ (setItem (Value.ref _) _ _) _ _ _));
   (fail_if_success (with_reducible show wpAny _ _ (exec (Stmt.For _ _ _ _ _) _) _ _ _));
   (fail_if_success (with_reducible show wpAny _ _ (exec (Stmt.Assign _ (Expr.ListComp _ _ _ _) _) _) _ _ _));
   (fail_if_success (with_reducible show wpAny _ _ (pyIter _) _ _ _));
   (first | (k_unfold; (try dsimp only)) | walk1 | (dsimp only; walk1)))));
   (all_goals try (first | (with_reducible show Str; exact Str.ofString "") | (with_reducible show Addr; exact (0 : Nat)) | (with_reducible show Value; exact Value.none)))))
/-- a name of the law's own frame -/
local macro_rules | `(tactic| walk_at "eval Name") => `(tactic| ((with_reducible show wpAny _ _ (eval (Expr.Name _ _) (envOfC _ _ _ _ _)) _ _ _); k_dflt (first
  | (refine' nameX_L ?F ?v ?_ ?a ?b; (case a => rfl); (case b => rfl); (case F => k_asm); (case v => walk_at "my look"))
  | (refine' nameX_C ?N ?c ?m ?d ?_ ?a ?b; (case a => rfl); (case b => rfl); (case N => k_asm); (case c => rfl); (case m => k_mem); (case d => k_asm))
  | (refine' nameX_K ?F ?X ?T ?e ?_ ?a ?b; (case a => rfl); (case b => rfl); (case F => k_asm); (case X => k_asm); (case T => k_asm); (case e => k_is); k_whole)
  | (refine' nameX_B ?F ?X ?T ?e ?v ?n ?_ ?a ?b; (case a => rfl); (case b => rfl); (case F => k_asm); (case X => k_asm); (case T => k_asm); (case e => k_is); (case v => boot_fast); (case n => decide); k_whole))))
/-- a cell of the law's frame, read in a comprehension -/
local macro_rules | `(tactic| walk_at "eval Name") => `(tactic| ((with_reducible show wpAny _ _ (eval (Expr.Name _ _) (compEnvC _ _ _ _)) _ _ _); k_dflt (refine' lcf_cell ?N ?c ?m ?d ?_ ?a ?b; (case a => rfl); (case b => rfl); (case N => k_asm); (case c => rfl); (case m => k_mem); (case d => k_asm))))
theorem none_of_keep {g h : Heap} {a : Addr} (k : Ext g h) (e : h.get? a = none) : g.get? a = none := by
  cases q : g.get? a with
  | none => rfl
  | some o => rw [k _ _ q] at e; cases e
theorem range_fields {h : Heap} {I : Addr} {a b c : Int} {oI : Obj} (x : IsRangeIter h I a b c) (e : h.get? I = some oI) : ∃ fs, oI.data = .fields fs := by
  rw [show h.get? I = some _ from x] at e
  cases e
  exact ⟨_, rfl⟩
theorem law_holds : PySem.Challenge.rw_ab5010_01.Holds := hd (by
  k_go0
  rename_i w₀ s₀ s₁ mg mb G Y fa o pm doc ho hg KX X V GL T B TE TW w11 w10 M w9 w8 hcd zs hs hlay0 hL1 hr1 hl2 w6 w5 a xs w2 hL ra w1 r0 hI hr hlen63 hc K0 hD h₁ tk₁ F oc2 oc1 left right N X0
  walk_at "my go"
  all_goals try (first | (show Str; exact Str.ofString "") | (show Addr; exact (0 : Nat)) | (show Value; exact Value.none))
  refine pool_ok (T.keeps F.keep) rfl (by k_room) ⟨_, F.keep _ _ hL.choose_spec.1, hL.choose_spec.2⟩ hI (by omega) (fun h₂ tk₂ P vs c lss he₂ hP hlss hlenp => ?_) (KX.keeps F.keep)
  have F₂ := F.keeps he₂
  have N₂ := news_keeps N he₂
  obtain ⟨rest, Nr, k₂, _, _⟩ := snap_cells F₂ (v := .ref a) rfl N₂ left right [] (fun b hb => by cases hb)
  clear F N
  walk_at "my go"
  (with_reducible rename Fr _ _ _ _ => F₃)
  (with_reducible rename News _ _ _ _ => N₃)
  have k₃ := k₂ _ _ _ F₃ N₃ fun p hp => .tail _ (.tail _ hp)
  clear k₂
  refine ctor_ok (T.keeps F₃.keep) rfl (by k_room) (fun h₄ tk₄ nd dx d he₄ hD₄ hnd hdx hd_ => ?_) (KX.keeps F₃.keep)
  have nd0 := none_of_keep F₃.keep hnd
  have dx0 := none_of_keep F₃.keep hdx
  have d0 := none_of_keep F₃.keep hd_
  clear hnd hdx hd_
  have F₄ := F₃.keeps he₄
  have N₄ := news_keeps N₃ he₄
  have k₄ := k₃.trans (Kept.ext he₄)
  clear F₃ N₃ k₃
  obtain ⟨rest₄, Nr, k₅, _, _⟩ := snap_cells F₄ (v := .ref a) rfl (fun p hp => N₄ p (by rcases List.mem_cons.mp hp with rfl | hp; exact .head _; rw [List.mem_singleton.mp hp]; exact .tail _ (.head _))) left right [] (fun b hb => by cases hb)
  clear N₄
  walk_at "my go"
  (with_reducible rename Fr _ _ _ _ => F₅)
  (with_reducible rename News _ _ _ _ => N₅)
  refine for_head ?_
  walk_at "my go"
  all_goals try (first | (show Str; exact Str.ofString "") | (show Addr; exact (0 : Nat)) | (show Value; exact Value.none))
  rw [show (if (zs.length : Int) < 16 then (zs.length : Int) else 16) = ((min 16 zs.length : Nat) : Int) by split <;> omega]
  (with_reducible rename Fr _ _ _ _ => F₅')
  (with_reducible rename News _ _ _ _ => N₅')
  refine range1_rows F₅' N₅' fun h₆ tk₆ t₁ u₁ v₁ hr F₆ N₆ he₆ => ?_
  have k₆ := k₄.trans (k₅ _ _ _ F₆ N₆ fun p hp => .tail _ (.tail _ (.tail _ hp)))
  have st₆ : LawSt w₀ h₆ nd dx d P _ lss [] [] 0 0 := ⟨kept_dict (k₅ _ _ _ F₆ N₆ fun p hp => .tail _ (.tail _ (.tail _ hp))) hD₄, ⟨vs, c, k₆ _ _ hP (plain_seq rfl), kept_lists k₆ hlss⟩, ⟨_, 0, (N₆ _ (.head _)).1, .nil⟩⟩
  obtain ⟨rest₆, Nr₆, _, _, hrest₆⟩ := snap_cells F₆ (v := .ref a) rfl (fun p hp => N₆ p (by rcases List.mem_cons.mp hp with rfl | hp; exact .tail _ (.head _); rw [List.mem_singleton.mp hp]; exact .tail _ (.tail _ (.head _)))) left right [] (fun b hb => by cases hb)
  refine for_range (n := min 16 zs.length) (LawJ w₀ s₁.heap s₁.heap.objs.size (s₁.heap.objs.size + 1 + 1) (s₁.heap.objs.size + 1) nd dx d P lss a) rfl hr (small_one (by decide) (by decide) (by omega) (by omega)) (by rw [rangeSize_nat]; omega) F₆ Nr₆ ?_ ?_ ?_
  · refine ⟨h₆, [s₁.heap.objs.size, s₁.heap.objs.size + 1 + 1, s₁.heap.objs.size + 1], _, [], [], 0, 0, oc2, oc1, _, _, fun b hb => ?_, fun b o hb e => (hrest₆ b o hb e).imp_right fun q => .tail _ (.tail _ q), st₆, ⟨Int.le_refl 0, fun e he => by cases he⟩, rel_nil, Nat.le_refl 0, rfl, rfl, rfl, rfl, .head _, .tail _ (.head _), left, right⟩
    simp only [List.mem_cons, List.not_mem_nil, or_false] at hb
    rcases hb with rfl | rfl | rfl
    · exact spec_frame F₆.ns (v := .ref a) rfl
    · exact ⟨_, (Nr₆ _ (.head _)).1, .inl ⟨_, left⟩⟩
    · exact ⟨_, (Nr₆ _ (.tail _ (.head _))).1, .inl ⟨_, right⟩⟩
  · intro I i ti m₁ nx h₇ tk₇ oI hi hJ hnx hIt F₇ N₇
    obtain ⟨h₀, S, R, D, rows, md, mi, o2, o1, v2, v1, hS, hsub, st, hdeep, hrel, hrl, m1, m2, m3, m4, n2, n1, d2, d1⟩ := hJ
    replace F₇ : Fr s₁.heap s₁.heap.objs.size h₇ m₁ := F₇
    replace N₇ : News s₁.heap s₁.heap.objs.size h₇ ((I, oI) :: nx) := N₇
    have kk : Kept h₀ h₇ := fun b o e hp => (hsub b o (fun hb => spec_ne (hS b hb) e hp rfl) e).elim (fun q => F₇.keep _ _ q) fun q => (N₇ _ (.tail _ q)).1
    have st₇ := kept_st kk st
    obtain ⟨fI, dI⟩ : ∃ fs, oI.data = .fields fs := range_fields hIt (N₇ _ (.head _)).1
    obtain ⟨rest₇, N₈, k₇, off₇, _, _⟩ := snapI (c1 := s₁.heap.objs.size + 1) (c2 := s₁.heap.objs.size + 1 + 1) F₇ m1 (fun p hp => by
      rcases List.mem_cons.mp hp with rfl | hp
      · exact N₇ _ (.head _)
      rcases List.mem_cons.mp hp with rfl | hp
      · exact N₇ _ (.tail _ n2)
      rw [List.mem_singleton.mp hp]; exact N₇ _ (.tail _ n1)) dI d2 d1
    rw [show ((0:Int)+(i:Int)) = ((i:Nat):Int) by omega]
    refine turn_nameX F₇ N₈ fun h₈ F₈ N₉ => ?_
    clear N₈ F₇ N₇ kk n1 n2 st hS hsub hIt hnx G Y X V GL B TE TW M
    walk_at "my ga"
    all_goals try (first | (show Str; exact Str.ofString "") | (show Addr; exact (0 : Nat)) | (show Value; exact Value.none))
    have hi16 : i < zs.length ∧ i < 16 := by omega
    obtain ⟨z, tz, hz⟩ : ∃ z tz, xs.toArray[((i : Nat) : Int).toNat]? = some (.int z tz) := by
      have hlen := hI.sizeZ
      rw [List.size_toArray] at hlen
      have hlt : i < xs.length := by omega
      obtain ⟨z, t, e, _⟩ := hI.at i xs[i] (List.getElem?_eq_getElem hlt)
      refine ⟨z, t, ?_⟩
      rw [show ((i : Nat) : Int).toNat = i by omega, List.getElem?_toArray, List.getElem?_eq_getElem hlt, e]
    refine item_list ⟨_, F₈.keep _ _ hL.choose_spec.1, hL.choose_spec.2⟩ (by omega) (by omega) hz ?_
    clear hz
    walk_at "my gb"
    (with_reducible rename Fr _ _ _ _ => F₉)
    (with_reducible rename News _ _ _ _ => N₁₀)
    (try clear F₈); (try clear N₉)
    obtain ⟨vs, c, hP, hlss⟩ := st₇.pool
    have hvs : (vs.size : Int) = lss.length := by rw [← Array.length_toList, hlss.length]
    refine len_list ⟨_, k₇ _ _ _ F₉ N₁₀ (fun p hp => .tail _ (.tail _ (.tail _ hp))) _ _ hP (plain_seq rfl), rfl, c, rfl⟩ (by omega) ?_
    rw [hvs]
    walk_at "my gb"
    obtain ⟨hq0, hq1⟩ := fmod_range (a := (if z < 0 then -z else z).fdiv 64) (b := (lss.length : Int)) (by omega)
    generalize hval : (if z < 0 then -z else z).fdiv 64 = val at *
    generalize hk : val.fmod (lss.length : Int) = q at *
    obtain ⟨l, bs, c', ls, e1, e2, hl, hits, hgood, hl6⟩ := hlss.nth (i := q.toNat) (by rw [Array.length_toList]; omega)
    refine item_list ⟨_, k₇ _ _ _ F₉ N₁₀ (fun p hp => .tail _ (.tail _ (.tail _ hp))) _ _ hP (plain_seq rfl), rfl, c, rfl⟩ hq0 (by omega) (by rw [← Array.getElem?_toList]; exact e1) ?_
    walk_at "my gb"
    (with_reducible rename Fr _ _ _ _ => F₁₀)
    (with_reducible rename News _ _ _ _ => N₁₁)
    refine lawlow_ok (T.keeps F₁₀.keep) rfl (by k_room) ⟨bs.toList, .inl ⟨_, k₇ _ _ _ F₁₀ N₁₁ (fun p hp => .tail _ (.tail _ (.tail _ hp))) _ _ hl (plain_seq rfl), rfl, c', rfl⟩, hits⟩ hgood.short hgood.len (fun h₂ tk₂ t he₂ ht ht0 => ?_) (KX.keeps F₁₀.keep)
    have F₁₁ := F₁₀.keeps he₂
    have N₁₂ := news_keeps N₁₁ he₂
    obtain ⟨ot, items, nt, hot, hotc, hotd, hoti⟩ := id ht
    obtain ⟨N₁₃, hnt⟩ := news_add F₁₀ N₁₁ he₂ ht0 hot
    have nIc : @Ne Nat I (s₁.heap.objs.size + 1) := news_ned N₁₁ (.head _) (.tail _ (.tail _ (.head _))) (by rw [dI, d1]; nofun)
    have nIc' : @Ne Nat I (s₁.heap.objs.size + 1 + 1) := news_ned N₁₁ (.head _) (.tail _ (.head _)) (by rw [dI, d2]; nofun)
    refine storeX_C F₁₁ N₁₃ (c := s₁.heap.objs.size + 1) rfl (.tail (Ne.symm (hnt _ (.tail _ (.tail _ (.head _))))) (.tail nIc (.tail (by show @Ne Nat _ _; omega) (.head fun p hp => (off₇ p hp).1)))) d1 (fun h₃ o1' F₁₂ N₁₄ d1' => ?_)
    clear F₁₁ F₁₀ N₁₁ N₁₂ N₁₃ ht he₂ hot
    obtain ⟨m, F₁₂, x1, x2, x3, x4, ⟨tv, x5⟩, x6, x7⟩ : ∃ m, Fr s₁.heap s₁.heap.objs.size h₃ m ∧ m (Str.ofString "script") = some (.ref a) ∧ m (Str.ofString "pool") = some (.ref P) ∧ m (Str.ofString "names") = some (.ref nd) ∧ m (Str.ofString "rows") = some (.ref R) ∧ (∃ tv, m (Str.ofString "value") = some (.int val tv)) ∧ m (Str.ofString "labels") = some (.ref l) ∧ m (Str.ofString "k") = some (.int (i : Int) ti) :=
      ⟨_, F₁₂, by walk_at "my look", by walk_at "my look", by walk_at "my look", by walk_at "my look", ⟨_, by walk_at "my look"⟩, by walk_at "my look", by walk_at "my look"⟩
    have htt : IsTupleKey (bytesKind prg w₀) h₃ (low ls) t := ⟨ot, items, nt, (N₁₄ _ (.head _)).1, hotc, hotd, hoti⟩
    have K₃ := k₇ _ _ _ F₁₂ N₁₄ (fun p hp => .tail _ (.tail _ (.tail _ (.tail _ hp))))
    obtain ⟨rv, cr, hR, hrows⟩ := st₇.rows
    have hrsz : rv.size = rows.length := by rw [← Array.length_toList, hrows.length]
    obtain ⟨pT, hpT, hpick⟩ := rows_pick hrows (fun k => decide (k = low ls))
    have hRl : h₃.IsList R rv := ⟨_, K₃ _ _ hR (plain_seq rfl), rfl, cr, rfl⟩
    walk_at "my gb"
    refine comp_eval (cl := [(Str.ofString "low", s₁.heap.objs.size + 1)]) pT (fun v y => y = v) rfl (by decide) rfl (by decide) rfl ?_
    walk_at "my gb"
    refine comp_list (items := rv) rfl hRl (by rw [sizeLine_eq]; omega) ⟨fun C v s₃ m₃ E' hC hS hn hm hk => ?_, fun C v s₃ m₃ E' hC hS hp hn hm hk => ?_⟩ ?_
    · obtain ⟨pa, t', u, n, kk, zz, rfl, hpa, hkk⟩ := rows_mem hrows hS
      rw [hpT _ _ _ _ _ _ hpa hkk]
      have N₃ := news_keeps N₁₄ hk
      have Kc := K₃.trans (Kept.ext hk)
      refine wpAny_tests_one ?_
      walk_at "my gb"
      refine item_tupleT (l := [.ref t', .int zz u]) (j := 0) ⟨_, Kc _ _ hpa (plain_seq rfl), rfl, n, rfl⟩ (by decide) (by decide) rfl rfl ?_
      refine lcf_cell N₃ (c := s₁.heap.objs.size + 1) (o := o1') rfl (.tail _ (.tail _ (.tail _ (.head _)))) d1' ?_ rfl rfl
      refine cmp_eq (rc_tuple (kept_tup Kc hkk) (tupk_ext htt hk) (by show callerA.units + 3 < cLine; decide)) ?_
      walk_at "my gb"
      first
      | exact ⟨rfl, s₃.heap, _, rfl, fun _ _ e => e⟩
      | exact ⟨s₃.heap, _, rfl, fun _ _ e => e⟩
    · refine ldVarK hn hm ?_
      exact ⟨rfl, s₃.heap, _, rfl, fun _ _ e => e⟩
    intro D₁ h₄ tk₄ ys hD hD0 hpair hext
    obtain hys := paired_eq hpair
    have hysz : ys.size = (same rows (low ls)).length := by rw [← Array.length_toList, hys, hpick.length]; rfl
    obtain ⟨oD, hoD, hDc, nD, hDd⟩ := id hD
    obtain ⟨N₁₅, hnD⟩ := news_add F₁₂ N₁₄ hext hD0 hoD
    have F₁₃ := F₁₂.keeps hext
    clear F₁₂ N₁₄
    walk_at "my gb"
    (with_reducible rename Fr _ _ _ _ => F₁₄)
    (with_reducible rename News _ _ _ _ => N₁₆)
    (try clear F₁₃); (try clear N₁₅)
    refine cmp_ne (ne_nil ⟨oD, (N₁₆ _ (.tail _ (.head _))).1, hDc, nD, hDd⟩ ⟨_, (N₁₆ _ (.head _)).1, rfl, 0, rfl⟩ (by show callerA.units + 3 < cLine; decide)) ?_
    rw [show decide (ys.size ≠ 0) = (rowFind rows (low ls)).isSome by
      rw [hysz]
      cases hf : rowFind rows (low ls) with
      | none => rw [same_some.mpr hf]; rfl
      | some v => exact decide_eq_true fun h0 => by rw [same_some.mp (List.eq_nil_of_length_eq_zero h0)] at hf; cases hf]
    walk_at "my gb"
    (with_reducible rename Fr _ _ _ _ => F₁₅)
    (with_reducible rename News _ _ _ _ => N₁₇)
    replace N₁₇ : News s₁.heap s₁.heap.objs.size _ ((t, ot) :: (I, oI) :: (s₁.heap.objs.size + 1 + 1, o2) :: (s₁.heap.objs.size + 1, o1') :: rest₇) := fun p hp => N₁₇ p (.tail _ (.tail _ hp))
    have K₅ := k₇ _ _ _ F₁₅ N₁₇ (fun p hp => .tail _ (.tail _ (.tail _ (.tail _ hp))))
    (try clear F₁₄); (try clear N₁₆)
    clear hD hD0 hpair hext hys hysz hoD hDc hDd hnD hpT hpick hRl K₃ htt
    obtain ⟨pO, hpO, hpickO⟩ := rows_pick hrows (fun k => !decide (k = low ls))
    refine compA_eval (cl := [(Str.ofString "low", s₁.heap.objs.size + 1)]) pO (fun v y => y = v) rfl rfl (by decide) rfl (by decide) rfl rfl rfl ?_
    walk_at "my gb"
    refine compA_list (items := rv) rfl ⟨_, K₅ _ _ hR (plain_seq rfl), rfl, cr, rfl⟩ (by rw [sizeLine_eq]; omega) F₁₅ N₁₇ ⟨fun C v s₃ m₃ E' hC hS hn hm hk => ?_, fun C v s₃ m₃ E' hC hS hp hn hm hk => ?_⟩ ?_
    · obtain ⟨pa, t', u, n, kk, zz, rfl, hpa, hkk⟩ := rows_mem hrows hS
      rw [hpO _ _ _ _ _ _ hpa hkk]
      have N₃ := news_keeps N₁₇ hk
      have Kc := K₅.trans (Kept.ext hk)
      refine wpAny_tests_one ?_
      walk_at "my gb"
      refine item_tupleT (l := [.ref t', .int zz u]) (j := 0) ⟨_, Kc _ _ hpa (plain_seq rfl), rfl, n, rfl⟩ (by decide) (by decide) rfl rfl ?_
      refine lcf_cell N₃ (c := s₁.heap.objs.size + 1) (o := o1') rfl (.tail _ (.tail _ (.tail _ (.head _)))) d1' ?_ rfl rfl
      refine cmp_ne (rcne_tuple (kept_tup Kc hkk) ⟨ot, items, nt, (N₃ _ (.head _)).1, hotc, hotd, hoti⟩ (by show callerA.units + 3 < cLine; decide)) ?_
      walk_at "my gb"
      first
      | exact ⟨rfl, s₃.heap, _, rfl, fun _ _ e => e⟩
      | exact ⟨s₃.heap, _, rfl, fun _ _ e => e⟩
    · refine ldVarK hn hm ?_
      exact ⟨rfl, s₃.heap, _, rfl, fun _ _ e => e⟩
    intro O h₅ tk₅ ov oc F₁₆a N₁₈ hpair hext
    have hov := paired_eq hpair
    rw [← hov] at hpickO
    have hO : (O, PySem.W.listOf ov oc) ∈ (O, PySem.W.listOf ov oc) :: (t, ot) :: (I, oI) :: (s₁.heap.objs.size + 1 + 1, o2) :: (s₁.heap.objs.size + 1, o1') :: rest₇ := .head _
    obtain ⟨m', F₁₆, y1, y2, y3, y4, y5, y6, y7, y8, y9⟩ : ∃ m', Fr s₁.heap s₁.heap.objs.size h₅ m' ∧ m' (Str.ofString "script") = some (.ref a) ∧ m' (Str.ofString "pool") = some (.ref P) ∧ m' (Str.ofString "names") = some (.ref nd) ∧ m' (Str.ofString "rows") = some (.ref R) ∧ m' (Str.ofString "value") = some (.int val tv) ∧ m' (Str.ofString "labels") = some (.ref l) ∧ m' (Str.ofString "k") = some (.int (i : Int) ti) ∧ m' (Str.ofString "there") = some (.bool (rowFind rows (low ls)).isSome) ∧ m' (Str.ofString "others") = some (.ref O) :=
      ⟨_, F₁₆a, by walk_at "my look", by walk_at "my look", by walk_at "my look", by walk_at "my look", by walk_at "my look", by walk_at "my look", by walk_at "my look", by walk_at "my look", by walk_at "my look"⟩
    clear F₁₅ N₁₇ hpair hov hext F₁₆a
    have K₆ := k₇ _ _ _ F₁₆ N₁₈ (fun p hp => .tail _ (.tail _ (.tail _ (.tail _ (.tail _ hp)))))
    have ht : IsTupleKey (bytesKind prg w₀) h₅ (low ls) t := ⟨ot, items, nt, (N₁₈ _ (.tail _ (.head _))).1, hotc, hotd, hoti⟩
    replace hpickO := kept_rows K₆ hpickO
    have st₅ := kept_st K₆ st₇
    have hl₅ := K₆ _ _ hl (plain_seq rfl)
    have hO₅ := (N₁₈ _ (.head _)).1
    replace N₁₈ : News s₁.heap s₁.heap.objs.size h₅ [(I, oI), (s₁.heap.objs.size + 1 + 1, o2), (s₁.heap.objs.size + 1, o1')] := fun p hp => by
      simp only [List.mem_cons, List.not_mem_nil, or_false] at hp
      rcases hp with rfl | rfl | rfl
      · exact N₁₈ _ (.tail _ (.tail _ (.head _)))
      · exact N₁₈ _ (.tail _ (.tail _ (.tail _ (.head _))))
      · exact N₁₈ _ (.tail _ (.tail _ (.tail _ (.tail _ (.head _)))))
    clear K₆ K₅ hO
    walk_at "my gb"
    clear x1 x2 x3 x4 x5 x6 x7 hP hlss hvs hval hk hq0 hq1 e1 e2 hl ht0 hnt hR hrows hrsz hpO st₇ k₇ off₇ d1
    refine wpAny_mono (Q := fun f s' => f = .next ∧ Mid w₀ s₁ s₁.heap.objs.size (s₁.heap.objs.size + 1) (s₁.heap.objs.size + 1 + 1) I oI o2 o1' nd dx d P lss a l bs c' val i s') ?_ ?_ (fun _ _ x => x)
    · walk_at "my gc"
      · refine name_ok (T.keeps F₁₆.keep) rfl (by k_room) ⟨bs.toList, .inl ⟨_, hl₅, rfl, c', rfl⟩, hits⟩ hgood (fun h₆ tk₆ x xdx xt xtk he₆ hx hx0 hxd0 hxt0 => ?_) (KX.keeps F₁₆.keep)
        have F₁₇ := F₁₆.keeps he₆
        have N₁₉ := news_keeps N₁₈ he₆
        have st₆ := kept_st (Kept.ext he₆) st₅
        clear F₁₆ N₁₈
        walk_at "my gc"
        obtain ⟨t1, t2, t3, u2, u3, Ind⟩ := st₆.dict.inst
        refine ksp_setItem F₁₇ KX Ind (by k_is) (by k_is) (by k_is) ?_
        refine setitem_ok T F₁₇.keep nd0 dx0 d0 rfl (by k_room) (by show callerA.units + 3 + 60 < cLine; decide) st₆.dict (by rw [hrel.len]; omega) hdeep hx hgood (fun h₇ tk₇ md' mi' hk hD' hdp' => ?_) KX
        obtain ⟨F₁₈, N₂₀⟩ := deed_back st₆.dict F₁₇ y1 N₁₉ hk dx0 d0 (three_cells dI d2 d1')
        have st₇ := deed_st st₆ hk hD'
        have q := deed_seq st₆.dict hk
        have hO₇ := q _ _ (he₆ _ _ hO₅) ⟨_, _, rfl⟩
        have hr₇ := seq_rows q (hpickO.mono fun a o e => he₆ a o e)
        have ht₇ := seq_tup q (tupk_ext ht he₆)
        have hl₇ := q _ _ (he₆ _ _ hl₅) ⟨_, _, rfl⟩
        clear F₁₇ N₁₉ Ind
        obtain ⟨rest₈, N₂₁, k₈, off₈, _, _⟩ := snapI F₁₈ y1 N₂₀ dI d2 d1'
        clear N₂₀
        walk_at "my gc"
        rename_i D' hh1 l1 l' hh2 F₁₉ N₂₂ l2
        have K₉ := k₈ _ _ _ F₁₉ N₂₂ (fun p hp => .tail _ (.tail _ (.tail _ (.tail _ (.tail _ hp)))))
        have hosz := hr₇.length
        rw [Array.length_toList] at hosz
        have hol : ov.size ≤ rows.length := by rw [hosz]; exact List.length_filter_le _ _
        refine PySem.P.add_list (K₉ _ _ hO₇ (plain_seq rfl)) (N₂₂ _ (.head _)).1 ?_ (by rw [sizeLine_eq]; simp; omega)
        (try dsimp only)
        have F₂₀ := F₁₉.push ({ cls := .type "list", data := .seq (ov ++ #[.ref D']) } : Obj)
        have N₂₃ := N₂₂.push F₁₉ ({ cls := .type "list", data := .seq (ov ++ #[.ref D']) } : Obj)
        (try dsimp only at N₂₃)
        revert F₂₀ N₂₃
        generalize hpe : Heap.push _ _ = h₈
        generalize hse : hh2.objs.size = nl
        intro F₂₀ N₂₃
        clear F₁₉ N₂₂ hpe hse K₉
        walk_at "my gc"
        (with_reducible rename Fr _ _ _ _ => F₂₁)
        (with_reducible rename News _ _ _ _ => N₂₄)
        have K₉ := k₈ _ _ _ F₂₁ N₂₄ (fun p hp => .tail _ (.tail _ (.tail _ (.tail _ (.tail _ (.tail _ hp))))))
        have stf := kept_st K₉ st₇
        have hsn := rows_snoc (kept_rows K₉ hr₇) (N₂₄ _ (.tail _ (.tail _ (.head _)))).1 (kept_tup K₉ ht₇)
        rw [show ov.toList ++ [Value.ref D'] = (ov ++ #[Value.ref D']).toList by simp] at hsn
        refine ⟨_, _, _, nl, _, _, _, _, _, _, rfl, F₂₁, fun p hp => ?_, ⟨stf.dict, stf.pool, ⟨_, _, (N₂₄ _ (.head _)).1, hsn⟩⟩, hdp', rel_put hrel ls i, ?_, by walk_at "my look", by walk_at "my look", by walk_at "my look", by walk_at "my look", by walk_at "my look", by walk_at "my look", by walk_at "my look", K₉ _ _ hl₇ (plain_seq rfl)⟩
        · simp only [List.mem_cons, List.not_mem_nil, or_false] at hp
          rcases hp with rfl | rfl | rfl
          · exact N₂₄ _ (.tail _ (.tail _ (.tail _ (.head _))))
          · exact N₂₄ _ (.tail _ (.tail _ (.tail _ (.tail _ (.head _)))))
          · exact N₂₄ _ (.tail _ (.tail _ (.tail _ (.tail _ (.tail _ (.head _))))))
        · rw [List.length_append]
          have := rest_len rows (low ls)
          show _ + 1 ≤ _
          omega
      · refine name_ok (T.keeps F₁₆.keep) rfl (by k_room) ⟨bs.toList, .inl ⟨_, hl₅, rfl, c', rfl⟩, hits⟩ hgood (fun h₆ tk₆ x xdx xt xtk he₆ hx hx0 hxd0 hxt0 => ?_) (KX.keeps F₁₆.keep)
        have F₁₇ := F₁₆.keeps he₆
        have N₁₉ := news_keeps N₁₈ he₆
        have st₆ := kept_st (Kept.ext he₆) st₅
        clear F₁₆ N₁₈
        walk_at "my gc"
        have hth := rel_some hrel (low ls)
        have hol := rest_len rows (low ls)
        cases hf : find D (low ls) with
        | some e =>
          rw [hf] at hth
          rw [← hth] at y8
          replace y8 : m' (Str.ofString "there") = some (.bool true) := y8
          refine taken_yes T F₁₇.keep (Nat.le_of_lt F₁₇.ns.lt) nd0 dx0 d0 rfl (by k_room) (by show callerA.units + 3 + 100 < cLine; decide) st₆.dict (by rw [hrel.len]; omega) hdeep hx hgood hf (fun h₇ tk₇ md' mi' hk hD' hdp' => ?_) KX
          obtain ⟨F₁₈, N₂₀⟩ := deed_back st₆.dict F₁₇ y1 N₁₉ hk dx0 d0 (three_cells dI d2 d1')
          have st₇ := deed_st st₆ hk hD'
          have q := deed_seq st₆.dict hk
          have hO₇ := q _ _ (he₆ _ _ hO₅) ⟨_, _, rfl⟩
          have hr₇ := seq_rows q (hpickO.mono fun a o e => he₆ a o e)
          have hl₇ := q _ _ (he₆ _ _ hl₅) ⟨_, _, rfl⟩
          clear F₁₇ N₁₉
          obtain ⟨rest₈, N₂₁, k₈, off₈, _, _⟩ := snapI F₁₈ y1 N₂₀ dI d2 d1'
          clear N₂₀
          walk_at "my gc"
          (with_reducible rename Fr _ _ _ _ => F₁₉)
          (with_reducible rename News _ _ _ _ => N₂₂)
          have K₉ := k₈ _ _ _ F₁₉ N₂₂ (fun p hp => .tail _ (.tail _ (.tail _ hp)))
          have stf := kept_st K₉ st₇
          refine ⟨_, _, _, O, _, _, _, _, _, _, rfl, F₁₉, fun p hp => ?_, ⟨stf.dict, stf.pool, ⟨_, _, K₉ _ _ hO₇ (plain_seq rfl), kept_rows K₉ hr₇⟩⟩, hdp', rel_take hrel (low ls), Nat.le_trans hol (by omega), by walk_at "my look", by walk_at "my look", by walk_at "my look", by walk_at "my look", by walk_at "my look", by walk_at "my look", by walk_at "my look", K₉ _ _ hl₇ (plain_seq rfl)⟩
          simp only [List.mem_cons, List.not_mem_nil, or_false] at hp
          rcases hp with rfl | rfl | rfl
          · exact N₂₂ _ (.head _)
          · exact N₂₂ _ (.tail _ (.head _))
          · exact N₂₂ _ (.tail _ (.tail _ (.head _)))
        | none =>
          rw [hf] at hth
          rw [← hth] at y8
          replace y8 : m' (Str.ofString "there") = some (.bool false) := y8
          obtain ⟨β, Kβ, eβ, sβ, kβ⟩ := aside F₁₇
          have KK := kept_but F₁₇.ns y1 kβ
          refine taken_no (Kβ rfl rfl rfl) sβ (T.keeps eβ) rfl (by k_room) (by show callerA.units + 3 + 100 < cLine; decide) (kept_dict KK st₆.dict) (by rw [hrel.len]; omega) (kept_name KK hx) hgood hf (fun h₇ tk₇ sst u => ?_) (KX.keeps eβ)
          obtain ⟨F₁₈, N₂₀, ka⟩ := aside_back F₁₇ N₁₉ kβ sst u
          have KK' := (Kept.ext he₆).trans (kept_but F₁₇.ns y1 ka)
          clear F₁₇ N₁₉ Kβ eβ sβ kβ KK
          obtain ⟨rest₈, N₂₁, k₈, off₈, _, _⟩ := snapI F₁₈ y1 N₂₀ dI d2 d1'
          clear N₂₀
          walk_at "my gc"
          (with_reducible rename Fr _ _ _ _ => F₁₉)
          (with_reducible rename News _ _ _ _ => N₂₂)
          have K₉ := KK'.trans (k₈ _ _ _ F₁₉ N₂₂ (fun p hp => .tail _ (.tail _ (.tail _ hp))))
          have stf := kept_st K₉ st₅
          have hrn : Mine.rest rows (low ls) = rows := rest_none ((rel_none hrel _).mp hf)
          refine ⟨_, _, _, O, _, _, _, _, _, _, rfl, F₁₉, fun p hp => ?_, ⟨stf.dict, stf.pool, ⟨_, _, K₉ _ _ hO₅ (plain_seq rfl), kept_rows K₉ hpickO⟩⟩, hdeep, (show Rel D (Mine.rest rows (low ls)) by rw [hrn]; exact hrel), Nat.le_trans hol (by omega), by walk_at "my look", by walk_at "my look", by walk_at "my look", by walk_at "my look", by walk_at "my look", by walk_at "my look", by walk_at "my look", K₉ _ _ hl₅ (plain_seq rfl)⟩
          simp only [List.mem_cons, List.not_mem_nil, or_false] at hp
          rcases hp with rfl | rfl | rfl
          · exact N₂₂ _ (.head _)
          · exact N₂₂ _ (.tail _ (.head _))
          · exact N₂₂ _ (.tail _ (.tail _ (.head _)))
      · exact ⟨_, _, _, _, _, _, _, _, _, _, rfl, F₁₆, N₁₈, st₅, hdeep, hrel, by omega, y1, y2, y3, y4, y5, y6, y7, hl₅⟩
    · intro f s' hMid
      obtain ⟨rfl, h₆, tk₆, m₆, R', D', rows', md', mi', tv', ti', rfl, F₆, N₆, st₆, hdeep', hrel', hrl', z1, z2, z3, z4, z5, z6, z7, hl₆⟩ := hMid
      clear F₁₆ N₁₈ st₅ hdeep hrel hrl y1 y2 y3 y4 y5 y6 y7 y8 y9 ht hpickO hl₅ hO₅
      obtain ⟨rest₆', N₇, k₆', off₆, _, _⟩ := snapI F₆ z1 N₆ dI d2 d1'
      clear N₆
      dsimp only
      walk_at "my gc"
      obtain ⟨t1, t2, t3, u2, u3, Ind⟩ := st₆.dict.inst
      refine len_K F₆ KX Ind (by k_is) (by k_is) ?_
      clear Ind
      have hdl : D'.length ≤ 100 := by rw [hrel'.len]; omega
      refine dictlen_ok (T.keeps F₆.keep) rfl (by k_room) (by show callerA.units + 3 + 1 + 60 < cLine; decide) st₆.dict hdl (fun h₇ tk₇ u₇ he₇ => ?_) (KX.keeps F₆.keep)
      refine ⟨⟨by omega, by omega⟩, ?_⟩
      have F₇ := F₆.keeps he₇
      have N₈ := news_keeps N₇ he₇
      have st₇ := kept_st (Kept.ext he₇) st₆
      clear F₆ N₇
      walk_at "my gc"
      obtain ⟨rv, cr, hR, hrows⟩ := st₇.rows
      have hrsz : (rv.size : Int) = D'.length := by rw [← Array.length_toList, hrows.length, hrel'.len]
      refine len_list ⟨_, hR, rfl, cr, rfl⟩ (by omega) ?_
      rw [hrsz]
      walk_at "my gc"
      · rename_i hbad
        simp at hbad
      obtain ⟨β, Kβ, eβ, sβ, kβ⟩ := aside F₇
      refine refused_ok (Kβ rfl rfl rfl) sβ (T.keeps eβ) rfl (by k_room) (kept_dict (kept_but F₇.ns z1 kβ) st₇.dict) (fun h₈ tk₈ sst u => ?_) (KX.keeps eβ)
      obtain ⟨F₈, N₉, ka⟩ := aside_back F₇ N₈ kβ sst u
      clear F₇ N₈ Kβ eβ sβ kβ
      walk_at "my gc"
      clear ka hrows hR hrsz
      obtain ⟨vs, c, hP, hlss⟩ := st₆.pool
      have hvs : (vs.size : Int) = lss.length := by rw [← Array.length_toList, hlss.length]
      refine for_head ?_
      walk_at "my gc"
      refine len_list ⟨_, k₆' _ _ _ F₈ N₉ (fun p hp => .tail _ (.tail _ (.tail _ hp))) _ _ hP (plain_seq rfl), rfl, c, rfl⟩ (by omega) ?_
      rw [hvs]
      walk_at "my gc"
      obtain ⟨hq0, hq1⟩ := fmod_range (a := val + (i : Int)) (b := (lss.length : Int)) (by omega)
      generalize hk : (val + (i : Int)).fmod (lss.length : Int) = q at *
      obtain ⟨lB, bB, cB, lsB, eB1, eB2, hlB, hitsB, hgoodB, hlB6⟩ := hlss.nth (i := q.toNat) (by rw [Array.length_toList]; omega)
      refine item_list ⟨_, k₆' _ _ _ F₈ N₉ (fun p hp => .tail _ (.tail _ (.tail _ hp))) _ _ hP (plain_seq rfl), rfl, c, rfl⟩ hq0 (by omega) (by rw [← Array.getElem?_toList]; exact eB1) ?_
      walk_at "my gc"
      rename_i lb1 hh1 F₉ N₁₀ lt1
      obtain ⟨tb, N₁₀⟩ : ∃ tb : Tok, News s₁.heap s₁.heap.objs.size hh1 ((lb1, PySem.W.listOf #[.bytes [98].toArray tb] 0) :: (I, oI) :: (s₁.heap.objs.size + 1 + 1, o2) :: (s₁.heap.objs.size + 1, o1') :: rest₆') := ⟨_, N₁₀⟩
      refine slice_list (lo := none) (hi := some ((5 : Nat) : Int)) F₉ N₁₀ ⟨_, k₆' _ _ _ F₉ N₁₀ (fun p hp => .tail _ (.tail _ (.tail _ (.tail _ hp)))) _ _ hl₆ (plain_seq rfl), rfl, c', rfl⟩ .none (.int _ _) (fun h₉ F₁₀ N₁₁ => ?_) (hsz := by rw [sizeLine_eq, ← Array.length_toList, ← hits.length]; omega)
      rw [slicePick_upto'] at N₁₁
      (try dsimp only at N₁₁ ⊢)
      revert N₁₁
      generalize hse : hh1.objs.size + 1 = sl
      intro N₁₁
      clear F₉ N₁₀ hse
      walk_at "my gc"
      refine PySem.P.add_list (N₁₁ _ (.tail _ (.head _))).1 (N₁₁ _ (.head _)).1 ?_ (by rw [sizeLine_eq]; simp; omega)
      (try dsimp only)
      have F₁₁ := F₁₀.push ({ cls := .type "list", data := .seq (#[.bytes [98].toArray tb] ++ (bs.toList.take 5).toArray) } : Obj)
      have N₁₂ := N₁₁.push F₁₀ ({ cls := .type "list", data := .seq (#[.bytes [98].toArray tb] ++ (bs.toList.take 5).toArray) } : Obj)
      revert F₁₁ N₁₂
      generalize hpe : Heap.push _ _ = h₁₀
      generalize hse : h₉.objs.size = lC
      intro F₁₁ N₁₂
      clear F₁₀ N₁₁ hpe hse
      walk_at "my gc"
      obtain ⟨lD, bD, cD, lsD, eD1, _, hlD, hitsD, hgoodD, hlD6⟩ := hlss.nth (i := i) (by rw [Array.length_toList]; omega)
      refine item_list ⟨_, k₆' _ _ _ F₁₁ N₁₂ (fun p hp => .tail _ (.tail _ (.tail _ (.tail _ (.tail _ (.tail _ hp)))))) _ _ hP (plain_seq rfl), rfl, c, rfl⟩ (by omega) (by omega) (by rw [show ((i : Nat) : Int).toNat = i by omega, ← Array.getElem?_toList]; exact eD1) ?_
      walk_at "my gc"
      rename_i le hh2 lt2 t5 h₁₁ F₁₂ N₁₃ lt3
      obtain ⟨rest₁₁, N₁₄, k₁₁, off₁₁, hSp, cov⟩ := snapI F₁₂ z1 (fun p hp => by
        simp only [List.mem_cons, List.not_mem_nil, or_false] at hp
        rcases hp with rfl | rfl | rfl
        · exact N₁₃ _ (.tail _ (.tail _ (.tail _ (.tail _ (.tail _ (.head _))))))
        · exact N₁₃ _ (.tail _ (.tail _ (.tail _ (.tail _ (.tail _ (.tail _ (.head _)))))))
        · exact N₁₃ _ (.tail _ (.tail _ (.tail _ (.tail _ (.tail _ (.tail _ (.tail _ (.head _))))))))) dI d2 d1'
      have K₁₁ := k₆' _ _ _ F₁₂ N₁₃ (fun p hp => .tail _ (.tail _ (.tail _ (.tail _ (.tail _ (.tail _ (.tail _ (.tail _ hp))))))))
      have st₁₁ := kept_st K₁₁ st₆
      have hoth : ∀ v ∈ [Value.ref l, .ref lB, .ref lC, .ref lD, .ref le], ∃ lo ws co lso, v = .ref lo ∧ h₁₁.get? lo = some (PySem.W.listOf ws co) ∧ ItemsAre (bytesKind prg w₀) lso ws.toList ∧ Good lso := by
        intro v hv
        simp only [List.mem_cons, List.not_mem_nil, or_false] at hv
        rcases hv with rfl | rfl | rfl | rfl | rfl
        · exact ⟨_, _, _, _, rfl, K₁₁ _ _ hl₆ (plain_seq rfl), hits, hgood⟩
        · exact ⟨_, _, _, _, rfl, K₁₁ _ _ hlB (plain_seq rfl), hitsB, hgoodB⟩
        · refine ⟨_, _, 0, [98] :: ls.take 5, rfl, (N₁₃ _ (.tail _ (.tail _ (.head _)))).1, ?_, good_cons (good_take hgood 5) (by decide) (by decide) (by rw [List.length_take]; omega)⟩
          rw [Array.toList_append]
          exact .cons (by simp [isBytes, bytesKind]) (by simpa using items_take hits 5)
        · exact ⟨_, _, _, _, rfl, K₁₁ _ _ hlD (plain_seq rfl), hitsD, hgoodD⟩
        · exact ⟨_, _, 0, [], rfl, (N₁₃ _ (.tail _ (.head _))).1, .nil, good_nil⟩
      have ht5 : (t5, PySem.W.listOf #[Value.ref l, .ref lB, .ref lC, .ref lD, .ref le] 0) ∈ rest₁₁ := by
        have n5 := N₁₃ _ (.head _)
        refine (cov _ _ ?_ n5.1).resolve_left fun q => by rw [n5.2.2] at q; cases q
        intro hb
        exact spec_ne (hSp _ hb) n5.1 (plain_seq rfl) rfl
      have ht5l : h₁₁.IsList t5 #[Value.ref l, .ref lB, .ref lC, .ref lD, .ref le] := ⟨_, (N₁₃ _ (.head _)).1, rfl, 0, rfl⟩
      clear N₁₃ hP hlss K₁₁ st₆ st₇ hl₆ hlB hlD hitsB hitsD hgoodB hgoodD eB1 eB2 eD1 cov hSp
      refine for_list (items := #[Value.ref l, .ref lB, .ref lC, .ref lD, .ref le]) (src := [(t5, PySem.W.listOf #[Value.ref l, .ref lB, .ref lC, .ref lD, .ref le] 0)])
        (fun j m nx => ∃ (o2' : Obj) (v2' : Option Value), nx = (I, oI) :: (s₁.heap.objs.size + 1 + 1, o2') :: (s₁.heap.objs.size + 1, o1') :: rest₁₁ ∧ o2'.data = .cell v2' ∧
          m (Str.ofString "script") = some (.ref a) ∧ m (Str.ofString "pool") = some (.ref P) ∧ m (Str.ofString "names") = some (.ref nd) ∧ m (Str.ofString "rows") = some (.ref R'))
        rfl ht5l (.inr ⟨_, .head _⟩) (fun j m nx hJ p hp => ?_) F₁₂ N₁₄ ⟨_, _, rfl, d2, z1, z2, z3, z4⟩ ?_ ?_
      · obtain ⟨o2', v2', rfl, _⟩ := hJ
        rw [List.mem_singleton.mp hp]
        exact .tail _ (.tail _ (.tail _ ht5))
      · intro I₂ j v m₁₂ nx h₁₂ tk₁₂ oI₂ hj hv hJ hnx hIt F₁₃ N₁₅
        obtain ⟨o2', v2', rfl, d2', w1', w2', w3', w4'⟩ := hJ
        obtain ⟨lo, ws, co, lso, rfl, hlo, hitso, hgoodo⟩ := hoth v (by rw [show [Value.ref l, .ref lB, .ref lC, .ref lD, .ref le] = (#[Value.ref l, .ref lB, .ref lC, .ref lD, .ref le] : Array Value).toList from rfl]; exact Array.mem_toList_iff.mpr (Array.mem_of_getElem? hv))
        refine turn_nameC F₁₃ N₁₅ (c := s₁.heap.objs.size + 1 + 1) rfl (.tail (Ne.symm (hnx _ (.tail _ (.head _)))) (.tail nIc' (.head fun p hp => ?_))) d2' (fun h₁₃ oo F₁₄ N₁₆ doo => ?_)
        · rcases List.mem_cons.mp hp with rfl | hp
          · show @Ne Nat _ _; omega
          · exact (off₁₁ p hp).2.1
        clear F₁₃ N₁₅ hIt N₁₄ F₁₂
        have K₁₃ := k₁₁ _ _ _ F₁₄ N₁₆ (fun p hp => .tail _ (.tail _ (.tail _ (.tail _ hp))))
        walk_at "my gc"
        refine name_ok (T.keeps F₁₄.keep) rfl (by k_room) ⟨ws.toList, .inl ⟨_, K₁₃ _ _ hlo (plain_seq rfl), rfl, co, rfl⟩, hitso⟩ hgoodo (fun h₁₄ tk₁₄ x xdx xt xtk he₁₄ hx hx0 hxd0 hxt0 => ?_) (KX.keeps F₁₄.keep)
        have F₁₅ := F₁₄.keeps he₁₄
        have N₁₇ := news_keeps N₁₆ he₁₄
        have hN17 : ∀ p ∈ (I₂, oI₂) :: (I, oI) :: (s₁.heap.objs.size + 1 + 1, oo) :: (s₁.heap.objs.size + 1, o1') :: rest₁₁, h₁₄.get? p.1 = some p.2 ∧ @Ne Nat p.1 s₁.heap.objs.size ∧ s₁.heap.get? p.1 = none := N₁₇
        have st := kept_st (K₁₃.trans (Kept.ext he₁₄)) st₁₁
        have hlo := (K₁₃.trans (Kept.ext he₁₄)) _ _ hlo (plain_seq rfl)
        obtain ⟨restL, NL, kL⟩ := snapL F₁₅
        obtain ⟨e1, e2, e3, f2, f3, hdx⟩ := st.dict.dx_at
        have hnd := st.dict.nd_at
        have hn14 := F₁₅.ns
        have hLs := spec_frame F₁₅.ns w1'
        have N₁₈ := news_cons (news_cons (news_cons NL (N₁₇ _ (.tail _ (.tail _ (.head _)))).1 (by omega) (N₁₇ _ (.tail _ (.tail _ (.head _)))).2.2) hdx (spec_ne hLs hdx plain_nd) dx0) hnd (spec_ne hLs hnd plain_inst) nd0
        clear F₁₄ N₁₆ hdx hnd K₁₃
        walk_at "my gc"
        (with_reducible rename Fr _ _ _ _ => F₁₆)
        (with_reducible rename News _ _ _ _ => N₁₉)
        have KL := kL _ _ _ F₁₆ N₁₉ (fun p hp => .tail _ (.tail _ (.tail _ hp)))
        have KK := kept_but hn14 w1' KL
        obtain ⟨rv, cr, hR, hrows⟩ := st.rows
        have hrsz : rv.size = rows'.length := by rw [← Array.length_toList, hrows.length]
        obtain ⟨pD, hpD, hpickD⟩ := rows_pick hrows (fun k => decide (k = low lso))
        refine compPT (cl := [(Str.ofString "other", s₁.heap.objs.size + 1 + 1)]) (p := pD) (Fv := fun v y => ∀ pa t z u n, v = .ref pa → h₁₄.get? pa = some (pairObj t z u n) → ∃ u', y = .int z u')
          rfl ⟨_, KK _ _ hR (plain_seq rfl), rfl, cr, rfl⟩ (by rw [sizeLine_eq]; omega) F₁₆.ns rfl rfl (by decide) rfl (by decide) rfl rfl (by decide) rfl rfl (fun Q' hq => ?_) (fun v hv => ?_) (fun C T' x1 x2 s₃ m₃ E' hC hTm hTt hn ha hb hk => ?_) (fun C T' x1 x2 s₃ m₃ E' hC hTm hTt hpt hn ha hb hk => ?_) (fun Du h₁₅ tk₁₅ ys nn hD0 hDu hpair hns hkeep => ?_)
        · walk_at "my gc"
          exact hq
        · obtain ⟨pa, t', u, n, kk, zz, rfl, hpa, hkk⟩ := rows_mem hrows hv
          exact ⟨pa, _, _, rfl, _, KK _ _ hpa (plain_seq rfl), rfl, n, rfl⟩
        · obtain ⟨pa, t', u, n, kk, zz, e, hpa, hkk⟩ := rows_mem hrows hTm
          cases e
          rw [hpD _ _ _ _ _ _ hpa hkk]
          obtain ⟨oT, hoT, _, nT, hTd⟩ := hTt
          rw [show oT = pairObj t' zz u n from Option.some.inj (hoT.symm.trans (KK _ _ hpa (plain_seq rfl)))] at hTd
          cases hTd
          have N₃ := news_keeps N₁₉ hk
          have F₃ := F₁₆.keeps hk
          walk_at "my gc"
          refine lawlow_ok (T.keeps F₃.keep) rfl (by k_room) ⟨ws.toList, .inl ⟨_, hk _ _ (KK _ _ hlo (plain_seq rfl)), rfl, co, rfl⟩, hitso⟩ hgoodo.short hgoodo.len (fun h₄ tk₄ t₄ he₄ ht₄ _ => ?_) (KX.keeps F₃.keep)
          refine cmp_eq (rc_tuple (tupk_ext (kept_tup (KK.trans (Kept.ext hk)) hkk) he₄) ht₄ (by show callerA.units + 3 < cLine; decide)) ?_
          walk_at "my gc"
          first
          | exact ⟨rfl, h₄, _, rfl, fun _ _ e => he₄ _ _ e⟩
          | exact ⟨h₄, _, rfl, fun _ _ e => he₄ _ _ e⟩
        · obtain ⟨pa, t', u, n, kk, zz, e, hpa, hkk⟩ := rows_mem hrows hTm
          cases e
          obtain ⟨oT, hoT, _, nT, hTd⟩ := hTt
          rw [show oT = pairObj t' zz u n from Option.some.inj (hoT.symm.trans (KK _ _ hpa (plain_seq rfl)))] at hTd
          cases hTd
          refine ldVarK hn hb ?_
          refine ⟨fun pa' t'' z' u' n' e1 e2 => ?_, s₃.heap, _, rfl, fun _ _ e => e⟩
          cases e1
          rw [hpa] at e2
          cases e2
          exact ⟨_, rfl⟩
        have F₁₇a : Fr s₁.heap s₁.heap.objs.size h₁₅ _ := fr_of_ns F₁₆ hns hkeep
        have N₂₀ := news_cons (news_of_but N₁₉ hkeep) hDu (new_addr F₁₆ hD0).1 (new_addr F₁₆ hD0).2
        obtain ⟨m₂₀, F₁₇, v1, v2, v3, v4, v5, v6⟩ : ∃ m₂₀, Fr s₁.heap s₁.heap.objs.size h₁₅ m₂₀ ∧ m₂₀ (Str.ofString "script") = some (.ref a) ∧ m₂₀ (Str.ofString "pool") = some (.ref P) ∧ m₂₀ (Str.ofString "names") = some (.ref nd) ∧ m₂₀ (Str.ofString "rows") = some (.ref R') ∧ m₂₀ (Str.ofString "key") = some (.ref x) ∧ m₂₀ (Str.ofString "due") = some (.ref Du) :=
          ⟨_, F₁₇a, by walk_at "my look", by walk_at "my look", by walk_at "my look", by walk_at "my look", by walk_at "my look", by walk_at "my look"⟩
        have hnum := rows_nums hpickD hpair
        have hsame : ys.size = (same rows' (low lso)).length := by rw [← Array.length_toList]; exact hnum.1
        have hbs : decide (ys.size ≠ 0) = (find D' (low lso)).isSome := by
          rw [hsame, rel_some hrel']
          cases hf : rowFind rows' (low lso) with
          | none => rw [same_some.mpr hf]; rfl
          | some v => exact decide_eq_true fun h0 => by rw [same_some.mp (List.eq_nil_of_length_eq_zero h0)] at hf; cases hf
        have hhead : ∀ v, rowFind rows' (low lso) = some v → ∃ u, ys[0]? = some (.int v u) := fun v hv => by
          rw [← same_head, List.head?_map] at hv
          obtain ⟨u, hu⟩ := hnum.2 v hv
          exact ⟨u, by rw [← Array.getElem?_toList, ← List.head?_eq_getElem?]; exact hu⟩
        clear F₁₇a hnum hsame hpair hpickD hpD hns hkeep F₁₆ N₁₉ KL KK hrsz
        replace N₂₀ : News s₁.heap s₁.heap.objs.size h₁₅ ((Du, PySem.W.listOf ys nn) :: (nd, instObj 588 dx) :: (dx, ndObj w₀ d md' mi' e1 e2 e3 f2 f3) :: (s₁.heap.objs.size + 1 + 1, oo) :: restL) := N₂₀
        dsimp only
        walk_at "my gb"
        refine wpAny_mono (Q := fun f s' => f = .next ∧ ∃ h tk, s' = { s₁ with heap := h, toks := tk } ∧ Fr s₁.heap s₁.heap.objs.size h m₂₀ ∧ News s₁.heap s₁.heap.objs.size h ((Du, PySem.W.listOf ys nn) :: (nd, instObj 588 dx) :: (dx, ndObj w₀ d md' mi' e1 e2 e3 f2 f3) :: (s₁.heap.objs.size + 1 + 1, oo) :: restL)) ?_ ?_ (fun _ _ x => x)
        · walk_at "my gc"
          have K5 := kept_but hn14 w1' (kL _ _ _ F₁₇ N₂₀ (fun p hp => .tail _ (.tail _ (.tail _ (.tail _ hp)))))
          refine haskey_ok (T.keeps F₁₇.keep) rfl (by k_room) (by show callerA.units + 3 + 60 < cLine; decide) (kept_dict K5 st.dict) (kept_name K5 hx) hgoodo (fun h₁₆ tk₁₆ he => ?_) (KX.keeps F₁₇.keep)
          have F₁₈ := F₁₇.keeps he
          have N₂₁ := news_keeps N₂₀ he
          clear F₁₇ N₂₀ K5
          walk_at "my gc"
          (with_reducible rename Fr _ _ _ _ => F₁₉)
          (with_reducible rename News _ _ _ _ => N₂₂)
          (try clear F₁₈); (try clear N₂₁)
          refine cmp_ne (ne_nil ⟨_, (N₂₂ _ (.tail _ (.head _))).1, rfl, nn, rfl⟩ ⟨_, (N₂₂ _ (.head _)).1, rfl, 0, rfl⟩ (by show callerA.units + 3 < cLine; decide)) ?_
          rw [hbs]
          replace N₂₂ : News s₁.heap s₁.heap.objs.size _ ((Du, PySem.W.listOf ys nn) :: (nd, instObj 588 dx) :: (dx, ndObj w₀ d md' mi' e1 e2 e3 f2 f3) :: (s₁.heap.objs.size + 1 + 1, oo) :: restL) := fun p hp => N₂₂ p (.tail _ hp)
          refine cmp_ne (PySem.SeqAt.RcNeAt.bool_bool _ _) ?_
          rw [show (!((find D' (low lso)).isSome == (find D' (low lso)).isSome)) = false by simp]
          walk_at "my gc"
          obtain ⟨β, Kβ, eβ, sβ, kβ⟩ := aside F₁₉
          have K6 := kept_but hn14 w1' (kL _ _ _ F₁₉ N₂₂ (fun p hp => .tail _ (.tail _ (.tail _ (.tail _ hp)))))
          have Kb := K6.trans (kept_but F₁₉.ns v1 kβ)
          refine asked_ok (Kβ rfl rfl rfl) sβ (T.keeps eβ) rfl (by k_room) (by show callerA.units + 3 + 100 < cLine; decide) (kept_dict Kb st.dict) (kept_name Kb hx) hgoodo (fun h₁₇ tk₁₇ ua sst u => ?_) (KX.keeps eβ)
          obtain ⟨F₂₀, N₂₃, ka⟩ := aside_back F₁₉ N₂₂ kβ sst u
          clear F₁₉ N₂₂ Kβ eβ sβ kβ K6 Kb ka
          walk_at "my gc"
          (with_reducible rename Fr _ _ _ _ => F₂₁)
          (with_reducible rename News _ _ _ _ => N₂₄)
          (try clear F₂₀); (try clear N₂₃)
          refine cmp_ne (ne_nil ⟨_, (N₂₄ _ (.tail _ (.head _))).1, rfl, nn, rfl⟩ ⟨_, (N₂₄ _ (.head _)).1, rfl, 0, rfl⟩ (by show callerA.units + 3 < cLine; decide)) ?_
          rw [hbs]
          replace N₂₄ : News s₁.heap s₁.heap.objs.size _ ((Du, PySem.W.listOf ys nn) :: (nd, instObj 588 dx) :: (dx, ndObj w₀ d md' mi' e1 e2 e3 f2 f3) :: (s₁.heap.objs.size + 1 + 1, oo) :: restL) := fun p hp => N₂₄ p (.tail _ hp)
          have hfnd := hrel'.fnd (low lso)
          cases hf : find D' (low lso) with
          | none =>
            show wpAny _ _ (truthy (.bool false)) _ _ _
            walk_at "my gc"
            · exact F₂₁
            · exact N₂₄
          | some e =>
            rw [hf] at hfnd
            show wpAny _ _ (truthy (.bool true)) _ _ _
            walk_at "my gc"
            obtain ⟨uu, hu0⟩ := hhead e.val (by rw [← hfnd]; rfl)
            refine item_list ⟨_, (N₂₄ _ (.head _)).1, rfl, nn, rfl⟩ (by decide) (by decide) (by simpa using hu0) ?_
            refine cmp_ne (PySem.SeqAt.RcNeAt.int_int _ _ _ _) ?_
            rw [show (!(e.val == e.val)) = false by simp]
            walk_at "my gc"
            · exact F₂₁
            · exact N₂₄
        · intro f s' hMid
          obtain ⟨rfl, h₁₆, tk₁₆, rfl, F₁₈, N₂₁⟩ := hMid
          clear F₁₇ N₂₀
          dsimp only
          walk_at "my gc"
          obtain ⟨β, Kβ, eβ, sβ, kβ⟩ := aside F₁₈
          have K6 := kept_but hn14 w1' (kL _ _ _ F₁₈ N₂₁ (fun p hp => .tail _ (.tail _ (.tail _ (.tail _ hp)))))
          have Kb := K6.trans (kept_but F₁₈.ns v1 kβ)
          refine match_ok (Kβ rfl rfl rfl) sβ (T.keeps eβ) rfl (by k_room) (by show callerA.units + 3 + 110 < cLine; decide) (kept_dict Kb st.dict) hdeep' (kept_name Kb hx) hgoodo (fun h₁₇ tk₁₇ vm sst u hmt => ?_) (KX.keeps eβ)
          obtain ⟨F₁₉, N₂₂, ka⟩ := aside_back F₁₈ N₂₁ kβ sst u
          clear F₁₈ N₂₁ Kβ eβ sβ kβ K6 Kb ka
          walk_at "my gc"
          have K7 := kept_but hn14 w1' (kL _ _ _ F₁₉ N₂₂ (fun p hp => .tail _ (.tail _ (.tail _ (.tail _ hp)))))
          refine due_ok (T.keeps F₁₉.keep) rfl (by k_room) (by show callerA.units + 3 + 60 < cLine; decide) ⟨_, K7 _ _ hR (plain_seq rfl), rfl, cr, rfl⟩ (kept_rows K7 hrows) (by omega) ⟨_, K7 _ _ hlo (plain_seq rfl), rfl, co, rfl⟩ hitso hgoodo (fun h₁₈ tk₁₈ vd he hdt => ?_) (KX.keeps F₁₉.keep)
          have F₂₀ := F₁₉.keeps he
          have N₂₃ := news_keeps N₂₂ he
          clear F₁₉ N₂₂
          refine cmp_ne (rcne_match (match_ext hmt he) hdt (by show callerA.units + 3 + 1 < cLine; decide)) ?_
          rw [deep_due hrel', show (!decide (dueFrom rows' lso lso.length = dueFrom rows' lso lso.length)) = false by simp]
          have KL8 := kL _ _ _ F₂₀ N₂₃ (fun p hp => .tail _ (.tail _ (.tail _ (.tail _ hp))))
          walk_at "my gc"
          refine ⟨_, _, _, (I, oI) :: (s₁.heap.objs.size + 1 + 1, oo) :: (s₁.heap.objs.size + 1, o1') :: rest₁₁, rfl, F₂₀, fun p hp => ⟨KL8 _ _ (hN17 p hp).2.1 (hN17 p hp).1, (hN17 p hp).2⟩, fun p hp => ?_, oo, _, rfl, doo, v1, v2, v3, v4⟩
          rcases List.mem_cons.mp hp with rfl | hp
          · exact hnx _ (.head _)
          rcases List.mem_cons.mp hp with rfl | hp
          · exact hnx (s₁.heap.objs.size + 1 + 1, o2') (.tail _ (.head _))
          · exact hnx _ (.tail _ (.tail _ hp))
      · intro h₁₂ tk₁₂ m₁₂ nx hJ F₁₃ N₁₅
        obtain ⟨o2', v2', rfl, d2', w1', w2', w3', w4'⟩ := hJ
        replace F₁₃ : Fr s₁.heap s₁.heap.objs.size h₁₂ m₁₂ := F₁₃
        replace N₁₅ : News s₁.heap s₁.heap.objs.size h₁₂ ((I, oI) :: (s₁.heap.objs.size + 1 + 1, o2') :: (s₁.heap.objs.size + 1, o1') :: rest₁₁) := N₁₅
        have kf := k₁₁ _ _ _ F₁₃ N₁₅ (fun p hp => .tail _ (.tail _ (.tail _ hp)))
        obtain ⟨rest₁₂, N₁₆, _, off₁₂, hSp, cov⟩ := snapI F₁₃ w1' (fun p hp => by
          simp only [List.mem_cons, List.not_mem_nil, or_false] at hp
          rcases hp with rfl | rfl | rfl
          · exact N₁₅ _ (.head _)
          · exact N₁₅ _ (.tail _ (.head _))
          · exact N₁₅ _ (.tail _ (.tail _ (.head _)))) dI d2' d1'
        clear N₁₅
        walk_at "my gc"
        refine ⟨_, _, _, (s₁.heap.objs.size + 1 + 1, o2') :: (s₁.heap.objs.size + 1, o1') :: rest₁₂, rfl, F₁₃, N₁₆, fun p hp => ?_, h₁₂, _, R', D', rows', md', mi', o2', o1', v2', _, hSp, fun b o hb e => (cov b o hb e).imp_right fun q => .tail _ (.tail _ q), kept_st kf st₁₁, hdeep', hrel', hrl', w1', w2', w3', w4', .head _, .tail _ (.head _), d2', d1'⟩
        rcases List.mem_cons.mp hp with rfl | hp
        · exact Ne.symm nIc'
        rcases List.mem_cons.mp hp with rfl | hp
        · exact Ne.symm nIc
        · exact (off₁₂ p hp).2.2
  · intro h₇ tk₇ m₇ nx hJ F₇ N₇
    walk_at "my go"
    dsimp only
    wrow_close
  )
section
end
end Mine
end
theorem PySem.Challenge.cw_ab5010_01_holds : PySem.Challenge.rw_ab5010_01.Holds := by
  exact Mine.law_holds
