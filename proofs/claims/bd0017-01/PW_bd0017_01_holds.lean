import PyProof.Rows.All
import Wide.All
import OpenK.AllK
import Wide.FinOn
import PySem.Challenge.RW_bd0017_01
set_option Elab.async false
set_option maxRecDepth 100000
set_option compiler.extract_closed false
set_option genSizeOfSpec false
set_option genInjectivity false

namespace Mine
section
open PySem PySem.W PyProof.Rows
set_option maxHeartbeats 8000000 in
open_top hd for PySem.Challenge.rw_bd0017_01
end

/-! part HkA -/
section
open PySem PySem.W PyProof.Rows PySem.Calls
abbrev Ledger := List (Addr × Obj)

/-- the way back out of a call: what the callee's base and ledger say, and what the caller makes of it -/
def Back (h₀ : Heap) (L : Addr) (m : Str → Option Value) (g : Heap) (rest : Ledger) (R : Result → Shared → Prop) (v : Value) (s' : Shared) : Prop :=
  ∃ L₂ m' news', Fr g L₂ s'.heap m' ∧ News g L₂ s'.heap news' ∧ (Fr h₀ L s'.heap m → News h₀ L s'.heap (news' ++ rest) → R (.ok (.ret v)) s')
theorem Back.intro {h₀ g : Heap} {L L₂ : Addr} {m m' : Str → Option Value} {news' rest : Ledger} {R : Result → Shared → Prop} {v : Value} {s' : Shared} (F : Fr g L₂ s'.heap m') (N : News g L₂ s'.heap news')
    (k : Fr h₀ L s'.heap m → News h₀ L s'.heap (news' ++ rest) → R (.ok (.ret v)) s') : Back h₀ L m g rest R v s' := ⟨L₂, m', news', F, N, k⟩

/-- a call of a written def: the ledger's first part is hidden from the callee's base, all else stands in it -/
theorem call_in {prog : Program} {w : World} {A : Around} {s : Shared} {h₀ : Heap} {L : Addr} {m : Str → Option Value} {news rest : Ledger} {K : Frag}
    {p : Program} {loose : List Str} {mean : ExcName → Option Value} {mg mb : Str → Option Value}
    {R : Result → Shared → Prop} {name qual : Str} {params : Arguments} {body : List Stmt} {scope : Scope} {dV kV doc pm cdv ct oc : Value} {an od : Option Addr} {osl : Array (Option Value)} {f : Addr} {args : Args} {binds : List (Str × Value)}
    (F : Fr h₀ L s.heap m) (N : News h₀ L s.heap (news ++ rest)) (X₀ : K.In h₀) (T : Top p loose mean mg mb h₀)
    (off : OwnOff rest (news.map (·.1)))
    (ho : K.lookup f = some ⟨oc, od, .func (fnOf name qual params body scope dV kV doc pm an cdv ct), osl⟩) (hcd : codeIn K cdv qual = true) (hroom : A.depth < recursionLimit)
    (hbind : BindsTo s (fnOf name qual params body scope dV kV doc pm an cdv ct) args binds) (hloc : ∀ y ∈ binds, scope.names.lookup y.1 = some .local)
    (h : ∀ g L' h₁, Fr g L' h₁ (fun y => binds.reverse.lookup y) → News g L' h₁ news → K.In g → Top p loose mean mg mb g → (∀ b o, h₀.get? b = some o → g.get? b = some o) →
      (∀ b o, s.heap.get? b = some o → b ∉ news.map (·.1) → g.get? b = some o) →
      wpAny (model prog w) (A.deeper (envOf qual scope L' f cdv)) (execs body (envOf qual scope L' f cdv))
        (fun fl s' => Back h₀ L m g rest R (match fl with | .ret v => v | _ => .none) s')
        (fun _ _ => False)
        { s with heap := h₁, toks := s.toks + binds.length })
    (hco : scope.isCoroutine = false) (hgen : scope.isGenerator = false) (hk : scope.kind = .function)
    (hcell : ∀ x ∈ scope.names, x.2 ≠ .cell) : codeAny (model prog w) A (.call (.ref f) args) R s := by
  have Nn : News h₀ L s.heap news := fun q hq => N q (List.mem_append_left _ hq)
  have Nr : News h₀ L s.heap rest := fun q hq => N q (List.mem_append_right _ hq)
  refine codeAny_call_def (fd := fnOf name qual params body scope dV kV doc pm an cdv ct) (body := body) (binds := binds) hroom ((X₀.keeps F.keep) _ _ ho) rfl (T.nolimit.keeps F.keep) (codeRec_of (X₀.keeps F.keep) hcd) rfl hbind hcell hloc (fun h₁ hns hk₁ => ?_) hco hgen hk
  have nm : ∀ b o, h₀.get? b = some o → b ∉ news.map (·.1) := fun b o e q => by
    obtain ⟨p, hp, rfl⟩ := List.mem_map.mp q
    rw [(Nn p hp).2.2] at e; cases e
  have sub : ∀ b o, s.heap.get? b = some o → b ∉ news.map (·.1) → (hideAll s.heap (news.map (·.1))).get? b = some o := fun b o e n => hideAll_get _ e n
  have st : ∀ b o, h₀.get? b = some o → (hideAll s.heap (news.map (·.1))).get? b = some o := fun b o e => sub b o (F.keep b o e) (nm b o e)
  obtain ⟨oL, es, ep, hL, hLd, hLk, hLf⟩ := F.ns
  have nL : L ∉ news.map (·.1) := fun q => by
    obtain ⟨p, hp, e⟩ := List.mem_map.mp q
    exact (Nn p hp).2.1 e
  have hLg := sub L oL hL nL
  refine wpAny_mono (h (hideAll s.heap (news.map (·.1))) s.heap.objs.size h₁ ⟨hns, fun b o e => hk₁ b o (of_hideAll _ e), Nat.le_of_eq (hideAll_size _ _)⟩
    (fun p hp => ⟨hk₁ _ _ (Nn p hp).1, Nat.ne_of_lt (Heap.lt_size (Nn p hp).1), hideAll_none _ (List.mem_map_of_mem hp)⟩) (X₀.keeps st) (T.keeps st) st sub) (fun fl s' hl => ?_) fun _ _ y => y.elim
  obtain ⟨L₂, m', news', F', N', k⟩ := hl
  refine k ⟨⟨oL, es, ep, F'.keep L oL hLg, hLd, hLk, hLf⟩, fun b o e => F'.keep b o (st b o e), F.above⟩ fun p hp => ?_
  rcases List.mem_append.mp hp with hp | hp
  · refine ⟨(N' p hp).1, fun q => ?_, ?_⟩
    · have := (N' p hp).2.2; rw [q, hLg] at this; cases this
    · cases q : h₀.get? p.1 with
      | none => rfl
      | some o => have := (N' p hp).2.2; rw [st _ _ q] at this; cases this
  · exact ⟨F'.keep _ _ (sub _ _ (Nr p hp).1 (fun q => off p hp _ q rfl)), (Nr p hp).2⟩

/-- a dict object told as a function on its keys -/
def DR {prog : Program} {w : World} {K V : Type} [DecidableEq K] (knd : KeyKind prog w K) (R : V → Value → Prop) (keys : List K) (o : Obj) (f : K → Option V) : Prop :=
  ∃ kvs, o.IsDictOf knd kvs ∧ (∀ q ∈ kvs, q.1 ∈ keys) ∧ ∀ k, match f k with
    | none => valueAt kvs k = none
    | some v => ∃ x, valueAt kvs k = some x ∧ R v x

section
variable {prog : Program} {w : World} {K V : Type} [DecidableEq K] {knd : KeyKind prog w K} {R : V → Value → Prop} {keys : List K} {o : Obj} {f : K → Option V}
  {A : Around} {E : Value → Shared → Prop} {s : Shared} {h₀ : Heap} {L d : Addr} {m : Str → Option Value} {news : Ledger} {k : K} {key : Value} {v : V}

theorem DR.isSome {kvs : List (K × Value)} (hf : ∀ k, match f k with | none => valueAt kvs k = none | some v => ∃ x, valueAt kvs k = some x ∧ R v x) (k : K) : (valueAt kvs k).isSome = (f k).isSome := by
  have := hf k
  cases e : f k with
  | none => rw [e] at this; dsimp only at this; rw [this]; rfl
  | some v => rw [e] at this; obtain ⟨x, q, _⟩ := this; rw [q]; rfl

theorem dr_in {Q : Value → Shared → Prop} (N : News h₀ L s.heap news) (hm : (d, o) ∈ news) (lo : (d == sysModules) = false) (hkey : knd.is k key = true) (D : DR knd R keys o f)
    (h : Q (.bool (f k).isSome) { s with toks := s.toks + 1 }) : wpAny (model prog w) A (compareOp .In key (.ref d)) Q E s := by
  obtain ⟨kvs, hd, hk, hf⟩ := id D
  exact wpAny_in_of hkey lo (Heap.dictOf_iff.mpr ⟨o, N.get hm, hd⟩).mapOf (by rw [DR.isSome hf]; exact h)

theorem dr_notin {Q : Value → Shared → Prop} (N : News h₀ L s.heap news) (hm : (d, o) ∈ news) (lo : (d == sysModules) = false) (hkey : knd.is k key = true) (D : DR knd R keys o f)
    (h : Q (.bool (!(f k).isSome)) { s with toks := s.toks + 1 }) : wpAny (model prog w) A (compareOp .NotIn key (.ref d)) Q E s := by
  obtain ⟨kvs, hd, hk, hf⟩ := id D
  exact wpAny_notIn_of hkey lo (Heap.dictOf_iff.mpr ⟨o, N.get hm, hd⟩).mapOf (by rw [DR.isSome hf]; exact h)

theorem dr_get {value slice : PySem.Expr} {Q : Value → Shared → Prop} (N : News h₀ L s.heap news) (hm : (d, o) ∈ news) (hkey : knd.is k key = true) (D : DR knd R keys o f) (hv : f k = some v)
    (h : ∀ x, R v x → Q x { s with toks := s.toks + 1 })
    (hs : subscripted slice false (.ref d) key = operate [.ref d, key] (getItem (.ref d) key) := by with_unfolding_all rfl) :
    wpAny (model prog w) A (subscriptTail value slice (.ref d) key) Q E s := by
  obtain ⟨kvs, hd, hk, hf⟩ := id D
  have M := (Heap.dictOf_iff.mpr ⟨o, N.get hm, hd⟩).mapOf
  have := hf k
  rw [hv] at this
  obtain ⟨x, q, r⟩ := this
  exact tail_any M.typeIs slot_dict_getitem.lookup (wpAny_getItem_of hkey M q (h x r)) hs

theorem dr_in_some {Q : Value → Shared → Prop} (N : News h₀ L s.heap news) (hm : (d, o) ∈ news) (lo : (d == sysModules) = false) (hkey : knd.is k key = true) (D : DR knd R keys o f) (hv : f k = some v)
    (h : Q (.bool true) { s with toks := s.toks + 1 }) : wpAny (model prog w) A (compareOp .In key (.ref d)) Q E s := dr_in N hm lo hkey D (by rw [hv]; exact h)
theorem dr_in_none {Q : Value → Shared → Prop} (N : News h₀ L s.heap news) (hm : (d, o) ∈ news) (lo : (d == sysModules) = false) (hkey : knd.is k key = true) (D : DR knd R keys o f) (hv : f k = none)
    (h : Q (.bool false) { s with toks := s.toks + 1 }) : wpAny (model prog w) A (compareOp .In key (.ref d)) Q E s := dr_in N hm lo hkey D (by rw [hv]; exact h)
theorem dr_notin_some {Q : Value → Shared → Prop} (N : News h₀ L s.heap news) (hm : (d, o) ∈ news) (lo : (d == sysModules) = false) (hkey : knd.is k key = true) (D : DR knd R keys o f) (hv : f k = some v)
    (h : Q (.bool false) { s with toks := s.toks + 1 }) : wpAny (model prog w) A (compareOp .NotIn key (.ref d)) Q E s := dr_notin N hm lo hkey D (by rw [hv]; exact h)
theorem dr_notin_none {Q : Value → Shared → Prop} (N : News h₀ L s.heap news) (hm : (d, o) ∈ news) (lo : (d == sysModules) = false) (hkey : knd.is k key = true) (D : DR knd R keys o f) (hv : f k = none)
    (h : Q (.bool true) { s with toks := s.toks + 1 }) : wpAny (model prog w) A (compareOp .NotIn key (.ref d)) Q E s := dr_notin N hm lo hkey D (by rw [hv]; exact h)

theorem dr_get_base {value slice : PySem.Expr} {Q : Value → Shared → Prop} (F : Fr h₀ L s.heap m) (hm : h₀.get? d = some o) (hkey : knd.is k key = true) (D : DR knd R keys o f) (hv : f k = some v)
    (h : ∀ x, R v x → Q x { s with toks := s.toks + 1 })
    (hs : subscripted slice false (.ref d) key = operate [.ref d, key] (getItem (.ref d) key) := by with_unfolding_all rfl) :
    wpAny (model prog w) A (subscriptTail value slice (.ref d) key) Q E s := by
  obtain ⟨kvs, hd, hk, hf⟩ := id D
  have M := (Heap.dictOf_iff.mpr ⟨o, F.keep _ _ hm, hd⟩).mapOf
  have := hf k
  rw [hv] at this
  obtain ⟨x, q, r⟩ := this
  exact tail_any M.typeIs slot_dict_getitem.lookup (wpAny_getItem_of hkey M q (h x r)) hs

theorem nodup_le {α : Type} [DecidableEq α] : ∀ {l r : List α}, l.Nodup → (∀ x ∈ l, x ∈ r) → l.length ≤ r.length
  | [], _, _, _ => Nat.zero_le _
  | x :: l, r, hn, hs => by
    have hx := hs x List.mem_cons_self
    rw [List.nodup_cons] at hn
    have ih := nodup_le (l := l) (r := r.erase x) hn.2 fun y hy => (List.mem_erase_of_ne (fun e : y = x => hn.1 (e ▸ hy))).mpr (hs y (List.mem_cons_of_mem _ hy))
    rw [List.length_erase_of_mem hx] at ih
    have : 0 < r.length := List.length_pos_of_mem hx
    simp only [List.length_cons]; omega

theorem valueAt_stored (kvs : List (K × Value)) (k j : K) (x : Value) : valueAt (stored kvs k x) j = if j = k then some x else valueAt kvs j := by
  unfold stored
  split
  · rename_i h
    induction kvs with
    | nil => simp at h
    | cons q r ih =>
      obtain ⟨a, b⟩ := q
      unfold valueAt at ih ⊢
      by_cases hak : a = k
      · subst hak
        by_cases hj : j = a
        · subst hj; simp
        · have hj' : ¬ a = j := fun e => hj e.symm
          simp only [List.map_cons, if_pos, List.find?_cons, decide_eq_false hj', if_neg hj]
          clear ih h
          induction r with
          | nil => rfl
          | cons q r ih =>
            obtain ⟨a', b'⟩ := q
            by_cases h1 : a' = a
            · subst h1
              simp only [List.map_cons, if_pos, List.find?_cons, decide_eq_false hj']
              exact ih
            · simp only [List.map_cons, if_neg h1, List.find?_cons]
              by_cases h2 : a' = j
              · simp [h2]
              · simp only [decide_eq_false h2]; exact ih
      · have h' : r.any (fun kv => decide (kv.1 = k)) = true := by simpa [hak] using h
        have ih := ih h'
        simp only [List.map_cons, if_neg hak, List.find?_cons]
        by_cases h2 : a = j
        · have : ¬ j = k := fun e => hak (h2.trans e)
          simp [h2, this]
        · simp only [decide_eq_false h2]; exact ih
  · rename_i h
    have h0 : ∀ q ∈ kvs, q.1 ≠ k := fun q hq e => h (List.any_eq_true.mpr ⟨q, hq, decide_eq_true e⟩)
    clear h
    unfold valueAt
    induction kvs with
    | nil =>
      by_cases hj : j = k
      · subst hj; simp
      · have hj' : ¬ k = j := fun e => hj e.symm
        simp [hj, hj']
    | cons q r ih =>
      have ih := ih fun q hq => h0 q (List.mem_cons_of_mem _ hq)
      obtain ⟨a, b⟩ := q
      have ha : a ≠ k := h0 (a, b) List.mem_cons_self
      simp only [List.cons_append, List.find?_cons]
      by_cases h2 : a = j
      · have : ¬ j = k := fun e => ha (h2.trans e)
        simp [h2, this]
      · simp only [decide_eq_false h2]; exact ih

def upd {K V : Type} [DecidableEq K] (f : K → Option V) (k : K) (v : V) : K → Option V := fun j => if j = k then some v else f j

theorem DR.put {kvs : List (K × Value)} (hf : ∀ k, match f k with | none => valueAt kvs k = none | some v => ∃ x, valueAt kvs k = some x ∧ R v x) {x : Value} (r : R v x) :
    ∀ j, match upd f k v j with | none => valueAt (stored kvs k x) j = none | some v => ∃ y, valueAt (stored kvs k x) j = some y ∧ R v y := fun j => by
  rw [valueAt_stored]
  unfold upd
  by_cases h : j = k
  · simp only [h, if_true]; exact ⟨x, rfl, r⟩
  · simp only [if_neg h]; exact hf j

theorem mem_stored {kvs : List (K × Value)} {x : Value} {q : K × Value} (h : q ∈ stored kvs k x) : q.1 = k ∨ ∃ q' ∈ kvs, q'.1 = q.1 := by
  unfold stored at h
  split at h
  · obtain ⟨q', h1, rfl⟩ := List.mem_map.mp h
    by_cases e : q'.1 = k
    · exact .inl (by rw [if_pos e]; exact e)
    · exact .inr ⟨q', h1, by rw [if_neg e]⟩
  · rcases List.mem_append.mp h with h | h
    · exact .inr ⟨q, h, rfl⟩
    · rw [List.mem_singleton.mp h]; exact .inl rfl

theorem dr_set {x : Value} {g : Obj → Ledger} {Q : Unit → Shared → Prop} (F : Fr h₀ L s.heap m) (N : News h₀ L s.heap news) (U : UpdF d o news g) (hkey : knd.is k key = true) (D : DR knd R keys o f) (hin : k ∈ keys) (hsz : keys.length ≤ 100)
    (r : R v x) (h : ∀ h' o', Fr h₀ L h' m → News h₀ L h' (g o') → DR knd R keys o' (upd f k v) → Q () { s with heap := h', toks := s.toks + 1 }) :
    wpAny (model prog w) A (setItem (.ref d) key x) Q E s := by
  obtain ⟨kvs, hd, hk, hf⟩ := id D
  obtain ⟨pre, post, rfl, hg, a, b⟩ := U.split
  have hm : (d, o) ∈ pre ++ (d, o) :: post := List.mem_append_right _ List.mem_cons_self
  have hn : (kvs.map (·.1)).Nodup := by obtain ⟨_, _, _, _, _, _, hn⟩ := hd; exact hn
  have hle : kvs.length ≤ sizeLine := by
    have := nodup_le hn (r := keys) fun y hy => by obtain ⟨q, hq, rfl⟩ := List.mem_map.mp hy; exact hk q hq
    rw [List.length_map] at this
    rw [sizeLine_eq]; omega
  refine wpAny_setItem_pairs (hsz := hle) hkey (Heap.dictOf_iff.mpr ⟨o, N.get hm, hd⟩) fun h' hm' hs => ?_
  obtain ⟨o', ho', hd'⟩ := Heap.dictOf_iff.mp hm'
  refine h h' o' (F.change hs (N _ hm).2.1 (N _ hm).2.2) ?_ ⟨_, hd', fun q hq => ?_, DR.put hf r⟩
  · rw [hg]
    intro p hp
    rcases List.mem_append.mp hp with hp | hp
    · have P := N p (List.mem_append_left _ hp); exact ⟨(hs.2 _ (a p hp)).trans P.1, P.2⟩
    · rcases List.mem_cons.mp hp with rfl | hp
      · exact ⟨ho', (N _ hm).2⟩
      · have P := N p (List.mem_append_right _ (List.mem_cons_of_mem _ hp)); exact ⟨(hs.2 _ (b p hp)).trans P.1, P.2⟩
  · rcases mem_stored hq with e | ⟨q', h1, h2⟩
    · exact e ▸ hin
    · exact h2 ▸ hk q' h1
end

section
variable {prog : Program} {w : World} {K V : Type} [DecidableEq K] {knd : KeyKind prog w K} {R : V → Value → Prop} {keys : List K} {o : Obj} {f : K → Option V}
  {A : Around} {E : Value → Shared → Prop} {s : Shared} {h₀ : Heap} {L d : Addr} {m : Str → Option Value} {news : Ledger}
theorem dr_clear {g : Obj → Ledger} {Q : Value → Shared → Prop} (F : Fr h₀ L s.heap m) (N : News h₀ L s.heap news) (U : UpdF d o news g) (D : DR knd R keys o f) (hsz : keys.length ≤ 100)
    (h : ∀ h' o', Fr h₀ L h' m → News h₀ L h' (g o') → DR knd R keys o' (fun _ => none) → Q .none { s with heap := h' }) : wpAny (model prog w) A (call (.builtin "dict.clear") [.ref d]) Q E s := by
  obtain ⟨kvs, hd, hk, hf⟩ := id D
  obtain ⟨pre, post, rfl, hg, a, b⟩ := U.split
  have hn : (kvs.map (·.1)).Nodup := by obtain ⟨_, _, _, _, _, _, hn⟩ := hd; exact hn
  have hle : kvs.length ≤ sizeLine := by
    have := nodup_le hn (r := keys) fun y hy => by obtain ⟨q, hq, rfl⟩ := List.mem_map.mp hy; exact hk q hq
    rw [List.length_map] at this
    rw [sizeLine_eq]; omega
  refine call_clear_madeIn (enc := fun _ => PyData.none) (hsz := hle) F N a b hd fun h' o' F' N' hd' _ => h h' o' F' (hg o' ▸ N') ⟨[], hd', fun q hq => (nomatch hq), fun k => rfl⟩
theorem dr_method {name : Str} {id : String} {pl : Sem Bool} {Q : Value × List Value → Shared → Prop} (slot : Slot "dict" name id) (hty : typeOf (.builtin id) = pure (.type "method_descriptor"))
    (N : News h₀ L s.heap news) (hm : (d, o) ∈ news) (D : DR knd R keys o f) (h : Q (.builtin id, [.ref d]) s) : wpAny (model prog w) A (getMethod (.ref d) name pl) Q E s := by
  obtain ⟨kvs, hd, _⟩ := D
  have hD : s.heap.DictOf knd d kvs := Heap.dictOf_iff.mpr ⟨o, N.get hm, hd⟩
  exact getMethod_builtin hD.typeIs PySem.F.plainAttrs_dict slot hty hD.mapOf.noDict h
end

section
variable {prog : Program} {w : World} {A : Around} {E : Value → Shared → Prop} {s : Shared} {env : Env} {h₀ : Heap} {x : Str} {body : List Stmt} {Q : Flow → Shared → Prop}
/-- a for over a list of the base: an invariant over the turn's number, the frame's map and the ledger -/
theorem iter_base {l : Addr} {vs : List Value} {m₀ : Str → Option Value} {news : Ledger} (J : Nat → (Str → Option Value) → Ledger → Prop)
    (hh : A.handled = none) (hl : h₀.IsList l vs.toArray) (F : Fr h₀ env.locals s.heap m₀) (N : News h₀ env.locals s.heap news) (hj : J 0 m₀ news)
    (turn : ∀ i v m₁ news₁ h tk own, vs[i]? = some v → news₁.map (·.1) = news.map (·.1) → OwnOff own (news.map (·.1)) → J i m₁ news₁ → Fr h₀ env.locals h (fun y => if y = x then some v else m₁ y) → News h₀ env.locals h (news₁ ++ own) →
      wpAny (model prog w) A (execs body env) (InvPostN h₀ env.locals (J (i + 1)) own (news.map (·.1)) { s with heap := h, toks := tk } Q) E { s with heap := h, toks := tk })
    (done : ∀ m₁ news₁ h tk, J vs.length m₁ news₁ → news₁.map (·.1) = news.map (·.1) → Fr h₀ env.locals h m₁ → News h₀ env.locals h news₁ → Q .next { s with heap := h, toks := tk }) :
    wpAny (model prog w) A (pyIter (.ref l)) (fun it s₂ => LoopAtV prog w A h₀ env x body Q E it s₂) E s := by
  have hls : s.heap.IsList l vs.toArray := hl.at fun o e => F.keep l o e
  obtain ⟨ol, hol, _⟩ := id hl
  have hlt : l < h₀.objs.size := Heap.lt_size hol
  have hne : l ≠ s.heap.objs.size := Nat.ne_of_lt (Nat.lt_trans (Nat.lt_of_lt_of_le hlt F.above) F.ns.lt)
  refine wpAny_pyIter_list hls ?_
  have W := Walks.list (prog := prog) (w := w) hh s.heap.objs.size l hne vs.toArray
  rw [List.size_toArray] at W
  let J' : Nat → (Str → Option Value) → List (Addr × Obj) → Prop := fun i m₁ news₁ => news₁.map (·.1) = news.map (·.1) ∧ J i m₁ news₁
  refine ⟨_, _, _, vs.length, _, _, m₀, news, J', rfl, W, ?_, ?_, ?_, ⟨⟨_, Heap.get?_push_size _ rfl, rfl, rfl⟩, hls.at fun o e => Heap.get?_push_of_some _ e⟩, F.push _, (fun p hp => ⟨Heap.get?_push_of_some _ (N p hp).1, (N p hp).2⟩), ⟨rfl, hj⟩, ?_, ?_⟩
  · intro hm
    rcases List.mem_cons.mp hm with e | hm
    · exact absurd F.ns.lt (e ▸ Nat.lt_irrefl _)
    · exact absurd (Nat.lt_of_lt_of_le hlt F.above) ((List.mem_singleton.mp hm) ▸ Nat.lt_irrefl _)
  · intro b hb
    rw [List.mem_singleton.mp hb]
    exact next_is_new F
  · intro p hp hI
    exact absurd (Heap.lt_size (N p hp).1) ((List.mem_singleton.mp hI) ▸ Nat.lt_irrefl _)
  · rintro i v m₁ news₁ s₁ own ⟨hh', tk', rfl⟩ hin hP ⟨hadr, hJ⟩ hoff hown _ _ _ F₁ N₁
    have hsep : OwnOff own (news.map (·.1)) := by
      intro p hp b hb e
      obtain ⟨q, hq, rfl⟩ := List.mem_map.mp hb
      rcases List.mem_cons.mp (hown p hp) with h1 | h1
      · exact absurd (Heap.lt_size (N q hq).1) (by rw [← e, h1]; exact Nat.lt_irrefl _)
      · have h2 := List.mem_singleton.mp h1
        have h3 := (N q hq).2.2
        rw [← e, h2, hol] at h3
        cases h3
    have N₂ : News h₀ env.locals hh' (news₁ ++ own) := fun p hp => N₁ p ((List.mem_append.mp hp).elim (fun h => List.mem_append.mpr (.inr h)) fun h => List.mem_append.mpr (.inl h))
    refine wpAny_mono (turn i v m₁ news₁ hh' tk' own (by simpa using hP) hadr hsep hJ F₁ N₂) (fun f s₂ p => ?_) fun _ _ e => e
    have fin : InvEndN h₀ env.locals (J (i + 1)) own (news.map (·.1)) { s with heap := hh', toks := tk' } s₂ → LoopStepU h₀ env.locals [s.heap.objs.size] own (J' (i + 1)) { s with heap := hh', toks := tk' } .next s₂ := by
      rintro ⟨h', tk, m', news', nx, e, F', N', hn, ho, ha, hm⟩
      refine ⟨rfl, h', tk, m', nx, e, F', fun p hp => N' p ((List.mem_append.mp hp).elim (ho p) (hn p)), fun p hp hq => ?_, ha, hm⟩
      have h1 : p.1 ∈ nx.map (·.1) := List.mem_map.mpr ⟨p, hp, rfl⟩
      rw [ha, ← hadr] at h1
      obtain ⟨q, hq1, hq2⟩ := List.mem_map.mp h1
      exact hoff q hq1 (by rw [hq2]; exact hq)
    cases f with
    | ret v => exact .ret p
    | brk => exact .brk p
    | next => exact .next (fin p)
    | cont => exact .cont (fin p)
  · rintro h' tk m' news' F' N' _ ⟨ha, hJ⟩
    exact done m' news' h' tk hJ ha F' N'

theorem letter2 {m m₀ : Str → Option Value} {a b : Str} (h : ∀ z, z ≠ a → z ≠ b → m z = m₀ z) : m = fun z => if z = a then m z else if z = b then m z else m₀ z := by
  funext z
  by_cases h1 : z = a
  · simp [h1]
  · by_cases h2 : z = b
    · simp [h2]
    · simp [h1, h2, h z h1 h2]
end

section
variable {prog : Program} {w : World} {A : Around} {E : Value → Shared → Prop} {s : Shared} {h₀ : Heap} {L D : Addr} {m : Str → Option Value} {news news' : Ledger} {vs : List Value} {n : Nat} {x : Value}
theorem lst_append {Q : Value → Shared → Prop} (F : Fr h₀ L s.heap m) (N : News h₀ L s.heap news) (U : Upd D (listOf vs.toArray n) (listOf (vs ++ [x]).toArray (n + 1)) news news') (hsz : vs.length ≤ 100000)
    (h : ∀ h', Fr h₀ L h' m → News h₀ L h' news' → Q .none { s with heap := h' }) : wpAny (model prog w) A (call (.builtin "list.append") [.ref D, x]) Q E s :=
  append_K F N (by rw [List.push_toArray]; exact U) h (by rw [sizeLine_eq, List.size_toArray]; omega)
theorem lst_pop0 {u : Tok} {Q : Value → Shared → Prop} (F : Fr h₀ L s.heap m) (N : News h₀ L s.heap news) (U : Upd D (listOf (x :: vs).toArray n) (listOf vs.toArray (n + 1)) news news') (hsz : (x :: vs).length ≤ 100000)
    (h : ∀ h', Fr h₀ L h' m → News h₀ L h' news' → Q x { s with heap := h' }) : wpAny (model prog w) A (call (.builtin "list.pop") [.ref D, .int 0 u]) Q E s :=
  kl_popAt (k := 0) (p := []) (q := vs) (y := x) F N (by decide +kernel) (by unfold seqIndex?; simp) rfl U (by rw [sizeLine_eq]; exact Nat.le_trans hsz (by decide)) h
theorem lst_len {Q : Value → Shared → Prop} (N : News h₀ L s.heap news) (hm : (D, listOf vs.toArray n) ∈ news) (hsz : vs.length ≤ 100000)
    (h : Q (.int vs.length (s.toks + 1)) { s with toks := s.toks + 1 + 1 }) : wpAny (model prog w) A (call (.builtin "len") [.ref D]) Q E s :=
  len_list ⟨_, (N _ hm).1, rfl, n, rfl⟩ (by rw [List.size_toArray]; omega) (by rw [List.size_toArray]; exact h)
end

/-- what a call reads and never turns -/
structure Toks where
  (a b c d e f : Tok)
structure Ad where
  (x dx gl pl pr lf dl : Addr) (t : Toks)

abbrev RStr : Str → Value → Prop := fun r v => ∃ t, v = .str r t
abbrev RInt : Int → Value → Prop := fun i v => ∃ t, v = .int i t
end

/-! part Pl -/
section
open PySem
structure PS where
  p : Int → Option Str
  r : Str → Option Int
  d : Int → Option Int

def dg (d : Int → Option Int) (l : Int) : Int := (d l).getD 0

def swp (σ : PS) (l : Int) (s : Str) : PS := { σ with p := upd σ.p l s, r := upd σ.r s l }

def dfsL (rec : Int → PS → Option (Bool × PS)) (rf : Int) (left : Int) : List Str → PS → Option (Bool × PS)
  | [], σ => some (false, { σ with d := upd σ.d left (-1) })
  | s :: ss, σ => match σ.r s with
    | none => if rf = dg σ.d left + 1 then some (true, swp σ left s) else dfsL rec rf left ss σ
    | some o => if dg σ.d o = dg σ.d left + 1 then (match rec o σ with
        | none => none
        | some (true, σ') => some (true, swp σ' left s)
        | some (false, σ') => dfsL rec rf left ss σ') else dfsL rec rf left ss σ

def dfs (rf : Int) (adj : Int → List Str) : Nat → Int → PS → Option (Bool × PS)
  | 0, _, _ => none
  | n + 1, left, σ => dfsL (dfs rf adj n) rf left (adj left) σ

def bfsI (p : Int → Option Str) : List Int → List Int → (Int → Option Int) → List Int × (Int → Option Int)
  | [], q, d => (q, d)
  | l :: ls, q, d => if (p l).isSome then bfsI p ls q (upd d l (-1)) else bfsI p ls (q ++ [l]) (upd d l 0)

structure BS where
  q : List Int
  d : Int → Option Int
  rf : Int

def bfsIn (r : Str → Option Int) (lv : Int) : List Str → BS → BS
  | [], b => b
  | s :: ss, b => match r s with
    | none => if b.rf = -1 then bfsIn r lv ss { b with rf := dg b.d lv + 1 } else bfsIn r lv ss b
    | some o => if dg b.d o = -1 then bfsIn r lv ss { b with d := upd b.d o (dg b.d lv + 1), q := b.q ++ [o] } else bfsIn r lv ss b

def bfsW (adj : Int → List Str) (r : Str → Option Int) : Nat → BS → Option BS
  | 0, _ => none
  | n + 1, b => match b.q with
    | [] => some b
    | lv :: q' =>
      if dg b.d lv = b.rf ∧ b.rf = -1 then bfsW adj r n { b with q := q' }
      else if b.rf ≤ dg b.d lv ∧ b.rf ≠ -1 then bfsW adj r n { b with q := q' }
      else bfsW adj r n (bfsIn r lv (adj lv) { b with q := q' })

structure Gr where
  left : List Int
  adj : Int → List Str

def bfs (G : Gr) (σ : PS) : Option BS :=
  let (q, d) := bfsI σ.p G.left [] σ.d
  bfsW G.adj σ.r (G.left.length + 1) ⟨q, d, -1⟩

def phase (f : Int → PS → Option (Bool × PS)) : List Int → PS → Nat → Option (PS × Nat)
  | [], σ, c => some (σ, c)
  | l :: ls, σ, c => if (σ.p l).isSome then phase f ls σ c else match f l σ with
    | none => none
    | some (true, σ') => phase f ls σ' (c + 1)
    | some (false, σ') => phase f ls σ' c

def runW (G : Gr) : Nat → PS → Nat → Option (PS × Nat × Int)
  | 0, _, _ => none
  | n + 1, σ, c => match bfs G σ with
    | none => none
    | some b => if b.rf = -1 then some ({ σ with d := b.d }, c, b.rf) else match phase (dfs b.rf G.adj (G.left.length + 1)) G.left { σ with d := b.d } c with
      | none => none
      | some (σ', c') => runW G n σ' c'

def iniD : List Int → (Int → Option Int) → Int → Option Int
  | [], d => d
  | l :: ls, d => iniD ls (upd d l (-1))

def run (G : Gr) : Option (PS × Nat × Int) :=
  runW G (G.left.length + 1) ⟨fun _ => none, fun _ => none, iniD G.left fun _ => none⟩ 0
end

/-! part PlA -/
section
open PySem
theorem dg_upd (d : Int → Option Int) (l v j : Int) : dg (upd d l v) j = if j = l then v else dg d j := by
  unfold dg upd; split <;> simp

def MV (lefts : List Int) (adj : Int → List Str) (σ : PS) : Prop :=
  (∀ s l, σ.r s = some l ↔ σ.p l = some s) ∧ ∀ l s, σ.p l = some s → l ∈ lefts ∧ s ∈ adj l

def Post (lefts : List Int) (adj : Int → List Str) (σ σ' : PS) (left : Int) (b : Bool) : Prop :=
  (∀ l, σ'.p l ≠ σ.p l → l = left ∨ dg σ.d left < dg σ.d l) ∧
  (∀ l, dg σ'.d l = dg σ.d l ∨ (dg σ'.d l = -1 ∧ (l = left ∨ (dg σ.d left < dg σ.d l ∧ (σ.p l).isSome = true)))) ∧
  (∀ l, (σ.d l).isSome = true → (σ'.d l).isSome = true) ∧
  (b = false → σ'.p = σ.p ∧ σ'.r = σ.r) ∧
  (b = true → (∃ s, σ'.p left = some s) ∧ (∀ l, l ≠ left → (σ'.p l).isSome = (σ.p l).isSome) ∧
    (∀ s₀, σ.p left = some s₀ → σ'.r s₀ = some left ∧ ∀ l, σ'.p l ≠ some s₀) ∧
    (∀ s, σ.p left ≠ some s → ∀ l, σ'.r s = some l ↔ σ'.p l = some s) ∧
    (∀ l s, σ'.p l = some s → l ∈ lefts ∧ s ∈ adj l))

theorem dfsL_ok {lefts : List Int} {adj : Int → List Str} {rec : Int → PS → Option (Bool × PS)} {rf left : Int} (hl : left ∈ lefts)
    (hrec : ∀ o σ b σ', MV lefts adj σ → o ∈ lefts → 0 ≤ dg σ.d o → rec o σ = some (b, σ') → Post lefts adj σ σ' o b) :
    ∀ ss σ b σ', (∀ s ∈ ss, s ∈ adj left) → MV lefts adj σ → 0 ≤ dg σ.d left → dfsL rec rf left ss σ = some (b, σ') → Post lefts adj σ σ' left b := by
  intro ss
  induction ss with
  | nil =>
    intro σ b σ' _ hM h0 h
    simp only [dfsL, Option.some.injEq, Prod.mk.injEq] at h
    obtain ⟨rfl, rfl⟩ := h
    refine ⟨fun l h => absurd rfl h, fun l => ?_, fun l h => ?_, fun _ => ⟨rfl, rfl⟩, fun h => nomatch h⟩
    · dsimp only
      rw [dg_upd]
      by_cases e : l = left
      · simp [e]
      · simp [e]
    · dsimp only
      unfold upd
      split
      · rfl
      · exact h
  | cons s ss ih =>
    intro σ b σ' hs hM h0 h
    have hsa := hs s List.mem_cons_self
    have hss : ∀ s ∈ ss, s ∈ adj left := fun t ht => hs t (List.mem_cons_of_mem _ ht)
    simp only [dfsL] at h
    cases hr : σ.r s with
    | none =>
      rw [hr] at h
      dsimp only at h
      split at h
      · simp only [Option.some.injEq, Prod.mk.injEq] at h
        obtain ⟨rfl, rfl⟩ := h
        have hno : ∀ l, σ.p l ≠ some s := fun l e => by have := (hM.1 s l).mpr e; rw [hr] at this; cases this
        refine ⟨fun l h => ?_, fun l => .inl rfl, fun l h => h, (fun h => nomatch h), fun _ => ⟨⟨s, by simp [swp, upd]⟩, fun l h => by simp [swp, upd, h], fun s₀ e => ?_, fun t e l => ?_, fun l t e => ?_⟩⟩
        · left
          refine Classical.byContradiction fun e => h ?_
          simp [swp, upd, e]
        · have hne : s₀ ≠ s := fun q => by subst q; exact hno _ e
          refine ⟨?_, fun l => ?_⟩
          · simp only [swp, upd, if_neg hne]; exact (hM.1 s₀ left).mpr e
          · simp only [swp, upd]
            split
            · intro q; exact hne (Option.some.inj q).symm
            · rename_i hne2
              intro q
              have a := (hM.1 s₀ l).mpr q
              have b := (hM.1 s₀ left).mpr e
              rw [a] at b; exact hne2 (Option.some.inj b)
        · simp only [swp, upd]
          by_cases hts : t = s
          · subst hts
            simp only [if_pos]
            by_cases hll : l = left
            · simp [hll]
            · simp only [if_neg hll]
              exact ⟨fun q => absurd (Option.some.inj q).symm hll, fun q => absurd q (hno l)⟩
          · simp only [if_neg hts]
            by_cases hll : l = left
            · subst hll
              simp only [if_pos]
              exact ⟨fun q => absurd ((hM.1 t l).mp q) e, fun q => absurd (Option.some.inj q).symm hts⟩
            · simp only [if_neg hll]; exact hM.1 t l
        · simp only [swp, upd] at e
          split at e
          · rename_i q; subst q; cases e; exact ⟨hl, hsa⟩
          · exact hM.2 l t e
      · exact ih σ b σ' hss hM h0 h
    | some o =>
      rw [hr] at h
      dsimp only at h
      split at h
      · rename_i hdo
        have hpo : σ.p o = some s := (hM.1 s o).mp hr
        have hol := (hM.2 o s hpo).1
        have hone : o ≠ left := fun q => by subst q; omega
        cases hc : rec o σ with
        | none => rw [hc] at h; cases h
        | some res =>
          obtain ⟨b₁, σ₁⟩ := res
          rw [hc] at h
          obtain ⟨P1, P2, P3, P4, P5⟩ := hrec o σ b₁ σ₁ hM hol (by omega) hc
          have hdl : dg σ₁.d left = dg σ.d left := by
            rcases P2 left with q | ⟨_, q | ⟨q, _⟩⟩
            · exact q
            · exact absurd q.symm hone
            · omega
          cases b₁ with
          | true =>
            simp only [Option.some.injEq, Prod.mk.injEq] at h
            obtain ⟨rfl, rfl⟩ := h
            obtain ⟨⟨s', S1⟩, S2, S3, S4, S5⟩ := P5 rfl
            obtain ⟨S3a, S3b⟩ := S3 s hpo
            have hpl : σ₁.p left = σ.p left := Classical.byContradiction fun q => by
              rcases P1 left q with q | q
              · exact hone q.symm
              · omega
            refine ⟨fun l h => ?_, fun l => ?_, fun l h => P3 l h, (fun h => nomatch h), fun _ => ⟨⟨s, by simp [swp, upd]⟩, fun l h => ?_, fun s₀ e => ?_, fun t e l => ?_, fun l t e => ?_⟩⟩
            · by_cases hll : l = left
              · exact .inl hll
              · have : σ₁.p l ≠ σ.p l := fun q => h (by simp [swp, upd, hll, q])
                rcases P1 l this with q | q
                · subst q; right; omega
                · right; omega
            · show dg σ₁.d l = _ ∨ _
              rcases P2 l with q | ⟨q, q' | ⟨q', q''⟩⟩
              · exact .inl q
              · subst q'
                exact .inr ⟨q, .inr ⟨by omega, by rw [hpo]; rfl⟩⟩
              · exact .inr ⟨q, .inr ⟨by omega, q''⟩⟩
            · simp only [swp, upd, if_neg h]
              by_cases hlo : l = o
              · subst hlo; rw [S1, hpo]; rfl
              · exact S2 l hlo
            · have hne : s₀ ≠ s := fun q => by
                subst q
                have := (hM.1 s₀ left).mpr e
                rw [hr] at this; exact hone (Option.some.inj this)
              have hpos : σ.p o ≠ some s₀ := by rw [hpo]; exact fun q => hne (Option.some.inj q).symm
              have hr0 : σ₁.r s₀ = some left := (S4 s₀ hpos left).mpr (by rw [hpl]; exact e)
              refine ⟨by simp only [swp, upd, if_neg hne]; exact hr0, fun l => ?_⟩
              simp only [swp, upd]
              split
              · exact fun q => hne (Option.some.inj q).symm
              · rename_i hll
                intro q
                have := (S4 s₀ hpos l).mpr q
                rw [hr0] at this; exact hll (Option.some.inj this).symm
            · simp only [swp, upd]
              by_cases hts : t = s
              · subst hts
                simp only [if_pos]
                by_cases hll : l = left
                · simp [hll]
                · simp only [if_neg hll]
                  exact ⟨fun q => absurd (Option.some.inj q).symm hll, fun q => absurd q (S3b l)⟩
              · have hpos : σ.p o ≠ some t := by rw [hpo]; exact fun q => hts (Option.some.inj q).symm
                simp only [if_neg hts]
                by_cases hll : l = left
                · subst hll
                  simp only [if_pos]
                  refine ⟨fun q => ?_, fun q => absurd (Option.some.inj q).symm hts⟩
                  have := (S4 t hpos l).mp q
                  rw [hpl] at this; exact absurd this e
                · simp only [if_neg hll]; exact S4 t hpos l
            · simp only [swp, upd] at e
              split at e
              · rename_i q; subst q; cases e; exact ⟨hl, hsa⟩
              · exact S5 l t e
          | false =>
            dsimp only at h
            obtain ⟨e1, e2⟩ := P4 rfl
            have hM₁ : MV lefts adj σ₁ := by unfold MV; rw [e1, e2]; exact hM
            obtain ⟨R1, R2, R3, R4, R5⟩ := ih σ₁ b σ' hss hM₁ (by omega) h
            rw [e1] at R1 R2 R4 R5
            rw [e2] at R4
            refine ⟨fun l h => ?_, fun l => ?_, fun l h => R3 l (P3 l h), R4, R5⟩
            · rcases R1 l h with q | q
              · exact .inl q
              · rcases P2 l with q' | ⟨q', _⟩
                · right; omega
                · right; omega
            · rcases R2 l with q | ⟨q, q' | ⟨q', q''⟩⟩
              · rcases P2 l with u | ⟨u, v | ⟨v, v'⟩⟩
                · exact .inl (q.trans u)
                · subst v; exact .inr ⟨q.trans u, .inr ⟨by omega, by rw [hpo]; rfl⟩⟩
                · exact .inr ⟨q.trans u, .inr ⟨by omega, v'⟩⟩
              · exact .inr ⟨q, .inl q'⟩
              · rcases P2 l with u | ⟨u, v⟩
                · exact .inr ⟨q, .inr ⟨by omega, q''⟩⟩
                · omega
      · exact ih σ b σ' hss hM h0 h

theorem dfs_ok {lefts : List Int} {adj : Int → List Str} {rf : Int} : ∀ n o σ b σ', MV lefts adj σ → o ∈ lefts → 0 ≤ dg σ.d o → dfs rf adj n o σ = some (b, σ') → Post lefts adj σ σ' o b
  | 0, _, _, _, _, _, _, _, h => nomatch h
  | n + 1, o, σ, b, σ', hM, ho, h0, h => dfsL_ok ho (fun o σ b σ' a c d e => dfs_ok n o σ b σ' a c d e) (adj o) σ b σ' (fun _ h => h) hM h0 h

theorem filter_len_le {α : Type} (p q : α → Bool) : ∀ l : List α, (∀ x ∈ l, p x = true → q x = true) → (l.filter p).length ≤ (l.filter q).length
  | [], _ => Nat.le_refl _
  | x :: l, h => by
    have ih := filter_len_le p q l fun y hy => h y (List.mem_cons_of_mem _ hy)
    have hx := h x List.mem_cons_self
    simp only [List.filter_cons]
    cases hp : p x <;> cases hq : q x <;> simp_all <;> omega
theorem filter_len_lt {α : Type} (p q : α → Bool) : ∀ l : List α, (∀ x ∈ l, p x = true → q x = true) → (∃ x ∈ l, q x = true ∧ p x = false) → (l.filter p).length < (l.filter q).length
  | [], _, ⟨_, h, _⟩ => nomatch h
  | x :: l, h, ⟨y, hy, h1, h2⟩ => by
    have hx := h x List.mem_cons_self
    have le := filter_len_le p q l fun y hy => h y (List.mem_cons_of_mem _ hy)
    simp only [List.filter_cons]
    rcases List.mem_cons.mp hy with rfl | hy
    · simp [h1, h2]; omega
    · have ih := filter_len_lt p q l (fun y hy => h y (List.mem_cons_of_mem _ hy)) ⟨y, hy, h1, h2⟩
      cases hp : p x <;> cases hq : q x <;> simp_all <;> omega

def mu (lefts : List Int) (d : Int → Option Int) (o : Int) : Nat := (lefts.filter fun l => decide (dg d o < dg d l)).length

theorem dfsL_tot {lefts : List Int} {adj : Int → List Str} {rec : Int → PS → Option (Bool × PS)} {rf left : Int} {N : Nat}
    (hrec : ∀ o σ b σ', MV lefts adj σ → o ∈ lefts → 0 ≤ dg σ.d o → rec o σ = some (b, σ') → Post lefts adj σ σ' o b)
    (htot : ∀ o σ, MV lefts adj σ → o ∈ lefts → 0 ≤ dg σ.d o → mu lefts σ.d o < N → ∃ r, rec o σ = some r) :
    ∀ ss σ, MV lefts adj σ → 0 ≤ dg σ.d left → mu lefts σ.d left < N + 1 → ∃ r, dfsL rec rf left ss σ = some r := by
  intro ss
  induction ss with
  | nil => intro σ _ _ _; exact ⟨_, rfl⟩
  | cons s ss ih =>
    intro σ hM h0 hmu
    simp only [dfsL]
    cases hr : σ.r s with
    | none =>
      dsimp only
      split
      · exact ⟨_, rfl⟩
      · exact ih σ hM h0 hmu
    | some o =>
      dsimp only
      split
      · rename_i hdo
        have hpo : σ.p o = some s := (hM.1 s o).mp hr
        have hol := (hM.2 o s hpo).1
        have hlt : mu lefts σ.d o < mu lefts σ.d left := filter_len_lt _ _ _ (fun x _ h => by simp only [decide_eq_true_eq] at h ⊢; omega) ⟨o, hol, by simp; omega, by simp⟩
        obtain ⟨⟨b₁, σ₁⟩, hc⟩ := htot o σ hM hol (by omega) (by omega)
        rw [hc]
        obtain ⟨P1, P2, P3, P4, P5⟩ := hrec o σ b₁ σ₁ hM hol (by omega) hc
        cases b₁ with
        | true => exact ⟨_, rfl⟩
        | false =>
          dsimp only
          obtain ⟨e1, e2⟩ := P4 rfl
          have hone : o ≠ left := fun q => by subst q; omega
          have hdl : dg σ₁.d left = dg σ.d left := by
            rcases P2 left with q | ⟨_, q | ⟨q, _⟩⟩
            · exact q
            · exact absurd q.symm hone
            · omega
          refine ih σ₁ (by unfold MV; rw [e1, e2]; exact hM) (by omega) (Nat.lt_of_le_of_lt (filter_len_le _ _ _ fun x _ h => ?_) hmu)
          simp only [decide_eq_true_eq] at h ⊢
          rcases P2 x with q | ⟨q, _⟩ <;> omega
      · exact ih σ hM h0 hmu

theorem dfs_tot {lefts : List Int} {adj : Int → List Str} {rf : Int} : ∀ n o σ, MV lefts adj σ → o ∈ lefts → 0 ≤ dg σ.d o → mu lefts σ.d o < n → ∃ r, dfs rf adj n o σ = some r
  | 0, _, _, _, _, _, h => absurd h (Nat.not_lt_zero _)
  | n + 1, o, σ, hM, _, h0, h => dfsL_tot (fun o σ b σ' a c d e => dfs_ok n o σ b σ' a c d e) (fun o σ a b c d => dfs_tot n o σ a b c d) (adj o) σ hM h0 h

inductive Reach (adj : Int → List Str) (r : Str → Option Int) (d : Int → Option Int) (rf : Int) : Int → Prop
  | here {l : Int} {s : Str} : s ∈ adj l → r s = none → rf = dg d l + 1 → Reach adj r d rf l
  | step {l o : Int} {s : Str} : s ∈ adj l → r s = some o → dg d o = dg d l + 1 → Reach adj r d rf o → Reach adj r d rf l

def Dead (adj : Int → List Str) (r : Str → Option Int) (d₀ : Int → Option Int) (rf : Int) (d : Int → Option Int) : Prop := ∀ l, dg d l = dg d₀ l ∨ (dg d l = -1 ∧ ¬ Reach adj r d₀ rf l)

def DPost (adj : Int → List Str) (r : Str → Option Int) (d₀ : Int → Option Int) (rf : Int) (o : Int) (σ σ' : PS) : Prop :=
  σ'.r = r ∧ Dead adj r d₀ rf σ'.d ∧ ¬ Reach adj r d₀ rf o ∧ ∀ l, dg σ'.d l = dg σ.d l ∨ dg d₀ o ≤ dg d₀ l

theorem dfsL_dead {adj : Int → List Str} {r : Str → Option Int} {d₀ : Int → Option Int} {rec : Int → PS → Option (Bool × PS)} {rf left : Int} (h00 : 0 ≤ dg d₀ left)
    (hrec : ∀ o σ σ', σ.r = r → Dead adj r d₀ rf σ.d → dg σ.d o = dg d₀ o → 0 ≤ dg d₀ o → rec o σ = some (false, σ') → DPost adj r d₀ rf o σ σ') :
    ∀ ss σ σ', σ.r = r → Dead adj r d₀ rf σ.d → dg σ.d left = dg d₀ left →
      (∀ s ∈ adj left, s ∈ ss ∨ ((r s = none → rf ≠ dg d₀ left + 1) ∧ ∀ o, r s = some o → dg d₀ o = dg d₀ left + 1 → ¬ Reach adj r d₀ rf o)) →
      dfsL rec rf left ss σ = some (false, σ') → DPost adj r d₀ rf left σ σ' := by
  intro ss
  induction ss with
  | nil =>
    intro σ σ' hr hD hd hno h
    simp only [dfsL, Option.some.injEq, Prod.mk.injEq, true_and] at h
    subst h
    have hR : ¬ Reach adj r d₀ rf left := by
      intro R
      cases R with
      | here h1 h2 h3 =>
        rcases hno _ h1 with q | q
        · cases q
        · exact q.1 h2 h3
      | step h1 h2 h3 h4 =>
        rcases hno _ h1 with q | q
        · cases q
        · exact q.2 _ h2 h3 h4
    refine ⟨hr, fun l => ?_, hR, fun l => ?_⟩
    · dsimp only
      rw [dg_upd]
      by_cases e : l = left
      · subst e; simp [hR]
      · simp only [if_neg e]; exact hD l
    · dsimp only
      rw [dg_upd]
      by_cases e : l = left
      · subst e; right; exact Int.le_refl _
      · simp [e]
  | cons s ss ih =>
    intro σ σ' hr hD hd hno h
    simp only [dfsL] at h
    rw [hr] at h
    cases hs : r s with
    | none =>
      rw [hs] at h
      dsimp only at h
      split at h
      · simp at h
      · rename_i hn
        refine ih σ σ' hr hD hd (fun t ht => ?_) h
        rcases hno t ht with q | q
        · rcases List.mem_cons.mp q with rfl | q
          · refine .inr ⟨fun _ => by rw [← hd]; exact hn, fun o e => ?_⟩
            rw [hs] at e; cases e
          · exact .inl q
        · exact .inr q
    | some o =>
      rw [hs] at h
      dsimp only at h
      split at h
      · rename_i hdo
        have hdo' : dg σ.d o = dg d₀ o := by
          rcases hD o with q | ⟨q, _⟩
          · exact q
          · omega
        cases hc : rec o σ with
        | none => rw [hc] at h; cases h
        | some res =>
          obtain ⟨b₁, σ₁⟩ := res
          rw [hc] at h
          cases b₁ with
          | true => simp at h
          | false =>
            dsimp only at h
            obtain ⟨D1, D2, D3, D4⟩ := hrec o σ σ₁ hr hD hdo' (by omega) hc
            have hd₁ : dg σ₁.d left = dg d₀ left := by
              rcases D4 left with q | q
              · omega
              · omega
            obtain ⟨E1, E2, E3, E4⟩ := ih σ₁ σ' D1 D2 hd₁ (fun t ht => by
              rcases hno t ht with q | q
              · rcases List.mem_cons.mp q with rfl | q
                · refine .inr ⟨fun e => ?_, fun o' e _ => ?_⟩
                  · rw [hs] at e; cases e
                  · rw [hs] at e; cases e; exact D3
                · exact .inl q
              · exact .inr q) h
            refine ⟨E1, E2, E3, fun l => ?_⟩
            rcases E4 l with q | q
            · rcases D4 l with u | u
              · exact .inl (q.trans u)
              · right; omega
            · exact .inr q
      · rename_i hn
        refine ih σ σ' hr hD hd (fun t ht => ?_) h
        rcases hno t ht with q | q
        · rcases List.mem_cons.mp q with rfl | q
          · refine .inr ⟨fun e => ?_, fun o' e q' => ?_⟩
            · rw [hs] at e; cases e
            · rw [hs] at e; cases e
              rcases hD o with u | ⟨_, u⟩
              · omega
              · exact u
          · exact .inl q
        · exact .inr q

theorem dfs_dead {adj : Int → List Str} {r : Str → Option Int} {d₀ : Int → Option Int} {rf : Int} : ∀ n o σ σ', σ.r = r → Dead adj r d₀ rf σ.d → dg σ.d o = dg d₀ o → 0 ≤ dg d₀ o → dfs rf adj n o σ = some (false, σ') → DPost adj r d₀ rf o σ σ'
  | 0, _, _, _, _, _, _, _, h => nomatch h
  | n + 1, o, σ, σ', hr, hD, hd, h0, h => dfsL_dead h0 (fun o σ σ' a b c d e => dfs_dead n o σ σ' a b c d e) (adj o) σ σ' hr hD hd (fun s hs => .inl hs) h
end

/-! part PlB -/
section
open PySem
def Dd (lefts : List Int) (d : Int → Option Int) : Prop := ∀ l ∈ lefts, (d l).isSome = true
def cnt (lefts : List Int) (p : Int → Option Str) : Nat := (lefts.filter fun l => (p l).isSome).length

theorem mu_lt {lefts : List Int} (d : Int → Option Int) (o : Int) : mu lefts d o < lefts.length + 1 := by
  unfold mu
  have := List.length_filter_le (fun l => decide (dg d o < dg d l)) lefts
  omega

theorem post_MV {lefts : List Int} {adj : Int → List Str} {σ σ' : PS} {l : Int} (_h : MV lefts adj σ) (P : Post lefts adj σ σ' l true) (hf : σ.p l = none) : MV lefts adj σ' := by
  obtain ⟨_, _, _, _, P5⟩ := P
  obtain ⟨_, _, _, S4, S5⟩ := P5 rfl
  exact ⟨fun s l' => S4 s (by rw [hf]; exact fun q => nomatch q) l', S5⟩

theorem cnt_up {p p' : Int → Option Str} {l : Int} (hl : p l = none) (hl' : (p' l).isSome = true) (hs : ∀ j, j ≠ l → (p' j).isSome = (p j).isSome) : ∀ {lefts : List Int}, lefts.Nodup → l ∈ lefts → cnt lefts p' = cnt lefts p + 1
  | [], _, h => nomatch h
  | x :: r, hn, h => by
    rw [List.nodup_cons] at hn
    have same : ∀ {r : List Int}, l ∉ r → cnt r p' = cnt r p := fun {r} h => by
      unfold cnt
      induction r with
      | nil => rfl
      | cons y r ih =>
        simp only [List.mem_cons, not_or] at h
        have := ih h.2
        simp only [List.filter_cons, hs y (fun e => h.1 e.symm)]
        split <;> simp_all
    rcases List.mem_cons.mp h with rfl | h
    · have := same hn.1
      unfold cnt at this ⊢
      simp [hl, hl', this]
    · have ih := cnt_up hl hl' hs hn.2 h
      have hx : x ≠ l := fun e => hn.1 (e ▸ h)
      unfold cnt at ih ⊢
      simp only [List.filter_cons, hs x hx]
      split <;> simp_all

theorem phase_ok {lefts : List Int} {adj : Int → List Str} {rf : Int} (hnd : lefts.Nodup) : ∀ ls σ c, MV lefts adj σ → Dd lefts σ.d → (∀ l ∈ ls, l ∈ lefts) → ls.Nodup → (∀ l ∈ ls, σ.p l = none → dg σ.d l = 0) →
    ∃ σ' c', phase (dfs rf adj (lefts.length + 1)) ls σ c = some (σ', c') ∧ MV lefts adj σ' ∧ Dd lefts σ'.d ∧ c' + cnt lefts σ.p = c + cnt lefts σ'.p ∧ c ≤ c' ∧
      (c' = c → ∀ r d₀, σ.r = r → Dead adj r d₀ rf σ.d → (∀ l ∈ ls, σ.p l = none → ¬ Reach adj r d₀ rf l) ∧ σ'.p = σ.p) := by
  intro ls
  induction ls with
  | nil => intro σ c hM hD _ _ _; exact ⟨σ, c, rfl, hM, hD, rfl, Nat.le_refl _, fun _ r d₀ _ _ => ⟨(fun l h => nomatch h), rfl⟩⟩
  | cons l ls ih =>
    intro σ c hM hD hls hn hz
    rw [List.nodup_cons] at hn
    have hll := hls l List.mem_cons_self
    simp only [phase]
    cases hp : σ.p l with
    | some s =>
      simp only [Option.isSome_some, if_true]
      obtain ⟨σ', c', e, a, b, c1, c2, c3⟩ := ih σ c hM hD (fun x hx => hls x (List.mem_cons_of_mem _ hx)) hn.2 (fun x hx => hz x (List.mem_cons_of_mem _ hx))
      refine ⟨σ', c', e, a, b, c1, c2, fun q r d₀ h1 h2 => ?_⟩
      obtain ⟨z1, z2⟩ := c3 q r d₀ h1 h2
      refine ⟨fun x hx hpx => ?_, z2⟩
      rcases List.mem_cons.mp hx with rfl | hx
      · rw [hp] at hpx; cases hpx
      · exact z1 x hx hpx
    | none =>
      simp only [Option.isSome_none, Bool.false_eq_true, if_false]
      have h0 : dg σ.d l = 0 := hz l List.mem_cons_self hp
      obtain ⟨⟨b₁, σ₁⟩, hc⟩ := dfs_tot (rf := rf) (lefts.length + 1) l σ hM hll (by omega) (mu_lt _ _)
      rw [hc]
      have P := dfs_ok _ l σ b₁ σ₁ hM hll (by omega) hc
      obtain ⟨P1, P2, P3, P4, P5⟩ := id P
      have hD₁ : Dd lefts σ₁.d := fun x hx => P3 x (hD x hx)
      cases b₁ with
      | true =>
        dsimp only
        obtain ⟨⟨s, S1⟩, S2, _, _, _⟩ := P5 rfl
        have hM₁ := post_MV hM P hp
        obtain ⟨σ', c', e, a, b, c1, c2, c3⟩ := ih σ₁ (c + 1) hM₁ hD₁ (fun x hx => hls x (List.mem_cons_of_mem _ hx)) hn.2 (fun x hx hpx => by
          have hxl : x ≠ l := fun q => hn.1 (q ▸ hx)
          have hpx' : σ.p x = none := by
            have := S2 x hxl
            rw [hpx] at this
            cases q : σ.p x with
            | none => rfl
            | some _ => rw [q] at this; cases this
          rcases P2 x with q | ⟨_, q | ⟨_, q⟩⟩
          · rw [q]; exact hz x (List.mem_cons_of_mem _ hx) hpx'
          · exact absurd q hxl
          · rw [hpx'] at q; cases q)
        have hcn := cnt_up (p := σ.p) (p' := σ₁.p) hp (by rw [S1]; rfl) S2 hnd hll
        exact ⟨σ', c', e, a, b, by omega, by omega, fun q => by omega⟩
      | false =>
        dsimp only
        obtain ⟨e1, e2⟩ := P4 rfl
        have hM₁ : MV lefts adj σ₁ := by unfold MV; rw [e1, e2]; exact hM
        obtain ⟨σ', c', e, a, b, c1, c2, c3⟩ := ih σ₁ c hM₁ hD₁ (fun x hx => hls x (List.mem_cons_of_mem _ hx)) hn.2 (fun x hx hpx => by
          rw [e1] at hpx
          rcases P2 x with q | ⟨_, q | ⟨_, q⟩⟩
          · rw [q]; exact hz x (List.mem_cons_of_mem _ hx) hpx
          · exact absurd (q ▸ hx) hn.1
          · rw [hpx] at q; cases q)
        rw [e1] at c1 c3
        refine ⟨σ', c', e, a, b, c1, c2, fun q r d₀ h1 h2 => ?_⟩
        have hd₀ : dg σ.d l = dg d₀ l := by
          rcases h2 l with u | ⟨u, _⟩
          · exact u
          · omega
        obtain ⟨D1, D2, D3, _⟩ := dfs_dead _ l σ σ₁ h1 h2 hd₀ (by omega) hc
        obtain ⟨z1, z2⟩ := c3 q r d₀ D1 D2
        refine ⟨fun x hx hpx => ?_, z2⟩
        rcases List.mem_cons.mp hx with rfl | hx
        · exact D3
        · exact z1 x hx hpx

/- the breadth-first search -/
structure BI (lefts : List Int) (adj : Int → List Str) (σ : PS) (b : BS) : Prop where
  dd : Dd lefts b.d
  lo : ∀ l ∈ lefts, -1 ≤ dg b.d l
  free : ∀ l ∈ lefts, σ.p l = none → dg b.d l = 0
  zero : ∀ l ∈ lefts, dg b.d l = 0 → σ.p l = none
  qin : ∀ l ∈ b.q, l ∈ lefts ∧ 0 ≤ dg b.d l
  par : ∀ l ∈ lefts, 0 < dg b.d l → ∃ l' ∈ lefts, dg b.d l = dg b.d l' + 1 ∧ 0 ≤ dg b.d l' ∧ ∃ s ∈ adj l', σ.r s = some l
  hit : b.rf ≠ -1 → ∃ l ∈ lefts, b.rf = dg b.d l + 1 ∧ 0 ≤ dg b.d l ∧ ∃ s ∈ adj l, σ.r s = none

def Seen (σ : PS) (d : Int → Option Int) (s : Str) : Prop := ∃ o, σ.r s = some o ∧ 0 ≤ dg d o
def Clo (lefts : List Int) (adj : Int → List Str) (σ : PS) (b : BS) : Prop := b.rf = -1 → ∀ l ∈ lefts, 0 ≤ dg b.d l → l ∈ b.q ∨ ∀ s ∈ adj l, Seen σ b.d s

def bmu (lefts : List Int) (b : BS) : Nat := b.q.length + (lefts.filter fun l => decide (dg b.d l = -1)).length

theorem filter_upd {lefts : List Int} {d : Int → Option Int} {o v : Int} (hv : v ≠ -1) (hd : dg d o = -1) : lefts.Nodup → o ∈ lefts →
    (lefts.filter fun l => decide (dg (upd d o v) l = -1)).length + 1 = (lefts.filter fun l => decide (dg d l = -1)).length := by
  induction lefts with
  | nil => intro _ h; cases h
  | cons x r ih =>
    intro hn h
    rw [List.nodup_cons] at hn
    have same : ∀ r : List Int, o ∉ r → (r.filter fun l => decide (dg (upd d o v) l = -1)) = r.filter fun l => decide (dg d l = -1) := fun r h => by
      apply List.filter_congr
      intro y hy
      rw [dg_upd, if_neg (fun e : y = o => h (e ▸ hy))]
    rcases List.mem_cons.mp h with rfl | h
    · simp only [List.filter_cons, dg_upd, if_pos, hv, hd]
      have := same r hn.1
      simp only [dg_upd] at this
      rw [this]; simp
    · have hx : x ≠ o := fun e => hn.1 (e ▸ h)
      have ih := ih hn.2 h
      simp only [List.filter_cons]
      rw [dg_upd, if_neg hx]
      split <;> simp_all <;> omega

theorem bfsIn_ok {lefts : List Int} {adj : Int → List Str} {σ : PS} (hM : MV lefts adj σ) (hnd : lefts.Nodup) {lv : Int} (hlv : lv ∈ lefts) : ∀ ss b, (∀ s ∈ ss, s ∈ adj lv) → BI lefts adj σ b → 0 ≤ dg b.d lv →
    BI lefts adj σ (bfsIn σ.r lv ss b) ∧ bmu lefts (bfsIn σ.r lv ss b) = bmu lefts b ∧ (∀ l, 0 ≤ dg b.d l → dg (bfsIn σ.r lv ss b).d l = dg b.d l) ∧ ((bfsIn σ.r lv ss b).rf = -1 → b.rf = -1 ∧ ∀ s ∈ ss, Seen σ (bfsIn σ.r lv ss b).d s) ∧
      (∀ l, l ∈ b.q → l ∈ (bfsIn σ.r lv ss b).q) ∧ (∀ l, 0 ≤ dg (bfsIn σ.r lv ss b).d l → 0 ≤ dg b.d l ∨ l ∈ (bfsIn σ.r lv ss b).q) := by
  intro ss
  induction ss with
  | nil => intro b _ hB h0; exact ⟨hB, rfl, fun _ _ => rfl, fun h => ⟨h, fun s hs => nomatch hs⟩, fun _ h => h, fun _ h => .inl h⟩
  | cons s ss ih =>
    intro b hs hB h0
    have hss := fun t ht => hs t (List.mem_cons_of_mem _ ht)
    simp only [bfsIn]
    cases hr : σ.r s with
    | none =>
      dsimp only
      by_cases hrf : b.rf = -1
      · rw [if_pos hrf]
        have hB' : BI lefts adj σ { b with rf := dg b.d lv + 1 } := ⟨hB.dd, hB.lo, hB.free, hB.zero, hB.qin, hB.par, fun _ => ⟨lv, hlv, rfl, h0, s, hs s List.mem_cons_self, hr⟩⟩
        obtain ⟨z1, z2, z3, z4, z5, z6⟩ := ih _ hss hB' h0
        refine ⟨z1, z2, z3, fun h => ?_, z5, z6⟩
        have := (z4 h).1
        dsimp only at this; omega
      · rw [if_neg hrf]
        obtain ⟨z1, z2, z3, z4, z5, z6⟩ := ih _ hss hB h0
        exact ⟨z1, z2, z3, fun h => absurd (z4 h).1 hrf, z5, z6⟩
    | some o =>
      dsimp only
      have hpo : σ.p o = some s := (hM.1 s o).mp hr
      have hol := (hM.2 o s hpo).1
      by_cases hdo : dg b.d o = -1
      · rw [if_pos hdo]
        have hne : lv ≠ o := fun e => by subst e; omega
        have dgk : ∀ l, 0 ≤ dg b.d l → dg (upd b.d o (dg b.d lv + 1)) l = dg b.d l := fun l h => by
          rw [dg_upd]; split
          · rename_i e; subst e; omega
          · rfl
        have hB' : BI lefts adj σ { b with d := upd b.d o (dg b.d lv + 1), q := b.q ++ [o] } := by
          refine ⟨fun l hl => ?_, fun l hl => ?_, fun l hl hp => ?_, fun l hl hp => ?_, fun l hl => ?_, fun l hl h => ?_, fun h => ?_⟩
          · dsimp only; unfold upd; split
            · rfl
            · exact hB.dd l hl
          · dsimp only; rw [dg_upd]; split
            · omega
            · exact hB.lo l hl
          · dsimp only; rw [dg_upd, if_neg (fun e => by subst e; rw [hpo] at hp; cases hp)]; exact hB.free l hl hp
          · dsimp only at hp; rw [dg_upd] at hp; split at hp
            · omega
            · exact hB.zero l hl hp
          · dsimp only at hl ⊢
            rcases List.mem_append.mp hl with hl | hl
            · have := hB.qin l hl
              refine ⟨this.1, ?_⟩
              rw [dgk l this.2]; exact this.2
            · rw [List.mem_singleton.mp hl]
              refine ⟨hol, ?_⟩
              rw [dg_upd, if_pos rfl]; omega
          · dsimp only at h ⊢
            by_cases e : l = o
            · subst e
              refine ⟨lv, hlv, ?_, ?_, s, hs s List.mem_cons_self, hr⟩
              · rw [dgk lv h0, dg_upd, if_pos rfl]
              · rw [dgk lv h0]; exact h0
            · rw [dg_upd, if_neg e] at h
              obtain ⟨l', a, b', c, e'⟩ := hB.par l hl h
              refine ⟨l', a, ?_, ?_, e'⟩
              · rw [dgk l' c, dg_upd, if_neg e]; exact b'
              · rw [dgk l' c]; exact c
          · obtain ⟨l, a, b', c, e⟩ := hB.hit h
            exact ⟨l, a, by dsimp only; rw [dgk l c]; exact b', by dsimp only; rw [dgk l c]; exact c, e⟩
        obtain ⟨z1, z2, z3, z4, z5, z6⟩ := ih _ hss hB' (by dsimp only; rw [dgk lv h0]; exact h0)
        refine ⟨z1, ?_, fun l h => ?_, fun h => ?_, fun l hl => ?_, fun l h => ?_⟩
        · rw [z2]
          have := filter_upd (d := b.d) (v := dg b.d lv + 1) (by omega) hdo hnd hol
          unfold bmu; dsimp only
          rw [List.length_append, List.length_singleton]; omega
        · rw [z3 l (by dsimp only; rw [dgk l h]; exact h)]; exact dgk l h
        · obtain ⟨a, b'⟩ := z4 h
          refine ⟨a, fun t ht => ?_⟩
          rcases List.mem_cons.mp ht with rfl | ht
          · refine ⟨o, hr, ?_⟩
            have e : dg (upd b.d o (dg b.d lv + 1)) o = dg b.d lv + 1 := by rw [dg_upd, if_pos rfl]
            rw [z3 o (by dsimp only; rw [e]; omega)]
            dsimp only; rw [e]; omega
          · exact b' t ht
        · exact z5 l (List.mem_append_left _ hl)
        · rcases z6 l h with q | q
          · dsimp only at q
            rw [dg_upd] at q
            split at q
            · rename_i e; subst e; exact .inr (z5 _ (List.mem_append_right _ List.mem_cons_self))
            · exact .inl q
          · exact .inr q
      · rw [if_neg hdo]
        obtain ⟨z1, z2, z3, z4, z5, z6⟩ := ih _ hss hB h0
        refine ⟨z1, z2, z3, fun h => ?_, z5, z6⟩
        obtain ⟨a, b'⟩ := z4 h
        refine ⟨a, fun t ht => ?_⟩
        rcases List.mem_cons.mp ht with rfl | ht
        · have := hB.lo o hol
          refine ⟨o, hr, ?_⟩
          rw [z3 o (by omega)]; omega
        · exact b' t ht

theorem bfsW_ok {lefts : List Int} {adj : Int → List Str} {σ : PS} (hM : MV lefts adj σ) (hnd : lefts.Nodup) : ∀ n b, BI lefts adj σ b → Clo lefts adj σ b → bmu lefts b < n →
    ∃ b', bfsW adj σ.r n b = some b' ∧ BI lefts adj σ b' ∧ Clo lefts adj σ b' ∧ b'.q = [] := by
  intro n
  induction n with
  | zero => intro b _ _ h; exact absurd h (Nat.not_lt_zero _)
  | succ n ih =>
    intro b hB hC hmu
    simp only [bfsW]
    cases hq : b.q with
    | nil => exact ⟨b, rfl, hB, hC, hq⟩
    | cons lv q' =>
      dsimp only
      have hlv := hB.qin lv (by rw [hq]; exact List.mem_cons_self)
      have hB' : BI lefts adj σ { b with q := q' } := ⟨hB.dd, hB.lo, hB.free, hB.zero, fun l hl => hB.qin l (by rw [hq]; exact List.mem_cons_of_mem _ hl), hB.par, hB.hit⟩
      have hm' : bmu lefts { b with q := q' } + 1 = bmu lefts b := by unfold bmu; rw [hq]; simp; omega
      rw [if_neg (by omega)]
      by_cases h2 : b.rf ≤ dg b.d lv ∧ b.rf ≠ -1
      · rw [if_pos h2]
        exact ih _ hB' (fun h => absurd h h2.2) (by omega)
      · rw [if_neg h2]
        obtain ⟨z1, z2, z3, z4, z5, z6⟩ := bfsIn_ok hM hnd hlv.1 (adj lv) { b with q := q' } (fun _ h => h) hB' hlv.2
        refine ih _ z1 (fun h l hl h0 => ?_) (by omega)
        obtain ⟨a, c⟩ := z4 h
        rcases z6 l h0 with u | u
        · by_cases e : l = lv
          · subst e; exact .inr c
          · rcases hC a l hl u with v | v
            · rw [hq] at v
              rcases List.mem_cons.mp v with v | v
              · exact absurd v e
              · exact .inl (z5 l v)
            · refine .inr fun s hs => ?_
              obtain ⟨o, e1, e2⟩ := v s hs
              exact ⟨o, e1, by rw [z3 o e2]; exact e2⟩
        · exact .inl u

theorem bfsI_ok {p : Int → Option Str} : ∀ ls q d, ls.Nodup → (∀ l ∈ ls, l ∉ q) →
    let r := bfsI p ls q d
    r.1 = q ++ ls.filter (fun l => !(p l).isSome) ∧ (∀ l, l ∉ ls → r.2 l = d l) ∧ ∀ l ∈ ls, r.2 l = some (if (p l).isSome then -1 else 0) := by
  intro ls
  induction ls with
  | nil => intro q d _ _; simp [bfsI]
  | cons l ls ih =>
    intro q d hn hq
    rw [List.nodup_cons] at hn
    simp only [bfsI]
    cases hp : (p l).isSome with
    | true =>
      simp only [if_true]
      obtain ⟨a, b, c⟩ := ih q (upd d l (-1)) hn.2 fun x hx => hq x (List.mem_cons_of_mem _ hx)
      refine ⟨by rw [a, List.filter_cons, hp]; rfl, fun x hx => ?_, fun x hx => ?_⟩
      · simp only [List.mem_cons, not_or] at hx
        rw [b x hx.2]; unfold upd; rw [if_neg hx.1]
      · rcases List.mem_cons.mp hx with rfl | hx
        · rw [b x hn.1]; unfold upd; simp [hp]
        · exact c x hx
    | false =>
      simp only [Bool.false_eq_true, if_false]
      obtain ⟨a, b, c⟩ := ih (q ++ [l]) (upd d l 0) hn.2 fun x hx => by
        simp only [List.mem_append, List.mem_singleton, not_or]
        exact ⟨hq x (List.mem_cons_of_mem _ hx), fun e => hn.1 (e ▸ hx)⟩
      refine ⟨by rw [a, List.filter_cons, hp, List.append_assoc]; rfl, fun x hx => ?_, fun x hx => ?_⟩
      · simp only [List.mem_cons, not_or] at hx
        rw [b x hx.2]; unfold upd; rw [if_neg hx.1]
      · rcases List.mem_cons.mp hx with rfl | hx
        · rw [b x hn.1]; unfold upd; simp [hp]
        · exact c x hx

theorem filter_two {α : Type} (f : α → Bool) : ∀ l : List α, (l.filter fun x => !f x).length + (l.filter f).length = l.length
  | [] => rfl
  | x :: r => by
    have ih := filter_two f r
    simp only [List.filter_cons, List.length_cons]
    cases f x <;> simp <;> omega

theorem bfs_ok {G : Gr} {σ : PS} (hM : MV G.left G.adj σ) (hnd : G.left.Nodup) : ∃ b, bfs G σ = some b ∧ BI G.left G.adj σ b ∧ Clo G.left G.adj σ b ∧ b.q = [] := by
  obtain ⟨a, b, c⟩ := bfsI_ok (p := σ.p) G.left [] σ.d hnd fun _ _ h => nomatch h
  unfold bfs
  generalize hI : bfsI σ.p G.left [] σ.d = I at a b c
  obtain ⟨q, d⟩ := I
  dsimp only at a b c ⊢
  have hdg : ∀ l ∈ G.left, dg d l = if (σ.p l).isSome then -1 else 0 := fun l hl => by unfold dg; rw [c l hl]; rfl
  have hB : BI G.left G.adj σ ⟨q, d, -1⟩ := by
    refine ⟨fun l hl => ?_, fun l hl => ?_, fun l hl hp => ?_, fun l hl hp => ?_, fun l hl => ?_, fun l hl h => ?_, fun h => absurd rfl h⟩
    · dsimp only; rw [c l hl]; rfl
    · dsimp only; rw [hdg l hl]; split <;> omega
    · dsimp only; rw [hdg l hl, hp]; rfl
    · dsimp only at hp; rw [hdg l hl] at hp
      cases q : σ.p l with
      | none => rfl
      | some _ => rw [q] at hp; simp at hp
    · dsimp only at hl ⊢; rw [a] at hl
      obtain ⟨h1, h2⟩ := List.mem_filter.mp hl
      refine ⟨h1, ?_⟩
      rw [hdg l h1]
      cases q : (σ.p l).isSome with
      | true => rw [q] at h2; cases h2
      | false => simp
    · dsimp only at h; rw [hdg l hl] at h; split at h <;> omega
  refine bfsW_ok hM hnd _ _ hB (fun _ l hl h => .inl ?_) ?_
  · dsimp only at h ⊢
    rw [hdg l hl] at h
    rw [a]
    refine List.mem_filter.mpr ⟨hl, ?_⟩
    cases q : (σ.p l).isSome with
    | true => rw [q] at h; simp at h
    | false => rfl
  · unfold bmu
    dsimp only
    rw [a]
    have e : (G.left.filter fun l => decide (dg d l = -1)) = G.left.filter fun l => (σ.p l).isSome := by
      apply List.filter_congr
      intro l hl
      rw [hdg l hl]
      cases (σ.p l).isSome <;> simp
    rw [e]
    simp only [List.nil_append]
    have := filter_two (fun l => (σ.p l).isSome) G.left
    omega

theorem bfs_reach {lefts : List Int} {adj : Int → List Str} {σ : PS} {b : BS} (B : BI lefts adj σ b) (h : b.rf ≠ -1) : ∃ l ∈ lefts, σ.p l = none ∧ Reach adj σ.r b.d b.rf l := by
  obtain ⟨l, hl, e, h0, s, hs, hr⟩ := B.hit h
  have R : Reach adj σ.r b.d b.rf l := .here hs hr e
  clear hs hr e s
  generalize hk : (dg b.d l).toNat = k
  induction k generalizing l with
  | zero => exact ⟨l, hl, B.zero l hl (by omega), R⟩
  | succ k ih =>
    obtain ⟨l', hl', e, h0', s, hs, hr⟩ := B.par l hl (by omega)
    exact ih l' hl' h0' (.step hs hr e R) (by omega)
end

/-! part PlC -/
section
open PySem
theorem nodup_map_on {α β : Type} {f : α → β} : ∀ {l : List α}, (∀ x ∈ l, ∀ y ∈ l, f x = f y → x = y) → l.Nodup → (l.map f).Nodup
  | [], _, _ => List.nodup_nil
  | x :: l, h, hn => by
    rw [List.nodup_cons] at hn
    rw [List.map_cons, List.nodup_cons]
    refine ⟨fun hm => ?_, nodup_map_on (fun a ha b hb => h a (List.mem_cons_of_mem _ ha) b (List.mem_cons_of_mem _ hb)) hn.2⟩
    obtain ⟨y, hy, e⟩ := List.mem_map.mp hm
    exact hn.1 (h y (List.mem_cons_of_mem _ hy) x List.mem_cons_self e ▸ hy)

theorem sum_add {α : Type} (f g : α → Nat) : ∀ l : List α, (l.map fun x => f x + g x).sum = (l.map f).sum + (l.map g).sum
  | [] => rfl
  | x :: l => by simp only [List.map_cons, List.sum_cons, sum_add f g l]; omega
theorem sum_le {α : Type} {f g : α → Nat} : ∀ {l : List α}, (∀ x ∈ l, f x ≤ g x) → (l.map f).sum ≤ (l.map g).sum
  | [], _ => Nat.le_refl _
  | x :: l, h => by
    have := h x List.mem_cons_self
    have ih := sum_le (l := l) fun y hy => h y (List.mem_cons_of_mem _ hy)
    simp only [List.map_cons, List.sum_cons]; omega
theorem sum_const {α : Type} (c : Nat) : ∀ l : List α, (l.map fun _ => c).sum = c * l.length
  | [] => by simp
  | x :: l => by simp only [List.map_cons, List.sum_cons, List.length_cons, sum_const c l, Nat.mul_add]; omega
theorem len_filter {α : Type} (p : α → Bool) : ∀ l : List α, (l.filter p).length = (l.map fun x => if p x then 1 else 0).sum
  | [] => rfl
  | x :: l => by
    have := len_filter p l
    simp only [List.filter_cons, List.map_cons, List.sum_cons]
    split <;> simp <;> omega
theorem swap_sum {α β : Type} (P : α → β → Bool) (T : List β) : ∀ S : List α, (S.map fun x => (T.filter fun y => P x y).length).sum = (T.map fun y => (S.filter fun x => P x y).length).sum
  | [] => by simp only [List.map_nil, List.sum_nil, List.filter_nil, List.length_nil]; rw [sum_const]; simp
  | x :: S => by
    have ih := swap_sum P T S
    simp only [List.map_cons, List.sum_cons]
    rw [ih, len_filter, ← sum_add]
    congr 1
    apply List.map_congr_left
    intro y _
    simp only [List.filter_cons]
    split <;> simp <;> omega

structure Reg (G : Gr) (signs : List Str) (deg : Nat) : Prop where
  nd : G.left.Nodup
  pos : 0 < deg
  snd : signs.Nodup
  row : ∀ l ∈ G.left, (G.adj l).Nodup ∧ (G.adj l).length = deg ∧ ∀ s ∈ G.adj l, s ∈ signs
  col : ∀ s ∈ signs, (G.left.filter fun l => (G.adj l).contains s).length ≤ deg

theorem hall {G : Gr} {signs : List Str} {deg : Nat} {σ : PS} {b : BS} (R : Reg G signs deg) (hM : MV G.left G.adj σ) (B : BI G.left G.adj σ b) (C : Clo G.left G.adj σ b) (hq : b.q = []) (hrf : b.rf = -1) :
    ∀ l ∈ G.left, (σ.p l).isSome = true := by
  have hS : ∀ S, S = G.left.filter (fun l => decide (0 ≤ dg b.d l)) → ∀ l ∈ S, (σ.p l).isSome = true := by
    intro S eS
    have memS : ∀ l, l ∈ S ↔ l ∈ G.left ∧ 0 ≤ dg b.d l := fun l => by rw [eS, List.mem_filter, decide_eq_true_eq]
    have clo : ∀ l ∈ S, ∀ s ∈ G.adj l, Seen σ b.d s := fun l hl => by
      obtain ⟨h1, h2⟩ := (memS l).mp hl
      rcases C hrf l h1 h2 with q | q
      · rw [hq] at q; cases q
      · exact q
    have hT : ∀ T, T = signs.filter (fun s => S.any fun l => (G.adj l).contains s) → S.length ≤ T.length ∧ T.length ≤ (S.filter fun l => (σ.p l).isSome).length := by
      intro T eT
      have memT : ∀ s, s ∈ T ↔ s ∈ signs ∧ ∃ l ∈ S, s ∈ G.adj l := fun s => by
        rw [eT, List.mem_filter, List.any_eq_true]
        simp only [List.contains_iff_mem]
      constructor
      · have h1 : deg * S.length ≤ (S.map fun l => (T.filter fun s => (G.adj l).contains s).length).sum := by
          rw [← sum_const]
          refine sum_le fun l hl => ?_
          obtain ⟨a, b', c⟩ := R.row l ((memS l).mp hl).1
          rw [← b']
          refine nodup_le a fun s hs => List.mem_filter.mpr ⟨(memT s).mpr ⟨c s hs, l, hl, hs⟩, by simpa using hs⟩
        have h2 : (T.map fun s => (S.filter fun l => (G.adj l).contains s).length).sum ≤ deg * T.length := by
          rw [← sum_const]
          refine sum_le fun s hs => ?_
          refine Nat.le_trans ?_ (R.col s ((memT s).mp hs).1)
          rw [eS, List.filter_filter]
          exact filter_len_le _ _ _ fun x _ h => by simp only [Bool.and_eq_true] at h; exact h.1
        rw [swap_sum (fun l s => (G.adj l).contains s)] at h1
        exact Nat.le_of_mul_le_mul_left (Nat.le_trans h1 h2) R.pos
      · have hr : ∀ s ∈ T, ∃ o, σ.r s = some o ∧ 0 ≤ dg b.d o := fun s hs => by
          obtain ⟨_, l, hl, h⟩ := (memT s).mp hs
          exact clo l hl s h
        have hn : T.Nodup := by rw [eT]; exact List.Sublist.nodup List.filter_sublist R.snd
        have := nodup_le (l := T.map fun s => (σ.r s).getD 0) (r := S.filter fun l => (σ.p l).isSome) (nodup_map_on (fun s hs t ht e => ?_) hn) fun l hl => ?_
        · rwa [List.length_map] at this
        · obtain ⟨o, e1, _⟩ := hr s hs
          obtain ⟨o', e2, _⟩ := hr t ht
          rw [e1, e2] at e
          simp only [Option.getD_some] at e
          subst e
          have a := (hM.1 s o).mp e1
          have b' := (hM.1 t o).mp e2
          rw [a] at b'; exact Option.some.inj b'
        · obtain ⟨s, hs, rfl⟩ := List.mem_map.mp hl
          obtain ⟨o, e1, h0⟩ := hr s hs
          rw [e1, Option.getD_some]
          have a := (hM.1 s o).mp e1
          exact List.mem_filter.mpr ⟨(memS o).mpr ⟨(hM.2 o s a).1, h0⟩, by rw [a]; rfl⟩
    obtain ⟨h1, h2⟩ := hT _ rfl
    intro l hl
    refine Classical.byContradiction fun hno => ?_
    have := filter_len_lt (fun l => (σ.p l).isSome) (fun _ => true) S (fun _ _ _ => rfl) ⟨l, hl, rfl, by simpa using hno⟩
    rw [List.filter_eq_self.mpr fun _ _ => rfl] at this
    omega
  intro l hl
  cases hp : σ.p l with
  | some _ => rfl
  | none =>
    have := B.free l hl hp
    have := hS _ rfl l (List.mem_filter.mpr ⟨hl, by simp; omega⟩)
    rw [hp] at this; cases this

theorem cnt_le (lefts : List Int) (p : Int → Option Str) : cnt lefts p ≤ lefts.length := List.length_filter_le _ _
theorem cnt_all {lefts : List Int} {p : Int → Option Str} (h : ∀ l ∈ lefts, (p l).isSome = true) : cnt lefts p = lefts.length := by
  unfold cnt; rw [List.filter_eq_self.mpr h]

theorem runW_ok {G : Gr} {signs : List Str} {deg : Nat} (R : Reg G signs deg) : ∀ n σ, MV G.left G.adj σ → G.left.length < n + cnt G.left σ.p →
    ∃ σ' rf, runW G n σ (cnt G.left σ.p) = some (σ', G.left.length, rf) ∧ MV G.left G.adj σ' ∧ ∀ l ∈ G.left, (σ'.p l).isSome = true := by
  intro n
  induction n with
  | zero => intro σ _ h; have := cnt_le G.left σ.p; omega
  | succ n ih =>
    intro σ hM hlt
    simp only [runW]
    obtain ⟨b, eb, B, C, hq⟩ := bfs_ok hM R.nd
    rw [eb]
    dsimp only
    by_cases hrf : b.rf = -1
    · rw [if_pos hrf]
      have := hall R hM B C hq hrf
      rw [cnt_all this]
      exact ⟨_, _, rfl, hM, this⟩
    · rw [if_neg hrf]
      have hM₁ : MV G.left G.adj { σ with d := b.d } := hM
      obtain ⟨σ', c', e, a, b', c1, c2, c3⟩ := phase_ok (rf := b.rf) R.nd G.left { σ with d := b.d } (cnt G.left σ.p) hM₁ B.dd (fun _ h => h) R.nd (fun l hl hp => B.free l hl hp)
      rw [e]
      dsimp only at c1 c3 ⊢
      have hne : c' ≠ cnt G.left σ.p := fun q => by
        obtain ⟨z, _⟩ := c3 q σ.r b.d rfl fun l => .inl rfl
        obtain ⟨l, hl, hp, hR⟩ := bfs_reach B hrf
        exact z l hl hp hR
      have hc' : c' = cnt G.left σ'.p := by omega
      subst hc'
      exact ih σ' a (by omega)

theorem cnt_zero (lefts : List Int) : cnt lefts (fun _ => none) = 0 := by
  unfold cnt; simp

theorem run_ok {G : Gr} {signs : List Str} {deg : Nat} (R : Reg G signs deg) : ∃ σ rf, run G = some (σ, G.left.length, rf) ∧ MV G.left G.adj σ ∧ ∀ l ∈ G.left, (σ.p l).isSome = true := by
  have := runW_ok R (G.left.length + 1) ⟨fun _ => none, fun _ => none, iniD G.left fun _ => none⟩ ⟨fun s l => ⟨fun h => (nomatch h), fun h => (nomatch h)⟩, fun l s h => nomatch h⟩ (by rw [cnt_zero]; omega)
  rw [cnt_zero] at this
  exact this
end

/-! part PlD -/
section
open PySem
def Wf (lefts : List Int) (σ : PS) : Prop := (∀ s o, σ.r s = some o → o ∈ lefts) ∧ Dd lefts σ.d

theorem Wf.swp {lefts : List Int} {σ : PS} (h : Wf lefts σ) {l : Int} {s : Str} (hl : l ∈ lefts) : Wf lefts (swp σ l s) :=
  ⟨fun t o e => by
    simp only [Mine.swp, upd] at e
    split at e
    · cases e; exact hl
    · exact h.1 t o e, h.2⟩
theorem Wf.setD {lefts : List Int} {σ : PS} (h : Wf lefts σ) (l v : Int) : Wf lefts { σ with d := upd σ.d l v } :=
  ⟨h.1, fun j hj => by dsimp only; unfold upd; split; rfl; exact h.2 j hj⟩

theorem dfsL_wf {lefts : List Int} {rec : Int → PS → Option (Bool × PS)} {rf left : Int} (hl : left ∈ lefts)
    (hrec : ∀ o σ b σ', Wf lefts σ → o ∈ lefts → rec o σ = some (b, σ') → Wf lefts σ') : ∀ ss σ b σ', Wf lefts σ → dfsL rec rf left ss σ = some (b, σ') → Wf lefts σ' := by
  intro ss
  induction ss with
  | nil =>
    intro σ b σ' hW h
    simp only [dfsL, Option.some.injEq, Prod.mk.injEq] at h
    obtain ⟨rfl, rfl⟩ := h
    exact hW.setD _ _
  | cons s ss ih =>
    intro σ b σ' hW h
    simp only [dfsL] at h
    cases hr : σ.r s with
    | none =>
      rw [hr] at h; dsimp only at h
      split at h
      · simp only [Option.some.injEq, Prod.mk.injEq] at h
        obtain ⟨rfl, rfl⟩ := h
        exact hW.swp hl
      · exact ih σ b σ' hW h
    | some o =>
      rw [hr] at h; dsimp only at h
      split at h
      · cases hc : rec o σ with
        | none => rw [hc] at h; cases h
        | some res =>
          obtain ⟨b₁, σ₁⟩ := res
          have hW₁ := hrec o σ b₁ σ₁ hW (hW.1 s o hr) hc
          rw [hc] at h
          cases b₁ with
          | true =>
            simp only [Option.some.injEq, Prod.mk.injEq] at h
            obtain ⟨rfl, rfl⟩ := h
            exact hW₁.swp hl
          | false => exact ih σ₁ b σ' hW₁ h
      · exact ih σ b σ' hW h

theorem dfs_wf {lefts : List Int} {adj : Int → List Str} {rf : Int} : ∀ n o σ b σ', Wf lefts σ → o ∈ lefts → dfs rf adj n o σ = some (b, σ') → Wf lefts σ'
  | 0, _, _, _, _, _, _, h => nomatch h
  | n + 1, o, σ, b, σ', hW, ho, h => dfsL_wf ho (fun o σ b σ' a c d => dfs_wf n o σ b σ' a c d) (adj o) σ b σ' hW h

theorem dg_of {d : Int → Option Int} {l v : Int} (h : d l = some v) : dg d l = v := by unfold dg; rw [h]; rfl
end

/-! part HkB -/
section
open PySem PySem.W PyProof.Rows PySem.Calls
theorem fill : PySem.Challenge.rw_bd0017_01 = PySem.Challenge.rw_bd0017_01 ∧ hd.heap_39 = hd.heap_39 := by
  k_fill
  exact ⟨rfl, rfl⟩

abbrev flds (P : Params) (a : Ad) (rf : Int) (tr : Tok) : List DictEntry := [
  ⟨PyData.keyHash P (Str.ofString "_graph_left"), .str (Str.ofString "_graph_left") a.t.a, .ref a.gl⟩,
  ⟨PyData.keyHash P (Str.ofString "_reference_distance"), .str (Str.ofString "_reference_distance") a.t.b, .int rf tr⟩,
  ⟨PyData.keyHash P (Str.ofString "_pair_left"), .str (Str.ofString "_pair_left") a.t.c, .ref a.pl⟩,
  ⟨PyData.keyHash P (Str.ofString "_pair_right"), .str (Str.ofString "_pair_right") a.t.d, .ref a.pr⟩,
  ⟨PyData.keyHash P (Str.ofString "_left"), .str (Str.ofString "_left") a.t.e, .ref a.lf⟩,
  ⟨PyData.keyHash P (Str.ofString "_dist_left"), .str (Str.ofString "_dist_left") a.t.f, .ref a.dl⟩]

abbrev core (P : Params) (a : Ad) (rf : Int) (tr : Tok) (oP oR oD : Obj) : Ledger :=
  [(a.x, instObj 73 a.dx), (a.dx, dictOf (flds P a rf tr) 6), (a.pl, oP), (a.pr, oR), (a.dl, oD)]
abbrev adrs (a : Ad) : List Addr := [a.x, a.dx, a.pl, a.pr, a.dl]

abbrev topA (dp un : Nat) (fr : Option (List Env)) (gd : Option (List Code)) : Around := { handled := none, depth := dp, frames := fr, guards := gd, units := un }

structure Apart (a : Ad) : Prop where
  d1 : @Ne Nat a.x a.dx
  d2 : @Ne Nat a.x a.pl
  d3 : @Ne Nat a.x a.pr
  d4 : @Ne Nat a.x a.dl
  d5 : @Ne Nat a.dx a.pl
  d6 : @Ne Nat a.dx a.pr
  d7 : @Ne Nat a.dx a.dl
  d8 : @Ne Nat a.pl a.pr
  d9 : @Ne Nat a.pl a.dl
  d10 : @Ne Nat a.pr a.dl
  l1 : (a.pl == sysModules) = false
  l2 : (a.pr == sysModules) = false
  l3 : (a.dl == sysModules) = false

structure StR (prog : Program) (w : World) (cs : List Int) (ss : List Str) (oP oR oD : Obj) (σ : PS) : Prop where
  P : DR (intKind prog w) RStr cs oP σ.p
  R : DR (strKind prog w) RInt ss oR σ.r
  D : DR (intKind prog w) RInt cs oD σ.d

structure Sized (G : Gr) (ss : List Str) : Prop where
  c : G.left.length ≤ 100
  s : ss.length ≤ 100
  adj : ∀ l ∈ G.left, ∀ s ∈ G.adj l, s ∈ ss
  nd : G.left.Nodup
  al : ∀ l ∈ G.left, (G.adj l).length ≤ 100

structure Imm (prog : Program) (w : World) (h : Heap) (a : Ad) (G : Gr) : Prop where
  left : ∃ vs, h.IsList a.lf vs.toArray ∧ IntsAre vs G.left
  graph : ∃ oG row, h.get? a.gl = some oG ∧ DR (intKind prog w) (fun ad v => v = Value.ref ad) G.left oG row ∧
    ∀ c ∈ G.left, ∃ ad vs, row c = some ad ∧ h.IsList ad vs.toArray ∧ StrsAre vs (G.adj c)
theorem Imm.keep {prog : Program} {w : World} {h h' : Heap} {a : Ad} {G : Gr} (I : Imm prog w h a G) (k : ∀ b o, h.get? b = some o → h'.get? b = some o) : Imm prog w h' a G :=
  ⟨let ⟨vs, x, y⟩ := I.left; ⟨vs, x.at fun o e => k _ o e, y⟩,
   let ⟨oG, row, x, y, z⟩ := I.graph; ⟨oG, row, k _ _ x, y, fun c hc => let ⟨ad, vs, u, v, t⟩ := z c hc; ⟨ad, vs, u, v.at fun o e => k _ o e, t⟩⟩⟩
def ImmAt (prog : Program) (w : World) (h : Heap) (a : Ad) (G : Gr) : Prop := ∃ hI, Imm prog w hI a G ∧ ∀ b o, hI.get? b = some o → h.get? b = some o ∧ b ∉ adrs a
theorem ImmAt.base {prog : Program} {w : World} {h : Heap} {a : Ad} {G : Gr} {g : Heap} (I : ImmAt prog w h a G) (k : ∀ b o, h.get? b = some o → b ∉ adrs a → g.get? b = some o) : Imm prog w g a G :=
  let ⟨_, x, y⟩ := I; x.keep fun b o e => k b o (y b o e).1 (y b o e).2
theorem ImmAt.of {prog : Program} {w : World} {h h₀ : Heap} {L : Addr} {m : Str → Option Value} {a : Ad} {G : Gr} {rest : Ledger} {P : Params} {rf : Int} {tr : Tok} {oP oR oD : Obj} (I : Imm prog w h₀ a G) (F : Fr h₀ L h m) (N : News h₀ L h (core P a rf tr oP oR oD ++ rest)) : ImmAt prog w h a G :=
  ⟨h₀, I, fun b o e => ⟨F.keep b o e, fun hb => by
    obtain ⟨q, hq, rfl⟩ := List.mem_map.mp (show b ∈ (core P a rf tr oP oR oD).map (·.1) from hb)
    have := (N q (List.mem_append_left _ hq)).2.2
    rw [this] at e; cases e⟩⟩

theorem hide_post {α : Type} {M : Model} {A : Around} {c : Sem α} {Q : α → Shared → Prop} {E : Value → Shared → Prop} {s : Shared} (h : ∀ K : α → Shared → Prop, (∀ a s', Q a s' → K a s') → wpAny M A c K E s) : wpAny M A c Q E s := h Q fun _ _ h => h
structure Kept (C : Prop) : Prop where
  get : C
theorem by_way {C R : Prop} (k1 : Kept C → R) (k : C) : R := k1 ⟨k⟩

end

open PySem PySem.W PyProof.Rows PySem.Calls
local macro_rules | `(tactic| walk_at "setItem ref int") => `(tactic| (k_here; k_dflt (refine' dr_set (knd := intKind _ _) ?F ?N ?U ?hk ?D ?i ?z ?r ?_; (case F => k_asm); (case N => k_asm); (case U => k_updF); (case hk => exact intKind_is _ _ _ _); (case D => assumption); (case i => assumption); (case z => assumption); (case r => exact ⟨_, rfl⟩)); intro h' o' F' N' D'; (try dsimp only at N'); (try k_sweep)))
local macro_rules | `(tactic| walk_at "setItem ref str") => `(tactic| (k_here; k_dflt (refine' dr_set (knd := strKind _ _) ?F ?N ?U ?hk ?D ?i ?z ?r ?_; (case F => k_asm); (case N => k_asm); (case U => k_updF); (case hk => exact strKind_is _ _ _ _); (case D => assumption); (case i => assumption); (case z => assumption); (case r => exact ⟨_, rfl⟩)); intro h' o' F' N' D'; (try dsimp only at N'); (try k_sweep)))
local macro_rules | `(tactic| walk_at "compareOp In int ref") => `(tactic| (k_here; k_dflt (first | (refine' dr_in_some (knd := intKind _ _) ?N ?m ?lo ?hk ?D ?v ?_; (case N => k_asm); (case m => k_mem); (case lo => assumption); (case hk => exact intKind_is _ _ _ _); (case D => assumption); (case v => assumption)) | (refine' dr_in_none (knd := intKind _ _) ?N ?m ?lo ?hk ?D ?v ?_; (case N => k_asm); (case m => k_mem); (case lo => assumption); (case hk => exact intKind_is _ _ _ _); (case D => assumption); (case v => assumption)))))
local macro_rules | `(tactic| walk_at "compareOp NotIn int ref") => `(tactic| (k_here; k_dflt (first | (refine' dr_notin_some (knd := intKind _ _) ?N ?m ?lo ?hk ?D ?v ?_; (case N => k_asm); (case m => k_mem); (case lo => assumption); (case hk => exact intKind_is _ _ _ _); (case D => assumption); (case v => assumption)) | (refine' dr_notin_none (knd := intKind _ _) ?N ?m ?lo ?hk ?D ?v ?_; (case N => k_asm); (case m => k_mem); (case lo => assumption); (case hk => exact intKind_is _ _ _ _); (case D => assumption); (case v => assumption)))))
local macro_rules | `(tactic| walk_at "compareOp NotIn str ref") => `(tactic| (k_here; k_dflt (first | (refine' dr_notin_some (knd := strKind _ _) ?N ?m ?lo ?hk ?D ?v ?_; (case N => k_asm); (case m => k_mem); (case lo => assumption); (case hk => exact strKind_is _ _ _ _); (case D => assumption); (case v => assumption)) | (refine' dr_notin_none (knd := strKind _ _) ?N ?m ?lo ?hk ?D ?v ?_; (case N => k_asm); (case m => k_mem); (case lo => assumption); (case hk => exact strKind_is _ _ _ _); (case D => assumption); (case v => assumption)))))
local macro_rules | `(tactic| walk_at "subscriptTail") => `(tactic| (k_here; (with_reducible show wpAny _ _ (subscriptTail _ _ (Value.ref _) (Value.int _ _)) _ _ _); k_dflt (first | (refine' dr_get (knd := intKind _ _) ?N ?m ?hk ?D ?v ?_; (case N => k_asm); (case m => k_mem); (case hk => exact intKind_is _ _ _ _); (case D => assumption); (case v => assumption)) | (refine' dr_get_base (knd := intKind _ _) ?F ?m ?hk ?D ?v ?_; (case F => k_asm); (case m => assumption); (case hk => exact intKind_is _ _ _ _); (case D => assumption); (case v => assumption))); intro _ hx'; first | (obtain ⟨t', e'⟩ := hx'; subst e') | (subst hx')))
local macro_rules | `(tactic| walk_at "subscriptTail") => `(tactic| (k_here; (with_reducible show wpAny _ _ (subscriptTail _ _ (Value.ref _) (Value.str _ _)) _ _ _); k_dflt (refine' dr_get (knd := strKind _ _) ?N ?m ?hk ?D ?v ?_; (case N => k_asm); (case m => k_mem); (case hk => exact strKind_is _ _ _ _); (case D => assumption); (case v => assumption)); intro _ hx'; (obtain ⟨t', e'⟩ := hx'; subst e')))
local macro_rules | `(tactic| walk_at "HKs") => `(tactic| (first | ((fail_if_success (with_reducible show wpAny _ _ (call (Value.ref _) _) _ _ _)); (fail_if_success (with_reducible show Back _ _ _ _ _ _ _ _)); (fail_if_success (with_reducible show InvEndN _ _ _ _ _ _ _)); (fail_if_success (with_reducible show WhileStep2 _ _ _ _ _ _ _ _)); (fail_if_success (with_reducible show wpAny _ _ (exec (Stmt.While _ _ _ _) _) _ _ _)); (fail_if_success (with_reducible show wpAny _ _ (exec (Stmt.For _ _ _ _ _) _) _ _ _)); (fail_if_success (with_reducible show wpAny _ _ (eval (Expr.ListComp _ _ _ _) _) _ _ _)); (fail_if_success (with_reducible show PyProof.Rows.LCg.CompSrc _ _ _ _ _ _ _ _ _ _ _ _ _ _)); (fail_if_success (with_reducible show PyProof.Rows.LCg.CompEnd _ _ _ _ _ _ _ _ _ _ _ _ _ _)); (fail_if_success (with_reducible show wpAny _ _ (pyIter (Value.ref _)) (fun it s₂ => LoopAtV _ _ _ _ _ _ _ _ _ it s₂) _ _)); first | (k_unfold; (try dsimp only)) | (k_end; wrow_close) | walk1 | (dsimp only; walk1) | (leave1; walk_say "STEP leave1"; try dsimp only)) | fail "no step"))
local macro_rules | `(tactic| walk_at "HK") => `(tactic| repeat' (walk_at "HKs"))
local macro_rules | `(tactic| walk_at "call builtin:list.append") => `(tactic| (k_here; k_dflt (refine' lst_append ?F ?N ?U ?z ?_; (case F => k_asm); (case N => k_asm); (case U => k_upd); (case z => omega)); intro h' F' N'; (try k_sweep)))
local macro_rules | `(tactic| walk_at "call builtin:list.pop") => `(tactic| (k_here; k_dflt (refine' lst_pop0 ?F ?N ?U ?z ?_; (case F => k_asm); (case N => k_asm); (case U => k_upd); (case z => ((try simp only [List.length_cons]); omega))); intro h' F' N'; (try k_sweep)))
local macro_rules | `(tactic| walk_at "call builtin:len") => `(tactic| (k_here; (with_reducible show wpAny _ _ (call (Value.builtin "len") [Value.ref _]) _ _ _); k_dflt (refine' lst_len ?N ?m ?z ?_; (case N => k_asm); (case m => k_mem); (case z => ((try simp only [List.length_cons, List.length_nil]); omega)))))
local macro_rules | `(tactic| walk_at "ite") => `(tactic| (k_here; k_dflt (first | refine W.ite_pos (by first | omega | (simp only [decide_eq_true_eq, bne_iff_ne, beq_iff_eq, ne_eq, List.length_cons, List.length_nil]; omega)) ?_ | refine W.ite_neg (by first | omega | (simp only [decide_eq_true_eq, bne_iff_ne, beq_iff_eq, ne_eq, List.length_cons, List.length_nil]; omega)) ?_)))
local macro_rules | `(tactic| walk_at "getMethod ref") => `(tactic| (k_here; (with_reducible show wpAny _ _ (getMethod (Value.ref _) (PySem.Str.ofString "clear") _) _ _ _); k_dflt (first | (refine' dr_method (knd := intKind _ _) PySem.F.slot_dict_clear PySem.F.type_dict_clear ?N ?m ?D ?_; (case N => k_asm); (case m => k_mem); (case D => assumption)) | (refine' dr_method (knd := strKind _ _) PySem.F.slot_dict_clear PySem.F.type_dict_clear ?N ?m ?D ?_; (case N => k_asm); (case m => k_mem); (case D => assumption)))))
local macro_rules | `(tactic| walk_at "call builtin:dict.clear") => `(tactic| (k_here; k_dflt (first | (refine' dr_clear (knd := intKind _ _) ?F ?N ?U ?D ?z ?_; (case F => k_asm); (case N => k_asm); (case U => k_updF); (case D => assumption); (case z => assumption)) | (refine' dr_clear (knd := strKind _ _) ?F ?N ?U ?D ?z ?_; (case F => k_asm); (case N => k_asm); (case U => k_updF); (case D => assumption); (case z => assumption))); intro h' o' F' N' D'; (try dsimp only at N'); (try k_sweep)))
local macro_rules | `(tactic| k_ne) => `(tactic| ((try dsimp only); first | assumption | exact Ne.symm (by assumption) | exact Nat.ne_of_lt (by assumption) | exact Nat.ne_of_gt (by assumption)))
section
open PySem PySem.W PyProof.Rows PySem.Calls
section
variable {prog : Program} {w : World} {p : Program} {loose : List Str} {mean : ExcName → Option Value} {mg mb : Str → Option Value}

set_option maxHeartbeats 4000000 in
theorem swap_ct {dp un : Nat} {fr : Option (List Env)} {gd : Option (List Code)} {E : Value → Shared → Prop} {s : Shared} {h₀ : Heap} {L : Addr} {m : Str → Option Value} {rest : Ledger}
    {a : Ad} {rf : Int} {tr : Tok} {oP oR oD : Obj} {fP : Int → Option Str} {fR : Str → Option Int} {cs : List Int} {ss : List Str} {l : Int} {r : Str} {tl t : Tok} {Q : Value → Shared → Prop}
    (F : Fr h₀ L s.heap m) (X : (hd.heap_39 w.params).In h₀) (T : Top p loose mean mg mb h₀)
    (N : News h₀ L s.heap (core w.params a rf tr oP oR oD ++ rest)) (off : OwnOff rest (adrs a)) (hroom : dp < recursionLimit) (ap : Apart a)
    (DP : DR (intKind prog w) RStr cs oP fP) (DQ : DR (strKind prog w) RInt ss oR fR) (hl : l ∈ cs) (hr : r ∈ ss) (hcs : cs.length ≤ 100) (hss : ss.length ≤ 100)
    (ret : ∀ h' tk oP' oR', Fr h₀ L h' m → News h₀ L h' (core w.params a rf tr oP' oR' oD ++ rest) →
      DR (intKind prog w) RStr cs oP' (upd fP l r) → DR (strKind prog w) RInt ss oR' (upd fR r l) → Q .none { s with heap := h', toks := tk }) :
    wpAny (model prog w) (topA dp un fr gd) (call (.ref 63) [.ref a.x, .int l tl, .str r t]) Q E s := by
  refine wpAny_call ?_
  with_unfolding_all refine' call_in (rest := rest) F N X T off ?k6 ?k7 ?k8 ?k9 ?kB ?_ ?c2 ?c3 ?c4 ?c5
  case k6 => k_is
  case k7 => k_is
  case k8 => exact hroom
  case k9 => exact BindsTo.of_eq rfl
  case kB => exact locs rfl
  case c2 => exact rfl
  case c3 => exact rfl
  case c4 => exact rfl
  case c5 => decide
  obtain ⟨x, dx, gl, pl, pr, lf, dl, t⟩ := a
  obtain ⟨d1, d2, d3, d4, d5, d6, d7, d8, d9, d10, l1, l2, l3⟩ := ap
  dsimp only at d1 d2 d3 d4 d5 d6 d7 d8 d9 d10 l1 l2 l3 ret
  intro g L' h' F' N' X' T' st' sub'
  (try dsimp only at N')
  clear F N X T off
  walk_at "HK"
  exact Back.intro (by assumption) (by assumption) fun F N => ret _ _ _ _ F N (by assumption) (by assumption)
end
end

/-! part HkC -/
section
open PySem PySem.W PyProof.Rows PySem.Calls
section
variable {prog : Program} {w : World} {p : Program} {loose : List Str} {mean : ExcName → Option Value} {mg mb : Str → Option Value}

def DfsCt (prog : Program) (w : World) (p : Program) (loose : List Str) (mean : ExcName → Option Value) (mg mb : Str → Option Value) (G : Gr) (ss : List Str) (a : Ad) (rf : Int) (n : Nat) : Prop :=
  ∀ {dp un : Nat} {fr : Option (List Env)} {gd : Option (List Code)} {E : Value → Shared → Prop} {s : Shared} {h₀ : Heap} {L : Addr} {m : Str → Option Value} {rest : Ledger} {tr : Tok} {oP oR oD : Obj} {σ : PS} {o : Int} {t : Tok} {b : Bool} {σ' : PS} {Q : Value → Shared → Prop},
    Fr h₀ L s.heap m → (hd.heap_39 w.params).In h₀ → Top p loose mean mg mb h₀ → News h₀ L s.heap (core w.params a rf tr oP oR oD ++ rest) → OwnOff rest (adrs a) → ImmAt prog w s.heap a G → dp + n + 1 < recursionLimit →
    StR prog w G.left ss oP oR oD σ → Wf G.left σ → o ∈ G.left → dfs rf G.adj n o σ = some (b, σ') →
    (∀ h' tk oP' oR' oD', Fr h₀ L h' m → News h₀ L h' (core w.params a rf tr oP' oR' oD' ++ rest) → StR prog w G.left ss oP' oR' oD' σ' → Q (.bool b) { s with heap := h', toks := tk }) →
    wpAny (model prog w) (topA dp un fr gd) (call (.ref 70) [.ref a.x, .int o t]) Q E s

theorem dfs_use {G : Gr} {ss : List Str} {a : Ad} {rf : Int} {n : Nat} {dp un : Nat} {fr : Option (List Env)} {gd : Option (List Code)} {E : Value → Shared → Prop} {s : Shared} {h₀ : Heap} {L : Addr} {m : Str → Option Value} {rest : Ledger} {tr : Tok} {oP oR oD : Obj} {σ : PS} {o : Int} {t : Tok} {b : Bool} {σ' : PS} {Q : Value → Shared → Prop}
    (C : DfsCt prog w p loose mean mg mb G ss a rf n) (hdf : dfs rf G.adj n o σ = some (b, σ')) (F : Fr h₀ L s.heap m) (X : (hd.heap_39 w.params).In h₀) (T : Top p loose mean mg mb h₀) (N : News h₀ L s.heap (core w.params a rf tr oP oR oD ++ rest)) (off : OwnOff rest (adrs a)) (I : ImmAt prog w s.heap a G) (hroom : dp + n + 1 < recursionLimit)
    (S : StR prog w G.left ss oP oR oD σ) (W : Wf G.left σ) (ho : o ∈ G.left)
    (ret : ∀ h' tk oP' oR' oD', Fr h₀ L h' m → News h₀ L h' (core w.params a rf tr oP' oR' oD' ++ rest) → StR prog w G.left ss oP' oR' oD' σ' → Q (.bool b) { s with heap := h', toks := tk }) :
    wpAny (model prog w) (topA dp un fr gd) (call (.ref 70) [.ref a.x, .int o t]) Q E s := C F X T N off I hroom S W ho hdf ret
theorem inv_end {P : Params} {a : Ad} {rf : Int} {tr : Tok} {oP oR oD : Obj} {h₀ h' : Heap} {L : Addr} {J : (Str → Option Value) → Ledger → Prop} {m' : Str → Option Value} {own : Ledger} {s₁ : Shared} {tk : Nat}
    (F : Fr h₀ L h' m') (N : News h₀ L h' (core P a rf tr oP oR oD ++ own)) (hj : J m' (core P a rf tr oP oR oD)) : InvEndN h₀ L J own (adrs a) s₁ { s₁ with heap := h', toks := tk } :=
  InvEndN.intro F N hj rfl (fun _ h => List.mem_append_left _ h) fun _ h => List.mem_append_right _ h
theorem inv_endG {h₀ h' : Heap} {L : Addr} {J : (Str → Option Value) → Ledger → Prop} {m' : Str → Option Value} {nx own : Ledger} {adr : List Addr} {s₁ : Shared} {tk : Nat}
    (F : Fr h₀ L h' m') (N : News h₀ L h' (nx ++ own)) (ha : nx.map (·.1) = adr) (hj : J m' nx) : InvEndN h₀ L J own adr s₁ { s₁ with heap := h', toks := tk } :=
  InvEndN.intro F N hj ha (fun _ h => List.mem_append_left _ h) fun _ h => List.mem_append_right _ h
theorem know1 {m : Str → Option Value} {a : Str} {x : Option Value} (h1 : m a = x) : m = fun z => if z = a then x else m z := by
  funext z
  by_cases e1 : z = a
  · subst e1; simp only [if_pos]; exact h1
  · simp only [if_neg e1]
theorem know2 {m : Str → Option Value} {a b : Str} {x y : Option Value} (h1 : m a = x) (h2 : m b = y) : m = fun z => if z = a then x else if z = b then y else m z := by
  funext z
  by_cases e1 : z = a
  · subst e1; simp only [if_pos]; exact h1
  · by_cases e2 : z = b
    · subst e2; simp only [if_neg e1, if_pos]; exact h2
    · simp only [if_neg e1, if_neg e2]
theorem know3 {m : Str → Option Value} {a b c : Str} {x y u : Option Value} (h1 : m a = x) (h2 : m b = y) (h3 : m c = u) : m = fun z => if z = a then x else if z = b then y else if z = c then u else m z := by
  funext z
  by_cases e1 : z = a
  · subst e1; simp only [if_pos]; exact h1
  · by_cases e2 : z = b
    · subst e2; simp only [if_neg e1, if_pos]; exact h2
    · by_cases e3 : z = c
      · subst e3; simp only [if_neg e1, if_neg e2, if_pos]; exact h3
      · simp only [if_neg e1, if_neg e2, if_neg e3]
theorem newsTail {h₀ h : Heap} {L : Addr} {q : Addr × Obj} {b : Ledger} (N : News h₀ L h (q :: b)) : News h₀ L h b := fun p hp => N p (List.mem_cons_of_mem _ hp)
theorem newsLeft {h₀ h : Heap} {L : Addr} {a b : Ledger} (N : News h₀ L h (a ++ b)) : News h₀ L h a := fun q hq => N q (List.mem_append_left _ hq)
end
local macro_rules | `(tactic| walk_at "call ref") => `(tactic| (k_here; k_dflt (refine' swap_ct ?F ?X ?T ?N ?off ?rm ?ap ?DP ?DQ ?hl ?hr ?hcs ?hss ?_; (case F => k_asm); (case X => k_asm); (case T => k_asm); (case N => k_asm); (case off => assumption); (case rm => (dsimp only; omega)); (case ap => assumption); (case DP => assumption); (case DQ => assumption); (case hl => assumption); (case hr => assumption); (case hcs => assumption); (case hss => assumption)); intro h' tk' o1' o2' F' N' DP' DQ'; (try dsimp only at N'); (try k_sweep)))

local macro_rules | `(tactic| walk_at "call ref") => `(tactic| (k_here; k_dflt (refine' dfs_use ?C ?hd ?F ?X ?T ?N ?off ?I ?rm ?S ?W ?ho ?_; (case C => assumption); (case hd => assumption); (case F => k_asm); (case X => k_asm); (case T => k_asm); (case N => k_asm); (case off => assumption); (case I => exact ImmAt.of (by assumption) (by k_asm) (by k_asm)); (case rm => (dsimp only; omega)); (case S => exact ⟨by assumption, by assumption, by assumption⟩); (case W => assumption); (case ho => assumption)); intro h' tk' o1' o2' o3' F' N' S'; obtain ⟨DP', DQ', DD'⟩ := S'; (try dsimp only at N'); (try k_sweep)))

section
variable {prog : Program} {w : World} {p : Program} {loose : List Str} {mean : ExcName → Option Value} {mg mb : Str → Option Value}
set_option maxHeartbeats 4000000 in
theorem dfs_ct {G : Gr} {ss : List Str} {a : Ad} {rf : Int} (ap : Apart a) (sz : Sized G ss) : ∀ n, DfsCt prog w p loose mean mg mb G ss a rf n := by
  intro n
  induction n with
  | zero => unfold DfsCt; intros; rename_i h _; cases h
  | succ n ih =>
    intro dp un fr gd E s h₀ L m rest tr oP oR oD σ o t b σ' Q F X T N off I hroom hS hW ho hdfs ret
    refine wpAny_call ?_
    with_unfolding_all refine' call_in (rest := rest) F N X T off ?k6 ?k7 ?k8 ?k9 ?kB ?_ ?c2 ?c3 ?c4 ?c5
    case k6 => k_is
    case k7 => k_is
    case k8 => dsimp only; omega
    case k9 => exact BindsTo.of_eq rfl
    case kB => exact locs rfl
    case c2 => exact rfl
    case c3 => exact rfl
    case c4 => exact rfl
    case c5 => decide
    intro g L' h' F' N' X' T' st' sub'
    have I' : Imm prog w g a G := I.base sub'
    obtain ⟨oG, row, hG, DG, hrow⟩ := I'.graph
    obtain ⟨ad, vs, hra, hlist, hstr⟩ := hrow o ho
    clear F N X T off I st' sub'
    (try dsimp only at N')
    refine wpAny_execs_cons ?_
    with_unfolding_all refine For_invV g (by rfl) (by rfl) ?_
    walk_at "HK"
    with_unfolding_all refine iter_base (J := fun i m nx => (∀ z, z ≠ Str.ofString "right" → z ≠ Str.ofString "other_left" → m z = List.lookup z [(Str.ofString "left", Value.int o t), (Str.ofString "self", Value.ref a.x)]) ∧
      ∃ oP oR oD σ, nx = core w.params a rf tr oP oR oD ∧ StR prog w G.left ss oP oR oD σ ∧ Wf G.left σ ∧ dfsL (dfs rf G.adj n) rf o ((G.adj o).drop i) σ = some (b, σ')) rfl hlist F' N' ?_ ?_ ?_
    · exact ⟨fun _ _ _ => rfl, oP, oR, oD, σ, rfl, hS, hW, hdfs⟩
    · clear hdfs hS hW N' F'
      rintro i v m₁ nx h tk own hv _ hoff ⟨hm, oP, oR, oD, σ, rfl, ⟨DP, DR', DD⟩, hW, hdfs⟩ F' N'
      obtain ⟨y, ty, rfl, hy⟩ := hstr.item i v hv
      have hya : y ∈ G.adj o := List.mem_of_getElem? hy
      have hys : y ∈ ss := sz.adj o ho y hya
      have hdrop : (G.adj o).drop i = y :: (G.adj o).drop (i + 1) := by
        obtain ⟨h1, h2⟩ := List.getElem?_eq_some_iff.mp hy
        rw [List.drop_eq_getElem_cons h1, h2]
      rw [hdrop] at hdfs
      rw [letter2 hm] at F'
      obtain ⟨dv, hdo⟩ := Option.isSome_iff_exists.mp (hW.2 o ho)
      have hdg := dg_of hdo
      have hz1 := sz.c
      have hz2 := sz.s
      simp only [List.map_cons, List.map_nil] at hoff
      simp only [List.cons_append, List.nil_append] at N'
      simp only [dfsL] at hdfs
      obtain ⟨d1, d2, d3, d4, d5, d6, d7, d8, d9, d10, l1, l2, l3⟩ := id ap
      refine hide_post fun K hK => ?_
      cases hr : σ.r y with
      | none =>
        rw [hr, hdg] at hdfs
        dsimp only at hdfs
        split at hdfs
        · rename_i hrf
          simp only [Option.some.injEq, Prod.mk.injEq] at hdfs
          obtain ⟨rfl, rfl⟩ := hdfs
          walk_at "HK"
          all_goals first | (exfalso; omega) | walk_at "call ref"
          all_goals walk_at "HK"
          all_goals first | (exfalso; omega) | (refine hK _ _ ?_; walk_at "HK"; exact Back.intro (by assumption) (newsLeft (b := own) (by assumption)) fun F N => ret _ _ _ _ _ F N ⟨by assumption, by assumption, by assumption⟩)
        · rename_i hrf
          walk_at "HK"
          all_goals first | (exfalso; omega) | (refine hK _ _ ?_; walk_at "HK"; exact inv_end (a := a) (rf := rf) (tr := tr) (by assumption) (by assumption) ⟨fun z h1 h2 => by simp only [if_neg h1, if_neg h2], _, _, _, σ, rfl, ⟨by assumption, by assumption, by assumption⟩, by assumption, hdfs⟩)
      | some o' =>
        have ho' : o' ∈ G.left := hW.1 y o' hr
        obtain ⟨dv', hdo'⟩ := Option.isSome_iff_exists.mp (hW.2 o' ho')
        rw [hr] at hdfs
        dsimp only at hdfs
        rw [hdg, dg_of hdo'] at hdfs
        split at hdfs
        · rename_i hdd
          cases hc : dfs rf G.adj n o' σ with
          | none => rw [hc] at hdfs; cases hdfs
          | some res =>
            obtain ⟨b₁, σ₁⟩ := res
            rw [hc] at hdfs
            have hW₁ := dfs_wf n o' σ b₁ σ₁ hW ho' hc
            cases b₁ with
            | true =>
              simp only [Option.some.injEq, Prod.mk.injEq] at hdfs
              obtain ⟨rfl, rfl⟩ := hdfs
              walk_at "HK"
              all_goals first | (exfalso; omega) | walk_at "call ref"
              all_goals walk_at "HK"
              all_goals first | (exfalso; omega) | walk_at "call ref"
              all_goals walk_at "HK"
              all_goals first | (exfalso; omega) | (refine hK _ _ ?_; walk_at "HK"; exact Back.intro (by assumption) (newsLeft (b := own) (by assumption)) fun F N => ret _ _ _ _ _ F N ⟨by assumption, by assumption, by assumption⟩)
            | false =>
              dsimp only at hdfs
              walk_at "HK"
              all_goals first | (exfalso; omega) | walk_at "call ref"
              all_goals walk_at "HK"
              all_goals first | (exfalso; omega) | (refine hK _ _ ?_; walk_at "HK"; exact inv_end (a := a) (rf := rf) (tr := tr) (by assumption) (by assumption) ⟨fun z h1 h2 => by simp only [if_neg h1, if_neg h2], _, _, _, σ₁, rfl, ⟨by assumption, by assumption, by assumption⟩, by assumption, hdfs⟩)
        · rename_i hdd
          walk_at "HK"
          all_goals first | (exfalso; omega) | (refine hK _ _ ?_; walk_at "HK"; exact inv_end (a := a) (rf := rf) (tr := tr) (by assumption) (by assumption) ⟨fun z h1 h2 => by simp only [if_neg h1, if_neg h2], _, _, _, σ, rfl, ⟨by assumption, by assumption, by assumption⟩, by assumption, hdfs⟩)
    · clear hdfs hS hW N' F'
      rintro m₁ nx h tk ⟨hm, oP, oR, oD, σ, rfl, ⟨DP, DR', DD⟩, hW, hdfs⟩ _ F' N'
      rw [hstr.len_eq, List.drop_length] at hdfs
      simp only [dfsL, Option.some.injEq, Prod.mk.injEq] at hdfs
      obtain ⟨rfl, rfl⟩ := hdfs
      rw [letter2 hm] at F'
      have hz1 := sz.c
      obtain ⟨d1, d2, d3, d4, d5, d6, d7, d8, d9, d10, l1, l2, l3⟩ := id ap
      dsimp only
      walk_at "HK"
      all_goals first | (exfalso; omega) | exact Back.intro (by assumption) (by assumption) fun F N => ret _ _ _ _ _ F N ⟨by assumption, by assumption, by assumption⟩
end
end

/-! part HkD -/
section
open PySem PySem.W PyProof.Rows PySem.Calls
theorem intsSnoc {vs : List Value} {ns : List Int} (h : IntsAre vs ns) (n : Int) (t : Tok) : IntsAre (vs ++ [.int n t]) (ns ++ [n]) := h.append (.cons n t .nil)
theorem intsLen {vs : List Value} {ns : List Int} (h : IntsAre vs ns) : vs.length = ns.length := h.length

section
variable {prog : Program} {w : World} {p : Program} {loose : List Str} {mean : ExcName → Option Value} {mg mb : Str → Option Value}

set_option maxHeartbeats 4000000 in
theorem bfs_ct {G : Gr} {ss : List Str} {a : Ad} (ap : Apart a) (sz : Sized G ss)
    {dp un : Nat} {fr : Option (List Env)} {gd : Option (List Code)} {E : Value → Shared → Prop} {s : Shared} {h₀ : Heap} {L : Addr} {m : Str → Option Value} {rest : Ledger} {rf : Int} {tr : Tok} {oP oR oD : Obj} {σ : PS} {b : BS} {Q : Value → Shared → Prop}
    (F : Fr h₀ L s.heap m) (X : (hd.heap_39 w.params).In h₀) (T : Top p loose mean mg mb h₀) (N : News h₀ L s.heap (core w.params a rf tr oP oR oD ++ rest)) (off : OwnOff rest (adrs a)) (I : ImmAt prog w s.heap a G) (hroom : dp < recursionLimit)
    (hS : StR prog w G.left ss oP oR oD σ) (hW : Wf G.left σ) (hb : bfs G σ = some b)
    (ret : ∀ h' tk tr' oD', Fr h₀ L h' m → News h₀ L h' (core w.params a b.rf tr' oP oR oD' ++ rest) → DR (intKind prog w) RInt G.left oD' b.d → Dd G.left b.d → Q (.bool (b.rf != -1)) { s with heap := h', toks := tk }) :
    wpAny (model prog w) (topA dp un fr gd) (call (.ref 56) [.ref a.x]) Q E s := by
  refine wpAny_call ?_
  with_unfolding_all refine' call_in (rest := rest) F N X T off ?k6 ?k7 ?k8 ?k9 ?kB ?_ ?c2 ?c3 ?c4 ?c5
  case k6 => k_is
  case k7 => k_is
  case k8 => dsimp only; omega
  case k9 => exact BindsTo.of_eq rfl
  case kB => exact locs rfl
  case c2 => exact rfl
  case c3 => exact rfl
  case c4 => exact rfl
  case c5 => decide
  intro g L' h' F' N' X' T' st' sub'
  have I' : Imm prog w g a G := I.base sub'
  obtain ⟨oG, row, hG, DG, hrow⟩ := I'.graph
  obtain ⟨lvs, hleft, hlvs⟩ := I'.left
  obtain ⟨DP, DR', DD⟩ := hS
  have hz1 := sz.c
  clear F N X T off I st' sub'
  obtain ⟨d1, d2, d3, d4, d5, d6, d7, d8, d9, d10, l1, l2, l3⟩ := id ap
  (try dsimp only at N')
  unfold bfs at hb
  obtain ⟨q0, d0, hI⟩ : ∃ q0 d0, bfsI σ.p G.left [] σ.d = (q0, d0) := ⟨_, _, rfl⟩
  rw [hI] at hb
  dsimp only at hb
  have hDd : Dd G.left σ.d := hW.2
  walk_at "HK"
  refine hide_post fun K0 hK0 => ?_
  with_unfolding_all refine For_invV g (by rfl) (by rfl) ?_
  walk_at "HK"
  rename_i q h1 hlt h2 F' N'
  obtain ⟨q1, q2, q3, q4, q5⟩ := hlt
  with_unfolding_all refine iter_base (J := fun i m nx => m (Str.ofString "self") = some (.ref a.x) ∧ m (Str.ofString "vertex_queue") = some (.ref q) ∧
      ∃ vs n oD qs d, nx = (q, listOf vs.toArray n) :: core w.params a rf tr oP oR oD ∧ IntsAre vs qs ∧ qs.length ≤ i ∧ DR (intKind prog w) RInt G.left oD d ∧ (∀ l ∈ qs, l ∈ G.left ∧ 0 ≤ dg d l) ∧ Dd G.left d ∧ (∀ l ∈ qs, l ∉ G.left.drop i) ∧ bfsI σ.p (G.left.drop i) qs d = (q0, d0)) rfl hleft F' N' ?_ ?_ ?_
  · exact ⟨rfl, rfl, [], 0, oD, [], σ.d, rfl, .nil, Nat.zero_le _, DD, (fun _ h => nomatch h), hDd, (fun _ h => nomatch h), hI⟩
  · clear N' F' hI DD hDd
    rintro i v m₁ nx h tk own hv _ hoff ⟨hm1, hm2, vs, n, oD, qs, d, rfl, hvs, hql, DD, hqi, hDd, hqd, hI⟩ F' N'
    obtain ⟨l, t, rfl, hl⟩ := hlvs.at i v hv
    have hll : l ∈ G.left := List.mem_of_getElem? hl
    have hdrop : G.left.drop i = l :: G.left.drop (i + 1) := by
      obtain ⟨h1, h2⟩ := List.getElem?_eq_some_iff.mp hl
      rw [List.drop_eq_getElem_cons h1, h2]
    have hnd : (l :: G.left.drop (i + 1)).Nodup := hdrop ▸ List.Sublist.nodup (List.drop_sublist _ _) sz.nd
    rw [List.nodup_cons] at hnd
    rw [hdrop] at hI hqd
    rw [know2 hm1 hm2] at F'
    have hvl := intsLen hvs
    have hi : i < G.left.length := (List.getElem?_eq_some_iff.mp hl).1
    simp only [List.map_cons, List.map_nil] at hoff
    simp only [List.cons_append, List.nil_append] at N'
    simp only [bfsI] at hI
    have hqn : ∀ x ∈ qs, x ≠ l := fun x hx e => hqd x hx (e ▸ List.mem_cons_self)
    have c4 : ∀ x ∈ qs, x ∉ G.left.drop (i + 1) := fun x hx h => hqd x hx (List.mem_cons_of_mem _ h)
    have c2 : ∀ v, ∀ x ∈ qs, x ∈ G.left ∧ 0 ≤ dg (upd d l v) x := fun v x hx => ⟨(hqi x hx).1, by rw [dg_upd, if_neg (hqn x hx)]; exact (hqi x hx).2⟩
    have c3 : ∀ v, Dd G.left (upd d l v) := fun v x hx => by unfold upd; split; rfl; exact hDd x hx
    refine hide_post fun K1 hK1 => ?_
    cases hp : σ.p l with
    | none =>
      rw [hp] at hI; simp only [Option.isSome_none, Bool.false_eq_true, if_false] at hI
      have e1 : (qs ++ [l]).length ≤ i + 1 := by rw [List.length_append, List.length_singleton]; omega
      have e2 : ∀ x ∈ qs ++ [l], x ∈ G.left ∧ 0 ≤ dg (upd d l 0) x := fun x hx => (List.mem_append.mp hx).elim (c2 0 x) fun h => by
        rw [List.mem_singleton.mp h, dg_upd, if_pos rfl]; exact ⟨hll, Int.le_refl _⟩
      have e4 : ∀ x ∈ qs ++ [l], x ∉ G.left.drop (i + 1) := fun x hx => (List.mem_append.mp hx).elim (c4 x) fun h => by
        rw [List.mem_singleton.mp h]; exact hnd.1
      have e3 := c3 0
      clear ret
      walk_at "HK"
      rename_i o9 F9 N9 D9
      refine hK1 _ _ ?_
      exact inv_endG (nx := (q, listOf (vs ++ [Value.int l t]).toArray (n + 1)) :: core w.params a rf tr oP oR o9) F9 N9 rfl ⟨rfl, rfl, vs ++ [.int l t], n + 1, o9, qs ++ [l], upd d l 0, rfl, intsSnoc hvs l t, e1, D9, e2, e3, e4, hI⟩
    | some r =>
      rw [hp] at hI; simp only [Option.isSome_some, if_true] at hI
      have e1 : qs.length ≤ i + 1 := by omega
      have e2 := c2 (-1)
      have e3 := c3 (-1)
      clear ret
      walk_at "HK"
      rename_i o9 F9 N9 D9
      refine hK1 _ _ ?_
      exact inv_endG (nx := (q, listOf vs.toArray n) :: core w.params a rf tr oP oR o9) F9 N9 rfl ⟨rfl, rfl, vs, n, o9, qs, upd d l (-1), rfl, hvs, e1, D9, e2, e3, c4, hI⟩
  · clear N' F' hI DD hDd
    rintro m₁ nx h tk ⟨hm1, hm2, vs, n, oD, qs, d, rfl, hvs, hql, DD, hqi, hDd, _, hI⟩ _ F' N'
    rw [hlvs.length, List.drop_length] at hI
    simp only [bfsI, Prod.mk.injEq] at hI
    obtain ⟨rfl, rfl⟩ := hI
    rw [hlvs.length] at hql
    rw [know2 hm1 hm2] at F'
    refine hK0 _ _ ?_
    dsimp only
    walk_at "HK"
    rename_i h9 F9 N9
    with_unfolding_all refine While_inv2 (n₀ := G.left.length + 1) (J := fun k m nx => m (Str.ofString "self") = some (.ref a.x) ∧ m (Str.ofString "vertex_queue") = some (.ref q) ∧
      ∃ vs n oD tr b', nx = (q, listOf vs.toArray n) :: core w.params a b'.rf tr oP oR oD ∧ IntsAre vs b'.q ∧ b'.q.length + 100 * k ≤ 100 * G.left.length + 200 ∧ DR (intKind prog w) RInt G.left oD b'.d ∧
        (∀ l ∈ b'.q, l ∈ G.left ∧ 0 ≤ dg b'.d l) ∧ Dd G.left b'.d ∧ bfsW G.adj σ.r k b' = some b) F9 N9 ?_ ?_
    · exact ⟨rfl, rfl, vs, n, oD, _, ⟨qs, d, -1⟩, rfl, hvs, by dsimp only; omega, DD, hqi, hDd, hb⟩
    · clear F9 N9 hb DD hqi hDd hvs hql hm1 hm2
      rintro k m₁ nx h1 tk1 F' N' ⟨hm1, hm2, vs, n, oD, tr, ⟨qs, d, rf⟩, rfl, hvs, hql, DD, hqi, hDd, hb⟩
      dsimp only at hvs hql DD hqi hDd hb N'
      rw [know2 hm1 hm2] at F'
      have hvl := intsLen hvs
      have hz := sz.al
      cases k with
      | zero => cases hb
      | succ k =>
        simp only [bfsW] at hb
        cases qs with
        | nil =>
          obtain rfl := hvs.nil_inv
          simp only [Option.some.injEq] at hb
          subst hb
          walk_at "HK"
          dsimp only [WhileStep2]
          walk_at "HK"
          dsimp only
          exact Back.intro (by assumption) (newsTail (by assumption)) fun F N => ret _ _ _ _ F N DD hDd
        | cons lv q' =>
          obtain ⟨tl, vs', rfl, hvs'⟩ := hvs.cons_inv
          have hlv := hqi lv List.mem_cons_self
          have hlvl := hlv.1
          obtain ⟨dl, hdl⟩ := Option.isSome_iff_exists.mp (hDd lv hlvl)
          have hdg := dg_of hdl
          dsimp only at hb
          rw [hdg] at hlv hb
          have hdl0 := hlv.2
          obtain ⟨ad, avs, hra, hlist, hstr⟩ := hrow lv hlvl
          have hqi' : ∀ l ∈ q', l ∈ G.left ∧ 0 ≤ dg d l := fun l hl => hqi l (List.mem_cons_of_mem _ hl)
          have hvl' := intsLen hvs'
          simp only [List.length_cons] at hql hvl
          by_cases hr2 : rf ≤ dl ∧ rf ≠ -1
          · rw [if_neg (by omega), if_pos hr2] at hb
            have hr1 := hr2.1
            have hr3 := hr2.2
            by_cases hr4 : dl = rf
            · walk_at "HK"
              dsimp only [WhileStep2]
              exact ⟨_, _, _, _, k, rfl, by assumption, by assumption, Nat.lt_succ_self k, rfl, rfl, vs', n + 1, oD, tr, ⟨q', d, rf⟩, rfl, hvs', by dsimp only; omega, DD, hqi', hDd, hb⟩
            · walk_at "HK"
              dsimp only [WhileStep2]
              exact ⟨_, _, _, _, k, rfl, by assumption, by assumption, Nat.lt_succ_self k, rfl, rfl, vs', n + 1, oD, tr, ⟨q', d, rf⟩, rfl, hvs', by dsimp only; omega, DD, hqi', hDd, hb⟩
          · rw [if_neg (by omega), if_neg hr2] at hb
            have hr4 : dl ≠ rf := fun e => by omega
            refine' by_way ?k1 ?k
            case k1 =>
              intro H9
              have hr1 : rf = -1 ∨ ¬ rf ≤ dl := by omega
              rcases hr1 with hr1 | hr1
              all_goals
                walk_at "HK"
                rename Fr _ _ _ _ => F9
                rename News _ _ _ _ => N9
                rename Heap => h9
                revert tk
                revert h9
                exact H9.get
            case k =>
              intro h9 F9 N9 tk9
              refine hide_post fun K2 hK2 => ?_
              with_unfolding_all refine For_invV g (by rfl) (by rfl) ?_
              walk_at "HK"
              generalize hfin : bfsIn σ.r lv (G.adj lv) ⟨q', d, rf⟩ = bfin at hb
              with_unfolding_all refine iter_base (J := fun i m nx => m (Str.ofString "self") = some (.ref a.x) ∧ m (Str.ofString "vertex_queue") = some (.ref q) ∧ m (Str.ofString "left_vertex") = some (.int lv tl) ∧
                ∃ vs n oD tr b', nx = (q, listOf vs.toArray n) :: core w.params a b'.rf tr oP oR oD ∧ IntsAre vs b'.q ∧ b'.q.length ≤ q'.length + i ∧ DR (intKind prog w) RInt G.left oD b'.d ∧
                  (∀ l ∈ b'.q, l ∈ G.left ∧ 0 ≤ dg b'.d l) ∧ Dd G.left b'.d ∧ 0 ≤ dg b'.d lv ∧ bfsIn σ.r lv ((G.adj lv).drop i) b' = bfin) rfl hlist F9 N9 ?_ ?_ ?_
              · exact ⟨rfl, rfl, rfl, vs', n + 1, oD, tr, ⟨q', d, rf⟩, rfl, hvs', Nat.le_refl _, DD, hqi', hDd, by dsimp only; omega, hfin⟩
              · clear hfin DD hqi hqi' hDd hvs hvl hvl' F9 N9 hdl hdg hdl0 hlv hb ret
                rintro i v m₁ nx h tk own hv _ hoff ⟨hm1, hm2, hm3, vs, n, oD, tr, ⟨qs, d, rf⟩, rfl, hvs, hql', DD, hqi, hDd, hlv, hfin⟩ F' N'
                dsimp only at hvs hql' DD hqi hDd hlv N'
                obtain ⟨y, ty, rfl, hy⟩ := hstr.item i v hv
                have hdrop : (G.adj lv).drop i = y :: (G.adj lv).drop (i + 1) := by
                  obtain ⟨h1, h2⟩ := List.getElem?_eq_some_iff.mp hy
                  rw [List.drop_eq_getElem_cons h1, h2]
                have hi : i < (G.adj lv).length := (List.getElem?_eq_some_iff.mp hy).1
                rw [hdrop] at hfin
                rw [know3 hm1 hm2 hm3] at F'
                have hvl := intsLen hvs
                have hzl := hz lv hlvl
                simp only [List.map_cons, List.map_nil] at hoff
                simp only [List.cons_append, List.nil_append] at N'
                simp only [bfsIn] at hfin
                obtain ⟨dl, hdl⟩ := Option.isSome_iff_exists.mp (hDd lv hlvl)
                have hdg := dg_of hdl
                rw [hdg] at hlv
                refine hide_post fun K3 hK3 => ?_
                cases hr : σ.r y with
                | none =>
                  rw [hr] at hfin
                  dsimp only at hfin
                  by_cases hrf : rf = -1
                  · rw [if_pos hrf, hdg] at hfin
                    walk_at "HK"
                    rename Fr _ _ _ _ => F8
                    rename News _ _ _ _ => N8
                    refine hK3 _ _ ?_
                    exact inv_endG (nx := (q, listOf vs.toArray n) :: core w.params a (dl + 1) _ oP oR oD) F8 N8 rfl ⟨rfl, rfl, rfl, vs, n, oD, _, ⟨qs, d, dl + 1⟩, rfl, hvs, by dsimp only; omega, DD, hqi, hDd, by dsimp only; rw [hdg]; exact hlv, hfin⟩
                  · rw [if_neg hrf] at hfin
                    walk_at "HK"
                    rename Fr _ _ _ _ => F8
                    rename News _ _ _ _ => N8
                    refine hK3 _ _ ?_
                    exact inv_endG (nx := (q, listOf vs.toArray n) :: core w.params a rf tr oP oR oD) F8 N8 rfl ⟨rfl, rfl, rfl, vs, n, oD, tr, ⟨qs, d, rf⟩, rfl, hvs, by dsimp only; omega, DD, hqi, hDd, by dsimp only; rw [hdg]; exact hlv, hfin⟩
                | some o =>
                  have ho := hW.1 y o hr
                  obtain ⟨dv, hdv⟩ := Option.isSome_iff_exists.mp (hDd o ho)
                  have hdgo := dg_of hdv
                  rw [hr] at hfin
                  dsimp only at hfin
                  rw [hdgo] at hfin
                  by_cases hdo : dv = -1
                  · rw [if_pos hdo, hdg] at hfin
                    have hlo : lv ≠ o := fun e => by subst e; rw [hdl] at hdv; cases hdv; omega
                    have f1 : ∀ l ∈ qs ++ [o], l ∈ G.left ∧ 0 ≤ dg (upd d o (dl + 1)) l := fun l hl => (List.mem_append.mp hl).elim (fun h => by
                      have := hqi l h
                      refine ⟨this.1, ?_⟩
                      rw [dg_upd, if_neg (fun e : l = o => by subst e; omega)]; exact this.2) fun h => by
                      rw [List.mem_singleton.mp h, dg_upd, if_pos rfl]; exact ⟨ho, by omega⟩
                    have f2 : Dd G.left (upd d o (dl + 1)) := fun l hl => by unfold upd; split; rfl; exact hDd l hl
                    have f3 : 0 ≤ dg (upd d o (dl + 1)) lv := by rw [dg_upd, if_neg hlo, hdg]; exact hlv
                    have f4 : (qs ++ [o]).length ≤ q'.length + (i + 1) := by rw [List.length_append, List.length_singleton]; omega
                    walk_at "HK"
                    rename Fr _ _ _ _ => F8
                    rename News _ _ _ _ => N8
                    refine hK3 _ _ ?_
                    exact inv_endG (nx := (q, listOf (vs ++ [Value.int o _]).toArray (n + 1)) :: core w.params a rf tr oP oR _) F8 N8 rfl ⟨rfl, rfl, rfl, _, n + 1, _, tr, ⟨qs ++ [o], upd d o (dl + 1), rf⟩, rfl, intsSnoc hvs o _, f4, by assumption, f1, f2, f3, hfin⟩
                  · rw [if_neg hdo] at hfin
                    walk_at "HK"
                    rename Fr _ _ _ _ => F8
                    rename News _ _ _ _ => N8
                    refine hK3 _ _ ?_
                    exact inv_endG (nx := (q, listOf vs.toArray n) :: core w.params a rf tr oP oR oD) F8 N8 rfl ⟨rfl, rfl, rfl, vs, n, oD, tr, ⟨qs, d, rf⟩, rfl, hvs, by dsimp only; omega, DD, hqi, hDd, by dsimp only; rw [hdg]; exact hlv, hfin⟩
              · clear hfin DD hqi hqi' hDd hvs hvl hvl' F9 N9 hdl hdg hdl0 hlv
                rintro m₁ nx h tk ⟨hm1, hm2, hm3, vs, n, oD, tr, b', rfl, hvs, hql', DD, hqi, hDd, hlv, hfin⟩ _ F' N'
                rw [hstr.len_eq, List.drop_length] at hfin
                simp only [bfsIn] at hfin
                subst hfin
                have hzl := hz lv hlvl
                rw [hstr.len_eq] at hql'
                refine hK2 _ _ ?_
                dsimp only
                walk_at "HK"
                dsimp only [WhileStep2]
                exact ⟨_, _, _, _, k, rfl, by assumption, by assumption, Nat.lt_succ_self k, hm1, hm2, vs, n, oD, tr, b', rfl, hvs, by omega, DD, hqi, hDd, hb⟩
end
end

/-! part HkE -/
section
open PySem PySem.W PyProof.Rows PySem.Calls
local macro_rules | `(tactic| walk_at "call ref") => `(tactic| (k_here; k_dflt (refine' dfs_use ?C ?hd ?F ?X ?T ?N ?off ?I ?rm ?S ?W ?ho ?_; (case C => assumption); (case hd => assumption); (case F => k_asm); (case X => k_asm); (case T => k_asm); (case N => k_asm); (case off => assumption); (case I => exact ImmAt.of (by assumption) (by k_asm) (by k_asm)); (case rm => (dsimp only; omega)); (case S => assumption); (case W => assumption); (case ho => assumption)); intro h' tk' o1' o2' o3' F' N' S'; (try dsimp only at N'); (try k_sweep)))
local macro_rules | `(tactic| walk_at "call ref") => `(tactic| (k_here; k_dflt (refine' bfs_ct (rest := []) ?ap ?sz ?F ?X ?T ?N ?off ?I ?rm ?S ?W ?b ?_; (case b => assumption); (case ap => assumption); (case sz => assumption); (case F => k_asm); (case X => k_asm); (case T => k_asm); (case N => k_asm); (case off => exact fun _ h => nomatch h); (case I => exact ImmAt.of (rest := []) (by assumption) (by k_asm) (by k_asm)); (case rm => (dsimp only; omega)); (case S => assumption); (case W => assumption)); intro h' tk' tr' o3' F' N' D' E'; (try dsimp only at N'); (try k_sweep)))

section
variable {prog : Program} {w : World} {p : Program} {loose : List Str} {mean : ExcName → Option Value} {mg mb : Str → Option Value}

theorem iniD_dd {lefts : List Int} : ∀ ls d, (∀ l ∈ lefts, l ∈ ls ∨ (d l).isSome = true) → Dd lefts (iniD ls d)
  | [], d, h => fun l hl => (h l hl).elim (fun q => nomatch q) id
  | x :: ls, d, h => iniD_dd ls (upd d x (-1)) fun l hl => by
    by_cases e : l = x
    · subst e; right; simp [upd]
    · rcases h l hl with q | q
      · rcases List.mem_cons.mp q with q | q
        · exact absurd q e
        · exact .inl q
      · right; simp [upd, e, q]

set_option maxHeartbeats 4000000 in
theorem run_ct {G : Gr} {ss : List Str} {a : Ad} (ap : Apart a) (sz : Sized G ss)
    {dp un : Nat} {fr : Option (List Env)} {gd : Option (List Code)} {E : Value → Shared → Prop} {s : Shared} {h₀ : Heap} {L : Addr} {m : Str → Option Value} {rest : Ledger} {rf : Int} {tr : Tok} {oP oR oD : Obj} {σ₀ σ : PS} {c : Nat} {rf' : Int} {Q : Value → Shared → Prop}
    (F : Fr h₀ L s.heap m) (X : (hd.heap_39 w.params).In h₀) (T : Top p loose mean mg mb h₀) (N : News h₀ L s.heap (core w.params a rf tr oP oR oD ++ rest)) (off : OwnOff rest (adrs a)) (I : ImmAt prog w s.heap a G) (hroom : dp + G.left.length + 10 < recursionLimit)
    (hS : StR prog w G.left ss oP oR oD σ₀) (hr : run G = some (σ, c, rf'))
    (ret : ∀ h' tk tr' oP' oR' oD' tc, Fr h₀ L h' m → News h₀ L h' (core w.params a rf' tr' oP' oR' oD' ++ rest) → StR prog w G.left ss oP' oR' oD' σ → Q (.int c tc) { s with heap := h', toks := tk }) :
    wpAny (model prog w) (topA dp un fr gd) (call (.ref 35) [.ref a.x]) Q E s := by
  refine wpAny_call ?_
  with_unfolding_all refine' call_in (rest := rest) F N X T off ?k6 ?k7 ?k8 ?k9 ?kB ?_ ?c2 ?c3 ?c4 ?c5
  case k6 => k_is
  case k7 => k_is
  case k8 => dsimp only; omega
  case k9 => exact BindsTo.of_eq rfl
  case kB => exact locs rfl
  case c2 => exact rfl
  case c3 => exact rfl
  case c4 => exact rfl
  case c5 => decide
  intro g L' h' F' N' X' T' st' sub'
  have I' : Imm prog w g a G := I.base sub'
  obtain ⟨lvs, hleft, hlvs⟩ := I'.left
  obtain ⟨DP, DR', DD⟩ := hS
  have hz1 := sz.c
  have hz2 := sz.s
  clear F N X T off I st' sub'
  obtain ⟨d1, d2, d3, d4, d5, d6, d7, d8, d9, d10, l1, l2, l3⟩ := id ap
  (try dsimp only at N')
  unfold run at hr
  walk_at "HK"
  rename_i ha oP1 D1 hb oR1 D2 hc oD1 F1 N1 D3
  refine hide_post fun K0 hK0 => ?_
  with_unfolding_all refine For_invV g (by rfl) (by rfl) ?_
  walk_at "HK"
  generalize hdi : iniD G.left (fun _ => none) = dI at hr
  have hdd : Dd G.left dI := hdi ▸ iniD_dd G.left _ fun l hl => .inl hl
  with_unfolding_all refine iter_base (J := fun i m nx => m (Str.ofString "self") = some (.ref a.x) ∧ ∃ oD d, nx = core w.params a rf tr oP1 oR1 oD ∧ DR (intKind prog w) RInt G.left oD d ∧ iniD (G.left.drop i) d = dI) rfl hleft F1 N1 ?_ ?_ ?_
  · exact ⟨rfl, oD1, _, rfl, D3, hdi⟩
  · clear F1 N1 D3 hdi hr ret DP DD DR'
    rintro i v m₁ nx h tk own hv _ hoff ⟨hm1, oD, d, rfl, DD, hdi⟩ F' N'
    obtain ⟨l, t, rfl, hl⟩ := hlvs.at i v hv
    have hll : l ∈ G.left := List.mem_of_getElem? hl
    have hdrop : G.left.drop i = l :: G.left.drop (i + 1) := by
      obtain ⟨h1, h2⟩ := List.getElem?_eq_some_iff.mp hl
      rw [List.drop_eq_getElem_cons h1, h2]
    rw [hdrop] at hdi
    rw [know1 hm1] at F'
    simp only [List.map_cons, List.map_nil] at hoff
    simp only [List.cons_append, List.nil_append] at N'
    simp only [iniD] at hdi
    refine hide_post fun K1 hK1 => ?_
    walk_at "HK"
    rename Fr _ _ _ _ => F8
    rename News _ _ _ _ => N8
    rename DR _ _ _ _ _ => D8
    refine hK1 _ _ ?_
    exact inv_endG (nx := core w.params a rf tr oP1 oR1 _) F8 N8 rfl ⟨rfl, _, _, rfl, D8, hdi⟩
  · clear F1 N1 D3 hdi DP DD DR'
    rintro m₁ nx h tk ⟨hm1, oD, d, rfl, DD, hdi⟩ _ F' N'
    rw [hlvs.length, List.drop_length] at hdi
    simp only [iniD] at hdi
    subst hdi
    rw [know1 hm1] at F'
    refine hK0 _ _ ?_
    dsimp only
    walk_at "HK"
    rename Fr _ _ _ _ => F9
    rename News _ _ _ _ => N9
    with_unfolding_all refine While_inv2 (n₀ := G.left.length + 1) (J := fun k m nx => m (Str.ofString "self") = some (.ref a.x) ∧ ∃ tc c₁ tr rf oP oR oD σ', m (Str.ofString "matchings") = some (.int ((c₁ : Nat) : Int) tc) ∧ nx = core w.params a rf tr oP oR oD ∧
      StR prog w G.left ss oP oR oD σ' ∧ Wf G.left σ' ∧ runW G k σ' c₁ = some (σ, c, rf')) F9 N9 ?_ ?_
    · exact ⟨rfl, _, 0, tr, rf, oP1, oR1, oD, ⟨fun _ => none, fun _ => none, d⟩, rfl, rfl, ⟨D1, D2, DD⟩, ⟨fun _ _ h => (nomatch h), hdd⟩, hr⟩
    · clear F9 N9 hr hdd DD D1 D2 hm1
      rintro k m₁ nx h1 tk1 F' N' ⟨hm1, tc, c₁, tr, rf, oP, oR, oD, σ', hm2, rfl, hS, hW, hr⟩
      rw [know2 hm1 hm2] at F'
      cases k with
      | zero => cases hr
      | succ k =>
        simp only [runW] at hr
        cases hb : bfs G σ' with
        | none => rw [hb] at hr; cases hr
        | some b =>
          rw [hb] at hr
          dsimp only at hr
          walk_at "HK"
          walk_at "call ref"
          rename DR _ _ _ _ _ => D9
          rename Dd _ _ => E9
          have hS9 : StR prog w G.left ss oP oR _ { σ' with d := b.d } := ⟨hS.P, hS.R, D9⟩
          have hW9 : Wf G.left { σ' with d := b.d } := ⟨hW.1, E9⟩
          by_cases hrf : b.rf = -1
          · rw [if_pos hrf] at hr
            simp only [Option.some.injEq, Prod.mk.injEq] at hr
            obtain ⟨rfl, rfl, rfl⟩ := hr
            rw [show (b.rf != -1) = false from by simp [hrf]]
            walk_at "HK"
            dsimp only [WhileStep2]
            walk_at "HK"
            dsimp only
            rename News _ _ _ _ => N9
            rw [List.append_nil] at N9
            exact Back.intro (by assumption) N9 fun F N => ret _ _ _ _ _ _ _ F N hS9
          · rw [if_neg hrf] at hr
            rw [show (b.rf != -1) = true from by simp [hrf]]
            cases hph : phase (dfs b.rf G.adj (G.left.length + 1)) G.left { σ' with d := b.d } c₁ with
            | none => rw [hph] at hr; cases hr
            | some res =>
              obtain ⟨σ₂, c₂⟩ := res
              rw [hph] at hr
              dsimp only at hr
              clear ret
              walk_at "HK"
              rename Fr _ _ _ _ => F9
              rename News _ _ _ _ => N9
              rw [List.append_nil] at N9
              refine hide_post fun K2 hK2 => ?_
              with_unfolding_all refine For_invV g (by rfl) (by rfl) ?_
              walk_at "HK"
              with_unfolding_all refine iter_base (J := fun i m nx => m (Str.ofString "self") = some (.ref a.x) ∧ ∃ tc c₁ tr oP oR oD σ', m (Str.ofString "matchings") = some (.int ((c₁ : Nat) : Int) tc) ∧ nx = core w.params a b.rf tr oP oR oD ∧
                StR prog w G.left ss oP oR oD σ' ∧ Wf G.left σ' ∧ phase (dfs b.rf G.adj (G.left.length + 1)) (G.left.drop i) σ' c₁ = some (σ₂, c₂)) rfl hleft F9 N9 ?_ ?_ ?_
              · exact ⟨rfl, _, c₁, _, _, _, _, _, rfl, rfl, hS9, hW9, hph⟩
              · clear F9 N9 hS9 hW9 hph hr hS hW D9 E9 hb hm1 hm2
                rintro i v m₁ nx h tk own hv _ hoff ⟨hm1, tc, c₁, tr, oP, oR, oD, σ', hm2, rfl, hS, hW, hph⟩ F' N'
                obtain ⟨l, t, rfl, hl⟩ := hlvs.at i v hv
                have hll : l ∈ G.left := List.mem_of_getElem? hl
                have hdrop : G.left.drop i = l :: G.left.drop (i + 1) := by
                  obtain ⟨h1, h2⟩ := List.getElem?_eq_some_iff.mp hl
                  rw [List.drop_eq_getElem_cons h1, h2]
                rw [hdrop] at hph
                rw [know2 hm1 hm2] at F'
                simp only [List.map_cons, List.map_nil] at hoff
                simp only [List.cons_append, List.nil_append] at N'
                simp only [phase] at hph
                obtain ⟨DP, DR', DD⟩ := id hS
                have C : DfsCt prog w p loose mean mg mb G ss a b.rf (G.left.length + 1) := dfs_ct ap sz _
                refine hide_post fun K3 hK3 => ?_
                cases hp : σ'.p l with
                | some s' =>
                  rw [hp] at hph
                  simp only [Option.isSome_some, if_true] at hph
                  walk_at "HK"
                  refine hK3 _ _ ?_
                  exact inv_endG (nx := core w.params a b.rf tr oP oR oD) F' N' rfl ⟨rfl, tc, c₁, tr, oP, oR, oD, σ', rfl, rfl, hS, hW, hph⟩
                | none =>
                  rw [hp] at hph
                  simp only [Option.isSome_none, Bool.false_eq_true, if_false] at hph
                  cases hdf : dfs b.rf G.adj (G.left.length + 1) l σ' with
                  | none => rw [hdf] at hph; cases hph
                  | some res =>
                    obtain ⟨b₁, σ₁⟩ := res
                    have hW₁ := dfs_wf _ l σ' b₁ σ₁ hW hll hdf
                    rw [hdf] at hph
                    cases b₁ with
                    | true =>
                      dsimp only at hph
                      walk_at "HK"
                      walk_at "call ref"
                      walk_at "HK"
                      rename Fr _ _ _ _ => F8
                      rename News _ _ _ _ => N8
                      rename StR _ _ _ _ _ _ _ _ => S8
                      refine hK3 _ _ ?_
                      exact inv_endG (nx := core w.params a b.rf tr _ _ _) F8 N8 rfl ⟨rfl, _, c₁ + 1, tr, _, _, _, σ₁, rfl, rfl, S8, hW₁, hph⟩
                    | false =>
                      dsimp only at hph
                      walk_at "HK"
                      walk_at "call ref"
                      walk_at "HK"
                      rename Fr _ _ _ _ => F8
                      rename News _ _ _ _ => N8
                      rename StR _ _ _ _ _ _ _ _ => S8
                      refine hK3 _ _ ?_
                      exact inv_endG (nx := core w.params a b.rf tr _ _ _) F8 N8 rfl ⟨rfl, _, c₁, tr, _, _, _, σ₁, rfl, rfl, S8, hW₁, hph⟩
              · clear F9 N9 hS9 hW9 hph hS hW D9 E9 hb hm1 hm2
                rintro m₁ nx h tk ⟨hm1, tc, c₁, tr, oP, oR, oD, σ', hm2, rfl, hS, hW, hph⟩ _ F' N'
                rw [hlvs.length, List.drop_length] at hph
                simp only [phase, Option.some.injEq, Prod.mk.injEq] at hph
                obtain ⟨rfl, rfl⟩ := hph
                refine hK2 _ _ ?_
                dsimp only
                walk_at "HK"
                dsimp only [WhileStep2]
                exact ⟨_, _, _, _, k, rfl, F', N', Nat.lt_succ_self k, hm1, tc, _, tr, b.rf, oP, oR, oD, _, hm2, rfl, hS, hW, hr⟩
end
end

/-! part HkF -/
section
open PySem PySem.W PyProof.Rows PySem.Calls
section
variable {prog : Program} {w : World} {A : Around} {E : Value → Shared → Prop} {s : Shared} {h₀ : Heap} {L d v : Addr} {m : Str → Option Value} {news : Ledger} {Q : Value → Shared → Prop} {o : Obj} {kvs : List (Int × Value)}
theorem base_keys_method {pl : Sem Bool} {Q : Value × List Value → Shared → Prop} (F : Fr h₀ L s.heap m) (hm : h₀.get? d = some o) (hd : o.IsDictOf (intKind prog w) kvs) (h : Q (.builtin "dict.keys", [.ref d]) s) :
    wpAny (model prog w) A (getMethod (.ref d) (Str.ofString "keys") pl) Q E s :=
  have hD : s.heap.DictOf (intKind prog w) d kvs := Heap.dictOf_iff.mpr ⟨o, F.keep _ _ hm, hd⟩
  getMethod_builtin hD.typeIs PySem.F.plainAttrs_dict PySem.F.slot_dict_keys PySem.F.type_dict_keys hD.mapOf.noDict h
theorem base_keys (F : Fr h₀ L s.heap m) (N : News h₀ L s.heap news) (hm : h₀.get? d = some o) (hd : o.IsDictOf (intKind prog w) kvs) (lo : (d == sysModules) = false)
    (h : ∀ (D : Addr) h', Fr h₀ L h' m → News h₀ L h' ((D, { cls := .type "dict_keys", data := .fields #[.ref d] }) :: news) → (∀ q ∈ news, q.1 < D) → Q (.ref D) { s with heap := h' }) :
    wpAny (model prog w) A (call (.builtin "dict.keys") [.ref d]) Q E s :=
  have hD : s.heap.DictOf (intKind prog w) d kvs := Heap.dictOf_iff.mpr ⟨o, F.keep _ _ hm, hd⟩
  call_meetsIn PySem.F.slot_dict_keys hD.typeIs PySem.F.entry_dict_keys (PySem.F.args_dict_keys_1 _) (kdl_meets_keys (intKind prog w) d lo) ⟨⟨kvs, hD⟩, h _ _ (F.push _) (News.push F N _) fun q hq => Heap.lt_size (N q hq).1⟩

theorem ints_of_keys : ∀ {kvs : List (Int × Value)} {vs : List Value}, vs.length = kvs.length → (∀ (j : Nat) (v : Value), vs[j]? = some v → ∃ k x, kvs[j]? = some (k, x) ∧ (intKind prog w).is k v = true) → IntsAre vs (kvs.map (·.1))
  | [], [], _, _ => .nil
  | (k, x) :: kvs, v :: vs, hl, hv => by
    obtain ⟨k', x', e, hk⟩ := hv 0 v rfl
    simp only [List.getElem?_cons_zero, Option.some.injEq, Prod.mk.injEq] at e
    obtain ⟨rfl, rfl⟩ := e
    obtain ⟨t, rfl⟩ := Value.isInt_shape hk
    exact .cons _ _ (ints_of_keys (by simpa using hl) fun j v h => by simpa using hv (j + 1) v (by simpa using h))
  | [], _ :: _, hl, _ => by simp at hl
  | _ :: _, [], hl, _ => by simp at hl

theorem base_list_view (hh : A.handled = none) (F : Fr h₀ L s.heap m) (N : News h₀ L s.heap news) (hv : (v, { cls := .type "dict_keys", data := .fields #[.ref d] }) ∈ news) (hm : h₀.get? d = some o) (hd : o.IsDictOf (intKind prog w) kvs) (hn : kvs.length ≤ 100)
    (h : ∀ (B : Addr) c h' tk vs, IntsAre vs (kvs.map (·.1)) → Fr h₀ L h' m → News h₀ L h' ((B, listOf vs.toArray c) :: news) → (∀ q ∈ news, q.1 < B) → Q (.ref B) { s with heap := h', toks := tk }) :
    wpAny (model prog w) A (call (.type "list") [.ref v]) Q E s := by
  have hD : s.heap.DictOf (intKind prog w) d kvs := Heap.dictOf_iff.mpr ⟨o, F.keep _ _ hm, hd⟩
  obtain ⟨ep, hat⟩ := hD.dictAt
  exact kdl_N (kdl_keys (knd := intKind prog w) (kvs := kvs) (ep := ep)) hh F N ⟨⟨_, (N _ hv).1, rfl, rfl⟩, hat⟩ (by rw [sizeLine_eq]; omega) fun B c h' tk vs F' N' l1 hl hv => h B c h' tk vs (ints_of_keys hl hv) F' N' l1
end

theorem news_six {h₀ h : Heap} {L : Addr} {all : Ledger} {p1 p2 p3 p4 p5 p6 : Addr × Obj} (N : News h₀ L h all) (m1 : p1 ∈ all) (m2 : p2 ∈ all) (m3 : p3 ∈ all) (m4 : p4 ∈ all) (m5 : p5 ∈ all) (m6 : p6 ∈ all) :
    News h₀ L h [p1, p2, p3, p4, p5, p6] := fun q hq => by
  simp only [List.mem_cons, List.not_mem_nil, or_false] at hq
  rcases hq with rfl | rfl | rfl | rfl | rfl | rfl <;> exact N _ (by assumption)

local macro_rules | `(tactic| walk_at "getMethod ref") => `(tactic| (k_here; (with_reducible show wpAny _ _ (getMethod (Value.ref _) (PySem.Str.ofString "keys") _) _ _ _); k_dflt (refine' base_keys_method ?F ?m ?d ?_; (case F => k_asm); (case m => assumption); (case d => assumption))))
local macro_rules | `(tactic| walk_at "call builtin:dict.keys") => `(tactic| (k_here; k_dflt (refine' base_keys ?F ?N ?m ?d ?lo ?_; (case F => k_asm); (case N => k_asm); (case m => assumption); (case d => assumption); (case lo => assumption)); intro D' h' F' N' l1; (try k_lt l1)))
local macro_rules | `(tactic| walk_at "call type:list") => `(tactic| (k_here; (with_reducible show wpAny _ _ (call (Value.type "list") [Value.ref _]) _ _ _); k_dflt (refine' base_list_view ?hh ?F ?N ?v ?m ?d ?n ?_; (case hh => rfl); (case F => k_asm); (case N => k_asm); (case v => k_mem); (case m => assumption); (case d => assumption); (case n => assumption)); intro D' c' h' tk' vs' hI' F' N' l1; (try k_lt l1)))

section
variable {prog : Program} {w : World} {p : Program} {loose : List Str} {mean : ExcName → Option Value} {mg mb : Str → Option Value}

/-- the graph as it is handed in: a dict whose keys stand in the columns' order -/
structure Gra (prog : Program) (w : World) (h : Heap) (gl : Addr) (G : Gr) : Prop where
  lo : (gl == sysModules) = false
  tab : ∃ oG kvs, h.get? gl = some oG ∧ oG.IsDictOf (intKind prog w) kvs ∧ kvs.map (·.1) = G.left ∧ ∀ q ∈ kvs, ∃ ad vs, q.2 = .ref ad ∧ h.IsList ad vs.toArray ∧ StrsAre vs (G.adj q.1)

/-- the same, told of a ledger -/
structure GraL (prog : Program) (w : World) (news : Ledger) (gl : Addr) (G : Gr) : Prop where
  lo : (gl == sysModules) = false
  tab : ∃ oG kvs, (gl, oG) ∈ news ∧ oG.IsDictOf (intKind prog w) kvs ∧ kvs.map (·.1) = G.left ∧ ∀ q ∈ kvs, ∃ ad vs n, q.2 = .ref ad ∧ (ad, listOf vs.toArray n) ∈ news ∧ StrsAre vs (G.adj q.1)
theorem GraL.gra {news : Ledger} {h : Heap} {gl : Addr} {G : Gr} (x : GraL prog w news gl G) (k : ∀ q ∈ news, h.get? q.1 = some q.2) : Gra prog w h gl G :=
  ⟨x.lo, let ⟨oG, kvs, a, b, c, d⟩ := x.tab; ⟨oG, kvs, k _ a, b, c, fun q hq => let ⟨ad, vs, n, e, f, g⟩ := d q hq; ⟨ad, vs, e, ⟨_, k _ f, rfl, n, rfl⟩, g⟩⟩⟩

set_option maxHeartbeats 4000000 in
theorem init_ct {G : Gr} {ss : List Str} (hz : G.left.length ≤ 100) {gl : Addr}
    {dp un : Nat} {fr : Option (List Env)} {gd : Option (List Code)} {E : Value → Shared → Prop} {s : Shared} {h₀ : Heap} {L : Addr} {m : Str → Option Value} {news : Ledger} {Q : Value → Shared → Prop}
    (F : Fr h₀ L s.heap m) (X : (hd.heap_39 w.params).In h₀) (T : Top p loose mean mg mb h₀) (N : News h₀ L s.heap news) (I : GraL prog w news gl G) (hroom : dp + 10 < recursionLimit)
    (ret : ∀ h' tk a tr oP oR oD vs c, a.gl = gl → Fr h₀ L h' m → News h₀ L h' (core w.params a (-1) tr oP oR oD ++ (a.lf, listOf vs.toArray c) :: news) → IntsAre vs G.left → Apart a → OwnOff ((a.lf, listOf vs.toArray c) :: news) (adrs a) →
      (∀ q ∈ news, q.1 ≠ a.lf) → StR prog w G.left ss oP oR oD ⟨fun _ => none, fun _ => none, fun _ => none⟩ → Q (.ref a.x) { s with heap := h', toks := tk }) :
    wpAny (model prog w) (topA dp un fr gd) (call (.ref 73) [.ref gl]) Q E s := by
  k_dflt refine' call_cls ?k1 ?k2 ?k3 ?k4 ?k5 ?k6 ?_
  case k1 => exact F
  case k2 => exact X
  case k3 => exact N
  case k4 => k_is
  case k5 => k_is
  case k6 => k_is
  intro x dx h1 F1 N1 l1 l2
  with_unfolding_all refine' call_in (news := [(x, instObj 73 dx), (dx, dictOf [] 0)]) (rest := news) F1 N1 X T ?off ?k6 ?k7 ?k8 ?k9 ?kB ?_ ?c2 ?c3 ?c4 ?c5
  case off =>
    intro q hq b hb
    have := l1 q hq
    simp only [List.map_cons, List.map_nil, List.mem_cons, List.not_mem_nil, or_false] at hb
    rcases hb with rfl | rfl
    · exact Nat.ne_of_lt (Nat.lt_trans this l2)
    · exact Nat.ne_of_lt this
  case k6 => k_is
  case k7 => k_is
  case k8 => simp only [depth_under_make]; omega
  case k9 => exact BindsTo.of_eq rfl
  case kB => exact locs rfl
  case c2 => exact rfl
  case c3 => exact rfl
  case c4 => exact rfl
  case c5 => decide
  intro g L' h' F' N' X' T' st' sub'
  have hng : ∀ q ∈ news, g.get? q.1 = some q.2 := fun q hq => sub' _ _ (N1 q (List.mem_append_right [(x, instObj 73 dx), (dx, dictOf [] 0)] hq)).1 fun hb => by
    have := l1 q hq
    simp only [List.map_cons, List.map_nil, List.mem_cons, List.not_mem_nil, or_false] at hb
    rcases hb with e | e
    · exact Nat.ne_of_lt (Nat.lt_trans this l2) e
    · exact Nat.ne_of_lt this e
  have I' : Gra prog w g gl G := I.gra hng
  clear F N X T F1 N1 st' sub'
  replace l2 := ltN l2
  obtain ⟨oG, kvs, hG, hk, hkl, hrows⟩ := I'.tab
  have lo := I'.lo
  have hkn : kvs.length ≤ 100 := by rw [← List.length_map (f := (·.1)), hkl]; exact hz
  walk_at "HK"
  rename_i h10 h9 pl h8 oP lo1 hs1 fs1 hi1 fi1 lt1 h7 pr h6 oR lo2 hs2 fs2 hi2 fi2 lt2 h5 kv h4 lt3 lf c h3 tk1 vs hI lt4 h2 dl h1b oD lo3 hs3 fs3 hi3 fi3 lt5 h0 F9 N9
  rw [hkl] at hI
  have ln : ∀ q ∈ news, @LT.lt Nat _ q.1 dx := l1
  obtain ⟨u1, u2⟩ := lt1
  obtain ⟨u3, u4, u5⟩ := lt2
  obtain ⟨u6, u7, u8, u9⟩ := lt3
  obtain ⟨v1, v2, v3, v4, v5⟩ := lt4
  obtain ⟨w1, w2, w3, w4, w5, w6⟩ := lt5
  refine Back.intro F9 (news_six N9 (by k_mem) (by k_mem) (by k_mem) (by k_mem) (by k_mem) (by k_mem)) fun F N => ⟨rfl, ret _ _ ⟨x, dx, gl, pl, pr, lf, dl, ⟨_, _, _, _, _, _⟩⟩ _ oP oR oD vs c rfl F N hI ?_ ?_ ?_ ?_⟩
  · constructor <;> first | assumption | exact Nat.ne_of_lt (by assumption) | exact Nat.ne_of_gt (by assumption) | (dsimp only; omega)
  · intro q hq b hb
    simp only [adrs, List.mem_cons, List.not_mem_nil, or_false] at hb
    rcases List.mem_cons.mp hq with rfl | hq
    · dsimp only; rcases hb with rfl | rfl | rfl | rfl | rfl <;> first | exact Nat.ne_of_lt (by assumption) | exact Nat.ne_of_gt (by assumption)
    · have l := ln q hq
      rcases hb with rfl | rfl | rfl | rfl | rfl <;> first | exact Nat.ne_of_lt l | exact Nat.ne_of_lt (Nat.lt_trans l (by assumption))
  · intro q hq
    exact Nat.ne_of_lt (Nat.lt_trans (ln q hq) (by assumption))
  · exact ⟨⟨[], hi1, fun _ h => (nomatch h), fun _ => rfl⟩, ⟨[], hs2, fun _ h => (nomatch h), fun _ => rfl⟩, ⟨[], hi3, fun _ h => (nomatch h), fun _ => rfl⟩⟩
end
end

/-! part HkG -/
section
open PySem PySem.W PyProof.Rows PySem.Calls
local macro_rules | `(tactic| walk_at "call ref") => `(tactic| (k_here; k_dflt (refine' run_ct (rest := []) ?ap ?sz ?F ?X ?T ?N ?off ?I ?rm ?S ?r ?_; (case r => assumption); (case ap => assumption); (case sz => assumption); (case F => k_asm); (case X => k_asm); (case T => k_asm); (case N => k_asm); (case off => exact fun _ h => nomatch h); (case I => exact ImmAt.of (rest := []) (by assumption) (by k_asm) (by k_asm)); (case rm => (dsimp only; omega)); (case S => assumption)); intro h' tk' tr' o1' o2' o3' tc' F' N' S'; (try dsimp only at N'); (try k_sweep)))

section
variable {prog : Program} {w : World} {p : Program} {loose : List Str} {mean : ExcName → Option Value} {mg mb : Str → Option Value}

abbrev tupOf (vs : List Value) : Obj := { cls := .type "tuple", data := .seq vs.toArray }

set_option maxHeartbeats 4000000 in
theorem num_ct {G : Gr} {ss : List Str} {a : Ad} (ap : Apart a) (sz : Sized G ss)
    {dp un : Nat} {fr : Option (List Env)} {gd : Option (List Code)} {E : Value → Shared → Prop} {s : Shared} {h₀ : Heap} {L : Addr} {m : Str → Option Value} {rest : Ledger} {rf : Int} {tr : Tok} {oP oR oD : Obj} {σ₀ σ : PS} {c : Nat} {rf' : Int} {Q : Value → Shared → Prop}
    (F : Fr h₀ L s.heap m) (X : (hd.heap_39 w.params).In h₀) (T : Top p loose mean mg mb h₀) (N : News h₀ L s.heap (core w.params a rf tr oP oR oD ++ rest)) (off : OwnOff rest (adrs a)) (I : ImmAt prog w s.heap a G) (hroom : dp + G.left.length + 20 < recursionLimit)
    (hS : StR prog w G.left ss oP oR oD σ₀) (hr : run G = some (σ, c, rf'))
    (ret : ∀ h' tk q tr' oP' oR' oD' tc, Fr h₀ L h' m → News h₀ L h' (core w.params a rf' tr' oP' oR' oD' ++ (q, tupOf [.int c tc, .ref a.pl]) :: rest) → OwnOff ((q, tupOf [.int c tc, .ref a.pl]) :: rest) (adrs a) → (∀ p ∈ rest, p.1 ≠ q) → StR prog w G.left ss oP' oR' oD' σ → Q (.ref q) { s with heap := h', toks := tk }) :
    wpAny (model prog w) (topA dp un fr gd) (call (.ref 49) [.ref a.x]) Q E s := by
  refine wpAny_call ?_
  with_unfolding_all refine' call_in (rest := rest) F N X T off ?k6 ?k7 ?k8 ?k9 ?kB ?_ ?c2 ?c3 ?c4 ?c5
  case k6 => k_is
  case k7 => k_is
  case k8 => dsimp only; omega
  case k9 => exact BindsTo.of_eq rfl
  case kB => exact locs rfl
  case c2 => exact rfl
  case c3 => exact rfl
  case c4 => exact rfl
  case c5 => decide
  intro g L' h' F' N' X' T' st' sub'
  have I' : Imm prog w g a G := I.base sub'
  have hrest : ∀ q ∈ rest, g.get? q.1 = some q.2 := fun q hq => sub' _ _ (N q (List.mem_append_right _ hq)).1 fun hb => off q hq _ hb rfl
  clear F N X T I st' sub'
  obtain ⟨d1, d2, d3, d4, d5, d6, d7, d8, d9, d10, l1, l2, l3⟩ := id ap
  (try dsimp only at N')
  walk_at "HK"
  walk_at "call ref"
  rename News _ _ _ _ => N9
  rw [List.append_nil] at N9
  walk_at "HK"
  rename_i h1 tk1 tr1 oP1 oR1 oD1 tc1 S1 h2 q h3 F8 N8 lt1
  have hqr : ∀ p ∈ rest, p.1 ≠ q := fun p hp e => by
    have h1 := hrest p hp
    have h2 := (N8 _ List.mem_cons_self).2.2
    rw [e] at h1
    rw [h1] at h2; cases h2
  refine Back.intro (news' := core w.params a rf' tr1 oP1 oR1 oD1 ++ [(q, tupOf [.int c tc1, .ref a.pl])]) F8 (fun p hp => N8 p ?_) fun F N => ret _ _ q tr1 oP1 oR1 oD1 tc1 F N ?_ hqr S1
  · rcases List.mem_append.mp hp with h | h
    · exact List.mem_cons_of_mem _ h
    · rw [List.mem_singleton.mp h]; exact List.mem_cons_self
  · intro p hp b hb
    rcases List.mem_cons.mp hp with rfl | hp
    · simp only [adrs, List.mem_cons, List.not_mem_nil, or_false] at hb
      dsimp only
      rcases hb with rfl | rfl | rfl | rfl | rfl <;> (refine neN ?_; omega)
    · exact off p hp b hb
end
end

/-! part HkH -/
section
open PySem PySem.W PyProof.Rows PySem.Calls
/-- call_in for a def that has cells -/
theorem call_inC {prog : Program} {w : World} {A : Around} {s : Shared} {h₀ : Heap} {L : Addr} {m : Str → Option Value} {news rest : Ledger} {K : Frag}
    {p : Program} {loose : List Str} {mean : ExcName → Option Value} {mg mb : Str → Option Value}
    {R : Result → Shared → Prop} {name qual : Str} {params : Arguments} {body : List Stmt} {scope : Scope} {dV kV doc pm cdv ct oc : Value} {an od : Option Addr} {osl : Array (Option Value)} {f : Addr} {args : Args} {binds : List (Str × Value)}
    (F : Fr h₀ L s.heap m) (N : News h₀ L s.heap (news ++ rest)) (X₀ : K.In h₀) (T : Top p loose mean mg mb h₀)
    (off : OwnOff rest (news.map (·.1)))
    (ho : K.lookup f = some ⟨oc, od, .func (fnOf name qual params body scope dV kV doc pm an cdv ct), osl⟩) (hcd : codeIn K cdv qual = true) (hroom : A.depth < recursionLimit)
    (hbind : BindsTo s (fnOf name qual params body scope dV kV doc pm an cdv ct) args binds)
    (hkind : (binds.all fun y => scope.names.lookup y.1 == some .local || scope.names.lookup y.1 == some .cell) = true)
    (hnd : ((cellsFrom 0 scope.names []).map (·.1)).Nodup)
    (h : ∀ g L' h₁ tk cells, Fr g L' h₁ (bindL (envOfC qual scope L' f cdv).kindOf binds fun _ => none) → News g L' h₁ (cells ++ news) →
      CellsAre (bindC (envOfC qual scope L' f cdv).kindOf binds fun _ => none) (cellsFrom (L' + 1) scope.names []) cells → K.In g → Top p loose mean mg mb g → (∀ b o, h₀.get? b = some o → g.get? b = some o) →
      (∀ b o, s.heap.get? b = some o → b ∉ news.map (·.1) → g.get? b = some o) → (∀ p ∈ news, p.1 < L') →
      wpAny (model prog w) (A.deeper (envOfC qual scope L' f cdv)) (execs body (envOfC qual scope L' f cdv))
        (fun fl s' => Back h₀ L m g rest R (match fl with | .ret v => v | _ => .none) s')
        (fun _ _ => False)
        { s with heap := h₁, toks := tk })
    (hco : scope.isCoroutine = false) (hgen : scope.isGenerator = false) (hk : scope.kind = .function) : codeAny (model prog w) A (.call (.ref f) args) R s := by
  have Nn : News h₀ L s.heap news := fun q hq => N q (List.mem_append_left _ hq)
  have Nr : News h₀ L s.heap rest := fun q hq => N q (List.mem_append_right _ hq)
  have nm : ∀ b o, h₀.get? b = some o → b ∉ news.map (·.1) := fun b o e q => by
    obtain ⟨p, hp, rfl⟩ := List.mem_map.mp q
    rw [(Nn p hp).2.2] at e; cases e
  have sub : ∀ b o, s.heap.get? b = some o → b ∉ news.map (·.1) → (hideAll s.heap (news.map (·.1))).get? b = some o := fun b o e n => hideAll_get _ e n
  have st : ∀ b o, h₀.get? b = some o → (hideAll s.heap (news.map (·.1))).get? b = some o := fun b o e => sub b o (F.keep b o e) (nm b o e)
  obtain ⟨oL, es, ep, hL, hLd, hLk, hLf⟩ := F.ns
  have nL : L ∉ news.map (·.1) := fun q => by
    obtain ⟨p, hp, e⟩ := List.mem_map.mp q
    exact (Nn p hp).2.1 e
  have hLg := sub L oL hL nL
  refine codeAny_call_function hroom ((X₀.keeps F.keep) _ _ ho) rfl hco hgen rfl (codeRec_of (X₀.keeps F.keep) hcd) (hbind _ _ _ _ ?_)
  refine wpAny_newFunctionEnv_cells hk (kindsX hkind _) fun env' he s' x => ?_
  subst he
  refine ⟨(T.nolimit.keeps F.keep).keeps x.toInCall.keep, codeAny_func ?_⟩
  obtain ⟨h₁, tk, rfl, _⟩ := x.done
  have hk₁ := x.toInCall.keep
  obtain ⟨cells, NC, Y⟩ := Cl.news (h₀ := s.heap) (Nat.le_refl _) fun n c hm => ⟨x.cell n c (lookup_of_mem_nodup (cellsFrom_names scope.names 0 (s.heap.objs.size + 1) [] [] rfl ▸ hnd) hm), x.above n c hm⟩
  refine wpAny_mono (h (hideAll s.heap (news.map (·.1))) s.heap.objs.size h₁ tk cells ⟨x.toInCall.ns, fun b o e => hk₁ b o (of_hideAll _ e), Nat.le_of_eq (hideAll_size _ _)⟩ (fun p hp => ?_) Y (X₀.keeps st) (T.keeps st) st sub (fun p hp => Heap.lt_size (Nn p hp).1)) (fun fl s' hl => ?_) fun _ _ y => y.elim
  · rcases List.mem_append.mp hp with hp | hp
    · refine ⟨(NC p hp).1, (NC p hp).2.1, ?_⟩
      cases q : (hideAll s.heap (news.map (·.1))).get? p.1 with
      | none => rfl
      | some o => have := of_hideAll _ q; rw [(NC p hp).2.2] at this; cases this
    · exact ⟨hk₁ _ _ (Nn p hp).1, Nat.ne_of_lt (Heap.lt_size (Nn p hp).1), hideAll_none _ (List.mem_map_of_mem hp)⟩
  · obtain ⟨L₂, m', news', F', N', k⟩ := hl
    refine k ⟨⟨oL, es, ep, F'.keep L oL hLg, hLd, hLk, hLf⟩, fun b o e => F'.keep b o (st b o e), F.above⟩ fun p hp => ?_
    rcases List.mem_append.mp hp with hp | hp
    · refine ⟨(N' p hp).1, fun q => ?_, ?_⟩
      · have := (N' p hp).2.2; rw [q, hLg] at this; cases this
      · cases q : h₀.get? p.1 with
        | none => rfl
        | some o => have := (N' p hp).2.2; rw [st _ _ q] at this; cases this
    · exact ⟨F'.keep _ _ (sub _ _ (Nr p hp).1 (fun q => off p hp _ q rfl)), (Nr p hp).2⟩

section
variable {prog : Program} {w : World} {A : Around} {E : Value → Shared → Prop} {s : Shared} {h₀ : Heap} {L l : Addr} {m : Str → Option Value} {news : Ledger} {vs : List Value} {n : Nat} {x : Int} {t : Tok} {value slice : PySem.Expr} {Q : Value → Shared → Prop}

theorem lstB_len (F : Fr h₀ L s.heap m) (hl : h₀.IsList l vs.toArray) (hsz : vs.length ≤ 100000)
    (h : Q (.int vs.length (s.toks + 1)) { s with toks := s.toks + 1 + 1 }) : wpAny (model prog w) A (call (.builtin "len") [.ref l]) Q E s :=
  len_list (hl.at fun o e => F.keep _ o e) (by rw [List.size_toArray]; omega) (by rw [List.size_toArray]; exact h)

theorem pick_from {vs : List Value} {x : Int} (h0 : 0 ≤ x) (h1 : x ≤ vs.length) : (slicePick vs.toArray (some x) none none).toList = vs.drop x.toNat := by
  have := slicePick_from vs.toArray x.toNat (by rw [List.size_toArray]; omega)
  rw [Int.toNat_of_nonneg h0] at this
  rw [this]
theorem pick_upto {vs : List Value} {x : Int} (h0 : 0 ≤ x) (h1 : x ≤ vs.length) : (slicePick vs.toArray none (some x) none).toList = vs.take x.toNat := by
  have := slicePick_upto vs.toArray x.toNat (by rw [List.size_toArray]; omega)
  rw [Int.toNat_of_nonneg h0] at this
  rw [this]

theorem lstB_from (F : Fr h₀ L s.heap m) (N : News h₀ L s.heap news) (hl : h₀.IsList l vs.toArray) (h0 : 0 ≤ x) (h1 : x ≤ vs.length) (hsz : vs.length ≤ 100000)
    (h : ∀ D h', Fr h₀ L h' m → News h₀ L h' ((D, listOf (vs.drop x.toNat).toArray 0) :: news) → (∀ p ∈ news, p.1 < D) → Q (.ref D) { s with heap := h' })
    (hs : subscripted slice false (.ref l) (.ref s.heap.objs.size) = operate [.ref s.heap.objs.size, .ref l] (getItem (.ref l) (.ref s.heap.objs.size))) (ht : ∀ r, letTemporaryGo value (.ref l) r = pure ()) :
    wpAny (model prog w) A (subscriptTail value slice (.ref l) (.ref s.heap.objs.size)) Q E { s with heap := s.heap.push { cls := .type "slice", data := .fields #[.int x t, .none, .none] } } :=
  kmk_slice_lit F N (hl.at fun o e => F.keep _ o e) (IsPart.int _ _) IsPart.none (pick_from h0 h1) h hs ht (by rw [List.size_toArray, sizeLine_eq]; omega)
theorem lstB_upto (F : Fr h₀ L s.heap m) (N : News h₀ L s.heap news) (hl : h₀.IsList l vs.toArray) (h0 : 0 ≤ x) (h1 : x ≤ vs.length) (hsz : vs.length ≤ 100000)
    (h : ∀ D h', Fr h₀ L h' m → News h₀ L h' ((D, listOf (vs.take x.toNat).toArray 0) :: news) → (∀ p ∈ news, p.1 < D) → Q (.ref D) { s with heap := h' })
    (hs : subscripted slice false (.ref l) (.ref s.heap.objs.size) = operate [.ref s.heap.objs.size, .ref l] (getItem (.ref l) (.ref s.heap.objs.size))) (ht : ∀ r, letTemporaryGo value (.ref l) r = pure ()) :
    wpAny (model prog w) A (subscriptTail value slice (.ref l) (.ref s.heap.objs.size)) Q E { s with heap := s.heap.push { cls := .type "slice", data := .fields #[.none, .int x t, .none] } } :=
  kmk_slice_lit F N (hl.at fun o e => F.keep _ o e) IsPart.none (IsPart.int _ _) (pick_upto h0 h1) h hs ht (by rw [List.size_toArray, sizeLine_eq]; omega)

theorem lst_add {b : Addr} {ws : List Value} {n' : Nat} (F : Fr h₀ L s.heap m) (N : News h₀ L s.heap news) (h1 : (l, listOf vs.toArray n) ∈ news) (h2 : (b, listOf ws.toArray n') ∈ news) (hsz : vs.length + ws.length ≤ 100000)
    (h : ∀ D h', Fr h₀ L h' m → News h₀ L h' ((D, listOf (vs ++ ws).toArray 0) :: news) → (∀ p ∈ news, p.1 < D) → Q (.ref D) { s with heap := h' }) :
    wpAny (model prog w) A (binaryOp .Add (.ref l) (.ref b)) Q E s :=
  add_arrays (its := vs.toArray) (its2 := ws.toArray) F N ⟨_, N.get h1, rfl, _, rfl⟩ ⟨_, N.get h2, rfl, _, rfl⟩ (fun h' F' N' => h _ h' F' N' fun p hp => Heap.lt_size (N p hp).1) (by rw [List.size_toArray, List.size_toArray, sizeLine_eq]; omega)

theorem lst_get (N : News h₀ L s.heap news) (h1 : (l, listOf vs.toArray n) ∈ news) (h0 : 0 ≤ x) (hx : x < vs.length) (hsz : vs.length ≤ 100000)
    (h : Q (vs.getD x.toNat .none) s)
    (hs : subscripted slice false (.ref l) (.int x t) = operate [.ref l, .int x t] (getItem (.ref l) (.int x t)) := by with_unfolding_all rfl) :
    wpAny (model prog w) A (subscriptTail value slice (.ref l) (.int x t)) Q E s :=
  have hL : s.heap.IsList l vs.toArray := ⟨_, N.get h1, rfl, _, rfl⟩
  tail_any hL.typeIs slot_list_getitem.lookup (wpAny_getItem_list hL h0 (by omega) (by
    have : x.toNat < vs.length := by omega
    simp [List.getD_eq_getElem?_getD, this]) h) hs
end

/-- a comprehension by an invariant: the turn's number, what is gathered, the ledger -/
theorem comp_inv {prog : Program} {w : World} {A : Around} {h₀ : Heap} {L : Addr} {m : Str → Option Value} {env : Env} {elt : Expr} {x : Str} {scope : Scope} {cl : List (Str × Addr)} {s : Shared} {S : Ledger → Prop} {P : Nat → Value → Prop} {Fin : List Value → Ledger → Prop} {n : Nat}
    (Inv : Nat → List Value → Ledger → Prop) (hS : ∀ i ys news, Inv i ys news → S news)
    (turn : ∀ i ys news v I oI C oC D m₂ h tk (E' : Value → Shared → Prop), i < n → P i v → Inv i ys news → LCg.NsObj oC m₂ → m₂ x = some v → Fr h₀ L h m → News h₀ L h ((I, oI) :: (C, oC) :: (D, LCg.lst ys) :: news) → LCg.Off3 I C D news → ((@Ne Nat I C) ∧ (@Ne Nat I D) ∧ (@Ne Nat C D)) →
      wpAny (model prog w) A (eval elt (compEnvC scope cl C env)) (LCg.CompEnd h₀ L m { s with heap := h, toks := tk } I oI C oC D (LCg.lst ys) (fun _ => True) (fun y news' => Inv (i + 1) (ys ++ [y]) news')) E' { s with heap := h, toks := tk })
    (fin : ∀ ys news, Inv n ys news → Fin ys news) : ∀ k i ys news, i + k = n → Inv i ys news → LCg.CompRest prog w A h₀ L m env elt x scope cl s S P Fin k i ys news := by
  intro k
  induction k with
  | zero => intro i ys news e hI; exact LCg.CompRest.zero (fin ys news ((show i = n by omega) ▸ hI))
  | succ k ih =>
    intro i ys news e hI
    refine LCg.CompRest.succ fun v I oI C oC D m₂ h tk E' hP hC hx F N off ne => ?_
    refine wpAny_mono (turn i ys news v I oI C oC D m₂ h tk E' (by omega) hP hI hC hx F N off ne) (fun y s' h' => ?_) fun _ _ e => e
    obtain ⟨h', tk', news', rfl, F', N', off', _, hI'⟩ := h'
    exact ⟨h', tk', news', rfl, F', N', off', hS _ _ _ hI', ih (i + 1) (ys ++ [y]) news' (by omega) hI'⟩

theorem comp_end {h₀ : Heap} {L I C D : Addr} {m : Str → Option Value} {s₁ : Shared} {oI oC oD : Obj} {rest : Value → Ledger → Prop} {y : Value} {h' : Heap} {tk : Nat} {news' : Ledger}
    (F : Fr h₀ L h' m) (N : News h₀ L h' ((I, oI) :: (C, oC) :: (D, oD) :: news')) (off : LCg.Off3 I C D news') (r : rest y news') :
    LCg.CompEnd h₀ L m s₁ I oI C oC D oD (fun _ => True) rest y { s₁ with heap := h', toks := tk } := ⟨h', tk, news', rfl, F, N, off, trivial, r⟩

theorem comp_range {prog : Program} {w : World} {A : Around} {h₀ : Heap} {L : Addr} {m : Str → Option Value} {env : Env} {elt : Expr} {x : Str} {scope : Scope} {cl : List (Str × Addr)} {Fin : Shared → List Value → List (Addr × Obj) → Prop} {r : Addr} {t u v : Tok} {n : Nat} {news : Ledger} {s₁ : Shared}
    (hh : A.handled = none) (F : Fr h₀ L s₁.heap m) (N : News h₀ L s₁.heap news) (hr : IsRange s₁.heap r 0 (n : Int) 1 t u v) (hn : n ≤ 100000)
    (h : ∀ g, LCg.CompRest prog w A h₀ L m env elt x scope cl { s₁ with heap := g } (fun _ => True) (fun i v => ∃ t, v = .int (0 + (i : Int)) t) (Fin { s₁ with heap := g }) n 0 [] news) :
    LCg.CompSrc prog w A h₀ L m env elt x scope cl Fin (.ref r) s₁ :=
  LCg.CompSrc.range hh F N hr (small_one (by omega) (by omega) (by omega) (by omega)) (by rw [rangeSize_nat]; simp) (by rw [sizeLine_eq]; omega) h
end

/-! part HkI -/
section
open PySem PySem.W PyProof.Rows PySem.Calls
local macro_rules | `(tactic| walk_at "call builtin:len") => `(tactic| (k_here; (with_reducible show wpAny _ _ (call (Value.builtin "len") [Value.ref _]) _ _ _); k_dflt (refine' lstB_len ?F ?m ?z ?_; (case F => k_asm); (case m => assumption); (case z => omega))))
local macro_rules | `(tactic| walk_at "subscriptTail Name Slice ref ref") => `(tactic| (k_here; (with_reducible show wpAny _ _ (subscriptTail _ (PySem.Expr.Slice _ _ none _) (Value.ref _) (Value.ref _)) _ _ _); k_dflt (first | (refine' lstB_from ?F ?N ?l ?a ?b ?z ?_ ?s ?t; (case F => k_asm); (case N => k_asm); (case l => assumption); (case a => omega); (case b => omega); (case z => omega); (case s => with_unfolding_all rfl); (case t => kmk_pure)) | (refine' lstB_upto ?F ?N ?l ?a ?b ?z ?_ ?s ?t; (case F => k_asm); (case N => k_asm); (case l => assumption); (case a => omega); (case b => omega); (case z => omega); (case s => with_unfolding_all rfl); (case t => kmk_pure))); intro D' h' F' N' l1; (try k_lt l1); (try k_sweep)))
local macro_rules | `(tactic| walk_at "binaryOp Add ref ref") => `(tactic| (k_here; k_dflt (refine' lst_add ?F ?N ?a ?b ?z ?_; (case F => k_asm); (case N => k_asm); (case a => k_mem); (case b => k_mem); (case z => ((try simp only [List.length_drop, List.length_take]); omega))); intro D' h' F' N' l1; (try k_lt l1); (try k_sweep)))

local macro_rules | `(tactic| walk_at "subscriptTail") => `(tactic| (k_here; (with_reducible show wpAny _ _ (subscriptTail _ _ (Value.ref _) (Value.int _ _)) _ _ _); k_dflt (refine' lst_get ?N ?m ?a ?b ?z ?_; (case N => k_asm); (case m => k_mem); (case a => omega); (case b => omega); (case z => omega))))

section
variable {prog : Program} {w : World} {p : Program} {loose : List Str} {mean : ExcName → Option Value} {mg mb : Str → Option Value}

set_option maxHeartbeats 4000000 in
theorem turned_ct {vs : List Value} (hv1 : 1 ≤ vs.length) (hv2 : vs.length ≤ 100) {l : Addr} {n : Nat} {x : Int} {t : Tok} (hx : 0 ≤ x)
    {dp un : Nat} {fr : Option (List Env)} {gd : Option (List Code)} {E : Value → Shared → Prop} {s : Shared} {h₀ : Heap} {L : Addr} {m : Str → Option Value} {news : Ledger} {Q : Value → Shared → Prop}
    (F : Fr h₀ L s.heap m) (X : (hd.heap_39 w.params).In h₀) (T : Top p loose mean mg mb h₀) (N : News h₀ L s.heap news) (hl : (l, listOf vs.toArray n) ∈ news) (hroom : dp + 10 < recursionLimit)
    (ret : ∀ h' tk q (ws : List Value) c, ws.Perm vs → Fr h₀ L h' m → News h₀ L h' ((q, listOf ws.toArray c) :: news) → (∀ p ∈ news, p.1 ≠ q) → Q (.ref q) { s with heap := h', toks := tk }) :
    wpAny (model prog w) (topA dp un fr gd) (call (.ref 82) [.ref l, .int x t]) Q E s := by
  refine wpAny_call ?_
  with_unfolding_all refine' call_inC (news := []) (rest := news) F N X T (fun _ _ _ h => nomatch h) ?k6 ?k7 ?k8 ?k9 ?kB ?kD ?_ ?c2 ?c3 ?c4
  case k6 => k_is
  case k7 => k_is
  case k8 => dsimp only; omega
  case k9 => exact BindsTo.of_eq rfl
  case kB => exact rfl
  case kD => decide +kernel
  case c2 => exact rfl
  case c3 => exact rfl
  case c4 => exact rfl
  intro g L' h' tk' cells' F' N' Y' X' T' st' sub' l1
  have hnews : ∀ q ∈ news, g.get? q.1 = some q.2 := fun q hq => sub' _ _ (N q hq).1 fun hb => nomatch hb
  have hlist : g.IsList l vs.toArray := ⟨_, hnews _ hl, rfl, _, rfl⟩
  clear F N X T st' sub' l1
  k_cells Y'
  simp only [List.cons_append, List.nil_append, List.append_nil] at N'
  have f1 : 0 ≤ Int.fmod (Int.fdiv x 2) (vs.length : Int) := Int.fmod_nonneg_of_pos _ (by omega)
  have f2 : Int.fmod (Int.fdiv x 2) (vs.length : Int) < (vs.length : Int) := Int.fmod_lt_of_pos _ (by omega)
  walk_at "HK"
  · k_dflt (refine LCg.ListComp_U (F₀ := by k_asm) (by with_unfolding_all rfl) (by decide) (by rfl) (by decide) (by rfl) ?_)
    walk_at "HK"
    rename IsRange _ _ _ _ _ _ _ _ => R9
    rename Fr _ _ _ _ => F9
    rename News _ _ _ _ => N9
    generalize hws : vs.drop (Int.fmod (Int.fdiv x 2) (vs.length : Int)).toNat ++ vs.take (Int.fmod (Int.fdiv x 2) (vs.length : Int)).toNat = ws at N9
    have hp : ws.Perm vs := by rw [← hws]; exact List.perm_append_comm.trans (by rw [List.take_append_drop])
    have hlen : ws.length = vs.length := hp.length_eq
    refine comp_range rfl F9 N9 R9 (by omega) fun g' => ?_
    refine comp_inv (fun i ys nw => nw = _ ∧ ys = (ws.reverse.take i)) (fun _ _ _ _ => trivial) ?_ ?_ _ 0 [] _ (Nat.zero_add _) ⟨rfl, rfl⟩
    · rintro i ys nw v I oI C oC D m₂ h tk E' hi ⟨ti, rfl⟩ ⟨rfl, rfl⟩ hC hx F' N' off ne
      have h0 : 0 ≤ (vs.length : Int) - 1 - (0 + (i : Int)) := by omega
      have h1 : (vs.length : Int) - 1 - (0 + (i : Int)) < ws.length := by omega
      clear F9 N9 R9 ret
      walk_at "HK"
      refine comp_end F' N' off ⟨rfl, ?_⟩
      rw [List.take_add_one, List.getElem?_reverse (by omega)]
      have e : ((vs.length : Int) - 1 - (0 + (i : Int))).toNat = ws.length - 1 - i := by omega
      have h3 : ws.length - 1 - i < ws.length := by omega
      rw [e, List.getD_eq_getElem?_getD, List.getElem?_eq_getElem h3]
      rfl
    · rintro ys nw ⟨rfl, rfl⟩
      intro D h tk F8 N8 _
      rw [List.take_of_length_le (by rw [List.length_reverse]; omega)] at N8
      refine Back.intro (news' := [_]) F8 (fun p hp => N8 p (by rw [List.mem_singleton.mp hp]; exact List.mem_cons_self)) fun F N => ret _ _ _ _ _ ?_ F N fun p hp e => ?_
      · exact (List.reverse_perm _).trans hp
      · have h1 := hnews p hp
        have h2 := (N8 _ List.mem_cons_self).2.2
        rw [e, h2] at h1; cases h1
  · dsimp only
    rename Fr _ _ _ _ => F9
    rename News _ _ _ _ => N9
    refine Back.intro (news' := [_]) F9 (fun p hp => N9 p (by rw [List.mem_singleton.mp hp]; exact List.mem_cons_self)) fun F N => ret _ _ _ _ _ ?_ F N fun p hp e => ?_
    · exact List.perm_append_comm.trans (by rw [List.take_append_drop])
    · have h1 := hnews p hp
      have h2 := (N9 _ List.mem_cons_self).2.2
      rw [e, h2] at h1; cases h1
end
end

/-! part HkJ -/
section
open PySem PySem.W PyProof.Rows PySem.Calls
/-- the law's own body, and the body of its loop -/
def lawCode : List Stmt × Scope := match PySem.Challenge.pw_bd0017_01.main.body with
  | [_, _, _, _, _, .FunctionDef _ _ b _ _ _ sc _ _ _] => (b, sc)
  | _ => ([], default)
def turnCode : List Stmt := match lawCode.1 with
  | [_, _, _, .For _ _ b _ _, _] => b
  | _ => []
end

/-! part HkP -/
section
open PySem PySem.W PyProof.Rows PySem.Calls
theorem entry_pairs : entryFor table "dict.update.loop" = some Builtin.«dict.update.loop» := entryFor_of_tree (by kernel_rfl)
theorem plain_pairs : plainId "dict.update.loop" = true := by decide +kernel
theorem list_no_keys : typeLookup (.type "list") "keys" = pure none := am_miss_of_fast (by decide +kernel)

/-- a list has no «keys» -/
theorem getAttr?_list {prog : Program} {w : World} {A : Around} {E : Value → Shared → Prop} {s : Shared} {a : Addr} {xs : Array Value} {k : Nat} {Q : Option Value → Shared → Prop}
    (hx : s.heap.get? a = some (PySem.W.listOf xs k)) (hA : A.handled = none)
    (h : ∀ h' tk, (∀ b o, s.heap.get? b = some o → h'.get? b = some o) → Q none { s with heap := h', toks := tk }) :
    wpAny (model prog w) A (getAttr? (.ref a) "keys") Q E s := by
  obtain ⟨hp, g, d, tk, os⟩ := s
  have hT : ∀ tk', (⟨hp, g, d, tk', os⟩ : Shared).TypeIs (.ref a) "list" := fun _ => ⟨_, hx, rfl⟩
  have f1 := sub_AttributeError
  have f3 := F.slot_list_getattribute.lookup
  have f4 := F.slot_list_getattribute.bind (.ref a)
  have f5 := am_list_getattr_none
  unfold getAttr? getAttrBy? getAttrBy
  repeat (any_goals (first | assumption | exact hT _ | ((with_reducible show wpAny _ _ (call (Value.builtin "list.__getattribute__") _ _) _ _ _); refine call_meets F.slot_list_getattribute (hT _) am_entry_list_getattribute (F.args_list_getattribute_2 _ _) (meets_getattribute_miss_list a xs k #[] "keys" _ list_no_keys (by decide +kernel)) ⟨hx, hA, fun h' tk' e hx' => ?_⟩) | wp_step))
  obtain ⟨t', u', he⟩ := hx'.there
  show wpAny _ _ (getattributeRaised _ _ _ _ _ _ _) _ _ _
  have hE : ∀ tk', (⟨h', g, d, tk', os⟩ : Shared).TypeIs (.ref e) "AttributeError" := fun _ => ⟨_, he, rfl⟩
  unfold getattributeRaised
  repeat (any_goals (first | assumption | exact hE _ | wp_step))
  exact h h' _ hx'.keeps

section
variable {prog : Program} {w : World} {K : Type} [DecidableEq K] {knd : KeyKind prog w K} {A : Around} {E : Value → Shared → Prop}

/-- one item of the source: a pair -/
def PairAt (knd : KeyKind prog w K) (h : Heap) (v : Value) (q : K × Value) : Prop := ∃ T key, v = .ref T ∧ h.IsTuple T #[key, q.2] ∧ knd.is q.1 key = true

theorem stored_new {kvs : List (K × Value)} {k : K} {x : Value} (h : k ∉ kvs.map (·.1)) : stored kvs k x = kvs ++ [(k, x)] := by
  unfold stored
  rw [if_neg]
  rw [List.any_eq_true]
  rintro ⟨q, hq, e⟩
  exact h (List.mem_map.mpr ⟨q, hq, of_decide_eq_true e⟩)

theorem pairs_loop {R : Result → Shared → Prop} {s₀ : Shared} {hB : Heap} {I l d : Addr} {ts : List Value} {pr : List (K × Value)} (hh : A.handled = none) (hIl : l ≠ I) (hdI : d ≠ I) (hdl : d ≠ l) (hBd : hB.get? d = none)
    (hlen : ts.length = pr.length) (hp : ∀ i (h1 : i < ts.length) (h2 : i < pr.length), PairAt knd hB ts[i] pr[i]) (hn : (pr.map (·.1)).Nodup) (hsz : pr.length ≤ 1000) (hBI : hB.get? I = none)
    (hR : ∀ h tk, (∀ b o, hB.get? b = some o → h.get? b = some o) → h.DictOf knd d pr → R (.ok (.ret .none)) { s₀ with heap := h, toks := tk }) :
    ∀ j i h tk (z : Int) (t : Tok), ts.length - i = j → i ≤ ts.length → (∀ b o, hB.get? b = some o → h.get? b = some o) → h.IsListIter I l i → h.IsList l ts.toArray → h.DictOf knd d (pr.take i) →
      codeAny (model prog w) A (.builtin "dict.update.loop" ⟨[.ref d, .ref I, .int z t, .none], []⟩) R { s₀ with heap := h, toks := tk } := by
  intro j
  have W := Walks.list (prog := prog) (w := w) (A := A.in1) hh I l hIl ts.toArray
  induction j with
  | zero =>
    intro i h tk z t hj hi hk hit hl hd
    have hin : i = ts.length := by omega
    subst hin
    refine codeAny_builtin entry_pairs ?_
    rw [Around.under_plainId plain_pairs _]
    show wpAny _ A.in1 (pyNext (.ref I) >>= _) _ _ _
    refine wpAny_bind (W.done _ _ _ (by rw [List.size_toArray]; exact ⟨hit, hl⟩) fun h' tk' hk' => ?_)
    show wpAny _ A.in1 (Builtin.Dict.addKeywords d [] >>= _) _ _ _
    refine wpAny_bind (wpAny_pure (wpAny_pure ?_))
    rw [hlen, List.take_length] at hd
    refine hR h' tk' (fun b o e => hk' b o (fun hb => ?_) (hk b o e)) ?_
    · rw [List.mem_singleton.mp hb, hBI] at e; cases e
    · obtain ⟨o, es, ep, ho, r⟩ := hd
      exact ⟨o, es, ep, hk' _ _ (by simpa using hdI) ho, r⟩
  | succ j ih =>
    intro i h tk z t hj hi hk hit hl hd
    have hlt : i < ts.length := by omega
    refine codeAny_builtin entry_pairs ?_
    rw [Around.under_plainId plain_pairs _]
    show wpAny _ A.in1 (pyNext (.ref I) >>= _) _ _ _
    refine wpAny_bind (W.item i _ _ _ (by rw [List.size_toArray]; exact hlt) ⟨hit, hl⟩ fun v h' tk' hP hst' hk' => ?_)
    have hv : v = ts[i] := by
      simp only [List.getElem?_toArray, List.getElem?_eq_getElem hlt] at hP
      exact (Option.some.inj hP).symm
    subst hv
    have hlt2 : i < pr.length := hlen ▸ hlt
    obtain ⟨T, key, e, hT, hkey⟩ := hp i hlt hlt2
    rw [e]
    have keep : ∀ b o, hB.get? b = some o → h'.get? b = some o := fun b o e => hk' b o (fun hb => by rw [List.mem_singleton.mp hb, hBI] at e; cases e) (hk b o e)
    obtain ⟨oT, hoT, hcT, nT, hdT⟩ := hT
    have hoT' := keep _ _ hoT
    have ty : ({ s₀ with heap := h', toks := tk' } : Shared).TypeIs (.ref T) "tuple" := ⟨_, hoT', hcT⟩
    have hd' : h'.DictOf knd d (pr.take i) := by
      obtain ⟨o, es, ep, ho, r⟩ := hd
      exact ⟨o, es, ep, hk' _ _ (by simpa using hdI) ho, r⟩
    show wpAny _ A.in1 (holding [Value.ref T] _ >>= _) _ _ _
    refine wpAny_bind (wpAny_holding ?_)
    refine wpAny_bind (wpAny_tryCatch ?_)
    unfold Builtin.Dict.pairItems
    refine wpAny_bind (wpAny_typeOf ty ?_)
    rw [if_pos (by decide)]
    refine wpAny_bind (wpAny_seqItems hoT' hdT ?_)
    refine wpAny_pure ?_
    show wpAny _ A.in1 (holding [key, pr[i].2] (dictSet d key pr[i].2)) _ _ _
    refine wpAny_holding (wpAny_dictSet_pairs hkey hd' (fun h'' hd'' hs'' => ?_) (by rw [List.length_take, sizeLine_eq]; omega))
    have hnot : pr[i].1 ∉ (pr.take i).map (·.1) := by
      intro hm
      rw [List.map_take] at hm
      obtain ⟨k, hk1, hk2⟩ := List.getElem_of_mem hm
      rw [List.getElem_take] at hk2
      have hki : k < i := by rw [List.length_take] at hk1; omega
      have := (List.getElem_inj (h₀ := by rw [List.length_map]; omega) (h₁ := by rw [List.length_map]; exact hlt2) hn).mp (hk2.trans (List.getElem_map ..).symm)
      omega
    rw [stored_new hnot] at hd''
    have etk : pr.take i ++ [(pr[i].1, pr[i].2)] = pr.take (i + 1) := by
      rw [List.take_add_one, List.getElem?_eq_getElem hlt2]; rfl
    rw [etk] at hd''
    refine wpAny_pure ⟨plainId_quiet plain_pairs _, ih (i + 1) h'' _ (z + 1) _ (by omega) hlt (fun b o e => ?_) ?_ ?_ hd''⟩
    · exact hs''.extBut b o (fun hb => by have hb' : b = d := hb; rw [hb', hBd] at e; cases e) (keep b o e)
    · exact hst'.1.at fun o e => hs''.extBut I o (Ne.symm hdI) e
    · exact hst'.2.at fun o e => hs''.extBut l o (Ne.symm hdl) e

theorem dict_of_pairs {s : Shared} {h₀ : Heap} {L l : Addr} {m : Str → Option Value} {news : Ledger} {ts : List Value} {n : Nat} {pr : List (K × Value)} {Q : Value → Shared → Prop} (hh : A.handled = none)
    (F : Fr h₀ L s.heap m) (N : News h₀ L s.heap news) (hbig : sysModules < h₀.objs.size) (hl : (l, PySem.W.listOf ts.toArray n) ∈ news)
    (hlen : ts.length = pr.length) (hp : ∀ i (h1 : i < ts.length) (h2 : i < pr.length), PairAt knd s.heap ts[i] pr[i]) (hn : (pr.map (·.1)).Nodup) (hsz : pr.length ≤ 1000)
    (k : ∀ D h' tk o, Fr h₀ L h' m → News h₀ L h' ((D, o) :: news) → (∀ p ∈ news, p.1 < D) → (D == sysModules) = false → o.IsDictOf knd pr → Q (.ref D) { s with heap := h', toks := tk }) :
    wpAny (model prog w) A (call (.type "dict") [.ref l]) Q E s := by
  have hol : s.heap.get? l = some (PySem.W.listOf ts.toArray n) := N.get hl
  have hlt := Heap.lt_size hol
  refine callType_codes (Q₁ := fun obj s₁ => obj = .ref s.heap.objs.size ∧ s₁ = { s with heap := s.heap.push { cls := .type "dict", data := .dict #[] } }) PySem.F.kt_called_dict (PySem.F.kt_typeCall_dict_1 _) PySem.F.entry_dict_init (kt_code_dict_new _ ⟨rfl, rfl⟩) ?_
  rintro obj s₁ ⟨rfl, rfl⟩
  have hnew : (s.heap.push { cls := .type "dict", data := .dict #[] }).DictOf knd s.heap.objs.size [] := Heap.DictOf.new s.heap
  have hol' : (s.heap.push { cls := .type "dict", data := .dict #[] }).get? l = some (PySem.W.listOf ts.toArray n) := Heap.get?_push_of_some _ hol
  refine ⟨hnew.typeIs, PySem.F.args_dict_init_2 _ _, ?_⟩
  unfold Builtin.«dict.__init__»
  refine wpAny_bind ?_
  unfold Builtin.Dict.selfAndRest
  refine wpAny_bind (wpAny_notOrdered_dict hnew.typeIs ?_)
  show wpAny _ _ (pure (s.heap.objs.size, [Value.ref l])) _ _ _
  refine wpAny_pure ?_
  show wpAny _ _ (Builtin.Dict.updateFrom "dict.__init__" s.heap.objs.size (.ref l) [] .none) _ _ _
  unfold Builtin.Dict.updateFrom
  refine wpAny_bind (wpAny_typeOf (T := "list") ⟨_, hol', rfl⟩ ?_)
  rw [if_pos (by decide)]
  refine wpAny_bind (getAttr?_list hol' hh fun h1 tk1 keep1 => ?_)
  dsimp only at keep1 ⊢
  rw [if_pos (by rfl)]
  refine wpAny_bind (wpAny_rule ?_)
  have hk0 : ∀ b o, s.heap.get? b = some o → h1.get? b = some o := fun b o e => keep1 b o (Heap.get?_push_of_some _ e)
  have hl1 : h1.IsList l ts.toArray := ⟨_, hk0 _ _ hol, rfl, n, rfl⟩
  have hd1 : h1.DictOf knd s.heap.objs.size [] := by
    obtain ⟨o, es, ep, ho, r⟩ := hnew
    exact ⟨o, es, ep, keep1 _ _ ho, r⟩
  have hlt1 : l < h1.objs.size := Heap.lt_size (hk0 _ _ hol)
  have hDlt1 : s.heap.objs.size < h1.objs.size := by
    obtain ⟨o, es, ep, ho, r⟩ := hd1
    exact Heap.lt_size ho
  have none_of : ∀ a, s.heap.objs.size ≤ a → s.heap.get? a = none := fun a ha => Heap.get?_none_of_le ha
  refine wpAny_bind (wpAny_pyIter_list hl1 ?_)
  refine wpAny_pure ⟨plainId_quiet plain_pairs _, ?_⟩
  refine pairs_loop (knd := knd) (hB := s.heap) (I := h1.objs.size) (l := l) (s₀ := s) (ts := ts) (pr := pr) (A := A.in1) hh (Nat.ne_of_lt hlt1) (Nat.ne_of_lt hDlt1) (Nat.ne_of_gt hlt) (none_of _ (Nat.le_refl _)) hlen hp hn hsz (none_of _ (Nat.le_of_lt hDlt1)) ?_ ts.length 0 _ _ 0 _ (by omega) (Nat.zero_le _)
    (fun b o e => Heap.get?_push_of_some _ (hk0 b o e)) ⟨_, Heap.get?_push_size _ rfl, rfl, rfl⟩ (hl1.push _) (by rw [List.take_zero]; exact hd1.push _)
  intro h tk keep hd
  obtain ⟨o, ho, hd'⟩ := Heap.dictOf_iff.mp hd
  refine ⟨rfl, k s.heap.objs.size h tk o (F.keeps keep) (fun p hp => ?_) (fun p hp => Heap.lt_size (N p hp).1) (F.notModules hbig) hd'⟩
  rcases List.mem_cons.mp hp with rfl | hp
  · refine ⟨ho, Ne.symm (Nat.ne_of_lt F.ns.lt), ?_⟩
    cases e : h₀.get? s.heap.objs.size with
    | none => rfl
    | some o' => exact absurd (Heap.lt_size (F.keep _ _ e)) (Nat.lt_irrefl _)
  · exact ⟨keep _ _ (N p hp).1, (N p hp).2⟩
end
end

/-! part HkQ -/
section
open PySem PySem.W PyProof.Rows PySem.Calls
def nums (n : Nat) : List Int := (List.range n).map fun i : Nat => Int.ofNat i
theorem nums_eq (n : Nat) : rangeInts 0 1 n = nums n := by
  unfold rangeInts nums
  exact List.map_congr_left fun i _ => by show (0 : Int) + ((i : Nat) : Int) * 1 = (i : Int); omega

section
variable {prog : Program} {w : World} {A : Around} {E : Value → Shared → Prop} {s : Shared} {h₀ : Heap} {L l : Addr} {m : Str → Option Value} {news : Ledger} {vs : List Value} {n : Nat} {Q : Value → Shared → Prop}

theorem plain_news {h' : Heap} {D : Addr} {ys : List Value} (F : Fr h₀ L h' m) (N : News h₀ L h' news) (n0 : h₀.get? D = none) (x : NewPlain h' news D ys.toArray) :
    ∃ c, News h₀ L h' ((D, listOf ys.toArray c) :: news) := by
  have hne := x.ne_locals F
  obtain ⟨⟨c, e⟩, _⟩ := x
  refine ⟨c, fun p hp => ?_⟩
  rcases List.mem_cons.mp hp with rfl | hp
  · exact ⟨e, hne, n0⟩
  · exact N p hp

theorem lst_of_str {x : Str} {t : Tok} (hh : A.handled = none) (F : Fr h₀ L s.heap m) (N : News h₀ L s.heap news) (hsz : x.length ≤ 1000)
    (h : ∀ D h' tk ys c, StrsAre ys (PyProof.Rows.signs x) → Fr h₀ L h' m → News h₀ L h' ((D, listOf ys.toArray c) :: news) → (∀ p ∈ news, p.1 < D) → Q (.ref D) { s with heap := h', toks := tk }) :
    wpAny (model prog w) A (call (.type "list") [.str x t]) Q E s := by
  refine list_strD hh F N (fun h' tk ys F' N' _ n0 _ x hc => ?_) (by rw [sizeLine_eq]; omega)
  obtain ⟨c, N''⟩ := plain_news F' N' n0 x
  refine h _ h' tk ys c ?_ F' N'' fun p hp => Heap.lt_size (N p hp).1
  have := CarriedAll.strsOf (f := fun a : Str => a) hc
  rwa [List.map_id'] at this

theorem lst_of_range {r : Addr} {t u v : Tok} (hh : A.handled = none) (F : Fr h₀ L s.heap m) (N : News h₀ L s.heap news) (R : IsRange s.heap r 0 (n : Int) 1 t u v) (hsz : n ≤ 1000)
    (h : ∀ D h' tk ys c, IntsAre ys (nums n) → Fr h₀ L h' m → News h₀ L h' ((D, listOf ys.toArray c) :: news) → (∀ p ∈ news, p.1 < D) → Q (.ref D) { s with heap := h', toks := tk }) :
    wpAny (model prog w) A (call (.type "list") [.ref r]) Q E s := by
  refine list_rangeD hh F N R (small_one (by omega) (by omega) (by omega) (by omega)) (n := n) (by rw [rangeSize_nat]; simp) (by omega) fun h' tk ys F' N' _ n0 _ x hc => ?_
  obtain ⟨c, N''⟩ := plain_news F' N' n0 x
  refine h _ h' tk ys c ?_ F' N'' fun p hp => Heap.lt_size (N p hp).1
  have := CarriedAll.intsOf (f := fun a : Int => a) hc
  rwa [List.map_id', nums_eq] at this

theorem lst_copy (F : Fr h₀ L s.heap m) (N : News h₀ L s.heap news) (hl : (l, listOf vs.toArray n) ∈ news) (hsz : vs.length ≤ 1000)
    (h : ∀ D h' c, Fr h₀ L h' m → News h₀ L h' ((D, listOf vs.toArray c) :: news) → (∀ p ∈ news, p.1 < D) → Q (.ref D) { s with heap := h' }) :
    wpAny (model prog w) A (call (.type "list") [.ref l]) Q E s := by
  refine list_copyLP F N ⟨_, N.get hl, rfl, _, rfl⟩ (fun h' F' hk n0 _ x => ?_) (by rw [sizeLine_eq, List.size_toArray]; omega)
  have N' : News h₀ L h' news := fun p hp => ⟨hk _ _ (N p hp).1, (N p hp).2⟩
  obtain ⟨c, N''⟩ := plain_news F' N' n0 x
  exact h _ h' c F' N'' fun p hp => Heap.lt_size (N p hp).1

theorem srt_strs {ss : List Str} (F : Fr h₀ L s.heap m) (N : News h₀ L s.heap news) (hl : (l, listOf vs.toArray n) ∈ news) (hS : StrsAre vs ss) (hsz : vs.length < 64)
    (h : ∀ D h' ys ss' c, StrsAre ys ss' → ss'.Perm ss → sortedS ss' = true → Fr h₀ L h' m → News h₀ L h' ((D, listOf ys.toArray c) :: news) → (∀ p ∈ news, p.1 < D) → Q (.ref D) { s with heap := h' }) :
    wpAny (model prog w) A (call (.builtin "sorted") [.ref l]) Q E s :=
  sorted_N_str F N ⟨_, N.get hl, rfl, _, rfl⟩ hS hsz fun h' ys ss' c F' N' a1 a2 a3 => h _ h' ys ss' c a1 a2 a3 F' N' fun p hp => Nat.lt_succ_of_lt (Heap.lt_size (N p hp).1)

theorem ints_by : ∀ {vs : List Value} {ks : List Int}, vs.length = ks.length → (∀ (j : Nat) (v : Value), vs[j]? = some v → ∃ (k : Int) (t : Tok), ks[j]? = some k ∧ v = Value.int k t) → IntsAre vs ks
  | [], [], _, _ => .nil
  | [], _ :: _, h, _ => by simp at h
  | _ :: _, [], h, _ => by simp at h
  | v :: vs, k :: ks, h, f => by
    obtain ⟨k', t, e, rfl⟩ := f 0 v rfl
    cases e
    exact .cons _ _ (ints_by (by simpa using h) fun j u hu => f (j + 1) u hu)

theorem nums_perm_sorted {ns : List Int} (hp : ns.Perm (nums n)) (hs : ns.Pairwise (· ≤ ·)) : ns = nums n := by
  refine ksm_same hp hs ?_
  unfold nums
  rw [List.pairwise_map]
  exact List.pairwise_lt_range.imp fun h => by show ((_ : Nat) : Int) ≤ ((_ : Nat) : Int); omega

theorem nums_of : ∀ {vs : List Value} {ks : List Int}, IntsAre vs ks → lks_nums vs = ks
  | _, _, .nil => rfl
  | _, _, .cons a _ r => by show a :: lks_nums _ = _; rw [nums_of r]
theorem intsOk : ∀ {vs : List Value} {ks : List Int}, IntsAre vs ks → kf_ints vs = true
  | _, _, .nil => rfl
  | _, _, .cons _ _ r => by have := intsOk r; exact this
theorem vals_ints : ∀ (q : List Int) (i : Nat) (t : Nat → Tok), IntsAre (lks_vals q i t) q
  | [], _, _ => .nil
  | _ :: q, i, t => .cons _ _ (vals_ints q (i + 1) t)
theorem asc_of : ∀ {l : List Int}, l.Pairwise (· ≤ ·) → lks_asc l = true
  | [], _ => rfl
  | a :: r, h => by
    have h := List.pairwise_cons.mp h
    show (r.all (fun b => decide (a ≤ b)) && lks_asc r) = true
    rw [Bool.and_eq_true, List.all_eq_true]
    exact ⟨fun x hx => decide_eq_true (h.1 x hx), asc_of h.2⟩
theorem asc_nums (n : Nat) : lks_asc (nums n) = true := by
  refine asc_of ?_
  unfold nums
  rw [List.pairwise_map]
  exact List.pairwise_lt_range.imp fun h => by show ((_ : Nat) : Int) ≤ ((_ : Nat) : Int); omega

theorem srt_dict {d : Addr} {o : Obj} {kvs : List (Int × Value)} (hh : A.handled = none) (F : Fr h₀ L s.heap m) (N : News h₀ L s.heap news) (hm : (d, o) ∈ news) (lo : (d == sysModules) = false) (hd : o.IsDictOf (intKind prog w) kvs)
    (hp : (kvs.map (·.1)).Perm (nums n)) (hn : n < 64) (hn0 : 1 ≤ n)
    (h : ∀ D h' tk ys c, IntsAre ys (nums n) → Fr h₀ L h' m → News h₀ L h' ((D, listOf ys.toArray c) :: news) → (∀ p ∈ news, p.1 < D) → Q (.ref D) { s with heap := h', toks := tk }) :
    wpAny (model prog w) A (call (.builtin "sorted") [.ref d]) Q E s := by
  have hD : s.heap.DictOf (intKind prog w) d kvs := Heap.dictOf_iff.mpr ⟨o, N.get hm, hd⟩
  obtain ⟨ep, hat⟩ := hD.dictAt
  have hlen : kvs.length = n := by
    have := hp.length_eq
    simpa [nums] using this
  refine kdu_sorted (kdl_dict (knd := intKind prog w) (kvs := kvs) (ep := ep) lo) hh F N hat (by rw [sizeLine_eq]; omega) fun B h' tk ys F' N' l1 hl hv => ?_
  have hi : IntsAre ys (kvs.map (·.1)) := by
    refine ints_by (by rw [hl, List.length_map]) fun j v hj => ?_
    obtain ⟨k, x, hx, hk⟩ := hv j v hj
    obtain ⟨t, rfl⟩ := Value.isInt_shape (show Value.isInt k v = true from hk)
    exact ⟨k, t, by rw [List.getElem?_map, hx]; rfl, rfl⟩
  have e1 : lks_nums ys = kvs.map (·.1) := nums_of hi
  have h0 : n ≠ 0 := by omega
  refine lks_sort (A := A.in1) (its := ys.toArray) (q := nums n) (n := 0) (news' := fun t => (B, listOf (lks_vals (nums n) 0 t).toArray (0 + 2)) :: news) F' N' (fun t => .head fun p hp => Nat.ne_of_lt (l1 p hp)) (intsOk hi) ?_ ?_ ?_ fun t h'' F'' N'' => ?_
  · unfold lks_ok
    rw [Bool.and_eq_true]
    refine ⟨List.isPerm_iff.mpr ?_, asc_nums n⟩
    show (lks_nums ys).Perm _
    rw [e1]; exact hp
  · show ys.isEmpty = false
    cases ys with
    | nil => rw [hlen] at hl; exact absurd hl.symm h0
    | cons => rfl
  · show ys.length < 64
    omega
  · exact h B h'' tk _ _ (vals_ints _ _ _) F'' N'' l1

def letters : List Str := [Str.ofString "a", Str.ofString "b", Str.ofString "c", Str.ofString "d", Str.ofString "e"]
def abc (n : Nat) : List Str := letters.take n
theorem cases5 {P : Nat → Prop} {n : Nat} (h2 : 2 ≤ n) (h5 : n ≤ 5) (p2 : P 2) (p3 : P 3) (p4 : P 4) (p5 : P 5) : P n := by
  have : n = 2 ∨ n = 3 ∨ n = 4 ∨ n = 5 := by omega
  rcases this with rfl | rfl | rfl | rfl <;> assumption
theorem signs_abc (h2 : 2 ≤ n) (h5 : n ≤ 5) : PyProof.Rows.signs (Txt.slice (Str.ofString "abcde") none (some (n : Int))) = abc n :=
  cases5 (P := fun n => PyProof.Rows.signs (Txt.slice (Str.ofString "abcde") none (some (n : Int))) = abc n) h2 h5 (by decide +kernel) (by decide +kernel) (by decide +kernel) (by decide +kernel)
theorem abc_shaped (h2 : 2 ≤ n) (h5 : n ≤ 5) : SeqAt.shaped (.list ((abc n).map PyData.str)) = true :=
  cases5 (P := fun n => SeqAt.shaped (.list ((abc n).map PyData.str)) = true) h2 h5 (by decide +kernel) (by decide +kernel) (by decide +kernel) (by decide +kernel)
theorem abc_eqv (h2 : 2 ≤ n) (h5 : n ≤ 5) : PyData.eqv (.list ((abc n).map PyData.str)) (.list ((abc n).map PyData.str)) = true :=
  cases5 (P := fun n => PyData.eqv (.list ((abc n).map PyData.str)) (.list ((abc n).map PyData.str)) = true) h2 h5 (by decide +kernel) (by decide +kernel) (by decide +kernel) (by decide +kernel)
theorem abc_len (h5 : n ≤ 5) : (abc n).length = n := by unfold abc; rw [List.length_take]; show min n 5 = n; omega
theorem abc_nodup : (abc n).Nodup := (List.take_sublist n letters).nodup (by decide +kernel)

/-- a letter's place -/
def place (x : Str) : Nat := letters.idxOf x
theorem place_inj : ∀ x ∈ letters, ∀ y ∈ letters, place x = place y → x = y := by decide +kernel
theorem place_le : ∀ x ∈ letters, ∀ y ∈ letters, PySem.Spec.ltCps y.cps.toList x.cps.toList = false → place x ≤ place y := by decide +kernel
theorem rising_places : ∀ (l : List Str) (p : Str), p ∈ letters → (∀ x ∈ l, x ∈ letters) → risingS p l = true → (∀ x ∈ l, place p ≤ place x) ∧ (l.map place).Pairwise (· ≤ ·)
  | [], _, _, _, _ => ⟨fun _ h => (nomatch h), .nil⟩
  | x :: r, p, hp, hl, h => by
    have h : (!PySem.Spec.ltCps x.cps.toList p.cps.toList && risingS x r) = true := h
    rw [Bool.and_eq_true, Bool.not_eq_true'] at h
    have hx := hl x List.mem_cons_self
    have h1 := place_le p hp x hx h.1
    have ih := rising_places r x hx (fun y hy => hl y (List.mem_cons_of_mem _ hy)) h.2
    refine ⟨fun y hy => ?_, ?_⟩
    · rcases List.mem_cons.mp hy with rfl | hy
      · exact h1
      · exact Nat.le_trans h1 (ih.1 y hy)
    · rw [List.map_cons, List.pairwise_cons]
      exact ⟨fun z hz => by obtain ⟨y, hy, rfl⟩ := List.mem_map.mp hz; exact ih.1 y hy, ih.2⟩
theorem sorted_places : ∀ (l : List Str), (∀ x ∈ l, x ∈ letters) → sortedS l = true → (l.map place).Pairwise (· ≤ ·)
  | [], _, _ => .nil
  | x :: r, hl, h => by
    have := rising_places r x (hl x List.mem_cons_self) (fun y hy => hl y (List.mem_cons_of_mem _ hy)) h
    rw [List.map_cons, List.pairwise_cons]
    exact ⟨fun z hz => by obtain ⟨y, hy, rfl⟩ := List.mem_map.mp hz; exact this.1 y hy, this.2⟩
theorem map_inj_on {α β : Type} {f : α → β} {S : α → Prop} (inj : ∀ x, S x → ∀ y, S y → f x = f y → x = y) : ∀ {a b : List α}, (∀ x ∈ a, S x) → (∀ x ∈ b, S x) → a.map f = b.map f → a = b
  | [], [], _, _, _ => rfl
  | [], _ :: _, _, _, h => by simp at h
  | _ :: _, [], _, _, h => by simp at h
  | x :: a, y :: b, ha, hb, h => by
    rw [List.map_cons, List.map_cons] at h
    injection h with h1 h2
    rw [inj x (ha x List.mem_cons_self) y (hb y List.mem_cons_self) h1, map_inj_on inj (fun x hx => ha x (List.mem_cons_of_mem _ hx)) (fun x hx => hb x (List.mem_cons_of_mem _ hx)) h2]
theorem nat_sorted {a b : List Nat} (hp : a.Perm b) (ha : a.Pairwise (· ≤ ·)) (hb : b.Pairwise (· ≤ ·)) : a = b := by
  have := ksm_same (a := a.map Int.ofNat) (b := b.map Int.ofNat) (hp.map _) (List.pairwise_map.mpr (ha.imp fun h => Int.ofNat_le.mpr h)) (List.pairwise_map.mpr (hb.imp fun h => Int.ofNat_le.mpr h))
  exact map_inj_on (S := fun _ => True) (fun x _ y _ h => Int.ofNat.inj h) (fun _ _ => trivial) (fun _ _ => trivial) this
theorem abc_sub {x : Str} (h : x ∈ abc n) : x ∈ letters := List.mem_of_mem_take h
theorem abc_places : ((abc n).map place).Pairwise (· ≤ ·) := by
  unfold abc
  rw [List.map_take]
  exact (show (letters.map place).Pairwise (· ≤ ·) by decide +kernel).sublist (List.take_sublist _ _)
theorem abc_sorted {ss : List Str} (hp : ss.Perm (abc n)) (hs : sortedS ss = true) : ss = abc n := by
  have hl : ∀ x ∈ ss, x ∈ letters := fun x hx => abc_sub (hp.mem_iff.mp hx)
  exact map_inj_on (S := fun x => x ∈ letters) (fun x hx y hy h => place_inj x hx y hy h) hl (fun x hx => abc_sub hx) (nat_sorted (hp.map _) (sorted_places ss hl hs) abc_places)

theorem srt_abc (F : Fr h₀ L s.heap m) (N : News h₀ L s.heap news) {j : Nat} {ss : List Str} (hl : (l, listOf vs.toArray j) ∈ news) (hS : StrsAre vs ss) (hp : ss.Perm (abc n)) (h5 : n ≤ 5)
    (h : ∀ D h' ys c, StrsAre ys (abc n) → Fr h₀ L h' m → News h₀ L h' ((D, listOf ys.toArray c) :: news) → (∀ p ∈ news, p.1 < D) → Q (.ref D) { s with heap := h' }) :
    wpAny (model prog w) A (call (.builtin "sorted") [.ref l]) Q E s := by
  have hlen : vs.length < 64 := by
    have h1 := hS.length
    have h2 := hp.length_eq
    rw [abc_len h5] at h2
    omega
  refine srt_strs F N hl hS hlen fun D h' ys ss' c a1 a2 a3 => ?_
  have : ss' = abc n := abc_sorted (a2.trans hp) a3
  subst this
  exact h D h' ys c a1

section
variable {a b : Addr} {xs ys : List Value} {j k : Nat}
theorem cmp_ne_abc (N : News h₀ L s.heap news) (h1 : (a, listOf xs.toArray j) ∈ news) (h2 : (b, listOf ys.toArray k) ∈ news) (hi : StrsAre xs (abc n)) (hj : StrsAre ys (abc n)) (n2 : 2 ≤ n) (n5 : n ≤ 5) (hu : A.units + 64 < cLine) (h : Q (.bool false) s) :
    wpAny (model prog w) A (compareOp .NotEq (.ref a) (.ref b)) Q E s :=
  ne_dataH (reads_newData ⟨_, N.get h1, rfl, _, rfl⟩ (StrsAre.carried hi)) (reads_newData ⟨_, N.get h2, rfl, _, rfl⟩ (StrsAre.carried hj)) (abc_shaped n2 n5) (abc_shaped n2 n5) hu (by rw [abc_eqv n2 n5]; exact h)
theorem cmp_eq_abc (N : News h₀ L s.heap news) (h1 : (a, listOf xs.toArray j) ∈ news) (h2 : (b, listOf ys.toArray k) ∈ news) (hi : StrsAre xs (abc n)) (hj : StrsAre ys (abc n)) (n2 : 2 ≤ n) (n5 : n ≤ 5) (hu : A.units + 64 < cLine) (h : Q (.bool true) s) :
    wpAny (model prog w) A (compareOp .Eq (.ref a) (.ref b)) Q E s :=
  eq_dataH (reads_newData ⟨_, N.get h1, rfl, _, rfl⟩ (StrsAre.carried hi)) (reads_newData ⟨_, N.get h2, rfl, _, rfl⟩ (StrsAre.carried hj)) (abc_shaped n2 n5) (abc_shaped n2 n5) hu (by rw [abc_eqv n2 n5]; exact h)
end
end
end

/-! part HkR -/
section
open PySem PySem.W PyProof.Rows PySem.Calls
theorem strs_shaped {ss : List Str} (hs : ∀ x ∈ ss, x ∈ letters) : SeqAt.shaped (.list (ss.map PyData.str)) = true := by
  have h1 : PyData.canLayAll0 (ss.map PyData.str) = true := by
    induction ss with
    | nil => simp [PyData.canLayAll0]
    | cons x ss ih =>
      have hx : PyData.strOk x = true := (show ∀ x ∈ letters, PyData.strOk x = true by decide +kernel) x (hs x List.mem_cons_self)
      have := ih fun y hy => hs y (List.mem_cons_of_mem _ hy)
      simp [PyData.canLayAll0, PyData.canLay0, hx, this]
  have h2 := depthAll_strs' ss
  simp only [SeqAt.shaped, PyData.canLay0, h1, PyData.depth, h2, Bool.true_and]
  decide
theorem strs_eqv {ss : List Str} (hs : ∀ x ∈ ss, x ∈ letters) : PyData.eqv (.list (ss.map PyData.str)) (.list (ss.map PyData.str)) = true :=
  SeqAt.eqv_refl _ (SeqAt.canLay_of_shaped (strs_shaped hs))

section
variable {prog : Program} {w : World} {A : Around} {E : Value → Shared → Prop} {s : Shared} {h₀ : Heap} {L : Addr} {m : Str → Option Value} {news : Ledger} {Q : Value → Shared → Prop}

theorem strs_at {a b : Addr} {xs ys : List Value} {j k : Nat} {ss : List Str} (N : News h₀ L s.heap news) (h1 : (a, listOf xs.toArray j) ∈ news) (h2 : (b, listOf ys.toArray k) ∈ news) (hi : StrsAre xs ss) (hj : StrsAre ys ss) (hs : ∀ x ∈ ss, x ∈ letters) (hu : A.in1.units + 64 < cLine) :
    SeqAt.EqAt A.in1 s (.ref a) (.ref b) true := by
  have := keq_at (A := A) (reads_newData ⟨_, N.get h1, rfl, _, rfl⟩ (StrsAre.carried hi)) (reads_newData ⟨_, N.get h2, rfl, _, rfl⟩ (StrsAre.carried hj)) (strs_shaped hs) (strs_shaped hs) hu
  rwa [strs_eqv hs] at this

theorem dict_hits {K : Type} [DecidableEq K] {kb : List (K × Value)} : ∀ {ka : List (K × Value)}, (∀ q ∈ ka, ∃ y, valueAt kb q.1 = some y ∧ SeqAt.EqAt A s q.2 y true) → KeqHits A s kb ka true
  | [], _ => .nil
  | q :: r, h => by
    obtain ⟨y, hy, he⟩ := h q List.mem_cons_self
    exact KeqHits.hit (e := true) (b := true) hy he (dict_hits fun q hq => h q (List.mem_cons_of_mem _ hq))

theorem cmp_ne_dicts {K : Type} [DecidableEq K] {knd : KeyKind prog w K} {a b : Addr} {oa ob : Obj} {ka kb : List (K × Value)} (N : News h₀ L s.heap news) (h1 : (a, oa) ∈ news) (h2 : (b, ob) ∈ news) (la : (a == sysModules) = false) (lb : (b == sysModules) = false)
    (da : oa.IsDictOf knd ka) (db : ob.IsDictOf knd kb) (hl : ka.length = kb.length) (hu : A.units < cLine) (hits : ∀ q ∈ ka, ∃ y, valueAt kb q.1 = some y ∧ SeqAt.EqAt A.in1 s q.2 y true) (h : Q (.bool false) s) :
    wpAny (model prog w) A (compareOp .NotEq (.ref a) (.ref b)) Q E s :=
  keq_ne la lb (Heap.dictOf_iff.mpr ⟨oa, N.get h1, da⟩) (Heap.dictOf_iff.mpr ⟨ob, N.get h2, db⟩) hu (fun _ => dict_hits hits) (by rw [hl, beq_self_eq_true]; exact h)

theorem dicts_at {K : Type} [DecidableEq K] {B : Around} {a b : Addr} {oa ob : Obj} {ka kb : List (K × Value)} (knd : ∀ prog w, KeyKind prog w K) (N : News h₀ L s.heap news) (h1 : (a, oa) ∈ news) (h2 : (b, ob) ∈ news) (la : (a == sysModules) = false) (lb : (b == sysModules) = false) (hab : a ≠ b)
    (da : ∀ prog w, oa.IsDictOf (knd prog w) ka) (db : ∀ prog w, ob.IsDictOf (knd prog w) kb) (hl : ka.length = kb.length) (hu : B.units < cLine) (hits : ∀ q ∈ ka, ∃ y, valueAt kb q.1 = some y ∧ SeqAt.EqAt B.in1 s q.2 y true) :
    SeqAt.EqAt B s (.ref a) (.ref b) true :=
  SeqAt.EqAt.of_refs hab fun prog w E Q h => keq_eq la lb (Heap.dictOf_iff.mpr ⟨oa, N.get h1, da prog w⟩) (Heap.dictOf_iff.mpr ⟨ob, N.get h2, db prog w⟩) hu (fun _ => dict_hits hits) (by rw [hl, beq_self_eq_true]; exact h)

theorem int_pairs {p' : Program} {w' : World} : ∀ {es : List DictEntry} {kvs : List (Int × Value)}, Pairs (intKind prog w) es kvs → Pairs (intKind p' w') es kvs
  | _, _, .nil => .nil
  | _, _, .cons h1 h2 r => .cons h1 h2 (int_pairs r)
theorem int_any {o : Obj} {kvs : List (Int × Value)} (h : o.IsDictOf (intKind prog w) kvs) : ∀ p' w', o.IsDictOf (intKind p' w') kvs := fun _ _ => by
  obtain ⟨es, ep, a, b, c, d, e⟩ := h
  exact ⟨es, ep, a, b, c, int_pairs d, e⟩
theorem strs_same {v y : Value} {x : Str} {t u : Tok} (e : v = .str x t) (e' : y = .str x u) : SeqAt.EqAt A s v y true := by
  subst e e'
  have := keq_flat (A := A) (s := s) (PyProof.V.Flat.str x t) (PyProof.V.Flat.str x u)
  simpa [PyData.eqv] using this
theorem ints_same {v y : Value} {x : Int} {t u : Tok} (e : v = .int x t) (e' : y = .int x u) : SeqAt.EqAt A s v y true := by
  subst e e'
  have := keq_flat (A := A) (s := s) (PyProof.V.Flat.int x t) (PyProof.V.Flat.int x u)
  simpa [PyData.eqv] using this

/-- (number, dict) beside (number, dict) -/
theorem cmp_ne_told {a b p q : Addr} {oa ob : Obj} {x : Int} {t u : Tok} {ka kb : List (Int × Value)} (N : News h₀ L s.heap news) (hp : (p, tupOf [.int x t, .ref a]) ∈ news) (hq : (q, tupOf [.int x u, .ref b]) ∈ news)
    (h1 : (a, oa) ∈ news) (h2 : (b, ob) ∈ news) (la : (a == sysModules) = false) (lb : (b == sysModules) = false) (hab : a ≠ b)
    (da : oa.IsDictOf (intKind prog w) ka) (db : ob.IsDictOf (intKind prog w) kb) (hl : ka.length = kb.length) (hu : A.units + 70 < cLine) (hits : ∀ q ∈ ka, ∃ y x t u, valueAt kb q.1 = some y ∧ q.2 = .str x t ∧ y = .str x u) (h : Q (.bool false) s) :
    wpAny (model prog w) A (compareOp .NotEq (.ref p) (.ref q)) Q E s := by
  have key : SeqAt.RcNeAt A s (.ref p) (.ref q) (!((List.range (min #[Value.int x t, .ref a].size #[Value.int x u, .ref b].size)).all (fun _ => true) && #[Value.int x t, .ref a].size == #[Value.int x u, .ref b].size)) := by
    refine SeqAt.RcNeAt.tuples ⟨_, N.get hp, rfl, _, rfl⟩ ⟨_, N.get hq, rfl, _, rfl⟩ (by omega) fun j j1 j2 => ?_
    have hj : j = 0 ∨ j = 1 := by
      have : j < 2 := j1
      omega
    rcases hj with rfl | rfl
    · exact ints_same rfl rfl
    · exact dicts_at (B := A.in1) intKind N h1 h2 la lb hab (int_any da) (int_any db) hl (by show A.units + 1 < cLine; omega) fun q hq => by
        obtain ⟨y, x, t, u, e1, e2, e3⟩ := hits q hq
        exact ⟨y, e1, strs_same e2 e3⟩
  exact key prog w E Q h
end
end

/-! part HkS -/
section
open PySem PySem.W PyProof.Rows PySem.Calls
section
variable {prog : Program} {w : World} {A : Around} {E : Value → Shared → Prop} {s : Shared} {h₀ : Heap} {L : Addr} {m : Str → Option Value} {env : Env} {news : Ledger}

/-- a comprehension's source: a dict of the ledger -/
def SrcDict {K : Type} [DecidableEq K] (prog : Program) (w : World) (knd : KeyKind prog w K) (A : Around) (h₀ : Heap) (L : Addr) (m : Str → Option Value) (env : Env) (elt : Expr) (x : Str) (scope : Scope) (cl : List (Str × Addr)) (Q : Value → Shared → Prop) (xv : Value) (s₁ : Shared) : Prop :=
  ∃ d o kvs news, xv = .ref d ∧ A.handled = none ∧ Fr h₀ L s₁.heap m ∧ News h₀ L s₁.heap news ∧ (d, o) ∈ news ∧ (d == sysModules) = false ∧ o.IsDictOf knd kvs ∧ kvs.length ≤ 1000 ∧
    ∀ g, LCg.CompRest prog w A h₀ L m env elt x scope cl { s₁ with heap := g } (fun nw => (d, o) ∈ nw) (fun i v => ∃ k y, kvs[i]? = some (k, y) ∧ knd.is k v = true) (LCg.FinE h₀ L m { s₁ with heap := g } Q) kvs.length 0 [] news

theorem ListComp_dict {K : Type} [DecidableEq K] (knd : KeyKind prog w K) {elt iter : Expr} {x : Str} {px : Pos} {scope : Scope} {cl : List (Str × Addr)} {pos : Pos} {Q : Value → Shared → Prop}
    (hclos : closureFor scope env = pure cl) (hcell : ∀ y ∈ scope.names, y.2 ≠ .cell) (hkind : scope.kind = .function)
    (hnames : ∀ y ∈ scope.names, y.2 = .local → scope.names.lookup y.1 = some .local) (hx : scope.names.lookup x = some .local)
    (h : wpAny (model prog w) A (eval iter env) (SrcDict prog w knd A h₀ L m env elt x scope cl Q) E s)
    (hs : ∀ x, foldedSetIterable iter env x = pure x := by intro _; rfl) :
    wpAny (model prog w) A (eval (.ListComp elt [⟨.Name x px, iter, [], 0⟩] scope pos) env) Q E s := by
  rw [eval_ListComp]
  refine wpAny_comprehension_free (use := none) rfl hs hclos hkind hnames (wpAny_mono h (fun xv s₁ h₁ => ?_) fun _ _ e => e)
  obtain ⟨d, o, kvs, news, rfl, hh, F, N, hm, lo, hd, hsz, R⟩ := h₁
  obtain ⟨es, ep, q1, q2, q3, q4, q5⟩ := id hd
  have at_of : ∀ h : Heap, h.get? d = some o → h.DictAt knd d kvs ep := fun h e => ⟨o, es, e, q1, q2, q3, q4, q5⟩
  have hlt : d < s₁.heap.objs.size := Heap.lt_size (N.get hm)
  refine wpAny_pyIter_dict lo (at_of _ (N.get hm)) ?_
  have up : ∀ b o', s₁.heap.get? b = some o' → (s₁.heap.push { cls := .type "dict_keyiterator", data := .fields #[.ref d, .int 0 0, .int kvs.length 0, .int ep 0] }).get? b = some o' := fun b o' e => Heap.get?_push_of_some _ e
  refine LCg.block_U (Walks.dictKeys hh s₁.heap.objs.size d (Nat.ne_of_lt hlt) kvs ep) (by rw [sizeLine_eq]; omega) (fun i h st => by obtain ⟨o', e, _⟩ := st.1; exact ⟨o', e⟩)
    (fun i h h' o' nw st e e' k N S => ⟨by obtain ⟨o₁, u, v⟩ := st.1; rw [e] at u; cases u; exact ⟨_, e', v⟩, at_of _ (N.get S)⟩) hcell hkind hx ⟨⟨_, Heap.get?_push_size _ rfl, rfl, rfl⟩, at_of _ (up _ _ (N.get hm))⟩ (fun b hb => ?_)
    (F.keeps up) (N.grown up) (Nat.ne_of_lt F.ns.lt) (next_is_new F) (fun p hp => Nat.ne_of_lt (Heap.lt_size (N p hp).1)) hm (R _) ?_
  · show b < (s₁.heap.push _).objs.size
    rw [Heap.size_push]
    rcases List.mem_cons.mp hb with rfl | hb
    · exact Nat.lt_succ_self _
    · rw [List.mem_singleton.mp hb]; exact Nat.lt_succ_of_lt hlt
  · intro D C h tk m' ys news' F' N' o1 hn hC₀ hD₀ hCL hDL hCD offC fin
    refine ⟨m', hn, fun h'' hs'' => fin D h'' tk (F'.change hs'' hCL hC₀) (fun p hp => ?_) o1⟩
    refine ⟨hs''.extBut _ _ ?_ (N' p hp).1, (N' p hp).2⟩
    rcases List.mem_cons.mp hp with rfl | hp
    · exact Ne.symm hCD
    · exact offC p hp

/-- the same for a comprehension with one test -/
theorem comp_invT {ct elt : Expr} {x : Str} {scope : Scope} {cl : List (Str × Addr)} {S : Ledger → Prop} {P : Nat → Value → Prop} {Fin : List Value → Ledger → Prop} {n : Nat}
    (Inv : Nat → List Value → Ledger → Prop) (hS : ∀ i ys news, Inv i ys news → S news)
    (turn : ∀ i ys news v I oI C oC D m₂ h tk (E' : Value → Shared → Prop), i < n → P i v → Inv i ys news → LCg.NsObj oC m₂ → m₂ x = some v → Fr h₀ L h m → News h₀ L h ((I, oI) :: (C, oC) :: (D, LCg.lst ys) :: news) → LCg.Off3 I C D news → ((@Ne Nat I C) ∧ (@Ne Nat I D) ∧ (@Ne Nat C D)) →
      wpAny (model prog w) A (isTrue ct (compEnvC scope cl C env) (eval ct (compEnvC scope cl C env))) (fun ok s' => if ok = true then
        wpAny (model prog w) A (eval elt (compEnvC scope cl C env)) (LCg.CompEnd h₀ L m { s with heap := h, toks := tk } I oI C oC D (LCg.lst ys) (fun _ => True) (fun y news' => Inv (i + 1) (ys ++ [y]) news')) E' s'
        else LCg.CompEnd h₀ L m { s with heap := h, toks := tk } I oI C oC D (LCg.lst ys) (fun _ => True) (fun _ news' => Inv (i + 1) ys news') Value.none s') E' { s with heap := h, toks := tk })
    (fin : ∀ ys news, Inv n ys news → Fin ys news) : ∀ k i ys news, i + k = n → Inv i ys news → LCt.CompRestT prog w A h₀ L m env ct elt x scope cl s S P Fin k i ys news := by
  intro k
  induction k with
  | zero => intro i ys news e hI; exact LCt.CompRestT.zero (fin ys news ((show i = n by omega) ▸ hI))
  | succ k ih =>
    intro i ys news e hI
    refine LCt.CompRestT.succ fun v I oI C oC D m₂ h tk E' hP hC hx F N off ne => ?_
    have up : ∀ {ys' : Value → List Value} {y : Value} {s' : Shared}, LCg.CompEnd h₀ L m { s with heap := h, toks := tk } I oI C oC D (LCg.lst ys) (fun _ => True) (fun y news' => Inv (i + 1) (ys' y) news') y s' →
        LCg.CompEnd h₀ L m { s with heap := h, toks := tk } I oI C oC D (LCg.lst ys) S (fun y news' => LCt.CompRestT prog w A h₀ L m env ct elt x scope cl s S P Fin k (i + 1) (ys' y) news') y s' := by
      rintro ys' y s' ⟨h', tk', news', rfl, F', N', off', _, hI'⟩
      exact ⟨h', tk', news', rfl, F', N', off', hS _ _ _ hI', ih (i + 1) (ys' y) news' (by omega) hI'⟩
    refine wpAny_mono (turn i ys news v I oI C oC D m₂ h tk E' (by omega) hP hI hC hx F N off ne) (fun ok s' h' => ?_) fun _ _ e => e
    cases ok with
    | true =>
      simp only [if_true] at h' ⊢
      exact wpAny_mono h' (fun y s'' h'' => up (ys' := fun y => ys ++ [y]) h'') fun _ _ e => e
    | false =>
      simp only [Bool.false_eq_true, if_false] at h' ⊢
      exact up (ys' := fun _ => ys) h'

/-- a for over a list of the ledger, any target: the turn begins with the letting of the target -/
theorem turns_news {target : Expr} {body : List Stmt} {Q : Flow → Shared → Prop} {l : Addr} {vs : List Value} {n : Nat} {m₀ : Str → Option Value} (J : Nat → (Str → Option Value) → Ledger → Prop)
    (hgo : ∀ (I : Addr) (v : Value), letOwnedTupleGo target (.ref I) v = pure ())
    (hh : A.handled = none) (F : Fr h₀ env.locals s.heap m₀) (N : News h₀ env.locals s.heap news) (hj : J 0 m₀ news) (hl : ∀ i m nw, J i m nw → (l, listOf vs.toArray n) ∈ nw)
    (turn : ∀ i v m₁ news₁ h tk (I : Addr) oI, vs[i]? = some v → J i m₁ news₁ → Fr h₀ env.locals h m₁ → News h₀ env.locals h ((I, oI) :: news₁) → (∀ p ∈ news₁, @Ne Nat p.1 I) →
      wpAny (model prog w) A (assign target env v) (fun _ s₂ => wpAny (model prog w) A (execs body env)
        (fun f s₃ => f = .next ∧ ∃ h' tk' m' news', s₃ = { s with heap := h', toks := tk' } ∧ Fr h₀ env.locals h' m' ∧ News h₀ env.locals h' ((I, oI) :: news') ∧ (∀ p ∈ news', @Ne Nat p.1 I) ∧ J (i + 1) m' news') E s₂) E { s with heap := h, toks := tk })
    (done : ∀ m₁ news₁ h tk, J vs.length m₁ news₁ → Fr h₀ env.locals h m₁ → News h₀ env.locals h news₁ → Q .next { s with heap := h, toks := tk }) :
    wpAny (model prog w) A (pyIter (.ref l)) (fun it s₂ => TurnsAt prog w A h₀ env target body Q E it s₂) E s := by
  have lm := hl _ _ _ hj
  have hls : s.heap.IsList l vs.toArray := ⟨_, (N _ lm).1, rfl, _, rfl⟩
  have hlt : l < s.heap.objs.size := Heap.lt_size (N _ lm).1
  have l0 : h₀.get? l = none := (N _ lm).2.2
  have lL : l ≠ env.locals := (N _ lm).2.1
  have I0 : h₀.get? s.heap.objs.size = none := by
    cases e : h₀.get? s.heap.objs.size with
    | none => rfl
    | some o' => exact absurd (Heap.lt_size (F.keep _ _ e)) (Nat.lt_irrefl _)
  have IL : s.heap.objs.size ≠ env.locals := Ne.symm (Nat.ne_of_lt F.ns.lt)
  refine wpAny_pyIter_list hls ?_
  generalize hI : s.heap.objs.size = I at I0 IL hlt ⊢
  have W := Walks.list (prog := prog) (w := w) hh I l (Nat.ne_of_lt hlt) vs.toArray
  rw [List.size_toArray] at W
  refine ⟨I, _, _, vs.length, _, _, _, m₀, news, J, rfl, KTurns.ofWalks W (fun i v s Q E _ hq => wpAny_of_eq (hgo _ _) hq), ?_, ?_, ?_, ⟨⟨_, hI ▸ Heap.get?_push_size _ rfl, rfl, rfl⟩, hls.push _⟩, F.push _, (fun p hp => ⟨Heap.get?_push_of_some _ (N p hp).1, (N p hp).2⟩), hj, ?_, ?_⟩
  · intro hm
    rcases List.mem_cons.mp hm with e | hm
    · exact IL e.symm
    · exact lL (List.mem_singleton.mp hm).symm
  · intro b hb
    rw [List.mem_singleton.mp hb]
    exact I0
  · intro p hp h
    exact absurd (Heap.lt_size (N p hp).1) ((List.mem_singleton.mp h) ▸ hI ▸ Nat.lt_irrefl _)
  · intro i v m₁ news₁ h₁ tk₁ own hi hP hJ hoff hown hget hcov hst F₁ N₁
    obtain ⟨oI, eI, _⟩ := hst.1
    have mI := hcov I List.mem_cons_self I0 oI eI
    have lm' := hl _ _ _ hJ
    have el := (N₁ _ (List.mem_append_right _ lm')).1
    have hP' : vs[i]? = some v := by simpa using hP
    have hoff' : ∀ p ∈ news₁, @Ne Nat p.1 I := fun p hp e => hoff p hp (List.mem_singleton.mpr e)
    refine wpAny_mono (turn i v m₁ news₁ h₁ tk₁ I oI hP' hJ F₁ (fun p hp => ?_) hoff') (fun _ s₂ h₂ => wpAny_mono h₂ (fun f s₃ h₃ => ?_) fun _ _ e => e) fun _ _ e => e
    · rcases List.mem_cons.mp hp with rfl | hp
      · exact N₁ _ (List.mem_append_left _ mI)
      · exact N₁ _ (List.mem_append_right _ hp)
    · obtain ⟨rfl, h', tk', m', news', rfl, F', N', hn', hJ'⟩ := h₃
      refine .next ⟨rfl, h', tk', m', news', rfl, F', fun p hp => ?_, fun p hp e => hn' p hp (List.mem_singleton.mp e), hJ'⟩
      rcases List.mem_append.mp hp with hp | hp
      · have e1 := hget p hp
        rcases List.mem_cons.mp (hown p hp) with e | e
        · have : p = (I, oI) := Prod.ext e (by rw [e, eI] at e1; exact (Option.some.inj e1).symm)
          rw [this]; exact N' _ List.mem_cons_self
        · have e := List.mem_singleton.mp e
          have : p = (l, listOf vs.toArray n) := Prod.ext e (by rw [e] at e1; rw [e1] at el; exact Option.some.inj el)
          rw [this]; exact N' _ (List.mem_cons_of_mem _ (hl _ _ _ hJ'))
      · exact N' _ (List.mem_cons_of_mem _ hp)
  · rintro h' tk m' news' F' N' _ hJ
    exact done m' news' h' tk hJ F' N'
end
end

/-! part HkT -/
section
open PySem PySem.W PyProof.Rows PySem.Calls
theorem addNe0 {I a : Nat} (h : (a == 0) = false) : @Ne Nat (I + a) I := fun e => by
  have : a = 0 := Nat.add_left_cancel (n := I) e
  subst this; cases h
theorem addNe {I a b : Nat} (h : (a == b) = false) : @Ne Nat (I + a) (I + b) := fun e => by
  have : a = b := Nat.add_left_cancel e
  subst this; simp at h
def Off4 (I C K D : Addr) (nw : Ledger) : Prop := ∀ p ∈ nw, @Ne Nat p.1 I ∧ @Ne Nat p.1 C ∧ @Ne Nat p.1 K ∧ @Ne Nat p.1 D

section
variable {prog : Program} {w : World} {A : Around} {E : Value → Shared → Prop} {s : Shared} {h₀ : Heap} {L : Addr} {m : Str → Option Value} {env : Env}

/-- the block of a comprehension that lays one cell of its own: the frame, then the cell -/
theorem newEnv_cell {scope : Scope} {cl : List (Str × Addr)} {x : Str} {Q : Env → Shared → Prop} (hc1 : ∀ n, cellsFrom n scope.names cl = (x, n) :: cl)
    (hc2 : ∀ h : Heap, pushCells h scope.names = h.push { cls := .type "cell", data := .cell none })
    (h : Q { scope := scope, locals := s.heap.objs.size, globals := env.globals, cells := (x, s.heap.objs.size + 1) :: cl, qual := env.qual, func := none, code := env.code, frame := env.frame, builtins := env.builtins }
      { s with heap := (s.heap.push { cls := .type "dict", data := .dict #[] }).push { cls := .type "cell", data := .cell none } }) :
    wpAny (model prog w) A (newFunctionEnv scope env.globals cl [] env.qual none .none (some env)) Q E s := by
  simp only [newFunctionEnv, Option.isSome_some, if_true]
  refine wpAny_bind (wpAny_alloc ?_)
  refine wpAny_bind (wpAny_layCells _ (fun name kind cells => by cases kind == NameKind.cell <;> simp) _ _ _ _ ?_)
  rw [hc1, hc2]
  rw [show ({ s with heap := s.heap.push { cls := .type "dict", data := .dict #[] } } : Shared).heap.objs.size = s.heap.objs.size + 1 from Heap.size_push ..]
  refine wpAny_bind ?_
  rw [List.forIn_nil]
  exact wpAny_pure (wpAny_pure h)

def CellEnd (h₀ : Heap) (L : Addr) (m : Str → Option Value) (s₁ : Shared) (I : Addr) (oI : Obj) (C : Addr) (oC : Obj) (K : Addr) (oK : Obj) (D : Addr) (oD : Obj) (rest : Value → Ledger → Prop) (y : Value) (s₂ : Shared) : Prop :=
  ∃ h' tk nw, s₂ = { s₁ with heap := h', toks := tk } ∧ Fr h₀ L h' m ∧ News h₀ L h' ((I, oI) :: (C, oC) :: (K, oK) :: (D, oD) :: nw) ∧ Off4 I C K D nw ∧ rest y nw

theorem ListComp_cell {elt iter : Expr} {x : Str} {px : Pos} {scope : Scope} {cl : List (Str × Addr)} {pos : Pos} {Q : Value → Shared → Prop} (Inv : Nat → List Value → Ledger → Prop)
    (hclos : closureFor scope env = pure cl) (hkind : scope.kind = .function)
    (hnames : ∀ y ∈ scope.names, y.2 = .local → scope.names.lookup y.1 = some .local) (hx : (relabel scope env).names.lookup x = some .cell)
    (hc1 : ∀ n, cellsFrom n scope.names cl = (x, n) :: cl) (hc2 : ∀ h : Heap, pushCells h scope.names = h.push { cls := .type "cell", data := .cell none })
    (h : wpAny (model prog w) A (eval iter env) (fun xv s₁ => ∃ r t u v n news, xv = .ref r ∧ A.handled = none ∧ Fr h₀ L s₁.heap m ∧ News h₀ L s₁.heap news ∧ IsRange s₁.heap r 0 ((n : Nat) : Int) 1 t u v ∧ n ≤ 1000 ∧ Inv 0 [] news ∧
      (∀ i ys nw I oI C oC K oK D h tk t (E' : Value → Shared → Prop), i < n → Inv i ys nw → oK.data = .cell (some (.int ((i : Nat) : Int) t)) → Fr h₀ L h m → News h₀ L h ((I, oI) :: (C, oC) :: (K, oK) :: (D, LCg.lst ys) :: nw) → Off4 I C K D nw →
        (@Ne Nat I C ∧ @Ne Nat I K ∧ @Ne Nat I D ∧ @Ne Nat C K ∧ @Ne Nat C D ∧ @Ne Nat K D) →
        wpAny (model prog w) A (eval elt (compEnvC scope ((x, K) :: cl) C env)) (CellEnd h₀ L m { s₁ with heap := h, toks := tk } I oI C oC K oK D (LCg.lst ys) (fun y nw' => Inv (i + 1) (ys ++ [y]) nw')) E' { s₁ with heap := h, toks := tk }) ∧
      (∀ D ys h tk nw, Inv n ys nw → Fr h₀ L h m → News h₀ L h ((D, LCg.lst ys) :: nw) → Q (.ref D) { s₁ with heap := h, toks := tk })) E s)
    (hs : ∀ x, foldedSetIterable iter env x = pure x := by intro _; rfl) :
    wpAny (model prog w) A (eval (.ListComp elt [⟨.Name x px, iter, [], 0⟩] scope pos) env) Q E s := by
  rw [eval_ListComp]
  refine wpAny_comprehension_free (use := none) rfl hs hclos hkind hnames (wpAny_mono h (fun xv s₁ h₁ => ?_) fun _ _ e => e)
  obtain ⟨r, t, u, v, n, news, rfl, hh, F, N, hr, hn, hI0, turn, fin⟩ := h₁
  have W := LCg.range_walks (prog := prog) (w := w) (I := s₁.heap.objs.size) hh 0 n
  have hsm := small_one (a := 0) (b := (n : Int)) (by omega) (by omega) (by omega) (by omega)
  refine wpAny_pyIter_range hr hsm ?_
  generalize hIa : s₁.heap.objs.size = I at W ⊢
  have hIL : L ≠ I := hIa ▸ Nat.ne_of_lt F.ns.lt
  have hI₀ : h₀.get? I = none := hIa ▸ next_is_new F
  have none_of : ∀ a, I ≤ a → s₁.heap.get? a = none := fun a ha => Heap.get?_none_of_le (hIa ▸ ha)
  have none₀ : ∀ a, I ≤ a → h₀.get? a = none := fun a ha => by
    cases e : h₀.get? a with
    | none => rfl
    | some o' => have := F.keep a o' e; rw [none_of a ha] at this; cases this
  have hL : ∀ a, I ≤ a → a ≠ L := fun a ha => Nat.ne_of_gt (Nat.lt_of_lt_of_le (hIa ▸ F.ns.lt) ha)
  refine wpAny_newObj_type (newEnv_cell hc1 hc2 ?_)
  dsimp only
  generalize hH : ((((s₁.heap.push { cls := .type "range_iterator", data := .fields #[rawInt 0, rawInt (Builtin.Range.rangeSize 0 (n : Int) 1), rawInt 1] }).push { cls := .type "list", data := .seq #[] }).push { cls := .type "dict", data := .dict #[] }).push { cls := .type "cell", data := .cell none }) = H
  simp only [Heap.size_push, hIa]
  have up : ∀ b o, s₁.heap.get? b = some o → H.get? b = some o := fun b o e => hH ▸ Heap.get?_push_of_some _ (Heap.get?_push_of_some _ (Heap.get?_push_of_some _ (Heap.get?_push_of_some _ e)))
  have gI : H.get? I = some { cls := .type "range_iterator", data := .fields #[rawInt 0, rawInt (Builtin.Range.rangeSize 0 (n : Int) 1), rawInt 1] } := hH ▸ Heap.get?_push_of_some _ (Heap.get?_push_of_some _ (Heap.get?_push_of_some _ (hIa ▸ Heap.get?_push_size _ rfl)))
  have gD : H.get? (I + 1) = some (LCg.lst []) := hH ▸ Heap.get?_push_of_some _ (Heap.get?_push_of_some _ (by rw [← hIa, ← Heap.size_push]; exact Heap.get?_push_size _ rfl))
  have gC : H.get? (I + 2) = some { cls := .type "dict", data := .dict #[] } := hH ▸ Heap.get?_push_of_some _ (by rw [← hIa]; have := Heap.get?_push_size ((s₁.heap.push { cls := .type "range_iterator", data := .fields #[rawInt 0, rawInt (Builtin.Range.rangeSize 0 (n : Int) 1), rawInt 1] }).push { cls := .type "list", data := .seq #[] }) (o := { cls := .type "dict", data := .dict #[] }) rfl; rwa [Heap.size_push, Heap.size_push] at this)
  have gK : H.get? (I + 3) = some { cls := .type "cell", data := .cell none } := hH ▸ (by rw [← hIa]; have := Heap.get?_push_size (((s₁.heap.push { cls := .type "range_iterator", data := .fields #[rawInt 0, rawInt (Builtin.Range.rangeSize 0 (n : Int) 1), rawInt 1] }).push { cls := .type "list", data := .seq #[] }).push { cls := .type "dict", data := .dict #[] }) (o := { cls := .type "cell", data := .cell none }) rfl; rwa [Heap.size_push, Heap.size_push, Heap.size_push] at this)
  clear hH
  have hCns : ∀ h : Heap, h.get? (I + 2) = some { cls := .type "dict", data := .dict #[] } → h.Ns (I + 2) (fun _ => none) := fun h e => ⟨_, #[], 0, e, rfl, fun _ h => (nomatch h), fun _ => rfl⟩
  have lo : ∀ p ∈ news, @LT.lt Nat _ p.1 I := fun p hp => hIa ▸ Heap.lt_size (N p hp).1
  have off₀ : Off4 I (I + 2) (I + 3) (I + 1) news := fun p hp => by
    have l := lo p hp
    exact ⟨Nat.ne_of_lt l, Nat.ne_of_lt (Nat.lt_of_lt_of_le l (Nat.le_add_right _ _)), Nat.ne_of_lt (Nat.lt_of_lt_of_le l (Nat.le_add_right _ _)), Nat.ne_of_lt (Nat.lt_of_lt_of_le l (Nat.le_add_right _ _))⟩
  have loop : codeAny (model prog w) A (.compLoop (.ListComp elt [⟨.Name x px, iter, [], 0⟩] scope pos) 0 (.ref I) (.ref (I + 1)) (compEnvC scope ((x, I + 3) :: cl) (I + 2) env))
      (compPost (model prog w) A E none Q (.ref (I + 1)) (I + 2)) { s₁ with heap := H } := by
    refine codeAny_compLoop_tests
      (fun k s' => ∃ h' tk i ys nw oK c, s' = { s₁ with heap := h', toks := tk } ∧ i ≤ n ∧ k = n + 1 - i ∧ ys.length = i ∧ IsRangeIter h' I (0 + ((i : Nat) : Int) * 1) ((n : Int) - ((i : Nat) : Int)) 1 ∧ Fr h₀ L h' m ∧ oK.data = .cell c ∧
        News h₀ L h' ((I + 2, { cls := .type "dict", data := .dict #[] }) :: (I + 3, oK) :: (I + 1, LCg.lst ys) :: nw) ∧ Off4 I (I + 2) (I + 3) (I + 1) nw ∧ Inv i ys nw) ?_ (n + 1)
      ⟨H, s₁.toks, 0, [], news, { cls := .type "cell", data := .cell none }, none, rfl, Nat.zero_le _, rfl, rfl, ?_, F.keeps up, rfl, ?_, off₀, hI0⟩
    · rintro k s' ⟨h', tk, i, ys, nw, oK, c, rfl, hi, rfl, hyl, hst', F', hK', N', off', hJ'⟩
      by_cases hlt : i < n
      · refine W.item i _ _ _ hlt hst' fun v h₂ tk₂ hPv hst₂ hk₂ => ?_
        obtain ⟨tv, rfl⟩ := hPv
        have ev : (0 : Int) + (i : Int) = (i : Int) := Int.zero_add _
        rw [ev]
        have F₂ : Fr h₀ L h₂ m := LCg.fr_but F' hk₂ hIL hI₀
        have N₂ := LCg.news_but N' hk₂ (fun p hp => by
          rcases List.mem_cons.mp hp with rfl | hp
          · exact addNe0 rfl
          · rcases List.mem_cons.mp hp with rfl | hp
            · exact addNe0 rfl
            · rcases List.mem_cons.mp hp with rfl | hp
              · exact addNe0 rfl
              · exact (off' p hp).1)
        refine wpAny_assign_Name (wpAny_storeName_cell (c := I + 3) hkind hx (by simp [compEnvC]) ⟨oK, (N₂ _ (List.mem_cons_of_mem _ List.mem_cons_self)).1, hK'⟩ fun h₃ hv₃ hs₃ => ?_)
        refine wpAny_tests_nil ?_
        simp only [if_true]
        obtain ⟨oK₃, eK₃, dK₃⟩ := hv₃
        have oth : ∀ a o, h₂.get? a = some o → a ≠ I + 3 → h₃.get? a = some o := fun a o e hne => hs₃.extBut a o hne e
        have F₃ : Fr h₀ L h₃ m := F₂.change hs₃ (hL _ (Nat.le_add_right _ _)) (none₀ _ (Nat.le_add_right _ _))
        have st₃ : IsRangeIter h₃ I (0 + (((i + 1 : Nat)) : Int) * 1) ((n : Int) - ((i + 1 : Nat) : Int)) 1 := oth _ _ hst₂ ((by first | exact addNe rfl | exact addNe0 rfl | exact Ne.symm (addNe0 rfl) | exact neN (by omega)))
        have N₃ : News h₀ L h₃ ((I, _) :: (I + 2, { cls := .type "dict", data := .dict #[] }) :: (I + 3, oK₃) :: (I + 1, LCg.lst ys) :: nw) := fun p hp => by
          rcases List.mem_cons.mp hp with rfl | hp
          · exact ⟨st₃, Ne.symm hIL, hI₀⟩
          · rcases List.mem_cons.mp hp with rfl | hp
            · have z := N₂ _ List.mem_cons_self
              exact ⟨oth _ _ z.1 ((by first | exact addNe rfl | exact addNe0 rfl | exact Ne.symm (addNe0 rfl) | exact neN (by omega))), z.2⟩
            · rcases List.mem_cons.mp hp with rfl | hp
              · exact ⟨eK₃, (N₂ _ (List.mem_cons_of_mem _ List.mem_cons_self)).2⟩
              · have z := N₂ p (List.mem_cons_of_mem _ (List.mem_cons_of_mem _ hp))
                refine ⟨oth _ _ z.1 ?_, z.2⟩
                rcases List.mem_cons.mp hp with rfl | hp
                · exact addNe rfl
                · exact (off' p hp).2.2.1
        refine wpAny_mono (turn i ys nw I _ (I + 2) _ (I + 3) oK₃ (I + 1) h₃ tk₂ tv _ hlt hJ' dK₃ F₃ N₃ off' ⟨(by first | exact addNe rfl | exact addNe0 rfl | exact Ne.symm (addNe0 rfl) | exact neN (by omega)), (by first | exact addNe rfl | exact addNe0 rfl | exact Ne.symm (addNe0 rfl) | exact neN (by omega)), (by first | exact addNe rfl | exact addNe0 rfl | exact Ne.symm (addNe0 rfl) | exact neN (by omega)), (by first | exact addNe rfl | exact addNe0 rfl | exact Ne.symm (addNe0 rfl) | exact neN (by omega)), (by first | exact addNe rfl | exact addNe0 rfl | exact Ne.symm (addNe0 rfl) | exact neN (by omega)), (by first | exact addNe rfl | exact addNe0 rfl | exact Ne.symm (addNe0 rfl) | exact neN (by omega))⟩) (fun y s₄ h₄ => ?_) fun _ _ e => e
        obtain ⟨h₄, tk₄, nw₄, rfl, F₄, N₄, off₄, J₄⟩ := h₄
        have zD := N₄ (I + 1, LCg.lst ys) (List.mem_cons_of_mem _ (List.mem_cons_of_mem _ (List.mem_cons_of_mem _ List.mem_cons_self)))
        refine append_at (hsz := by show ys.toArray.size ≤ sizeLine; rw [List.size_toArray, hyl, sizeLine_eq]; omega) zD.1 fun h₅ hs₅ hD₅ => ?_
        have oth5 : ∀ a o, h₄.get? a = some o → a ≠ I + 1 → h₅.get? a = some o := fun a o e hne => hs₅.extBut a o hne e
        refine ⟨n + 1 - (i + 1), by omega, h₅, tk₄, i + 1, ys ++ [y], nw₄, oK₃, _, rfl, hlt, rfl, by rw [List.length_append, List.length_singleton, hyl], oth5 _ _ (N₄ _ List.mem_cons_self).1 ((by first | exact addNe rfl | exact addNe0 rfl | exact Ne.symm (addNe0 rfl) | exact neN (by omega))), F₄.change hs₅ zD.2.1 zD.2.2, dK₃, fun p hp => ?_, off₄, J₄⟩
        rcases List.mem_cons.mp hp with rfl | hp
        · have z := N₄ _ (List.mem_cons_of_mem _ List.mem_cons_self)
          exact ⟨oth5 _ _ z.1 ((by first | exact addNe rfl | exact addNe0 rfl | exact Ne.symm (addNe0 rfl) | exact neN (by omega))), z.2⟩
        · rcases List.mem_cons.mp hp with rfl | hp
          · have z := N₄ _ (List.mem_cons_of_mem _ (List.mem_cons_of_mem _ List.mem_cons_self))
            exact ⟨oth5 _ _ z.1 ((by first | exact addNe rfl | exact addNe0 rfl | exact Ne.symm (addNe0 rfl) | exact neN (by omega))), z.2⟩
          · rcases List.mem_cons.mp hp with rfl | hp
            · exact ⟨hD₅.trans (congrArg some (LCg.lst_snoc ys y)), zD.2⟩
            · have z := N₄ p (List.mem_cons_of_mem _ (List.mem_cons_of_mem _ (List.mem_cons_of_mem _ (List.mem_cons_of_mem _ hp))))
              exact ⟨oth5 _ _ z.1 (off₄ p hp).2.2.2, z.2⟩
      · obtain rfl : i = n := Nat.le_antisymm hi (Nat.not_lt.mp hlt)
        refine W.done _ _ _ hst' fun h₂ tk₂ hk₂ => ?_
        have N₂ := LCg.news_but N' hk₂ (fun p hp => by
          rcases List.mem_cons.mp hp with rfl | hp
          · exact addNe0 rfl
          · rcases List.mem_cons.mp hp with rfl | hp
            · exact addNe0 rfl
            · rcases List.mem_cons.mp hp with rfl | hp
              · exact addNe0 rfl
              · exact (off' p hp).1)
        have zC := N₂ _ List.mem_cons_self
        refine ⟨_, hCns _ zC.1, fun h'' hs'' => fin (I + 1) ys h'' tk₂ nw hJ' ((LCg.fr_but F' hk₂ hIL hI₀).change hs'' zC.2.1 zC.2.2) fun p hp => ?_⟩
        have z := N₂ p (List.mem_cons_of_mem _ (List.mem_cons_of_mem _ hp))
        refine ⟨hs''.extBut _ _ ?_ z.1, z.2⟩
        rcases List.mem_cons.mp hp with rfl | hp
        · exact addNe rfl
        · exact (off' p hp).2.1
    · show H.get? I = some _
      rw [gI, rangeSize_nat]
      simp
    · intro p hp
      rcases List.mem_cons.mp hp with rfl | hp
      · exact ⟨gC, hL _ (Nat.le_add_right _ _), none₀ _ (Nat.le_add_right _ _)⟩
      · rcases List.mem_cons.mp hp with rfl | hp
        · exact ⟨gK, hL _ (Nat.le_add_right _ _), none₀ _ (Nat.le_add_right _ _)⟩
        · rcases List.mem_cons.mp hp with rfl | hp
          · exact ⟨gD, hL _ (Nat.le_add_right _ _), none₀ _ (Nat.le_add_right _ _)⟩
          · exact ⟨up _ _ (N p hp).1, (N p hp).2⟩
  refine codeAny_compStart_list loop (W.self 0 _ _ _ ?_ loop)
  show H.get? I = some _
  rw [gI, rangeSize_nat]
  simp
end
end

/-! part HkU -/
section
open PySem PySem.W PyProof.Rows PySem.Calls
section
variable {prog : Program} {w : World} {A : Around} {E : Value → Shared → Prop} {s : Shared} {h₀ : Heap} {L l : Addr} {m : Str → Option Value} {news : Ledger} {vs : List Value} {n : Nat} {Q : Value → Shared → Prop}
theorem nums_len : (nums n).length = n := by simp [nums]
theorem lst_of_abc {t : Tok} (hh : A.handled = none) (F : Fr h₀ L s.heap m) (N : News h₀ L s.heap news) (h2 : 2 ≤ n) (h5 : n ≤ 5)
    (h : ∀ D h' tk ys c, StrsAre ys (abc n) → Fr h₀ L h' m → News h₀ L h' ((D, listOf ys.toArray c) :: news) → (∀ p ∈ news, p.1 < D) → Q (.ref D) { s with heap := h', toks := tk }) :
    wpAny (model prog w) A (call (.type "list") [.str (Txt.slice (Str.ofString "abcde") none (some (n : Int))) t]) Q E s :=
  lst_of_str hh F N (cases5 (P := fun n => (Txt.slice (Str.ofString "abcde") none (some (n : Int))).length ≤ 1000) h2 h5 (by decide +kernel) (by decide +kernel) (by decide +kernel) (by decide +kernel)) (by rw [signs_abc h2 h5]; exact h)
theorem num_get {value slice : PySem.Expr} {i : Int} {t : Tok} (hv : ∀ v ∈ vs, ∃ (x : Int) (t : Tok), v = Value.int x t ∧ 0 ≤ x) (N : News h₀ L s.heap news) (h1 : (l, listOf vs.toArray n) ∈ news) (h0 : 0 ≤ i) (hi : i < vs.length) (hsz : vs.length ≤ 100000)
    (h : ∀ (x : Int) (u : Tok), 0 ≤ x → Q (.int x u) s)
    (hs : subscripted slice false (.ref l) (.int i t) = operate [.ref l, .int i t] (getItem (.ref l) (.int i t)) := by with_unfolding_all rfl) :
    wpAny (model prog w) A (subscriptTail value slice (.ref l) (.int i t)) Q E s := by
  refine lst_get N h1 h0 hi hsz ?_ hs
  have hlt : i.toNat < vs.length := by omega
  obtain ⟨x, u, e, hx⟩ := hv vs[i.toNat] (List.getElem_mem hlt)
  have : vs.getD i.toNat .none = .int x u := by simp [hlt, e]
  rw [this]
  exact h x u hx
end

def AllNe (d : Nat) : Ledger → Prop
  | [] => True
  | p :: r => @Ne Nat p.1 d ∧ AllNe d r
theorem allNe_of {d : Addr} : ∀ {l : Ledger}, (∀ p ∈ l, p.1 ≠ d) → AllNe d l
  | [], _ => trivial
  | p :: _, h => ⟨h p (.head _), allNe_of fun q hq => h q (.tail _ hq)⟩
theorem allNe_ne {d : Addr} : ∀ {l : Ledger}, AllNe d l → ∀ p ∈ l, p.1 ≠ d
  | [], _, _, hp => nomatch hp
  | _ :: _, h, p, hp => by
    rcases List.mem_cons.mp hp with rfl | hp
    · exact h.1
    · exact allNe_ne h.2 p hp
theorem allLt_ne {d : Addr} : ∀ {l : Ledger}, AllLt d l → ∀ p ∈ l, p.1 ≠ d
  | [], _, _, hp => nomatch hp
  | _ :: _, h, p, hp => by
    rcases List.mem_cons.mp hp with rfl | hp
    · exact Nat.ne_of_lt h.1
    · exact allLt_ne h.2 p hp
end

local macro_rules | `(tactic| k_all) => `(tactic| first | exact OwnOff.ne (by assumption) (by k_memK) | exact allLt_ne (by assumption) | exact allNe_ne (by assumption) | assumption)
local macro_rules | `(tactic| k_lt $h) => `(tactic| (replace $h := allLt_of $h; simp only [AllLt, and_true] at $h:ident; repeat (obtain ⟨_, $h⟩ := $h)))
local macro_rules | `(tactic| walk_at "call type:list") => `(tactic| (k_here; (with_reducible show wpAny _ _ (call (Value.type "list") [Value.str _ _]) _ _ _); k_dflt (refine' lst_of_abc rfl ?F ?N ?a ?b ?_; (case F => k_asm); (case N => k_asm); (case a => assumption); (case b => assumption)); intro D' h' tk' ys' c' hS' F' N' l1; (try k_lt l1); (try k_sweep)))
local macro_rules | `(tactic| walk_at "call type:list") => `(tactic| (k_here; (with_reducible show wpAny _ _ (call (Value.type "list") [Value.ref _]) _ _ _); (rename IsRange _ _ _ _ _ _ _ _ => R'); k_dflt (refine' lst_of_range rfl ?F ?N R' ?z ?_; (case F => k_asm); (case N => k_asm); (case z => omega)); clear R'; intro D' h' tk' ys' c' hI' F' N' l1; (try k_lt l1); (try k_sweep)))
local macro_rules | `(tactic| walk_at "eval Name") => `(tactic| (k_here; k_dflt (refine' nameX_L ?F ?v ?_ ?a ?b; (case F => k_asm); (case a => rfl); (case b => rfl); (case v => assumption); k_whole)))
local macro_rules | `(tactic| walk_at "subscriptTail") => `(tactic| (k_here; (with_reducible show wpAny _ _ (subscriptTail _ _ (Value.ref _) (Value.int _ _)) _ _ _); k_dflt (refine' num_get ?v ?N ?m ?a ?b ?z ?_; (case v => assumption); (case N => k_asm); (case m => k_mem); (case a => omega); (case b => omega); (case z => omega)); intro x' t' hx0))
local macro_rules | `(tactic| walk_at "call ref") => `(tactic| (k_here; k_dflt (refine' turned_ct ?v1 ?v2 ?x0 ?F ?X ?T ?N ?m ?r ?_; (case v1 => (first | (rw [StrsAre.length (by assumption), abc_len (by assumption)]; omega) | (rw [IntsAre.length (by assumption), nums_len]; omega))); (case v2 => (first | (rw [StrsAre.length (by assumption), abc_len (by assumption)]; omega) | (rw [IntsAre.length (by assumption), nums_len]; omega))); (case x0 => assumption); (case F => k_asm); (case X => k_asm); (case T => k_asm); (case N => k_asm); (case m => k_mem); (case r => ((try dsimp only); omega))); intro h' tk' D' ws' c' hP' F' N' l1; (try dsimp only at N'); replace l1 := allNe_of l1; (try simp only [AllNe, and_true] at l1); repeat (obtain ⟨_, l1⟩ := l1); (try k_sweep)))
local macro_rules | `(tactic| walk_at "HK2s") => `(tactic| (first | ((fail_if_success (with_reducible show wpAny _ _ (pyIter (Value.ref _)) (fun it s₂ => PySem.W.TurnsAt _ _ _ _ _ _ _ _ _ it s₂) _ _)); (fail_if_success (with_reducible show LCt.CompSrcT _ _ _ _ _ _ _ _ _ _ _ _ _ _ _)); (fail_if_success (with_reducible show SrcDict _ _ _ _ _ _ _ _ _ _ _ _ _ _ _)); walk_at "HKs") | fail "no step"))
local macro_rules | `(tactic| walk_at "HK2") => `(tactic| repeat' (walk_at "HK2s"))
local macro_rules | `(tactic| walk_at "HK3") => `(tactic| repeat' (first | ((fail_if_success (with_reducible show wpAny _ _ (compareOp _ (Value.ref _) (Value.ref _)) _ _ _)); walk_at "HK2s") | fail "no step"))
section
open PySem PySem.W PyProof.Rows PySem.Calls
section
variable {prog : Program} {w : World} {p : Program} {loose : List Str} {mean : ExcName → Option Value} {mg mb : Str → Option Value}

theorem seg_wp {A : Around} {E : Value → Shared → Prop} {env : Env} {Q : Flow → Shared → Prop} {Γ : Ctx} (hΓ : Γ.In A) : ∀ (j : Nat) (l : List Stmt) p (s : Shared),
    Sem.wp (model prog w) Γ (execs (l.take j) env) (fun fl _ s' => match fl with | .next => wpAny (model prog w) A (execs (l.drop j) env) Q E s' | fl => Q fl s') (fun e _ s' => E e s') p s → Sem.wp (model prog w) Γ (execs l env) (fun fl _ s' => Q fl s') (fun e _ s' => E e s') p s
  | 0, l, p, s, h => by
    rw [List.take_zero, execs_nil, Sem.wp_pure'] at h
    exact h Γ p hΓ
  | j + 1, [], p, s, h => by
    rw [List.take_nil, execs_nil, Sem.wp_pure'] at h
    exact h Γ p hΓ
  | j + 1, st :: l, p, s, h => by
    rw [List.take_succ_cons, execs_cons, Sem.wp_bind'] at h
    rw [execs_cons, Sem.wp_bind']
    refine Sem.wp_mono _ Γ _ (fun f p' s' h' => ?_) (fun _ _ _ h' => h') _ _ h
    cases f with
    | next => exact seg_wp hΓ j l p' s' h'
    | _ => rw [Sem.wp_pure'] at h' ⊢; exact h'
theorem execs_seg {A : Around} {E : Value → Shared → Prop} {env : Env} {Q : Flow → Shared → Prop} (j : Nat) {l : List Stmt} {s : Shared}
    (h : wpAny (model prog w) A (execs (l.take j) env) (fun fl s' => match fl with | .next => wpAny (model prog w) A (execs (l.drop j) env) Q E s' | fl => Q fl s') E s) : wpAny (model prog w) A (execs l env) Q E s :=
  fun Γ p hΓ => seg_wp hΓ j l p s (h Γ p hΓ)

theorem news_sub {h₀ h : Heap} {L : Addr} {a b : Ledger} (N : News h₀ L h b) (x : a.Sublist b) : News h₀ L h a := fun p hp => N p (x.mem hp)

/-- what stays for the whole of the law's loop -/
structure Held (dp un n k : Nat) (L nb sq : Addr) (nv : List Value) (tl : Ledger) : Prop where
  n2 : 2 ≤ n
  n5 : n ≤ 5
  kn : k < n
  room : dp + 200 < recursionLimit
  un : un + 80 < cLine
  num : ∀ v ∈ nv, ∃ (x : Int) (t : Tok), v = Value.int x t ∧ 0 ≤ x
  l1 : 11 ≤ nv.length
  l2 : nv.length ≤ 100
  L1 : @LT.lt Nat _ (L + 6) nb
  L2 : @LT.lt Nat _ nb sq
  hi : OwnOff tl [L + 6, L + 5, L + 4, L + 3, L + 2, L + 1, nb, sq]

/-- the law's six cells and the two lists -/
abbrev base (L nb sq : Addr) (c1 c2 c3 c4 c5 c6 : Obj) (nv sv : List Value) (nn sn : Nat) (tl : Ledger) : Ledger :=
  (L + 6, c6) :: (L + 5, c5) :: (L + 4, c4) :: (L + 3, c3) :: (L + 2, c2) :: (L + 1, c1) :: (nb, listOf nv.toArray nn) :: (sq, listOf sv.toArray sn) :: tl

theorem strs_perm {vs ws : List Value} {ss : List Str} (h : StrsAre vs ss) (hp : ws.Perm vs) : ∃ ts, StrsAre ws ts ∧ ts.Perm ss := by
  have hw : ∀ v ∈ ws, ∃ x t, v = Value.str x t := fun v hv => h.all v (hp.mem_iff.mp hv)
  refine ⟨ws.map strOf, strsAre_map ws hw, ?_⟩
  rw [← h.strs]
  exact hp.map _
theorem ints_perm {vs ws : List Value} {ks : List Int} (h : IntsAre vs ks) (hp : ws.Perm vs) : ∃ ts, IntsAre ws ts ∧ ts.Perm ks := by
  have hw : kf_ints ws = true := by
    have : ∀ ws : List Value, (∀ v ∈ ws, ∃ (x : Int) (t : Tok), v = Value.int x t) → kf_ints ws = true := fun ws => by
      induction ws with
      | nil => intro _; rfl
      | cons v ws ih =>
        intro h
        obtain ⟨x, t, rfl⟩ := h v List.mem_cons_self
        exact ih fun u hu => h u (List.mem_cons_of_mem _ hu)
    refine this ws fun v hv => ?_
    have hv := hp.mem_iff.mp hv
    clear hp this
    induction h with
    | nil => cases hv
    | cons a t _ ih =>
      rcases List.mem_cons.mp hv with rfl | hv
      · exact ⟨a, t, rfl⟩
      · exact ih hv
  refine ⟨lks_nums ws, lks_are hw, ?_⟩
  have e : ∀ l : List Value, kf_ints l = true → lks_nums l = l.map fun v => match v with | .int a _ => a | _ => 0 := fun l => by
    induction l with
    | nil => intro _; rfl
    | cons v l ih =>
      intro hl
      cases v with
      | int a t => show a :: lks_nums l = _; rw [ih hl]; rfl
      | _ => cases hl
  rw [← nums_of h, e _ hw, e _ (intsOk h)]
  exact hp.map _

set_option maxHeartbeats 4000000 in
theorem t0 {dp un n k : Nat} {tn tk : Tok} {h₀ : Heap} {L fa nb sq : Addr} {cd : Value} {m : Str → Option Value} {c1 c2 c3 c4 c5 c6 : Obj} {v2 v3 v4 v5 v6 : Option Value} {nv sv : List Value} {nn sn : Nat} {tl : Ledger} {s : Shared}
    {fr : Option (List Env)} {gd : Option (List Code)} {Q : Flow → Shared → Prop} (H : Held dp un n k L nb sq nv tl)
    (hc1 : c1.data = .cell (some (.int n tn))) (hc2 : c2.data = .cell v2) (hc3 : c3.data = .cell v3) (hc4 : c4.data = .cell v4) (hc5 : c5.data = .cell v5) (hc6 : c6.data = .cell v6)
    (F : Fr h₀ L s.heap m) (X : (hd.heap_39 w.params).In h₀) (T : Top p loose mean mg mb h₀) (N : News h₀ L s.heap (base L nb sq c1 c2 c3 c4 c5 c6 nv sv nn sn tl))
    (hm1 : m (Str.ofString "numbers") = some (.ref nb)) (hm2 : m (Str.ofString "k") = some (.int k tk))
    (ret : ∀ h' tk sg lk c3 oK ws c signs, StrsAre ws signs → signs.Perm (abc n) → c3.data = .cell (some (.ref lk)) → oK.IsDictOf (intKind prog w) [] → (lk == sysModules) = false →
      AllNe sg (base L nb sq c1 c2 c3 c4 c5 c6 nv sv nn sn tl) → AllNe lk ((sg, listOf ws.toArray c) :: base L nb sq c1 c2 c3 c4 c5 c6 nv sv nn sn tl) →
      Fr h₀ L h' (fun y => if y = Str.ofString "signs" then some (.ref sg) else m y) → News h₀ L h' ((lk, oK) :: (sg, listOf ws.toArray c) :: base L nb sq c1 c2 c3 c4 c5 c6 nv sv nn sn tl) → Q .next { s with heap := h', toks := tk }) :
    wpAny (model prog w) (topA dp un fr gd) (execs (turnCode.take 1) (envOfC (Str.ofString "law") lawCode.2 L fa cd)) Q (fun _ _ => False) s := by
  dsimp only [turnCode, lawCode, PySem.Challenge.pw_bd0017_01, List.take]
  obtain ⟨hn, hn5, hk, hroom, hu, hnum, hl1, hl2, hL, hL', hi⟩ := H
  dsimp only [base] at N
  walk_at "HK"
  walk_at "call ref"
  walk_at "HK"
  rename News _ _ _ _ => N9
  rename Fr _ _ _ _ => F9
  rename List.Perm _ _ => P9
  rename StrsAre _ _ => S9
  obtain ⟨signs, S8, P8⟩ := strs_perm S9 P9
  refine' ret _ _ _ _ _ _ _ _ signs S8 P8 ?d ?o ?l ?a ?b F9 ?N
  case d => assumption
  case o => assumption
  case l => assumption
  case N => exact news_sub N9 (by (repeat' (first | with_reducible exact List.Sublist.refl _ | refine List.Sublist.cons_cons _ ?_ | refine List.Sublist.cons _ ?_ | exact List.Sublist.refl _)))
  case a => (((simp only [AllNe, and_true]); (repeat' (refine And.intro ?_ ?_)) <;> first | assumption | (refine neN ?_; omega) | exact allNe_of (allLt_ne (by assumption)) | exact allNe_of (OwnOff.ne (by assumption) (by k_memK))))
  case b => (((simp only [AllNe, and_true]); (repeat' (refine And.intro ?_ ?_)) <;> first | assumption | (refine neN ?_; omega) | exact allNe_of (allLt_ne (by assumption)) | exact allNe_of (OwnOff.ne (by assumption) (by k_memK))))
end
end

/-! part HkV -/
section
open PySem PySem.W PyProof.Rows PySem.Calls
def colv (rows : List (List Str)) (c : Int) : List Str := rows.map fun r => r.getD c.toNat Str.empty
def adjOf (signs : List Str) (rows : List (List Str)) (c : Int) : List Str := signs.filter fun s => !(colv rows c).contains s

structure RowsAre (n : Nat) (sv : List Value) (rows : List (List Str)) (tl : Ledger) : Prop where
  len : sv.length = rows.length
  row : ∀ (j : Nat) (v : Value), sv[j]? = some v → ∃ a rv nn r, rows[j]? = some r ∧ v = Value.ref a ∧ (a, listOf rv.toArray nn) ∈ tl ∧ StrsAre rv r ∧ r.length = n

def ColsAre (adj : Int → List Str) (kvs : List (Int × Value)) (cs : Ledger) : Prop :=
  ∀ q ∈ kvs, ∃ a xs n, q.2 = Value.ref a ∧ (a, listOf xs.toArray n) ∈ cs ∧ StrsAre xs (adj q.1)

section
variable {prog : Program} {w : World} {A : Around} {E : Value → Shared → Prop} {s : Shared} {h₀ : Heap} {L d : Addr} {m : Str → Option Value} {news : Ledger}
theorem pairs_set {K : Type} [DecidableEq K] {knd : KeyKind prog w K} {o : Obj} {kvs : List (K × Value)} {k : K} {key x : Value} {g : Obj → Ledger} {Q : Unit → Shared → Prop} (F : Fr h₀ L s.heap m) (N : News h₀ L s.heap news) (U : UpdF d o news g) (hkey : knd.is k key = true)
    (hd : o.IsDictOf knd kvs) (hk : k ∉ kvs.map (·.1)) (hsz : kvs.length ≤ 100)
    (h : ∀ h' o', Fr h₀ L h' m → News h₀ L h' (g o') → o'.IsDictOf knd (kvs ++ [(k, x)]) → Q () { s with heap := h', toks := s.toks + 1 }) :
    wpAny (model prog w) A (setItem (.ref d) key x) Q E s := by
  obtain ⟨pre, post, rfl, hg, a, b⟩ := U.split
  have hm : (d, o) ∈ pre ++ (d, o) :: post := List.mem_append_right _ List.mem_cons_self
  refine wpAny_setItem_pairs (hsz := by rw [sizeLine_eq]; omega) hkey (Heap.dictOf_iff.mpr ⟨o, N.get hm, hd⟩) fun h' hm' hs => ?_
  rw [stored_new hk] at hm'
  obtain ⟨o', ho', hd'⟩ := Heap.dictOf_iff.mp hm'
  refine h h' o' (F.change hs (N _ hm).2.1 (N _ hm).2.2) ?_ hd'
  rw [hg]
  intro p hp
  rcases List.mem_append.mp hp with hp | hp
  · have P := N p (List.mem_append_left _ hp); exact ⟨(hs.2 _ (a p hp)).trans P.1, P.2⟩
  · rcases List.mem_cons.mp hp with rfl | hp
    · exact ⟨ho', (N _ hm).2⟩
    · have P := N p (List.mem_append_right _ (List.mem_cons_of_mem _ hp)); exact ⟨(hs.2 _ (b p hp)).trans P.1, P.2⟩

theorem strsSnoc {vs : List Value} {ss : List Str} {x : Str} (h : StrsAre vs ss) (u : Tok) : StrsAre (vs ++ [Value.str x u]) (ss ++ [x]) := by
  induction h with
  | nil => exact .cons x u .nil
  | cons a t _ ih => exact .cons a t ih
theorem contains_any {l : List Str} {r : Str} : l.contains r = l.any fun x => x == r := by
  induction l with
  | nil => rfl
  | cons a l ih =>
    rw [List.contains_cons, List.any_cons, ih, BEq.comm (a := r)]

/-- a row's place: the row stands somewhere in the ledger's tail -/
theorem row_get {l : Addr} {vs : List Value} {n : Nat} {x : Int} {t : Tok} {ss : List Str} {value slice : PySem.Expr} {Q : Value → Shared → Prop} (N : News h₀ L s.heap news) (h1 : (l, listOf vs.toArray n) ∈ news) (hS : StrsAre vs ss) (h0 : 0 ≤ x) (hx : x < ss.length) (hsz : ss.length ≤ 1000)
    (h : ∀ u, Q (.str (ss.getD x.toNat Str.empty) u) s)
    (hs : subscripted slice false (.ref l) (.int x t) = operate [.ref l, .int x t] (getItem (.ref l) (.int x t)) := by with_unfolding_all rfl) :
    wpAny (model prog w) A (subscriptTail value slice (.ref l) (.int x t)) Q E s := by
  have hl := hS.length
  refine lst_get N h1 h0 (by omega) (by omega) ?_ hs
  have hlt : x.toNat < vs.length := by omega
  have hlt2 : x.toNat < ss.length := by omega
  obtain ⟨u, e⟩ := StrsAre.get hS x.toNat ss[x.toNat] (List.getElem?_eq_getElem hlt2)
  have e1 : vs.getD x.toNat .none = .str ss[x.toNat] u := by rw [List.getD_eq_getElem?_getD, e]; rfl
  have e2 : ss.getD x.toNat Str.empty = ss[x.toNat] := by simp [hlt2]
  rw [e1, ← e2]
  exact h u
end

section
variable {prog : Program} {w : World} {p : Program} {loose : List Str} {mean : ExcName → Option Value} {mg mb : Str → Option Value}

theorem news_front {h₀ h : Heap} {L : Addr} {l : Ledger} {q : Addr × Obj} (N : News h₀ L h l) (hm : q ∈ l) : News h₀ L h (q :: l) := fun p hp => by
  rcases List.mem_cons.mp hp with rfl | hp
  · exact N _ hm
  · exact N p hp

def lackExpr : Expr := match turnCode with
  | _ :: .For _ _ [.Assign _ e _] _ _ :: _ => e
  | _ => default

set_option maxHeartbeats 4000000 in
theorem comp_lack {dp un n : Nat} {t4 : Tok} {col : Int} {h₀ : Heap} {L fa sq sg : Addr} {cd : Value} {m : Str → Option Value} {c2 c4 : Obj} {sv ws : List Value} {sn c : Nat} {nw : Ledger} {s : Shared}
    {fr : Option (List Env)} {gd : Option (List Code)} {Q : Value → Shared → Prop} {rows : List (List Str)} {signs : List Str} (R : RowsAre n sv rows nw) (S : StrsAre ws signs) (hsz : signs.length ≤ 100) (hrz : rows.length ≤ 100) (hn : n ≤ 100) (hcol : 0 ≤ col) (hcn : col < n)
    (hc2 : c2.data = .cell (some (.ref sq))) (hc4 : c4.data = .cell (some (.int col t4)))
    (F : Fr h₀ L s.heap m) (X : (hd.heap_39 w.params).In h₀) (T : Top p loose mean mg mb h₀) (N : News h₀ L s.heap ((L + 4, c4) :: (L + 2, c2) :: (sg, listOf ws.toArray c) :: (sq, listOf sv.toArray sn) :: nw))
    (hm3 : m (Str.ofString "signs") = some (.ref sg))
    (ret : ∀ D h' tk xs, StrsAre xs (adjOf signs rows col) → Fr h₀ L h' m → News h₀ L h' ((D, LCg.lst xs) :: (L + 4, c4) :: (L + 2, c2) :: (sg, listOf ws.toArray c) :: (sq, listOf sv.toArray sn) :: nw) → LCg.Off1 D ((L + 4, c4) :: (L + 2, c2) :: (sg, listOf ws.toArray c) :: (sq, listOf sv.toArray sn) :: nw) → Q (.ref D) { s with heap := h', toks := tk }) :
    wpAny (model prog w) (topA dp un fr gd) (eval lackExpr (envOfC (Str.ofString "law") lawCode.2 L fa cd)) Q (fun _ _ => False) s := by
  dsimp only [lackExpr, turnCode, lawCode, PySem.Challenge.pw_bd0017_01]
  k_dflt (refine LCt.ListComp_T (F₀ := by k_asm) (by with_unfolding_all rfl) (by decide) (by rfl) (by decide) (by rfl) ?_)
  walk_at "HK2"
  refine LCt.CompSrcT.ledger rfl F N (List.mem_cons_of_mem _ (List.mem_cons_of_mem _ List.mem_cons_self)) (by rw [List.size_toArray, S.length, sizeLine_eq]; omega) fun g => ?_
  rw [List.size_toArray]
  refine comp_invT (fun i ys nw' => nw' = _ ∧ ∃ xs, xs = (signs.take i).filter (fun s => !(colv rows col).contains s) ∧ StrsAre ys xs) ?_ ?_ ?_ _ 0 [] _ (Nat.zero_add _) ⟨rfl, _, rfl, .nil⟩
  · rintro i ys nw' ⟨rfl, _⟩
    exact .inr ⟨_, List.mem_cons_of_mem _ (List.mem_cons_of_mem _ List.mem_cons_self), rfl, _, rfl⟩
  · rintro i ys nw' v I oI C oC D m₂ h tk E' hi hv ⟨rfl, xs, rfl, hys⟩ hC hx F' N' off ne
    clear F N ret
    have hvi : ws[i]? = some v := by simpa using hv
    obtain ⟨tv, hvi'⟩ := StrsAre.get S i _ (List.getElem?_eq_getElem (by rw [← S.length]; exact hi))
    rw [hvi] at hvi'
    obtain rfl := Option.some.inj hvi'
    walk_at "HK2"
    k_dflt (refine LCg.ListComp_U (F₀ := by k_asm) (by with_unfolding_all rfl) (by decide) (by rfl) (by decide) (by rfl) ?_)
    walk_at "HK2"
    refine LCg.CompSrc.ledger rfl F' N' (List.mem_cons_of_mem _ (List.mem_cons_of_mem _ (List.mem_cons_of_mem _ (List.mem_cons_of_mem _ (List.mem_cons_of_mem _ (List.mem_cons_of_mem _ List.mem_cons_self)))))) (by rw [List.size_toArray, R.len, sizeLine_eq]; omega) fun g2 => ?_
    rw [List.size_toArray]
    refine comp_inv (fun j zs nw' => nw' = _ ∧ StrsAre zs ((rows.take j).map fun r => r.getD col.toNat Str.empty)) ?_ ?_ ?_ _ 0 [] _ (Nat.zero_add _) ⟨rfl, .nil⟩
    · rintro j zs nw' ⟨rfl, _⟩
      exact .inr ⟨_, List.mem_cons_of_mem _ (List.mem_cons_of_mem _ (List.mem_cons_of_mem _ (List.mem_cons_of_mem _ (List.mem_cons_of_mem _ (List.mem_cons_of_mem _ List.mem_cons_self))))), rfl, _, rfl⟩
    · rintro j zs nw' v2 I2 oI2 C2 oC2 D2 m₃ h2 tk2 E2 hj hv2 ⟨rfl, hzs⟩ hC2 hx2 F2 N2 off2 ne2
      clear F' N'
      obtain ⟨a, rv, nn, r, er, rfl, hmem, hrv, hrl⟩ := R.row j v2 (by simpa using hv2)
      walk_at "HK2"
      refine row_get N2 (List.mem_cons_of_mem _ (List.mem_cons_of_mem _ (List.mem_cons_of_mem _ (List.mem_cons_of_mem _ (List.mem_cons_of_mem _ (List.mem_cons_of_mem _ (List.mem_cons_of_mem _ (List.mem_cons_of_mem _ (List.mem_cons_of_mem _ (List.mem_cons_of_mem _ hmem)))))))))) hrv hcol (by omega) (by omega) fun u => ?_
      refine comp_end F2 N2 off2 ⟨rfl, ?_⟩
      rw [List.take_add_one, er, List.map_append]
      exact strsSnoc hzs u
    · rintro zs nw' ⟨rfl, hzs⟩
      intro D2 h2 tk2 F2 N2 o2
      rw [R.len, List.take_length] at hzs
      clear F' N'
      have hlt : i < signs.length := by rw [← S.length]; exact hi
      walk_at "HK2"
      · rename_i hc
        refine comp_end F2 (news_sub N2 (.cons _ (.refl _))) off ⟨rfl, _, rfl, ?_⟩
        rw [List.take_add_one, List.getElem?_eq_getElem hlt, Option.toList_some, List.filter_append, List.filter_cons_of_neg, List.filter_nil, List.append_nil]
        · exact hys
        · rw [contains_any, show (colv rows col).any (fun x => x == signs[i]) = true from hc]; decide
      · rename_i hc
        refine comp_end F2 (news_sub N2 (.cons _ (.refl _))) off ⟨rfl, _, rfl, ?_⟩
        rw [List.take_add_one, List.getElem?_eq_getElem hlt, Option.toList_some, List.filter_append, List.filter_cons_of_pos, List.filter_nil]
        · exact strsSnoc hys tv
        · rw [contains_any, show (colv rows col).any (fun x => x == signs[i]) = false from hc]; rfl
  · rintro ys nw' ⟨rfl, xs, rfl, hys⟩
    intro D h tk F8 N8 o8
    rw [S.length, List.take_length] at hys
    exact ret D h tk ys hys F8 N8 o8
end
end

/-! part HkW -/
section
open PySem PySem.W PyProof.Rows PySem.Calls
local macro_rules | `(tactic| walk_at "setItem ref int") => `(tactic| (k_here; k_dflt (refine' pairs_set (knd := intKind _ _) ?F ?N ?U ?hk ?D ?i ?z ?_; (case F => k_asm); (case N => k_asm); (case U => k_updF); (case hk => exact intKind_is _ _ _ _); (case D => assumption); (case i => assumption); (case z => assumption)); intro h' o' F' N' D'; (try dsimp only at N'); (try k_sweep)))

def colBody : List Stmt := match turnCode with
  | _ :: .For _ _ b _ _ :: _ => b
  | _ => []

section
variable {prog : Program} {w : World} {p : Program} {loose : List Str} {mean : ExcName → Option Value} {mg mb : Str → Option Value}

theorem off1_mem {D : Addr} : ∀ {l : Ledger}, LCg.Off1 D l → ∀ p ∈ l, p.1 ≠ D
  | [], _, _, h => nomatch h
  | _ :: _, x, p, h => by
    rcases List.mem_cons.mp h with rfl | h
    · exact x.1
    · exact off1_mem x.2 p h
theorem rows_sub {n : Nat} {sv : List Value} {rows : List (List Str)} {a b : Ledger} (R : RowsAre n sv rows a) (h : ∀ q ∈ a, q ∈ b) : RowsAre n sv rows b :=
  ⟨R.len, fun j v hv => let ⟨x, rv, nn, r, e1, e2, e3, e4, e5⟩ := R.row j v hv; ⟨x, rv, nn, r, e1, e2, h _ e3, e4, e5⟩⟩

set_option maxHeartbeats 4000000 in
/-- one turn of the loop over the columns -/
theorem col_turn {dp un n : Nat} {t4 : Tok} {col : Int} {h₀ : Heap} {L fa nb sq sg lk I D2 : Addr} {cd : Value} {m : Str → Option Value} {c1 c2 c3 c4 c5 c6 oK oI : Obj} {v4 : Option Value} {nv sv ws wc : List Value} {nn sn c cc : Nat} {cs tl : Ledger} {s : Shared}
    {fr : Option (List Env)} {gd : Option (List Code)} {Q : Flow → Shared → Prop} {rows : List (List Str)} {signs : List Str} {kvs : List (Int × Value)} (R : RowsAre n sv rows tl) (S : StrsAre ws signs) (hsz : signs.length ≤ 100) (hrz : rows.length ≤ 100) (hn : n ≤ 100) (hcol : 0 ≤ col) (hcn : col < n)
    (hc2 : c2.data = .cell (some (.ref sq))) (hc3 : c3.data = .cell (some (.ref lk))) (hc4 : c4.data = .cell v4)
    (hdK : oK.IsDictOf (intKind prog w) kvs) (hnk : col ∉ kvs.map (·.1)) (hkz : kvs.length ≤ 100) (lo : (lk == sysModules) = false) (hL : @LT.lt Nat _ (L + 6) nb) (hL' : @LT.lt Nat _ nb sq)
    (neS : AllNe sg (base L nb sq c1 c2 c3 c4 c5 c6 nv sv nn sn (cs ++ tl))) (neK : AllNe lk ((I, oI) :: (D2, listOf wc.toArray cc) :: (sg, listOf ws.toArray c) :: base L nb sq c1 c2 c3 c4 c5 c6 nv sv nn sn (cs ++ tl))) (ne4 : AllNe (L + 4) ((I, oI) :: (D2, listOf wc.toArray cc) :: (lk, oK) :: (sg, listOf ws.toArray c) :: [])) (hof : OwnOff (cs ++ tl) [lk, L + 6, L + 5, L + 4, L + 3, L + 2, L + 1, nb, sq])
    (F : Fr h₀ L s.heap m) (X : (hd.heap_39 w.params).In h₀) (T : Top p loose mean mg mb h₀) (N : News h₀ L s.heap ((I, oI) :: (D2, listOf wc.toArray cc) :: (lk, oK) :: (sg, listOf ws.toArray c) :: base L nb sq c1 c2 c3 c4 c5 c6 nv sv nn sn (cs ++ tl)))
    (hm3 : m (Str.ofString "signs") = some (.ref sg))
    (ret : ∀ h' tk c4 oK D xs, c4.data = .cell (some (.int col t4)) → StrsAre xs (adjOf signs rows col) → oK.IsDictOf (intKind prog w) (kvs ++ [(col, .ref D)]) → AllNe D ((I, oI) :: (D2, listOf wc.toArray cc) :: (lk, oK) :: (sg, listOf ws.toArray c) :: base L nb sq c1 c2 c3 c4 c5 c6 nv sv nn sn (cs ++ tl)) →
      Fr h₀ L h' m → News h₀ L h' ((D, LCg.lst xs) :: (I, oI) :: (D2, listOf wc.toArray cc) :: (lk, oK) :: (sg, listOf ws.toArray c) :: base L nb sq c1 c2 c3 c4 c5 c6 nv sv nn sn (cs ++ tl)) → Q .next { s with heap := h', toks := tk }) :
    wpAny (model prog w) (topA dp un fr gd) (assign (Expr.Name (Str.ofString "column") ⟨95, 12, 95, 18⟩) (envOfC (Str.ofString "law") lawCode.2 L fa cd) (.int col t4)) (fun _ s₂ => wpAny (model prog w) (topA dp un fr gd) (execs colBody (envOfC (Str.ofString "law") lawCode.2 L fa cd)) Q (fun _ _ => False) s₂) (fun _ _ => False) s := by
  dsimp only [colBody, turnCode, lawCode, PySem.Challenge.pw_bd0017_01]
  simp only [base, AllNe] at N neS neK ne4
  obtain ⟨s1, s2, s3, s4, s5, s6, s7, s8, s9⟩ := neS
  obtain ⟨q1, q2, k0, k1, k2, k3, k4, k5, k6, k7, k8, k9⟩ := neK
  obtain ⟨f1, f2, f3, f4, _⟩ := ne4
  walk_at "HK2"
  rename News _ _ _ _ => N9
  rename Fr _ _ _ _ => F9
  rename_i h1 o4 d4
  have N10 := news_front (q := (L + 4, o4)) (news_front (q := (L + 2, c2)) (news_front (q := (sg, listOf ws.toArray c)) (news_front (q := (sq, listOf sv.toArray sn)) N9 (by k_mem)) (by k_mem)) (by k_mem)) (by k_mem)
  with_unfolding_all refine comp_lack (rows_sub R fun q hq => ?_) S hsz hrz hn hcol hcn hc2 d4 F9 X T N10 hm3 ?_
  · have : q ∈ cs ++ tl := List.mem_append_right _ hq
    repeat (first | exact this | refine List.mem_cons_of_mem _ ?_)
  intro D h2 tk2 xs hxs F8 N8 o8
  clear N9 F9 N10
  replace N8 : News h₀ L h2 ((D, LCg.lst xs) :: (I, oI) :: (D2, listOf wc.toArray cc) :: (lk, oK) :: (sg, listOf ws.toArray c) :: (L + 6, c6) :: (L + 5, c5) :: (L + 4, o4) :: (L + 3, c3) :: (L + 2, c2) :: (L + 1, c1) :: (nb, listOf nv.toArray nn) :: (sq, listOf sv.toArray sn) :: (cs ++ tl)) := news_sub N8 (by (repeat' (first | with_reducible exact List.Sublist.refl _ | refine List.Sublist.cons_cons _ ?_ | refine List.Sublist.cons _ ?_ | exact List.Sublist.refl _)))
  simp only [LCg.Off1] at o8
  obtain ⟨_, _, _, _, o1, o2, o3, o4', o5, o6, o7, o8, o9, o10, o11, o12, o13⟩ := o8
  have o13 : ∀ p ∈ cs ++ tl, p.1 ≠ D := off1_mem o13
  walk_at "HK2"
  rename_i F9 N9 d9
  refine ret _ _ _ _ D xs d4 hxs d9 ?_ F9 N9
  simp only [AllNe]
  exact ⟨o1, o2, o3, o4', o5, o6, o7, o8, o9, o10, o11, o12, allNe_of o13⟩
end
end

/-! part HkX -/
section
open PySem PySem.W PyProof.Rows PySem.Calls
theorem nums_mem {n : Nat} {c : Int} (h : c ∈ nums n) : 0 ≤ c ∧ c < n := by
  obtain ⟨i, hi, rfl⟩ := List.mem_map.mp h
  have := List.mem_range.mp hi
  show (0 : Int) ≤ (i : Int) ∧ (i : Int) < n
  omega
theorem nums_nodup {n : Nat} : (nums n).Nodup := by
  unfold nums
  exact List.pairwise_map.mpr (List.nodup_range.imp fun h e => h (Int.ofNat.inj e))
theorem mem_mid {pre t : Ledger} {x q : Addr × Obj} (h : q ∈ pre ++ (x :: t)) : q = x ∨ q ∈ pre ++ t := by
  rcases List.mem_append.mp h with h | h
  · exact .inr (List.mem_append_left _ h)
  · rcases List.mem_cons.mp h with h | h
    · exact .inl h
    · exact .inr (List.mem_append_right _ h)
theorem cols_snoc {adj : Int → List Str} {kvs : List (Int × Value)} {cs : Ledger} {c : Int} {D : Addr} {xs : List Value} (h : ColsAre adj kvs cs) (hx : StrsAre xs (adj c)) : ColsAre adj (kvs ++ [(c, .ref D)]) ((D, LCg.lst xs) :: cs) := by
  intro q hq
  rcases List.mem_append.mp hq with hq | hq
  · obtain ⟨a, ys, n, e1, e2, e3⟩ := h q hq
    exact ⟨a, ys, n, e1, List.mem_cons_of_mem _ e2, e3⟩
  · rw [List.mem_singleton.mp hq]
    exact ⟨D, xs, _, rfl, List.mem_cons_self, hx⟩

section
variable {prog : Program} {w : World} {p : Program} {loose : List Str} {mean : ExcName → Option Value} {mg mb : Str → Option Value}

set_option maxHeartbeats 4000000 in
theorem t1 {dp un n k : Nat} {tn tk : Tok} {h₀ : Heap} {L fa nb sq sg lk : Addr} {cd : Value} {m : Str → Option Value} {c1 c2 c3 c4 c5 c6 oK : Obj} {v4 v5 v6 : Option Value} {nv sv ws : List Value} {nn sn c : Nat} {tl : Ledger} {s : Shared}
    {fr : Option (List Env)} {gd : Option (List Code)} {Q : Flow → Shared → Prop} {rows : List (List Str)} {signs : List Str} (H : Held dp un n k L nb sq nv tl) (R : RowsAre n sv rows tl) (hrk : rows.length = k) (S : StrsAre ws signs) (hsz : signs.length ≤ 100)
    (hc1 : c1.data = .cell (some (.int n tn))) (hc2 : c2.data = .cell (some (.ref sq))) (hc3 : c3.data = .cell (some (.ref lk))) (hc4 : c4.data = .cell v4) (hc5 : c5.data = .cell v5) (hc6 : c6.data = .cell v6)
    (hdK : oK.IsDictOf (intKind prog w) []) (lo : (lk == sysModules) = false)
    (neS : AllNe sg (base L nb sq c1 c2 c3 c4 c5 c6 nv sv nn sn tl)) (neK : AllNe lk ((sg, listOf ws.toArray c) :: base L nb sq c1 c2 c3 c4 c5 c6 nv sv nn sn tl))
    (F : Fr h₀ L s.heap m) (X : (hd.heap_39 w.params).In h₀) (T : Top p loose mean mg mb h₀) (N : News h₀ L s.heap ((lk, oK) :: (sg, listOf ws.toArray c) :: base L nb sq c1 c2 c3 c4 c5 c6 nv sv nn sn tl))
    (hm1 : m (Str.ofString "numbers") = some (.ref nb)) (hm2 : m (Str.ofString "k") = some (.int k tk)) (hm3 : m (Str.ofString "signs") = some (.ref sg))
    (ret : ∀ h' tk c4 v4 oK kvs cs, (kvs.map (·.1)).Perm (nums n) → oK.IsDictOf (intKind prog w) kvs → ColsAre (adjOf signs rows) kvs cs → c4.data = .cell v4 → OwnOff cs [lk, L + 6, L + 5, L + 4, L + 3, L + 2, L + 1, nb, sq] →
      Fr h₀ L h' m → News h₀ L h' ((lk, oK) :: (sg, listOf ws.toArray c) :: base L nb sq c1 c2 c3 c4 c5 c6 nv sv nn sn (cs ++ tl)) → Q .next { s with heap := h', toks := tk }) :
    wpAny (model prog w) (topA dp un fr gd) (execs ((turnCode.drop 1).take 1) (envOfC (Str.ofString "law") lawCode.2 L fa cd)) Q (fun _ _ => False) s := by
  dsimp only [turnCode, lawCode, PySem.Challenge.pw_bd0017_01, List.take, List.drop]
  obtain ⟨hn, hn5, hk, hroom, hu, hnum, hl1, hl2, hL, hL', hi⟩ := H
  simp only [base, AllNe] at N neS neK
  obtain ⟨s1, s2, s3, s4, s5, s6, s7, s8, s9⟩ := neS
  obtain ⟨k0, k1, k2, k3, k4, k5, k6, k7, k8, k9⟩ := neK
  walk_at "HK2"
  with_unfolding_all refine For_turns F ?_ (by intro _; rfl) (by passes_own)
  walk_at "HK2"
  walk_at "call ref"
  walk_at "HK2"
  rename_i h3 tk3 D2 ws2 cc2 P2 F2 N2 g1 g2 g3 g4 g5 g6 g7 g8 g9 g10 g11 g12
  rename IntsAre _ _ => I2
  obtain ⟨cols, Ic, Pc⟩ := ints_perm I2 P2
  have hwl : ws2.length = n := by rw [Ic.length, Pc.length_eq, nums_len]
  with_unfolding_all refine turns_news (J := fun i m' nw => m' = m ∧ ∃ c4 v4 oK kvs cs, nw = (D2, listOf ws2.toArray cc2) :: (lk, oK) :: (sg, listOf ws.toArray c) :: base L nb sq c1 c2 c3 c4 c5 c6 nv sv nn sn (cs ++ tl) ∧ c4.data = .cell v4 ∧ oK.IsDictOf (intKind prog w) kvs ∧ kvs.map (·.1) = cols.take i ∧ ColsAre (adjOf signs rows) kvs cs ∧ OwnOff (cs ++ tl) [sg, lk, L + 6, L + 5, L + 4, L + 3, L + 2, L + 1, nb, sq]) (vs := ws2) (n := cc2) (news := (D2, listOf ws2.toArray cc2) :: (lk, oK) :: (sg, listOf ws.toArray c) :: base L nb sq c1 c2 c3 c4 c5 c6 nv sv nn sn ([] ++ tl)) (by intros; rfl) rfl F2 (news_sub N2 (by (repeat' (first | with_reducible exact List.Sublist.refl _ | refine List.Sublist.cons_cons _ ?_ | refine List.Sublist.cons _ ?_ | exact List.Sublist.refl _)))) ⟨rfl, c4, v4, oK, [], [], rfl, hc4, hdK, rfl, (fun _ h => nomatch h), ?_⟩ (fun i m' nw hJ => ?_) ?_ ?_
  · intro q hq b hb
    rcases List.mem_cons.mp hb with rfl | hb
    · exact allNe_ne s9 q hq
    · rcases List.mem_cons.mp hb with rfl | hb
      · exact allNe_ne k9 q hq
      · exact hi q hq b hb
  · obtain ⟨_, c4, v4, oK, kvs, cs, rfl, _⟩ := hJ
    exact List.mem_cons_self
  · rintro i v m' nw h tk I oI hv ⟨rfl, c4, v4, oK, kvs, cs, rfl, hc4, hdK, hkv, hcs, hof⟩ F N neI
    clear F2 N2 ret
    have hil : i < ws2.length := by
      rcases Nat.lt_or_ge i ws2.length with h | h
      · exact h
      · rw [List.getElem?_eq_none h] at hv; cases hv
    have hil2 : i < cols.length := by rw [← Ic.length]; exact hil
    obtain ⟨tc, hvi⟩ := IntsAre.get Ic i _ (List.getElem?_eq_getElem hil2)
    rw [hv] at hvi
    obtain rfl := Option.some.inj hvi
    have hcm := nums_mem (Pc.mem_iff.mp (List.getElem_mem hil2))
    have hnk : cols[i] ∉ kvs.map (·.1) := by
      rw [hkv]
      intro hm
      obtain ⟨j, hj1, hj2⟩ := List.getElem_of_mem hm
      rw [List.getElem_take] at hj2
      have hji : j < i := by rw [List.length_take] at hj1; omega
      have := (List.getElem_inj (Pc.nodup_iff.mpr nums_nodup)).mp hj2
      omega
    have hkl : kvs.length ≤ 100 := by
      have := congrArg List.length hkv
      rw [List.length_map, List.length_take] at this
      omega
    have neI' := allNe_of neI
    simp only [base, AllNe] at neI'
    obtain ⟨i1, i2, i3, i4, i5, i6, i7, i8, i9, i10, i11, i12⟩ := neI'
    have a1 : AllNe sg (cs ++ tl) := allNe_of (OwnOff.ne hof (by k_memK))
    have a2 : AllNe lk (cs ++ tl) := allNe_of (OwnOff.ne hof (by k_memK))
    with_unfolding_all refine col_turn (cc := cc2) R S hsz (by omega) (by omega) hcm.1 hcm.2 hc2 hc3 hc4 hdK hnk hkl lo hL hL' ?_ ?_ ?_ (fun q hq b hb => hof q hq b (List.mem_cons_of_mem _ hb)) F X T N hm3 ?_
    · simp only [AllNe]
      exact ⟨s1, s2, s3, s4, s5, s6, s7, s8, a1⟩
    · simp only [AllNe]
      exact ⟨Ne.symm i2, Ne.symm g2, k0, k1, k2, k3, k4, k5, k6, k7, k8, a2⟩
    · simp only [AllNe]
      exact ⟨Ne.symm i6, Ne.symm g6, Ne.symm k3, Ne.symm s3, trivial⟩
    · intro h' tk' c4' oK' D xs d4' hxs hd' neD F' N'
      simp only [AllNe] at neD
      obtain ⟨o1, o2, o3, o4', o5, o6, o7, o8, o9, o10, o11, o12, o13⟩ := neD
      refine ⟨rfl, h', tk', m', (D2, listOf ws2.toArray cc2) :: (lk, oK') :: (sg, listOf ws.toArray c) :: base L nb sq c1 c2 c3 c4' c5 c6 nv sv nn sn (((D, LCg.lst xs) :: cs) ++ tl), rfl, F', ?_, ?_, rfl, c4', _, oK', _, _, rfl, d4', hd', ?_, cols_snoc hcs hxs, ?_⟩
      · intro q hq
        rcases List.mem_cons.mp hq with rfl | hq
        · exact N' _ (List.mem_cons_of_mem _ List.mem_cons_self)
        · rcases mem_mid (pre := [(D2, listOf ws2.toArray cc2), (lk, oK'), (sg, listOf ws.toArray c), (L + 6, c6), (L + 5, c5), (L + 4, c4'), (L + 3, c3), (L + 2, c2), (L + 1, c1), (nb, listOf nv.toArray nn), (sq, listOf sv.toArray sn)]) hq with rfl | hq
          · exact N' _ List.mem_cons_self
          · exact N' _ (List.mem_cons_of_mem _ (List.mem_cons_of_mem _ hq))
      · intro q hq
        rcases mem_mid (pre := [(D2, listOf ws2.toArray cc2), (lk, oK'), (sg, listOf ws.toArray c), (L + 6, c6), (L + 5, c5), (L + 4, c4'), (L + 3, c3), (L + 2, c2), (L + 1, c1), (nb, listOf nv.toArray nn), (sq, listOf sv.toArray sn)]) hq with rfl | hq
        · exact Ne.symm o1
        · refine allNe_ne ?_ q hq
          simp only [List.cons_append, List.nil_append, AllNe]
          exact ⟨i1, i2, i3, i4, i5, i6, i7, i8, i9, i10, i11, i12⟩
      · rw [List.map_append, hkv, List.take_add_one, List.getElem?_eq_getElem hil2]
        rfl
      · intro q hq b hb
        rcases List.mem_cons.mp hq with rfl | hq
        · simp only [List.mem_cons, List.not_mem_nil, or_false] at hb
          rcases hb with rfl | rfl | rfl | rfl | rfl | rfl | rfl | rfl | rfl | rfl
          · exact Ne.symm o4'
          · exact Ne.symm o3
          · exact Ne.symm o5
          · exact Ne.symm o6
          · exact Ne.symm o7
          · exact Ne.symm o8
          · exact Ne.symm o9
          · exact Ne.symm o10
          · exact Ne.symm o11
          · exact Ne.symm o12
        · exact hof q hq b hb
  · rintro m' nw h tk ⟨rfl, c4, v4, oK, kvs, cs, rfl, hc4, hdK, hkv, hcs, hof⟩ F N
    rw [Ic.length, List.take_length] at hkv
    refine wpAny_execs_nil (ret h tk c4 v4 oK kvs cs (hkv ▸ Pc) hdK hcs hc4 (fun q hq b hb => hof q (List.mem_append_left _ hq) b (List.mem_cons_of_mem _ hb)) F (news_sub N (.cons _ (.refl _))))
end
end

/-! part HkY -/
section
open PySem PySem.W PyProof.Rows PySem.Calls
def givenExpr : Expr := match turnCode with
  | _ :: _ :: .Assign _ (.Call _ (e :: _) _ _) _ :: _ => e
  | _ => default

theorem valueAt_at {K : Type} [DecidableEq K] : ∀ {kvs : List (K × Value)} {i : Nat} {k : K} {y : Value}, (kvs.map (·.1)).Nodup → kvs[i]? = some (k, y) → valueAt kvs k = some y
  | [], _, _, _, _, h => by simp at h
  | q :: r, 0, k, y, _, h => by
    simp only [List.getElem?_cons_zero, Option.some.injEq] at h
    subst h
    simp [valueAt]
  | q :: r, i + 1, k, y, hn, h => by
    simp only [List.getElem?_cons_succ] at h
    rw [List.map_cons, List.nodup_cons] at hn
    have ih := valueAt_at hn.2 h
    have hk : q.1 ≠ k := fun e => hn.1 (by rw [e]; exact List.mem_map.mpr ⟨(k, y), List.mem_of_getElem? h, rfl⟩)
    unfold valueAt at ih ⊢
    rw [List.find?_cons_of_neg (by simpa using hk)]
    exact ih

section
variable {prog : Program} {w : World} {A : Around} {E : Value → Shared → Prop} {s : Shared} {h₀ : Heap} {L d : Addr} {m : Str → Option Value} {news : Ledger}
theorem pairs_get {K : Type} [DecidableEq K] {knd : KeyKind prog w K} {o : Obj} {kvs : List (K × Value)} {k : K} {key x : Value} {value slice : PySem.Expr} {Q : Value → Shared → Prop} (N : News h₀ L s.heap news) (hm : (d, o) ∈ news) (hkey : knd.is k key = true)
    (hd : o.IsDictOf knd kvs) (hv : valueAt kvs k = some x) (h : Q x { s with toks := s.toks + 1 })
    (hs : subscripted slice false (.ref d) key = operate [.ref d, key] (getItem (.ref d) key) := by with_unfolding_all rfl) :
    wpAny (model prog w) A (subscriptTail value slice (.ref d) key) Q E s := by
  have M := (Heap.dictOf_iff.mpr ⟨o, N.get hm, hd⟩).mapOf
  exact tail_any M.typeIs slot_dict_getitem.lookup (wpAny_getItem_of hkey M hv h) hs
end

section
variable {prog : Program} {w : World} {p : Program} {loose : List Str} {mean : ExcName → Option Value} {mg mb : Str → Option Value}

/-- the items that the comprehension gathers: a pair for each -/
def TupsAre (ts : List Value) (prs : List (Int × Value)) (js : Ledger) : Prop :=
  ts.length = prs.length ∧ ∀ i (h1 : i < ts.length) (h2 : i < prs.length), ∃ T t, ts[i] = Value.ref T ∧ (T, tupOf [.int prs[i].1 t, prs[i].2]) ∈ js

theorem tups_snoc {ts : List Value} {prs : List (Int × Value)} {js js' : Ledger} {T : Addr} {k : Int} {t : Tok} {y : Value} (h : TupsAre ts prs js) (hm : (T, tupOf [.int k t, y]) ∈ js') (hs : ∀ q ∈ js, q ∈ js') : TupsAre (ts ++ [.ref T]) (prs ++ [(k, y)]) js' := by
  obtain ⟨hl, h⟩ := h
  refine ⟨by rw [List.length_append, List.length_append, hl]; rfl, fun i h1 h2 => ?_⟩
  by_cases hi : i < ts.length
  · obtain ⟨T', t', e1, e2⟩ := h i hi (by omega)
    refine ⟨T', t', by rw [List.getElem_append_left hi]; exact e1, ?_⟩
    rw [List.getElem_append_left (by omega)]
    exact hs _ e2
  · have hi' : i = ts.length := by rw [List.length_append] at h1; simp only [List.length_singleton] at h1; omega
    subst hi'
    refine ⟨T, t, by simp, ?_⟩
    have : (prs ++ [(k, y)])[ts.length] = (k, y) := by simp [hl]
    rw [this]
    exact hm
theorem cols_snoc' {adj : Int → List Str} {prs : List (Int × Value)} {js js' : Ledger} {k : Int} {B : Addr} {xs : List Value} {n : Nat} (h : ColsAre adj prs js) (hm : (B, listOf xs.toArray n) ∈ js') (hs : ∀ q ∈ js, q ∈ js') (hx : StrsAre xs (adj k)) : ColsAre adj (prs ++ [(k, .ref B)]) js' := by
  intro q hq
  rcases List.mem_append.mp hq with hq | hq
  · obtain ⟨a, ys, n, e1, e2, e3⟩ := h q hq
    exact ⟨a, ys, n, e1, hs _ e2, e3⟩
  · rw [List.mem_singleton.mp hq]
    exact ⟨B, xs, n, rfl, hm, hx⟩

set_option maxHeartbeats 4000000 in
theorem comp_given {dp un : Nat} {h₀ : Heap} {L fa lk : Addr} {cd : Value} {m : Str → Option Value} {c3 oK : Obj} {nw : Ledger} {s : Shared} {kvs : List (Int × Value)} {adj : Int → List Str}
    {fr : Option (List Env)} {gd : Option (List Code)} {Q : Value → Shared → Prop} (hkz : kvs.length ≤ 100) (lo : (lk == sysModules) = false)
    (hc3 : c3.data = .cell (some (.ref lk))) (hdK : oK.IsDictOf (intKind prog w) kvs) (hcs : ColsAre adj kvs nw) (hal : ∀ c, (adj c).length ≤ 100)
    (F : Fr h₀ L s.heap m) (X : (hd.heap_39 w.params).In h₀) (T : Top p loose mean mg mb h₀) (N : News h₀ L s.heap ((L + 3, c3) :: (lk, oK) :: nw))
    (ret : ∀ D h' tk ts js prs, prs.map (·.1) = kvs.map (·.1) → TupsAre ts prs js → ColsAre adj prs js → OwnOff js (((L + 3, c3) :: (lk, oK) :: nw).map (·.1)) → Fr h₀ L h' m → News h₀ L h' ((D, LCg.lst ts) :: (js ++ ((L + 3, c3) :: (lk, oK) :: nw))) → Q (.ref D) { s with heap := h', toks := tk }) :
    wpAny (model prog w) (topA dp un fr gd) (eval givenExpr (envOfC (Str.ofString "law") lawCode.2 L fa cd)) Q (fun _ _ => False) s := by
  dsimp only [givenExpr, turnCode, lawCode, PySem.Challenge.pw_bd0017_01]
  have hnk : (kvs.map (·.1)).Nodup := by obtain ⟨_, _, _, _, _, _, hn⟩ := hdK; exact hn
  k_dflt (refine ListComp_dict (h₀ := h₀) (L := L) (m := m) (intKind prog w) (by with_unfolding_all rfl) (by decide) (by rfl) (by decide) (by rfl) ?_)
  walk_at "HK2"
  refine ⟨lk, oK, kvs, (L + 3, c3) :: (lk, oK) :: nw, rfl, rfl, F, N, List.mem_cons_of_mem _ List.mem_cons_self, lo, hdK, by omega, fun g => ?_⟩
  refine comp_inv (fun i ys nw' => ∃ js prs, nw' = js ++ ((L + 3, c3) :: (lk, oK) :: nw) ∧ prs.map (·.1) = (kvs.take i).map (·.1) ∧ TupsAre ys prs js ∧ ColsAre adj prs js ∧ OwnOff js (((L + 3, c3) :: (lk, oK) :: nw).map (·.1))) ?_ ?_ ?_ _ 0 [] _ (Nat.zero_add _) ⟨[], [], rfl, rfl, ⟨rfl, fun _ h1 => absurd h1 (Nat.not_lt_zero _)⟩, (fun _ h => nomatch h), fun _ h => nomatch h⟩
  · rintro i ys nw' ⟨js, prs, rfl, _⟩
    exact List.mem_append_right _ (List.mem_cons_of_mem _ List.mem_cons_self)
  · rintro i ys nw' v I oI C oC D m₂ h tk E' hi ⟨k, y, hky, hkv⟩ ⟨js, prs, rfl, hpr, hts, hcl, hjo⟩ hC hx F' N' off ne
    clear F N ret
    obtain ⟨t, rfl⟩ := Value.isInt_shape (show Value.isInt k v = true from hkv)
    obtain ⟨a, xs, nx, e1, e2, e3⟩ := hcs (k, y) (List.mem_of_getElem? hky)
    dsimp only at e1 e3
    subst e1
    have N2 := news_front (q := (L + 3, c3)) (news_front (q := (lk, oK)) (news_front (q := (a, listOf xs.toArray nx)) N' (by repeat (first | exact e2 | refine List.mem_cons_of_mem _ ?_ | refine List.mem_append_right _ ?_))) (by repeat (first | exact List.mem_append_right _ (List.mem_cons_of_mem _ List.mem_cons_self) | refine List.mem_cons_of_mem _ ?_))) (by repeat (first | exact List.mem_append_right _ List.mem_cons_self | refine List.mem_cons_of_mem _ ?_))
    clear N'
    walk_at "HK2"
    refine pairs_get N2 (List.mem_cons_of_mem _ List.mem_cons_self) hkv hdK (valueAt_at hnk hky) ?_
    walk_at "HK2"
    refine lst_copy F' N2 (List.mem_cons_of_mem _ (List.mem_cons_of_mem _ List.mem_cons_self)) (by rw [e3.length]; have := hal k; omega) fun B h1 cB F1 N1 l1 => ?_
    clear N2
    walk_at "HK2"
    rename_i T2 h2 F2 N2 g1 g2 g3 g4 g5 g6 g7 g8
    refine comp_end (news' := (T2, tupOf [.int k t, .ref B]) :: (B, listOf xs.toArray cB) :: js ++ ((L + 3, c3) :: (lk, oK) :: nw)) F2 (fun q hq => ?_) ⟨⟨Ne.symm (Nat.ne_of_lt g5), Ne.symm (Nat.ne_of_lt g6), Ne.symm (Nat.ne_of_lt g7)⟩, ⟨Nat.ne_of_gt (l1 (I, oI) (by k_mem)), Nat.ne_of_gt (l1 (C, oC) (by k_mem)), Nat.ne_of_gt (l1 (D, LCg.lst ys) (by k_mem))⟩, off⟩
      ⟨(T2, tupOf [.int k t, .ref B]) :: (B, listOf xs.toArray cB) :: js, prs ++ [(k, .ref B)], rfl, ?_, tups_snoc hts List.mem_cons_self (fun q hq => List.mem_cons_of_mem _ (List.mem_cons_of_mem _ hq)), cols_snoc' hcl (List.mem_cons_of_mem _ List.mem_cons_self) (fun q hq => List.mem_cons_of_mem _ (List.mem_cons_of_mem _ hq)) e3, ?_⟩
    · refine N2 q ?_
      rcases List.mem_cons.mp hq with rfl | hq
      · k_mem
      rcases List.mem_cons.mp hq with rfl | hq
      · k_mem
      rcases List.mem_cons.mp hq with rfl | hq
      · k_mem
      rcases List.mem_cons.mp hq with rfl | hq
      · k_mem
      rcases List.mem_cons.mp hq with rfl | hq
      · k_mem
      · repeat (first | exact hq | refine List.mem_cons_of_mem _ ?_)
    · rw [List.map_append, hpr, List.take_add_one, hky, List.map_append]
      rfl
    · intro q hq b hb
      obtain ⟨p0, hp0, rfl⟩ := List.mem_map.mp hb
      rcases List.mem_cons.mp hq with rfl | hq
      · exact Ne.symm (allLt_ne g8 _ (List.mem_append_right _ hp0))
      · rcases List.mem_cons.mp hq with rfl | hq
        · exact Nat.ne_of_gt (l1 _ (by repeat (first | exact List.mem_append_right _ hp0 | refine List.mem_cons_of_mem _ ?_)))
        · exact hjo q hq _ hb
  · rintro ys nw' ⟨js, prs, rfl, hpr, hts, hcl, hjo⟩
    intro D h tk F8 N8 o8
    rw [List.take_length] at hpr
    exact ret D h tk ys js prs hpr hts hcl hjo F8 N8

set_option maxHeartbeats 4000000 in
/-- the copy that is kept to compare -/
theorem t2 {dp un n k : Nat} {h₀ : Heap} {L fa nb sq lk : Addr} {cd : Value} {m : Str → Option Value} {c1 c2 c3 c4 c5 c6 oK : Obj} {nv sv : List Value} {nn sn : Nat} {tl : Ledger} {s : Shared} {kvs : List (Int × Value)} {adj : Int → List Str}
    {fr : Option (List Env)} {gd : Option (List Code)} {Q : Flow → Shared → Prop} (H : Held dp un n k L nb sq nv tl) (hkz : kvs.length ≤ 100) (lo : (lk == sysModules) = false)
    (hc3 : c3.data = .cell (some (.ref lk))) (hdK : oK.IsDictOf (intKind prog w) kvs) (hcs : ColsAre adj kvs tl) (hal : ∀ c, (adj c).length ≤ 100)
    (F : Fr h₀ L s.heap m) (X : (hd.heap_39 w.params).In h₀) (T : Top p loose mean mg mb h₀) (N : News h₀ L s.heap ((lk, oK) :: base L nb sq c1 c2 c3 c4 c5 c6 nv sv nn sn tl))
    (ret : ∀ h' tk gv oG prs js, prs.map (·.1) = kvs.map (·.1) → oG.IsDictOf (intKind prog w) prs → ColsAre adj prs js → OwnOff js [L + 6, L + 5, L + 4, L + 3, L + 2, L + 1, nb, sq] → (gv == sysModules) = false →
      AllNe gv ((lk, oK) :: base L nb sq c1 c2 c3 c4 c5 c6 nv sv nn sn (js ++ tl)) → Fr h₀ L h' (fun y => if y = Str.ofString "given" then some (.ref gv) else m y) → News h₀ L h' ((gv, oG) :: (lk, oK) :: base L nb sq c1 c2 c3 c4 c5 c6 nv sv nn sn (js ++ tl)) → Q .next { s with heap := h', toks := tk }) :
    wpAny (model prog w) (topA dp un fr gd) (execs ((turnCode.drop 2).take 1) (envOfC (Str.ofString "law") lawCode.2 L fa cd)) Q (fun _ _ => False) s := by
  dsimp only [turnCode, lawCode, PySem.Challenge.pw_bd0017_01, List.take, List.drop]
  obtain ⟨hn, hn5, hk, hroom, hu, hnum, hl1, hl2, hL, hL', hi⟩ := H
  have N1 := news_front (q := (L + 3, c3)) (news_front (q := (lk, oK)) N List.mem_cons_self) (by simp only [base]; k_mem)
  walk_at "HK2"
  with_unfolding_all refine comp_given (nw := (lk, oK) :: base L nb sq c1 c2 c3 c4 c5 c6 nv sv nn sn tl) hkz lo hc3 hdK (fun q hq => ?_) hal F X T N1 ?_
  · obtain ⟨a, xs, nx, e1, e2, e3⟩ := hcs q hq
    refine ⟨a, xs, nx, e1, ?_, e3⟩
    simp only [base]
    repeat (first | exact e2 | refine List.mem_cons_of_mem _ ?_)
  intro D h' tk ts js prs hpr hts hcl hjo F8 N8
  clear N N1 F
  have hnd : (prs.map (·.1)).Nodup := by
    rw [hpr]; obtain ⟨_, _, _, _, _, _, hn⟩ := hdK; exact hn
  have hpl : prs.length ≤ 1000 := by
    have := congrArg List.length hpr
    rw [List.length_map, List.length_map] at this
    omega
  have sub : ∀ q ∈ (lk, oK) :: base L nb sq c1 c2 c3 c4 c5 c6 nv sv nn sn (js ++ tl), q ∈ (D, LCg.lst ts) :: (js ++ ((L + 3, c3) :: (lk, oK) :: (lk, oK) :: base L nb sq c1 c2 c3 c4 c5 c6 nv sv nn sn tl)) := by
    intro q hq
    refine List.mem_cons_of_mem _ ?_
    rcases List.mem_append.mp (show q ∈ [(lk, oK), (L + 6, c6), (L + 5, c5), (L + 4, c4), (L + 3, c3), (L + 2, c2), (L + 1, c1), (nb, listOf nv.toArray nn), (sq, listOf sv.toArray sn)] ++ (js ++ tl) from hq) with h | h
    · exact List.mem_append_right _ (List.mem_cons_of_mem _ (List.mem_cons_of_mem _ (show q ∈ [(lk, oK), (L + 6, c6), (L + 5, c5), (L + 4, c4), (L + 3, c3), (L + 2, c2), (L + 1, c1), (nb, listOf nv.toArray nn), (sq, listOf sv.toArray sn)] ++ tl from List.mem_append_left _ h)))
    · rcases List.mem_append.mp h with h | h
      · exact List.mem_append_left _ h
      · exact List.mem_append_right _ (List.mem_cons_of_mem _ (List.mem_cons_of_mem _ (show q ∈ [(lk, oK), (L + 6, c6), (L + 5, c5), (L + 4, c4), (L + 3, c3), (L + 2, c2), (L + 1, c1), (nb, listOf nv.toArray nn), (sq, listOf sv.toArray sn)] ++ tl from List.mem_append_right _ h)))
  walk_at "HK2"
  refine dict_of_pairs (knd := intKind _ _) rfl F8 N8 (modules_low T.nolimit) List.mem_cons_self hts.1 (fun i h1 h2 => ?_) hnd hpl fun gv h2 tk2 oG F9 N9 l9 lo9 hG => ?_
  · obtain ⟨T', t', e1, e2⟩ := hts.2 i h1 h2
    exact ⟨T', .int prs[i].1 t', e1, ⟨_, (N8 _ (List.mem_cons_of_mem _ (List.mem_append_left _ e2))).1, rfl, _, rfl⟩, intKind_is _ _ _ _⟩
  replace N9 : News h₀ L h2 ((gv, oG) :: (lk, oK) :: base L nb sq c1 c2 c3 c4 c5 c6 nv sv nn sn (js ++ tl)) := fun q hq => by
    rcases List.mem_cons.mp hq with rfl | hq
    · exact N9 _ List.mem_cons_self
    · exact N9 _ (List.mem_cons_of_mem _ (sub q hq))
  replace l9 : AllNe gv ((lk, oK) :: base L nb sq c1 c2 c3 c4 c5 c6 nv sv nn sn (js ++ tl)) := allNe_of fun q hq => Nat.ne_of_lt (l9 q (sub q hq))
  clear sub N8 F8
  walk_at "HK2"
  rename_i F8 N8
  refine ret _ _ gv oG prs js hpr hG hcl (fun q hq b hb => hjo q hq b ?_) lo9 l9 F8 N8
  simp only [base, List.map_cons, List.mem_cons, List.not_mem_nil, or_false] at hb ⊢
  rcases hb with rfl | rfl | rfl | rfl | rfl | rfl | rfl | rfl <;> simp
end
end

/-! part HkAA -/
section
open PySem PySem.W PyProof.Rows PySem.Calls
section
variable {prog : Program} {w : World} {p : Program} {loose : List Str} {mean : ExcName → Option Value} {mg mb : Str → Option Value}

theorem valueAt_mem {K : Type} [DecidableEq K] {kvs : List (K × Value)} {k : K} {x : Value} (h : valueAt kvs k = some x) : (k, x) ∈ kvs := by
  unfold valueAt at h
  cases e : kvs.find? fun q => decide (q.1 = k) with
  | none => rw [e] at h; cases h
  | some q =>
    rw [e] at h
    have h1 := List.find?_some e
    have h2 := List.mem_of_find?_eq_some e
    have : q = (k, x) := Prod.ext (of_decide_eq_true h1) (Option.some.inj h)
    exact this ▸ h2
theorem valueAt_key {K : Type} [DecidableEq K] {kvs : List (K × Value)} {k : K} (h : k ∈ kvs.map (·.1)) : ∃ x, valueAt kvs k = some x := by
  obtain ⟨q, hq, rfl⟩ := List.mem_map.mp h
  unfold valueAt
  cases e : kvs.find? fun r => decide (r.1 = q.1) with
  | none => exact absurd (decide_eq_true rfl) (List.find?_eq_none.mp e q hq)
  | some r => exact ⟨_, rfl⟩

theorem hide_part (h : Heap) (as : List Addr) : ∀ b o, (hideAll h as).get? b = some o → h.get? b = some o ∧ b ∉ as := fun b o e =>
  ⟨of_hideAll _ e, fun hb => by
    have h1 : (hideAll h as).get? b = none := hideAll_none _ hb
    rw [h1] at e; cases e⟩
theorem imm_rest {h : Heap} {a : Ad} {G : Gr} {rest : Ledger} {vs : List Value} {cl : Nat} (get : ∀ q ∈ rest, h.get? q.1 = some q.2)
    (hlf : (a.lf, listOf vs.toArray cl) ∈ rest) (Iv : IntsAre vs G.left) (x : GraL prog w rest a.gl G) : Imm prog w h a G := by
  obtain ⟨lo, oG, kvs, hm, hd, hk, hv⟩ := x
  refine ⟨⟨vs, ⟨_, get _ hlf, rfl, cl, rfl⟩, Iv⟩, oG, fun c => match valueAt kvs c with | some (.ref ad) => some ad | _ => none, get _ hm, ⟨kvs, hd, fun q hq => hk ▸ List.mem_map.mpr ⟨q, hq, rfl⟩, fun c => ?_⟩, fun c hc => ?_⟩
  · cases e : valueAt kvs c with
    | none => simp only [e]
    | some y =>
      obtain ⟨ad, ws, n, e1, _, _⟩ := hv _ (valueAt_mem e)
      dsimp only at e1
      subst e1
      simp only [e]
      exact ⟨_, rfl, rfl⟩
  · rw [← hk] at hc
    obtain ⟨y, e⟩ := valueAt_key hc
    obtain ⟨ad, ws, n, e1, e2, e3⟩ := hv _ (valueAt_mem e)
    dsimp only at e1
    subst e1
    exact ⟨ad, ws, by simp only [e], ⟨_, get _ e2, rfl, n, rfl⟩, e3⟩
theorem hide_rest {h₀ h : Heap} {L : Addr} {rest : Ledger} {as : List Addr} (N : News h₀ L h rest) (off : OwnOff rest as) : ∀ q ∈ rest, (hideAll h as).get? q.1 = some q.2 :=
  fun q hq => hideAll_get as (N q hq).1 fun hb => off q hq q.1 hb rfl
theorem immAt_of {h₀ h : Heap} {L : Addr} {a : Ad} {G : Gr} {rest : Ledger} {vs : List Value} {cl : Nat} (N : News h₀ L h rest) (off : OwnOff rest (adrs a))
    (hlf : (a.lf, listOf vs.toArray cl) ∈ rest) (Iv : IntsAre vs G.left) (x : GraL prog w rest a.gl G) : ImmAt prog w h a G := by
  have h1 := imm_rest (h := hideAll h (adrs a)) (hide_rest N off) hlf Iv x
  exact ⟨_, h1, hide_part h (adrs a)⟩

end
end

/-! part HkAB -/
section
open PySem PySem.W PyProof.Rows PySem.Calls
section
variable {prog : Program} {w : World} {p : Program} {loose : List Str} {mean : ExcName → Option Value} {mg mb : Str → Option Value}

theorem ownOff_map {a b : Ledger} {as : List Addr} (e : a.map (·.1) = b.map (·.1)) (h : OwnOff a as) : OwnOff b as := fun q hq x hx => by
  have : q.1 ∈ a.map (·.1) := e ▸ List.mem_map.mpr ⟨q, hq, rfl⟩
  obtain ⟨r, hr, er⟩ := List.mem_map.mp this
  exact er ▸ h r hr x hx

set_option maxHeartbeats 4000000 in
/-- the finder is made and asked for the first time -/
theorem t3 {dp un n k : Nat} {h₀ : Heap} {L fa nb sq lk gv : Addr} {cd : Value} {m : Str → Option Value} {c1 c2 c3 c4 c5 c6 oK oG : Obj} {v6 : Option Value} {nv sv : List Value} {nn sn : Nat} {tl : Ledger} {s : Shared} {kvs : List (Int × Value)} {adj : Int → List Str} {ss : List Str} {σ : PS} {rf : Int}
    {fr : Option (List Env)} {gd : Option (List Code)} {Q : Flow → Shared → Prop} (H : Held dp un n k L nb sq nv tl) (hkz : kvs.length = n) (lo : (lk == sysModules) = false)
    (hc3 : c3.data = .cell (some (.ref lk))) (hc6 : c6.data = .cell v6) (hdK : oK.IsDictOf (intKind prog w) kvs) (hcs : ColsAre adj kvs tl) (sz : Sized ⟨kvs.map (·.1), adj⟩ ss) (hr : run ⟨kvs.map (·.1), adj⟩ = some (σ, n, rf))
    (neG : AllNe gv ((lk, oK) :: base L nb sq c1 c2 c3 c4 c5 c6 nv sv nn sn tl)) (neK : AllNe lk (base L nb sq c1 c2 c3 c4 c5 c6 nv sv nn sn []))
    (F : Fr h₀ L s.heap m) (X : (hd.heap_39 w.params).In h₀) (T : Top p loose mean mg mb h₀) (N : News h₀ L s.heap ((gv, oG) :: (lk, oK) :: base L nb sq c1 c2 c3 c4 c5 c6 nv sv nn sn tl))
    (ret : ∀ h' tk a tr oP oR oD c6 vs cl tc, a.gl = lk → Apart a → IntsAre vs (kvs.map (·.1)) → StR prog w (kvs.map (·.1)) ss oP oR oD σ → c6.data = .cell (some (.ref a.pl)) → OwnOff ((a.lf, listOf vs.toArray cl) :: (gv, oG) :: (lk, oK) :: base L nb sq c1 c2 c3 c4 c5 c6 nv sv nn sn tl) (adrs a) → AllNe a.lf ((gv, oG) :: (lk, oK) :: base L nb sq c1 c2 c3 c4 c5 c6 nv sv nn sn tl) →
      Fr h₀ L h' (fun y => if y = Str.ofString "count" then some (.int n tc) else if y = Str.ofString "finder" then some (.ref a.x) else m y) → News h₀ L h' (core w.params a rf tr oP oR oD ++ (a.lf, listOf vs.toArray cl) :: (gv, oG) :: (lk, oK) :: base L nb sq c1 c2 c3 c4 c5 c6 nv sv nn sn tl) → Q .next { s with heap := h', toks := tk }) :
    wpAny (model prog w) (topA dp un fr gd) (execs ((turnCode.drop 3).take 2) (envOfC (Str.ofString "law") lawCode.2 L fa cd)) Q (fun _ _ => False) s := by
  dsimp only [turnCode, lawCode, PySem.Challenge.pw_bd0017_01, List.take, List.drop]
  obtain ⟨hn, hn5, hk, hroom, hu, hnum, hl1, hl2, hL, hL', hi⟩ := H
  simp only [base] at N
  walk_at "HK2"
  refine init_ct (G := ⟨kvs.map (·.1), adj⟩) (ss := ss) (by rw [List.length_map]; omega) F X T N ⟨lo, oK, kvs, List.mem_cons_of_mem _ List.mem_cons_self, hdK, rfl, fun q hq => ?_⟩ (by omega) fun h1 tk1 a tr oP oR oD vs cl egl F1 N1 Iv ap off nlf S1 => ?_
  · obtain ⟨ad, xs, nx, e1, e2, e3⟩ := hcs q hq
    exact ⟨ad, xs, nx, e1, (by repeat (first | exact e2 | refine List.mem_cons_of_mem _ ?_)), e3⟩
  clear N F
  obtain ⟨d1, d2, d3, d4, d5, d6, d7, d8, d9, d10, b1, b2, b3⟩ := id ap
  walk_at "HK2"
  dsimp only
  rename_i h2 F2 N2
  have GL : GraL prog w ((a.lf, listOf vs.toArray cl) :: (gv, oG) :: (lk, oK) :: (L + 6, c6) :: (L + 5, c5) :: (L + 4, c4) :: (L + 3, c3) :: (L + 2, c2) :: (L + 1, c1) :: (nb, listOf nv.toArray nn) :: (sq, listOf sv.toArray sn) :: tl) a.gl ⟨kvs.map (·.1), adj⟩ := by
    rw [egl]
    refine ⟨lo, oK, kvs, List.mem_cons_of_mem _ (List.mem_cons_of_mem _ List.mem_cons_self), hdK, rfl, fun q hq => ?_⟩
    obtain ⟨ad, xs, nx, e1, e2, e3⟩ := hcs q hq
    exact ⟨ad, xs, nx, e1, (by repeat (first | exact e2 | refine List.mem_cons_of_mem _ ?_)), e3⟩
  have Nr := fun q hq => N2 q (List.mem_append_right (core w.params a (-1) tr oP oR oD) hq)
  have I2 : ImmAt prog w h2 a ⟨kvs.map (·.1), adj⟩ := immAt_of Nr off List.mem_cons_self Iv GL
  have hroom2 : dp + (Gr.mk (kvs.map (·.1)) adj).left.length + 20 < recursionLimit := by
    show dp + (kvs.map (·.1)).length + 20 < recursionLimit
    rw [List.length_map]; omega
  refine num_ct ap sz F2 X T N2 off I2 hroom2 S1 hr fun h3 tk3 q tr3 oP3 oR3 oD3 tc3 F3 N3 off3 nq S3 => ?_
  clear F2 N2 I2
  simp only [base, AllNe] at neG neK
  obtain ⟨g0, g1, g2, g3, g4, g5, g6, g7, g8, g9⟩ := neG
  obtain ⟨k1, k2, k3, k4, k5, k6, k7, k8, _⟩ := neK
  have nq' := allNe_of nq
  simp only [AllNe] at nq'
  obtain ⟨x1, x2, x3, x4, x5, x6, x7, x8, x9, x10, x11, x12⟩ := nq'
  have nlf' := allNe_of nlf
  simp only [AllNe] at nlf'
  obtain ⟨y2, y3, y4, y5, y6, y7, y8, y9, y10, y11, y12⟩ := nlf'
  have o6 : ∀ b ∈ adrs a, @Ne Nat b (L + 6) := fun b hb => Ne.symm (off _ (List.mem_cons_of_mem _ (List.mem_cons_of_mem _ (List.mem_cons_of_mem _ List.mem_cons_self))) b hb)
  have z1 := o6 a.x (by simp)
  have z2 := o6 a.dx (by simp)
  have z3 := o6 a.pl (by simp)
  have z4 := o6 a.pr (by simp)
  have z5 := o6 a.dl (by simp)
  replace N3 : News h₀ L h3 ((a.x, instObj 73 a.dx) :: (a.dx, dictOf (flds w.params a rf tr3) 6) :: (a.pl, oP3) :: (a.pr, oR3) :: (a.dl, oD3) :: (q, tupOf [.int n tc3, .ref a.pl]) :: (a.lf, listOf vs.toArray cl) :: (gv, oG) :: (lk, oK) :: (L + 6, c6) :: (L + 5, c5) :: (L + 4, c4) :: (L + 3, c3) :: (L + 2, c2) :: (L + 1, c1) :: (nb, listOf nv.toArray nn) :: (sq, listOf sv.toArray sn) :: tl) := N3
  iterate 6 walk_at "HK2s"
  rename News _ _ _ _ => N9
  rename Fr _ _ _ _ => F9
  have hall : ∀ p ∈ (L + 5, c5) :: (L + 4, c4) :: (L + 3, c3) :: (L + 2, c2) :: (L + 1, c1) :: (nb, listOf nv.toArray nn) :: (sq, listOf sv.toArray sn) :: tl, p.1 ≠ L + 6 := by
    refine allNe_ne ?_
    simp only [AllNe]
    refine ⟨neN (by omega), neN (by omega), neN (by omega), neN (by omega), neN (by omega), neN (by omega), neN (by omega), allNe_of (OwnOff.ne hi (by k_memK))⟩
  have U := UpdF.tail (p := (a.x, instObj 73 a.dx)) z1 (UpdF.tail (p := (a.dx, dictOf (flds w.params a rf tr3) 6)) z2 (UpdF.tail (p := (a.pl, oP3)) z3 (UpdF.tail (p := (a.pr, oR3)) z4 (UpdF.tail (p := (a.dl, oD3)) z5 (UpdF.tail (p := (q, tupOf [.int n tc3, .ref a.pl])) (Ne.symm x4) (UpdF.tail (p := (a.lf, listOf vs.toArray cl)) (Ne.symm y4) (UpdF.tail (p := (gv, oG)) (Ne.symm g1) (UpdF.tail (p := (lk, oK)) (Ne.symm k1) (UpdF.head (o := c6) hall)))))))))
  k_dflt (refine' storeX_C ?F ?N ?hc U hc6 ?_ ?hk ?hx; (case F => exact F9); (case N => exact N9); (case hc => rfl); (case hk => rfl); (case hx => rfl))
  intro h4 c6' F4 N4 d4
  clear N9 F9 U
  replace N4 : News h₀ L h4 ((a.x, instObj 73 a.dx) :: (a.dx, dictOf (flds w.params a rf tr3) 6) :: (a.pl, oP3) :: (a.pr, oR3) :: (a.dl, oD3) :: (q, tupOf [.int n tc3, .ref a.pl]) :: (a.lf, listOf vs.toArray cl) :: (gv, oG) :: (lk, oK) :: (L + 6, c6') :: (L + 5, c5) :: (L + 4, c4) :: (L + 3, c3) :: (L + 2, c2) :: (L + 1, c1) :: (nb, listOf nv.toArray nn) :: (sq, listOf sv.toArray sn) :: tl) := N4
  walk_at "HK2"
  refine ret h4 _ a tr3 oP3 oR3 oD3 c6' vs cl tc3 egl ap Iv S3 d4 (ownOff_map (by rfl) off) ?_ F4 ?_
  · simp only [AllNe]
    exact ⟨y2, y3, y4, y5, y6, y7, y8, y9, y10, y11, y12⟩
  · show News h₀ L h4 ((a.x, instObj 73 a.dx) :: (a.dx, dictOf (flds w.params a rf tr3) 6) :: (a.pl, oP3) :: (a.pr, oR3) :: (a.dl, oD3) :: (a.lf, listOf vs.toArray cl) :: (gv, oG) :: (lk, oK) :: (L + 6, c6') :: (L + 5, c5) :: (L + 4, c4) :: (L + 3, c3) :: (L + 2, c2) :: (L + 1, c1) :: (nb, listOf nv.toArray nn) :: (sq, listOf sv.toArray sn) :: tl)
    exact news_sub N4 (.cons_cons _ (.cons_cons _ (.cons_cons _ (.cons_cons _ (.cons_cons _ (.cons _ (.refl _)))))))
end
end

/-! part HkAC -/
section
open PySem PySem.W PyProof.Rows PySem.Calls
section
variable {prog : Program} {w : World} {p : Program} {loose : List Str} {mean : ExcName → Option Value} {mg mb : Str → Option Value}

set_option maxHeartbeats 4000000 in
/-- the first test of the turn -/
theorem t4 {dp un n : Nat} {tn tc : Tok} {h₀ : Heap} {L fa lk gv pl : Addr} {cd : Value} {m : Str → Option Value} {c1 c3 c6 oK oG oP : Obj} {NW : Ledger} {s : Shared} {kvs prs kp : List (Int × Value)} {adj : Int → List Str}
    {fr : Option (List Env)} {gd : Option (List Code)} {Q : Flow → Shared → Prop} (hn : 2 ≤ n) (hn5 : n ≤ 5) (hroom : dp + 200 < recursionLimit) (hu : un + 80 < cLine) (lo : (lk == sysModules) = false) (loG : (gv == sysModules) = false) (loP : (pl == sysModules) = false)
    (hc1 : c1.data = .cell (some (.int n tn))) (hc3 : c3.data = .cell (some (.ref lk))) (hc6 : c6.data = .cell (some (.ref pl)))
    (hdK : oK.IsDictOf (intKind prog w) kvs) (hdG : oG.IsDictOf (intKind prog w) prs) (hdP : oP.IsDictOf (intKind prog w) kp) (hpk : prs.map (·.1) = kvs.map (·.1)) (hkp : (kp.map (·.1)).Perm (nums n))
    (hcs : ColsAre adj kvs NW) (hcp : ColsAre adj prs NW) (hal : ∀ c, ∀ x ∈ adj c, x ∈ letters)
    (F : Fr h₀ L s.heap m) (X : (hd.heap_39 w.params).In h₀) (T : Top p loose mean mg mb h₀) (N : News h₀ L s.heap NW)
    (m1 : (L + 1, c1) ∈ NW) (m3 : (L + 3, c3) ∈ NW) (m6 : (L + 6, c6) ∈ NW) (mK : (lk, oK) ∈ NW) (mG : (gv, oG) ∈ NW) (mP : (pl, oP) ∈ NW)
    (hmc : m (Str.ofString "count") = some (.int n tc)) (hmg : m (Str.ofString "given") = some (.ref gv))
    (ret : ∀ h' tk, Fr h₀ L h' m → News h₀ L h' NW → Q .next { s with heap := h', toks := tk }) :
    wpAny (model prog w) (topA dp un fr gd) (execs ((turnCode.drop 5).take 1) (envOfC (Str.ofString "law") lawCode.2 L fa cd)) Q (fun _ _ => False) s := by
  dsimp only [turnCode, lawCode, PySem.Challenge.pw_bd0017_01, List.take, List.drop]
  have N1 := news_front (q := (L + 1, c1)) (news_front (q := (L + 3, c3)) (news_front (q := (L + 6, c6)) N m6) (List.mem_cons_of_mem _ m3)) (List.mem_cons_of_mem _ (List.mem_cons_of_mem _ m1))
  clear N
  walk_at "HK2"
  · exact absurd rfl (by assumption)
  refine srt_dict (n := n) rfl F N1 (by (repeat (first | assumption | refine List.mem_cons_of_mem _ ?_))) loP hdP hkp (by omega) (by omega) fun D1 h1 tk1 ys1 cc1 I1 F1 N2 l1 => ?_
  clear N1 F
  walk_at "HK2"
  rename News _ _ _ _ => N9
  replace N9 : News h₀ L _ NW := news_sub N9 (.cons _ (.cons _ (.cons _ (.cons _ (.cons _ (.refl _))))))
  refine cmp_ne_dicts (knd := intKind _ _) N9 mK mG lo loG hdK hdG ?_ (by show un < cLine; omega) (fun q hq => ?_) ?_
  · have := congrArg List.length hpk
    rw [List.length_map, List.length_map] at this
    exact this.symm
  · obtain ⟨a, xs, nx, e1, e2, e3⟩ := hcs q hq
    obtain ⟨y, ey⟩ := valueAt_key (kvs := prs) (k := q.1) (hpk ▸ List.mem_map.mpr ⟨q, hq, rfl⟩)
    obtain ⟨b, zs, nz, f1, f2, f3⟩ := hcp _ (valueAt_mem ey)
    refine ⟨y, ey, ?_⟩
    dsimp only at f1 f3
    rw [e1, f1]
    exact strs_at N9 e2 f2 e3 f3 (hal q.1) (by show un + 1 + 64 < cLine; omega)
  walk_at "HK2"
  rename Fr _ _ _ _ => F9
  exact ret _ _ F9 N9
end
end

/-! part HkAD -/
section
open PySem PySem.W PyProof.Rows PySem.Calls
/-- the whole of the ledger after the finder has told -/
abbrev fullL (P : Params) (a : Ad) (rf : Int) (tr : Tok) (oP oR oD : Obj) (vs : List Value) (cl : Nat) (gv : Addr) (oG : Obj) (lk : Addr) (oK : Obj) (L nb sq : Addr) (c1 c2 c3 c4 c5 c6 : Obj) (nv sv : List Value) (nn sn : Nat) (tl : Ledger) : Ledger :=
  (a.x, instObj 73 a.dx) :: (a.dx, dictOf (flds P a rf tr) 6) :: (a.pl, oP) :: (a.pr, oR) :: (a.dl, oD) :: (a.lf, listOf vs.toArray cl) :: (gv, oG) :: (lk, oK) :: base L nb sq c1 c2 c3 c4 c5 c6 nv sv nn sn tl

abbrev lits (L nb sq : Addr) : List Addr := [L + 6, L + 5, L + 4, L + 3, L + 2, L + 1, nb, sq]

/-- all that keeps the ledger's places apart -/
structure Sep (a : Ad) (gv lk L nb sq : Addr) (tl : Ledger) : Prop where
  ap : Apart a
  off : ∀ x ∈ a.lf :: gv :: lk :: lits L nb sq, ∀ b ∈ adrs a, @Ne Nat x b
  lf : ∀ x ∈ gv :: lk :: lits L nb sq, @Ne Nat x a.lf
  gvn : ∀ x ∈ lk :: lits L nb sq, @Ne Nat x gv
  lkn : ∀ x ∈ lits L nb sq, @Ne Nat x lk
  L1 : @LT.lt Nat _ (L + 6) nb
  L2 : @LT.lt Nat _ nb sq
  hi : OwnOff tl (lits L nb sq)
  offT : OwnOff tl (adrs a)

theorem upd5 {P : Params} {a : Ad} {rf : Int} {tr : Tok} {oP oR oD : Obj} {vs : List Value} {cl : Nat} {gv : Addr} {oG : Obj} {lk : Addr} {oK : Obj} {L nb sq : Addr} {c1 c2 c3 c4 c5 c6 : Obj} {nv sv : List Value} {nn sn : Nat} {tl : Ledger} (Z : Sep a gv lk L nb sq tl) :
    UpdF (L + 5) c5 (fullL P a rf tr oP oR oD vs cl gv oG lk oK L nb sq c1 c2 c3 c4 c5 c6 nv sv nn sn tl) (fun o => fullL P a rf tr oP oR oD vs cl gv oG lk oK L nb sq c1 c2 c3 c4 o c6 nv sv nn sn tl) := by
  have m5 : L + 5 ∈ a.lf :: gv :: lk :: lits L nb sq := by simp
  have h1 := fun b hb => Ne.symm (Z.off (L + 5) m5 b hb)
  have L1 := Z.L1
  have L2 := Z.L2
  refine .tail (h1 a.x (by simp)) (.tail (h1 a.dx (by simp)) (.tail (h1 a.pl (by simp)) (.tail (h1 a.pr (by simp)) (.tail (h1 a.dl (by simp)) (.tail (Ne.symm (Z.lf (L + 5) (by simp))) (.tail (Ne.symm (Z.gvn (L + 5) (by simp))) (.tail (Ne.symm (Z.lkn (L + 5) (by simp))) (.tail (neN (by omega)) (.head ?_)))))))))
  refine allNe_ne ?_
  simp only [AllNe]
  exact ⟨neN (by omega), neN (by omega), neN (by omega), neN (by omega), neN (by omega), neN (by omega), allNe_of (OwnOff.ne Z.hi (by k_memK))⟩

theorem updSq {P : Params} {a : Ad} {rf : Int} {tr : Tok} {oP oR oD : Obj} {vs : List Value} {cl : Nat} {gv : Addr} {oG : Obj} {lk : Addr} {oK : Obj} {L nb sq : Addr} {c1 c2 c3 c4 c5 c6 : Obj} {nv sv : List Value} {nn sn : Nat} {tl : Ledger} {x : Value} (Z : Sep a gv lk L nb sq tl) :
    Upd sq (listOf sv.toArray sn) (listOf (sv ++ [x]).toArray (sn + 1)) (fullL P a rf tr oP oR oD vs cl gv oG lk oK L nb sq c1 c2 c3 c4 c5 c6 nv sv nn sn tl) (fullL P a rf tr oP oR oD vs cl gv oG lk oK L nb sq c1 c2 c3 c4 c5 c6 nv (sv ++ [x]) nn (sn + 1) tl) := by
  have m5 : sq ∈ a.lf :: gv :: lk :: lits L nb sq := by simp
  have h1 := fun b hb => Ne.symm (Z.off sq m5 b hb)
  have L1 := Z.L1
  have L2 := Z.L2
  refine .tail (h1 a.x (by simp)) ?_
  refine .tail (h1 a.dx (by simp)) ?_
  refine .tail (h1 a.pl (by simp)) ?_
  refine .tail (h1 a.pr (by simp)) ?_
  refine .tail (h1 a.dl (by simp)) ?_
  refine .tail (Ne.symm (Z.lf sq (by simp))) ?_
  refine .tail (Ne.symm (Z.gvn sq (by simp))) ?_
  refine .tail (Ne.symm (Z.lkn sq (by simp))) ?_
  refine .tail (neN (by omega)) ?_
  refine .tail (neN (by omega)) ?_
  refine .tail (neN (by omega)) ?_
  refine .tail (neN (by omega)) ?_
  refine .tail (neN (by omega)) ?_
  refine .tail (neN (by omega)) ?_
  refine .tail (neN (by omega)) ?_
  exact .head (OwnOff.ne Z.hi (by k_memK))

def rowExpr : Expr := match turnCode with
  | _ :: _ :: _ :: _ :: _ :: _ :: .Assign _ e _ :: _ => e
  | _ => default
def rowOf (f : Int → Option Str) (n : Nat) : List Str := (nums n).map fun c => (f c).getD Str.empty

section
variable {prog : Program} {w : World} {p : Program} {loose : List Str} {mean : ExcName → Option Value} {mg mb : Str → Option Value}

set_option maxHeartbeats 4000000 in
theorem comp_row {dp un n : Nat} {tn : Tok} {h₀ : Heap} {L fa pl : Addr} {cd : Value} {m : Str → Option Value} {c1 c6 oP : Obj} {NW : Ledger} {s : Shared} {cs : List Int} {f : Int → Option Str}
    {fr : Option (List Env)} {gd : Option (List Code)} {Q : Value → Shared → Prop} (hn5 : n ≤ 5)
    (hc1 : c1.data = .cell (some (.int n tn))) (hc6 : c6.data = .cell (some (.ref pl))) (hP : DR (intKind prog w) RStr cs oP f) (hf : ∀ c ∈ nums n, (f c).isSome = true)
    (F : Fr h₀ L s.heap m) (X : (hd.heap_39 w.params).In h₀) (T : Top p loose mean mg mb h₀) (N : News h₀ L s.heap NW)
    (m1 : (L + 1, c1) ∈ NW) (m6 : (L + 6, c6) ∈ NW) (mP : (pl, oP) ∈ NW)
    (ret : ∀ D h' tk rv, StrsAre rv (rowOf f n) → Fr h₀ L h' m → News h₀ L h' ((D, LCg.lst rv) :: NW) → (∀ p ∈ NW, p.1 ≠ D) → Q (.ref D) { s with heap := h', toks := tk }) :
    wpAny (model prog w) (topA dp un fr gd) (eval rowExpr (envOfC (Str.ofString "law") lawCode.2 L fa cd)) Q (fun _ _ => False) s := by
  dsimp only [rowExpr, turnCode, lawCode, PySem.Challenge.pw_bd0017_01]
  have N1 := news_front (q := (L + 1, c1)) (news_front (q := (L + 6, c6)) (news_front (q := (pl, oP)) N mP) (List.mem_cons_of_mem _ m6)) (List.mem_cons_of_mem _ (List.mem_cons_of_mem _ m1))
  clear N
  k_dflt (refine LCg.ListComp_U (F₀ := by k_asm) (by with_unfolding_all rfl) (by decide) (by rfl) (by decide) (by rfl) ?_)
  walk_at "HK2"
  rename IsRange _ _ _ _ _ _ _ _ => R9
  rename Fr _ _ _ _ => F9
  rename News _ _ _ _ => N9
  refine comp_range rfl F9 N9 R9 (by omega) fun g' => ?_
  refine comp_inv (fun i ys nw => nw = _ ∧ StrsAre ys (((nums n).take i).map fun c => (f c).getD Str.empty)) (fun _ _ _ _ => trivial) ?_ ?_ _ 0 [] _ (Nat.zero_add _) ⟨rfl, .nil⟩
  · rintro i ys nw v I oI C oC D m₂ h tk E' hi ⟨ti, rfl⟩ ⟨rfl, hys⟩ hC hx F' N' off ne
    clear F9 N9 R9 ret
    have ei : (nums n)[i]? = some (i : Int) := by
      unfold nums
      rw [List.getElem?_map, List.getElem?_range hi]; rfl
    have hs := hf _ (List.mem_of_getElem? ei)
    obtain ⟨r, hr⟩ := Option.isSome_iff_exists.mp hs
    have e0 : (0 : Int) + (i : Int) = (i : Int) := Int.zero_add _
    rw [e0] at hx
    walk_at "HK2"
    rename_i t
    refine comp_end F' N' off ⟨rfl, ?_⟩
    rw [List.take_add_one, ei, List.map_append]
    have := strsSnoc hys t (x := r)
    simpa [hr] using this
  · rintro ys nw ⟨rfl, hys⟩
    intro D h tk F8 N8 o8
    rw [List.take_of_length_le (by rw [nums_len]; exact Nat.le_refl _)] at hys
    refine ret D h tk ys hys F8 (news_sub N8 (.cons_cons _ (.cons _ (.cons _ (.cons _ (.refl _)))))) ?_
    exact off1_mem o8.2.2.2
end
end

/-! part HkAE -/
section
open PySem PySem.W PyProof.Rows PySem.Calls
section
variable {prog : Program} {w : World} {p : Program} {loose : List Str} {mean : ExcName → Option Value} {mg mb : Str → Option Value}

set_option maxHeartbeats 4000000 in
/-- the row is read off, and the second test -/
theorem t5 {dp un n : Nat} {tn : Tok} {h₀ : Heap} {L fa nb sq lk gv : Addr} {cd : Value} {m : Str → Option Value} {c1 c2 c3 c4 c5 c6 oK oG oP oR oD : Obj} {v5 : Option Value} {nv sv vs : List Value} {nn sn cl : Nat} {tl : Ledger} {s : Shared} {a : Ad} {rf : Int} {tr : Tok} {cs : List Int} {f : Int → Option Str}
    {fr : Option (List Env)} {gd : Option (List Code)} {Q : Flow → Shared → Prop} (hn : 2 ≤ n) (hn5 : n ≤ 5) (hu : un + 80 < cLine) (Z : Sep a gv lk L nb sq tl)
    (hc1 : c1.data = .cell (some (.int n tn))) (hc5 : c5.data = .cell v5) (hc6 : c6.data = .cell (some (.ref a.pl))) (hP : DR (intKind prog w) RStr cs oP f) (hf : ∀ c ∈ nums n, (f c).isSome = true) (hrow : (rowOf f n).Perm (abc n))
    (F : Fr h₀ L s.heap m) (X : (hd.heap_39 w.params).In h₀) (T : Top p loose mean mg mb h₀) (N : News h₀ L s.heap (fullL w.params a rf tr oP oR oD vs cl gv oG lk oK L nb sq c1 c2 c3 c4 c5 c6 nv sv nn sn tl))
    (ret : ∀ h' tk c5 D rv, StrsAre rv (rowOf f n) → c5.data = .cell (some (.ref D)) → (∀ p ∈ fullL w.params a rf tr oP oR oD vs cl gv oG lk oK L nb sq c1 c2 c3 c4 c5 c6 nv sv nn sn tl, p.1 ≠ D) →
      Fr h₀ L h' m → News h₀ L h' ((D, LCg.lst rv) :: fullL w.params a rf tr oP oR oD vs cl gv oG lk oK L nb sq c1 c2 c3 c4 c5 c6 nv sv nn sn tl) → Q .next { s with heap := h', toks := tk }) :
    wpAny (model prog w) (topA dp un fr gd) (execs ((turnCode.drop 6).take 2) (envOfC (Str.ofString "law") lawCode.2 L fa cd)) Q (fun _ _ => False) s := by
  dsimp only [turnCode, lawCode, PySem.Challenge.pw_bd0017_01, List.take, List.drop]
  walk_at "HK2"
  with_unfolding_all refine comp_row (NW := fullL w.params a rf tr oP oR oD vs cl gv oG lk oK L nb sq c1 c2 c3 c4 c5 c6 nv sv nn sn tl) hn5 hc1 hc6 hP hf F X T N (by simp only [fullL, base]; k_mem) (by simp only [fullL, base]; k_mem) (by simp only [fullL, base]; k_mem) ?_
  intro D h1 tk1 rv hrv F1 N1 neD
  clear N F
  have m5 : (L + 5, c5) ∈ fullL w.params a rf tr oP oR oD vs cl gv oG lk oK L nb sq c1 c2 c3 c4 c5 c6 nv sv nn sn tl := by simp only [fullL, base]; k_mem
  have U := UpdF.tail (p := (D, LCg.lst rv)) (Ne.symm (neD _ m5)) (upd5 (P := w.params) (rf := rf) (tr := tr) (oP := oP) (oR := oR) (oD := oD) (vs := vs) (cl := cl) (oG := oG) (oK := oK) (c1 := c1) (c2 := c2) (c3 := c3) (c4 := c4) (c5 := c5) (c6 := c6) (nv := nv) (sv := sv) (nn := nn) (sn := sn) Z)
  k_dflt (refine' storeX_C ?F ?N ?hc U hc5 ?_ ?hk ?hx; (case F => exact F1); (case N => exact N1); (case hc => rfl); (case hk => rfl); (case hx => rfl))
  intro h4 c5' F4 N4 d4
  have neD' : ∀ p ∈ fullL w.params a rf tr oP oR oD vs cl gv oG lk oK L nb sq c1 c2 c3 c4 c5' c6 nv sv nn sn tl, p.1 ≠ D := by
    intro p hp e
    have t1 : p.1 ∈ (fullL w.params a rf tr oP oR oD vs cl gv oG lk oK L nb sq c1 c2 c3 c4 c5' c6 nv sv nn sn tl).map (·.1) := List.mem_map.mpr ⟨p, hp, rfl⟩
    have this : p.1 ∈ (fullL w.params a rf tr oP oR oD vs cl gv oG lk oK L nb sq c1 c2 c3 c4 c5 c6 nv sv nn sn tl).map (·.1) := by simp only [fullL, base, List.map_cons] at t1 ⊢; exact t1
    obtain ⟨r, hr, er⟩ := List.mem_map.mp this
    exact neD r hr (er.trans e)
  obtain ⟨NW, hNW⟩ : ∃ NW, NW = (D, LCg.lst rv) :: fullL w.params a rf tr oP oR oD vs cl gv oG lk oK L nb sq c1 c2 c3 c4 c5' c6 nv sv nn sn tl := ⟨_, rfl⟩
  have N5 : News h₀ L h4 NW := hNW ▸ N4
  have mD : (D, LCg.lst rv) ∈ NW := by rw [hNW]; exact List.mem_cons_self
  have m5' : (L + 5, c5') ∈ NW := by rw [hNW]; simp only [fullL, base]; k_mem
  have m1' : (L + 1, c1) ∈ NW := by rw [hNW]; simp only [fullL, base]; k_mem
  replace ret := fun h' tk (F : Fr h₀ L h' m) (N : News h₀ L h' NW) => ret h' tk c5' D rv hrv d4 neD' F (hNW ▸ N)
  have N6 := news_front (q := (L + 1, c1)) (news_front (q := (L + 5, c5')) N5 m5') (List.mem_cons_of_mem _ m1')
  clear N4 N1 F1 U neD neD' m5 hNW N5
  walk_at "HK2"
  refine srt_abc F4 N6 (List.mem_cons_of_mem _ (List.mem_cons_of_mem _ mD)) hrv hrow hn5 fun D2 h5 ys c7 hys F7 N7 l7 => ?_
  clear F4 N6
  walk_at "HK3"
  rename News _ _ _ _ => N9
  refine cmp_ne_abc N9 (by k_mem) (by k_mem) hys (by assumption) hn hn5 (by show un + 64 < cLine; omega) ?_
  walk_at "HK3"
  rename Fr _ _ _ _ => F9
  exact ret _ _ F9 (news_sub N9 (.cons _ (.cons _ (.cons _ (.cons _ (.refl _))))))
end
end

/-! part HkAF -/
section
open PySem PySem.W PyProof.Rows PySem.Calls
def pairsExpr : Expr := match turnCode with
  | _ :: _ :: _ :: _ :: _ :: _ :: _ :: _ :: .If (.Compare _ _ (.Tuple (_ :: .Call _ (e :: _) _ _ :: _) _ _ :: _) _) _ _ _ :: _ => e
  | _ => default

/-- the pairs' values: the row's letters -/
def ValsAre (row : List Str) (prs : List (Int × Value)) : Prop := ∀ q ∈ prs, ∃ t, q.2 = Value.str (row.getD q.1.toNat Str.empty) t

section
variable {prog : Program} {w : World} {p : Program} {loose : List Str} {mean : ExcName → Option Value} {mg mb : Str → Option Value}

set_option maxHeartbeats 4000000 in
theorem comp_pairs {dp un n rn : Nat} {tn : Tok} {h₀ : Heap} {L fa rw : Addr} {cd : Value} {m : Str → Option Value} {c1 c5 : Obj} {NW : Ledger} {s : Shared} {rv : List Value} {row : List Str}
    {fr : Option (List Env)} {gd : Option (List Code)} {Q : Value → Shared → Prop} (hn5 : n ≤ 5)
    (hc1 : c1.data = .cell (some (.int n tn))) (hc5 : c5.data = .cell (some (.ref rw))) (hrv : StrsAre rv row) (hrl : row.length = n)
    (F : Fr h₀ L s.heap m) (X : (hd.heap_39 w.params).In h₀) (T : Top p loose mean mg mb h₀) (N : News h₀ L s.heap NW)
    (m1 : (L + 1, c1) ∈ NW) (m5 : (L + 5, c5) ∈ NW) (mR : (rw, listOf rv.toArray rn) ∈ NW)
    (ret : ∀ D h' tk ts js prs, prs.map (·.1) = nums n → TupsAre ts prs js → ValsAre row prs → Fr h₀ L h' m → News h₀ L h' ((D, LCg.lst ts) :: (js ++ NW)) → Q (.ref D) { s with heap := h', toks := tk }) :
    wpAny (model prog w) (topA dp un fr gd) (eval pairsExpr (envOfC (Str.ofString "law") lawCode.2 L fa cd)) Q (fun _ _ => False) s := by
  dsimp only [pairsExpr, turnCode, lawCode, PySem.Challenge.pw_bd0017_01]
  have N1 := news_front (q := (L + 1, c1)) N m1
  clear N
  k_dflt (refine LCg.ListComp_U (F₀ := by k_asm) (by with_unfolding_all rfl) (by decide) (by rfl) (by decide) (by rfl) ?_)
  walk_at "HK3"
  rename IsRange _ _ _ _ _ _ _ _ => R9
  rename Fr _ _ _ _ => F9
  rename News _ _ _ _ => N9
  replace N9 := news_sub N9 (.cons _ (.refl _))
  refine comp_range rfl F9 N9 R9 (by omega) fun g' => ?_
  refine comp_inv (fun i ys nw => ∃ js prs, nw = js ++ NW ∧ prs.map (·.1) = (nums n).take i ∧ TupsAre ys prs js ∧ ValsAre row prs) (fun _ _ _ _ => trivial) ?_ ?_ _ 0 [] _ (Nat.zero_add _) ⟨[], [], rfl, rfl, ⟨rfl, fun _ h1 => absurd h1 (Nat.not_lt_zero _)⟩, fun _ h => nomatch h⟩
  · rintro i ys nw v I oI C oC D m₂ h tk E' hi ⟨ti, rfl⟩ ⟨js, prs, rfl, hpr, hts, hvl⟩ hC hx F' N' off ne
    clear F9 N9 R9 ret
    have ei : (nums n)[i]? = some (i : Int) := by
      unfold nums
      rw [List.getElem?_map, List.getElem?_range hi]; rfl
    have e0 : (0 : Int) + (i : Int) = (i : Int) := Int.zero_add _
    rw [e0] at hx
    have inT : ∀ q ∈ NW, q ∈ (I, oI) :: (C, oC) :: (D, LCg.lst ys) :: (js ++ NW) := fun q hq => List.mem_cons_of_mem _ (List.mem_cons_of_mem _ (List.mem_cons_of_mem _ (List.mem_append_right _ hq)))
    have N2 := news_front (q := (L + 5, c5)) (news_front (q := (rw, listOf rv.toArray rn)) N' (inT _ mR)) (List.mem_cons_of_mem _ (inT _ m5))
    clear N' inT
    walk_at "HK3"
    rename_i t2 T2 h2 F2 N2 g4 g5 g6 g7 g8 g9
    refine comp_end (news' := (T2, tupOf [.int (i : Int) ti, .str (row.getD ((i : Nat) : Int).toNat Str.empty) t2]) :: (js ++ NW)) F2 (fun q hq => ?_) ⟨⟨Ne.symm (Nat.ne_of_lt g6), Ne.symm (Nat.ne_of_lt g7), Ne.symm (Nat.ne_of_lt g8)⟩, off⟩
      ⟨(T2, tupOf [.int (i : Int) ti, .str (row.getD ((i : Nat) : Int).toNat Str.empty) t2]) :: js, prs ++ [((i : Int), .str (row.getD ((i : Nat) : Int).toNat Str.empty) t2)], rfl, ?_, tups_snoc hts List.mem_cons_self (fun q hq => List.mem_cons_of_mem _ hq), ?_⟩
    · refine N2 q ?_
      rcases List.mem_cons.mp hq with rfl | hq
      · k_mem
      rcases List.mem_cons.mp hq with rfl | hq
      · k_mem
      rcases List.mem_cons.mp hq with rfl | hq
      · k_mem
      rcases List.mem_cons.mp hq with rfl | hq
      · k_mem
      · repeat (first | exact hq | refine List.mem_cons_of_mem _ ?_)
    · rw [List.map_append, hpr, List.take_add_one, ei]
      rfl
    · intro q hq
      rcases List.mem_append.mp hq with hq | hq
      · exact hvl q hq
      · rw [List.mem_singleton.mp hq]
        exact ⟨t2, rfl⟩
  · rintro ys nw ⟨js, prs, rfl, hpr, hts, hvl⟩
    intro D h tk F8 N8 o8
    rw [List.take_of_length_le (by rw [nums_len]; exact Nat.le_refl _)] at hpr
    exact ret D h tk ys js prs hpr hts hvl F8 N8
end
end

/-! part HkAG -/
section
open PySem PySem.W PyProof.Rows PySem.Calls
section
variable {prog : Program} {w : World} {p : Program} {loose : List Str} {mean : ExcName → Option Value} {mg mb : Str → Option Value}

set_option maxHeartbeats 4000000 in
/-- the finder is asked again: the third test -/
theorem t6 {dp un n : Nat} {tn : Tok} {h₀ : Heap} {L fa nb sq lk gv D : Addr} {cd : Value} {m : Str → Option Value} {c1 c2 c3 c4 c5 c6 oK oG oP oR oD : Obj} {nv sv vs rv : List Value} {nn sn cl : Nat} {tl : Ledger} {s : Shared} {a : Ad} {rf : Int} {tr : Tok} {kvs : List (Int × Value)} {adj : Int → List Str} {ss : List Str} {σ : PS}
    {fr : Option (List Env)} {gd : Option (List Code)} {Q : Flow → Shared → Prop} (hn : 2 ≤ n) (hn5 : n ≤ 5) (hu : un + 80 < cLine) (hroom : dp + 200 < recursionLimit) (Z : Sep a gv lk L nb sq tl) (egl : a.gl = lk) (lo : (lk == sysModules) = false)
    (hc1 : c1.data = .cell (some (.int n tn))) (hc5 : c5.data = .cell (some (.ref D))) (hrv : StrsAre rv (rowOf σ.p n)) (Iv : IntsAre vs (kvs.map (·.1))) (hkp : (kvs.map (·.1)).Perm (nums n)) (hS : StR prog w (kvs.map (·.1)) ss oP oR oD σ) (hf : ∀ c ∈ nums n, (σ.p c).isSome = true)
    (hdK : oK.IsDictOf (intKind prog w) kvs) (hcs : ColsAre adj kvs tl) (sz : Sized ⟨kvs.map (·.1), adj⟩ ss) (hr : run ⟨kvs.map (·.1), adj⟩ = some (σ, n, rf)) (hmf : m (Str.ofString "finder") = some (.ref a.x))
    (neD : ∀ p ∈ fullL w.params a rf tr oP oR oD vs cl gv oG lk oK L nb sq c1 c2 c3 c4 c5 c6 nv sv nn sn tl, p.1 ≠ D)
    (F : Fr h₀ L s.heap m) (X : (hd.heap_39 w.params).In h₀) (T : Top p loose mean mg mb h₀) (N : News h₀ L s.heap ((D, LCg.lst rv) :: fullL w.params a rf tr oP oR oD vs cl gv oG lk oK L nb sq c1 c2 c3 c4 c5 c6 nv sv nn sn tl))
    (ret : ∀ h' tk tr oP oR oD, Fr h₀ L h' m → News h₀ L h' ((D, LCg.lst rv) :: fullL w.params a rf tr oP oR oD vs cl gv oG lk oK L nb sq c1 c2 c3 c4 c5 c6 nv sv nn sn tl) → Q .next { s with heap := h', toks := tk }) :
    wpAny (model prog w) (topA dp un fr gd) (execs ((turnCode.drop 8).take 1) (envOfC (Str.ofString "law") lawCode.2 L fa cd)) Q (fun _ _ => False) s := by
  dsimp only [turnCode, lawCode, PySem.Challenge.pw_bd0017_01, List.take, List.drop]
  obtain ⟨rest, hrest⟩ : ∃ rest, rest = (D, LCg.lst rv) :: (a.lf, listOf vs.toArray cl) :: (gv, oG) :: (lk, oK) :: base L nb sq c1 c2 c3 c4 c5 c6 nv sv nn sn tl := ⟨_, rfl⟩
  have mD : (D, LCg.lst rv) ∈ rest := by rw [hrest]; exact List.mem_cons_self
  have mlf : (a.lf, listOf vs.toArray cl) ∈ rest := by rw [hrest]; k_mem
  have mlk : (lk, oK) ∈ rest := by rw [hrest]; k_mem
  have m1 : (L + 1, c1) ∈ rest := by rw [hrest]; simp only [base]; k_mem
  have m5 : (L + 5, c5) ∈ rest := by rw [hrest]; simp only [base]; k_mem
  have mtl : ∀ q ∈ tl, q ∈ rest := fun q hq => by
    rw [hrest]; simp only [base]
    repeat (first | exact hq | refine List.mem_cons_of_mem _ ?_)
  have N1 : News h₀ L s.heap (core w.params a rf tr oP oR oD ++ rest) := by
    intro q hq
    refine N q ?_
    rcases List.mem_append.mp hq with h | h
    · exact List.mem_cons_of_mem _ (show q ∈ core w.params a rf tr oP oR oD ++ _ from List.mem_append_left _ h)
    · rw [hrest] at h
      rcases List.mem_cons.mp h with h | h
      · exact h ▸ List.mem_cons_self
      · exact List.mem_cons_of_mem _ (show q ∈ core w.params a rf tr oP oR oD ++ _ from List.mem_append_right _ h)
  have off : OwnOff rest (adrs a) := by
    intro q hq b hb
    rw [hrest] at hq
    rcases List.mem_append.mp (show q ∈ [(D, LCg.lst rv)] ++ ([(a.lf, listOf vs.toArray cl), (gv, oG), (lk, oK), (L + 6, c6), (L + 5, c5), (L + 4, c4), (L + 3, c3), (L + 2, c2), (L + 1, c1), (nb, listOf nv.toArray nn), (sq, listOf sv.toArray sn)] ++ tl) from hq) with h | h
    · rw [List.mem_singleton.mp h]
      simp only [adrs, List.mem_cons, List.not_mem_nil, or_false] at hb
      rcases hb with rfl | rfl | rfl | rfl | rfl
      · exact Ne.symm (neD (a.x, instObj 73 a.dx) (by k_mem))
      · exact Ne.symm (neD (a.dx, dictOf (flds w.params a rf tr) 6) (by k_mem))
      · exact Ne.symm (neD (a.pl, oP) (by k_mem))
      · exact Ne.symm (neD (a.pr, oR) (by k_mem))
      · exact Ne.symm (neD (a.dl, oD) (by k_mem))
    · rcases List.mem_append.mp h with h | h
      · exact Z.off q.1 (by
          have := List.mem_map_of_mem (f := fun p : Addr × Obj => p.1) h
          simpa using this) b hb
      · exact Z.offT q h b hb
  have GL : GraL prog w rest a.gl ⟨kvs.map (·.1), adj⟩ := by
    rw [egl]
    refine ⟨lo, oK, kvs, mlk, hdK, rfl, fun q hq => ?_⟩
    obtain ⟨ad, xs, nx, e1, e2, e3⟩ := hcs q hq
    exact ⟨ad, xs, nx, e1, mtl _ e2, e3⟩
  have Nr := fun q hq => N1 q (List.mem_append_right (core w.params a rf tr oP oR oD) hq)
  have I2 : ImmAt prog w s.heap a ⟨kvs.map (·.1), adj⟩ := immAt_of Nr off mlf Iv GL
  have hkl : (kvs.map (·.1)).length = n := by rw [hkp.length_eq, nums_len]
  have hroom2 : dp + (Gr.mk (kvs.map (·.1)) adj).left.length + 20 < recursionLimit := by
    show dp + (kvs.map (·.1)).length + 20 < recursionLimit
    omega
  clear N Nr
  walk_at "HK3"
  (try dsimp only)
  refine num_ct Z.ap sz F X T N1 off I2 hroom2 hS hr fun h3 tk3 q tr3 oP3 oR3 oD3 tc3 F3 N3 off3 nq S3 => ?_
  clear N1 I2 GL off F
  obtain ⟨kp, hdP, hkP, hvP⟩ := id S3.P
  obtain ⟨NW, hNW⟩ : ∃ NW, NW = core w.params a rf tr3 oP3 oR3 oD3 ++ (q, tupOf [.int n tc3, .ref a.pl]) :: rest := ⟨_, rfl⟩
  have N4 : News h₀ L h3 NW := hNW ▸ N3
  have inR : ∀ r ∈ rest, r ∈ NW := fun r hr => by rw [hNW]; exact List.mem_append_right _ (List.mem_cons_of_mem _ hr)
  have mq : (q, tupOf [.int n tc3, .ref a.pl]) ∈ NW := by rw [hNW]; exact List.mem_append_right _ List.mem_cons_self
  have mP : (a.pl, oP3) ∈ NW := by rw [hNW]; exact List.mem_append_left _ (by k_mem)
  have N5 := news_front (q := (L + 1, c1)) N4 (inR _ m1)
  clear N3 N4
  walk_at "HK3"
  have hrl : (rowOf σ.p n).length = n := by unfold rowOf; rw [List.length_map, nums_len]
  with_unfolding_all refine comp_pairs (NW := (L + 1, c1) :: NW) hn5 hc1 hc5 hrv hrl F3 X T N5 List.mem_cons_self (List.mem_cons_of_mem _ (inR _ m5)) (List.mem_cons_of_mem _ (inR _ mD)) ?_
  intro D2 h4 tk4 ts js prs hpr hts hvl F6 N6
  clear N5 F3
  have hnd : (prs.map (·.1)).Nodup := by rw [hpr]; exact nums_nodup
  have hpl : prs.length = n := by
    have := congrArg List.length hpr
    rwa [List.length_map, nums_len] at this
  walk_at "HK3"
  refine dict_of_pairs (knd := intKind _ _) rfl F6 N6 (modules_low T.nolimit) List.mem_cons_self hts.1 (fun i h1 h2 => ?_) hnd (by omega) fun dv h5 tk5 oV F7 N7 l7 loV hV => ?_
  · obtain ⟨T', t', e1, e2⟩ := hts.2 i h1 h2
    exact ⟨T', .int prs[i].1 t', e1, ⟨_, (N6 _ (List.mem_cons_of_mem _ (List.mem_append_left _ e2))).1, rfl, _, rfl⟩, intKind_is _ _ _ _⟩
  have neV : a.pl ≠ dv := Nat.ne_of_lt (l7 (a.pl, oP3) (List.mem_cons_of_mem _ (List.mem_append_right _ (List.mem_cons_of_mem _ mP))))
  replace N7 : News h₀ L h5 ((dv, oV) :: NW) := fun r hr => by
    rcases List.mem_cons.mp hr with rfl | hr
    · exact N7 _ List.mem_cons_self
    · exact N7 _ (List.mem_cons_of_mem _ (List.mem_cons_of_mem _ (List.mem_append_right _ (List.mem_cons_of_mem _ hr))))
  clear N6 F6 l7
  walk_at "HK3"
  rename Fr _ _ _ _ => F8
  rename News _ _ _ _ => N8
  have hkn : (kp.map (·.1)).Nodup := by obtain ⟨_, _, _, _, _, _, hn⟩ := hdP; exact hn
  have hsub : ∀ c ∈ kp.map (·.1), c ∈ nums n := fun c hc => by
    obtain ⟨r, hr, rfl⟩ := List.mem_map.mp hc
    exact hkp.mem_iff.mp (hkP r hr)
  have hsup : ∀ c ∈ nums n, c ∈ kp.map (·.1) := fun c hc => by
    obtain ⟨x, hx⟩ := Option.isSome_iff_exists.mp (hf c hc)
    have := hvP c
    rw [hx] at this
    obtain ⟨y, hy, _⟩ := this
    exact List.mem_map.mpr ⟨_, valueAt_mem hy, rfl⟩
  have hkl2 : kp.length = n := by
    have h1 := nodup_le hkn hsub
    have h2 := nodup_le (nums_nodup (n := n)) hsup
    rw [List.length_map, nums_len] at h1
    rw [List.length_map, nums_len] at h2
    omega
  refine cmp_ne_told (oa := oP3) (ob := oV) (ka := kp) (kb := prs) N8 (List.mem_cons_of_mem _ (List.mem_cons_of_mem _ mq)) List.mem_cons_self (List.mem_cons_of_mem _ (List.mem_cons_of_mem _ mP)) (List.mem_cons_of_mem _ List.mem_cons_self) Z.ap.l1 loV neV hdP hV (by omega) (by show un + 70 < cLine; omega) (fun r hr => ?_) ?_
  · have hrn := hsub _ (List.mem_map.mpr ⟨r, hr, rfl⟩)
    obtain ⟨x, hx⟩ := Option.isSome_iff_exists.mp (hf r.1 hrn)
    have h1 := hvP r.1
    rw [hx] at h1
    obtain ⟨y, hy, t, rfl⟩ := h1
    obtain ⟨i, hi⟩ := List.getElem?_of_mem hr
    have h2 := valueAt_at (k := r.1) (y := r.2) hkn hi
    rw [hy] at h2
    obtain ⟨z, hz⟩ := valueAt_key (kvs := prs) (k := r.1) (hpr ▸ hrn)
    obtain ⟨u, hu'⟩ := hvl _ (valueAt_mem hz)
    dsimp only at hu'
    refine ⟨z, x, t, u, hz, (Option.some.inj h2).symm, ?_⟩
    rw [hu']
    congr 1
    obtain ⟨b1, b2⟩ := nums_mem hrn
    have e1 : r.1 = ((r.1.toNat : Nat) : Int) := (Int.toNat_of_nonneg b1).symm
    have hlt : r.1.toNat < n := by omega
    unfold rowOf nums
    rw [List.getD_eq_getElem?_getD, List.getElem?_map, List.getElem?_map, List.getElem?_range hlt]
    show (σ.p ((r.1.toNat : Nat) : Int)).getD Str.empty = x
    rw [← e1, hx]
    rfl
  walk_at "HK3"
  refine ret _ _ tr3 oP3 oR3 oD3 F8 fun r hr => N8 r (List.mem_cons_of_mem _ (List.mem_cons_of_mem _ ?_))
  rcases List.mem_cons.mp hr with rfl | hr
  · exact inR _ mD
  · rcases List.mem_append.mp (show r ∈ core w.params a rf tr3 oP3 oR3 oD3 ++ _ from hr) with h | h
    · rw [hNW]; exact List.mem_append_left _ h
    · exact inR _ (by rw [hrest]; exact List.mem_cons_of_mem _ h)
end
end

/-! part HkAH -/
section
open PySem PySem.W PyProof.Rows PySem.Calls
section
variable {prog : Program} {w : World} {p : Program} {loose : List Str} {mean : ExcName → Option Value} {mg mb : Str → Option Value}

set_option maxHeartbeats 4000000 in
/-- the row is laid by -/
theorem t7 {dp un : Nat} {h₀ : Heap} {L fa nb sq lk gv D : Addr} {cd : Value} {m : Str → Option Value} {c1 c2 c3 c4 c5 c6 oK oG oP oR oD : Obj} {nv sv vs rv : List Value} {nn sn cl : Nat} {tl : Ledger} {s : Shared} {a : Ad} {rf : Int} {tr : Tok}
    {fr : Option (List Env)} {gd : Option (List Code)} {Q : Flow → Shared → Prop} (Z : Sep a gv lk L nb sq tl) (hsv : sv.length ≤ 100)
    (hc2 : c2.data = .cell (some (.ref sq))) (hc5 : c5.data = .cell (some (.ref D)))
    (neD : ∀ p ∈ fullL w.params a rf tr oP oR oD vs cl gv oG lk oK L nb sq c1 c2 c3 c4 c5 c6 nv sv nn sn tl, p.1 ≠ D)
    (F : Fr h₀ L s.heap m) (X : (hd.heap_39 w.params).In h₀) (T : Top p loose mean mg mb h₀) (N : News h₀ L s.heap ((D, LCg.lst rv) :: fullL w.params a rf tr oP oR oD vs cl gv oG lk oK L nb sq c1 c2 c3 c4 c5 c6 nv sv nn sn tl))
    (ret : ∀ h' tk, Fr h₀ L h' m → News h₀ L h' ((D, LCg.lst rv) :: fullL w.params a rf tr oP oR oD vs cl gv oG lk oK L nb sq c1 c2 c3 c4 c5 c6 nv (sv ++ [.ref D]) nn (sn + 1) tl) → Q .next { s with heap := h', toks := tk }) :
    wpAny (model prog w) (topA dp un fr gd) (execs ((turnCode.drop 9).take 1) (envOfC (Str.ofString "law") lawCode.2 L fa cd)) Q (fun _ _ => False) s := by
  dsimp only [turnCode, lawCode, PySem.Challenge.pw_bd0017_01, List.take, List.drop]
  have mS : (sq, listOf sv.toArray sn) ∈ fullL w.params a rf tr oP oR oD vs cl gv oG lk oK L nb sq c1 c2 c3 c4 c5 c6 nv sv nn sn tl := by simp only [fullL, base]; k_mem
  have U : Upd sq (listOf sv.toArray sn) (listOf (sv ++ [Value.ref D]).toArray (sn + 1)) ((D, LCg.lst rv) :: fullL w.params a rf tr oP oR oD vs cl gv oG lk oK L nb sq c1 c2 c3 c4 c5 c6 nv sv nn sn tl) ((D, LCg.lst rv) :: fullL w.params a rf tr oP oR oD vs cl gv oG lk oK L nb sq c1 c2 c3 c4 c5 c6 nv (sv ++ [.ref D]) nn (sn + 1) tl) := .tail (Ne.symm (neD _ mS)) (updSq Z)
  obtain ⟨NW, hNW⟩ : ∃ NW, NW = (D, LCg.lst rv) :: fullL w.params a rf tr oP oR oD vs cl gv oG lk oK L nb sq c1 c2 c3 c4 c5 c6 nv sv nn sn tl := ⟨_, rfl⟩
  have m2 : (L + 2, c2) ∈ NW := by rw [hNW]; simp only [fullL, base]; k_mem
  have m5 : (L + 5, c5) ∈ NW := by rw [hNW]; simp only [fullL, base]; k_mem
  have mS' : (sq, listOf sv.toArray sn) ∈ NW := by rw [hNW]; exact List.mem_cons_of_mem _ mS
  rw [← hNW] at N U
  have N1 := news_front (q := (L + 2, c2)) (news_front (q := (L + 5, c5)) (news_front (q := (sq, listOf sv.toArray sn)) N mS') (List.mem_cons_of_mem _ m5)) (List.mem_cons_of_mem _ (List.mem_cons_of_mem _ m2))
  clear N hNW neD mS
  walk_at "HK3"
  have N2 : News h₀ L s.heap NW := news_sub N1 (.cons _ (.cons _ (.cons _ (.refl _))))
  refine lst_append F N2 U (by omega) fun h1 F1 N3 => ?_
  clear N1 N2 F U mS' m2 m5
  walk_at "HK3"
  exact ret _ _ F1 N3
end
end

/-! part HkBA -/
section
open PySem PySem.W PyProof.Rows PySem.Calls
theorem perm_sub {α : Type} [DecidableEq α] {a b : List α} (ha : a.Nodup) (hb : b.Nodup) (hs : ∀ x ∈ a, x ∈ b) (hl : b.length ≤ a.length) : a.Perm b := by
  refine (List.perm_ext_iff_of_nodup ha hb).mpr fun x => ⟨hs x, fun hx => ?_⟩
  refine Classical.byContradiction fun hn => ?_
  have := nodup_le (l := x :: a) (r := b) (List.nodup_cons.mpr ⟨hn, ha⟩) fun y hy => by
    rcases List.mem_cons.mp hy with rfl | hy
    · exact hx
    · exact hs y hy
  simp only [List.length_cons] at this
  omega

structure Latin (n : Nat) (rows : List (List Str)) : Prop where
  row : ∀ r ∈ rows, r.Perm (abc n)
  col : ∀ c ∈ nums n, (colv rows c).Nodup

theorem row_len {n : Nat} {r : List Str} (h5 : n ≤ 5) (h : r.Perm (abc n)) : r.length = n := by rw [h.length_eq, abc_len h5]
theorem getD_mem {r : List Str} {i : Nat} (h : i < r.length) : r.getD i Str.empty ∈ r := by
  rw [List.getD_eq_getElem?_getD, List.getElem?_eq_getElem h]
  exact List.getElem_mem h
theorem colv_sub {n : Nat} {rows : List (List Str)} (h5 : n ≤ 5) (h : Latin n rows) {c : Int} (hc : c ∈ nums n) : ∀ x ∈ colv rows c, x ∈ abc n := by
  intro x hx
  obtain ⟨r, hr, rfl⟩ := List.mem_map.mp hx
  have hp := h.row r hr
  obtain ⟨b1, b2⟩ := nums_mem hc
  exact hp.mem_iff.mp (getD_mem (by rw [row_len h5 hp]; omega))
theorem colv_len {rows : List (List Str)} {c : Int} : (colv rows c).length = rows.length := by unfold colv; rw [List.length_map]

theorem adj_len {n : Nat} {rows : List (List Str)} {signs : List Str} (h5 : n ≤ 5) (h : Latin n rows) (hs : signs.Perm (abc n)) {c : Int} (hc : c ∈ nums n) : (adjOf signs rows c).length = n - rows.length := by
  have hn : signs.Nodup := hs.nodup_iff.mpr abc_nodup
  have h2 := filter_two (fun s => (colv rows c).contains s) signs
  have h3 : (signs.filter fun s => (colv rows c).contains s).length = rows.length := by
    have e1 := nodup_le (l := signs.filter fun s => (colv rows c).contains s) (r := colv rows c) (hn.filter _) fun x hx => by
      have := (List.mem_filter.mp hx).2
      simpa using this
    have e2 := nodup_le (l := colv rows c) (r := signs.filter fun s => (colv rows c).contains s) (h.col c hc) fun x hx =>
      List.mem_filter.mpr ⟨hs.mem_iff.mpr (colv_sub h5 h hc x hx), by simpa using hx⟩
    rw [colv_len] at e1 e2
    omega
  have h4 : signs.length = n := row_len h5 hs
  unfold adjOf
  omega

theorem idx_at {r : List Str} {s : Str} (h : s ∈ r) : r.getD (r.idxOf s) Str.empty = s := by
  rw [List.getD_eq_getElem?_getD, List.getElem?_eq_getElem (List.idxOf_lt_length_of_mem h)]
  simp
theorem spots_nodup {n : Nat} {s : Str} (h5 : n ≤ 5) (hsn : s ∈ abc n) : ∀ {rows : List (List Str)}, Latin n rows → (rows.map fun r => (r.idxOf s : Int)).Nodup
  | [], _ => List.nodup_nil
  | r :: rs, h => by
    have hL : Latin n rs := ⟨fun x hx => h.row x (List.mem_cons_of_mem _ hx), fun c hc => (List.nodup_cons.mp (h.col c hc)).2⟩
    rw [List.map_cons, List.nodup_cons]
    refine ⟨fun hm => ?_, spots_nodup h5 hsn hL⟩
    obtain ⟨r', hr', e⟩ := List.mem_map.mp hm
    have hp := h.row r List.mem_cons_self
    have hp' := h.row r' (List.mem_cons_of_mem _ hr')
    have m1 : s ∈ r := hp.mem_iff.mpr hsn
    have m2 : s ∈ r' := hp'.mem_iff.mpr hsn
    have l1 := List.idxOf_lt_length_of_mem m1
    have l2 := List.idxOf_lt_length_of_mem m2
    have e' : r'.idxOf s = r.idxOf s := Int.ofNat.inj e
    have hc : ((r.idxOf s : Nat) : Int) ∈ nums n := List.mem_map.mpr ⟨_, List.mem_range.mpr (by rw [row_len h5 hp] at l1; exact l1), rfl⟩
    have hn := (List.nodup_cons.mp (h.col _ hc)).1
    refine hn (List.mem_map.mpr ⟨r', hr', ?_⟩)
    show r'.getD (r.idxOf s) Str.empty = r.getD (r.idxOf s) Str.empty
    rw [idx_at m1, ← e', idx_at m2]

theorem latin_reg {n : Nat} {rows : List (List Str)} {signs : List Str} {cols : List Int} (h5 : n ≤ 5) (h : Latin n rows) (hs : signs.Perm (abc n)) (hc : cols.Perm (nums n)) (hk : rows.length < n) :
    Reg ⟨cols, adjOf signs rows⟩ signs (n - rows.length) := by
  have hn : signs.Nodup := hs.nodup_iff.mpr abc_nodup
  refine ⟨hc.nodup_iff.mpr nums_nodup, by omega, hn, fun c hcm => ⟨hn.filter _, adj_len h5 h hs (hc.mem_iff.mp hcm), fun s hsm => (List.mem_filter.mp hsm).1⟩, fun s hsm => ?_⟩
  have hcl : cols.length = n := by rw [hc.length_eq, nums_len]
  have hsn := hs.mem_iff.mp hsm
  have h2 := filter_two (fun c => (colv rows c).contains s) cols
  have h3 : rows.length ≤ (cols.filter fun c => (colv rows c).contains s).length := by
    have := nodup_le (l := rows.map fun r => (r.idxOf s : Int)) (r := cols.filter fun c => (colv rows c).contains s) (spots_nodup h5 hsn h) fun c hcm => by
      obtain ⟨r, hr, rfl⟩ := List.mem_map.mp hcm
      have hp := h.row r hr
      have l1 := List.idxOf_lt_length_of_mem (hp.mem_iff.mpr hsn)
      refine List.mem_filter.mpr ⟨hc.mem_iff.mpr (List.mem_map.mpr ⟨_, List.mem_range.mpr (by rw [row_len h5 hp] at l1; exact l1), rfl⟩), ?_⟩
      rw [List.contains_iff_mem]
      refine List.mem_map.mpr ⟨r, hr, ?_⟩
      show r.getD (r.idxOf s) Str.empty = s
      rw [List.getD_eq_getElem?_getD, List.getElem?_eq_getElem l1]
      simp
    rwa [List.length_map] at this
  have h4 : (cols.filter fun c => (adjOf signs rows c).contains s).length ≤ (cols.filter fun c => !(colv rows c).contains s).length := by
    refine filter_len_le _ _ _ fun c _ hcs => ?_
    rw [List.contains_iff_mem] at hcs
    exact (List.mem_filter.mp hcs).2
  show (cols.filter fun c => (adjOf signs rows c).contains s).length ≤ _
  omega

theorem rowOf_perm {n : Nat} {rows : List (List Str)} {signs : List Str} {cols : List Int} {σ : PS} (h5 : n ≤ 5) (hs : signs.Perm (abc n)) (hc : cols.Perm (nums n)) (M : MV cols (adjOf signs rows) σ) (hf : ∀ c ∈ cols, (σ.p c).isSome = true) :
    (rowOf σ.p n).Perm (abc n) := by
  have val : ∀ c ∈ nums n, ∃ s, σ.p c = some s ∧ s ∈ signs := fun c hcm => by
    obtain ⟨s, e⟩ := Option.isSome_iff_exists.mp (hf c (hc.mem_iff.mpr hcm))
    exact ⟨s, e, (List.mem_filter.mp (M.2 c s e).2).1⟩
  refine perm_sub ?_ abc_nodup (fun x hx => ?_) (by unfold rowOf; rw [List.length_map, nums_len, abc_len h5]; exact Nat.le_refl _)
  · refine nodup_map_on (fun c hcm d hdm e => ?_) nums_nodup
    obtain ⟨s, e1, _⟩ := val c hcm
    obtain ⟨t, e2, _⟩ := val d hdm
    rw [e1, e2] at e
    have e : s = t := e
    subst e
    have h1 := (M.1 s c).mpr e1
    have h2 := (M.1 s d).mpr e2
    rw [h1] at h2
    exact Option.some.inj h2
  · obtain ⟨c, hcm, rfl⟩ := List.mem_map.mp hx
    obtain ⟨s, e1, e2⟩ := val c hcm
    rw [e1]
    exact hs.mem_iff.mp e2

theorem rowOf_at {f : Int → Option Str} {n : Nat} {c : Int} (hc : c ∈ nums n) : (rowOf f n).getD c.toNat Str.empty = (f c).getD Str.empty := by
  obtain ⟨b1, b2⟩ := nums_mem hc
  have e1 : c = ((c.toNat : Nat) : Int) := (Int.toNat_of_nonneg b1).symm
  have hlt : c.toNat < n := by omega
  unfold rowOf nums
  rw [List.getD_eq_getElem?_getD, List.getElem?_map, List.getElem?_map, List.getElem?_range hlt]
  show (f ((c.toNat : Nat) : Int)).getD Str.empty = _
  rw [← e1]

theorem latin_snoc {n : Nat} {rows : List (List Str)} {signs : List Str} {cols : List Int} {σ : PS} (h5 : n ≤ 5) (h : Latin n rows) (hs : signs.Perm (abc n)) (hc : cols.Perm (nums n)) (M : MV cols (adjOf signs rows) σ) (hf : ∀ c ∈ cols, (σ.p c).isSome = true) :
    Latin n (rows ++ [rowOf σ.p n]) := by
  refine ⟨fun r hr => ?_, fun c hcm => ?_⟩
  · rcases List.mem_append.mp hr with hr | hr
    · exact h.row r hr
    · rw [List.mem_singleton.mp hr]; exact rowOf_perm h5 hs hc M hf
  · obtain ⟨s, e⟩ := Option.isSome_iff_exists.mp (hf c (hc.mem_iff.mpr hcm))
    have hns := (List.mem_filter.mp (M.2 c s e).2).2
    unfold colv
    rw [List.map_append, List.map_singleton, rowOf_at hcm, e]
    show (colv rows c ++ [s]).Nodup
    rw [List.nodup_append]
    refine ⟨h.col c hcm, by simp, fun x hx y hy => ?_⟩
    rw [List.mem_singleton.mp hy]
    rintro rfl
    simp [List.contains_iff_mem] at hns
    exact hns hx

theorem latin_end {n : Nat} {rows : List (List Str)} (h5 : n ≤ 5) (h : Latin n rows) (hl : rows.length = n) {c : Int} (hc : c ∈ nums n) : (colv rows c).Perm (abc n) :=
  perm_sub (h.col c hc) abc_nodup (colv_sub h5 h hc) (by rw [colv_len, abc_len h5, hl]; exact Nat.le_refl _)
end

/-! part HkBB -/
section
open PySem PySem.W PyProof.Rows PySem.Calls
theorem rows_snoc {n : Nat} {sv : List Value} {rows : List (List Str)} {tl tl' : Ledger} {D : Addr} {rv : List Value} {nn : Nat} {row : List Str} (R : RowsAre n sv rows tl) (hs : ∀ q ∈ tl, q ∈ tl') (hm : (D, listOf rv.toArray nn) ∈ tl') (hr : StrsAre rv row) (hl : row.length = n) :
    RowsAre n (sv ++ [.ref D]) (rows ++ [row]) tl' := by
  refine ⟨by rw [List.length_append, List.length_append, R.len]; rfl, fun j v hv => ?_⟩
  by_cases hj : j < sv.length
  · rw [List.getElem?_append_left hj] at hv
    obtain ⟨a, xs, nx, r, e1, e2, e3, e4, e5⟩ := R.row j v hv
    exact ⟨a, xs, nx, r, by rw [List.getElem?_append_left (by rw [← R.len]; exact hj)]; exact e1, e2, hs _ e3, e4, e5⟩
  · have hlt : j < (sv ++ [Value.ref D]).length := by
      rcases Nat.lt_or_ge j (sv ++ [Value.ref D]).length with h | h
      · exact h
      · rw [List.getElem?_eq_none h] at hv; cases hv
    have hj' : j = sv.length := by rw [List.length_append, List.length_singleton] at hlt; omega
    subst hj'
    rw [List.getElem?_append_right (Nat.le_refl _), Nat.sub_self] at hv
    have hv : some (Value.ref D) = some v := hv
    refine ⟨D, rv, nn, row, ?_, (Option.some.inj hv).symm, hm, hr, hl⟩
    rw [R.len, List.getElem?_append_right (Nat.le_refl _), Nat.sub_self]
    rfl

section
variable {prog : Program} {w : World} {p : Program} {loose : List Str} {mean : ExcName → Option Value} {mg mb : Str → Option Value}

set_option maxHeartbeats 4000000 in
/-- one turn of the law's loop -/
theorem turn_all {dp un n k : Nat} {tn tk : Tok} {h₀ : Heap} {L fa nb sq : Addr} {cd : Value} {m : Str → Option Value} {c1 c2 c3 c4 c5 c6 : Obj} {v3 v4 v5 v6 : Option Value} {nv sv : List Value} {nn sn : Nat} {tl : Ledger} {s : Shared} {rows : List (List Str)}
    {fr : Option (List Env)} {gd : Option (List Code)} {Q : Flow → Shared → Prop} (H : Held dp un n k L nb sq nv tl) (R : RowsAre n sv rows tl) (hLat : Latin n rows) (hrk : rows.length = k)
    (hc1 : c1.data = .cell (some (.int n tn))) (hc2 : c2.data = .cell (some (.ref sq))) (hc3 : c3.data = .cell v3) (hc4 : c4.data = .cell v4) (hc5 : c5.data = .cell v5) (hc6 : c6.data = .cell v6)
    (F : Fr h₀ L s.heap m) (X : (hd.heap_39 w.params).In h₀) (T : Top p loose mean mg mb h₀) (N : News h₀ L s.heap (base L nb sq c1 c2 c3 c4 c5 c6 nv sv nn sn tl))
    (hm1 : m (Str.ofString "numbers") = some (.ref nb)) (hm2 : m (Str.ofString "k") = some (.int k tk))
    (tl₀ : Ledger) (etl : tl₀ = tl) (ret : ∀ h' tk m' c3 c4 c5 c6 v3 v4 v5 v6 sv tl row, m' (Str.ofString "numbers") = some (.ref nb) → c3.data = .cell v3 → c4.data = .cell v4 → c5.data = .cell v5 → c6.data = .cell v6 →
      RowsAre n sv (rows ++ [row]) tl → Latin n (rows ++ [row]) → OwnOff tl (lits L nb sq) → (∀ q ∈ tl₀, q ∈ tl) → Fr h₀ L h' m' → News h₀ L h' (base L nb sq c1 c2 c3 c4 c5 c6 nv sv nn (sn + 1) tl) → Q .next { s with heap := h', toks := tk }) :
    wpAny (model prog w) (topA dp un fr gd) (execs turnCode (envOfC (Str.ofString "law") lawCode.2 L fa cd)) Q (fun _ _ => False) s := by
  have hn := H.n2
  have hn5 := H.n5
  have hkn := H.kn
  have hu := H.un
  have hroom := H.room
  refine execs_seg 1 (t0 H hc1 hc2 hc3 hc4 hc5 hc6 F X T N hm1 hm2 fun h1 tk1 sg lk c3 oK ws c signs S1 P1 d3 hdK lo neS neK F1 N1 => ?_)
  dsimp only
  have hsl : signs.length = n := by rw [P1.length_eq, abc_len hn5]
  refine execs_seg 1 (t1 H R hrk S1 (by omega) hc1 hc2 d3 hc4 hc5 hc6 hdK lo neS neK F1 X T N1 (by rw [if_neg (by decide)]; exact hm1) (by rw [if_neg (by decide)]; exact hm2) (by rw [if_pos rfl]) fun h2 tk2 c4 v4 oK kvs cs Pk hdK2 hcs d4 hco F2 N2 => ?_)
  rw [List.drop_drop]
  have hal : ∀ c, (adjOf signs rows c).length ≤ 100 := fun c => by
    have := List.length_filter_le (fun s => !(colv rows c).contains s) signs
    unfold adjOf
    omega
  have hi2 : OwnOff (cs ++ tl) (lits L nb sq) := fun q hq b hb => by
    rcases List.mem_append.mp hq with h | h
    · exact hco q h b (List.mem_cons_of_mem _ hb)
    · exact H.hi q h b hb
  have H2 : Held dp un n k L nb sq nv (cs ++ tl) := { H with hi := hi2 }
  have hkz : kvs.length = n := by
    have := Pk.length_eq
    rwa [List.length_map, nums_len] at this
  have hcs2 : ColsAre (adjOf signs rows) kvs (cs ++ tl) := fun q hq => by
    obtain ⟨a, xs, nx, e1, e2, e3⟩ := hcs q hq
    exact ⟨a, xs, nx, e1, List.mem_append_left _ e2, e3⟩
  refine execs_seg 1 (t2 H2 (by omega) lo d3 hdK2 hcs2 hal F2 X T (news_sub N2 (.cons_cons _ (.cons _ (.refl _)))) fun h3 tk3 gv oG prs js hpk hdG hcp hjo loG neG F3 N3 => ?_)
  dsimp only
  rw [List.drop_drop]
  obtain ⟨tl2, htl2⟩ : ∃ tl2, tl2 = js ++ (cs ++ tl) := ⟨_, rfl⟩
  rw [← htl2] at neG N3
  have hi3 : OwnOff tl2 (lits L nb sq) := fun q hq b hb => by
    rw [htl2] at hq
    rcases List.mem_append.mp hq with h | h
    · exact hjo q h b hb
    · exact hi2 q h b hb
  have H3 : Held dp un n k L nb sq nv tl2 := { H with hi := hi3 }
  have hcs3 : ColsAre (adjOf signs rows) kvs tl2 := fun q hq => by
    obtain ⟨a, xs, nx, e1, e2, e3⟩ := hcs2 q hq
    exact ⟨a, xs, nx, e1, by rw [htl2]; exact List.mem_append_right _ e2, e3⟩
  have hcp3 : ColsAre (adjOf signs rows) prs tl2 := fun q hq => by
    obtain ⟨a, xs, nx, e1, e2, e3⟩ := hcp q hq
    exact ⟨a, xs, nx, e1, by rw [htl2]; exact List.mem_append_left _ e2, e3⟩
  have RG := latin_reg (cols := kvs.map (·.1)) hn5 hLat P1 Pk (by omega)
  obtain ⟨σ, rf, hr, M, hf⟩ := run_ok RG
  have hr : run ⟨kvs.map (·.1), adjOf signs rows⟩ = some (σ, n, rf) := by
    rw [hr]
    show some (σ, (kvs.map (·.1)).length, rf) = _
    rw [List.length_map, hkz]
  have sz : Sized ⟨kvs.map (·.1), adjOf signs rows⟩ signs := ⟨by show (kvs.map (·.1)).length ≤ 100; rw [List.length_map]; omega, by omega, fun l _ s hs => (List.mem_filter.mp hs).1, RG.nd, fun l _ => hal l⟩
  have hfn : ∀ c ∈ nums n, (σ.p c).isSome = true := fun c hc => hf c (Pk.mem_iff.mpr hc)
  simp only [base, AllNe] at neK
  obtain ⟨k0, k1, k2, k3, k4, k5, k6, k7, k8, k9⟩ := neK
  refine execs_seg 2 (t3 H3 hkz lo d3 hc6 hdK2 hcs3 sz hr neG (by simp only [base, AllNe]; exact ⟨k1, k2, k3, k4, k5, k6, k7, k8, trivial⟩) F3 X T N3 fun h4 tk4 a tr oP oR oD c6 vs cl tc egl ap Iv S3 d6 off neL F4 N4 => ?_)
  dsimp only
  rw [List.drop_drop]
  have memE : ∀ x ∈ a.lf :: gv :: lk :: lits L nb sq, ∃ q ∈ (a.lf, listOf vs.toArray cl) :: (gv, oG) :: (lk, oK) :: base L nb sq c1 c2 c3 c4 c5 c6 nv sv nn sn tl2, q.1 = x := fun x hx =>
    List.mem_map.mp (show x ∈ (a.lf :: gv :: lk :: lits L nb sq) ++ tl2.map (·.1) from List.mem_append_left _ hx)
  have memL : ∀ x ∈ gv :: lk :: lits L nb sq, ∃ q ∈ (gv, oG) :: (lk, oK) :: base L nb sq c1 c2 c3 c4 c5 c6 nv sv nn sn tl2, q.1 = x := fun x hx =>
    List.mem_map.mp (show x ∈ (gv :: lk :: lits L nb sq) ++ tl2.map (·.1) from List.mem_append_left _ hx)
  simp only [base, AllNe] at neG
  obtain ⟨g0, g1, g2, g3, g4, g5, g6, g7, g8, g9⟩ := neG
  have Z : Sep a gv lk L nb sq tl2 := by
    refine ⟨ap, fun x hx b hb => ?_, fun x hx => ?_, fun x hx => ?_, fun x hx => ?_, H.L1, H.L2, hi3, fun q hq b hb => off q ?_ b hb⟩
    · obtain ⟨q, hq, rfl⟩ := memE x hx
      exact off q hq b hb
    · obtain ⟨q, hq, rfl⟩ := memL x hx
      exact allNe_ne neL q hq
    · simp only [lits, List.mem_cons, List.not_mem_nil, or_false] at hx
      rcases hx with rfl | rfl | rfl | rfl | rfl | rfl | rfl | rfl | rfl <;> assumption
    · simp only [lits, List.mem_cons, List.not_mem_nil, or_false] at hx
      rcases hx with rfl | rfl | rfl | rfl | rfl | rfl | rfl | rfl <;> assumption
    · simp only [base]
      repeat (first | exact hq | refine List.mem_cons_of_mem _ ?_)
  obtain ⟨kp, hdP, hkP, hvP⟩ := id S3.P
  have hkn2 : (kp.map (·.1)).Nodup := by obtain ⟨_, _, _, _, _, _, hn⟩ := hdP; exact hn
  have hkp : (kp.map (·.1)).Perm (nums n) := by
    refine (List.perm_ext_iff_of_nodup hkn2 nums_nodup).mpr fun c => ⟨fun hc => ?_, fun hc => ?_⟩
    · obtain ⟨r, hr, rfl⟩ := List.mem_map.mp hc
      exact Pk.mem_iff.mp (hkP r hr)
    · obtain ⟨x, hx⟩ := Option.isSome_iff_exists.mp (hfn c hc)
      have := hvP c
      rw [hx] at this
      obtain ⟨y, hy, _⟩ := this
      exact List.mem_map.mpr ⟨_, valueAt_mem hy, rfl⟩
  have inT : ∀ q ∈ tl2, q ∈ fullL w.params a rf tr oP oR oD vs cl gv oG lk oK L nb sq c1 c2 c3 c4 c5 c6 nv sv nn sn tl2 := fun q hq => by
    simp only [fullL, base]
    repeat (first | exact hq | refine List.mem_cons_of_mem _ ?_)
  refine execs_seg 1 (t4 (adj := adjOf signs rows) (NW := fullL w.params a rf tr oP oR oD vs cl gv oG lk oK L nb sq c1 c2 c3 c4 c5 c6 nv sv nn sn tl2) hn hn5 hroom hu lo loG ap.l1 hc1 d3 d6 hdK2 hdG hdP hpk hkp
    (fun q hq => by obtain ⟨x, xs, nx, e1, e2, e3⟩ := hcs3 q hq; exact ⟨x, xs, nx, e1, inT _ e2, e3⟩) (fun q hq => by obtain ⟨x, xs, nx, e1, e2, e3⟩ := hcp3 q hq; exact ⟨x, xs, nx, e1, inT _ e2, e3⟩)
    (fun c x hx => abc_sub (P1.mem_iff.mp (List.mem_filter.mp hx).1)) F4 X T N4 (by simp only [fullL, base]; k_mem) (by simp only [fullL, base]; k_mem) (by simp only [fullL, base]; k_mem) (by simp only [fullL, base]; k_mem) (by simp only [fullL, base]; k_mem) (by simp only [fullL, base]; k_mem)
    (by rw [if_pos rfl]) (by rw [if_neg (by decide), if_neg (by decide), if_pos rfl]) fun h5 tk5 F5 N5 => ?_)
  dsimp only
  rw [List.drop_drop]
  refine execs_seg 2 (t5 hn hn5 hu Z hc1 hc5 d6 S3.P hfn (rowOf_perm hn5 P1 Pk M hf) F5 X T N5 fun h6 tk6 c5 D rv hrv d5 neD F6 N6 => ?_)
  dsimp only
  rw [List.drop_drop]
  refine execs_seg 1 (t6 hn hn5 hu hroom Z egl lo hc1 d5 hrv Iv Pk S3 hfn hdK2 hcs3 sz hr (by rw [if_neg (by decide), if_pos rfl]) neD F6 X T N6 fun h7 tk7 tr7 oP7 oR7 oD7 F7 N7 => ?_)
  dsimp only
  rw [List.drop_drop]
  have hsv : sv.length ≤ 100 := by rw [R.len, hrk]; omega
  refine execs_seg 1 (t7 Z hsv hc2 d5 (fun p hp e => ?_) F7 X T N7 fun h8 tk8 F8 N8 => ?_)
  · have t1 : p.1 ∈ (fullL w.params a rf tr7 oP7 oR7 oD7 vs cl gv oG lk oK L nb sq c1 c2 c3 c4 c5 c6 nv sv nn sn tl2).map (·.1) := List.mem_map.mpr ⟨p, hp, rfl⟩
    have t2 : p.1 ∈ (fullL w.params a rf tr oP oR oD vs cl gv oG lk oK L nb sq c1 c2 c3 c4 c5 c6 nv sv nn sn tl2).map (·.1) := by simp only [fullL, base, List.map_cons] at t1 ⊢; exact t1
    obtain ⟨r, hr, er⟩ := List.mem_map.mp t2
    exact neD r hr (er.trans e)
  dsimp only
  rw [List.drop_drop]
  refine wpAny_execs_nil ?_
  refine ret h8 tk8 _ c3 c4 c5 c6 _ _ _ _ (sv ++ [.ref D]) ((D, LCg.lst rv) :: tl2) (rowOf σ.p n) (by rw [if_neg (by decide), if_neg (by decide), if_neg (by decide), if_neg (by decide)]; exact hm1) d3 d4 d5 d6
    (rows_snoc R (fun q hq => List.mem_cons_of_mem _ (by rw [htl2]; exact List.mem_append_right _ (List.mem_append_right _ hq))) List.mem_cons_self hrv (by unfold rowOf; rw [List.length_map, nums_len])) (latin_snoc hn5 hLat P1 Pk M hf) (fun q hq b hb => ?_) (fun q hq => List.mem_cons_of_mem _ (by rw [htl2]; exact List.mem_append_right _ (List.mem_append_right _ (etl ▸ hq)))) F8 (fun q hq => N8 q ?_)
  · rcases List.mem_cons.mp hq with rfl | hq
    · obtain ⟨r, hr, er⟩ := memE b (List.mem_cons_of_mem _ (List.mem_cons_of_mem _ (List.mem_cons_of_mem _ hb)))
      have t1 : b ∈ (fullL w.params a rf tr oP oR oD vs cl gv oG lk oK L nb sq c1 c2 c3 c4 c5 c6 nv sv nn sn tl2).map (·.1) := by
        have : b ∈ (lits L nb sq) ++ tl2.map (·.1) := List.mem_append_left _ hb
        simp only [fullL, base, List.map_cons]
        repeat (first | exact this | refine List.mem_cons_of_mem _ ?_)
      obtain ⟨r, hr, rfl⟩ := List.mem_map.mp t1
      exact Ne.symm (neD r hr)
    · exact hi3 q hq b hb
  · rcases mem_mid (pre := [(L + 6, c6), (L + 5, c5), (L + 4, c4), (L + 3, c3), (L + 2, c2), (L + 1, c1), (nb, listOf nv.toArray nn), (sq, listOf (sv ++ [Value.ref D]).toArray (sn + 1))]) hq with rfl | hq
    · exact List.mem_cons_self
    · have : q ∈ [(L + 6, c6), (L + 5, c5), (L + 4, c4), (L + 3, c3), (L + 2, c2), (L + 1, c1), (nb, listOf nv.toArray nn), (sq, listOf (sv ++ [Value.ref D]).toArray (sn + 1))] ++ tl2 := hq
      refine List.mem_cons_of_mem _ ?_
      simp only [fullL]
      repeat (first | exact this | refine List.mem_cons_of_mem _ ?_)
end
end

/-! part HkBC -/
section
open PySem PySem.W PyProof.Rows PySem.Calls
section
variable {prog : Program} {w : World} {A : Around} {E : Value → Shared → Prop} {s : Shared} {h₀ : Heap} {env : Env} {news : Ledger}

/-- a for over a range, any target: what the turn leaves of the ledger may hold the iterator, the next turn's ledger is the part without it -/
theorem turns_range {target : Expr} {body : List Stmt} {Q : Flow → Shared → Prop} {r : Addr} {t u v : Tok} {n : Nat} {m₀ : Str → Option Value} (J : Nat → (Str → Option Value) → Ledger → Prop)
    (hgo : ∀ (I : Addr) (v : Value), letOwnedTupleGo target (.ref I) v = pure ())
    (hh : A.handled = none) (F : Fr h₀ env.locals s.heap m₀) (N : News h₀ env.locals s.heap news) (hr : IsRange s.heap r 0 ((n : Nat) : Int) 1 t u v) (hn : n ≤ 1000) (hj : J 0 m₀ news)
    (turn : ∀ i t m₁ news₁ h tk (I : Addr) oI, i < n → J i m₁ news₁ → Fr h₀ env.locals h m₁ → News h₀ env.locals h ((I, oI) :: news₁) → oI.cls = .type "range_iterator" → (∀ p ∈ news₁, @Ne Nat p.1 I) →
      wpAny (model prog w) A (assign target env (.int ((i : Nat) : Int) t)) (fun _ s₂ => wpAny (model prog w) A (execs body env)
        (fun f s₃ => f = .next ∧ ∃ h' tk' m' news', s₃ = { s with heap := h', toks := tk' } ∧ Fr h₀ env.locals h' m' ∧ News h₀ env.locals h' ((I, oI) :: news') ∧ (∀ p ∈ news', @Ne Nat p.1 I) ∧ J (i + 1) m' news') E s₂) E { s with heap := h, toks := tk })
    (done : ∀ m₁ news₁ h tk, J n m₁ news₁ → Fr h₀ env.locals h m₁ → News h₀ env.locals h news₁ → Q .next { s with heap := h, toks := tk }) :
    wpAny (model prog w) A (pyIter (.ref r)) (fun it s₂ => TurnsAt prog w A h₀ env target body Q E it s₂) E s := by
  have I0 : h₀.get? s.heap.objs.size = none := next_is_new F
  have IL : s.heap.objs.size ≠ env.locals := Ne.symm (Nat.ne_of_lt F.ns.lt)
  refine wpAny_pyIter_range hr (small_one (by omega) (by omega) (by omega) (by omega)) ?_
  generalize hI : s.heap.objs.size = I at I0 IL ⊢
  have W := LCg.range_walks (prog := prog) (w := w) (I := I) hh 0 n
  refine ⟨I, _, _, n, _, _, _, m₀, news, J, rfl, KTurns.ofWalks W (fun i v s Q E _ hq => wpAny_of_eq (hgo _ _) hq), ?_, ?_, ?_, ?_, F.push _, (fun p hp => ⟨Heap.get?_push_of_some _ (N p hp).1, (N p hp).2⟩), hj, ?_, ?_⟩
  · intro hm
    exact IL (List.mem_singleton.mp hm).symm
  · intro b hb
    rw [List.mem_singleton.mp hb]
    exact I0
  · intro p hp h
    exact absurd (Heap.lt_size (N p hp).1) ((List.mem_singleton.mp h) ▸ hI ▸ Nat.lt_irrefl _)
  · show (s.heap.push _).get? I = some _
    rw [rangeSize_nat, ← hI, Heap.get?_push_size _ rfl]
    simp
  · intro i v m₁ news₁ h₁ tk₁ own hi hP hJ hoff hown hget hcov hst F₁ N₁
    obtain ⟨tv, rfl⟩ := hP
    have e0 : (0 : Int) + (i : Int) = (i : Int) := Int.zero_add _
    rw [e0]
    obtain ⟨oI, eI, cI⟩ : ∃ oI, h₁.get? I = some oI ∧ oI.cls = .type "range_iterator" := ⟨_, hst, rfl⟩
    have mI := hcov I (List.mem_singleton.mpr rfl) I0 _ eI
    have hoff' : ∀ p ∈ news₁, @Ne Nat p.1 I := fun p hp e => hoff p hp (List.mem_singleton.mpr e)
    refine wpAny_mono (turn i tv m₁ news₁ h₁ tk₁ I oI hi hJ F₁ (fun p hp => ?_) cI hoff') (fun _ s₂ h₂ => wpAny_mono h₂ (fun f s₃ h₃ => ?_) fun _ _ e => e) fun _ _ e => e
    · rcases List.mem_cons.mp hp with rfl | hp
      · exact N₁ _ (List.mem_append_left _ mI)
      · exact N₁ _ (List.mem_append_right _ hp)
    · obtain ⟨rfl, h', tk', m', news', rfl, F', N', hn', hJ'⟩ := h₃
      refine .next ⟨rfl, h', tk', m', news', rfl, F', fun p hp => ?_, fun p hp e => hn' p hp (List.mem_singleton.mp e), hJ'⟩
      rcases List.mem_append.mp hp with hp | hp
      · have e1 := hget p hp
        have e := List.mem_singleton.mp (hown p hp)
        rw [e, eI] at e1
        have : p = (I, oI) := Prod.ext e (Option.some.inj e1).symm
        rw [this]; exact N' _ List.mem_cons_self
      · exact N' _ (List.mem_cons_of_mem _ hp)
  · rintro h' tk m' news' F' N' _ hJ
    exact done m' news' h' tk hJ F' N'
end
end

/-! part HkBD -/
section
open PySem PySem.W PyProof.Rows PySem.Calls
section
variable {prog : Program} {w : World} {p : Program} {loose : List Str} {mean : ExcName → Option Value} {mg mb : Str → Option Value}

set_option maxHeartbeats 4000000 in
/-- the law's loop -/
theorem loop_all {dp un n : Nat} {tn : Tok} {h₀ : Heap} {L fa nb sq : Addr} {cd : Value} {m : Str → Option Value} {c1 c2 c3 c4 c5 c6 : Obj} {v3 v4 v5 v6 : Option Value} {nv : List Value} {nn sn : Nat} {s : Shared}
    {fr : Option (List Env)} {gd : Option (List Code)} {Q : Flow → Shared → Prop} (H : Held dp un n 0 L nb sq nv [])
    (hc1 : c1.data = .cell (some (.int n tn))) (hc2 : c2.data = .cell (some (.ref sq))) (hc3 : c3.data = .cell v3) (hc4 : c4.data = .cell v4) (hc5 : c5.data = .cell v5) (hc6 : c6.data = .cell v6)
    (F : Fr h₀ L s.heap m) (X : (hd.heap_39 w.params).In h₀) (T : Top p loose mean mg mb h₀) (N : News h₀ L s.heap (base L nb sq c1 c2 c3 c4 c5 c6 nv [] nn sn []))
    (hm1 : m (Str.ofString "numbers") = some (.ref nb))
    (ret : ∀ h' tk m' c3 c4 c5 c6 sv sn tl rows, RowsAre n sv rows tl → Latin n rows → rows.length = n → Fr h₀ L h' m' → News h₀ L h' (base L nb sq c1 c2 c3 c4 c5 c6 nv sv nn sn tl) → Q .next { s with heap := h', toks := tk }) :
    wpAny (model prog w) (topA dp un fr gd) (execs ((lawCode.1.drop 3).take 1) (envOfC (Str.ofString "law") lawCode.2 L fa cd)) Q (fun _ _ => False) s := by
  dsimp only [lawCode, PySem.Challenge.pw_bd0017_01, List.take, List.drop]
  obtain ⟨hn, hn5, hk, hroom, hu, hnum, hl1, hl2, hL, hL', hi⟩ := H
  simp only [base] at N
  walk_at "HK3"
  with_unfolding_all refine For_turns F ?_ (by intro _; rfl) (by passes_own)
  walk_at "HK3"
  rename IsRange _ _ _ _ _ _ _ _ => R9
  rename Fr _ _ _ _ => F9
  rename News _ _ _ _ => N9
  with_unfolding_all refine turns_range (n := n) (news := base L nb sq c1 c2 c3 c4 c5 c6 nv [] nn sn []) (J := fun i m' nw => m' (Str.ofString "numbers") = some (.ref nb) ∧ ∃ c3 c4 c5 c6 v3 v4 v5 v6 sv sn tl rows, nw = base L nb sq c1 c2 c3 c4 c5 c6 nv sv nn sn tl ∧ c3.data = .cell v3 ∧ c4.data = .cell v4 ∧ c5.data = .cell v5 ∧ c6.data = .cell v6 ∧ RowsAre n sv rows tl ∧ Latin n rows ∧ rows.length = i ∧ OwnOff tl (lits L nb sq)) (by intros; rfl) rfl F9 N9 R9 (by omega) ⟨hm1, c3, c4, c5, c6, v3, v4, v5, v6, [], sn, [], [], rfl, hc3, hc4, hc5, hc6, ⟨rfl, fun j v h => by simp at h⟩, ⟨(fun r h => nomatch h), fun c _ => List.nodup_nil⟩, rfl, fun _ h => nomatch h⟩ ?_ ?_
  · rintro i t m' nw h tk I oI hik ⟨hmn, c3, c4, c5, c6, v3, v4, v5, v6, sv, sn, tl, rows, rfl, d3, d4, d5, d6, R, hLat, hrl, hof⟩ F1 N1 cI neI
    clear F9 N9 R9 ret
    have neI' := allNe_of neI
    simp only [base, AllNe] at neI'
    obtain ⟨i1, i2, i3, i4, i5, i6, i7, i8, i9⟩ := neI'
    refine wpAny_assign_Name ?_
    k_dflt (refine' storeX_L ?F ?N ?_ ?hk ?hx; (case F => exact F1); (case N => exact N1); (case hk => rfl); (case hx => rfl))
    intro h2 F2 N2
    clear F1 N1
    have hof2 : OwnOff ((I, oI) :: tl) (lits L nb sq) := fun q hq b hb => by
      rcases List.mem_cons.mp hq with rfl | hq
      · simp only [lits, List.mem_cons, List.not_mem_nil, or_false] at hb
        rcases hb with rfl | rfl | rfl | rfl | rfl | rfl | rfl | rfl <;> (refine Ne.symm ?_; assumption)
      · exact hof q hq b hb
    have N3 : News h₀ L h2 (base L nb sq c1 c2 c3 c4 c5 c6 nv sv nn sn ((I, oI) :: tl)) := fun q hq => N2 q (by
      rcases mem_mid (pre := [(L + 6, c6), (L + 5, c5), (L + 4, c4), (L + 3, c3), (L + 2, c2), (L + 1, c1), (nb, listOf nv.toArray nn), (sq, listOf sv.toArray sn)]) hq with rfl | hq
      · exact List.mem_cons_self
      · exact List.mem_cons_of_mem _ hq)
    with_unfolding_all refine turn_all (k := i) (rows := rows) ⟨hn, hn5, hik, hroom, hu, hnum, hl1, hl2, hL, hL', hof2⟩ (rows_sub R fun q hq => List.mem_cons_of_mem _ hq) hLat hrl hc1 hc2 d3 d4 d5 d6 F2 X T N3 (by rw [if_neg (by decide)]; exact hmn) (by rw [if_pos rfl]) _ rfl ?_
    intro h3 tk3 m3 c3 c4 c5 c6 v3 v4 v5 v6 sv2 tl2 row hmn2 d3 d4 d5 d6 R2 hLat2 hof3 hsub F3 N4
    have gI : h3.get? I = some oI := (N4 (I, oI) (by simp only [base]; have := hsub _ List.mem_cons_self; repeat (first | exact this | refine List.mem_cons_of_mem _ ?_))).1
    have inT : ∀ q ∈ tl2, q ∈ base L nb sq c1 c2 c3 c4 c5 c6 nv sv2 nn (sn + 1) tl2 := fun q hq => by
      simp only [base]; repeat (first | exact hq | refine List.mem_cons_of_mem _ ?_)
    have fl : ∀ q ∈ tl2.filter (fun p => decide (p.1 ≠ I)), q ∈ tl2 ∧ q.1 ≠ I := fun q hq => ⟨(List.mem_filter.mp hq).1, of_decide_eq_true (List.mem_filter.mp hq).2⟩
    refine ⟨rfl, h3, tk3, m3, base L nb sq c1 c2 c3 c4 c5 c6 nv sv2 nn (sn + 1) (tl2.filter fun p => decide (p.1 ≠ I)), rfl, F3, fun q hq => ?_, ?_, hmn2, c3, c4, c5, c6, v3, v4, v5, v6, sv2, sn + 1, _, rows ++ [row], rfl, d3, d4, d5, d6, ⟨R2.len, fun j v hv => ?_⟩, hLat2, by rw [List.length_append, hrl]; rfl, fun q hq => hof3 q (fl q hq).1⟩
    · rcases List.mem_cons.mp hq with rfl | hq
      · exact N4 _ (inT _ (hsub _ List.mem_cons_self))
      · refine N4 q ?_
        rcases List.mem_append.mp (show q ∈ [(L + 6, c6), (L + 5, c5), (L + 4, c4), (L + 3, c3), (L + 2, c2), (L + 1, c1), (nb, listOf nv.toArray nn), (sq, listOf sv2.toArray (sn + 1))] ++ _ from hq) with h | h
        · exact (show q ∈ [(L + 6, c6), (L + 5, c5), (L + 4, c4), (L + 3, c3), (L + 2, c2), (L + 1, c1), (nb, listOf nv.toArray nn), (sq, listOf sv2.toArray (sn + 1))] ++ tl2 from List.mem_append_left _ h)
        · exact inT q (fl q h).1
    · refine allNe_ne ?_
      simp only [base, AllNe]
      exact ⟨i1, i2, i3, i4, i5, i6, i7, i8, allNe_of fun q hq => (fl q hq).2⟩
    · obtain ⟨x, rv, rn, r, e1, e2, e3, e4, e5⟩ := R2.row j v hv
      refine ⟨x, rv, rn, r, e1, e2, List.mem_filter.mpr ⟨e3, decide_eq_true fun e => ?_⟩, e4, e5⟩
      have g1 := (N4 _ (inT _ e3)).1
      dsimp only at e g1
      rw [e, gI] at g1
      obtain rfl := Option.some.inj g1
      exact absurd cI (by show ¬ Value.type "list" = Value.type "range_iterator"; decide)
  · rintro m' nw h tk ⟨hmn, c3, c4, c5, c6, v3, v4, v5, v6, sv, sn, tl, rows, rfl, d3, d4, d5, d6, R, hLat, hrl, hof⟩ F1 N1
    exact wpAny_execs_nil (ret h tk m' c3 c4 c5 c6 sv sn tl rows R hLat hrl F1 N1)
end
end

/-! part HkBE -/
section
open PySem PySem.W PyProof.Rows PySem.Calls
section
variable {prog : Program} {w : World} {A : Around} {E : Value → Shared → Prop} {s : Shared} {h₀ : Heap} {L : Addr} {m : Str → Option Value} {env : Env}
def SrcCell (prog : Program) (w : World) (A : Around) (h₀ : Heap) (L : Addr) (m : Str → Option Value) (env : Env) (elt : Expr) (x : Str) (scope : Scope) (cl : List (Str × Addr)) (Inv : Nat → List Value → Ledger → Prop) (Q : Value → Shared → Prop) (xv : Value) (s₁ : Shared) : Prop :=
  ∃ r t u v n news, xv = .ref r ∧ A.handled = none ∧ Fr h₀ L s₁.heap m ∧ News h₀ L s₁.heap news ∧ IsRange s₁.heap r 0 ((n : Nat) : Int) 1 t u v ∧ n ≤ 1000 ∧ Inv 0 [] news ∧
      (∀ i ys nw I oI C oC K oK D h tk t (E' : Value → Shared → Prop), i < n → Inv i ys nw → oK.data = .cell (some (.int ((i : Nat) : Int) t)) → Fr h₀ L h m → News h₀ L h ((I, oI) :: (C, oC) :: (K, oK) :: (D, LCg.lst ys) :: nw) → Off4 I C K D nw →
        (@Ne Nat I C ∧ @Ne Nat I K ∧ @Ne Nat I D ∧ @Ne Nat C K ∧ @Ne Nat C D ∧ @Ne Nat K D) →
        wpAny (model prog w) A (eval elt (compEnvC scope ((x, K) :: cl) C env)) (CellEnd h₀ L m { s₁ with heap := h, toks := tk } I oI C oC K oK D (LCg.lst ys) (fun y nw' => Inv (i + 1) (ys ++ [y]) nw')) E' { s₁ with heap := h, toks := tk }) ∧
      (∀ D ys h tk nw, Inv n ys nw → Fr h₀ L h m → News h₀ L h ((D, LCg.lst ys) :: nw) → Q (.ref D) { s₁ with heap := h, toks := tk })
theorem ListComp_cellS {elt iter : Expr} {x : Str} {px : Pos} {scope : Scope} {cl : List (Str × Addr)} {pos : Pos} {Q : Value → Shared → Prop} (Inv : Nat → List Value → Ledger → Prop)
    (hclos : closureFor scope env = pure cl) (hkind : scope.kind = .function)
    (hnames : ∀ y ∈ scope.names, y.2 = .local → scope.names.lookup y.1 = some .local) (hx : (relabel scope env).names.lookup x = some .cell)
    (hc1 : ∀ n, cellsFrom n scope.names cl = (x, n) :: cl) (hc2 : ∀ h : Heap, pushCells h scope.names = h.push { cls := .type "cell", data := .cell none })
    (h : wpAny (model prog w) A (eval iter env) (SrcCell prog w A h₀ L m env elt x scope cl Inv Q) E s)
    (hs : ∀ x, foldedSetIterable iter env x = pure x := by intro _; rfl) :
    wpAny (model prog w) A (eval (.ListComp elt [⟨.Name x px, iter, [], 0⟩] scope pos) env) Q E s :=
  ListComp_cell Inv hclos hkind hnames hx hc1 hc2 (wpAny_mono h (fun _ _ y => y) fun _ _ y => y) hs
end

section
variable {prog : Program} {w : World} {p : Program} {loose : List Str} {mean : ExcName → Option Value} {mg mb : Str → Option Value}

set_option maxHeartbeats 4000000 in
/-- the end: the columns are looked at -/
theorem end_all {dp un n : Nat} {tn : Tok} {h₀ : Heap} {L fa sq : Addr} {cd : Value} {m : Str → Option Value} {c1 c2 : Obj} {sv : List Value} {sn : Nat} {NW : Ledger} {s : Shared} {rows : List (List Str)}
    {fr : Option (List Env)} {gd : Option (List Code)} {Q : Flow → Shared → Prop} (hn : 2 ≤ n) (hn5 : n ≤ 5) (hu : un + 80 < cLine) (R : RowsAre n sv rows NW) (hLat : Latin n rows) (hrl : rows.length = n)
    (hc1 : c1.data = .cell (some (.int n tn))) (hc2 : c2.data = .cell (some (.ref sq)))
    (F : Fr h₀ L s.heap m) (X : (hd.heap_39 w.params).In h₀) (T : Top p loose mean mg mb h₀) (N : News h₀ L s.heap ((L + 1, c1) :: (L + 2, c2) :: (sq, listOf sv.toArray sn) :: NW))
    (ret : ∀ h' tk, Fr h₀ L h' m → Q (.ret (.bool true)) { s with heap := h', toks := tk }) :
    wpAny (model prog w) (topA dp un fr gd) (execs (lawCode.1.drop 4) (envOfC (Str.ofString "law") lawCode.2 L fa cd)) Q (fun _ _ => False) s := by
  dsimp only [lawCode, PySem.Challenge.pw_bd0017_01, List.take, List.drop]
  walk_at "HK3"
  with_unfolding_all refine ListComp_cellS (h₀ := h₀) (L := L) (m := m) (fun i ys nw => nw = (L + 1, c1) :: (L + 2, c2) :: (sq, listOf sv.toArray sn) :: NW ∧ ys = List.replicate i (Value.bool true)) (by with_unfolding_all rfl) (by rfl) (by decide) (by rfl) (fun _ => by rfl) (fun _ => by rfl) ?_
  walk_at "HK3"
  rename IsRange _ _ _ _ _ _ _ _ => R9
  rename Fr _ _ _ _ => F9
  rename News _ _ _ _ => N9
  refine ⟨_, _, _, _, n, _, rfl, rfl, F9, N9, R9, by omega, ⟨rfl, rfl⟩, ?_, ?_⟩
  · rintro i ys nw I oI C oC K oK D h tk t E' hi ⟨rfl, rfl⟩ dK F1 N1 off ne
    clear F9 N9 R9 ret
    walk_at "HK3"
    k_dflt (refine LCg.ListComp_U (F₀ := by k_asm) (by with_unfolding_all rfl) (by decide) (by rfl) (by decide) (by rfl) ?_)
    walk_at "HK3"
    refine LCg.CompSrc.ledger rfl F1 N1 (List.mem_cons_of_mem _ (List.mem_cons_of_mem _ (List.mem_cons_of_mem _ (List.mem_cons_of_mem _ (List.mem_cons_of_mem _ (List.mem_cons_of_mem _ List.mem_cons_self)))))) (by rw [List.size_toArray, R.len, sizeLine_eq]; omega) fun g2 => ?_
    rw [List.size_toArray]
    refine comp_inv (fun j zs nw' => nw' = _ ∧ StrsAre zs ((rows.take j).map fun r => r.getD ((i : Nat) : Int).toNat Str.empty)) ?_ ?_ ?_ _ 0 [] _ (Nat.zero_add _) ⟨rfl, .nil⟩
    · rintro j zs nw' ⟨rfl, _⟩
      exact .inr ⟨_, List.mem_cons_of_mem _ (List.mem_cons_of_mem _ (List.mem_cons_of_mem _ (List.mem_cons_of_mem _ (List.mem_cons_of_mem _ (List.mem_cons_of_mem _ List.mem_cons_self))))), rfl, _, rfl⟩
    · rintro j zs nw' v2 I2 oI2 C2 oC2 D2 m₃ h2 tk2 E2 hj hv2 ⟨rfl, hzs⟩ hC2 hx2 F2 N2 off2 ne2
      clear F1 N1
      obtain ⟨a, rv, nn, r, er, rfl, hmem, hrv, hrl2⟩ := R.row j v2 (by simpa using hv2)
      walk_at "HK3"
      refine row_get N2 (by repeat (first | exact hmem | refine List.mem_cons_of_mem _ ?_)) hrv (by omega) (by omega) (by omega) fun u => ?_
      refine comp_end F2 N2 off2 ⟨rfl, ?_⟩
      rw [List.take_add_one, er, List.map_append]
      exact strsSnoc hzs u
    · rintro zs nw' ⟨rfl, hzs⟩
      intro D2 h2 tk2 F2 N2 o2
      rw [R.len, List.take_length] at hzs
      clear F1 N1
      have ei : ((i : Nat) : Int) ∈ nums n := List.mem_map.mpr ⟨i, List.mem_range.mpr hi, rfl⟩
      walk_at "HK3"
      refine srt_abc F2 N2 List.mem_cons_self hzs (latin_end hn5 hLat hrl ei) hn5 fun D3 h3 ys3 c3 hys3 F3 N3 l3 => ?_
      clear F2 N2
      walk_at "HK3"
      rename Fr _ _ _ _ => F9
      rename News _ _ _ _ => N9
      show wpAny _ _ (compareOp _ _ _) _ _ _
      refine cmp_eq_abc N9 (by k_mem) (by k_mem) hys3 (by assumption) hn hn5 (by show un + 64 < cLine; omega) ?_
      with_unfolding_all refine ⟨_, _, _, rfl, F9, news_sub N9 (List.Sublist.cons _ (List.Sublist.cons _ (List.Sublist.cons _ (List.Sublist.refl _)))), off, rfl, ?_⟩
      exact List.replicate_succ'.symm
  · rintro D ys h tk nw ⟨rfl, rfl⟩ F1 N1
    refine SeqAt.notIn_listAt (fun _ => false) ⟨_, N1.get List.mem_cons_self, rfl, _, rfl⟩ (fun y hy => ?_) ?_
    · have : y = Value.bool true := List.eq_of_mem_replicate (by simpa using hy)
      subst this
      exact keq_flat (A := (topA dp un fr gd).in1) (PyProof.V.Flat.bool true) (PyProof.V.Flat.bool false)
    · have e0 : ((List.replicate n (Value.bool true)).toArray.any fun _ => false) = false := by
        rw [List.any_toArray, List.any_eq_false]; exact fun _ _ h => nomatch h
      rw [e0]
      exact ret h tk F1
end
end

/-! part HkBF -/
section
open PySem PySem.W PyProof.Rows PySem.Calls
section
variable {prog : Program} {w : World} {A : Around} {E : Value → Shared → Prop} {s : Shared} {h₀ : Heap} {L l : Addr} {m : Str → Option Value} {news : Ledger} {vs : List Value} {n : Nat} {x : Int} {t : Tok} {value slice : PySem.Expr} {Q : Value → Shared → Prop}
end

def Nums0 (vs : List Value) : Prop := ∀ v ∈ vs, ∃ (x : Int) (t : Tok), v = Value.int x t ∧ 0 ≤ x
theorem nums0_cons {x : Int} {t : Tok} {vs : List Value} (hx : 0 ≤ x) (h : Nums0 vs) : Nums0 (.int x t :: vs) := fun v hv => by
  rcases List.mem_cons.mp hv with rfl | hv
  · exact ⟨x, t, rfl, hx⟩
  · exact h v hv
theorem nums0_nil : Nums0 [] := fun _ h => nomatch h
theorem add_nums {prog : Program} {w : World} {A : Around} {E : Value → Shared → Prop} {s : Shared} {h₀ : Heap} {L l : Addr} {m : Str → Option Value} {news : Ledger} {vs : List Value} {n : Nat} {Q : Value → Shared → Prop} {b : Addr} {ws : List Value} {n' : Nat} (hv : Nums0 vs) (hw : Nums0 ws) (hl : ws.length = 11) (F : Fr h₀ L s.heap m) (N : News h₀ L s.heap news) (h1 : (l, listOf vs.toArray n) ∈ news) (h2 : (b, listOf ws.toArray n') ∈ news) (hsz : vs.length ≤ 11)
    (h : ∀ nv D h', Nums0 nv → 11 ≤ nv.length → nv.length ≤ 22 → Fr h₀ L h' m → News h₀ L h' ((D, listOf nv.toArray 0) :: news) → (∀ p ∈ news, p.1 < D) → Q (.ref D) { s with heap := h' }) :
    wpAny (model prog w) A (binaryOp .Add (.ref l) (.ref b)) Q E s :=
  lst_add F N h1 h2 (by omega) fun D h' F' N' l1 => h _ D h' (fun v hv' => (List.mem_append.mp hv').elim (hv v) (hw v)) (by rw [List.length_append]; omega) (by rw [List.length_append]; omega) F' N' l1
local macro_rules | `(tactic| walk_at "binaryOp Add ref ref") => `(tactic| (k_here; k_dflt (refine' add_nums ?v ?w ?l ?F ?N ?a ?b ?z ?_; (case F => k_asm); (case N => k_asm); (case a => k_mem); (case b => k_mem); (case v => assumption); (case w => exact nums0_cons (by decide) (nums0_cons (by decide) (nums0_cons (by decide) (nums0_cons (by decide) (nums0_cons (by decide) (nums0_cons (by decide) (nums0_cons (by decide) (nums0_cons (by decide) (nums0_cons (by decide) (nums0_cons (by decide) (nums0_cons (by decide) nums0_nil))))))))))); (case l => rfl); (case z => assumption)); intro nv' D' h' hA' hL1' hL2' F' N' l1; (try k_lt l1); (try k_sweep)))
theorem cellU {D L : Addr} {o c1 c2 c3 c4 c5 c6 : Obj} (h : @LT.lt Nat _ (L + 6) D) : UpdF (L + 1) c1 [(D, o), (L + 6, c6), (L + 5, c5), (L + 4, c4), (L + 3, c3), (L + 2, c2), (L + 1, c1)] (fun o' => [(D, o), (L + 6, c6), (L + 5, c5), (L + 4, c4), (L + 3, c3), (L + 2, c2), (L + 1, o')]) :=
  UpdF.tail (p := (D, o)) (neN (by omega)) (UpdF.tail (p := (L + 6, c6)) (neN (by omega)) (UpdF.tail (p := (L + 5, c5)) (neN (by omega)) (UpdF.tail (p := (L + 4, c4)) (neN (by omega)) (UpdF.tail (p := (L + 3, c3)) (neN (by omega)) (UpdF.tail (p := (L + 2, c2)) (neN (by omega)) (UpdF.head (o := c1) fun p hp => nomatch hp))))))
section
variable {prog : Program} {w : World} {p : Program} {loose : List Str} {mean : ExcName → Option Value} {mg mb : Str → Option Value}

set_option maxHeartbeats 4000000 in
/-- the law's head: numbers, many, square -/
theorem head_all {dp un : Nat} {h₀ : Heap} {L fa l : Addr} {cd : Value} {m : Str → Option Value} {c1 c2 c3 c4 c5 c6 : Obj} {vs : List Value} {ns : List Int} {s : Shared}
    {fr : Option (List Env)} {gd : Option (List Code)} {Q : Flow → Shared → Prop} (hroom : dp + 200 < recursionLimit) (hu : un + 80 < cLine)
    (hc1 : c1.data = .cell none) (hc2 : c2.data = .cell none) (hl : h₀.IsList l vs.toArray) (hv : IntsAre vs ns) (hvn : ns.length ≤ 63) (hm : m (Str.ofString "script") = some (.ref l))
    (F : Fr h₀ L s.heap m) (X : (hd.heap_39 w.params).In h₀) (T : Top p loose mean mg mb h₀) (N : News h₀ L s.heap [(L + 6, c6), (L + 5, c5), (L + 4, c4), (L + 3, c3), (L + 2, c2), (L + 1, c1)])
    (ret : ∀ h' tk m' c1 c2 nb sq nv n tn nn sn, Held dp un n 0 L nb sq nv [] → c1.data = .cell (some (.int (n : Nat) tn)) → c2.data = .cell (some (.ref sq)) → m' (Str.ofString "numbers") = some (.ref nb) →
      Fr h₀ L h' m' → News h₀ L h' (base L nb sq c1 c2 c3 c4 c5 c6 nv [] nn sn []) → Q .next { s with heap := h', toks := tk }) :
    wpAny (model prog w) (topA dp un fr gd) (execs (lawCode.1.take 3) (envOfC (Str.ofString "law") lawCode.2 L fa cd)) Q (fun _ _ => False) s := by
  dsimp only [lawCode, PySem.Challenge.pw_bd0017_01, List.take]
  walk_at "HK3"
  k_dflt (refine LCg.ListComp_U (F₀ := by k_asm) (by with_unfolding_all rfl) (by decide) (by rfl) (by decide) (by rfl) ?_)
  walk_at "HK3"
  rename Fr _ _ _ _ => F9
  rename News _ _ _ _ => N9
  rename IntsAre _ (List.take _ _) => I9
  rename @LT.lt Nat _ (L + 6) _ => l6
  have lz := I9.length
  refine LCg.CompSrc.ledger rfl F9 N9 List.mem_cons_self (by rw [List.size_toArray, lz, List.length_take, sizeLine_eq]; omega) fun g2 => ?_
  rw [List.size_toArray]
  refine comp_inv (fun j zs nw' => nw' = _ ∧ Nums0 zs ∧ zs.length = j) ?_ ?_ ?_ _ 0 [] _ (Nat.zero_add _) ⟨rfl, (fun v hv => nomatch hv), rfl⟩
  · rintro j zs nw' ⟨rfl, _⟩
    exact .inr ⟨_, List.mem_cons_self, rfl, _, rfl⟩
  · rintro j zs nw' v2 I2 oI2 C2 oC2 D2 m₃ h2 tk2 E2 hj hv2 ⟨rfl, hzs, hzl⟩ hC2 hx2 F2 N2 off2 ne2
    clear F9 N9 ret
    obtain ⟨a, ta, rfl⟩ : ∃ (x : Int) (t : Tok), v2 = Value.int x t := by
      obtain ⟨a, ta, e, _⟩ := I9.at j v2 (by simpa using hv2)
      exact ⟨a, ta, e⟩
    walk_at "HK3"
    refine comp_end F2 N2 off2 ⟨rfl, ?_, by rw [List.length_append, hzl]; rfl⟩
    intro v hv
    rcases List.mem_append.mp hv with h | h
    · exact hzs v h
    · rw [List.mem_singleton] at h
      exact ⟨_, _, h, by split <;> omega⟩
  · rintro zs nw' ⟨rfl, hzs, hzl⟩
    intro D2 h2 tk2 F2 N2 o2
    clear F9 N9
    have hz11 : zs.length ≤ 11 := by rw [hzl, lz, List.length_take]; omega
    walk_at "HK3"
    rename News _ _ _ _ => N9
    rename Nums0 _ => hall
    rename Int => x'
    rename 0 ≤ x' => hx0
    rename Fr _ _ _ _ => F9
    replace N9 := news_sub N9 (List.Sublist.cons_cons _ (List.Sublist.cons _ (List.Sublist.cons _ (List.Sublist.cons _ (List.Sublist.refl _)))))
    rename @LT.lt Nat _ (L + 6) _ => lD
    have hf : x'.fmod 4 = x' % 4 := Int.fmod_eq_emod_of_nonneg x' (by decide)
    have n1 : ((2 + x' % 4).toNat : Int) = 2 + x' % 4 := Int.toNat_of_nonneg (by omega)
    have nB : 2 ≤ (2 + x' % 4).toNat ∧ (2 + x' % 4).toNat ≤ 5 := by omega
    k_dflt (refine' storeX_C ?F ?N ?hc (cellU lD) hc1 ?_ ?hk ?hx; (case F => exact F9); (case N => exact N9); (case hc => rfl); (case hk => rfl); (case hx => rfl))
    intro h4 c1' F4 N4 d1
    clear F9 N9
    rw [hf, ← n1] at d1
    dsimp only
    walk_at "HK3"
    rename Fr _ _ _ _ => F9
    rename News _ _ _ _ => N9
    rename Obj.data _ = Data.cell (some (Value.ref _)) => d2
    refine ret _ _ _ _ _ _ _ _ _ _ 0 0 ⟨nB.1, nB.2, by omega, hroom, hu, hall, by omega, by omega, lD, by assumption, fun _ h => nomatch h⟩ d1 d2 (by rfl) F9 ?_
    · intro q hq
      refine N9 q ?_
      simp only [base, List.mem_cons, List.not_mem_nil, or_false] at hq ⊢
      rcases hq with h | h | h | h | h | h | h | h
      · exact .inr (.inr (.inl h))
      · exact .inr (.inr (.inr (.inl h)))
      · exact .inr (.inr (.inr (.inr (.inl h))))
      · exact .inr (.inr (.inr (.inr (.inr (.inl h)))))
      · exact .inr (.inr (.inr (.inr (.inr (.inr (.inl h))))))
      · exact .inr (.inr (.inr (.inr (.inr (.inr (.inr h))))))
      · exact .inr (.inl h)
      · exact .inl h
end
end

/-! part HkBG -/
section
open PySem PySem.W PyProof.Rows PySem.Calls
section
variable {prog : Program} {w : World} {p : Program} {loose : List Str} {mean : ExcName → Option Value} {mg mb : Str → Option Value}
/-- the law's whole body -/
theorem law_body {dp un : Nat} {h₀ : Heap} {L fa l : Addr} {cd : Value} {m : Str → Option Value} {c1 c2 c3 c4 c5 c6 : Obj} {v3 v4 v5 v6 : Option Value} {vs : List Value} {ns : List Int} {s : Shared}
    {fr : Option (List Env)} {gd : Option (List Code)} {Q : Flow → Shared → Prop} (hroom : dp + 200 < recursionLimit) (hu : un + 80 < cLine)
    (hc1 : c1.data = .cell none) (hc2 : c2.data = .cell none) (hc3 : c3.data = .cell v3) (hc4 : c4.data = .cell v4) (hc5 : c5.data = .cell v5) (hc6 : c6.data = .cell v6)
    (hl : h₀.IsList l vs.toArray) (hv : IntsAre vs ns) (hvn : ns.length ≤ 63) (hm : m (Str.ofString "script") = some (.ref l))
    (F : Fr h₀ L s.heap m) (X : (hd.heap_39 w.params).In h₀) (T : Top p loose mean mg mb h₀) (N : News h₀ L s.heap [(L + 6, c6), (L + 5, c5), (L + 4, c4), (L + 3, c3), (L + 2, c2), (L + 1, c1)])
    (ret : ∀ h' tk m', Fr h₀ L h' m' → Q (.ret (.bool true)) { s with heap := h', toks := tk }) :
    wpAny (model prog w) (topA dp un fr gd) (execs lawCode.1 (envOfC (Str.ofString "law") lawCode.2 L fa cd)) Q (fun _ _ => False) s := by
  refine execs_seg 3 (head_all hroom hu hc1 hc2 hl hv hvn hm F X T N fun h1 tk1 m1 d1 d2 nb sq nv n tn nn sn H e1 e2 em F1 N1 => ?_)
  dsimp only
  refine execs_seg 1 (loop_all H e1 e2 hc3 hc4 hc5 hc6 F1 X T N1 em fun h2 tk2 m2 f3 f4 f5 f6 sv sn' tl rows R hLat hrl F2 N2 => ?_)
  dsimp only
  rw [List.drop_drop]
  have R' : RowsAre n sv rows ((L + 6, f6) :: (L + 5, f5) :: (L + 4, f4) :: (L + 3, f3) :: (nb, listOf nv.toArray nn) :: tl) := rows_sub R fun q hq => by
    repeat (first | exact hq | refine List.mem_cons_of_mem _ ?_)
  have N' : News h₀ L h2 ((L + 1, d1) :: (L + 2, d2) :: (sq, listOf sv.toArray sn') :: (L + 6, f6) :: (L + 5, f5) :: (L + 4, f4) :: (L + 3, f3) :: (nb, listOf nv.toArray nn) :: tl) := fun q hq => N2 q (by
    simp only [base, List.mem_cons] at hq ⊢
    rcases hq with h | h | h | h | h | h | h | h | h
    · exact .inr (.inr (.inr (.inr (.inr (.inl h)))))
    · exact .inr (.inr (.inr (.inr (.inl h))))
    · exact .inr (.inr (.inr (.inr (.inr (.inr (.inr (.inl h)))))))
    · exact .inl h
    · exact .inr (.inl h)
    · exact .inr (.inr (.inl h))
    · exact .inr (.inr (.inr (.inl h)))
    · exact .inr (.inr (.inr (.inr (.inr (.inr (.inl h))))))
    · exact .inr (.inr (.inr (.inr (.inr (.inr (.inr (.inr h))))))))
  exact end_all H.n2 H.n5 H.un R' hLat hrl e1 e2 F2 X T N' fun h3 tk3 F3 => ret h3 tk3 m2 F3
end
end

end Mine

open PySem PySem.W PyProof.Rows PySem.Calls
set_option maxHeartbeats 8000000 in
theorem PySem.Challenge.cw_bd0017_01_holds : PySem.Challenge.rw_bd0017_01.Holds := by
  refine Mine.hd ?_
  w_strict k_go0
  refine wpAny_noRaise ?_
  rename IntsAre _ _ => hI
  rename Heap.IsList _ _ _ => hL
  rename Top _ _ _ _ _ _ => T
  rename News _ _ _ _ => N0
  rename Fr _ _ _ _ => F0
  rename Frag.In _ _ => KX
  with_unfolding_all refine Mine.law_body (dp := _) (un := _) (fr := _) (gd := _) (by decide) (by decide) (by assumption) (by assumption) (by assumption) (by assumption) (by assumption) (by assumption) hL hI (by omega) (by rfl) F0 KX T N0 ?_
  intro h' tk m' F1
  k_end
  wrow_close
