import PyProof.Rows.All
import Wide.All
import OpenK.AllK
import Wide.FinOn
import PySem.Challenge.RW_dn0266_02
set_option Elab.async false
set_option linter.all false
namespace Mine
open PySem PySem.W PySem.Calls PyProof.Rows
set_option maxRecDepth 100000
set_option maxHeartbeats 4000000
section
variable {prog : Program} {w : World} {A : Around} {E : Value → Shared → Prop} {s : Shared}

theorem lk_none_close : typeLookup (.type "NoneType") (Str.ofString "close") = pure none := by rw [typeLookup_type, builtinLookup_eq_fast]; kernel_rfl
theorem entry_hasattr : entryFor table "hasattr" = some Builtin.«hasattr» := entryFor_of_tree (by kernel_rfl)
theorem args_hasattr (a b : Value) : argsOk "hasattr" ⟨[a, b], []⟩ := by unfold argsOk; kernel_rfl

theorem getAttrBy_miss_none {name : Str} {u : Tok} {Q : Value → Shared → Prop} (hmiss : typeLookup (.type "NoneType") name = pure none) (hA : A.handled = none)
    (h : ∀ h' tk e, Heap.NewAttrErr s.heap h' e .none name → E (.ref e) { s with heap := h', toks := tk }) (hsz : name.length + 100 ≤ sizeLine) :
    wpAny (model prog w) A (getAttrBy (.none) (.str name u) false) Q E s := by
  obtain ⟨hp, g, d, tk, os⟩ := s
  have hT : ∀ s' : Shared, s'.TypeIs (.none) "NoneType" := fun _ => rfl
  have f1 := sub_AttributeError
  have f3 := F.slot_NoneType_getattribute.lookup
  have f4 := F.slot_NoneType_getattribute.bind (.none)
  have f5 := am_none_getattr_none
  unfold getAttrBy
  repeat (any_goals (first | assumption | ((with_reducible show wpAny _ _ (call (Value.builtin "object.__getattribute__") _ _) _ _ _); refine call_meets F.slot_NoneType_getattribute (hT _) F.entry_object_getattribute (F.args_object_getattribute_2 _ _) (meets_getattribute_miss_none name _ hmiss hsz) ⟨hA, fun h' tk' e hx => ?_⟩) | wp_step))
  obtain ⟨t', u', he⟩ := hx.there
  show wpAny _ _ (getattributeRaised _ _ _ _ _ _ _) _ _ _
  unfold getattributeRaised
  repeat (any_goals (first | assumption | wp_step))
  exact h _ _ _ hx

theorem hasattr_none {tk : Tok} {Q : Value → Shared → Prop} (hh : A.handled = none)
    (h : ∀ h' tk', (∀ b o, s.heap.get? b = some o → h'.get? b = some o) → Q (.bool false) { s with heap := h', toks := tk' }) :
    wpAny (model prog w) A (call (.builtin "hasattr") [.none, .str (Str.ofString "close") tk]) Q E s := by
  refine call_function_entry (by decide +kernel) (by decide +kernel) entry_hasattr (args_hasattr _ _) ?_
  obtain ⟨hp, g, d, t, os⟩ := s
  have hT : ∀ s' : Shared, s'.TypeIs (.none) "NoneType" := fun _ => rfl
  have f1 := lk_none_close
  have f2 := sub_AttributeError
  unfold Builtin.«hasattr»
  repeat (any_goals (first | assumption | ((with_reducible show wpAny _ _ (getAttrBy _ _ _) _ _ _); refine getAttrBy_miss_none f1 (by exact hh) (fun h' tk' e hx => ?_) (by size_fits); obtain ⟨t', u', he⟩ := id hx.there) | wp_step))
  exact ⟨_, rfl, h _ _ hx.keeps⟩
end
end Mine
namespace Mine
open PySem PySem.W PySem.Calls PyProof.Rows
set_option maxRecDepth 100000
set_option maxHeartbeats 4000000
section
variable {prog : Program} {w : World} {A : Around} {E : Value → Shared → Prop} {s : Shared} {K : Frag} {x C : Addr} {ox : Obj} {od : Option Obj} {name : Str}

theorem getAttrBy_value {v : Value} {u : Tok} {Q : Value → Shared → Prop} (X : K.In s.heap) (I : InstAt s.heap x ox C od) (hga : findIn K (.ref C) "__getattribute__" = some (some (.builtin "object.__getattribute__")))
    (hf : findObj K C od name = some (.value v)) (hh : handedIn v = true) (h : Q v s) : wpAny (model prog w) A (getAttrBy (.ref x) (.str name u) false) Q E s := by
  obtain ⟨hp, g, d, t, os⟩ := s
  have L0 := I.type (M := model prog w)
  have L1 := looks_findIn (M := model prog w) X hga
  have L2 := looks_find (M := model prog w) X I hf
  unfold getAttrBy
  refine wpAny_holding (wpAny_bind (L0.at (wpAny_bind (L1.at ?_))))
  show wpAny _ _ (getAttrEveryday _ _ _) _ _ _
  refine wpAny_bind (wpAny_onRaise (wpAny_runValue (codeAny_builtin F.plainObj_entry_getattr_hooked ?_)))
  refine wpAny_bind (wpAny_pure (wpAny_bind (L0.at (wpAny_bind (L2.at ?_)))))
  refine wpAny_pure ?_
  show wpAny _ _ (handedOut v) _ _ _
  rw [handedOut_of hh]; exact wpAny_pure h

theorem raiseAttr_of_inst {α : Type} {cd : ClassData} {Q : α → Shared → Prop} (X : K.In s.heap) (I : InstAt s.heap x ox C od) (hc : clsIn K C = some cd) (hn : cd.name.cps.foldl (fun k c => k + (Str.utf8Of c).length) 0 ≤ 100)
    (hA : A.handled = none) (hsz : (Str.ofString (toString "'" ++ toString cd.name.toString ++ toString "' object has no attribute '") ++ name ++ Str.ofString "'").length ≤ sizeLine)
    (h : ∀ h' tk e, Heap.NewAttrErr s.heap h' e (.ref x) name → E (.ref e) { s with heap := h', toks := tk }) :
    wpAny (model prog w) A (Builtin.ObjectAttr.noSuchAttribute (.ref x) name : Sem α) Q E s := by
  obtain ⟨hp, g, d, t, os⟩ := s
  have L0 := I.type (M := model prog w)
  have L1 := looks_clsIn (M := model prog w) X hc
  unfold Builtin.ObjectAttr.noSuchAttribute typeNameOfCut shownTypeOf
  refine wpAny_bind (wpAny_bind (wpAny_bind (L0.at ?_)))
  refine wpAny_bind (wpAny_pure ?_)
  refine wpAny_pure ?_
  unfold typeNameCut
  refine wpAny_bind (L1.at ?_)
  dsimp only
  rw [if_pos hn]
  refine wpAny_pure ?_
  exact wpAny_raiseAttrError hA h hsz

theorem getAttrBy_missing {cd : ClassData} {u : Tok} {Q : Value → Shared → Prop} (X : K.In s.heap) (I : InstAt s.heap x ox C od) (hga : findIn K (.ref C) "__getattribute__" = some (some (.builtin "object.__getattribute__")))
    (hk : findIn K (.ref C) "__getattr__" = some none)
    (hf : findObj K C od name = some .missing) (hc : clsIn K C = some cd) (hn : cd.name.cps.foldl (fun k c => k + (Str.utf8Of c).length) 0 ≤ 100)
    (hA : A.handled = none) (hsz : (Str.ofString (toString "'" ++ toString cd.name.toString ++ toString "' object has no attribute '") ++ name ++ Str.ofString "'").length ≤ sizeLine)
    (h : ∀ h' tk e, Heap.NewAttrErr s.heap h' e (.ref x) name → E (.ref e) { s with heap := h', toks := tk }) : wpAny (model prog w) A (getAttrBy (.ref x) (.str name u) false) Q E s := by
  obtain ⟨hp, g, d, t, os⟩ := s
  have L0 := I.type (M := model prog w)
  have L1 := looks_findIn (M := model prog w) X hga
  have L2 := looks_find (M := model prog w) X I hf
  have L3 := looks_findIn (M := model prog w) X hk
  unfold getAttrBy
  refine wpAny_holding (wpAny_bind (L0.at (wpAny_bind (L1.at ?_))))
  show wpAny _ _ (getAttrEveryday _ _ _) _ _ _
  refine wpAny_bind (wpAny_onRaise (wpAny_runValue (codeAny_builtin F.plainObj_entry_getattr_hooked ?_)))
  refine wpAny_bind (wpAny_pure (wpAny_bind (L0.at (wpAny_bind (L2.at ?_)))))
  dsimp only
  refine wpAny_bind (L3.at ?_)
  show wpAny _ _ (Builtin.ObjectAttr.noSuchAttribute (.ref x) name) _ _ _
  refine raiseAttr_of_inst X I hc hn hA hsz fun h' tk e hx => ?_
  show wpAny _ _ (noteIf false _ _ _) _ _ _
  exact wpAny_pure (h h' tk e hx)

theorem hasattr_inst {tk : Tok} {Q : Value → Shared → Prop} (I : InstAt s.heap x ox C od) (X : K.In s.heap) (hm : mroIn K C (.type "module") = some false)
    (hg : wpAny (model prog w) A.in1 (getAttrBy (.ref x) (.str name tk) false) (fun _ s' => Q (.bool true) s') (fun e s' => (∃ a o, e = .ref a ∧ s'.heap.get? a = some o ∧ o.cls = .type "AttributeError") ∧ Q (.bool false) s') s) :
    wpAny (model prog w) A (call (.builtin "hasattr") [.ref x, .str name tk]) Q E s := by
  refine call_function_entry (by decide +kernel) (by decide +kernel) entry_hasattr (args_hasattr _ _) ?_
  obtain ⟨hp, g, d, t, os⟩ := s
  dsimp only at I X
  have L0 := I.type (M := model prog w)
  have LI : Looks (model prog w) hp (isInstance (.ref x) (.type "module")) false := L0.andThen (looks_mroIn X hm)
  have f2 := sub_AttributeError
  unfold Builtin.«hasattr»
  refine wpAny_bind (wpAny_pure ?_)
  dsimp only
  repeat (any_goals (first | assumption | (with_reducible refine Looks.at (by assumption) ?_) | ((with_reducible show wpAny _ _ (getAttrBy _ _ _) _ _ _); refine wpAny_mono hg (fun v s' hq => ?_) (fun e s' hq => ?_)) | wp_step))
  · exact ⟨_, rfl, hq⟩
  · obtain ⟨hp', g', d', t', os'⟩ := s'
    obtain ⟨⟨a, ⟨oc, odi, oda, osl⟩, rfl, hq1, rfl⟩, hq2⟩ := hq
    dsimp only at hq1 hq2
    repeat (any_goals (first | assumption | wp_step))
    exact ⟨_, rfl, hq2⟩

theorem hasattr_yes {v : Value} {es : List DictEntry} {n : Nat} {attr : Option Value} {tk : Tok} {Q : Value → Shared → Prop} (X : K.In s.heap) (I : InstAt s.heap x ox C (some (dictOf es n))) (hm : mroIn K C (.type "module") = some false)
    (hg : plainGet K C name = true) (hh : hasDictIn K C = true)
    (ha : findIn K (.ref C) name = some attr) (hn : noGet K attr = true) (hl : getL name es = some (some v)) (hv : handedIn v = true) (h : Q (.bool true) s) :
    wpAny (model prog w) A (call (.builtin "hasattr") [.ref x, .str name tk]) Q E s :=
  hasattr_inst I X hm (getAttrBy_value X I (plainGet_of hg).1 (findObj_own hh ha hn hl) hv h)

theorem findObj_miss {od : Obj} (hh : hasDictIn K C = true) (ha : findIn K (.ref C) name = some none) (hc : copiedNames.contains name = false) (hl : lookIn name od = some none) :
    findObj K C (some od) name = some .missing := by
  obtain ⟨cd, hc', hd⟩ := any_some hh
  unfold findObj
  have ho : PySem.W.ownOf cd (some od) name = some none := by unfold PySem.W.ownOf; rw [if_pos hd]; exact hl
  rw [hc', Option.bind_some, ha, Option.bind_some]
  simp only [Option.bind_some, ho, hc, Bool.false_and, Bool.false_eq_true, if_false]

theorem hasattr_no {cd : ClassData} {es : List DictEntry} {n : Nat} {tk : Tok} {Q : Value → Shared → Prop} (X : K.In s.heap) (I : InstAt s.heap x ox C (some (dictOf es n))) (hm : mroIn K C (.type "module") = some false)
    (hg : plainGet K C name = true) (hh : hasDictIn K C = true)
    (ha : findIn K (.ref C) name = some none) (hcn : copiedNames.contains name = false) (hl : getL name es = some none) (hc : clsIn K C = some cd) (hn : cd.name.cps.foldl (fun k c => k + (Str.utf8Of c).length) 0 ≤ 100)
    (hA : A.handled = none) (hsz : (Str.ofString (toString "'" ++ toString cd.name.toString ++ toString "' object has no attribute '") ++ name ++ Str.ofString "'").length ≤ sizeLine)
    (h : ∀ h' tk', (∀ b o, s.heap.get? b = some o → h'.get? b = some o) → Q (.bool false) { s with heap := h', toks := tk' }) :
    wpAny (model prog w) A (call (.builtin "hasattr") [.ref x, .str name tk]) Q E s :=
  hasattr_inst I X hm (getAttrBy_missing X I (plainGet_of hg).1 (plainGet_of hg).2 (findObj_miss hh ha hcn hl) hc hn hA hsz (fun h' tk' e hx => ⟨by
    obtain ⟨t, u, he⟩ := hx.there; exact ⟨e, _, rfl, he, rfl⟩, h h' tk' hx.keeps⟩))

variable {h₀ : Heap} {L : Addr} {m : Str → Option Value} {news : List (Addr × Obj)}
theorem hasattr_none_K {tk : Tok} {Q : Value → Shared → Prop} (hh : A.handled = none) (F : Fr h₀ L s.heap m) (N : News h₀ L s.heap news)
    (h : ∀ h' tk', Fr h₀ L h' m → News h₀ L h' news → Q (.bool false) { s with heap := h', toks := tk' }) :
    wpAny (model prog w) A (call (.builtin "hasattr") [.none, .str (Str.ofString "close") tk]) Q E s :=
  hasattr_none hh fun h' tk' hk => h h' tk' (F.keeps hk) (N.grown hk)
theorem hasattr_yes_K {v : Value} {es : List DictEntry} {n : Nat} {attr : Option Value} {tk : Tok} {Q : Value → Shared → Prop} (F : Fr h₀ L s.heap m) (X₀ : K.In h₀) (I : InstAt s.heap x ox C (some (dictOf es n))) (hm : mroIn K C (.type "module") = some false)
    (hg : plainGet K C name = true) (hh : hasDictIn K C = true)
    (ha : findIn K (.ref C) name = some attr) (hn : noGet K attr = true) (hl : getL name es = some (some v)) (hv : handedIn v = true) (h : Q (.bool true) s) :
    wpAny (model prog w) A (call (.builtin "hasattr") [.ref x, .str name tk]) Q E s :=
  hasattr_yes (X₀.keeps F.keep) I hm hg hh ha hn hl hv h
theorem hasattr_no_K {cd : ClassData} {es : List DictEntry} {n : Nat} {tk : Tok} {Q : Value → Shared → Prop} (hA : A.handled = none) (F : Fr h₀ L s.heap m) (N : News h₀ L s.heap news) (X₀ : K.In h₀) (I : InstAt s.heap x ox C (some (dictOf es n))) (hm : mroIn K C (.type "module") = some false)
    (hg : plainGet K C name = true) (hh : hasDictIn K C = true)
    (ha : findIn K (.ref C) name = some none) (hcn : copiedNames.contains name = false) (hl : getL name es = some none) (hc : clsIn K C = some cd) (hn : cd.name.cps.foldl (fun k c => k + (Str.utf8Of c).length) 0 ≤ 100)
    (hsz : (Str.ofString (toString "'" ++ toString cd.name.toString ++ toString "' object has no attribute '") ++ name ++ Str.ofString "'").length ≤ sizeLine)
    (h : ∀ h' tk', Fr h₀ L h' m → News h₀ L h' news → Q (.bool false) { s with heap := h', toks := tk' }) :
    wpAny (model prog w) A (call (.builtin "hasattr") [.ref x, .str name tk]) Q E s :=
  hasattr_no (X₀.keeps F.keep) I hm hg hh ha hcn hl hc hn hA hsz fun h' tk' hk => h h' tk' (F.keeps hk) (N.grown hk)
end
end Mine
namespace Mine
open PySem PySem.W PySem.Calls PyProof.Rows
set_option maxRecDepth 100000
set_option maxHeartbeats 4000000
def pickL (ns : List Int) (lo hi st : Option Int) : List Int :=
  (sliceRange (sliceBounds lo hi st ns.length).1 (sliceBounds lo hi st ns.length).2.1 (sliceBounds lo hi st ns.length).2.2).filterMap (ns[·]?)
theorem ints_filterMap {vs : List Value} {ns : List Int} (h : IntsAre vs ns) : ∀ is : List Nat, IntsAre (is.filterMap (vs[·]?)) (is.filterMap (ns[·]?))
  | [] => .nil
  | i :: is => by
    have ih := ints_filterMap h is
    have hl := h.length
    cases hn : ns[i]? with
    | none =>
      have hv : vs[i]? = none := by rw [List.getElem?_eq_none_iff] at hn ⊢; omega
      rw [List.filterMap_cons, List.filterMap_cons, hn, hv]; exact ih
    | some n =>
      obtain ⟨t, ht⟩ := h.get i n hn
      rw [List.filterMap_cons, List.filterMap_cons, hn, ht]; exact .cons _ _ ih
theorem ints_pick {vs : List Value} {ns : List Int} (h : IntsAre vs ns) (lo hi st : Option Int) : IntsAre (slicePick vs.toArray lo hi st).toList (pickL ns lo hi st) := by
  have e := ints_filterMap h (sliceRange (sliceBounds lo hi st ns.length).1 (sliceBounds lo hi st ns.length).2.1 (sliceBounds lo hi st ns.length).2.2)
  have hl : vs.toArray.size = ns.length := by simp [h.length]
  unfold slicePick pickL
  rw [hl]
  simpa using e
section
variable {prog : Program} {w : World} {A : Around} {E : Value → Shared → Prop} {s : Shared} {h₀ : Heap} {L : Addr} {m : Str → Option Value} {news : List (Addr × Obj)}
theorem sum_pick {l : Addr} {vs : List Value} {ns : List Int} {lo hi st : Option Int} {Q : Value → Shared → Prop} (hh : A.handled = none) (F : Fr h₀ L s.heap m) (N : News h₀ L s.heap news)
    (hm : (l, ({ cls := .type "list", data := .seq (slicePick vs.toArray lo hi st) } : Obj)) ∈ news) (hI : IntsAre vs ns)
    (h : ∀ h' tk t', Fr h₀ L h' m → News h₀ L h' news → Q (.int (pickL ns lo hi st).sum t') { s with heap := h', toks := tk }) :
    wpAny (model prog w) A (call (.builtin "sum") [.ref l]) Q E s :=
  sumK hh F N ⟨_, (N _ hm).1, rfl, 0, by simp⟩ (ints_pick hI lo hi st) h
end
end Mine
namespace Mine
open PySem PySem.W PySem.Calls PyProof.Rows
set_option maxRecDepth 100000
set_option maxHeartbeats 4000000
def NeF (a b : Nat) : Prop := a ≠ b
theorem NeF.l {a b : Nat} (h : NeF a b) : a ≠ b := h
theorem NeF.r {a b : Nat} (h : NeF a b) : b ≠ a := Ne.symm h
def NeTo (a : Nat) : List Nat → Prop | [] => True | b :: r => NeF a b ∧ NeTo a r
def NeAll : List Nat → Prop | [] => True | a :: r => NeTo a r ∧ NeAll r
theorem neTo_of {a : Nat} : ∀ {l : List Nat}, a ∉ l → NeTo a l
  | [], _ => trivial
  | _ :: _, h => ⟨fun e => h (by rw [e]; exact .head _), neTo_of fun e => h (.tail _ e)⟩
theorem neAll_of : ∀ {l : List Nat}, l.Nodup → NeAll l
  | [], _ => trivial
  | _ :: _, h => ⟨neTo_of (List.nodup_cons.mp h).1, neAll_of (List.nodup_cons.mp h).2⟩
section
variable {prog : Program} {w : World} {A : Around} {E : Value → Shared → Prop} {s : Shared}
theorem len_eq {l : Addr} {vs : List Value} {T : Nat} {Q : Value → Shared → Prop} (hl : s.heap.IsList l vs.toArray) (he : vs.length = T) (hfit : T < 2 ^ 62)
    (h : Q (.int (T : Nat) (s.toks + 1)) { s with toks := s.toks + 1 + 1 }) : wpAny (model prog w) A (call (.builtin "len") [.ref l]) Q E s :=
  len_list hl (by rw [List.size_toArray, he]; omega) (by rw [List.size_toArray, he]; exact h)
end
section
variable {prog : Program} {w : World} {A : Around} {E : Value → Shared → Prop} {s : Shared} {env : Env} {h₀ : Heap} {x : Str} {body : List Stmt} {Q : Flow → Shared → Prop}

def LpEnd (h₀ : Heap) (L : Addr) (J : (Str → Option Value) → List (Addr × Obj) → Prop) (I : Addr) (oI : Obj) (s₁ s₂ : Shared) : Prop :=
  ∃ h' tk m' news' nx, s₂ = { s₁ with heap := h', toks := tk } ∧ Fr h₀ L h' m' ∧ News h₀ L h' news' ∧ (∀ p ∈ nx, p ∈ news') ∧ (I, oI) ∈ news' ∧ (∀ p ∈ nx, p.1 ≠ I) ∧ J m' nx
def LpPost (h₀ : Heap) (L : Addr) (J : (Str → Option Value) → List (Addr × Obj) → Prop) (I : Addr) (oI : Obj) (s₁ : Shared) (Q : Flow → Shared → Prop) (f : Flow) (s₂ : Shared) : Prop :=
  match f with
  | .ret v => Q (.ret v) s₂
  | .brk => Q .next s₂
  | _ => LpEnd h₀ L J I oI s₁ s₂

theorem loop_inv {I : Addr} {fp wr : List Addr} {n : Nat} {P : Nat → Value → Prop} {St : Nat → Heap → Prop} {m₀ : Str → Option Value} {news : List (Addr × Obj)} (J : Nat → (Str → Option Value) → List (Addr × Obj) → Prop)
    (W : Walks prog w A I fp wr n P St) (hIf : I ∈ fp) (hfp : ∀ b ∈ fp, b = I ∨ ∃ q, h₀.get? b = some q) (hI0 : h₀.get? I = none) (hwr1 : wr = [I]) (hob : ∀ i h, St i h → ∃ o, h.get? I = some o)
    (hLf : env.locals ∉ fp) (hnw : ∀ p ∈ news, p.1 ≠ I) (hst : St 0 s.heap) (F : Fr h₀ env.locals s.heap m₀) (N : News h₀ env.locals s.heap news) (hj : J 0 m₀ news)
    (turn : ∀ i v m₁ nx h tk oI, i < n → P i v → J i m₁ nx → (∀ p ∈ nx, p.1 ≠ I) → Fr h₀ env.locals h (fun y => if y = x then some v else m₁ y) → News h₀ env.locals h ((I, oI) :: nx) →
      wpAny (model prog w) A (execs body env) (LpPost h₀ env.locals (J (i + 1)) I oI { s with heap := h, toks := tk } Q) E { s with heap := h, toks := tk })
    (done : ∀ m₁ nx h tk, J n m₁ nx → Fr h₀ env.locals h m₁ → News h₀ env.locals h nx → Q .next { s with heap := h, toks := tk }) :
    LoopAtV prog w A h₀ env x body Q E (.ref I) s := by
  have hwI : ∀ b ∈ wr, b = I := fun b hb => by rw [hwr1] at hb; exact List.mem_singleton.mp hb
  have hwr : ∀ b ∈ wr, h₀.get? b = none := fun b hb => by rw [hwI b hb]; exact hI0
  refine ⟨I, fp, wr, n, P, St, m₀, news, J, rfl, W, hLf, hwr, (fun p hp hb => hnw p hp (hwI _ hb)), hst, F, N, hj, ?_, ?_⟩
  · rintro i v m₁ nx s₁ own ⟨hh', tk', rfl⟩ hin hP hJ hoff hown _ hall hst' F₁ N₁
    obtain ⟨o, ho⟩ := hob _ _ hst'
    have hio : (I, o) ∈ own := hall I hIf hI0 o ho
    have hone := own_one hown hfp ho N₁
    have hoff' : ∀ p ∈ nx, p.1 ≠ I := fun p hp e => by
      exact hoff p hp (by rw [hwr1, e]; exact List.mem_singleton.mpr rfl)
    refine wpAny_mono (turn i v m₁ nx hh' tk' o hin hP hJ hoff' F₁ (news_one hio N₁)) (fun f s₂ p => ?_) fun _ _ e => e
    have fin : LpEnd h₀ env.locals (J (i + 1)) I o { s with heap := hh', toks := tk' } s₂ → LoopStepU h₀ env.locals wr own (J (i + 1)) { s with heap := hh', toks := tk' } .next s₂ := by
      rintro ⟨h', tk, m', news', nx', e, F', N', hn, hi, ha, hm⟩
      refine ⟨rfl, h', tk, m', nx', e, F', fun p hp => ?_, fun p hp hq => ha p hp (hwI _ hq), hm⟩
      rcases List.mem_append.mp hp with h1 | h1
      · rw [hone p h1]; exact N' _ hi
      · exact N' _ (hn p h1)
    cases f with
    | ret v => exact .ret p
    | brk => exact .brk p
    | next => exact .next (fin p)
    | cont => exact .cont (fin p)
  · rintro h' tk m' news' F' N' _ hJ
    exact done m' news' h' tk hJ F' N'

theorem range_inv {r : Addr} {a₀ b₀ : Int} {t₀ u₀ v₀ : Tok} {n : Nat} {m₀ : Str → Option Value} {news : List (Addr × Obj)} (J : Nat → (Str → Option Value) → List (Addr × Obj) → Prop)
    (hh : A.handled = none) (hr : IsRange s.heap r a₀ b₀ 1 t₀ u₀ v₀) (hsmall : Builtin.Range.small a₀ b₀ 1 = true) (hn : Builtin.Range.rangeSize a₀ b₀ 1 = (n : Int)) (F : Fr h₀ env.locals s.heap m₀) (N : News h₀ env.locals s.heap news) (hj : J 0 m₀ news)
    (turn : ∀ i t m₁ nx h tk I oI, i < n → J i m₁ nx → (∀ p ∈ nx, p.1 ≠ I) → Fr h₀ env.locals h (fun y => if y = x then some (.int (a₀ + i) t) else m₁ y) → News h₀ env.locals h ((I, oI) :: nx) →
      wpAny (model prog w) A (execs body env) (LpPost h₀ env.locals (J (i + 1)) I oI { s with heap := h, toks := tk } Q) E { s with heap := h, toks := tk })
    (done : ∀ m₁ nx h tk, J n m₁ nx → Fr h₀ env.locals h m₁ → News h₀ env.locals h nx → Q .next { s with heap := h, toks := tk }) :
    wpAny (model prog w) A (pyIter (.ref r)) (fun it s₂ => LoopAtV prog w A h₀ env x body Q E it s₂) E s := by
  refine wpAny_pyIter_range hr hsmall ?_
  have W : Walks prog w A s.heap.objs.size [s.heap.objs.size] [s.heap.objs.size] n (fun i v => i < n ∧ ∃ t, v = .int (a₀ + i * 1) t)
      (fun i h => IsRangeIter h s.heap.objs.size (a₀ + (i : Nat) * 1) ((n : Int) - (i : Nat)) 1) := (Walks.range hh _ a₀ 1 n).bound
  refine loop_inv J W (List.mem_singleton.mpr rfl) (fun b hb => .inl (List.mem_singleton.mp hb)) (next_is_new F) rfl (fun i h hs => ⟨_, hs⟩) ?_ ?_ (by show IsRangeIter _ _ _ _ _; rw [hn]; simpa using Heap.get?_push_size _ rfl) (F.push _) (fun p hp => ⟨Heap.get?_push_of_some _ (N p hp).1, (N p hp).2⟩) hj ?_ done
  · intro hm
    exact absurd F.ns.lt ((List.mem_singleton.mp hm) ▸ Nat.lt_irrefl _)
  · intro p hp hI
    exact absurd (Heap.lt_size (N p hp).1) (hI ▸ Nat.lt_irrefl _)
  · rintro i v m₁ nx h tk oI hi ⟨_, t, rfl⟩ hJ ho F₁ N₁
    refine turn i t m₁ nx h tk _ oI hi hJ ho ?_ N₁
    simpa using F₁
end
end Mine
namespace Mine
open PySem PySem.W PySem.Calls PyProof.Rows Builtin Builtin.ObjectAttr
set_option maxRecDepth 100000
set_option maxHeartbeats 4000000
theorem slot_del : Slot "object" "__delattr__" "object.__delattr__" :=
  .of (owner := "object") (n := "__delattr__") (by rw [typeLookup_type, builtinLookup_eq_fast]; kernel_rfl) (by decide +kernel) (by decide +kernel) (by decide +kernel)
    (by first | exact .inl (by decide +kernel) | exact .inr (by decide +kernel)) (by rw [isSubtype_type]; kernel_rfl)
theorem entry_del : entryFor table "object.__delattr__" = some Builtin.«object.__delattr__» := entryFor_of_tree (by kernel_rfl)
theorem args_del (a b : Value) : argsOk "object.__delattr__" ⟨[a, b], []⟩ := by unfold argsOk; kernel_rfl
theorem passes_del (self : Value) : refuseLoop self "__delattr__" [.type "object"] = pure () := by kernel_rfl
theorem refuse_del (self : Value) : ∀ {l : List Value}, onlyObject l = true → refuseLoop self "__delattr__" l = pure ()
  | [.type n], e => by rw [show n = "object" from beq_iff_eq.mp e]; exact passes_del self
  | .ref c :: r, e => by rw [refuseLoop_ref]; exact refuse_del self (by cases r <;> first | exact e | cases e)
theorem del_eq (self : Value) (name : Str) (tk : Tok) : Builtin.«object.__delattr__» ⟨[self, .str name tk], []⟩ = (refuseIfOverridden self "__delattr__" >>= fun _ => typeOf self >>= fun tp => typeLookup tp name >>= fun attr => storeTaker? attr >>= fun r =>
    match r with | some a => deleteByDescriptor a self | none => deleteInOwnDict self tp name attr.isSome) := by kernel_rfl
section
variable {prog : Program} {w : World} {A : Around} {E : Value → Shared → Prop} {s : Shared} {K : Frag} {x C dx : Addr} {h₀ : Heap} {L : Addr} {m : Str → Option Value} {news news' : List (Addr × Obj)} {ox od od' : Obj} {name : Str}
theorem del_dict {Q : Unit → Shared → Prop} (F : Fr h₀ L s.heap m) (X₀ : K.In h₀) (N : News h₀ L s.heap news) (I : InstAt s.heap x ox C (some od)) (hd : ox.dict = some dx)
    (hs : findIn K (.ref C) "__delattr__" = some (some (.builtin "object.__delattr__"))) (hp : plainOver K C = true) (ht : takerIn K C name = some none) (hh : hasDictIn K C = true)
    (hn : nsHas name od = pure true) (e : Obj.dropName name od = od') (hf : od'.isFreed = false) (U : Upd dx od od' news news')
    (h : ∀ h', Fr h₀ L h' m → News h₀ L h' news' → Q () { s with heap := h', toks := s.toks + 1 }) :
    wpAny (model prog w) A (delAttr (.ref x) name) Q E s := by
  have X := X₀.keeps F.keep
  obtain ⟨pre, post, rfl, rfl, h1, h2⟩ := U.split
  obtain ⟨hp', g, d, t, os⟩ := s
  dsimp only at F N I X
  obtain ⟨cd, hc, ho⟩ := any_some hp
  obtain ⟨cd2, hc2, hd'⟩ := any_some hh
  rw [hc] at hc2; cases hc2
  have ne : cd.mro.isEmpty = false := by cases q : cd.mro with | nil => rw [q] at ho; cases ho | cons _ _ => rfl
  have L0 := I.type (M := model prog w)
  have sub : Looks (model prog w) hp' (isInstance (.ref x) (.type "object")) true := L0.andThen (looks_mroIn X (by unfold mroIn; rw [hc, Option.bind_some, if_neg (by rw [ne]; decide), only_has ho]))
  have L1 := looks_findIn (M := model prog w) X hs
  obtain ⟨attr, ha, hr⟩ := Option.bind_eq_some_iff.mp ht
  have hm : Looks (model prog w) hp' (mroOf (.ref C)) cd.mro := (looks_clsIn X hc).andThen .now
  have L2 := looks_findIn (M := model prog w) X ha
  have L3 : Looks (model prog w) hp' (storeTaker? attr) none := by
    cases attr with
    | none => exact .now
    | some a =>
      obtain ⟨b, hb, e⟩ := Option.map_eq_some_iff.mp hr
      refine (looks_takesIn X hb).andThen ?_
      cases b
      · exact .now
      · cases e
  obtain ⟨U1, U2⟩ := news_upd (f := Obj.dropName name) F N h1 h2 e hf
  have D := (N (dx, od) (by simp)).1
  unfold delAttr
  refine wpAny_bind (wpAny_mkText (wpAny_bind (wpAny_bind (wpAny_bind (L0.at (L1.at (wpAny_holding ?_)))))))
  rw [slot_del.bind]
  refine wpAny_bind (wpAny_pure (wpAny_bind (wpAny_call ?_)))
  refine codeAny_call_builtin slot_del.plain entry_del (@check_slot (model prog w) _ _ _ "object.__delattr__" "object" "__delattr__" (.ref x) [.str name t] [] _ (by decide +kernel) (by decide +kernel) sub (args_del (.ref x) (.str name t)) ?_)
  show wpAny _ _ (Builtin.«object.__delattr__» ⟨[.ref x, .str name t], []⟩) _ _ _
  rw [del_eq, refuse_eq]
  refine wpAny_bind (wpAny_bind (L0.at (wpAny_bind (hm.at ?_))))
  rw [refuse_del _ ho]
  refine wpAny_pure (wpAny_bind (L0.at (wpAny_bind (L2.at (wpAny_bind (L3.at ?_))))))
  dsimp only
  obtain ⟨hx, hcl, hno, -⟩ := I
  obtain ⟨oc, odi, oda, osl⟩ := ox
  dsimp only at hcl hd
  subst hcl hd
  unfold deleteInOwnDict ownDictForStores instanceDict
  refine wpAny_bind (wpAny_pure (wpAny_bind (wpAny_bind (wpAny_loadPart hx (wpAny_bind ((looks_clsIn X hc).at ?_))))))
  rw [hd']
  refine wpAny_pure (a := some dx) ?_
  dsimp only
  unfold deleteInDict
  refine wpAny_ite_false rfl ?_
  unfold nsDel
  refine wpAny_bind (wpAny_bind (wpAny_loadPart D ?_))
  rw [hn]
  refine wpAny_bind (wpAny_pure ?_)
  refine wpAny_bind (wpAny_updatePart D (wpAny_pure ?_))
  exact wpAny_pure (wpAny_pure (wpAny_pure (h _ U1 U2)))

theorem is_apart {y : Addr} {oy : Obj} {M : Model} {Q : Value → Shared → Prop} (N : News h₀ L s.heap news) (hx : (x, ox) ∈ news) (hy : (y, oy) ∈ news) (hxy : x ≠ y) (hb : ox.cls = Value.type "function") (hq : Q (.bool false) s) : wpAny M A (compareOp .Is (.ref x) (.ref y)) Q E s :=
  wpAny_is_ref_other hxy (N _ hx).1 (N _ hy).1 (by rw [hb]; intro z; exact absurd (Value.type.inj z) (by decide)) hq
end
end Mine
namespace Mine
open PySem PySem.W PySem.Calls PyProof.Rows
theorem putL_le {name : Str} {hsh : Int} {key v : Value} : ∀ {es : List DictEntry}, (putL name hsh key v es).length ≤ es.length + 1
  | [] => by simp [putL]
  | e :: r => by
    have := putL_le (name := name) (hsh := hsh) (key := key) (v := v) (es := r)
    unfold putL
    split <;> simp <;> omega
theorem putL_le2 {name : Str} {hsh : Int} {key v : Value} {es : List DictEntry} (h : es.length ≤ 900) : (putL name hsh key v es).length ≤ 1000 := Nat.le_trans putL_le (by omega)
end Mine
namespace Mine
open PySem PySem.W PySem.Calls PyProof.Rows
set_option maxRecDepth 100000
set_option maxHeartbeats 4000000
theorem entry_next : entryFor table "next" = some Builtin.«next» := entryFor_of_tree (by kernel_rfl)
theorem args_next2 (a b : Value) : argsOk "next" ⟨[a, b], []⟩ := by unfold argsOk; kernel_rfl
section
variable {prog : Program} {w : World} {A : Around} {E : Value → Shared → Prop} {s : Shared} {K : Frag} {x C L f : Addr} {h₀ : Heap} {m : Str → Option Value} {ox : Obj} {od : Option Obj}
theorem next_own {d : Value} {Q : Value → Shared → Prop} (F : Fr h₀ L s.heap m) (X₀ : K.In h₀) (I : InstAt s.heap x ox C od) (hs : findIn K (.ref C) "__next__" = some (some (.ref f))) (hf : isFn K (.ref f) = true)
    (h : wpAny (model prog w) A.in1 (call (.ref f) [.ref x]) (fun v s' => Q v s') (OwitStop (model prog w) A.in1 (fun r s' => Q (r.getD d) s') E) s) :
    wpAny (model prog w) A (call (.builtin "next") [.ref x, d]) Q E s := by
  refine call_function_entry (by decide +kernel) (by decide +kernel) entry_next (args_next2 _ _) ?_
  have LN : Looks (model prog w) s.heap (specialOf (.ref x) "__next__") (some (.ref f)) := I.type.andThen (looks_findIn (X₀.keeps F.keep) hs)
  unfold Builtin.«next»
  refine wpAny_bind (wpAny_pure ?_)
  dsimp only
  refine wpAny_bind (LN.here ?_)
  refine wpAny_ite_false rfl ?_
  refine wpAny_bind (owit_next F X₀ I hs hf ?_)
  refine wpAny_mono h (fun v s' hq => wpAny_pure ⟨_, rfl, hq⟩) (fun e s' he => ?_)
  unfold OwitStop at he ⊢
  refine wpAny_mono he (fun b s₂ hb => ?_) fun _ _ z => z
  cases b with
  | true => exact wpAny_pure ⟨_, rfl, hb⟩
  | false => exact hb

theorem stop_any {M : Model} {Q : Option Value → Shared → Prop} {outer : List Env} {env : Env} {e t : Addr} {h : Heap} {vs : List Value} {news : List (Addr × Obj)}
    (R : RaisedK h₀ (env :: outer) e (.type "StopIteration") t vs news s.heap) (hsm : h.UpToSlots s.heap) (F : Fr h₀ L h m) (hfr : env.frame = some L)
    (k : Fr h₀ L s.heap m → News h₀ L s.heap news → Q none s) : OwitStop M A Q E (.ref e) s := by
  obtain ⟨⟨B, hB, hl, hfl, _⟩, _⟩ := R
  have hL : B.get? L = none := by
    obtain ⟨_, ⟨L', _, hf, hn', _⟩, _⟩ := hfl.2.2.1
    rw [hfr] at hf
    rw [Option.some.inj hf]; exact hn'
  have hf' := flyingW_base hB hfl
  obtain ⟨ob, hob, hobc⟩ := hf'.there
  have hT : s.TypeIs (.ref e) "StopIteration" := (show ∃ o, s.heap.get? e = some o ∧ o.cls = .type "StopIteration" from ⟨ob, hob, hobc⟩)
  have hsub : isSubtype (.type "StopIteration") (.type "StopIteration") = pure true := by rw [isSubtype_type]; kernel_rfl
  unfold OwitStop
  refine wpAny_isInstance hT hsub ?_
  show (if true = true then Q none s else E (.ref e) s)
  rw [if_pos rfl]
  exact k (F.of_stays hf'.1 hsm) fun q hq => ⟨hfl.1 _ _ (hl q hq).1, (fun z => by have := (hl q hq).1; rw [z, hL] at this; cases this), (hl q hq).2⟩
end
end Mine
namespace Mine
set_option maxRecDepth 100000
set_option maxHeartbeats 8000000
open_top hd for PySem.Challenge.rw_dn0266_02
end Mine
namespace Mine
open PySem PySem.W PySem.Calls PyProof.Rows
set_option maxRecDepth 100000
set_option maxHeartbeats 4000000
theorem f_mro (P : Params) : mroIn (hd.heap_39 P) 46 (.type "module") = some false := by kernel_rfl
theorem f_get (P : Params) : plainGet (hd.heap_39 P) 46 (Str.ofString "close") = true := by kernel_rfl
theorem f_dict (P : Params) : hasDictIn (hd.heap_39 P) 46 = true := by kernel_rfl
theorem f_find (P : Params) : findIn (hd.heap_39 P) (.ref 46) (Str.ofString "close") = some none := by kernel_rfl
theorem f_noget (P : Params) : noGet (hd.heap_39 P) none = true := by kernel_rfl
theorem f_copied : copiedNames.contains (Str.ofString "close") = false := by kernel_rfl
def clsShort (K : Frag) (C : Addr) (name : Str) : Bool := (clsIn K C).any fun cd => decide (cd.name.cps.foldl (fun k c => k + (Str.utf8Of c).length) 0 ≤ 100) && decide ((Str.ofString (toString "'" ++ toString cd.name.toString ++ toString "' object has no attribute '") ++ name ++ Str.ofString "'").length ≤ sizeLine)
theorem f_short (P : Params) : clsShort (hd.heap_39 P) 46 (Str.ofString "close") = true := by kernel_rfl
section
variable {prog : Program} {w : World} {A : Around} {E : Value → Shared → Prop} {s : Shared} {x dx : Addr} {h₀ : Heap} {L : Addr} {m : Str → Option Value} {news : List (Addr × Obj)} {es : List DictEntry} {n : Nat} {tk : Tok} {Q : Value → Shared → Prop}
theorem has46_yes {v : Value} (F : Fr h₀ L s.heap m) (X₀ : (hd.heap_39 w.params).In h₀) (I : InstAt s.heap x (instObj 46 dx) 46 (some (dictOf es n))) (hl : getL (Str.ofString "close") es = some (some v)) (hv : handedIn v = true) (h : Q (.bool true) s) :
    wpAny (model prog w) A (call (.builtin "hasattr") [.ref x, .str (Str.ofString "close") tk]) Q E s :=
  hasattr_yes_K F X₀ I (f_mro _) (f_get _) (f_dict _) (f_find _) (f_noget _) hl hv h
theorem has46_no (hA : A.handled = none) (F : Fr h₀ L s.heap m) (N : News h₀ L s.heap news) (X₀ : (hd.heap_39 w.params).In h₀) (I : InstAt s.heap x (instObj 46 dx) 46 (some (dictOf es n))) (hl : getL (Str.ofString "close") es = some none)
    (h : ∀ h' tk', Fr h₀ L h' m → News h₀ L h' news → Q (.bool false) { s with heap := h', toks := tk' }) :
    wpAny (model prog w) A (call (.builtin "hasattr") [.ref x, .str (Str.ofString "close") tk]) Q E s := by
  have hs := f_short w.params
  unfold clsShort at hs
  cases hc : clsIn (hd.heap_39 w.params) 46 with
  | none => rw [hc] at hs; cases hs
  | some cd =>
    rw [hc] at hs
    simp only [Option.any_some, Bool.and_eq_true, decide_eq_true_eq] at hs
    exact hasattr_no_K hA F N X₀ I (f_mro _) (f_get _) (f_dict _) (f_find _) f_copied hl hc hs.1 hs.2 h
end
end Mine
namespace Mine
open PySem PySem.W PySem.Calls PyProof.Rows
set_option maxRecDepth 100000
set_option maxHeartbeats 4000000
def fnBody : Stmt → List Stmt | .FunctionDef _ _ b _ _ _ _ _ _ _ => b | _ => []
def fnScope : Stmt → Scope | .FunctionDef _ _ _ _ _ _ sc _ _ _ => sc | _ => default
def fnArgs : Stmt → Arguments | .FunctionDef _ a _ _ _ _ _ _ _ _ => a | _ => default
def forBody : Stmt → List Stmt | .For _ _ b _ _ => b | _ => []
def whlBody : Stmt → List Stmt | .While _ b _ _ => b | _ => []
def whlTest : Stmt → Expr | .While t _ _ _ => t | _ => default
def srcStmt : Stmt := PySem.Challenge.pw_dn0266_02.main.body.getD 3 default
def sftStmt : Stmt := PySem.Challenge.pw_dn0266_02.main.body.getD 4 default
def lawStmt : Stmt := PySem.Challenge.pw_dn0266_02.main.body.getD 5 default
def srcRead : Stmt := (fnBody srcStmt).getD 1 default
def sftRead : Stmt := (fnBody sftStmt).getD 0 default
def lawScope : Scope := fnScope lawStmt
abbrev lawEnv (L fa : Addr) (cd : Value) : Env := envOfC (Str.ofString "law") lawScope L fa cd
abbrev srcQual : Str := Str.ofString "_law_source.<locals>.read"
abbrev sftQual : Str := Str.ofString "_law_sifted.<locals>.read"
abbrev srcObj (mg : Str → Option Value) (cX cA : Addr) (doc : Value) (c' : Addr) (ctv : Value) : Obj :=
  fnMade (Str.ofString "read") srcQual (fnArgs srcRead) (fnBody srcRead) (fnScope srcRead) [(Str.ofString "left", cX), (Str.ofString "asked", cA)] doc ((mg (Str.ofString "__name__")).getD .none) c' ctv
abbrev sftObj (mg : Str → Option Value) (cX cA : Addr) (doc : Value) (c' : Addr) (ctv : Value) : Obj :=
  fnMade (Str.ofString "read") sftQual (fnArgs sftRead) (fnBody sftRead) (fnScope sftRead) [(Str.ofString "before", cX), (Str.ofString "asked", cA)] doc ((mg (Str.ofString "__name__")).getD .none) c' ctv
abbrev entF (w : World) (t : Tok) (v : Value) : DictEntry := ⟨PyData.keyHash w.params (Str.ofString "filelike"), .str (Str.ofString "filelike") t, v⟩
abbrev entB (w : World) (t : Tok) (v : Value) : DictEntry := ⟨PyData.keyHash w.params (Str.ofString "blksize"), .str (Str.ofString "blksize") t, v⟩
abbrev entR (w : World) (t : Tok) (v : Value) : DictEntry := ⟨PyData.keyHash w.params (Str.ofString "read"), .str (Str.ofString "read") t, v⟩
end Mine
namespace Mine
open PySem PySem.W PySem.Calls PyProof.Rows
set_option maxRecDepth 100000
set_option maxHeartbeats 4000000
abbrev frs (l : List Env) : List Addr := l.filterMap (·.frame)
theorem memG {env : Env} {outer : List Env} {L b : Addr} (hf : env.frame = some L) (hm : b ∈ frs (env :: outer)) : b = L ∨ b ∈ frs outer := by
  obtain ⟨e, he, h⟩ := List.mem_filterMap.mp hm
  rcases List.mem_cons.mp he with rfl | he
  · exact .inl (Option.some.inj (h.symm.trans hf))
  · exact .inr (List.mem_filterMap.mpr ⟨e, he, h⟩)
structure BaseOk (K : Frag) (p : Program) (loose : List Str) (mean : ExcName → Option Value) (mg mb : Str → Option Value) (base : Heap) : Prop where
  x : K.In base
  t : Top p loose mean mg mb base
section
variable {A₀ A₁ : Around} {base h₀ G₀ G h : Heap} {outer : List Env} {L : Addr} {m : Str → Option Value} {env : Env} {news : List (Addr × Obj)}
theorem turn_out (B : Below A₀ base outer h₀) (F : Fr h₀ L G₀ m) (hf : env.frame = some L) (T : KtsTurn (frs (env :: outer)) G₀ G)
    (ho : ∀ b o, G.get? b = some o → b ∉ frs (env :: outer) → h.get? b = some o)
    (hs : ∀ b o, G.get? b = some o → b ∈ frs (env :: outer) → ∃ sl, h.get? b = some { o with slots := sl })
    (hn : ∀ p ∈ news, h.get? p.1 = some p.2 ∧ G.get? p.1 = none) :
    ∃ h₀', KtsTurn (frs outer) h₀ h₀' ∧ Fr h₀' L h m ∧ News h₀' L h news ∧ Below A₀ base outer h₀' := by
  have nL₀ : h₀.get? L = none := kts_self F
  have inL : L ∈ frs (env :: outer) := List.mem_filterMap.mpr ⟨env, .head _, hf⟩
  obtain ⟨T₁, S₁⟩ := kts_turn_at (h := h) (fs := frs outer) (g := h₀)
    (fun b hb => by
      obtain ⟨_, o, ho', _⟩ := B.frames.mem hb
      exact ⟨o, ho'⟩)
    (fun b o e nmem => ho b o (T.other b o (F.keep b o e) (fun q => by
      rcases memG hf q with z | z
      · rw [z, nL₀] at e
        cases e
      · exact nmem z)) (fun q => by
      rcases memG hf q with z | z
      · rw [z, nL₀] at e
        cases e
      · exact nmem z))
    (fun b o e hm => by
      have hm' : b ∈ frs (env :: outer) := by
        obtain ⟨e', he, h'⟩ := List.mem_filterMap.mp hm
        exact List.mem_filterMap.mpr ⟨e', .tail _ he, h'⟩
      obtain ⟨sl', hs'⟩ := T.up (F.keep b o e)
      obtain ⟨sl'', hs''⟩ := hs b _ hs' hm'
      exact ⟨sl'', hs''⟩)
  have B₃ : Below A₀ base outer (ktsHeap h (frs outer) h₀) := ⟨B.stack, fun b o e => T₁.other b o (B.stays b o e) (fun hm => by
    rw [(B.frames.mem hm).1] at e
    cases e), B.frames.of_keeps fun b o e _ => by
    obtain ⟨sl', hs'⟩ := T₁.up e
    exact ⟨_, hs', rfl⟩⟩
  obtain ⟨oL, es, ep, hL, hLd, hLk, hLf⟩ := F.ns
  obtain ⟨sl, hsl⟩ := T.up hL
  obtain ⟨sl2, hsl2⟩ := hs L _ hsl inL
  refine ⟨_, T₁, ⟨⟨_, es, ep, hsl2, hLd, hLk, hLf⟩, S₁, by rw [T₁.size]; exact F.above⟩, fun p hp => ⟨(hn p hp).1, fun q => ?_, ?_⟩, B₃⟩
  · have := (hn p hp).2; rw [q, hsl] at this; cases this
  · refine T₁.none_ _ ?_
    cases q : h₀.get? p.1 with
    | none => rfl
    | some o =>
      obtain ⟨sl', hs'⟩ := T.up (F.keep _ _ q)
      have := (hn p hp).2
      rw [hs'] at this
      cases this

theorem stopS {M : Model} {A : Around} {E : Value → Shared → Prop} {s : Shared} {Q : Option Value → Shared → Prop} {K : Frag} {p : Program} {loose : List Str} {mean : ExcName → Option Value} {mg mb : Str → Option Value} {e t : Addr} {vs : List Value}
    (R : RaisedS base G (env :: outer) e (.type "StopIteration") t vs news s.heap) (hsm : G.UpToSlots s.heap) (BG : Below A₁ base (env :: outer) G) (F : Fr h₀ L G₀ m) (T : KtsTurn (frs (env :: outer)) G₀ G) (B : Below A₀ base outer h₀) (hf : env.frame = some L)
    (WB : BaseOk K p loose mean mg mb base)
    (k : ∀ h₀', KtsTurn (frs outer) h₀ h₀' → Fr h₀' L s.heap m → News h₀' L s.heap news → Below A₀ base outer h₀' → K.In h₀' → Top p loose mean mg mb h₀' → Q none s) : OwitStop M A Q E (.ref e) s := by
  obtain ⟨⟨Bh, hB, hBG, hl, hfl, _⟩, _⟩ := R
  have hf' := flyingW_base hB hfl
  obtain ⟨ob, hob, hobc⟩ := hf'.there
  have hT : s.TypeIs (.ref e) "StopIteration" := (show ∃ o, s.heap.get? e = some o ∧ o.cls = .type "StopIteration" from ⟨ob, hob, hobc⟩)
  have hsub : isSubtype (.type "StopIteration") (.type "StopIteration") = pure true := by rw [isSubtype_type]; kernel_rfl
  unfold OwitStop
  refine wpAny_isInstance hT hsub ?_
  show (if true = true then Q none s else E (.ref e) s)
  rw [if_pos rfl]
  obtain ⟨h₀', T', F', N', B'⟩ := turn_out (news := news) B F hf T
    (fun b o q nm => hfl.1 b o (hBG b o q nm))
    (fun b o q hm => by
      obtain ⟨_, o', ho', hd⟩ := BG.frames.mem hm
      rw [q] at ho'
      cases ho'
      exact hsm b o q hd)
    (fun q hq => ⟨hfl.1 _ _ (hl q hq).1, (hl q hq).2.1⟩)
  exact k _ T' F' N' B' (WB.x.keeps B'.stays) (WB.t.keeps B'.stays)
end

def LeaveM (A₀ : Around) (base : Heap) (outer : List Env) (K : Frag) (p : Program) (loose : List Str) (mean : ExcName → Option Value) (mg mb : Str → Option Value) (fs : List Addr) (h₀ : Heap) (L : Addr) (m : Str → Option Value) (g : Heap) (R : Result → Shared → Prop) (v : Value) (s' : Shared) : Prop :=
  ∃ g' L' m' news', KtsTurn fs g g' ∧ Fr g' L' s'.heap m' ∧ News g' L' s'.heap news' ∧ ∀ h₀', KtsTurn (frs outer) h₀ h₀' → Fr h₀' L s'.heap m → News h₀' L s'.heap news' → Below A₀ base outer h₀' → K.In h₀' → Top p loose mean mg mb h₀' → R (.ok (.ret v)) s'
theorem leaveM_ {A₀ : Around} {base : Heap} {outer : List Env} {K : Frag} {p : Program} {loose : List Str} {mean : ExcName → Option Value} {mg mb : Str → Option Value} {fs : List Addr} {h₀ : Heap} {L L' : Addr} {m m' : Str → Option Value} {g g' : Heap} {R : Result → Shared → Prop} {v : Value} {s' : Shared} {news' : List (Addr × Obj)}
    (F' : Fr g' L' s'.heap m') (N' : News g' L' s'.heap news') (T : KtsTurn fs g g')
    (k : ∀ h₀', KtsTurn (frs outer) h₀ h₀' → Fr h₀' L s'.heap m → News h₀' L s'.heap news' → Below A₀ base outer h₀' → K.In h₀' → Top p loose mean mg mb h₀' → R (.ok (.ret v)) s') : LeaveM A₀ base outer K p loose mean mg mb fs h₀ L m g R v s' := ⟨g', L', m', news', T, F', N', k⟩

section
variable {prog : Program} {w : World} {A₀ A : Around} {s : Shared} {base h₀ : Heap} {outer : List Env} {L : Addr} {m : Str → Option Value} {env : Env} {news : List (Addr × Obj)} {K : Frag} {p : Program} {loose : List Str} {mean : ExcName → Option Value} {mg mb : Str → Option Value}
  {R : Result → Shared → Prop} {name qual : Str} {params : Arguments} {body : List Stmt} {scope : Scope} {cl : List (Str × Addr)} {dV kV doc pm cdv ct oc ctv : Value} {an od : Option Addr} {osl : Array (Option Value)} {fo : Obj} {f c' : Addr} {args : Args} {binds : List (Str × Value)}
theorem callX_turn (B : Below A₀ base outer h₀) (F : Fr h₀ L s.heap m) (N : News h₀ L s.heap news) (X₀ : K.In h₀) (T : Top p loose mean mg mb h₀) (WB : BaseOk K p loose mean mg mb base) (hA : A.frames = some (env :: outer)) (hf : env.frame = some L) (hke : env.scope.kind = .function)
    (ho : s.heap.get? f = some fo) (hd : fo.data = .func (fnX name qual params body scope cl dV kV doc pm an cdv ct)) (hcd : s.heap.CodeRec cdv qual) (hroom : A.depth < recursionLimit)
    (hbind : BindsTo s (fnX name qual params body scope cl dV kV doc pm an cdv ct) args binds) (hloc : ∀ y ∈ binds, scope.names.lookup y.1 = some .local)
    (h : ∀ g L' h₁, Fr h₀ L g m → Fr g L' h₁ (fun y => binds.reverse.lookup y) → News g L' h₁ news → Below A base (env :: outer) g → K.In g → Top p loose mean mg mb g →
      wpAny (model prog w) (A.deeper (envX qual scope L' f cdv cl)) (execs body (envX qual scope L' f cdv cl))
        (fun fl s' => LeaveM A₀ base outer K p loose mean mg mb (frs (env :: outer)) h₀ L m g R (match fl with | .ret v => v | _ => .none) s')
        (fun e s' => wpAny (model prog w) (A.deeper (envX qual scope L' f cdv cl)) (leaving (envX qual scope L' f cdv cl) e) (fun _ s'' => R (.error e) s'') (fun e' s'' => R (.error e') s'') s')
        { s with heap := h₁, toks := s.toks + binds.length })
    (hcell : ∀ x ∈ scope.names, x.2 ≠ .cell) (hco : scope.isCoroutine = false := by rfl) (hgen : scope.isGenerator = false := by rfl) (hk : scope.kind = .function := by rfl) : codeAny (model prog w) A (.call (.ref f) args) R s := by
  obtain ⟨FG, BG, st, _⟩ := groundX (R := R) B F N hA hf hke
  refine codeAny_call_def (fd := fnX name qual params body scope cl dV kV doc pm an cdv ct) (body := body) (binds := binds) hroom ho hd (T.nolimit.keeps F.keep) hcd rfl hbind hcell hloc (fun h₁ hns hk₁ => ?_) hco hgen hk
  refine wpAny_mono (h _ s.heap.objs.size h₁ FG ⟨hns, fun b o e => hk₁ b o (of_hideAll _ e), Nat.le_of_eq (hideAll_size _ _)⟩
    (fun p hp => ⟨hk₁ _ _ (N p hp).1, Nat.ne_of_lt (Heap.lt_size (N p hp).1), hideAll_none _ (List.mem_map_of_mem hp)⟩) BG (X₀.keeps st) (T.keeps st)) (fun fl s' hl => ?_) fun _ _ y => y
  obtain ⟨g', L', m', news', T', F', N', k⟩ := hl
  obtain ⟨h₀', T₁, F₁, N₁, B₁⟩ := turn_out (news := news') B FG hf T' (fun b o e _ => F'.keep b o e) (fun b o e _ => ⟨o.slots, F'.keep b o e⟩) (fun p hp => ⟨(N' p hp).1, (N' p hp).2.2⟩)
  exact k _ T₁ F₁ N₁ B₁ (WB.x.keeps B₁.stays) (WB.t.keeps B₁.stays)
theorem code_defT (B : Below A₀ base outer h₀) (F : Fr h₀ L s.heap m) (X₀ : K.In h₀) (N : News h₀ L s.heap news) (T : Top p loose mean mg mb h₀) (WB : BaseOk K p loose mean mg mb base) (hA : A.frames = some (env :: outer)) (hf : env.frame = some L) (hke : env.scope.kind = .function)
    (ho : K.lookup f = some ⟨oc, od, .func (fnOf name qual params body scope dV kV doc pm an cdv ct), osl⟩) (hcd : codeIn K cdv qual = true) (hroom : A.depth < recursionLimit)
    (hbind : BindsTo s (fnOf name qual params body scope dV kV doc pm an cdv ct) args binds) (hloc : ∀ y ∈ binds, scope.names.lookup y.1 = some .local)
    (h : ∀ g L' h₁, Fr h₀ L g m → Fr g L' h₁ (fun y => binds.reverse.lookup y) → News g L' h₁ news → Below A base (env :: outer) g → K.In g → Top p loose mean mg mb g →
      wpAny (model prog w) (A.deeper (envOf qual scope L' f cdv)) (execs body (envOf qual scope L' f cdv))
        (fun fl s' => LeaveM A₀ base outer K p loose mean mg mb (frs (env :: outer)) h₀ L m g R (match fl with | .ret v => v | _ => .none) s')
        (fun e s' => wpAny (model prog w) (A.deeper (envOf qual scope L' f cdv)) (leaving (envOf qual scope L' f cdv) e) (fun _ s'' => R (.error e) s'') (fun e' s'' => R (.error e') s'') s')
        { s with heap := h₁, toks := s.toks + binds.length })
    (hco : scope.isCoroutine = false) (hgen : scope.isGenerator = false) (hk : scope.kind = .function)
    (hcell : ∀ x ∈ scope.names, x.2 ≠ .cell) : codeAny (model prog w) A (.call (.ref f) args) R s :=
  callX_turn (cl := []) B F N X₀ T WB hA hf hke ((X₀.keeps F.keep) _ _ ho) rfl (codeRec_of (X₀.keeps F.keep) hcd) hroom hbind hloc h hcell hco hgen hk
theorem code_nestT (B : Below A₀ base outer h₀) (F : Fr h₀ L s.heap m) (X₀ : K.In h₀) (N : News h₀ L s.heap news) (T : Top p loose mean mg mb h₀) (WB : BaseOk K p loose mean mg mb base) (hA : A.frames = some (env :: outer)) (hf : env.frame = some L) (hke : env.scope.kind = .function)
    (ho : (f, fnMade name qual params body scope cl doc pm c' ctv) ∈ news) (hcd : s.heap.CodeRec (.ref c') qual) (hroom : A.depth < recursionLimit)
    (hbind : BindsTo s (fnX name qual params body scope cl .none .none doc pm none (.ref c') ctv) args binds) (hloc : ∀ y ∈ binds, scope.names.lookup y.1 = some .local)
    (h : ∀ g L' h₁, Fr h₀ L g m → Fr g L' h₁ (fun y => binds.reverse.lookup y) → News g L' h₁ news → Below A base (env :: outer) g → K.In g → Top p loose mean mg mb g →
      wpAny (model prog w) (A.deeper (envX qual scope L' f (.ref c') cl)) (execs body (envX qual scope L' f (.ref c') cl))
        (fun fl s' => LeaveM A₀ base outer K p loose mean mg mb (frs (env :: outer)) h₀ L m g R (match fl with | .ret v => v | _ => .none) s')
        (fun e s' => wpAny (model prog w) (A.deeper (envX qual scope L' f (.ref c') cl)) (leaving (envX qual scope L' f (.ref c') cl) e) (fun _ s'' => R (.error e) s'') (fun e' s'' => R (.error e') s'') s')
        { s with heap := h₁, toks := s.toks + binds.length })
    (hco : scope.isCoroutine = false) (hgen : scope.isGenerator = false) (hk : scope.kind = .function)
    (hcell : ∀ x ∈ scope.names, x.2 ≠ .cell) : codeAny (model prog w) A (.call (.ref f) args) R s :=
  callX_turn (cl := cl) B F N X₀ T WB hA hf hke (N _ ho).1 rfl hcd hroom hbind hloc h hcell hco hgen hk
end
end Mine
namespace Mine
open PySem PySem.W PySem.Calls PyProof.Rows
set_option maxRecDepth 100000
set_option maxHeartbeats 3000000
theorem seq0 (x : Value) (r : List Value) : seqIndex? 0 (x :: r).toArray.size = some 0 := by
  unfold seqIndex?
  simp
theorem pop0 {prog : Program} {w : World} {A : Around} {E : Value → Shared → Prop} {s : Shared} {h₀ : Heap} {L D : Addr} {m : Str → Option Value} {news news' : List (Addr × Obj)} {Q : Value → Shared → Prop} {x : Value} {r : List Value} {n : Nat} {u : Tok}
    (F : Fr h₀ L s.heap m) (N : News h₀ L s.heap news) (U : Upd D (W.listOf (x :: r).toArray n) (W.listOf r.toArray (n + 1)) news news') (hz : (x :: r).length ≤ sizeLine)
    (h : ∀ h', Fr h₀ L h' m → News h₀ L h' news' → Q x { s with heap := h' }) : wpAny (model prog w) A (call (.builtin "list.pop") [.ref D, .int 0 u]) Q E s :=
  kl_popAt (p := []) F N (by decide +kernel) (seq0 _ _) rfl U hz h
end Mine
namespace Mine
open PySem PySem.W PySem.Calls PyProof.Rows
set_option maxRecDepth 100000
set_option maxHeartbeats 3000000
local macro_rules | `(tactic| k_ne) => `(tactic| (refine neN ?_; (try dsimp only); first | exact NeF.l (by with_reducible assumption) | exact NeF.r (by with_reducible assumption) | omega))
local macro_rules | `(tactic| k_room) => `(tactic| ((try simp only [depth_under_make, depth_under_kw, depth_in1, depth_deeper, depth_caller]); (try simp only [recursionLimit]); (try dsimp only [Around.in1]); omega))
local macro_rules | `(tactic| units_room) => `(tactic| ((try simp only [units_under_make, units_in1, units_deeper, Around.mark_units, units_caller]); (try simp only [cLine]); (try dsimp only); omega))
local macro_rules | `(tactic| k_get) => `(tactic| with_reducible assumption)
local macro_rules | `(tactic| walk_at "ite") => `(tactic| (first | ((refine ite_neg ?h ?_); (case h => (simp only [beq_iff_eq, bne_iff_ne, ne_eq, decide_eq_true_eq, Bool.false_bne, Bool.true_bne, Bool.not_eq_true', decide_eq_false_iff_not, reduceCtorEq, not_false_eq_true]; first | done | omega))) | ((refine ite_pos ?h ?_); (case h => (simp only [beq_iff_eq, bne_iff_ne, ne_eq, decide_eq_true_eq, Bool.false_bne, Bool.true_bne, Bool.not_eq_true', decide_eq_false_iff_not, reduceCtorEq, not_false_eq_true]; first | done | omega)))))
local macro_rules | `(tactic| walk_at "OwitStop") => `(tactic| ((rename RaisedS _ _ _ _ _ _ _ _ _ => rkX); k_dflt (refine' stopS (G₀ := _) rkX ?U ?BG ?FG ?T ?B ?hf ?W ?_; (case T => exact KtsTurn.refl); (case hf => first | exact rfl | assumption); (case U => assumption); (case BG => assumption); (case B => assumption); (case FG => assumption); (case W => assumption)); intro h₀' kT' F' N' B' X' T'; (try dsimp only [Option.getD])))
local macro_rules | `(tactic| walk_at "leaving ref") => `(tactic| (k_here; (refine' leave_raiseS ?k1 ?k0 ?k2 ?k3 ?_; (case k0 => first | assumption | exact Heap.MadeExc.of (by assumption)); (case k1 => assumption); (case k2 => assumption); (case k3 => k_asm); k_whole; intro h' t' R' Rk' U'; clear Rk'; (try dsimp only at R' U' ⊢))))
local macro_rules | `(tactic| walk_at "call builtin:list.pop") => `(tactic| (k_here; (with_reducible show wpAny _ _ (call (Value.builtin _) [Value.ref _, Value.int 0 _]) _ _ _); k_dflt (refine' pop0 ?F ?N ?U ?z ?_; (case F => k_asm); (case N => k_asm); (case U => k_upd); (case z => (simp only [List.length_cons, sizeLine]; have := IntsAre.length (by with_reducible assumption : IntsAre _ _); omega)); k_whole); intro h' F' N'; (try k_sweep)))
local macro_rules | `(tactic| k_enter) => `(tactic| (refine' code_def ?k1 ?k2 ?k3 ?k4 ?k5 ?kA ?kF ?kK ?k6 ?k7 ?k8 ?k9 ?kB ?_ ?c2 ?c3 ?c4 ?c5; (case kA => exact rfl); (case kF => first | exact rfl | assumption); (case kK => first | exact rfl | assumption); (case k1 => k_asm); (case k2 => k_asm); (case k3 => k_asm); (case k4 => k_asm); (case k5 => k_asm); (case k6 => k_is); (case k7 => k_is); (case k8 => k_room); (case k9 => first | exact BindsTo.of_eq rfl | exact binds_K (by k_in) rfl (by k_is) rfl rfl rfl); (case c5 => decide); (case kB => exact locs rfl); (case c2 => exact rfl); (case c3 => exact rfl); (case c4 => exact rfl); k_whole; intro g' L' h' FG' F' N' B' X' T'; (try dsimp only); (try k_lift B'); (try k_fold)))
local macro_rules | `(tactic| walk_at "call builtin:next") => `(tactic| (k_here; (with_reducible show wpAny _ _ (call (Value.builtin "next") [Value.ref _, _]) _ _ _); k_dflt (refine' next_own ?F ?X ?I ?hs ?hf ?_; (case F => k_asm); (case X => k_asm); (case I => k_inst); (case hs => k_is); (case hf => k_is); k_whole)))
theorem next_src_nil {w : World} {s : Shared} {mg mb : Str → Option Value} {mean : ExcName → Option Value} {loose : List Str} {base base0 h₀ : Heap} {L : Addr} {m : Str → Option Value} {env : Env} {outer : List Env} {A₀ : Around} {dp un : Nat} {gd : Option (List Code)}
  {LF A H dH B dB R cA cX cc nl na n1 n2 t1 t2 t3 t4 t5 t6 st : Nat} {sz : Int} {doc ctv d : Value} {oA oX oc : Obj} {vs' : Array Value} {t' : Nat} {vl va : List Value} {nas : List Int} {rest : List (Addr × Obj)}
  {Q : Value → Shared → Prop} {E : Value → Shared → Prop} 
  (X' : (Mine.hd.heap_39 w.params).In h₀) (T' : Top topProg loose mean mg mb h₀) (K' : Below A₀ base outer h₀) (WB : BaseOk (Mine.hd.heap_39 w.params) topProg loose mean mg mb base) (codeHd : CodeHd base0 56 52) (hf : env.frame = some L) (hke : env.scope.kind = .function) (hroom : dp + 10 < 600) (hun : un < 9000)
  (F' : Fr h₀ L s.heap m)
  (N' : News h₀ L s.heap ((LF, W.listOf #[] nl) :: (A, W.listOf va.toArray na) :: (H, instObj 46 dH) :: (dH, dictOf [entF w t1 (.ref B), entB w t2 (.int sz st)] n1) :: (B, instObj 46 dB) :: (dB, dictOf [entF w t3 .none, entB w t4 (.int 8192 t5), entR w t6 (.ref R)] n2) :: (R, srcObj mg cX cA doc cc ctv) :: (cA, oA) :: (cX, oX) :: (cc, oc) :: rest))
  (hoff : OwnOff rest [LF, A]) (hne1 : NeTo LF (A :: [H, dH, B, dB, R, cA, cX, cc])) (hne2 : NeTo A [H, dH, B, dB, R, cA, cX, cc])
  (hIa : IntsAre va nas) (hla : nas.length ≤ 1000)
  (d1 : oA.data = .cell (some (.ref A))) (d2 : oX.data = .cell (some (.ref LF))) (d3 : oc.data = .fields vs') (d4 : vs'[1]? = some (.str srcQual t'))
  
  (hQ : ∀ h₀' h' tk' ta nl', KtsTurn (frs outer) h₀ h₀' → Fr h₀' L h' m → Below A₀ base outer h₀' → (Mine.hd.heap_39 w.params).In h₀' → Top topProg loose mean mg mb h₀' → News h₀' L h' ((LF, W.listOf #[] nl') :: (A, W.listOf (va.toArray.push (.int sz ta)) (na + 1)) :: (H, instObj 46 dH) :: (dH, dictOf [entF w t1 (.ref B), entB w t2 (.int sz st)] n1) :: (B, instObj 46 dB) :: (dB, dictOf [entF w t3 .none, entB w t4 (.int 8192 t5), entR w t6 (.ref R)] n2) :: (R, srcObj mg cX cA doc cc ctv) :: (cA, oA) :: (cX, oX) :: (cc, oc) :: rest) → Q d { s with heap := h', toks := tk' }) :
  wpAny (model PySem.Challenge.rw_dn0266_02.row.prog w) ⟨none, dp, some (env :: outer), gd, un⟩ (call (.builtin "next") [.ref H, d]) Q E s := by
  simp only [NeTo, and_true] at hne1 hne2
  obtain ⟨a0, a1, a2, a3, a4, a5, a6, a7, a8⟩ := hne1
  obtain ⟨b0, b1, b2, b3, b4, b5, b6, b7⟩ := hne2
  obtain ⟨hp, gs, dr, tk, os⟩ := s
  dsimp only at F' N'
  w_top off
  revert X'; k_fill; intro X'
  k_steps
  all_goals (first | exact hQ _ _ _ _ _ (by first | assumption | exact KtsTurn.refl) (by assumption) (by assumption) (by assumption) (by assumption) (fun p hp => (by assumption : News _ _ _ _) p (.tail _ hp)) | exact hQ _ _ _ _ _ (by first | assumption | exact KtsTurn.refl) (by assumption) (by assumption) (by assumption) (by assumption) (by assumption))
theorem next_src_cons {w : World} {s : Shared} {mg mb : Str → Option Value} {mean : ExcName → Option Value} {loose : List Str} {base base0 h₀ : Heap} {L : Addr} {m : Str → Option Value} {env : Env} {outer : List Env} {A₀ : Around} {dp un : Nat} {gd : Option (List Code)}
  {LF A H dH B dB R cA cX cc nl na n1 n2 t1 t2 t3 t4 t5 t6 st : Nat} {sz : Int} {doc ctv d : Value} {oA oX oc : Obj} {vs' : Array Value} {t' : Nat} {vl va : List Value} {nas : List Int} {rest : List (Addr × Obj)}
  {Q : Value → Shared → Prop} {E : Value → Shared → Prop} {x : Int} {tx : Nat} {r : List Value} {ns : List Int}
  (X' : (Mine.hd.heap_39 w.params).In h₀) (T' : Top topProg loose mean mg mb h₀) (K' : Below A₀ base outer h₀) (WB : BaseOk (Mine.hd.heap_39 w.params) topProg loose mean mg mb base) (codeHd : CodeHd base0 56 52) (hf : env.frame = some L) (hke : env.scope.kind = .function) (hroom : dp + 10 < 600) (hun : un < 9000)
  (F' : Fr h₀ L s.heap m)
  (N' : News h₀ L s.heap ((LF, W.listOf (Value.int x tx :: r).toArray nl) :: (A, W.listOf va.toArray na) :: (H, instObj 46 dH) :: (dH, dictOf [entF w t1 (.ref B), entB w t2 (.int sz st)] n1) :: (B, instObj 46 dB) :: (dB, dictOf [entF w t3 .none, entB w t4 (.int 8192 t5), entR w t6 (.ref R)] n2) :: (R, srcObj mg cX cA doc cc ctv) :: (cA, oA) :: (cX, oX) :: (cc, oc) :: rest))
  (hoff : OwnOff rest [LF, A]) (hne1 : NeTo LF (A :: [H, dH, B, dB, R, cA, cX, cc])) (hne2 : NeTo A [H, dH, B, dB, R, cA, cX, cc])
  (hIa : IntsAre va nas) (hla : nas.length ≤ 1000)
  (d1 : oA.data = .cell (some (.ref A))) (d2 : oX.data = .cell (some (.ref LF))) (d3 : oc.data = .fields vs') (d4 : vs'[1]? = some (.str srcQual t'))
  (hx : 0 < x) (hIr : IntsAre r ns) (hlr : ns.length ≤ 1000)
  (hQ : ∀ h₀' h' tk' ta nl', KtsTurn (frs outer) h₀ h₀' → Fr h₀' L h' m → Below A₀ base outer h₀' → (Mine.hd.heap_39 w.params).In h₀' → Top topProg loose mean mg mb h₀' → News h₀' L h' ((LF, W.listOf r.toArray nl') :: (A, W.listOf (va.toArray.push (.int sz ta)) (na + 1)) :: (H, instObj 46 dH) :: (dH, dictOf [entF w t1 (.ref B), entB w t2 (.int sz st)] n1) :: (B, instObj 46 dB) :: (dB, dictOf [entF w t3 .none, entB w t4 (.int 8192 t5), entR w t6 (.ref R)] n2) :: (R, srcObj mg cX cA doc cc ctv) :: (cA, oA) :: (cX, oX) :: (cc, oc) :: rest) → Q (.int x tx) { s with heap := h', toks := tk' }) :
  wpAny (model PySem.Challenge.rw_dn0266_02.row.prog w) ⟨none, dp, some (env :: outer), gd, un⟩ (call (.builtin "next") [.ref H, d]) Q E s := by
  simp only [NeTo, and_true] at hne1 hne2
  obtain ⟨a0, a1, a2, a3, a4, a5, a6, a7, a8⟩ := hne1
  obtain ⟨b0, b1, b2, b3, b4, b5, b6, b7⟩ := hne2
  obtain ⟨hp, gs, dr, tk, os⟩ := s
  dsimp only at F' N'
  w_top off
  revert X'; k_fill; intro X'
  k_steps
  all_goals (first | exact hQ _ _ _ _ _ (by first | assumption | exact KtsTurn.refl) (by assumption) (by assumption) (by assumption) (by assumption) (fun p hp => (by assumption : News _ _ _ _) p (.tail _ hp)) | exact hQ _ _ _ _ _ (by first | assumption | exact KtsTurn.refl) (by assumption) (by assumption) (by assumption) (by assumption) (by assumption))
end Mine
namespace Mine
open PySem PySem.W PySem.Calls PyProof.Rows
set_option maxRecDepth 100000
set_option maxHeartbeats 3000000
def nextOf (ds : List Int) : List Int → Option Int × List Int
  | [] => (none, [])
  | x :: r => if ds.any (fun d => x % d == 0) then nextOf ds r else (some x, r)
def valOf (d : Value) (r : Option Int) (tx : Tok) : Value := match r with | none => d | some x => .int x tx
def gain (r : Option Int) : Nat := match r with | none => 1 | some _ => 0
def iter (sz : Int) (ds : List Int) (res : Option Int) (left : List Int) : Option Int × List Int := match res with
  | none => (none, left)
  | some x => if x % sz = 0 then nextOf (sz :: ds) left else (some x, left)
theorem nextOf_cons (sz : Int) (ds : List Int) : ∀ left, nextOf (sz :: ds) left = iter sz ds (nextOf ds left).1 (nextOf ds left).2
  | [] => rfl
  | x :: r => by
    unfold nextOf
    by_cases h : ds.any (fun d => x % d == 0) = true
    · rw [if_pos h, if_pos (by rw [List.any_cons, h, Bool.or_true])]
      exact nextOf_cons sz ds r
    · rw [if_neg h]
      by_cases h2 : x % sz = 0
      · rw [if_pos (by rw [List.any_cons]; simp [h2])]
        show _ = (if x % sz = 0 then _ else _)
        rw [if_pos h2]
      · rw [if_neg (by rw [List.any_cons]; simp only [Bool.or_eq_true, beq_iff_eq]; exact fun z => z.elim h2 h)]
        show _ = (if x % sz = 0 then _ else _)
        rw [if_neg h2]
theorem nextOf_len (ds : List Int) : ∀ left, (nextOf ds left).2.length + (match (nextOf ds left).1 with | none => 0 | some _ => 1) ≤ left.length ∧ ((nextOf ds left).1 = none → (nextOf ds left).2 = [])
  | [] => ⟨Nat.le_refl _, fun _ => rfl⟩
  | x :: r => by
    unfold nextOf
    by_cases h : ds.any (fun d => x % d == 0) = true
    · rw [if_pos h]
      have := nextOf_len ds r
      exact ⟨Nat.le_succ_of_le this.1, this.2⟩
    · rw [if_neg h]
      exact ⟨Nat.le_refl _, fun z => by cases z⟩
theorem nextOf_mem (ds : List Int) {p : Int → Prop} : ∀ left, (∀ x ∈ left, p x) → (∀ x, (nextOf ds left).1 = some x → p x) ∧ ∀ x ∈ (nextOf ds left).2, p x
  | [], _ => ⟨fun _ z => (by cases z), fun _ z => nomatch z⟩
  | x :: r, hp => by
    unfold nextOf
    by_cases h : ds.any (fun d => x % d == 0) = true
    · rw [if_pos h]
      exact nextOf_mem ds r fun y hy => hp y (.tail _ hy)
    · rw [if_neg h]
      exact ⟨fun y z => (by cases z; exact hp x (.head _)), fun y hy => hp y (.tail _ hy)⟩

def AdrOff (a b : List Addr) : Prop := ∀ x ∈ a, ∀ y ∈ b, x ≠ y
theorem AdrOff.turn {a b b' : List Addr} (e : b' = b) (h : AdrOff a b) : AdrOff a b' := e ▸ h
def NextOk (w : World) (mg mb : Str → Option Value) (mean : ExcName → Option Value) (loose : List Str) (base : Heap) (G : List (Addr × Obj)) (i : Nat) (Ch : List Int → Nat → List (Addr × Obj) → Prop) (ds : List Int) (H : Addr) : Prop :=
  ∀ (left : List Int) (c : Nat) (rest : List (Addr × Obj)), Ch left c rest → c + left.length < 900 →
  ∀ (s : Shared) (h₀ : Heap) (L : Addr) (m : Str → Option Value) (env : Env) (outer : List Env) (A₀ : Around) (dp un : Nat) (gd : Option (List Code)) (d : Value) (Q : Value → Shared → Prop) (E : Value → Shared → Prop) (P : List (Addr × Obj)),
    Fr h₀ L s.heap m → News h₀ L s.heap (P ++ rest) → AdrOff (P.map (·.1)) (rest.map (·.1)) → (∀ p ∈ G, p ∈ P) → (Mine.hd.heap_39 w.params).In h₀ → Top topProg loose mean mg mb h₀ → Below A₀ base outer h₀ → env.frame = some L → env.scope.kind = .function → dp + 10 * i + 10 < 600 → un + 100 * i + 100 < 9000 →
    (∀ h₀' h' tk' rest' c' tx, KtsTurn (frs outer) h₀ h₀' → Fr h₀' L h' m → News h₀' L h' (P ++ rest') → rest'.map (·.1) = rest.map (·.1) → Below A₀ base outer h₀' → (Mine.hd.heap_39 w.params).In h₀' → Top topProg loose mean mg mb h₀' →
      Ch (nextOf ds left).2 c' rest' → c' + (nextOf ds left).2.length = c + left.length + gain (nextOf ds left).1 → Q (valOf d (nextOf ds left).1 tx) { s with heap := h', toks := tk' }) →
    wpAny (model PySem.Challenge.rw_dn0266_02.row.prog w) ⟨none, dp, some (env :: outer), gd, un⟩ (call (.builtin "next") [.ref H, d]) Q E s
theorem nextOk_use {w : World} {mg mb : Str → Option Value} {mean : ExcName → Option Value} {loose : List Str} {base : Heap} {G : List (Addr × Obj)} {i : Nat} {Ch : List Int → Nat → List (Addr × Obj) → Prop} {ds : List Int} {H : Addr}
    {left : List Int} {c : Nat} {rest : List (Addr × Obj)} {s : Shared} {h₀ : Heap} {L : Addr} {m : Str → Option Value} {env : Env} {outer : List Env} {A₀ : Around} {dp un : Nat} {gd : Option (List Code)} {d : Value} {Q : Value → Shared → Prop} {E : Value → Shared → Prop} {news P : List (Addr × Obj)}
    (I : NextOk w mg mb mean loose base G i Ch ds H) (F : Fr h₀ L s.heap m) (N : News h₀ L s.heap news) (e : news = P ++ rest) (hC : Ch left c rest) (hb : c + left.length < 900) (ho : AdrOff (P.map (·.1)) (rest.map (·.1))) (hg : ∀ p ∈ G, p ∈ P) (X : (Mine.hd.heap_39 w.params).In h₀) (T : Top topProg loose mean mg mb h₀) (B : Below A₀ base outer h₀)
    (hf : env.frame = some L) (hke : env.scope.kind = .function) (hdp : dp + 10 * i + 10 < 600) (hun : un + 100 * i + 100 < 9000)
    (k : ∀ h₀' h' tk' rest' c' tx, KtsTurn (frs outer) h₀ h₀' → Fr h₀' L h' m → News h₀' L h' (P ++ rest') → rest'.map (·.1) = rest.map (·.1) → Below A₀ base outer h₀' → (Mine.hd.heap_39 w.params).In h₀' → Top topProg loose mean mg mb h₀' →
      Ch (nextOf ds left).2 c' rest' → c' + (nextOf ds left).2.length = c + left.length + gain (nextOf ds left).1 → Q (valOf d (nextOf ds left).1 tx) { s with heap := h', toks := tk' }) :
    wpAny (model PySem.Challenge.rw_dn0266_02.row.prog w) ⟨none, dp, some (env :: outer), gd, un⟩ (call (.builtin "next") [.ref H, d]) Q E s :=
  I left c rest hC hb s h₀ L m env outer A₀ dp un gd d Q E P F (e ▸ N) ho hg X T B hf hke hdp hun k
theorem ends_nil {α : Type} (pre rest : List α) : pre ++ rest = pre ++ rest := rfl
theorem ends_cons {α : Type} {a : α} {l P rest : List α} (h : l = P ++ rest) : a :: l = (a :: P) ++ rest := by rw [h]; rfl
def sftWhile : Stmt := (fnBody sftRead).getD 2 default
abbrev sftEnv (L R cc cX cA : Addr) : Env := envX sftQual (fnScope sftRead) L R (.ref cc) [(Str.ofString "before", cX), (Str.ofString "asked", cA)]
abbrev sftM (sz : Int) (st : Tok) (v : Value) : Str → Option Value := fun y => if y = Str.ofString "n" then some v else if y = Str.ofString "size" then some (.int sz st) else none
end Mine
namespace Mine
open PySem PySem.W PySem.Calls PyProof.Rows
set_option maxRecDepth 100000
set_option maxHeartbeats 3000000
def WhlNext (f : Flow) (p : Prop) : Prop := f = .next ∧ p
theorem whl_turnA {prog : Program} {w : World} {A : Around} {E : Value → Shared → Prop} {s : Shared} {env : Env} {test : PySem.Expr} {body orelse : List Stmt} {Q : Flow → Shared → Prop} {k : Nat} {P : Shared → Prop} (hE : PassesOwn (model prog w) A env E)
    (hP : ∀ s', P s' → WhlRest prog w A E env test body orelse Q k s')
    (h : wpAny (model prog w) A (isTrue test env (eval test env)) (fun b s₂ => WhlIf b (wpAny (model prog w) A (execs body env) (fun f s' => WhlNext f (P s')) E s₂) (wpAny (model prog w) A (execs orelse env) Q E s₂)) E s) :
    WhlRest prog w A E env test body orelse Q (k + 1) s := by
  refine whl_turn hE (wpAny_mono h (fun b s₂ h₂ => ?_) fun _ _ z => z)
  cases b with
  | false => exact h₂
  | true =>
    have h₃ : wpAny (model prog w) A (execs body env) (fun f s' => WhlNext f (P s')) E s₂ := h₂
    refine WhlIf.yes rfl (wpAny_mono h₃ (fun f s' z => ?_) fun _ _ z => z)
    obtain ⟨rfl, p⟩ := z
    exact hP _ p
theorem Fr.conv {h₀ h : Heap} {L : Addr} {m m' : Str → Option Value} (F : Fr h₀ L h m) (e : ∀ y, m y = m' y) : Fr h₀ L h m' := (funext e : m = m') ▸ F
theorem sftM_set (sz : Int) (st : Tok) (v v' : Value) (y : Str) : (if y = Str.ofString "n" then some v' else sftM sz st v y) = sftM sz st v' y := by
  unfold sftM
  by_cases h : y = Str.ofString "n"
  · rw [if_pos h, if_pos h]
  · rw [if_neg h, if_neg h, if_neg h]
end Mine
namespace Mine
open PySem PySem.W PySem.Calls PyProof.Rows
set_option maxRecDepth 100000
set_option maxHeartbeats 3000000
local macro_rules | `(tactic| k_ne) => `(tactic| (refine neN ?_; (try dsimp only); first | exact NeF.l (by with_reducible assumption) | exact NeF.r (by with_reducible assumption) | omega))
local macro_rules | `(tactic| k_room) => `(tactic| ((try simp only [depth_under_make, depth_under_kw, depth_in1, depth_deeper, depth_caller]); (try simp only [recursionLimit]); (try dsimp only [Around.in1]); omega))
local macro_rules | `(tactic| units_room) => `(tactic| ((try simp only [units_under_make, units_in1, units_deeper, Around.mark_units, units_caller]); (try simp only [cLine]); (try dsimp only); omega))
local macro_rules | `(tactic| k_get) => `(tactic| with_reducible assumption)
local macro_rules | `(tactic| walk_at "ite") => `(tactic| (first | ((refine ite_neg ?h ?_); (case h => (simp only [beq_iff_eq, bne_iff_ne, ne_eq, decide_eq_true_eq, Bool.false_bne, Bool.true_bne, Bool.not_eq_true', decide_eq_false_iff_not, reduceCtorEq, not_false_eq_true]; first | done | omega))) | ((refine ite_pos ?h ?_); (case h => (simp only [beq_iff_eq, bne_iff_ne, ne_eq, decide_eq_true_eq, Bool.false_bne, Bool.true_bne, Bool.not_eq_true', decide_eq_false_iff_not, reduceCtorEq, not_false_eq_true]; first | done | omega)))))
local macro_rules | `(tactic| walk_at "OwitStop") => `(tactic| ((rename RaisedS _ _ _ _ _ _ _ _ _ => rkX); k_dflt (refine' stopS (G₀ := _) rkX ?U ?BG ?FG ?T ?B ?hf ?W ?_; (case T => exact KtsTurn.refl); (case hf => first | exact rfl | assumption); (case U => assumption); (case BG => assumption); (case B => assumption); (case FG => assumption); (case W => assumption)); intro h₀' kT' F' N' B' X' T'; (try dsimp only [Option.getD])))
local macro_rules | `(tactic| walk_at "leaving ref") => `(tactic| (k_here; (refine' leave_raiseS ?k1 ?k0 ?k2 ?k3 ?_; (case k0 => first | assumption | exact Heap.MadeExc.of (by assumption)); (case k1 => assumption); (case k2 => assumption); (case k3 => k_asm); k_whole; intro h' t' R' Rk' U'; clear Rk'; (try dsimp only at R' U' ⊢))))
local macro_rules | `(tactic| walk_at "call builtin:list.pop") => `(tactic| (k_here; (with_reducible show wpAny _ _ (call (Value.builtin _) [Value.ref _, Value.int 0 _]) _ _ _); k_dflt (refine' pop0 ?F ?N ?U ?z ?_; (case F => k_asm); (case N => k_asm); (case U => k_upd); (case z => (simp only [List.length_cons, sizeLine]; have := IntsAre.length (by with_reducible assumption : IntsAre _ _); omega)); k_whole); intro h' F' N'; (try k_sweep)))
local macro_rules | `(tactic| k_enter) => `(tactic| (refine' code_def ?k1 ?k2 ?k3 ?k4 ?k5 ?kA ?kF ?kK ?k6 ?k7 ?k8 ?k9 ?kB ?_ ?c2 ?c3 ?c4 ?c5; (case kA => exact rfl); (case kF => first | exact rfl | assumption); (case kK => first | exact rfl | assumption); (case k1 => k_asm); (case k2 => k_asm); (case k3 => k_asm); (case k4 => k_asm); (case k5 => k_asm); (case k6 => k_is); (case k7 => k_is); (case k8 => k_room); (case k9 => first | exact BindsTo.of_eq rfl | exact binds_K (by k_in) rfl (by k_is) rfl rfl rfl); (case c5 => decide); (case kB => exact locs rfl); (case c2 => exact rfl); (case c3 => exact rfl); (case c4 => exact rfl); k_whole; intro g' L' h' FG' F' N' B' X' T'; (try dsimp only); (try k_lift B'); (try k_fold)))
local macro_rules | `(tactic| walk_at "call builtin:next") => `(tactic| (k_here; (with_reducible show wpAny _ _ (call (Value.builtin "next") [Value.ref _, _]) _ _ _); k_dflt (refine' next_own ?F ?X ?I ?hs ?hf ?_; (case F => k_asm); (case X => k_asm); (case I => k_inst); (case hs => k_is); (case hf => k_is); k_whole)))
local macro_rules | `(tactic| walk_at "call builtin:next") => `(tactic| (k_here; (with_reducible show wpAny _ _ (call (Value.builtin "next") [Value.ref _, _]) _ _ _); k_dflt (refine' nextOk_use ?I ?F ?N ?e ?hC ?hb ?ho ?hg ?X ?T ?B ?hf ?hk ?dp ?un ?_; (case F => k_asm); (case N => k_asm); (case e => (first | exact ends_nil _ _ | exact ends_cons (ends_nil _ _) | exact ends_cons (ends_cons (ends_nil _ _)) | exact ends_cons (ends_cons (ends_cons (ends_nil _ _))) | exact ends_cons (ends_cons (ends_cons (ends_cons (ends_nil _ _)))) | exact ends_cons (ends_cons (ends_cons (ends_cons (ends_cons (ends_nil _ _))))) | exact ends_cons (ends_cons (ends_cons (ends_cons (ends_cons (ends_cons (ends_nil _ _)))))) | exact ends_cons (ends_cons (ends_cons (ends_cons (ends_cons (ends_cons (ends_cons (ends_nil _ _))))))) | exact ends_cons (ends_cons (ends_cons (ends_cons (ends_cons (ends_cons (ends_cons (ends_cons (ends_nil _ _)))))))) | exact ends_cons (ends_cons (ends_cons (ends_cons (ends_cons (ends_cons (ends_cons (ends_cons (ends_cons (ends_nil _ _))))))))) | exact ends_cons (ends_cons (ends_cons (ends_cons (ends_cons (ends_cons (ends_cons (ends_cons (ends_cons (ends_cons (ends_nil _ _)))))))))) | exact ends_cons (ends_cons (ends_cons (ends_cons (ends_cons (ends_cons (ends_cons (ends_cons (ends_cons (ends_cons (ends_cons (ends_nil _ _))))))))))) | exact ends_cons (ends_cons (ends_cons (ends_cons (ends_cons (ends_cons (ends_cons (ends_cons (ends_cons (ends_cons (ends_cons (ends_cons (ends_nil _ _)))))))))))) | exact ends_cons (ends_cons (ends_cons (ends_cons (ends_cons (ends_cons (ends_cons (ends_cons (ends_cons (ends_cons (ends_cons (ends_cons (ends_cons (ends_nil _ _))))))))))))) | exact ends_cons (ends_cons (ends_cons (ends_cons (ends_cons (ends_cons (ends_cons (ends_cons (ends_cons (ends_cons (ends_cons (ends_cons (ends_cons (ends_cons (ends_nil _ _)))))))))))))) | exact ends_cons (ends_cons (ends_cons (ends_cons (ends_cons (ends_cons (ends_cons (ends_cons (ends_cons (ends_cons (ends_cons (ends_cons (ends_cons (ends_cons (ends_cons (ends_nil _ _))))))))))))))) | exact ends_cons (ends_cons (ends_cons (ends_cons (ends_cons (ends_cons (ends_cons (ends_cons (ends_cons (ends_cons (ends_cons (ends_cons (ends_cons (ends_cons (ends_cons (ends_cons (ends_nil _ _)))))))))))))))) | exact ends_cons (ends_cons (ends_cons (ends_cons (ends_cons (ends_cons (ends_cons (ends_cons (ends_cons (ends_cons (ends_cons (ends_cons (ends_cons (ends_cons (ends_cons (ends_cons (ends_cons (ends_nil _ _))))))))))))))))))); (case I => assumption); (case hC => assumption); (case hb => omega); (case ho => assumption); (case hg => exact fun p hp => (by (repeat apply List.mem_cons_of_mem); exact (by assumption : ∀ q ∈ _, q ∈ _) p hp)); (case X => k_asm); (case T => k_asm); (case B => assumption); (case hf => first | exact rfl | assumption); (case hk => first | exact rfl | assumption); (case dp => ((try simp only [depth_deeper]); (try dsimp only [Around.in1]); omega)); (case un => ((try simp only [units_deeper]); (try dsimp only [Around.in1]); omega)); k_whole); intro h₀' h' tk' rest' c' tx kT' F' N' hmap B' X' T' hC' hc'; (simp only [List.cons_append] at N'); (have hof' := AdrOff.turn hmap (by assumption))))
theorem whl_none {w : World} {s : Shared} {mg mb : Str → Option Value} {mean : ExcName → Option Value} {loose : List Str} {base base0 h₀ : Heap} {L : Addr} {outer : List Env} {A₀ : Around} {dp un k : Nat} {gd : Option (List Code)}
  {R cA cX cc st tz H' i c : Nat} {sz : Int} {oX : Obj} {G P rest : List (Addr × Obj)} {Ch : List Int → Nat → List (Addr × Obj) → Prop} {ds left : List Int}
  {Q : Flow → Shared → Prop} {P' : Shared → Prop} {E : Value → Shared → Prop} 
  (X' : (Mine.hd.heap_39 w.params).In h₀) (T' : Top topProg loose mean mg mb h₀) (K' : Below A₀ base outer h₀) (WB : BaseOk (Mine.hd.heap_39 w.params) topProg loose mean mg mb base) (codeHd : CodeHd base0 56 52) (hdp : dp + 10 * i + 10 < 600) (hun : un + 100 * i + 100 < 9000)
  (F' : Fr h₀ L s.heap (sftM sz st (.int 0 tz)))
  (N' : News h₀ L s.heap ((cX, oX) :: (P ++ rest))) (hof : AdrOff (cX :: P.map (·.1)) (rest.map (·.1)))
  (d2 : oX.data = .cell (some (.ref H')))  (hsz : 0 < sz)
  (hE : PassesOwn (model PySem.Challenge.rw_dn0266_02.row.prog w) ⟨none, dp, some (sftEnv L R cc cX cA :: outer), gd, un⟩ (sftEnv L R cc cX cA) E)
  
  (hQ : ∀ tk', Q .next { s with toks := tk' }) :
  WhlRest PySem.Challenge.rw_dn0266_02.row.prog w ⟨none, dp, some (sftEnv L R cc cX cA :: outer), gd, un⟩ E (sftEnv L R cc cX cA) (whlTest sftWhile) (whlBody sftWhile) [] Q (k + 1) s := by
  obtain ⟨hp, gs, dr, tk, os⟩ := s
  dsimp only at F' N'
  w_top off
  revert X'; k_fill; intro X'
  with_unfolding_all show WhlRest _ _ _ _ _ (PySem.Expr.BoolOp _ _ _) (_ :: _) [] _ _ _
  refine whl_turn hE ?_
  k_steps
  all_goals exact hQ _
theorem whl_no {w : World} {s : Shared} {mg mb : Str → Option Value} {mean : ExcName → Option Value} {loose : List Str} {base base0 h₀ : Heap} {L : Addr} {outer : List Env} {A₀ : Around} {dp un k : Nat} {gd : Option (List Code)}
  {R cA cX cc st tz H' i c : Nat} {sz : Int} {oX : Obj} {G P rest : List (Addr × Obj)} {Ch : List Int → Nat → List (Addr × Obj) → Prop} {ds left : List Int}
  {Q : Flow → Shared → Prop} {P' : Shared → Prop} {E : Value → Shared → Prop} {x : Int} {tx : Nat}
  (X' : (Mine.hd.heap_39 w.params).In h₀) (T' : Top topProg loose mean mg mb h₀) (K' : Below A₀ base outer h₀) (WB : BaseOk (Mine.hd.heap_39 w.params) topProg loose mean mg mb base) (codeHd : CodeHd base0 56 52) (hdp : dp + 10 * i + 10 < 600) (hun : un + 100 * i + 100 < 9000)
  (F' : Fr h₀ L s.heap (sftM sz st (.int x tx)))
  (N' : News h₀ L s.heap ((cX, oX) :: (P ++ rest))) (hof : AdrOff (cX :: P.map (·.1)) (rest.map (·.1)))
  (d2 : oX.data = .cell (some (.ref H')))  (hsz : 0 < sz)
  (hE : PassesOwn (model PySem.Challenge.rw_dn0266_02.row.prog w) ⟨none, dp, some (sftEnv L R cc cX cA :: outer), gd, un⟩ (sftEnv L R cc cX cA) E)
  (hx : 0 < x) (hdv : Int.fmod x sz ≠ 0)
  (hQ : ∀ tk', Q .next { s with toks := tk' }) :
  WhlRest PySem.Challenge.rw_dn0266_02.row.prog w ⟨none, dp, some (sftEnv L R cc cX cA :: outer), gd, un⟩ E (sftEnv L R cc cX cA) (whlTest sftWhile) (whlBody sftWhile) [] Q (k + 1) s := by
  obtain ⟨hp, gs, dr, tk, os⟩ := s
  dsimp only at F' N'
  w_top off
  revert X'; k_fill; intro X'
  with_unfolding_all show WhlRest _ _ _ _ _ (PySem.Expr.BoolOp _ _ _) (_ :: _) [] _ _ _
  refine whl_turn hE ?_
  k_steps
  all_goals exact hQ _
theorem whl_yes {w : World} {s : Shared} {mg mb : Str → Option Value} {mean : ExcName → Option Value} {loose : List Str} {base base0 h₀ : Heap} {L : Addr} {outer : List Env} {A₀ : Around} {dp un k : Nat} {gd : Option (List Code)}
  {R cA cX cc st tz H' i c : Nat} {sz : Int} {oX : Obj} {G P rest : List (Addr × Obj)} {Ch : List Int → Nat → List (Addr × Obj) → Prop} {ds left : List Int}
  {Q : Flow → Shared → Prop} {P' : Shared → Prop} {E : Value → Shared → Prop} {x : Int} {tx : Nat}
  (X' : (Mine.hd.heap_39 w.params).In h₀) (T' : Top topProg loose mean mg mb h₀) (K' : Below A₀ base outer h₀) (WB : BaseOk (Mine.hd.heap_39 w.params) topProg loose mean mg mb base) (codeHd : CodeHd base0 56 52) (hdp : dp + 10 * i + 10 < 600) (hun : un + 100 * i + 100 < 9000)
  (F' : Fr h₀ L s.heap (sftM sz st (.int x tx)))
  (N' : News h₀ L s.heap ((cX, oX) :: (P ++ rest))) (hof : AdrOff (cX :: P.map (·.1)) (rest.map (·.1)))
  (d2 : oX.data = .cell (some (.ref H'))) (hI : NextOk w mg mb mean loose base G i Ch ds H') (hC : Ch left c rest) (hcl : c + left.length < 900) (hG : ∀ p ∈ G, p ∈ P) (hsz : 0 < sz)
  (hE : PassesOwn (model PySem.Challenge.rw_dn0266_02.row.prog w) ⟨none, dp, some (sftEnv L R cc cX cA :: outer), gd, un⟩ (sftEnv L R cc cX cA) E)
  (hx : 0 < x) (hdv : Int.fmod x sz = 0) (hP : ∀ s', P' s' → WhlRest PySem.Challenge.rw_dn0266_02.row.prog w ⟨none, dp, some (sftEnv L R cc cX cA :: outer), gd, un⟩ E (sftEnv L R cc cX cA) (whlTest sftWhile) (whlBody sftWhile) [] Q k s')
  (hQ : ∀ h₀' h' tk' rest' c' tx' tz', KtsTurn (frs outer) h₀ h₀' → Fr h₀' L h' (sftM sz st (valOf (.int 0 tz') (nextOf ds left).1 tx')) → News h₀' L h' (P ++ rest') → rest'.map (·.1) = rest.map (·.1) → Below A₀ base outer h₀' → (Mine.hd.heap_39 w.params).In h₀' → Top topProg loose mean mg mb h₀' → Ch (nextOf ds left).2 c' rest' → c' + (nextOf ds left).2.length = c + left.length + gain (nextOf ds left).1 → P' { s with heap := h', toks := tk' }) :
  WhlRest PySem.Challenge.rw_dn0266_02.row.prog w ⟨none, dp, some (sftEnv L R cc cX cA :: outer), gd, un⟩ E (sftEnv L R cc cX cA) (whlTest sftWhile) (whlBody sftWhile) [] Q (k + 1) s := by
  obtain ⟨hp, gs, dr, tk, os⟩ := s
  dsimp only at F' N'
  w_top off
  revert X'; k_fill; intro X'
  with_unfolding_all show WhlRest _ _ _ _ _ (PySem.Expr.BoolOp _ _ _) (_ :: _) [] _ _ _
  refine whl_turnA hE hP ?_
  k_steps
  all_goals (exact ⟨rfl, hQ _ _ _ _ _ _ _ (by assumption) (Fr.conv (by assumption) (sftM_set _ _ _ _)) (fun p hp => (by assumption : News _ _ _ _) p (.tail _ hp)) (by assumption) (by assumption) (by assumption) (by assumption) (by assumption) (by assumption)⟩)
end Mine
namespace Mine
open PySem PySem.W PySem.Calls PyProof.Rows
set_option maxRecDepth 100000
set_option maxHeartbeats 3000000
theorem fmod_pos {x sz : Int} (h : 0 < sz) : Int.fmod x sz = x % sz := Int.fmod_eq_emod_of_nonneg x (Int.le_of_lt h)
def wt (res : Option Int) (left : List Int) : Nat := left.length + (match res with | none => 0 | some _ => 1)
theorem whl_sft {w : World} {mg mb : Str → Option Value} {mean : ExcName → Option Value} {loose : List Str} {base base0 : Heap} {L : Addr} {outer : List Env} {A₀ : Around} {dp un : Nat} {gd : Option (List Code)}
    {R cA cX cc st H' i : Nat} {sz : Int} {oX : Obj} {G P : List (Addr × Obj)} {Ch : List Int → Nat → List (Addr × Obj) → Prop} {ds : List Int} {Q : Flow → Shared → Prop} {E : Value → Shared → Prop}
    (WB : BaseOk (Mine.hd.heap_39 w.params) topProg loose mean mg mb base) (codeHd : CodeHd base0 56 52) (hdp : dp + 10 * i + 10 < 600) (hun : un + 100 * i + 100 < 9000)
    (hP : (cX, oX) ∈ P) (hG : ∀ p ∈ G, p ∈ P) (d2 : oX.data = .cell (some (.ref H'))) (hI : NextOk w mg mb mean loose base G i Ch ds H') (hsz : 0 < sz)
    (hE : PassesOwn (model PySem.Challenge.rw_dn0266_02.row.prog w) ⟨none, dp, some (sftEnv L R cc cX cA :: outer), gd, un⟩ (sftEnv L R cc cX cA) E) :
    ∀ (n : Nat) (left : List Int) (res : Option Int) (c : Nat) (rest : List (Addr × Obj)) (h₀ : Heap) (s : Shared) (tz tx k : Nat), wt res left ≤ n → (∀ x, res = some x → 0 < x) → (∀ x ∈ left, 0 < x) → c + left.length < 900 + gain res → Ch left c rest →
      AdrOff (P.map (·.1)) (rest.map (·.1)) → (Mine.hd.heap_39 w.params).In h₀ → Top topProg loose mean mg mb h₀ → Below A₀ base outer h₀ →
      Fr h₀ L s.heap (sftM sz st (valOf (.int 0 tz) res tx)) → News h₀ L s.heap (P ++ rest) →
      (∀ h₀' h' tk' rest' c' tx' tz', KtsTurn (frs outer) h₀ h₀' → Fr h₀' L h' (sftM sz st (valOf (.int 0 tz') (iter sz ds res left).1 tx')) → News h₀' L h' (P ++ rest') → rest'.map (·.1) = rest.map (·.1) → Below A₀ base outer h₀' → (Mine.hd.heap_39 w.params).In h₀' → Top topProg loose mean mg mb h₀' →
        Ch (iter sz ds res left).2 c' rest' → c' + (iter sz ds res left).2.length + gain res = c + left.length + gain (iter sz ds res left).1 → Q .next { s with heap := h', toks := tk' }) →
      WhlRest PySem.Challenge.rw_dn0266_02.row.prog w ⟨none, dp, some (sftEnv L R cc cX cA :: outer), gd, un⟩ E (sftEnv L R cc cX cA) (whlTest sftWhile) (whlBody sftWhile) [] Q (k + 1) s
  | n, left, none, c, rest, h₀, s, tz, tx, k, hn, hr, hl, hb, hC, ho, X', T', K', F', N', hQ => by
    refine whl_none (mg := mg) (mb := mb) (mean := mean) (loose := loose) (base := base) (base0 := base0) (i := i) (G := G) (Ch := Ch) (ds := ds) (left := left) (c := c) (P' := fun _ => True) (H' := H') (oX := oX) (P := P) (rest := rest) (k := k) (tz := tz) X' T' K' WB codeHd hdp hun F' (fun q hq => (List.mem_cons.mp hq).elim (fun e => e ▸ N' _ (List.mem_append_left _ hP)) (N' q)) ?_ d2 hsz hE fun tk' => ?_
    · exact fun x hx => (List.mem_cons.mp hx).elim (fun e => e ▸ ho _ (List.mem_map_of_mem hP)) (ho x)
    · exact hQ h₀ s.heap tk' rest c tx tz KtsTurn.refl F' N' rfl K' X' T' hC rfl
  | n, left, some x, c, rest, h₀, s, tz, tx, k, hn, hr, hl, hb, hC, ho, X', T', K', F', N', hQ => by
    have hx := hr x rfl
    have N2 : News h₀ L s.heap ((cX, oX) :: (P ++ rest)) := fun q hq => (List.mem_cons.mp hq).elim (fun e => e ▸ N' _ (List.mem_append_left _ hP)) (N' q)
    have ho2 : AdrOff (cX :: P.map (·.1)) (rest.map (·.1)) := fun x hx => (List.mem_cons.mp hx).elim (fun e => e ▸ ho _ (List.mem_map_of_mem hP)) (ho x)
    by_cases hd : Int.fmod x sz = 0
    · have hd' : x % sz = 0 := (fmod_pos hsz) ▸ hd
      have ei : iter sz ds (some x) left = iter sz ds (nextOf ds left).1 (nextOf ds left).2 := by
        rw [← nextOf_cons]; exact if_pos hd'
      have hlen := nextOf_len ds left
      have hpos := nextOf_mem ds left hl
      cases n with
      | zero => exact absurd hn (by unfold wt; simp)
      | succ n =>
        refine whl_yes (tz := tz) (mg := mg) (mb := mb) (mean := mean) (loose := loose) (base := base) (base0 := base0) (P' := fun s' => WhlRest PySem.Challenge.rw_dn0266_02.row.prog w ⟨none, dp, some (sftEnv L R cc cX cA :: outer), gd, un⟩ E (sftEnv L R cc cX cA) (whlTest sftWhile) (whlBody sftWhile) [] Q (k + 1) s')
          X' T' K' WB codeHd hdp hun F' N2 ho2 d2 hI hC (by simpa [gain] using hb) hG hsz hE hx hd (fun _ z => z) ?_
        intro h₀' h' tk' rest' c' tx' tz' kT F₂ N₂ hmap B₂ X₂ T₂ hC₂ hc₂
        have hg : gain (some x) = 0 := rfl
        have hb' : c + left.length < 900 := by simpa [gain] using hb
        refine whl_sft WB codeHd hdp hun hP hG d2 hI hsz hE n (nextOf ds left).2 (nextOf ds left).1 c' rest' h₀' _ tz' tx' k ?_ hpos.1 hpos.2 (by omega) hC₂ (hmap ▸ ho) X₂ T₂ B₂ F₂ N₂ ?_
        · have h1 := hlen.1
          have : wt (nextOf ds left).1 (nextOf ds left).2 ≤ left.length := h1
          have h2 : left.length + 1 ≤ n + 1 := hn
          omega
        · intro h₀'' h'' tk'' rest'' c'' tx'' tz'' kT2 F₃ N₃ hmap2 B₃ X₃ T₃ hC₃ hc₃
          refine hQ h₀'' h'' tk'' rest'' c'' tx'' tz'' (kT.trans kT2) (ei ▸ F₃) N₃ (hmap2.trans hmap) B₃ X₃ T₃ (ei ▸ hC₃) ?_
          rw [ei, hg]
          omega
    · have hd' : ¬ x % sz = 0 := (fmod_pos hsz) ▸ hd
      have ei : iter sz ds (some x) left = (some x, left) := if_neg hd'
      refine whl_no (tz := tz) (mg := mg) (mb := mb) (mean := mean) (loose := loose) (base := base) (base0 := base0) (i := i) (G := G) (Ch := Ch) (ds := ds) (left := left) (c := c) (P' := fun _ => True) (H' := H') (oX := oX) (P := P) (rest := rest) (k := k) X' T' K' WB codeHd hdp hun F' N2 ho2 d2 hsz hE hx hd fun tk' => ?_
      refine hQ h₀ s.heap tk' rest c tx tz KtsTurn.refl (by rw [ei]; exact F') N' rfl K' X' T' (by rw [ei]; exact hC) (by rw [ei])
end Mine
namespace Mine
open PySem PySem.W PySem.Calls PyProof.Rows
set_option maxRecDepth 100000
set_option maxHeartbeats 3000000
theorem sftM_of (sz : Int) (st : Tok) (v : Value) (y : Str) : (if y = Str.ofString "n" then some v else List.lookup y [(Str.ofString "size", Value.int sz st)]) = sftM sz st v y := by
  unfold sftM
  by_cases h : y = Str.ofString "n"
  · rw [if_pos h, if_pos h]
  · rw [if_neg h, if_neg h, List.lookup_cons]
    by_cases h2 : y = Str.ofString "size"
    · rw [if_pos h2]
      have : (y == Str.ofString "size") = true := beq_iff_eq.mpr h2
      rw [this]
    · rw [if_neg h2]
      have : (y == Str.ofString "size") = false := beq_eq_false_iff_ne.mpr h2
      rw [this]
      rfl
theorem whl_go {w : World} {mg mb : Str → Option Value} {mean : ExcName → Option Value} {loose : List Str} {base base0 : Heap} {L : Addr} {outer : List Env} {A₀ : Around} {dp un : Nat} {gd : Option (List Code)}
    {R cA cX cc st H' i tz tx c c₁ : Nat} {sz : Int} {oX : Obj} {G news P rest : List (Addr × Obj)} {Ch : List Int → Nat → List (Addr × Obj) → Prop} {ds left : List Int} {Q : Flow → Shared → Prop} {E : Value → Shared → Prop} {h₀ : Heap} {s : Shared} {m : Str → Option Value} {r : Option Int}
    (F : Fr h₀ L s.heap m) (hm : ∀ y, m y = sftM sz st (valOf (.int 0 tz) (nextOf ds left).1 tx) y) (N : News h₀ L s.heap news) (e : news = P ++ rest)
    (hC : Ch (nextOf ds left).2 c₁ rest) (hc : c₁ + (nextOf ds left).2.length = c + left.length + gain (nextOf ds left).1) (hb : c + left.length < 900) (hpos : ∀ x ∈ left, 0 < x) (hr : (nextOf (sz :: ds) left).1 = r)
    (ho : AdrOff (P.map (·.1)) (rest.map (·.1))) (X : (Mine.hd.heap_39 w.params).In h₀) (T : Top topProg loose mean mg mb h₀) (B : Below A₀ base outer h₀)
    (WB : BaseOk (Mine.hd.heap_39 w.params) topProg loose mean mg mb base) (codeHd : CodeHd base0 56 52) (hdp : dp + 10 * i + 10 < 600) (hun : un + 100 * i + 100 < 9000)
    (hP : (cX, oX) ∈ P) (hG : ∀ p ∈ G, p ∈ P) (d2 : oX.data = .cell (some (.ref H'))) (hI : NextOk w mg mb mean loose base G i Ch ds H') (hsz : 0 < sz)
    (hE : PassesOwn (model PySem.Challenge.rw_dn0266_02.row.prog w) ⟨none, dp, some (sftEnv L R cc cX cA :: outer), gd, un⟩ (sftEnv L R cc cX cA) E)
    (k : ∀ h₀' h' tk' rest' c' tx' tz', KtsTurn (frs outer) h₀ h₀' → Fr h₀' L h' (sftM sz st (valOf (.int 0 tz') r tx')) → News h₀' L h' (P ++ rest') → rest'.map (·.1) = rest.map (·.1) → Below A₀ base outer h₀' → (Mine.hd.heap_39 w.params).In h₀' → Top topProg loose mean mg mb h₀' →
        Ch (nextOf (sz :: ds) left).2 c' rest' → c' + (nextOf (sz :: ds) left).2.length = c + left.length + gain r → Q .next { s with heap := h', toks := tk' }) :
    wpAny (model PySem.Challenge.rw_dn0266_02.row.prog w) ⟨none, dp, some (sftEnv L R cc cX cA :: outer), gd, un⟩ (exec sftWhile (sftEnv L R cc cX cA)) Q E s := by
  subst hr
  subst e
  have hpos2 := nextOf_mem ds left hpos
  with_unfolding_all refine whl_start 1 ?_
  refine whl_sft WB codeHd hdp hun hP hG d2 hI hsz hE _ (nextOf ds left).2 (nextOf ds left).1 c₁ rest h₀ s tz tx 0 (Nat.le_refl _) hpos2.1 hpos2.2 (by omega) hC ho X T B (Fr.conv F hm) N ?_
  intro h₀' h' tk' rest' c' tx' tz' kT F' N' hmap B' X' T' hC' hc'
  rw [← nextOf_cons] at F' hC' hc'
  exact k h₀' h' tk' rest' c' tx' tz' kT F' N' hmap B' X' T' hC' (by omega)
end Mine
namespace Mine
open PySem PySem.W PySem.Calls PyProof.Rows
set_option maxRecDepth 100000
set_option maxHeartbeats 3000000
local macro_rules | `(tactic| k_ne) => `(tactic| (refine neN ?_; (try dsimp only); first | exact NeF.l (by with_reducible assumption) | exact NeF.r (by with_reducible assumption) | omega))
local macro_rules | `(tactic| k_room) => `(tactic| ((try simp only [depth_under_make, depth_under_kw, depth_in1, depth_deeper, depth_caller]); (try simp only [recursionLimit]); (try dsimp only [Around.in1]); omega))
local macro_rules | `(tactic| units_room) => `(tactic| ((try simp only [units_under_make, units_in1, units_deeper, Around.mark_units, units_caller]); (try simp only [cLine]); (try dsimp only); omega))
local macro_rules | `(tactic| k_get) => `(tactic| with_reducible assumption)
local macro_rules | `(tactic| walk_at "ite") => `(tactic| (first | ((refine ite_neg ?h ?_); (case h => (simp only [beq_iff_eq, bne_iff_ne, ne_eq, decide_eq_true_eq, Bool.false_bne, Bool.true_bne, Bool.not_eq_true', decide_eq_false_iff_not, reduceCtorEq, not_false_eq_true]; first | done | omega))) | ((refine ite_pos ?h ?_); (case h => (simp only [beq_iff_eq, bne_iff_ne, ne_eq, decide_eq_true_eq, Bool.false_bne, Bool.true_bne, Bool.not_eq_true', decide_eq_false_iff_not, reduceCtorEq, not_false_eq_true]; first | done | omega)))))
local macro_rules | `(tactic| walk_at "call builtin:next") => `(tactic| (k_here; (with_reducible show wpAny _ _ (call (Value.builtin "next") [Value.ref _, _]) _ _ _); k_dflt (refine' next_own ?F ?X ?I ?hs ?hf ?_; (case F => k_asm); (case X => k_asm); (case I => k_inst); (case hs => k_is); (case hf => k_is); k_whole)))
local macro_rules | `(tactic| k_enter) => `(tactic| (refine' code_defT ?k1 ?k2 ?k3 ?k4 ?k5 ?kW ?kA ?kF ?kK ?k6 ?k7 ?k8 ?k9 ?kB ?_ ?c2 ?c3 ?c4 ?c5; (case kA => exact rfl); (case kF => first | exact rfl | assumption); (case kK => first | exact rfl | assumption); (case k2 => k_asm); (case k1 => assumption); (case k3 => k_asm); (case k4 => k_asm); (case k5 => k_asm); (case kW => assumption); (case k6 => k_is); (case k7 => k_is); (case k8 => k_room); (case k9 => first | exact BindsTo.of_eq rfl | exact binds_K (by k_in) rfl (by k_is) rfl rfl rfl); (case c5 => decide); (case kB => exact locs rfl); (case c2 => exact rfl); (case c3 => exact rfl); (case c4 => exact rfl); k_whole; intro g' L' h' FG' F' N' B' X' T'; (try dsimp only); (try k_fold)))
local macro_rules | `(tactic| walk_at "call ref") => `(tactic| (k_here; k_dflt (refine wpAny_call ?_; refine' code_nestT ?k1 ?k2 ?k3 ?k4 ?k5 ?kW ?kA ?kF ?kK ?k6 ?k7 ?k8 ?k9 ?kB ?_ ?c2 ?c3 ?c4 ?c5; (case kA => exact rfl); (case kF => first | exact rfl | assumption); (case kK => first | exact rfl | assumption); (case k2 => k_asm); (case k1 => assumption); (case k3 => k_asm); (case k4 => k_asm); (case k5 => k_asm); (case kW => assumption); (case k6 => k_mem); (case k7 => exact codeRec_news (by k_asm) (by k_mem) (by assumption) (by assumption)); (case k8 => k_room); (case k9 => exact BindsTo.of_eq rfl); (case c5 => decide); (case kB => exact locs rfl); (case c2 => exact rfl); (case c3 => exact rfl); (case c4 => exact rfl); k_whole; intro g' L' h' FG' F' N' B' X' T'; (try dsimp only); (try k_fold))))
local macro_rules | `(tactic| walk_at "LeaveM") => `(tactic| (k_dflt (refine' leaveM_ ?F ?N ?T ?_; (case F => k_asm); (case N => k_asm); (case T => first | assumption | exact KtsTurn.refl); k_whole); intro h₀' kT' F' N' B' X' T'; (try dsimp only [InitBack, CmpBack, LenBack, StrBack, BoolBack]); (try refine ⟨rfl, ?_⟩); (try (refine handed_on rfl ?_; try dsimp only))))
local macro_rules | `(tactic| walk_at "leaving ref") => `(tactic| (k_here; (refine' leave_raiseS ?k1 ?k0 ?k2 ?k3 ?_; (case k0 => first | assumption | exact Heap.MadeExc.of (by assumption)); (case k2 => assumption); (case k1 => assumption); (case k3 => k_asm); k_whole; intro h' t' R' Rk' U'; clear Rk'; (try dsimp only at R' U' ⊢))))
local macro_rules | `(tactic| walk_at "OwitStop") => `(tactic| ((rename RaisedS _ _ _ _ _ _ _ _ _ => rkX); k_dflt (refine' stopS rkX ?U ?BG ?FG ?T ?B ?hf ?W ?_; (case hf => first | exact rfl | assumption); (case U => assumption); (case BG => assumption); (case T => first | assumption | exact KtsTurn.refl); (case FG => assumption); (case B => assumption); (case W => assumption)); intro h₀' kT' F' N' B' X' T'; (try dsimp only [Option.getD])))
local macro_rules | `(tactic| walk_at "exec While BoolOp") => `(tactic| (k_here; (with_unfolding_all show wpAny _ _ (exec sftWhile _) _ _ _); k_dflt (refine' whl_go ?F ?hm ?N ?e ?hC ?hc ?hb ?hpos ?hr ?ho ?X ?T ?B ?W ?cd ?dp ?un ?hP ?hg ?d2 ?I ?sz ?hE ?_; (case F => k_asm); (case N => k_asm); (case e => (first | exact ends_nil _ _ | exact ends_cons (ends_nil _ _) | exact ends_cons (ends_cons (ends_nil _ _)) | exact ends_cons (ends_cons (ends_cons (ends_nil _ _))) | exact ends_cons (ends_cons (ends_cons (ends_cons (ends_nil _ _)))) | exact ends_cons (ends_cons (ends_cons (ends_cons (ends_cons (ends_nil _ _))))) | exact ends_cons (ends_cons (ends_cons (ends_cons (ends_cons (ends_cons (ends_nil _ _)))))) | exact ends_cons (ends_cons (ends_cons (ends_cons (ends_cons (ends_cons (ends_cons (ends_nil _ _))))))) | exact ends_cons (ends_cons (ends_cons (ends_cons (ends_cons (ends_cons (ends_cons (ends_cons (ends_nil _ _)))))))) | exact ends_cons (ends_cons (ends_cons (ends_cons (ends_cons (ends_cons (ends_cons (ends_cons (ends_cons (ends_nil _ _))))))))) | exact ends_cons (ends_cons (ends_cons (ends_cons (ends_cons (ends_cons (ends_cons (ends_cons (ends_cons (ends_cons (ends_nil _ _)))))))))) | exact ends_cons (ends_cons (ends_cons (ends_cons (ends_cons (ends_cons (ends_cons (ends_cons (ends_cons (ends_cons (ends_cons (ends_nil _ _))))))))))) | exact ends_cons (ends_cons (ends_cons (ends_cons (ends_cons (ends_cons (ends_cons (ends_cons (ends_cons (ends_cons (ends_cons (ends_cons (ends_nil _ _)))))))))))) | exact ends_cons (ends_cons (ends_cons (ends_cons (ends_cons (ends_cons (ends_cons (ends_cons (ends_cons (ends_cons (ends_cons (ends_cons (ends_cons (ends_nil _ _))))))))))))) | exact ends_cons (ends_cons (ends_cons (ends_cons (ends_cons (ends_cons (ends_cons (ends_cons (ends_cons (ends_cons (ends_cons (ends_cons (ends_cons (ends_cons (ends_nil _ _)))))))))))))) | exact ends_cons (ends_cons (ends_cons (ends_cons (ends_cons (ends_cons (ends_cons (ends_cons (ends_cons (ends_cons (ends_cons (ends_cons (ends_cons (ends_cons (ends_cons (ends_nil _ _))))))))))))))) | exact ends_cons (ends_cons (ends_cons (ends_cons (ends_cons (ends_cons (ends_cons (ends_cons (ends_cons (ends_cons (ends_cons (ends_cons (ends_cons (ends_cons (ends_cons (ends_cons (ends_nil _ _)))))))))))))))) | exact ends_cons (ends_cons (ends_cons (ends_cons (ends_cons (ends_cons (ends_cons (ends_cons (ends_cons (ends_cons (ends_cons (ends_cons (ends_cons (ends_cons (ends_cons (ends_cons (ends_cons (ends_nil _ _))))))))))))))))))); (case hC => assumption); (case hc => assumption); (case hb => assumption); (case hpos => assumption); (case hr => assumption); (case hm => (intro y; with_unfolding_all exact sftM_of _ _ _ y)); (case ho => assumption); (case X => k_asm); (case T => k_asm); (case B => assumption); (case W => assumption); (case cd => assumption); (case hP => k_mem); (case hg => exact fun p hp => (by (repeat apply List.mem_cons_of_mem); exact (by assumption : ∀ q ∈ _, q ∈ _) p hp)); (case d2 => assumption); (case I => assumption); (case dp => ((try simp only [depth_deeper]); (try dsimp only [Around.in1]); omega)); (case un => ((try simp only [units_deeper]); (try dsimp only [Around.in1]); omega)); (case sz => assumption); (case hE => first | passes_own | with_unfolding_all passes_own); k_whole); intro h₀' h' tk' rest' c' tx' tz' kT F' N' hmap B' X' T' hC' hc'; (simp only [List.cons_append] at N'); (have hof' := AdrOff.turn hmap (by assumption)); (have kTT := KtsTurn.trans (by assumption) kT); (try dsimp only [valOf] at F')))
local macro_rules | `(tactic| walk_at "exec While") => `(tactic| (k_here; (with_unfolding_all show wpAny _ _ (exec sftWhile _) _ _ _); k_dflt (refine' whl_go ?F ?hm ?N ?e ?hC ?hc ?hb ?hpos ?hr ?ho ?X ?T ?B ?W ?cd ?dp ?un ?hP ?hg ?d2 ?I ?sz ?hE ?_; (case F => k_asm); (case N => k_asm); (case e => (first | exact ends_nil _ _ | exact ends_cons (ends_nil _ _) | exact ends_cons (ends_cons (ends_nil _ _)) | exact ends_cons (ends_cons (ends_cons (ends_nil _ _))) | exact ends_cons (ends_cons (ends_cons (ends_cons (ends_nil _ _)))) | exact ends_cons (ends_cons (ends_cons (ends_cons (ends_cons (ends_nil _ _))))) | exact ends_cons (ends_cons (ends_cons (ends_cons (ends_cons (ends_cons (ends_nil _ _)))))) | exact ends_cons (ends_cons (ends_cons (ends_cons (ends_cons (ends_cons (ends_cons (ends_nil _ _))))))) | exact ends_cons (ends_cons (ends_cons (ends_cons (ends_cons (ends_cons (ends_cons (ends_cons (ends_nil _ _)))))))) | exact ends_cons (ends_cons (ends_cons (ends_cons (ends_cons (ends_cons (ends_cons (ends_cons (ends_cons (ends_nil _ _))))))))) | exact ends_cons (ends_cons (ends_cons (ends_cons (ends_cons (ends_cons (ends_cons (ends_cons (ends_cons (ends_cons (ends_nil _ _)))))))))) | exact ends_cons (ends_cons (ends_cons (ends_cons (ends_cons (ends_cons (ends_cons (ends_cons (ends_cons (ends_cons (ends_cons (ends_nil _ _))))))))))) | exact ends_cons (ends_cons (ends_cons (ends_cons (ends_cons (ends_cons (ends_cons (ends_cons (ends_cons (ends_cons (ends_cons (ends_cons (ends_nil _ _)))))))))))) | exact ends_cons (ends_cons (ends_cons (ends_cons (ends_cons (ends_cons (ends_cons (ends_cons (ends_cons (ends_cons (ends_cons (ends_cons (ends_cons (ends_nil _ _))))))))))))) | exact ends_cons (ends_cons (ends_cons (ends_cons (ends_cons (ends_cons (ends_cons (ends_cons (ends_cons (ends_cons (ends_cons (ends_cons (ends_cons (ends_cons (ends_nil _ _)))))))))))))) | exact ends_cons (ends_cons (ends_cons (ends_cons (ends_cons (ends_cons (ends_cons (ends_cons (ends_cons (ends_cons (ends_cons (ends_cons (ends_cons (ends_cons (ends_cons (ends_nil _ _))))))))))))))) | exact ends_cons (ends_cons (ends_cons (ends_cons (ends_cons (ends_cons (ends_cons (ends_cons (ends_cons (ends_cons (ends_cons (ends_cons (ends_cons (ends_cons (ends_cons (ends_cons (ends_nil _ _)))))))))))))))) | exact ends_cons (ends_cons (ends_cons (ends_cons (ends_cons (ends_cons (ends_cons (ends_cons (ends_cons (ends_cons (ends_cons (ends_cons (ends_cons (ends_cons (ends_cons (ends_cons (ends_cons (ends_nil _ _))))))))))))))))))); (case hC => assumption); (case hc => assumption); (case hb => assumption); (case hpos => assumption); (case hr => assumption); (case hm => (intro y; with_unfolding_all exact sftM_of _ _ _ y)); (case ho => assumption); (case X => k_asm); (case T => k_asm); (case B => assumption); (case W => assumption); (case cd => assumption); (case hP => k_mem); (case hg => exact fun p hp => (by (repeat apply List.mem_cons_of_mem); exact (by assumption : ∀ q ∈ _, q ∈ _) p hp)); (case d2 => assumption); (case I => assumption); (case dp => ((try simp only [depth_deeper]); (try dsimp only [Around.in1]); omega)); (case un => ((try simp only [units_deeper]); (try dsimp only [Around.in1]); omega)); (case sz => assumption); (case hE => first | passes_own | with_unfolding_all passes_own); k_whole); intro h₀' h' tk' rest' c' tx' tz' kT F' N' hmap B' X' T' hC' hc'; (simp only [List.cons_append] at N'); (have hof' := AdrOff.turn hmap (by assumption)); (have kTT := KtsTurn.trans (by assumption) kT); (try dsimp only [valOf] at F')))
local macro_rules | `(tactic| walk_at "last exec While") => `(tactic| (k_here; (with_unfolding_all show wpAny _ _ (exec sftWhile _) _ _ _); k_dflt (refine' whl_go ?F ?hm ?N ?e ?hC ?hc ?hb ?hpos ?hr ?ho ?X ?T ?B ?W ?cd ?dp ?un ?hP ?hg ?d2 ?I ?sz ?hE ?_; (case F => k_asm); (case N => k_asm); (case e => (first | exact ends_nil _ _ | exact ends_cons (ends_nil _ _) | exact ends_cons (ends_cons (ends_nil _ _)) | exact ends_cons (ends_cons (ends_cons (ends_nil _ _))) | exact ends_cons (ends_cons (ends_cons (ends_cons (ends_nil _ _)))) | exact ends_cons (ends_cons (ends_cons (ends_cons (ends_cons (ends_nil _ _))))) | exact ends_cons (ends_cons (ends_cons (ends_cons (ends_cons (ends_cons (ends_nil _ _)))))) | exact ends_cons (ends_cons (ends_cons (ends_cons (ends_cons (ends_cons (ends_cons (ends_nil _ _))))))) | exact ends_cons (ends_cons (ends_cons (ends_cons (ends_cons (ends_cons (ends_cons (ends_cons (ends_nil _ _)))))))) | exact ends_cons (ends_cons (ends_cons (ends_cons (ends_cons (ends_cons (ends_cons (ends_cons (ends_cons (ends_nil _ _))))))))) | exact ends_cons (ends_cons (ends_cons (ends_cons (ends_cons (ends_cons (ends_cons (ends_cons (ends_cons (ends_cons (ends_nil _ _)))))))))) | exact ends_cons (ends_cons (ends_cons (ends_cons (ends_cons (ends_cons (ends_cons (ends_cons (ends_cons (ends_cons (ends_cons (ends_nil _ _))))))))))) | exact ends_cons (ends_cons (ends_cons (ends_cons (ends_cons (ends_cons (ends_cons (ends_cons (ends_cons (ends_cons (ends_cons (ends_cons (ends_nil _ _)))))))))))) | exact ends_cons (ends_cons (ends_cons (ends_cons (ends_cons (ends_cons (ends_cons (ends_cons (ends_cons (ends_cons (ends_cons (ends_cons (ends_cons (ends_nil _ _))))))))))))) | exact ends_cons (ends_cons (ends_cons (ends_cons (ends_cons (ends_cons (ends_cons (ends_cons (ends_cons (ends_cons (ends_cons (ends_cons (ends_cons (ends_cons (ends_nil _ _)))))))))))))) | exact ends_cons (ends_cons (ends_cons (ends_cons (ends_cons (ends_cons (ends_cons (ends_cons (ends_cons (ends_cons (ends_cons (ends_cons (ends_cons (ends_cons (ends_cons (ends_nil _ _))))))))))))))) | exact ends_cons (ends_cons (ends_cons (ends_cons (ends_cons (ends_cons (ends_cons (ends_cons (ends_cons (ends_cons (ends_cons (ends_cons (ends_cons (ends_cons (ends_cons (ends_cons (ends_nil _ _)))))))))))))))) | exact ends_cons (ends_cons (ends_cons (ends_cons (ends_cons (ends_cons (ends_cons (ends_cons (ends_cons (ends_cons (ends_cons (ends_cons (ends_cons (ends_cons (ends_cons (ends_cons (ends_cons (ends_nil _ _))))))))))))))))))); (case hC => assumption); (case hc => assumption); (case hb => assumption); (case hpos => assumption); (case hr => assumption); (case hm => (intro y; with_unfolding_all exact sftM_of _ _ _ y)); (case ho => assumption); (case X => k_asm); (case T => k_asm); (case B => assumption); (case W => assumption); (case cd => assumption); (case hP => k_mem); (case hg => exact fun p hp => (by (repeat apply List.mem_cons_of_mem); exact (by assumption : ∀ q ∈ _, q ∈ _) p hp)); (case d2 => assumption); (case I => assumption); (case dp => ((try simp only [depth_deeper]); (try dsimp only [Around.in1]); omega)); (case un => ((try simp only [units_deeper]); (try dsimp only [Around.in1]); omega)); (case sz => assumption); (case hE => first | passes_own | with_unfolding_all passes_own); k_whole); intro h₀' h' tk' rest' c' tx' tz' kT F' N' hmap B' X' T' hC' hc'; (simp only [List.cons_append] at N'); (have hof' := AdrOff.turn hmap (by assumption)); (have kTT := KtsTurn.trans (by assumption) kT); (try dsimp only [valOf] at F')))
local macro_rules | `(tactic| walk_at "call builtin:next") => `(tactic| (k_here; (with_reducible show wpAny _ _ (call (Value.builtin "next") [Value.ref _, _]) _ _ _); k_dflt (refine' nextOk_use ?I ?F ?N ?e ?hC ?hb ?ho ?hg ?X ?T ?B ?hf ?hk ?dp ?un ?_; (case F => k_asm); (case N => k_asm); (case e => (first | exact ends_nil _ _ | exact ends_cons (ends_nil _ _) | exact ends_cons (ends_cons (ends_nil _ _)) | exact ends_cons (ends_cons (ends_cons (ends_nil _ _))) | exact ends_cons (ends_cons (ends_cons (ends_cons (ends_nil _ _)))) | exact ends_cons (ends_cons (ends_cons (ends_cons (ends_cons (ends_nil _ _))))) | exact ends_cons (ends_cons (ends_cons (ends_cons (ends_cons (ends_cons (ends_nil _ _)))))) | exact ends_cons (ends_cons (ends_cons (ends_cons (ends_cons (ends_cons (ends_cons (ends_nil _ _))))))) | exact ends_cons (ends_cons (ends_cons (ends_cons (ends_cons (ends_cons (ends_cons (ends_cons (ends_nil _ _)))))))) | exact ends_cons (ends_cons (ends_cons (ends_cons (ends_cons (ends_cons (ends_cons (ends_cons (ends_cons (ends_nil _ _))))))))) | exact ends_cons (ends_cons (ends_cons (ends_cons (ends_cons (ends_cons (ends_cons (ends_cons (ends_cons (ends_cons (ends_nil _ _)))))))))) | exact ends_cons (ends_cons (ends_cons (ends_cons (ends_cons (ends_cons (ends_cons (ends_cons (ends_cons (ends_cons (ends_cons (ends_nil _ _))))))))))) | exact ends_cons (ends_cons (ends_cons (ends_cons (ends_cons (ends_cons (ends_cons (ends_cons (ends_cons (ends_cons (ends_cons (ends_cons (ends_nil _ _)))))))))))) | exact ends_cons (ends_cons (ends_cons (ends_cons (ends_cons (ends_cons (ends_cons (ends_cons (ends_cons (ends_cons (ends_cons (ends_cons (ends_cons (ends_nil _ _))))))))))))) | exact ends_cons (ends_cons (ends_cons (ends_cons (ends_cons (ends_cons (ends_cons (ends_cons (ends_cons (ends_cons (ends_cons (ends_cons (ends_cons (ends_cons (ends_nil _ _)))))))))))))) | exact ends_cons (ends_cons (ends_cons (ends_cons (ends_cons (ends_cons (ends_cons (ends_cons (ends_cons (ends_cons (ends_cons (ends_cons (ends_cons (ends_cons (ends_cons (ends_nil _ _))))))))))))))) | exact ends_cons (ends_cons (ends_cons (ends_cons (ends_cons (ends_cons (ends_cons (ends_cons (ends_cons (ends_cons (ends_cons (ends_cons (ends_cons (ends_cons (ends_cons (ends_cons (ends_nil _ _)))))))))))))))) | exact ends_cons (ends_cons (ends_cons (ends_cons (ends_cons (ends_cons (ends_cons (ends_cons (ends_cons (ends_cons (ends_cons (ends_cons (ends_cons (ends_cons (ends_cons (ends_cons (ends_cons (ends_nil _ _))))))))))))))))))); (case I => assumption); (case hC => assumption); (case hb => omega); (case ho => assumption); (case hg => exact fun p hp => (by (repeat apply List.mem_cons_of_mem); exact (by assumption : ∀ q ∈ _, q ∈ _) p hp)); (case X => k_asm); (case T => k_asm); (case B => assumption); (case hf => first | exact rfl | assumption); (case hk => first | exact rfl | assumption); (case dp => ((try simp only [depth_deeper]); (try dsimp only [Around.in1]); omega)); (case un => ((try simp only [units_deeper]); (try dsimp only [Around.in1]); omega)); k_whole); intro h₀' h' tk' rest' c' tx kT' F' N' hmap B' X' T' hC' hc'; (simp only [List.cons_append] at N'); (have hof' := AdrOff.turn hmap (by assumption))))
theorem next_sft_none {w : World} {s : Shared} {mg mb : Str → Option Value} {mean : ExcName → Option Value} {loose : List Str} {base base0 h₀ : Heap} {L : Addr} {m : Str → Option Value} {env : Env} {outer : List Env} {A₀ : Around} {dp un : Nat} {gd : Option (List Code)}
  {A H dH B dB R cA cX cc na n1 n2 t1 t2 t3 t4 t5 t6 st H' i c : Nat} {sz : Int} {doc ctv d : Value} {oA oX oc : Obj} {vs' : Array Value} {t' : Nat} {va : List Value} {nas : List Int} {G P rest : List (Addr × Obj)} {Ch : List Int → Nat → List (Addr × Obj) → Prop} {ds left : List Int}
  {Q : Value → Shared → Prop} {E : Value → Shared → Prop} 
  (X' : (Mine.hd.heap_39 w.params).In h₀) (T' : Top topProg loose mean mg mb h₀) (K' : Below A₀ base outer h₀) (WB : BaseOk (Mine.hd.heap_39 w.params) topProg loose mean mg mb base) (codeHd : CodeHd base0 56 52) (hf : env.frame = some L) (hke : env.scope.kind = .function) (hdp : dp + 10 * (i + 1) + 10 < 600) (hun : un + 100 * (i + 1) + 100 < 9000)
  (F' : Fr h₀ L s.heap m)
  (N' : News h₀ L s.heap ((A, W.listOf va.toArray na) :: (H, instObj 46 dH) :: (dH, dictOf [entF w t1 (.ref B), entB w t2 (.int sz st)] n1) :: (B, instObj 46 dB) :: (dB, dictOf [entF w t3 .none, entB w t4 (.int 8192 t5), entR w t6 (.ref R)] n2) :: (R, sftObj mg cX cA doc cc ctv) :: (cA, oA) :: (cX, oX) :: (cc, oc) :: (P ++ rest)))
  (hoff : OwnOff (P ++ rest) [A]) (hne2 : NeTo A [H, dH, B, dB, R, cA, cX, cc]) (hof : AdrOff (A :: H :: dH :: B :: dB :: R :: cA :: cX :: cc :: P.map (·.1)) (rest.map (·.1)))
  (hIa : IntsAre va nas) (hla : nas.length ≤ 1000)
  (d1 : oA.data = .cell (some (.ref A))) (d2 : oX.data = .cell (some (.ref H'))) (d3 : oc.data = .fields vs') (d4 : vs'[1]? = some (.str sftQual t'))
  (hI : NextOk w mg mb mean loose base G i Ch ds H') (hG : ∀ p ∈ G, p ∈ P) (hC : Ch left c rest) (hcl : c + left.length < 900) (hsz : 0 < sz) (hpos : ∀ x ∈ left, 0 < x)
  (hr : (nextOf (sz :: ds) left).1 = none)
  (hQ : ∀ h₀' h' tk' rest' c' (tx : Nat), KtsTurn (frs outer) h₀ h₀' → Fr h₀' L h' m → News h₀' L h' ((A, W.listOf (va.toArray.push (.int sz st)) (na + 1)) :: (H, instObj 46 dH) :: (dH, dictOf [entF w t1 (.ref B), entB w t2 (.int sz st)] n1) :: (B, instObj 46 dB) :: (dB, dictOf [entF w t3 .none, entB w t4 (.int 8192 t5), entR w t6 (.ref R)] n2) :: (R, sftObj mg cX cA doc cc ctv) :: (cA, oA) :: (cX, oX) :: (cc, oc) :: (P ++ rest')) → rest'.map (·.1) = rest.map (·.1) → Below A₀ base outer h₀' → (Mine.hd.heap_39 w.params).In h₀' → Top topProg loose mean mg mb h₀' → Ch (nextOf (sz :: ds) left).2 c' rest' → c' + (nextOf (sz :: ds) left).2.length = c + left.length + gain none → Q d { s with heap := h', toks := tk' }) :
  wpAny (model PySem.Challenge.rw_dn0266_02.row.prog w) ⟨none, dp, some (env :: outer), gd, un⟩ (call (.builtin "next") [.ref H, d]) Q E s := by
  simp only [NeTo, and_true] at hne2
  obtain ⟨b0, b1, b2, b3, b4, b5, b6, b7⟩ := hne2
  obtain ⟨hp, gs, dr, tk, os⟩ := s
  dsimp only at F' N'
  w_top off
  revert X'; k_fill; intro X'
  k_steps
  all_goals ((try dsimp only); exact hQ _ _ _ _ _ 0 (by assumption) (by assumption) (by assumption) (by first | assumption | exact Eq.trans (by assumption) (by assumption)) (by assumption) (by assumption) (by assumption) (by assumption) (by assumption))
theorem next_sft_some {w : World} {s : Shared} {mg mb : Str → Option Value} {mean : ExcName → Option Value} {loose : List Str} {base base0 h₀ : Heap} {L : Addr} {m : Str → Option Value} {env : Env} {outer : List Env} {A₀ : Around} {dp un : Nat} {gd : Option (List Code)}
  {A H dH B dB R cA cX cc na n1 n2 t1 t2 t3 t4 t5 t6 st H' i c : Nat} {sz : Int} {doc ctv d : Value} {oA oX oc : Obj} {vs' : Array Value} {t' : Nat} {va : List Value} {nas : List Int} {G P rest : List (Addr × Obj)} {Ch : List Int → Nat → List (Addr × Obj) → Prop} {ds left : List Int}
  {Q : Value → Shared → Prop} {E : Value → Shared → Prop} {x : Int}
  (X' : (Mine.hd.heap_39 w.params).In h₀) (T' : Top topProg loose mean mg mb h₀) (K' : Below A₀ base outer h₀) (WB : BaseOk (Mine.hd.heap_39 w.params) topProg loose mean mg mb base) (codeHd : CodeHd base0 56 52) (hf : env.frame = some L) (hke : env.scope.kind = .function) (hdp : dp + 10 * (i + 1) + 10 < 600) (hun : un + 100 * (i + 1) + 100 < 9000)
  (F' : Fr h₀ L s.heap m)
  (N' : News h₀ L s.heap ((A, W.listOf va.toArray na) :: (H, instObj 46 dH) :: (dH, dictOf [entF w t1 (.ref B), entB w t2 (.int sz st)] n1) :: (B, instObj 46 dB) :: (dB, dictOf [entF w t3 .none, entB w t4 (.int 8192 t5), entR w t6 (.ref R)] n2) :: (R, sftObj mg cX cA doc cc ctv) :: (cA, oA) :: (cX, oX) :: (cc, oc) :: (P ++ rest)))
  (hoff : OwnOff (P ++ rest) [A]) (hne2 : NeTo A [H, dH, B, dB, R, cA, cX, cc]) (hof : AdrOff (A :: H :: dH :: B :: dB :: R :: cA :: cX :: cc :: P.map (·.1)) (rest.map (·.1)))
  (hIa : IntsAre va nas) (hla : nas.length ≤ 1000)
  (d1 : oA.data = .cell (some (.ref A))) (d2 : oX.data = .cell (some (.ref H'))) (d3 : oc.data = .fields vs') (d4 : vs'[1]? = some (.str sftQual t'))
  (hI : NextOk w mg mb mean loose base G i Ch ds H') (hG : ∀ p ∈ G, p ∈ P) (hC : Ch left c rest) (hcl : c + left.length < 900) (hsz : 0 < sz) (hpos : ∀ x ∈ left, 0 < x)
  (hx : 0 < x) (hr : (nextOf (sz :: ds) left).1 = some x)
  (hQ : ∀ h₀' h' tk' rest' c' (tx : Nat), KtsTurn (frs outer) h₀ h₀' → Fr h₀' L h' m → News h₀' L h' ((A, W.listOf (va.toArray.push (.int sz st)) (na + 1)) :: (H, instObj 46 dH) :: (dH, dictOf [entF w t1 (.ref B), entB w t2 (.int sz st)] n1) :: (B, instObj 46 dB) :: (dB, dictOf [entF w t3 .none, entB w t4 (.int 8192 t5), entR w t6 (.ref R)] n2) :: (R, sftObj mg cX cA doc cc ctv) :: (cA, oA) :: (cX, oX) :: (cc, oc) :: (P ++ rest')) → rest'.map (·.1) = rest.map (·.1) → Below A₀ base outer h₀' → (Mine.hd.heap_39 w.params).In h₀' → Top topProg loose mean mg mb h₀' → Ch (nextOf (sz :: ds) left).2 c' rest' → c' + (nextOf (sz :: ds) left).2.length = c + left.length + gain (some x) → Q (.int x tx) { s with heap := h', toks := tk' }) :
  wpAny (model PySem.Challenge.rw_dn0266_02.row.prog w) ⟨none, dp, some (env :: outer), gd, un⟩ (call (.builtin "next") [.ref H, d]) Q E s := by
  simp only [NeTo, and_true] at hne2
  obtain ⟨b0, b1, b2, b3, b4, b5, b6, b7⟩ := hne2
  obtain ⟨hp, gs, dr, tk, os⟩ := s
  dsimp only at F' N'
  w_top off
  revert X'; k_fill; intro X'
  k_steps
  all_goals ((try dsimp only); exact hQ _ _ _ _ _ _ (by assumption) (by assumption) (by assumption) (by first | assumption | exact Eq.trans (by assumption) (by assumption)) (by assumption) (by assumption) (by assumption) (by assumption) (by assumption))
end Mine
namespace Mine
open PySem PySem.W PySem.Calls PyProof.Rows
set_option maxRecDepth 100000
set_option maxHeartbeats 3000000
structure HR where
  (A H dH B dB R cA cX cc n1 n2 t1 t2 t3 t4 t5 t6 st t' : Nat)
  sz : Int
  (doc ctv : Value)
  (oA oX oc : Obj)
  vs' : Array Value
abbrev HR.adr (r : HR) : List Addr := [r.H, r.dH, r.B, r.dB, r.R, r.cA, r.cX]
abbrev fixOf (w : World) (r : HR) (oR : Obj) : List (Addr × Obj) := [(r.H, instObj 46 r.dH), (r.dH, dictOf [entF w r.t1 (.ref r.B), entB w r.t2 (.int r.sz r.st)] r.n1), (r.B, instObj 46 r.dB), (r.dB, dictOf [entF w r.t3 .none, entB w r.t4 (.int 8192 r.t5), entR w r.t6 (.ref r.R)] r.n2), (r.R, oR), (r.cA, r.oA), (r.cX, r.oX)]
structure HR.Ok (G : List (Addr × Obj)) (r : HR) (x : Addr) (qual : Str) : Prop where
  cc : (r.cc, r.oc) ∈ G
  ne : NeTo r.A r.adr
  d1 : r.oA.data = .cell (some (.ref r.A))
  d2 : r.oX.data = .cell (some (.ref x))
  d3 : r.oc.data = .fields r.vs'
  d4 : r.vs'[1]? = some (.str qual r.t')
  pos : 0 < r.sz
def AskIs (r : HR) (va : List Value) (nas : List Int) : Prop := IntsAre va nas ∧ ∀ x ∈ nas, x = r.sz
def ChS (w : World) (mg : Str → Option Value) (LF : Addr) (r : HR) (left : List Int) (c : Nat) (rest : List (Addr × Obj)) : Prop :=
  ∃ vl nl va na nas, rest = (LF, W.listOf vl.toArray nl) :: (r.A, W.listOf va.toArray na) :: fixOf w r (srcObj mg r.cX r.cA r.doc r.cc r.ctv) ∧ IntsAre vl left ∧ AskIs r va nas ∧ nas.length = c ∧ ∀ x ∈ left, 0 < x
def ChN (w : World) (mg : Str → Option Value) (Ch : List Int → Nat → List (Addr × Obj) → Prop) (r : HR) (left : List Int) (c : Nat) (rest : List (Addr × Obj)) : Prop :=
  ∃ va na nas rest₀, rest = (r.A, W.listOf va.toArray na) :: (fixOf w r (sftObj mg r.cX r.cA r.doc r.cc r.ctv) ++ rest₀) ∧ Ch left c rest₀ ∧ AskIs r va nas ∧ nas.length ≤ c ∧ AdrOff (r.A :: r.adr) (rest₀.map (·.1)) ∧ ∀ x ∈ left, 0 < x
theorem NewsSub {h₀ h : Heap} {L : Addr} {l l' : List (Addr × Obj)} (N : News h₀ L h l) (hs : ∀ p ∈ l', p ∈ l) : News h₀ L h l' := fun p hp => N p (hs p hp)
theorem mem_swap {α : Type} {a b : List α} {p : α} (h : p ∈ a ++ b) : p ∈ b ++ a := List.mem_append.mpr ((List.mem_append.mp h).symm)
theorem mem_swap2 {α : Type} {a b : List α} {q p : α} (h : p ∈ a ++ b) : p ∈ b ++ (q :: a) := List.mem_append.mpr ((List.mem_append.mp h).symm.imp id fun x => .tail _ x)
theorem AskIs.push {r : HR} {va : List Value} {nas : List Int} (h : AskIs r va nas) (t : Nat) : AskIs r (va ++ [Value.int r.sz t]) (nas ++ [r.sz]) :=
  ⟨h.1.append (.cons _ _ .nil), fun x hx => (List.mem_append.mp hx).elim (h.2 x) fun e => List.mem_singleton.mp e⟩
theorem push_toArray {α : Type} (l : List α) (x : α) : l.toArray.push x = (l ++ [x]).toArray := by simp
section
variable {w : World} {mg mb : Str → Option Value} {mean : ExcName → Option Value} {loose : List Str} {base base0 : Heap} {G : List (Addr × Obj)}
theorem nextOk_src {LF : Addr} {r : HR} (WB : BaseOk (Mine.hd.heap_39 w.params) topProg loose mean mg mb base) (codeHd : CodeHd base0 56 52) (ok : r.Ok G LF srcQual) (hLF : NeTo LF (r.A :: r.adr)) :
    NextOk w mg mb mean loose base G 0 (ChS w mg LF r) [] r.H := by
  intro left c rest hC hb s h₀ L m env outer A₀ dp un gd d Q E P F N ho hG X T B hf hke hdp hun k
  obtain ⟨vl, nl, va, na, nas, rfl, hl, ha, rfl, hp⟩ := hC
  have hoff : OwnOff P [LF, r.A] := fun p hp b hb => ho p.1 (List.mem_map_of_mem hp) b (by
    rcases List.mem_cons.mp hb with rfl | hb
    · exact List.Mem.head _
    · rw [List.mem_singleton.mp hb]; exact .tail _ (.head _))
  have hccP := hG _ ok.cc
  have hcc : ∀ y ∈ List.map (·.1) ((LF, W.listOf vl.toArray nl) :: (r.A, W.listOf va.toArray na) :: fixOf w r (srcObj mg r.cX r.cA r.doc r.cc r.ctv)), r.cc ≠ y := fun y hy => ho _ (List.mem_map_of_mem hccP) y hy
  have neLF : NeTo LF (r.A :: [r.H, r.dH, r.B, r.dB, r.R, r.cA, r.cX, r.cc]) := by
    simp only [NeTo] at hLF ⊢
    exact ⟨hLF.1, hLF.2.1, hLF.2.2.1, hLF.2.2.2.1, hLF.2.2.2.2.1, hLF.2.2.2.2.2.1, hLF.2.2.2.2.2.2.1, hLF.2.2.2.2.2.2.2.1, fun e => hcc LF (.head _) e.symm, trivial⟩
  have neA : NeTo r.A [r.H, r.dH, r.B, r.dB, r.R, r.cA, r.cX, r.cc] := by
    have h := ok.ne
    simp only [NeTo] at h ⊢
    exact ⟨h.1, h.2.1, h.2.2.1, h.2.2.2.1, h.2.2.2.2.1, h.2.2.2.2.2.1, h.2.2.2.2.2.2.1, fun e => hcc r.A (.tail _ (.head _)) e.symm, trivial⟩
  have N1 := NewsSub (l' := ((LF, W.listOf vl.toArray nl) :: (r.A, W.listOf va.toArray na) :: fixOf w r (srcObj mg r.cX r.cA r.doc r.cc r.ctv)) ++ ((r.cc, r.oc) :: P)) N (fun p hp => by
    rcases List.mem_append.mp hp with hp | hp
    · exact List.mem_append_right _ hp
    · rcases List.mem_cons.mp hp with rfl | hp
      · exact List.mem_append_left _ hccP
      · exact List.mem_append_left _ hp)
  have hla : nas.length ≤ 1000 := by omega
  cases left with
  | nil =>
    obtain rfl := IntsAre.nil_inv hl
    refine next_src_nil (vl := []) X T B WB codeHd hf hke (by omega) (by omega) F N1 hoff neLF neA ha.1 hla ok.d1 ok.d2 ok.d3 ok.d4 ?_
    intro h₀' h' tk' ta nl' kT F' B' X' T' N'
    rw [push_toArray] at N'
    refine k h₀' h' tk' ((LF, W.listOf ([] : List Value).toArray nl') :: (r.A, W.listOf (va ++ [Value.int r.sz ta]).toArray (na + 1)) :: fixOf w r (srcObj mg r.cX r.cA r.doc r.cc r.ctv)) (nas.length + 1) 0 kT F' (NewsSub N' (fun p hp => ?_)) rfl B' X' T'
      ⟨[], nl', _, na + 1, _, rfl, .nil, ha.push ta, by simp, fun _ z => nomatch z⟩ rfl
    exact mem_swap2 (a := P) (b := (LF, W.listOf ([] : List Value).toArray nl') :: (r.A, W.listOf (va ++ [Value.int r.sz ta]).toArray (na + 1)) :: fixOf w r (srcObj mg r.cX r.cA r.doc r.cc r.ctv)) hp
  | cons x left =>
    obtain ⟨tx, vl', rfl, hl'⟩ := IntsAre.cons_inv hl
    have e1 : nextOf [] (x :: left) = (some x, left) := rfl
    rw [e1] at k
    have hll : left.length ≤ 1000 := by simp at hb; omega
    refine next_src_cons (vl := []) X T B WB codeHd hf hke (by omega) (by omega) F N1 hoff neLF neA ha.1 hla ok.d1 ok.d2 ok.d3 ok.d4 (hp x (.head _)) hl' hll ?_
    intro h₀' h' tk' ta nl' kT F' B' X' T' N'
    rw [push_toArray] at N'
    refine k h₀' h' tk' ((LF, W.listOf vl'.toArray nl') :: (r.A, W.listOf (va ++ [Value.int r.sz ta]).toArray (na + 1)) :: fixOf w r (srcObj mg r.cX r.cA r.doc r.cc r.ctv)) (nas.length + 1) tx kT F' (NewsSub N' (fun p hp => ?_)) rfl B' X' T'
      ⟨vl', nl', _, na + 1, _, rfl, hl', ha.push ta, by simp, fun y hy => hp y (.tail _ hy)⟩ (by simp [gain]; omega)
    exact mem_swap2 (a := P) (b := (LF, W.listOf vl'.toArray nl') :: (r.A, W.listOf (va ++ [Value.int r.sz ta]).toArray (na + 1)) :: fixOf w r (srcObj mg r.cX r.cA r.doc r.cc r.ctv)) hp
theorem nextOk_sft {i H' : Nat} {Ch : List Int → Nat → List (Addr × Obj) → Prop} {ds : List Int} {r : HR} (WB : BaseOk (Mine.hd.heap_39 w.params) topProg loose mean mg mb base) (codeHd : CodeHd base0 56 52) (ok : r.Ok G H' sftQual)
    (hI : NextOk w mg mb mean loose base G i Ch ds H') : NextOk w mg mb mean loose base G (i + 1) (ChN w mg Ch r) (r.sz :: ds) r.H := by
  intro left c rest hC hb s h₀ L m env outer A₀ dp un gd d Q E P F N ho hG X T B hf hke hdp hun k
  obtain ⟨va, na, nas, rest₀, rfl, hC₀, ha, hnc, hao, hp⟩ := hC
  have inA : r.A ∈ List.map (·.1) ((r.A, W.listOf va.toArray na) :: (fixOf w r (sftObj mg r.cX r.cA r.doc r.cc r.ctv) ++ rest₀)) := List.Mem.head _
  have hoff : OwnOff (P ++ rest₀) [r.A] := fun p hp b hb => by
    rw [List.mem_singleton.mp hb]
    rcases List.mem_append.mp hp with hp | hp
    · exact ho p.1 (List.mem_map_of_mem hp) _ inA
    · exact fun e => hao r.A (.head _) p.1 (List.mem_map_of_mem hp) e.symm
  have mv : ∀ (va : List Value) (na : Nat) (rest₀ : List (Addr × Obj)) (p : Addr × Obj), p ∈ ((r.A, W.listOf va.toArray na) :: fixOf w r (sftObj mg r.cX r.cA r.doc r.cc r.ctv)) ++ ((r.cc, r.oc) :: (P ++ rest₀)) ↔ p ∈ P ++ ((r.A, W.listOf va.toArray na) :: (fixOf w r (sftObj mg r.cX r.cA r.doc r.cc r.ctv) ++ rest₀)) := by
    intro va na rest₀ p
    have hccP := hG _ ok.cc
    constructor
    · intro hp
      rcases List.mem_append.mp hp with hp | hp
      · refine List.mem_append_right _ ?_
        exact (List.mem_append.mpr (.inl hp) : p ∈ ((r.A, W.listOf va.toArray na) :: fixOf w r (sftObj mg r.cX r.cA r.doc r.cc r.ctv)) ++ rest₀)
      · rcases List.mem_cons.mp hp with rfl | hp
        · exact List.mem_append_left _ hccP
        · rcases List.mem_append.mp hp with hp | hp
          · exact List.mem_append_left _ hp
          · refine List.mem_append_right _ ?_
            exact (List.mem_append.mpr (.inr hp) : p ∈ ((r.A, W.listOf va.toArray na) :: fixOf w r (sftObj mg r.cX r.cA r.doc r.cc r.ctv)) ++ rest₀)
    · intro hp
      rcases List.mem_append.mp hp with hp | hp
      · exact List.mem_append_right _ (.tail _ (List.mem_append_left _ hp))
      · rcases List.mem_append.mp (show p ∈ ((r.A, W.listOf va.toArray na) :: fixOf w r (sftObj mg r.cX r.cA r.doc r.cc r.ctv)) ++ rest₀ from hp) with hp | hp
        · exact List.mem_append_left _ hp
        · exact List.mem_append_right _ (.tail _ (List.mem_append_right _ hp))
  have hccP := hG _ ok.cc
  have neA : NeTo r.A [r.H, r.dH, r.B, r.dB, r.R, r.cA, r.cX, r.cc] := by
    have h := ok.ne
    simp only [NeTo] at h ⊢
    exact ⟨h.1, h.2.1, h.2.2.1, h.2.2.2.1, h.2.2.2.2.1, h.2.2.2.2.2.1, h.2.2.2.2.2.2.1, fun e => ho _ (List.mem_map_of_mem hccP) r.A inA e.symm, trivial⟩
  have hof : AdrOff (r.A :: r.H :: r.dH :: r.B :: r.dB :: r.R :: r.cA :: r.cX :: r.cc :: P.map (·.1)) (rest₀.map (·.1)) := by
    intro x hx y hy
    have inR : ∀ y ∈ rest₀.map (·.1), y ∈ List.map (·.1) ((r.A, W.listOf va.toArray na) :: (fixOf w r (sftObj mg r.cX r.cA r.doc r.cc r.ctv) ++ rest₀)) := fun y hy => by
      rw [List.map_cons, List.map_append]
      exact .tail _ (List.mem_append_right _ hy)
    rcases List.mem_append.mp (show x ∈ (r.A :: r.adr) ++ (r.cc :: P.map (·.1)) from hx) with hx | hx
    · exact hao x hx y hy
    · rcases List.mem_cons.mp hx with rfl | hx
      · exact ho _ (List.mem_map_of_mem hccP) y (inR y hy)
      · exact ho x hx y (inR y hy)
  have N1 := NewsSub N (fun p hp => (mv va na rest₀ p).mp hp)
  have hla : nas.length ≤ 1000 := by omega
  have fin : ∀ {c' : Nat} {rest' : List (Addr × Obj)}, c' + (nextOf (r.sz :: ds) left).2.length = c + left.length + gain (nextOf (r.sz :: ds) left).1 → (nas ++ [r.sz]).length ≤ c' := by
    intro c' rest' hc'
    have h1 := nextOf_len (r.sz :: ds) left
    rw [List.length_append, List.length_singleton]
    cases hq : (nextOf (r.sz :: ds) left).1 with
    | none => rw [hq] at h1 hc'; simp only [gain] at hc' h1; omega
    | some _ => rw [hq] at h1 hc'; simp only [gain] at hc' h1; omega
  have hpos2 := nextOf_mem (r.sz :: ds) left hp
  cases hr : (nextOf (r.sz :: ds) left).1 with
  | none =>
    rw [hr] at k
    refine next_sft_none (P := P) (rest := rest₀) X T B WB codeHd hf hke hdp hun F N1 hoff neA hof ha.1 hla ok.d1 ok.d2 ok.d3 ok.d4 hI hG hC₀ hb ok.pos hp hr ?_
    intro h₀' h' tk' rest' c' _ kT F' N' hmap B' X' T' hC' hc'
    rw [push_toArray] at N'
    refine k h₀' h' tk' ((r.A, W.listOf (va ++ [Value.int r.sz r.st]).toArray (na + 1)) :: (fixOf w r (sftObj mg r.cX r.cA r.doc r.cc r.ctv) ++ rest')) c' 0 kT F' (NewsSub N' (fun p hp => (mv _ _ rest' p).mpr hp)) ?_ B' X' T'
      ⟨_, _, _, rest', rfl, hC', ha.push _, fin (rest' := rest') (by rw [hr]; exact hc'), hmap ▸ hao, hpos2.2⟩ hc'
    rw [List.map_cons, List.map_cons, List.map_append, List.map_append, hmap]
  | some x =>
    rw [hr] at k
    refine next_sft_some (P := P) (rest := rest₀) X T B WB codeHd hf hke hdp hun F N1 hoff neA hof ha.1 hla ok.d1 ok.d2 ok.d3 ok.d4 hI hG hC₀ hb ok.pos hp (hpos2.1 x hr) hr ?_
    intro h₀' h' tk' rest' c' tx kT F' N' hmap B' X' T' hC' hc'
    rw [push_toArray] at N'
    refine k h₀' h' tk' ((r.A, W.listOf (va ++ [Value.int r.sz r.st]).toArray (na + 1)) :: (fixOf w r (sftObj mg r.cX r.cA r.doc r.cc r.ctv) ++ rest')) c' tx kT F' (NewsSub N' (fun p hp => (mv _ _ rest' p).mpr hp)) ?_ B' X' T'
      ⟨_, _, _, rest', rfl, hC', ha.push _, fin (rest' := rest') (by rw [hr]; exact hc'), hmap ▸ hao, hpos2.2⟩ hc'
    rw [List.map_cons, List.map_cons, List.map_append, List.map_append, hmap]
end
end Mine
namespace Mine
open PySem PySem.W PySem.Calls PyProof.Rows
set_option maxRecDepth 100000
set_option maxHeartbeats 3000000
def ChL (w : World) (mg : Str → Option Value) (LF : Addr) (r0 : HR) : List HR → List Int → Nat → List (Addr × Obj) → Prop
  | [] => ChS w mg LF r0
  | r :: rs => ChN w mg (ChL w mg LF r0 rs) r
def hTop (r0 : HR) : List HR → HR
  | [] => r0
  | r :: _ => r
def OkL (G : List (Addr × Obj)) (LF : Addr) (r0 : HR) : List HR → Prop
  | [] => r0.Ok G LF srcQual ∧ NeTo LF (r0.A :: r0.adr)
  | r :: rs => r.Ok G (hTop r0 rs).H sftQual ∧ OkL G LF r0 rs
theorem OkL.tail {G : List (Addr × Obj)} {LF : Addr} {r0 : HR} : ∀ {us vs : List HR}, OkL G LF r0 (us ++ vs) → OkL G LF r0 vs
  | [], _, h => h
  | _ :: us, vs, h => OkL.tail (us := us) (vs := vs) h.2
section
variable {w : World} {mg mb : Str → Option Value} {mean : ExcName → Option Value} {loose : List Str} {base base0 : Heap} {LF : Addr} {r0 : HR} {G : List (Addr × Obj)}
theorem nextOk_L (WB : BaseOk (Mine.hd.heap_39 w.params) topProg loose mean mg mb base) (codeHd : CodeHd base0 56 52) : ∀ {rs : List HR}, OkL G LF r0 rs → NextOk w mg mb mean loose base G rs.length (ChL w mg LF r0 rs) (rs.map (·.sz)) (hTop r0 rs).H
  | [], h => nextOk_src WB codeHd h.1 h.2
  | _ :: _, h => nextOk_sft WB codeHd h.1 (nextOk_L WB codeHd h.2)
theorem ChL.pos : ∀ {rs : List HR} {left : List Int} {c : Nat} {rest : List (Addr × Obj)}, ChL w mg LF r0 rs left c rest → ∀ x ∈ left, 0 < x
  | [], _, _, _, ⟨_, _, _, _, _, _, _, _, _, h⟩ => h
  | _ :: _, _, _, _, ⟨_, _, _, _, _, _, _, _, _, h⟩ => h
theorem ChL.cut : ∀ {us vs : List HR} {left : List Int} {c : Nat} {rest : List (Addr × Obj)}, ChL w mg LF r0 (us ++ vs) left c rest →
    ∃ up rv, rest = up ++ rv ∧ ChL w mg LF r0 vs left c rv ∧ AdrOff (up.map (·.1)) (rv.map (·.1)) ∧ ∀ c' rv', c ≤ c' → ChL w mg LF r0 vs left c' rv' → rv'.map (·.1) = rv.map (·.1) → ChL w mg LF r0 (us ++ vs) left c' (up ++ rv')
  | [], vs, left, c, rest, h => ⟨[], rest, rfl, h, (fun _ z => by cases z), fun _ _ _ h' _ => h'⟩
  | r :: us, vs, left, c, rest, h => by
    obtain ⟨va, na, nas, rest₀, rfl, h₀, ha, hn, ho, hp⟩ := h
    obtain ⟨up, rv, rfl, hv, hov, k⟩ := ChL.cut h₀
    refine ⟨(r.A, W.listOf va.toArray na) :: (fixOf w r (sftObj mg r.cX r.cA r.doc r.cc r.ctv) ++ up), rv, by simp, hv, ?_, fun c' rv' hc hv' hm => ?_⟩
    · intro x hx y hy
      have hy' : y ∈ List.map (·.1) (up ++ rv) := by rw [List.map_append]; exact List.mem_append_right _ hy
      rcases List.mem_append.mp (show x ∈ (r.A :: r.adr) ++ up.map (·.1) from hx) with hx | hx
      · exact ho x hx y hy'
      · exact hov x hx y hy
    · refine ⟨va, na, nas, up ++ rv', by simp, k c' rv' hc hv' hm, ha, Nat.le_trans hn hc, ?_, hp⟩
      rw [List.map_append, hm, ← List.map_append]
      exact ho
theorem ChL.ask : ∀ {rs : List HR} {left : List Int} {c : Nat} {rest : List (Addr × Obj)}, ChL w mg LF r0 rs left c rest → ∃ va na nas, ((hTop r0 rs).A, W.listOf va.toArray na) ∈ rest ∧ AskIs (hTop r0 rs) va nas ∧ nas.length ≤ c ∧ (rs = [] → nas.length = c)
  | [], _, _, _, ⟨_, _, va, na, nas, e, _, ha, hc, _⟩ => ⟨va, na, nas, by rw [e]; exact .tail _ (.head _), ha, Nat.le_of_eq hc, fun _ => hc⟩
  | _ :: _, _, _, _, ⟨va, na, nas, _, e, _, ha, hc, _⟩ => ⟨va, na, nas, by rw [e]; exact .head _, ha, hc, fun z => by cases z⟩
end
end Mine
namespace Mine
open PySem PySem.W PySem.Calls PyProof.Rows
set_option maxRecDepth 100000
set_option maxHeartbeats 3000000
def hasDiv (ds : List Int) (x : Int) : Bool := ds.any (fun d => x % d == 0)
def sift (ds : List Int) : List Int → List Int
  | [] => []
  | x :: r => if hasDiv ds x then sift ds r else x :: sift (x :: ds) r
def dueL (pre : List Int) : List Int → List Int
  | [] => []
  | x :: r => if hasDiv pre x then dueL (pre ++ [x]) r else x :: dueL (pre ++ [x]) r
def restOf (ds : List Int) (res : Option Int) (left : List Int) : List Int := match res with | none => [] | some x => x :: sift (x :: ds) left
theorem sift_next (ds : List Int) : ∀ left, sift ds left = restOf ds (nextOf ds left).1 (nextOf ds left).2
  | [] => rfl
  | x :: r => by
    unfold sift nextOf hasDiv
    by_cases h : ds.any (fun d => x % d == 0) = true
    · rw [if_pos h, if_pos h]; exact sift_next ds r
    · rw [if_neg h, if_neg h]; rfl
theorem sift_len : ∀ (left ds : List Int), (sift ds left).length ≤ left.length
  | [], _ => Nat.le_refl _
  | x :: r, ds => by
    unfold sift
    by_cases h : hasDiv ds x = true
    · rw [if_pos h]; exact Nat.le_succ_of_le (sift_len r ds)
    · rw [if_neg h]; exact Nat.succ_le_succ (sift_len r _)
theorem hasDiv_iff (ds : List Int) (x : Int) : hasDiv ds x = true ↔ ∃ d ∈ ds, d ∣ x := by
  unfold hasDiv
  rw [List.any_eq_true]
  constructor
  · rintro ⟨d, hd, h⟩; exact ⟨d, hd, Int.dvd_of_emod_eq_zero (beq_iff_eq.mp h)⟩
  · rintro ⟨d, hd, h⟩; exact ⟨d, hd, beq_iff_eq.mpr (Int.emod_eq_zero_of_dvd h)⟩
theorem sift_due : ∀ (rest pre ds : List Int), (∀ d ∈ ds, d ∈ pre) → (∀ m ∈ pre, ∃ d ∈ ds, d ∣ m) → sift ds rest = dueL pre rest
  | [], _, _, _, _ => rfl
  | x :: r, pre, ds, h1, h2 => by
    unfold sift dueL
    have e : hasDiv ds x = hasDiv pre x := by
      rw [Bool.eq_iff_iff, hasDiv_iff, hasDiv_iff]
      constructor
      · rintro ⟨d, hd, h⟩; exact ⟨d, h1 d hd, h⟩
      · rintro ⟨m, hm, h⟩
        obtain ⟨d, hd, h'⟩ := h2 m hm
        exact ⟨d, hd, Int.dvd_trans h' h⟩
    rw [e]
    by_cases h : hasDiv pre x = true
    · rw [if_pos h, if_pos h]
      refine sift_due r _ _ (fun d hd => List.mem_append_left _ (h1 d hd)) fun m hm => ?_
      rcases List.mem_append.mp hm with hm | hm
      · exact h2 m hm
      · rw [List.mem_singleton.mp hm]
        exact (hasDiv_iff ds x).mp (e ▸ h)
    · rw [if_neg h, if_neg h]
      congr 1
      refine sift_due r _ _ (fun d hd => ?_) fun m hm => ?_
      · rcases List.mem_cons.mp hd with rfl | hd
        · exact List.mem_append_right _ (.head _)
        · exact List.mem_append_left _ (h1 d hd)
      · rcases List.mem_append.mp hm with hm | hm
        · obtain ⟨d, hd, h'⟩ := h2 m hm
          exact ⟨d, .tail _ hd, h'⟩
        · rw [List.mem_singleton.mp hm]
          exact ⟨x, .head _, Int.dvd_refl x⟩
theorem sift_all (row : List Int) : sift [] row = dueL [] row := sift_due row [] [] (fun _ h => nomatch h) (fun _ h => nomatch h)
theorem dueL_append : ∀ (a b pre : List Int), dueL pre (a ++ b) = dueL pre a ++ dueL (pre ++ a) b
  | [], b, pre => by simp [dueL]
  | x :: a, b, pre => by
    have e1 : ∀ l, dueL pre (x :: l) = if hasDiv pre x then dueL (pre ++ [x]) l else x :: dueL (pre ++ [x]) l := fun _ => rfl
    show dueL pre (x :: (a ++ b)) = _
    rw [e1, e1]
    by_cases h : hasDiv pre x = true
    · rw [if_pos h, if_pos h, dueL_append a b (pre ++ [x])]; simp
    · rw [if_neg h, if_neg h, dueL_append a b (pre ++ [x])]; simp
def dueK (row : List Int) (k : Nat) : List Int := dueL [] (row.take k)
theorem dueK_succ {row : List Int} {k : Nat} {x : Int} (h : row[k]? = some x) : dueK row (k + 1) = if hasDiv (row.take k) x then dueK row k else dueK row k ++ [x] := by
  unfold dueK
  have : row.take (k + 1) = row.take k ++ [x] := by
    rw [List.take_add_one, h]; rfl
  rw [this, dueL_append]
  simp only [List.nil_append]
  unfold dueL
  by_cases h2 : hasDiv (row.take k) x = true
  · rw [if_pos h2, if_pos h2]; simp [dueL]
  · rw [if_neg h2, if_neg h2]; simp [dueL]
end Mine
namespace Mine
open PySem PySem.W PySem.Calls PyProof.Rows
set_option maxRecDepth 100000
set_option maxHeartbeats 4000000
section
variable {prog : Program} {w : World} {A : Around} {E : Value → Shared → Prop} {s : Shared} {env : Env} {h₀ : Heap} {body : List Stmt} {Q : Flow → Shared → Prop} {x : Str} {px : Pos}
def LtPost (h₀ : Heap) (L : Addr) (J : (Str → Option Value) → List (Addr × Obj) → Prop) (I : Addr) (oI : Obj) (s₁ : Shared) (f : Flow) (s₂ : Shared) : Prop :=
  f = .next ∧ LpEnd h₀ L J I oI s₁ s₂
theorem range_invT {r : Addr} {a₀ b₀ : Int} {t₀ u₀ v₀ : Tok} {n : Nat} {m₀ : Str → Option Value} {news : List (Addr × Obj)} (J : Nat → (Str → Option Value) → List (Addr × Obj) → Prop)
    (hh : A.handled = none) (hr : IsRange s.heap r a₀ b₀ 1 t₀ u₀ v₀) (hsmall : Builtin.Range.small a₀ b₀ 1 = true) (hn : Builtin.Range.rangeSize a₀ b₀ 1 = (n : Int)) (F : Fr h₀ env.locals s.heap m₀) (N : News h₀ env.locals s.heap news) (hj : J 0 m₀ news)
    (turn : ∀ i t m₁ nx (s₁ : Shared) I oI, i < n → J i m₁ nx → (∀ p ∈ nx, p.1 ≠ I) → Fr h₀ env.locals s₁.heap m₁ → News h₀ env.locals s₁.heap ((I, oI) :: nx) →
      wpAny (model prog w) A (assign (.Name x px) env (.int (a₀ + i) t)) (fun _ s₃ => wpAny (model prog w) A (execs body env) (LtPost h₀ env.locals (J (i + 1)) I oI s₁) E s₃) E s₁)
    (done : ∀ m₁ nx h tk, J n m₁ nx → Fr h₀ env.locals h m₁ → News h₀ env.locals h nx → Q .next { s with heap := h, toks := tk }) :
    wpAny (model prog w) A (pyIter (.ref r)) (fun it s₂ => LoopAtT prog w A h₀ env (.Name x px) body Q E it s₂) E s := by
  refine wpAny_pyIter_range hr hsmall ?_
  have W : Walks prog w A s.heap.objs.size [s.heap.objs.size] [s.heap.objs.size] n (fun i v => i < n ∧ ∃ t, v = .int (a₀ + i * 1) t)
      (fun i h => IsRangeIter h s.heap.objs.size (a₀ + (i : Nat) * 1) ((n : Int) - (i : Nat)) 1) := (Walks.range hh _ a₀ 1 n).bound
  have hwI : ∀ b ∈ [s.heap.objs.size], b = s.heap.objs.size := fun b hb => List.mem_singleton.mp hb
  have hfp : ∀ b ∈ [s.heap.objs.size], b = s.heap.objs.size ∨ ∃ q, h₀.get? b = some q := fun b hb => .inl (List.mem_singleton.mp hb)
  have hI0 := next_is_new F
  refine ⟨s.heap.objs.size, [s.heap.objs.size], [s.heap.objs.size], n, _, _, m₀, news, J, rfl, W, ?_, (fun b hb => by rw [hwI b hb]; exact hI0), ?_, (by show IsRangeIter _ _ _ _ _; rw [hn]; simpa using Heap.get?_push_size _ rfl), (F.push _), (fun p hp => ⟨Heap.get?_push_of_some _ (N p hp).1, (N p hp).2⟩), ?_, hj, ?_, ?_⟩
  · intro hm
    exact absurd F.ns.lt ((List.mem_singleton.mp hm) ▸ Nat.lt_irrefl _)
  · intro p hp hI
    exact absurd (Heap.lt_size (N p hp).1) ((List.mem_singleton.mp hI) ▸ Nat.lt_irrefl _)
  · intro i s' v Q' _ hQ'
    exact wpAny_pure hQ'
  · intro i v m₁ nx s₁ own hin hP hJ hoff hown hsame hall hst' F₁ N₁
    obtain ⟨_, t, rfl⟩ := hP
    have ho : s₁.heap.get? s.heap.objs.size = some _ := hst'
    have hio := hall s.heap.objs.size (List.mem_singleton.mpr rfl) hI0 _ ho
    have hone := own_one hown hfp ho N₁
    have hoff' : ∀ p ∈ nx, p.1 ≠ s.heap.objs.size := fun p hp e => hoff p hp (by rw [e]; exact List.mem_singleton.mpr rfl)
    have := turn i t m₁ nx s₁ s.heap.objs.size _ hin hJ hoff' F₁ (news_one hio N₁)
    rw [show a₀ + (i : Int) * 1 = a₀ + i by omega]
    refine wpAny_mono this (fun _ s₃ h₃ => wpAny_mono h₃ (fun f s₂ p => ?_) fun _ _ e => e) fun _ _ e => e
    obtain ⟨rfl, h', tk, m', news', nx', e, F', N', hn', hi, ha, hm⟩ := p
    refine ⟨rfl, h', tk, m', nx', e, F', fun p hp => ?_, fun p hp hq => ha p hp (hwI _ hq), hm⟩
    rcases List.mem_append.mp hp with h1 | h1
    · rw [hone p h1]; exact N' _ hi
    · exact N' _ (hn' p h1)
  · intro h' tk m' news' F' N' _ hJ
    exact done m' news' h' tk hJ F' N'
end
end Mine
namespace Mine
open PySem PySem.W PySem.Calls PyProof.Rows
set_option maxRecDepth 100000
set_option maxHeartbeats 3000000
theorem last_idx (arr : Array Value) (v : Value) : (arr.push v)[((-1 : Int) + ((arr.push v).size : Nat)).toNat]? = some v := by
  have e : ((-1 : Int) + ((arr.push v).size : Nat)).toNat = arr.size := by rw [Array.size_push]; omega
  rw [e]
  simp
theorem item_last {prog : Program} {w : World} {A : Around} {E : Value → Shared → Prop} {s : Shared} {value slice : PySem.Expr} {l : Addr} {arr : Array Value} {u : Tok} {v : Value} {Q : Value → Shared → Prop} (hl : s.heap.IsList l (arr.push v)) (h : Q v s)
    (hs : subscripted slice false (.ref l) (.int (-1) u) = operate [.ref l, .int (-1) u] (getItem (.ref l) (.int (-1) u)) := by with_unfolding_all rfl) :
    wpAny (model prog w) A (subscriptTail value slice (.ref l) (.int (-1) u)) Q E s :=
  tail_any hl.typeIs slot_list_getitem.lookup (wpAny_getItem_list_neg hl (by decide) (by rw [Array.size_push]; omega) (by decide) (last_idx arr v) h) hs
def lawWhile : Stmt := (fnBody lawStmt).getD 5 default
abbrev mW (KE HA AS : Nat) (u : Str → Option Value) : Str → Option Value := fun y => if y = Str.ofString "kept" then some (.ref KE) else if y = Str.ofString "hands" then some (.ref HA) else if y = Str.ofString "asked" then some (.ref AS) else u y
def NewHand (w : World) (mg : Str → Option Value) (base : Heap) (L fa : Addr) (cd : Value) (s : Shared) (u : Str → Option Value) (E : Value → Shared → Prop) (P' : Shared → Prop) (KE HA AS nk nh na H0 : Nat) (x : Int) (tx : Nat) (kv hv av : List Value) (rest : List (Addr × Obj)) (cc0 : Option (Nat × Obj)) : Prop :=
  ∀ h' (tk' A' H dH B dB R cA cX cc t1 t2 t3 t4 t5 t6 : Nat) doc ctv oA oX oc vs' t' news', Fr base L h' (fun y => if y = Str.ofString "n" then some (.int x tx) else mW KE HA AS u y) → News base L h' news' →
    (∀ p ∈ ([(H, instObj 46 dH), (dH, dictOf [entF w t1 (.ref B), entB w t2 (.int x tx)] 2), (B, instObj 46 dB), (dB, dictOf [entF w t3 .none, entB w t4 (.int 8192 t5), entR w t6 (.ref R)] 3), (R, sftObj mg cX cA doc cc ctv), (cA, oA), (cX, oX), (A', W.listOf #[] 0),
      (KE, W.listOf (kv.toArray.push (.int x tx)) (nk + 1)), (HA, W.listOf ((hv.toArray.push (.ref H0)).push (.ref H)) (nh + 1)), (AS, W.listOf (av.toArray.push (.ref A')) (na + 1)), (59, tabObj #[rawInt 32, rawInt 4, .ref cc]), (cc, oc)] : List (Addr × Obj)), p ∈ news') → (∀ p ∈ rest, p ∈ news') →
    oA.data = .cell (some (.ref A')) → oX.data = .cell (some (.ref H0)) → oc.data = .fields vs' → vs'[1]? = some (.str sftQual t') → (∀ p ∈ rest, p.1 < A') → (A' < H ∧ A' < dH ∧ A' < B ∧ A' < dB ∧ A' < R ∧ A' < cA ∧ A' < cX) → (KE < A' ∧ HA < A' ∧ AS < A' ∧ 59 < A') → NeTo cc [A', H, dH, B, dB, R, cA, cX, KE, HA, AS, 59] → (∀ p ∈ rest, p.1 ≠ cc) → (∀ c0, cc0 = some c0 → (cc, oc) = c0) →
    wpAny (model PySem.Challenge.rw_dn0266_02.row.prog w) (callerA.deeper (lawEnv L fa cd)) (call (.builtin "next") [.ref H, .none])
      (fun v s₁ => wpAny (model PySem.Challenge.rw_dn0266_02.row.prog w) (callerA.deeper (lawEnv L fa cd)) (storeName (lawEnv L fa cd) (Str.ofString "n") v)
        (fun _ s' => wpAny (model PySem.Challenge.rw_dn0266_02.row.prog w) (callerA.deeper (lawEnv L fa cd)) (execs [] (lawEnv L fa cd)) (fun f s' => WhlNext f (P' s')) E s') E s₁) E { s with heap := h', toks := tk' }
end Mine
namespace Mine
open PySem PySem.W PySem.Calls PyProof.Rows
set_option maxRecDepth 100000
set_option maxHeartbeats 3000000
local macro_rules | `(tactic| walk_at "none 0") => `(tactic| fail)
local macro_rules | `(tactic| walk_at "none 1") => `(tactic| fail)
local macro_rules | `(tactic| walk_at "none 2") => `(tactic| fail)
local macro_rules | `(tactic| walk_at "none 3") => `(tactic| fail)
local macro_rules | `(tactic| walk_at "none 4") => `(tactic| fail)
local macro_rules | `(tactic| walk_at "call builtin:hasattr") => `(tactic| (k_here; (with_reducible show wpAny _ _ (call (Value.builtin _) [Value.none, _]) _ _ _); k_dflt (refine' Mine.hasattr_none_K ?k0 ?k1 ?k2 ?_; (case k0 => exact rfl); (case k1 => k_asm); (case k2 => k_asm); k_whole); intro h' tk' F' N'; (try k_sweep)))
local macro_rules | `(tactic| walk_at "call builtin:sum") => `(tactic| (k_here; (with_reducible show wpAny _ _ (call (Value.builtin "sum") [Value.ref _]) _ _ _); k_dflt (refine' Mine.sum_pick ?k0 ?k1 ?k2 ?k3 ?k4 ?_; (case k0 => with_unfolding_all rfl); (case k1 => k_asm); (case k2 => k_asm); (case k3 => k_mem); (case k4 => assumption); k_whole); intro h' tk' t' F' N'))
local macro_rules | `(tactic| walk_at "call builtin:hasattr") => `(tactic| (k_here; (with_reducible show wpAny _ _ (call (Value.builtin _) [Value.ref _, _]) _ _ _); k_dflt (first
  | (refine' has46_yes ?k1 ?k2 ?k3 ?k4 ?k5 ?_; (case k1 => k_asm); (case k2 => k_asm); (case k3 => k_inst); (case k4 => k_get); (case k5 => k_handed); k_whole)
  | (refine' has46_no ?k0 ?k1 ?k2 ?k3 ?k4 ?k5 ?_; (case k0 => exact rfl); (case k1 => k_asm); (case k2 => k_asm); (case k3 => k_asm); (case k4 => k_inst); (case k5 => k_get); k_whole; intro h' tk' F' N'; (try k_sweep)))))
local macro_rules | `(tactic| k_ne) => `(tactic| (refine neN ?_; (try dsimp only); first | exact NeF.l (by with_reducible assumption) | exact NeF.r (by with_reducible assumption) | omega))
local macro_rules | `(tactic| walk_at "call builtin:len") => `(tactic| (k_here; (with_reducible show wpAny _ _ (call (Value.builtin "len") [Value.ref _]) _ _ _); (with_unfolding_all refine' len_eq ?k1 ?k2 ?k3 ?_; (case k1 => is_list); (case k2 => with_reducible assumption); (case k3 => omega); k_whole)))
local macro_rules | `(tactic| walk_at "subscriptTail") => `(tactic| (k_here; (with_reducible show wpAny _ _ (subscriptTail _ _ (Value.ref _) (Value.int _ _)) _ _ _); (with_unfolding_all refine' item_last ?k1 ?_ ?k6; (case k1 => is_list); (case k6 => with_unfolding_all rfl); k_whole)))
local macro_rules | `(tactic| walk_at "ite") => `(tactic| (first | ((refine ite_neg ?h ?_); (case h => (simp only [beq_iff_eq, bne_iff_ne, ne_eq, decide_eq_true_eq, Bool.false_bne, Bool.true_bne, Bool.not_eq_true', decide_eq_false_iff_not, reduceCtorEq, not_false_eq_true]; first | done | omega))) | ((refine ite_pos ?h ?_); (case h => (simp only [beq_iff_eq, bne_iff_ne, ne_eq, decide_eq_true_eq, Bool.false_bne, Bool.true_bne, Bool.not_eq_true', decide_eq_false_iff_not, reduceCtorEq, not_false_eq_true]; first | done | omega)))))
local macro_rules | `(tactic| k_lt $h) => `(tactic| (have kept := $h; replace $h := allLt_of $h; simp only [AllLt, and_true] at $h:ident))
theorem law_none {w : World} {s : Shared} {mg mb : Str → Option Value} {mean : ExcName → Option Value} {loose : List Str} {base : Heap} {L fa : Addr} {cd : Value} {u : Str → Option Value}
  {KE HA AS nk nh na tx kk H0 : Nat} {x : Int} {ps : Array Value} {kv hv av : List Value} {kns : List Int} {P rest : List (Addr × Obj)}
  {Q : Flow → Shared → Prop} {P' : Shared → Prop} {E : Value → Shared → Prop} 
  (X' : (Mine.hd.heap_39 w.params).In base) (T' : Top topProg loose mean mg mb base) (K' : Below callerA base [] base) (codeHd : CodeHd base 63 59)
  (F' : Fr base L s.heap (fun y => if y = Str.ofString "n" then some .none else mW KE HA AS u y))
  (N' : News base L s.heap ((KE, W.listOf kv.toArray nk) :: (HA, W.listOf (hv.toArray.push (.ref H0)) nh) :: (AS, W.listOf av.toArray na) :: (59, tabObj ps) :: (P ++ rest)))
  (hoff : OwnOff (P ++ rest) [KE, HA, AS, 59]) (hne : NeAll [KE, HA, AS, 59])
  (hIk : IntsAre kv kns) (hlk : kv.length = kns.length) (hk30 : kns.length < 30) (hlh : hv.length ≤ 100) (hla : av.length ≤ 100)
  (hE : PassesOwn (model PySem.Challenge.rw_dn0266_02.row.prog w) (callerA.deeper (lawEnv L fa cd)) (lawEnv L fa cd) E)
  
  (hQ : ∀ tk', Q .next { s with toks := tk' }) :
  WhlRest PySem.Challenge.rw_dn0266_02.row.prog w (callerA.deeper (lawEnv L fa cd)) E (lawEnv L fa cd) (whlTest lawWhile) (whlBody lawWhile) [] Q (kk + 1) s := by
  simp only [NeAll, NeTo, and_true] at hne
  obtain ⟨⟨n0_1, n0_2, n0_3⟩, ⟨n1_2, n1_3⟩, n2_3⟩ := hne
  obtain ⟨hp, gs, dr, tk, os⟩ := s
  dsimp only at F' N'
  dsimp only [mW] at F'
  w_top off
  revert X'; k_fill; intro X'
  with_unfolding_all show WhlRest _ _ _ _ _ (PySem.Expr.BoolOp _ _ _) (_ :: _) [] _ _ _
  refine whl_turn hE ?_
  k_steps
  all_goals exact hQ _
theorem law_miss {w : World} {s : Shared} {mg mb : Str → Option Value} {mean : ExcName → Option Value} {loose : List Str} {base : Heap} {L fa : Addr} {cd : Value} {u : Str → Option Value}
  {KE HA AS nk nh na tx kk H0 : Nat} {x : Int} {kv hv av : List Value} {kns : List Int} {P rest : List (Addr × Obj)}
  {Q : Flow → Shared → Prop} {P' : Shared → Prop} {E : Value → Shared → Prop} 
  (X' : (Mine.hd.heap_39 w.params).In base) (T' : Top topProg loose mean mg mb base) (K' : Below callerA base [] base) (codeHd : CodeHd base 63 59)
  (F' : Fr base L s.heap (fun y => if y = Str.ofString "n" then some (.int x tx) else mW KE HA AS u y))
  (N' : News base L s.heap ((KE, W.listOf kv.toArray nk) :: (HA, W.listOf (hv.toArray.push (.ref H0)) nh) :: (AS, W.listOf av.toArray na) :: (59, tabObj #[]) :: (P ++ rest)))
  (hoff : OwnOff (P ++ rest) [KE, HA, AS, 59]) (hne : NeAll [KE, HA, AS, 59])
  (hIk : IntsAre kv kns) (hlk : kv.length = kns.length) (hk30 : kns.length < 30) (hlh : hv.length ≤ 100) (hla : av.length ≤ 100)
  (hE : PassesOwn (model PySem.Challenge.rw_dn0266_02.row.prog w) (callerA.deeper (lawEnv L fa cd)) (lawEnv L fa cd) E)
  (hP : ∀ s', P' s' → WhlRest PySem.Challenge.rw_dn0266_02.row.prog w (callerA.deeper (lawEnv L fa cd)) E (lawEnv L fa cd) (whlTest lawWhile) (whlBody lawWhile) [] Q kk s')
  (hQ : NewHand w mg base L fa cd s u E P' KE HA AS nk nh na H0 x tx kv hv av (P ++ rest) none) :
  WhlRest PySem.Challenge.rw_dn0266_02.row.prog w (callerA.deeper (lawEnv L fa cd)) E (lawEnv L fa cd) (whlTest lawWhile) (whlBody lawWhile) [] Q (kk + 1) s := by
  simp only [NeAll, NeTo, and_true] at hne
  obtain ⟨⟨n0_1, n0_2, n0_3⟩, ⟨n1_2, n1_3⟩, n2_3⟩ := hne
  obtain ⟨hp, gs, dr, tk, os⟩ := s
  dsimp only at F' N'
  dsimp only [mW] at F'
  w_top off
  revert X'; k_fill; intro X'
  with_unfolding_all show WhlRest _ _ _ _ _ (PySem.Expr.BoolOp _ _ _) (_ :: _) [] _ _ _
  refine whl_turnA hE hP ?_
  k_steps
  all_goals (refine' hQ _ _ _ _ _ _ _ _ _ _ _ _ _ _ _ _ _ _ _ _ _ _ _ _ _ ?F ?N ?m ?r ?d1 ?d2 ?d3 ?d4 ?lt ?o1 ?o2 ?c1 ?c2 ?cc; (case F => assumption); (case N => assumption); (case m => (with_unfolding_all k_allIn)); (case r => (intro p hp; k_ownIn)); (case d1 => exact Eq.trans (by assumption) (by with_unfolding_all rfl)); (case d2 => exact Eq.trans (by assumption) (by with_unfolding_all rfl)); (case d3 => assumption); (case d4 => assumption); (case lt => exact fun p hp => (by assumption : ∀ q ∈ _, q.1 < _) p (by k_ownIn)); (case o1 => omega); (case o2 => omega); (case c1 => (simp only [NeTo, and_true]; (repeat' apply And.intro) <;> (show _ ≠ _; k_ne))); (case c2 => exact fun p hp => Nat.ne_of_lt ((by assumption : ∀ q ∈ _, q.1 < _) p (by k_ownIn))); (case cc => exact (fun _ e => nomatch e)))
theorem law_hit {w : World} {s : Shared} {mg mb : Str → Option Value} {mean : ExcName → Option Value} {loose : List Str} {base : Heap} {L fa : Addr} {cd : Value} {u : Str → Option Value}
  {KE HA AS nk nh na tx kk H0 : Nat} {x : Int} {kv hv av : List Value} {kns : List Int} {P rest : List (Addr × Obj)}
  {Q : Flow → Shared → Prop} {P' : Shared → Prop} {E : Value → Shared → Prop} {c' : Nat} {oc' : Obj} {vs' : Array Value} {t' : Nat}
  (X' : (Mine.hd.heap_39 w.params).In base) (T' : Top topProg loose mean mg mb base) (K' : Below callerA base [] base) (codeHd : CodeHd base 63 59)
  (F' : Fr base L s.heap (fun y => if y = Str.ofString "n" then some (.int x tx) else mW KE HA AS u y))
  (N' : News base L s.heap ((KE, W.listOf kv.toArray nk) :: (HA, W.listOf (hv.toArray.push (.ref H0)) nh) :: (AS, W.listOf av.toArray na) :: (59, tabObj #[rawInt 32, rawInt 4, .ref c']) :: (c', oc') :: (P ++ rest)))
  (hoff : OwnOff (P ++ rest) [KE, HA, AS, 59, c']) (hne : NeAll [KE, HA, AS, 59, c'])
  (hIk : IntsAre kv kns) (hlk : kv.length = kns.length) (hk30 : kns.length < 30) (hlh : hv.length ≤ 100) (hla : av.length ≤ 100)
  (hE : PassesOwn (model PySem.Challenge.rw_dn0266_02.row.prog w) (callerA.deeper (lawEnv L fa cd)) (lawEnv L fa cd) E)
  (d1 : oc'.data = .fields vs') (d2 : vs'[1]? = some (.str sftQual t')) (hP : ∀ s', P' s' → WhlRest PySem.Challenge.rw_dn0266_02.row.prog w (callerA.deeper (lawEnv L fa cd)) E (lawEnv L fa cd) (whlTest lawWhile) (whlBody lawWhile) [] Q kk s')
  (hQ : NewHand w mg base L fa cd s u E P' KE HA AS nk nh na H0 x tx kv hv av (P ++ rest) (some (c', oc'))) :
  WhlRest PySem.Challenge.rw_dn0266_02.row.prog w (callerA.deeper (lawEnv L fa cd)) E (lawEnv L fa cd) (whlTest lawWhile) (whlBody lawWhile) [] Q (kk + 1) s := by
  simp only [NeAll, NeTo, and_true] at hne
  obtain ⟨⟨n0_1, n0_2, n0_3, n0_4⟩, ⟨n1_2, n1_3, n1_4⟩, ⟨n2_3, n2_4⟩, n3_4⟩ := hne
  obtain ⟨hp, gs, dr, tk, os⟩ := s
  dsimp only at F' N'
  dsimp only [mW] at F'
  w_top off
  revert X'; k_fill; intro X'
  with_unfolding_all show WhlRest _ _ _ _ _ (PySem.Expr.BoolOp _ _ _) (_ :: _) [] _ _ _
  refine whl_turnA hE hP ?_
  k_steps
  all_goals (refine' hQ _ _ _ _ _ _ _ _ _ _ _ _ _ _ _ _ _ _ _ _ _ _ _ _ _ ?F ?N ?m ?r ?d1 ?d2 ?d3 ?d4 ?lt ?o1 ?o2 ?c1 ?c2 ?cc; (case F => assumption); (case N => assumption); (case m => (with_unfolding_all k_allIn)); (case r => (intro p hp; k_ownIn)); (case d1 => exact Eq.trans (by assumption) (by with_unfolding_all rfl)); (case d2 => exact Eq.trans (by assumption) (by with_unfolding_all rfl)); (case d3 => assumption); (case d4 => assumption); (case lt => exact fun p hp => (by assumption : ∀ q ∈ _, q.1 < _) p (by k_ownIn)); (case o1 => omega); (case o2 => omega); (case c1 => (simp only [NeTo, and_true]; (repeat' apply And.intro) <;> (show _ ≠ _; k_ne))); (case c2 => exact fun p hp => hoff p hp _ (by simp)); (case cc => exact (fun _ e => Option.some.inj e)))
end Mine
namespace Mine
open PySem PySem.W PySem.Calls PyProof.Rows
set_option maxRecDepth 100000
set_option maxHeartbeats 400000
theorem turn_fr0 {h₀ h₀' h : Heap} {L : Addr} {m : Str → Option Value} (T : KtsTurn [] h₀ h₀') (F : Fr h₀' L h m) : Fr h₀ L h m :=
  ⟨F.ns, fun b o e => F.keep b o (T.other b o e (fun z => nomatch z)), by rw [← T.size]; exact F.above⟩
theorem turn_news0 {h₀ h₀' h : Heap} {L : Addr} {news : List (Addr × Obj)} (T : KtsTurn [] h₀ h₀') (N : News h₀' L h news) : News h₀ L h news := fun p hp => ⟨(N p hp).1, (N p hp).2.1, by
  cases q : h₀.get? p.1 with
  | none => rfl
  | some o =>
    have := T.other _ _ q (fun z => nomatch z)
    rw [(N p hp).2.2] at this
    cases this⟩
def hvI (r0 : HR) : List HR → List Value
  | [] => []
  | _ :: rs => hvI r0 rs ++ [.ref (hTop r0 rs).H]
def avL (r0 : HR) : List HR → List Value
  | [] => [.ref r0.A]
  | r :: rs => avL r0 rs ++ [.ref r.A]
theorem hvI_len (r0 : HR) : ∀ rs, (hvI r0 rs).length = rs.length
  | [] => rfl
  | _ :: rs => by simp [hvI, hvI_len r0 rs]
theorem avL_len (r0 : HR) : ∀ rs, (avL r0 rs).length = rs.length + 1
  | [] => rfl
  | _ :: rs => by simp [avL, avL_len r0 rs]
def tabsOf (rs : List HR) : List (Addr × Obj) := match rs with | [] => [(59, tabObj #[])] | r :: _ => [(59, tabObj #[rawInt 32, rawInt 4, .ref r.cc]), (r.cc, r.oc)]
def gOf (r0 : HR) (rs : List HR) : List (Addr × Obj) := match rs with | [] => [(r0.cc, r0.oc)] | r :: _ => [(r.cc, r.oc), (r0.cc, r0.oc)]
theorem HR.Ok.mono {G G' : List (Addr × Obj)} {r : HR} {x : Addr} {q : Str} (h : ∀ p ∈ G, p ∈ G') (k : r.Ok G x q) : r.Ok G' x q := ⟨h _ k.cc, k.ne, k.d1, k.d2, k.d3, k.d4, k.pos⟩
theorem OkL.mono {G G' : List (Addr × Obj)} {LF : Addr} {r0 : HR} (h : ∀ p ∈ G, p ∈ G') : ∀ {rs : List HR}, OkL G LF r0 rs → OkL G' LF r0 rs
  | [], k => ⟨k.1.mono h, k.2⟩
  | _ :: _, k => ⟨k.1.mono h, OkL.mono h k.2⟩
theorem intsAre_len : ∀ {vs : List Value} {ns : List Int}, IntsAre vs ns → vs.length = ns.length
  | _, _, .nil => rfl
  | _, _, .cons _ _ h => congrArg (· + 1) (intsAre_len h)
structure LawSt (w : World) (mg : Str → Option Value) (base : Heap) (L : Addr) (u : Str → Option Value) (KE HA AS LF : Nat) (r0 : HR) (P : List (Addr × Obj)) (K : List Int) (rs : List HR) (res : Option Int) (left : List Int) (c tx nk nh na : Nat) (kv : List Value) (rest : List (Addr × Obj)) (h : Heap) : Prop where
  F : Fr base L h (fun y => if y = Str.ofString "n" then some (valOf .none res tx) else mW KE HA AS u y)
  N : News base L h ((KE, W.listOf kv.toArray nk) :: (HA, W.listOf ((hvI r0 rs).toArray.push (.ref (hTop r0 rs).H)) nh) :: (AS, W.listOf (avL r0 rs).toArray na) :: (tabsOf rs ++ (P ++ rest)))
  ch : ChL w mg LF r0 rs left c rest
  ok : OkL (gOf r0 rs) LF r0 rs
  ik : IntsAre kv (rs.map (·.sz)).reverse
  off : OwnOff (P ++ rest) (KE :: HA :: AS :: (tabsOf rs).map (·.1))
  ne : NeAll (KE :: HA :: AS :: (tabsOf rs).map (·.1))
  adr : AdrOff (P.map (·.1)) (rest.map (·.1))
  sum : (rs.map (·.sz)).reverse ++ restOf (rs.map (·.sz)) res left = K
  pos : ∀ x, res = some x → 0 < x
  cnt : c + left.length = 24 + gain res
  nil : res = none → left = []
theorem LawSt.len {w : World} {mg : Str → Option Value} {base : Heap} {L : Addr} {u : Str → Option Value} {KE HA AS LF : Nat} {r0 : HR} {P : List (Addr × Obj)} {K : List Int} {rs : List HR} {res : Option Int} {left : List Int} {c tx nk nh na : Nat} {kv : List Value} {rest : List (Addr × Obj)} {h : Heap}
    (S : LawSt w mg base L u KE HA AS LF r0 P K rs res left c tx nk nh na kv rest h) (hK : K.length ≤ 24) : rs.length ≤ 24 := by
  have := congrArg List.length S.sum
  simp at this
  omega
theorem store_n {w : World} {s : Shared} {mg mb : Str → Option Value} {mean : ExcName → Option Value} {loose : List Str} {base : Heap} {L fa : Addr} {cd v : Value} {m : Str → Option Value} {news : List (Addr × Obj)} {P' : Shared → Prop} {E : Value → Shared → Prop}
    (X' : (Mine.hd.heap_39 w.params).In base) (T' : Top topProg loose mean mg mb base) (K' : Below callerA base [] base) (F' : Fr base L s.heap m) (N' : News base L s.heap news)
    (hQ : ∀ h' tk', Fr base L h' (fun y => if y = Str.ofString "n" then some v else m y) → News base L h' news → P' { s with heap := h', toks := tk' }) :
    wpAny (model PySem.Challenge.rw_dn0266_02.row.prog w) (callerA.deeper (lawEnv L fa cd)) (storeName (lawEnv L fa cd) (Str.ofString "n") v)
        (fun _ s' => wpAny (model PySem.Challenge.rw_dn0266_02.row.prog w) (callerA.deeper (lawEnv L fa cd)) (execs [] (lawEnv L fa cd)) (fun f s' => WhlNext f (P' s')) E s') E s := by
  obtain ⟨hp, gs, dr, tk, os⟩ := s
  dsimp only at F' N'
  w_top off
  k_steps
  all_goals exact ⟨rfl, hQ _ _ (by assumption) (by assumption)⟩

end Mine
namespace Mine
open PySem PySem.W PySem.Calls PyProof.Rows
set_option maxRecDepth 100000
set_option maxHeartbeats 400000

theorem restOf_some (ds : List Int) (x : Int) (left : List Int) : restOf ds (some x) left = x :: sift (x :: ds) left := rfl
theorem n_twice (v v' : Value) (m : Str → Option Value) (y : Str) : (if y = Str.ofString "n" then some v else if y = Str.ofString "n" then some v' else m y) = if y = Str.ofString "n" then some v else m y := by
  by_cases h : y = Str.ofString "n"
  · rw [if_pos h, if_pos h]
  · rw [if_neg h, if_neg h, if_neg h]
theorem neAll4 {rs : List HR} {KE HA AS : Nat} (h : NeAll (KE :: HA :: AS :: (tabsOf rs).map (·.1))) : NeAll [KE, HA, AS, 59] := by
  cases rs with
  | nil => exact h
  | cons r rs =>
    simp only [tabsOf, List.map_cons, List.map_nil, NeAll, NeTo, and_true] at h ⊢
    obtain ⟨⟨a, b, c, _⟩, ⟨d, e, _⟩, ⟨f, _⟩, _⟩ := h
    exact ⟨⟨a, b, c⟩, ⟨d, e⟩, f⟩
theorem off4 {rs : List HR} {KE HA AS : Nat} {l : List (Addr × Obj)} (h : OwnOff l (KE :: HA :: AS :: (tabsOf rs).map (·.1))) : OwnOff l [KE, HA, AS, 59] := by
  cases rs with
  | nil => exact h
  | cons r rs =>
    intro p hp b hb
    refine h p hp b ?_
    simp only [tabsOf, List.map_cons, List.map_nil, List.mem_cons, List.not_mem_nil, or_false] at hb ⊢
    rcases hb with h | h | h | h
    · exact .inl h
    · exact .inr (.inl h)
    · exact .inr (.inr (.inl h))
    · exact .inr (.inr (.inr (.inl h)))
section
variable {w : World} {s : Shared} {mg mb : Str → Option Value} {mean : ExcName → Option Value} {loose : List Str} {base base0 : Heap} {L fa : Addr} {cd : Value} {u : Str → Option Value}
  {KE HA AS LF : Nat} {r0 : HR} {P : List (Addr × Obj)} {K : List Int}
theorem newHand_go {rs : List HR} {x : Int} {left : List Int} {c tx nk nh na : Nat} {kv : List Value} {rest : List (Addr × Obj)} {P' : Shared → Prop} {E : Value → Shared → Prop} {cc0 : Option (Nat × Obj)}
    (X' : (Mine.hd.heap_39 w.params).In base) (T' : Top topProg loose mean mg mb base) (K' : Below callerA base [] base) (codeHd : CodeHd base0 56 52) (hK : K.length ≤ 24) (hS : (r0.cc, r0.oc) ∈ P)
    (S : LawSt w mg base L u KE HA AS LF r0 P K rs (some x) left c tx nk nh na kv rest s.heap)
    (hc0 : ∀ r rs', rs = r :: rs' → cc0 = some (r.cc, r.oc))
    (hQ : ∀ rs' res' left' c' tx' nk' nh' na' kv' rest' h' tk', wt res' left' < wt (some x) left → LawSt w mg base L u KE HA AS LF r0 P K rs' res' left' c' tx' nk' nh' na' kv' rest' h' → P' { s with heap := h', toks := tk' }) :
    NewHand w mg base L fa cd s u E P' KE HA AS nk nh na (hTop r0 rs).H x tx kv (hvI r0 rs) (avL r0 rs) (P ++ rest) cc0 := by
  intro h' tk' A' H dH B dB R cA cX cc t1 t2 t3 t4 t5 t6 doc ctv oA oX oc vs' t' news' F' N' hm hr d1 d2 d3 d4 hlt hA hKE hcc hccR hcc0
  have hlen := S.len hK
  have hcnt : c + left.length = 24 := S.cnt
  obtain ⟨r, hrE⟩ : ∃ r : HR, r = { A := A', H := H, dH := dH, B := B, dB := dB, R := R, cA := cA, cX := cX, cc := cc, n1 := 2, n2 := 3, t1 := t1, t2 := t2, t3 := t3, t4 := t4, t5 := t5, t6 := t6, st := tx, t' := t', sz := x, doc := doc, ctv := ctv, oA := oA, oX := oX, oc := oc, vs' := vs' } := ⟨_, rfl⟩
  have hokr : OkL (gOf r0 (r :: rs)) LF r0 (r :: rs) := by
    refine ⟨⟨.head _, ?_, by rw [hrE]; exact d1, by rw [hrE]; exact d2, by rw [hrE]; exact d3, by rw [hrE]; exact d4, by rw [hrE]; exact S.pos x rfl⟩, S.ok.mono ?_⟩
    · rw [hrE]
      simp only [NeTo, HR.adr, and_true]
      obtain ⟨a1, a2, a3, a4, a5, a6, a7⟩ := hA
      exact ⟨Nat.ne_of_lt a1, Nat.ne_of_lt a2, Nat.ne_of_lt a3, Nat.ne_of_lt a4, Nat.ne_of_lt a5, Nat.ne_of_lt a6, Nat.ne_of_lt a7⟩
    · intro p hp
      cases rs with
      | nil => exact .tail _ hp
      | cons r1 rs' =>
        rcases List.mem_cons.mp hp with h | h
        · rw [h, ← hcc0 _ (hc0 r1 rs' rfl), hrE]; exact .head _
        · exact .tail _ h
  have geA : ∀ y ∈ r.A :: r.adr, A' ≤ y := by
    rw [hrE]
    intro y hy
    simp only [HR.adr, List.mem_cons, List.not_mem_nil, or_false] at hy
    obtain ⟨a1, a2, a3, a4, a5, a6, a7⟩ := hA
    rcases hy with h | h | h | h | h | h | h | h <;> (rw [h]; first | exact Nat.le_refl _ | (apply Nat.le_of_lt; assumption))
  have hadr0 : AdrOff (r.A :: r.adr) (rest.map (·.1)) := by
    intro y hy z hz
    obtain ⟨p, hp, rfl⟩ := List.mem_map.mp hz
    exact Nat.ne_of_gt (Nat.lt_of_lt_of_le (hlt p (List.mem_append_right _ hp)) (geA y hy))
  have hch : ChL w mg LF r0 (r :: rs) left c ((r.A, W.listOf ([] : List Value).toArray 0) :: (fixOf w r (sftObj mg r.cX r.cA r.doc r.cc r.ctv) ++ rest)) :=
    ⟨[], 0, [], rest, rfl, S.ch, ⟨.nil, fun _ z => nomatch z⟩, Nat.zero_le _, hadr0, S.ch.pos⟩
  have N1 : News base L h' (((KE, W.listOf (kv ++ [Value.int x tx]).toArray (nk + 1)) :: (HA, W.listOf ((hvI r0 (r :: rs)).toArray.push (.ref H)) (nh + 1)) :: (AS, W.listOf (avL r0 (r :: rs)).toArray (na + 1)) :: (59, tabObj #[rawInt 32, rawInt 4, .ref cc]) :: (cc, oc) :: P) ++ ((r.A, W.listOf ([] : List Value).toArray 0) :: (fixOf w r (sftObj mg r.cX r.cA r.doc r.cc r.ctv) ++ rest))) := by
    refine NewsSub N' fun p hp => ?_
    have e2 : hvI r0 (r :: rs) = hvI r0 rs ++ [.ref (hTop r0 rs).H] := rfl
    have e3 : avL r0 (r :: rs) = avL r0 rs ++ [.ref A'] := by rw [hrE]; rfl
    rw [e2, e3, ← push_toArray, ← push_toArray, ← push_toArray, hrE] at hp
    have hP : ∀ q ∈ P, q ∈ news' := fun q hq => hr q (List.mem_append_left _ hq)
    have hR : ∀ q ∈ rest, q ∈ news' := fun q hq => hr q (List.mem_append_right _ hq)
    simp only [List.forall_mem_cons, List.not_mem_nil, false_implies, implies_true, and_true] at hm
    obtain ⟨m1, m2, m3, m4, m5, m6, m7, m8, m9, m10, m11, m12, m13⟩ := hm
    rcases List.mem_append.mp hp with hp | hp
    · simp only [List.mem_cons] at hp
      rcases hp with rfl | rfl | rfl | rfl | rfl | hp
      · exact m9
      · exact m10
      · exact m11
      · exact m12
      · exact m13
      · exact hP p hp
    · rcases List.mem_cons.mp hp with rfl | hp
      · exact m8
      · rcases List.mem_append.mp hp with hp | hp
        · simp only [fixOf, List.mem_cons, List.not_mem_nil, or_false] at hp
          rcases hp with rfl | rfl | rfl | rfl | rfl | rfl | rfl
          · exact m1
          · exact m2
          · exact m3
          · exact m4
          · exact m5
          · exact m6
          · exact m7
        · exact hR p hp
  have off4' := off4 S.off
  simp only [NeTo, and_true] at hcc
  obtain ⟨c1, c2, c3, c4, c5, c6, c7, c8, c9, c10, c11, c12⟩ := hcc
  have inPR : ∀ y ∈ rest.map (·.1), ∃ q, q ∈ P ++ rest ∧ q.1 = y := fun y hy => by
    obtain ⟨q, hq, e⟩ := List.mem_map.mp hy
    exact ⟨q, List.mem_append_right _ hq, e⟩
  have hadr : AdrOff (KE :: HA :: AS :: 59 :: cc :: P.map (·.1)) (List.map (·.1) ((r.A, W.listOf ([] : List Value).toArray 0) :: (fixOf w r (sftObj mg r.cX r.cA r.doc r.cc r.ctv) ++ rest))) := by
    intro y hy z hz
    have hz' : z ∈ (r.A :: r.adr) ∨ z ∈ rest.map (·.1) := List.mem_append.mp (by
      rw [List.map_cons, List.map_append] at hz
      exact hz)
    simp only [List.mem_cons] at hy
    rcases hz' with hz | hz
    · have := geA z hz
      obtain ⟨k1, k2, k3, k4⟩ := hKE
      rcases hy with h | h | h | h | h | h
      · rw [h]; exact Nat.ne_of_lt (Nat.lt_of_lt_of_le k1 this)
      · rw [h]; exact Nat.ne_of_lt (Nat.lt_of_lt_of_le k2 this)
      · rw [h]; exact Nat.ne_of_lt (Nat.lt_of_lt_of_le k3 this)
      · rw [h]; exact Nat.ne_of_lt (Nat.lt_of_lt_of_le k4 this)
      · rw [h]
        rw [hrE] at hz
        simp only [HR.adr, List.mem_cons, List.not_mem_nil, or_false] at hz
        rcases hz with e | e | e | e | e | e | e | e <;> (rw [e]; assumption)
      · obtain ⟨p, hp, rfl⟩ := List.mem_map.mp h
        exact Nat.ne_of_lt (Nat.lt_of_lt_of_le (hlt p (List.mem_append_left _ hp)) this)
    · obtain ⟨q, hq, rfl⟩ := inPR z hz
      rcases hy with h | h | h | h | h | h
      · rw [h]; exact (off4' q hq KE (by simp)).symm
      · rw [h]; exact (off4' q hq HA (by simp)).symm
      · rw [h]; exact (off4' q hq AS (by simp)).symm
      · rw [h]; exact (off4' q hq 59 (by simp)).symm
      · rw [h]; exact (hccR q hq).symm
      · exact S.adr y h _ hz
  have I := nextOk_L (loose := loose) (mean := mean) (mb := mb) (base := base) ⟨X', T'⟩ codeHd hokr
  have hH : (hTop r0 (r :: rs)).H = H := by rw [hrE]; rfl
  rw [hH] at I
  refine nextOk_use (P := (KE, W.listOf (kv ++ [Value.int x tx]).toArray (nk + 1)) :: (HA, W.listOf ((hvI r0 (r :: rs)).toArray.push (.ref H)) (nh + 1)) :: (AS, W.listOf (avL r0 (r :: rs)).toArray (na + 1)) :: (59, tabObj #[rawInt 32, rawInt 4, .ref cc]) :: (cc, oc) :: P) (outer := []) I F' N1 rfl hch (by omega) hadr ?_ X' T' K' rfl rfl ?_ ?_ ?_
  · intro p hp
    rw [hrE] at hp
    rcases List.mem_cons.mp hp with h | h
    · rw [h]; exact .tail _ (.tail _ (.tail _ (.tail _ (.head _))))
    · rw [List.mem_singleton.mp h]; exact .tail _ (.tail _ (.tail _ (.tail _ (.tail _ hS))))
  · show _ + 10 * (rs.length + 1) + 10 < 600
    have : callerA.depth = 301 := rfl
    omega
  · show _ + 100 * (rs.length + 1) + 100 < 9000
    have : callerA.units = 4 := rfl
    omega
  · intro h₀' h'' tk'' rest'' c' tx' kT F2 N2 hmap B2 X2 T2 hC2 hc2
    have hds : (r :: rs).map (·.sz) = x :: rs.map (·.sz) := by rw [hrE]; rfl
    have F3 := turn_fr0 kT F2
    have N3 := turn_news0 kT N2
    refine store_n X' T' K' F3 N3 fun h3 tk3 F4 N4 => ?_
    have hl := nextOf_len ((r :: rs).map (·.sz)) left
    have hp := nextOf_mem ((r :: rs).map (·.sz)) left S.ch.pos
    refine hQ (r :: rs) (nextOf ((r :: rs).map (·.sz)) left).1 (nextOf ((r :: rs).map (·.sz)) left).2 c' tx' (nk + 1) (nh + 1) (na + 1) (kv ++ [Value.int x tx]) rest'' h3 tk3 (Nat.lt_succ_of_le hl.1)
      { F := Fr.conv F4 (n_twice _ _ _), N := ?_, ch := hC2, ok := hokr, ik := ?_, off := ?_, ne := ?_, adr := ?_, sum := ?_, pos := hp.1, cnt := by rw [hc2, hcnt], nil := hl.2 }
    · rw [hH]
      rw [hrE]
      rw [hrE] at N4
      exact N4
    · rw [hds, List.reverse_cons]
      exact S.ik.append (.cons _ _ .nil)
    · intro p hp b hb
      have hb' : b ∈ [KE, HA, AS, 59, cc] := by rw [hrE] at hb; exact hb
      rcases List.mem_append.mp hp with hp | hp
      · have hp' : p ∈ P ++ rest := List.mem_append_left _ hp
        simp only [List.mem_cons, List.not_mem_nil, or_false] at hb'
        rcases hb' with h | h | h | h | h
        · rw [h]; exact off4' p hp' KE (by simp)
        · rw [h]; exact off4' p hp' HA (by simp)
        · rw [h]; exact off4' p hp' AS (by simp)
        · rw [h]; exact off4' p hp' 59 (by simp)
        · rw [h]; exact hccR p hp'
      · refine (hadr b ?_ p.1 (hmap ▸ List.mem_map_of_mem hp)).symm
        simp only [List.mem_cons, List.not_mem_nil, or_false] at hb' ⊢
        rcases hb' with h | h | h | h | h
        · exact .inl h
        · exact .inr (.inl h)
        · exact .inr (.inr (.inl h))
        · exact .inr (.inr (.inr (.inl h)))
        · exact .inr (.inr (.inr (.inr (.inl h))))
    · have h4 := neAll4 S.ne
      rw [hrE]
      show NeAll [KE, HA, AS, 59, cc]
      simp only [NeAll, NeTo, and_true] at h4 ⊢
      obtain ⟨⟨q1, q2, q3⟩, ⟨q4, q5⟩, q6⟩ := h4
      exact ⟨⟨q1, q2, q3, Ne.symm c9⟩, ⟨q4, q5, Ne.symm c10⟩, ⟨q6, Ne.symm c11⟩, Ne.symm c12⟩
    · intro y hy z hz
      exact hadr y (.tail _ (.tail _ (.tail _ (.tail _ (.tail _ hy))))) z (hmap ▸ hz)
    · have h := S.sum
      rw [restOf_some, sift_next] at h
      rw [hds, List.reverse_cons, List.append_assoc]
      exact h
end
end Mine
namespace Mine
open PySem PySem.W PySem.Calls PyProof.Rows
set_option maxRecDepth 100000
set_option maxHeartbeats 400000
section
variable {w : World} {s : Shared} {mg mb : Str → Option Value} {mean : ExcName → Option Value} {loose : List Str} {base base0 : Heap} {L fa : Addr} {cd : Value} {u : Str → Option Value}
  {KE HA AS LF : Nat} {r0 : HR} {P : List (Addr × Obj)} {K : List Int}
theorem drop_tab {rs : List HR} {a b d : Addr × Obj} {l : List (Addr × Obj)} {h : Heap} {ps : Array Value} (hps : ps = match rs with | [] => #[] | r :: _ => #[rawInt 32, rawInt 4, .ref r.cc]) (N : News base L h (a :: b :: d :: (tabsOf rs ++ l))) : News base L h (a :: b :: d :: (59, tabObj ps) :: l) := by
  subst hps
  cases rs with
  | nil => exact N
  | cons r rs =>
    refine NewsSub N ?_
    intro p hp
    simp only [List.mem_cons, tabsOf, List.cons_append, List.nil_append] at hp ⊢
    rcases hp with h | h | h | h | h
    · exact .inl h
    · exact .inr (.inl h)
    · exact .inr (.inr (.inl h))
    · exact .inr (.inr (.inr (.inl h)))
    · exact .inr (.inr (.inr (.inr (.inr h))))
abbrev LawW (w : World) (L fa : Addr) (cd : Value) (E : Value → Shared → Prop) (Q : Flow → Shared → Prop) (kk : Nat) (s : Shared) : Prop :=
  WhlRest PySem.Challenge.rw_dn0266_02.row.prog w (callerA.deeper (lawEnv L fa cd)) E (lawEnv L fa cd) (whlTest lawWhile) (whlBody lawWhile) [] Q kk s
theorem law_last {Q : Flow → Shared → Prop} {E : Value → Shared → Prop} {rs : List HR} {left : List Int} {c tx nk nh na kk : Nat} {kv : List Value} {rest : List (Addr × Obj)}
    (X' : (Mine.hd.heap_39 w.params).In base) (T' : Top topProg loose mean mg mb base) (K' : Below callerA base [] base) (codeHd : CodeHd base 63 59) (hK : K.length ≤ 24)
    (hE : PassesOwn (model PySem.Challenge.rw_dn0266_02.row.prog w) (callerA.deeper (lawEnv L fa cd)) (lawEnv L fa cd) E)
    (S : LawSt w mg base L u KE HA AS LF r0 P K rs none left c tx nk nh na kv rest s.heap) (hQ : ∀ tk', Q .next { s with toks := tk' }) : LawW w L fa cd E Q (kk + 1) s := by
  have hlen := S.len hK
  have e := intsAre_len S.ik
  have e1 : (rs.map (·.sz)).reverse.length = rs.length := by simp
  have h1 : (rs.map (·.sz)).reverse.length < 30 := by omega
  have h2 : (hvI r0 rs).length ≤ 100 := by rw [hvI_len]; omega
  have h3 : (avL r0 rs).length ≤ 100 := by rw [avL_len]; omega
  have N1 := drop_tab rfl S.N
  exact law_none (x := 0) (tx := 0) (P' := fun _ => True) X' T' K' codeHd S.F N1 (off4 S.off) (neAll4 S.ne) S.ik e h1 h2 h3 hE hQ
theorem law_turn {Q : Flow → Shared → Prop} {E : Value → Shared → Prop} {rs : List HR} {x : Int} {left : List Int} {c tx nk nh na kk : Nat} {kv : List Value} {rest : List (Addr × Obj)}
    (X' : (Mine.hd.heap_39 w.params).In base) (T' : Top topProg loose mean mg mb base) (K' : Below callerA base [] base) (codeHd : CodeHd base 63 59) (codeHd2 : CodeHd base0 56 52) (hK : K.length ≤ 24) (hS : (r0.cc, r0.oc) ∈ P)
    (hE : PassesOwn (model PySem.Challenge.rw_dn0266_02.row.prog w) (callerA.deeper (lawEnv L fa cd)) (lawEnv L fa cd) E)
    (S : LawSt w mg base L u KE HA AS LF r0 P K rs (some x) left c tx nk nh na kv rest s.heap)
    (go : ∀ rs' res' left' c' tx' nk' nh' na' kv' rest' h' tk', wt res' left' < wt (some x) left → LawSt w mg base L u KE HA AS LF r0 P K rs' res' left' c' tx' nk' nh' na' kv' rest' h' → LawW w L fa cd E Q kk { s with heap := h', toks := tk' }) : LawW w L fa cd E Q (kk + 1) s := by
  have hlen := S.len hK
  have e := intsAre_len S.ik
  have e1 : (rs.map (·.sz)).reverse.length = rs.length := by simp
  have h1 : (rs.map (·.sz)).reverse.length < 30 := by omega
  have h2 : (hvI r0 rs).length ≤ 100 := by rw [hvI_len]; omega
  have h3 : (avL r0 rs).length ≤ 100 := by rw [avL_len]; omega
  cases rs with
  | nil =>
    have hG := newHand_go (fa := fa) (cd := cd) (E := E) (cc0 := none) (P' := fun s' => LawW w L fa cd E Q kk s') X' T' K' codeHd2 hK hS S (fun _ _ z => nomatch z) go
    exact law_miss X' T' K' codeHd S.F S.N S.off S.ne S.ik e h1 h2 h3 hE (fun _ z => z) hG
  | cons r rs =>
    have hG := newHand_go (fa := fa) (cd := cd) (E := E) (cc0 := some (r.cc, r.oc)) (P' := fun s' => LawW w L fa cd E Q kk s') X' T' K' codeHd2 hK hS S (fun _ _ z => (List.cons.inj z).1 ▸ rfl) go
    exact law_hit X' T' K' codeHd S.F S.N S.off S.ne S.ik e h1 h2 h3 hE S.ok.1.d3 S.ok.1.d4 (fun _ z => z) hG
theorem law_loop {Q : Flow → Shared → Prop} {E : Value → Shared → Prop}
    (X' : (Mine.hd.heap_39 w.params).In base) (T' : Top topProg loose mean mg mb base) (K' : Below callerA base [] base) (codeHd : CodeHd base 63 59) (codeHd2 : CodeHd base0 56 52) (hK : K.length ≤ 24) (hS : (r0.cc, r0.oc) ∈ P)
    (hE : PassesOwn (model PySem.Challenge.rw_dn0266_02.row.prog w) (callerA.deeper (lawEnv L fa cd)) (lawEnv L fa cd) E)
    (n : Nat) : ∀ (rs : List HR) (res : Option Int) (left : List Int) (c tx nk nh na : Nat) (kv : List Value) (rest : List (Addr × Obj)) (s : Shared) (kk : Nat), wt res left ≤ n → LawSt w mg base L u KE HA AS LF r0 P K rs res left c tx nk nh na kv rest s.heap →
      (∀ rs c tx nk nh na kv rest h' tk', LawSt w mg base L u KE HA AS LF r0 P K rs none [] c tx nk nh na kv rest h' → Q .next { s with heap := h', toks := tk' }) → LawW w L fa cd E Q (kk + 1) s := by
  have last : ∀ (rs : List HR) (left : List Int) (c tx nk nh na : Nat) (kv : List Value) (rest : List (Addr × Obj)) (s : Shared) (kk : Nat), LawSt w mg base L u KE HA AS LF r0 P K rs none left c tx nk nh na kv rest s.heap →
      (∀ rs c tx nk nh na kv rest h' tk', LawSt w mg base L u KE HA AS LF r0 P K rs none [] c tx nk nh na kv rest h' → Q .next { s with heap := h', toks := tk' }) → LawW w L fa cd E Q (kk + 1) s := by
    intro rs left c tx nk nh na kv rest s kk S hQ
    have hl := S.nil rfl
    subst hl
    exact law_last X' T' K' codeHd hK hE S fun tk' => hQ rs c tx nk nh na kv rest s.heap tk' S
  induction n with
  | zero =>
    intro rs res left c tx nk nh na kv rest s kk hn S hQ
    cases res with
    | none => exact last rs left c tx nk nh na kv rest s kk S hQ
    | some x => exact absurd hn (by unfold wt; simp)
  | succ n ih =>
    intro rs res left c tx nk nh na kv rest s kk hn S hQ
    cases res with
    | none => exact last rs left c tx nk nh na kv rest s kk S hQ
    | some x =>
      refine law_turn X' T' K' codeHd codeHd2 hK hS hE S ?_
      intro rs' res' left' c' tx' nk' nh' na' kv' rest' h' tk' hw S'
      exact ih rs' res' left' c' tx' nk' nh' na' kv' rest' { s with heap := h', toks := tk' } kk (by omega) S' fun rs'' c'' tx'' a b d kv'' rest'' h'' tk'' S'' => hQ rs'' c'' tx'' a b d kv'' rest'' h'' tk'' S''
end
end Mine
namespace Mine
open PySem PySem.W PySem.Calls PyProof.Rows
set_option maxRecDepth 100000
set_option maxHeartbeats 1500000
def lawDue : Stmt := (fnBody lawStmt).getD 7 default
def lawFin : Stmt := (fnBody lawStmt).getD 9 default
theorem item_at {prog : Program} {w : World} {A : Around} {E : Value → Shared → Prop} {s : Shared} {value slice : PySem.Expr} {l : Addr} {arr : Array Value} {u : Tok} {k : Int} {i : Nat} {v : Value} {Q : Value → Shared → Prop} (hl : s.heap.IsList l arr) (hv : arr[i]? = some v) (hk : k = (i : Nat)) (hb : i < 100000) (h : Q v s)
    (hs : subscripted slice false (.ref l) (.int k u) = operate [.ref l, .int k u] (getItem (.ref l) (.int k u)) := by with_unfolding_all rfl) :
    wpAny (model prog w) A (subscriptTail value slice (.ref l) (.int k u)) Q E s := by
  subst hk
  have hlt : i < arr.size := by
    rcases Nat.lt_or_ge i arr.size with h | h
    · exact h
    · rw [Array.getElem?_eq_none h] at hv; cases hv
  exact tail_any hl.typeIs slot_list_getitem.lookup (wpAny_getItem_list hl (by omega) (by omega) (by simpa using hv) h) hs
theorem foldl_same {α β : Type} (b : β) : ∀ ns : List α, List.foldl (fun (l : β) (_ : α) => l) b ns = b
  | [] => rfl
  | _ :: ns => foldl_same b ns
theorem toNat0 (i : Nat) : Int.toNat (0 + (i : Int)) = i := by omega
theorem hasDiv_no {ns : List Int} {x : Int} (h : hasDiv ns x = false) (hp : ∀ m ∈ ns, 0 < m) {m : Int} (hm : m ∈ ns) : ¬ Int.fmod x m = 0 := fun e => by
  rw [fmod_pos (hp m hm)] at e
  have := (hasDiv_iff ns x).mpr ⟨m, hm, Int.dvd_of_emod_eq_zero e⟩
  rw [h] at this
  cases this
def pickG (x : Int) (l : List Int) (m : Int) : List Int := if Int.fmod x m = 0 then l ++ [m] else l
theorem pickG_ne (x : Int) : ∀ (ns l : List Int), l ≠ [] → ns.foldl (pickG x) l ≠ []
  | [], _, h => h
  | m :: ns, l, h => pickG_ne x ns _ (by
    unfold pickG
    split
    · simp
    · exact h)
theorem pickG_some (x : Int) : ∀ (ns l : List Int), (∀ m ∈ ns, 0 < m) → hasDiv ns x = true → ns.foldl (pickG x) l ≠ []
  | [], _, _, h => by cases h
  | m :: ns, l, hp, h => by
    show ns.foldl (pickG x) (pickG x l m) ≠ []
    by_cases hz : Int.fmod x m = 0
    · refine pickG_ne x ns _ ?_
      unfold pickG
      rw [if_pos hz]
      simp
    · refine pickG_some x ns _ (fun k hk => hp k (.tail _ hk)) ?_
      obtain ⟨d, hd, h'⟩ := (hasDiv_iff _ _).mp h
      rcases List.mem_cons.mp hd with rfl | hd
      · exact absurd (by rw [fmod_pos (hp _ (.head _))]; exact Int.emod_eq_zero_of_dvd h') hz
      · exact (hasDiv_iff _ _).mpr ⟨d, hd, h'⟩
theorem intsCons {ys : List Value} {ns : List Int} (h : IntsAre ys ns) (hn : ns ≠ []) : ∃ a t ys', ys = .int a t :: ys' := by
  cases h with
  | nil => exact absurd rfl hn
  | cons a t h => exact ⟨a, t, _, rfl⟩
end Mine
namespace Mine
open PySem PySem.W PySem.Calls PyProof.Rows
set_option maxRecDepth 100000
set_option maxHeartbeats 1500000
local macro_rules | `(tactic| walk_at "none 0") => `(tactic| fail)
local macro_rules | `(tactic| walk_at "none 1") => `(tactic| fail)
local macro_rules | `(tactic| walk_at "none 2") => `(tactic| fail)
local macro_rules | `(tactic| walk_at "none 3") => `(tactic| fail)
local macro_rules | `(tactic| walk_at "none 4") => `(tactic| fail)
local macro_rules | `(tactic| walk_at "none 5") => `(tactic| fail)
local macro_rules | `(tactic| walk_at "none 6") => `(tactic| fail)
local macro_rules | `(tactic| walk_at "none 7") => `(tactic| fail)
local macro_rules | `(tactic| walk_at "none 8") => `(tactic| fail)
local macro_rules | `(tactic| k_ne) => `(tactic| (refine neN ?_; (try dsimp only); first | exact NeF.l (by with_reducible assumption) | exact NeF.r (by with_reducible assumption) | omega))
local macro_rules | `(tactic| walk_at "subscriptTail") => `(tactic| (k_here; (with_reducible show wpAny _ _ (subscriptTail _ _ (Value.ref _) (Value.int _ _)) _ _ _); (with_unfolding_all refine' item_at ?k1 ?k2 ?k3 ?k4 ?_ ?k6; (case k1 => is_list); (case k2 => assumption); (case k3 => omega); (case k4 => omega); (case k6 => with_unfolding_all rfl); k_whole)))
local macro_rules | `(tactic| walk_at "ite") => `(tactic| (first | ((refine ite_neg ?h ?_); (case h => (simp only [beq_iff_eq, bne_iff_ne, ne_eq, decide_eq_true_eq, Bool.false_bne, Bool.true_bne, Bool.not_eq_true', decide_eq_false_iff_not, reduceCtorEq, not_false_eq_true]; first | done | omega))) | ((refine ite_pos ?h ?_); (case h => (simp only [beq_iff_eq, bne_iff_ne, ne_eq, decide_eq_true_eq, Bool.false_bne, Bool.true_bne, Bool.not_eq_true', decide_eq_false_iff_not, reduceCtorEq, not_false_eq_true]; first | done | omega)))))
local macro_rules | `(tactic| walk_at "eval ListComp") => `(tactic| (k_here; lct_look; lcg_calm; k_dflt (refine LCt.ListComp_T (F₀ := by k_asm) (by with_unfolding_all rfl) (by decide) (by rfl) (by decide) (by rfl) ?_)))
theorem due_no {w : World} {s : Shared} {mg mb : Str → Option Value} {mean : ExcName → Option Value} {loose : List Str} {base : Heap} {L fa DU ROW I nd i : Nat} {cd : Value} {vK : Option Value} {u : Str → Option Value}
  {oI oK oR : Obj} {ys dv : List Value} {ns dns : List Int} {t tx : Nat} {x : Int} {rst : List (Addr × Obj)} {R : Flow → Shared → Prop} {E : Value → Shared → Prop} {px : Pos} 
  (X' : (Mine.hd.heap_39 w.params).In base) (T' : Top topProg loose mean mg mb base) (K' : Below callerA base [] base) (codeHd : CodeHd base 63 59)
  (F' : Fr base L s.heap (fun y => if y = Str.ofString "due" then some (.ref DU) else u y))
  (N' : News base L s.heap ((I, oI) :: (DU, W.listOf dv.toArray nd) :: (L + 1 + 1, oK) :: (L + 1 + 1 + 1, oR) :: (ROW, LCg.lst ys) :: rst))
  (hoff : OwnOff rst [I, DU, L + 1 + 1, L + 1 + 1 + 1, ROW]) (hne : NeAll [I, DU, L + 1 + 1, L + 1 + 1 + 1, ROW])
  (dK : oK.data = .cell vK) (dR : oR.data = .cell (some (.ref ROW)))
  (hIy : IntsAre ys ns) (hly : ys.length = 24) (hi : i < 24) (hx : ys.toArray[i]? = some (.int x tx)) (hIt : IntsAre (ys.take i) (ns.take i)) (hdv : IntsAre dv dns) (hdl : dv.length ≤ 100) (hxp : 0 < x) (hps : ∀ m ∈ ns.take i, 0 < m)
  (hd : hasDiv (ns.take i) x = true)
  (hQ : ∀ h' tk' oK' news', Fr base L h' (fun y => if y = Str.ofString "due" then some (.ref DU) else u y) → News base L h' news' →
    (∀ p ∈ ([(I, oI), (DU, W.listOf dv.toArray nd), (L + 1 + 1, oK'), (L + 1 + 1 + 1, oR), (ROW, LCg.lst ys)] : List (Addr × Obj)), p ∈ news') → (∀ p ∈ rst, p ∈ news') → (∃ v, oK'.data = .cell v) → R .next { s with heap := h', toks := tk' }) :
  wpAny (model PySem.Challenge.rw_dn0266_02.row.prog w) (callerA.deeper (lawEnv L fa cd)) (assign (.Name (Str.ofString "k") px) (lawEnv L fa cd) (.int (0 + (i : Nat)) t)) (fun _ s₃ => wpAny (model PySem.Challenge.rw_dn0266_02.row.prog w) (callerA.deeper (lawEnv L fa cd)) (execs (forBody lawDue) (lawEnv L fa cd)) R E s₃) E s := by
  simp only [NeAll, NeTo, and_true] at hne
  obtain ⟨⟨n0_1, n0_2, n0_3, n0_4⟩, ⟨n1_2, n1_3, n1_4⟩, ⟨n2_3, n2_4⟩, n3_4⟩ := hne
  obtain ⟨hp, gs, dr, tk, os⟩ := s
  dsimp only at F' N'
  w_top off
  revert X'; k_fill; intro X'
  with_unfolding_all show wpAny _ _ _ (fun _ s₃ => wpAny _ _ (execs (_ :: _) _) _ _ s₃) _ _
  k_steps
  refine LCt.CompSrcT.ledger (by rfl) (by k_asm) (by k_asm) (by k_mem) (by size_fits) ?_
  intro g'
  rename IntsAre _ (List.take (Int.toNat _) _) => hW
  rw [toNat0 i] at hW
  refine kci_list (pickG x) hW (fun k' t' I' oI' C' oC' D' m' ys' l' h' tk' E' hk' hI' hC' hx' F' N' off' ne' hMark' => ?turn) ?fin ?grow
  case grow => exact (fun l m => by unfold pickG; split <;> simp)
  case turn =>
    obtain ⟨q1, q2, q3⟩ := ne'
    have offK := off'
    have hkp := hps k' hk'
    simp only [LCg.Off3, and_true] at off'
    by_cases hz : Int.fmod x k' = 0
    · have hG : pickG x l' k' = l' ++ [k'] := if_pos hz
      rw [hG]
      k_steps
      all_goals (first | exact ⟨_, _, _, rfl, by assumption, by assumption, offK, .inr ⟨_, .head _, rfl, _, rfl⟩, rfl, rfl⟩ | exact ⟨_, _, _, rfl, by assumption, by assumption, offK, .inr ⟨_, .head _, rfl, _, rfl⟩, rfl, _, _, rfl, rfl⟩)
    · have hG : pickG x l' k' = l' := if_neg hz
      rw [hG]
      k_steps
      all_goals (first | exact ⟨_, _, _, rfl, by assumption, by assumption, offK, .inr ⟨_, .head _, rfl, _, rfl⟩, rfl, rfl⟩ | exact ⟨_, _, _, rfl, by assumption, by assumption, offK, .inr ⟨_, .head _, rfl, _, rfl⟩, rfl, _, _, rfl, rfl⟩)
  case fin =>
    intro ys' hys hyl
    obtain ⟨a', ta', ys'', rfl⟩ := intsCons hys (pickG_some x _ _ hps hd)
    k_steps
    all_goals first | exact absurd (of_decide_eq_true (by assumption)) (pickG_some x _ _ hps hd) | (refine' hQ _ _ _ _ ?F ?N ?m ?r ?d; (case F => assumption); (case N => assumption); (case m => (with_unfolding_all k_allIn)); (case r => (intro p hp; k_ownIn)); (case d => exact ⟨_, by assumption⟩))
theorem due_yes {w : World} {s : Shared} {mg mb : Str → Option Value} {mean : ExcName → Option Value} {loose : List Str} {base : Heap} {L fa DU ROW I nd i : Nat} {cd : Value} {vK : Option Value} {u : Str → Option Value}
  {oI oK oR : Obj} {ys dv : List Value} {ns dns : List Int} {t tx : Nat} {x : Int} {rst : List (Addr × Obj)} {R : Flow → Shared → Prop} {E : Value → Shared → Prop} {px : Pos} 
  (X' : (Mine.hd.heap_39 w.params).In base) (T' : Top topProg loose mean mg mb base) (K' : Below callerA base [] base) (codeHd : CodeHd base 63 59)
  (F' : Fr base L s.heap (fun y => if y = Str.ofString "due" then some (.ref DU) else u y))
  (N' : News base L s.heap ((I, oI) :: (DU, W.listOf dv.toArray nd) :: (L + 1 + 1, oK) :: (L + 1 + 1 + 1, oR) :: (ROW, LCg.lst ys) :: rst))
  (hoff : OwnOff rst [I, DU, L + 1 + 1, L + 1 + 1 + 1, ROW]) (hne : NeAll [I, DU, L + 1 + 1, L + 1 + 1 + 1, ROW])
  (dK : oK.data = .cell vK) (dR : oR.data = .cell (some (.ref ROW)))
  (hIy : IntsAre ys ns) (hly : ys.length = 24) (hi : i < 24) (hx : ys.toArray[i]? = some (.int x tx)) (hIt : IntsAre (ys.take i) (ns.take i)) (hdv : IntsAre dv dns) (hdl : dv.length ≤ 100) (hxp : 0 < x) (hps : ∀ m ∈ ns.take i, 0 < m)
  (hd : hasDiv (ns.take i) x = false)
  (hQ : ∀ h' tk' oK' news', Fr base L h' (fun y => if y = Str.ofString "due" then some (.ref DU) else u y) → News base L h' news' →
    (∀ p ∈ ([(I, oI), (DU, W.listOf (dv.toArray.push (.int x tx)) (nd + 1)), (L + 1 + 1, oK'), (L + 1 + 1 + 1, oR), (ROW, LCg.lst ys)] : List (Addr × Obj)), p ∈ news') → (∀ p ∈ rst, p ∈ news') → (∃ v, oK'.data = .cell v) → R .next { s with heap := h', toks := tk' }) :
  wpAny (model PySem.Challenge.rw_dn0266_02.row.prog w) (callerA.deeper (lawEnv L fa cd)) (assign (.Name (Str.ofString "k") px) (lawEnv L fa cd) (.int (0 + (i : Nat)) t)) (fun _ s₃ => wpAny (model PySem.Challenge.rw_dn0266_02.row.prog w) (callerA.deeper (lawEnv L fa cd)) (execs (forBody lawDue) (lawEnv L fa cd)) R E s₃) E s := by
  simp only [NeAll, NeTo, and_true] at hne
  obtain ⟨⟨n0_1, n0_2, n0_3, n0_4⟩, ⟨n1_2, n1_3, n1_4⟩, ⟨n2_3, n2_4⟩, n3_4⟩ := hne
  obtain ⟨hp, gs, dr, tk, os⟩ := s
  dsimp only at F' N'
  w_top off
  revert X'; k_fill; intro X'
  with_unfolding_all show wpAny _ _ _ (fun _ s₃ => wpAny _ _ (execs (_ :: _) _) _ _ s₃) _ _
  k_steps
  refine LCt.CompSrcT.ledger (by rfl) (by k_asm) (by k_asm) (by k_mem) (by size_fits) ?_
  intro g'
  rename IntsAre _ (List.take (Int.toNat _) _) => hW
  rw [toNat0 i] at hW
  refine kci_list (fun l _ => l) hW (fun k' t' I' oI' C' oC' D' m' ys' l' h' tk' E' hk' hI' hC' hx' F' N' off' ne' hMark' => ?turn) ?fin ?grow
  case grow => exact (fun l _ => Nat.le_succ _)
  case turn =>
    obtain ⟨q1, q2, q3⟩ := ne'
    have offK := off'
    have hkp := hps k' hk'
    simp only [LCg.Off3, and_true] at off'
    have hz := hasDiv_no hd hps hk'
    k_steps
    all_goals (first | exact ⟨_, _, _, rfl, by assumption, by assumption, offK, .inr ⟨_, .head _, rfl, _, rfl⟩, rfl, rfl⟩ | exact ⟨_, _, _, rfl, by assumption, by assumption, offK, .inr ⟨_, .head _, rfl, _, rfl⟩, rfl, _, _, rfl, rfl⟩)
  case fin =>
    intro ys' hys hyl
    (have e0 : List.foldl (fun (l : List Int) (_ : Int) => l) [] (List.take i ns) = [] := foldl_same _ _); rw [e0] at hys; obtain rfl := IntsAre.nil_inv hys
    k_steps
    all_goals first | exact absurd (of_decide_eq_true (by assumption)) (pickG_some x _ _ hps hd) | (refine' hQ _ _ _ _ ?F ?N ?m ?r ?d; (case F => assumption); (case N => assumption); (case m => (with_unfolding_all k_allIn)); (case r => (intro p hp; k_ownIn)); (case d => exact ⟨_, by assumption⟩))
end Mine
namespace Mine
open PySem PySem.W PySem.Calls PyProof.Rows
set_option maxRecDepth 100000
set_option maxHeartbeats 400000
theorem dueL_len : ∀ (l pre : List Int), (dueL pre l).length ≤ l.length
  | [], _ => Nat.le_refl _
  | x :: r, pre => by
    unfold dueL
    by_cases h : hasDiv pre x = true
    · rw [if_pos h]; exact Nat.le_succ_of_le (dueL_len r _)
    · rw [if_neg h]; exact Nat.succ_le_succ (dueL_len r _)
theorem intsTake : ∀ {vs : List Value} {ns : List Int} (i : Nat), IntsAre vs ns → IntsAre (vs.take i) (ns.take i)
  | _, _, 0, _ => .nil
  | _, _, _ + 1, .nil => .nil
  | _, _, i + 1, .cons a t h => .cons a t (intsTake i h)
theorem intsGet : ∀ {vs : List Value} {ns : List Int} (i : Nat), IntsAre vs ns → i < ns.length → ∃ x t, ns[i]? = some x ∧ vs[i]? = some (.int x t)
  | _, _, _, .nil, h => absurd h (Nat.not_lt_zero _)
  | _, _, 0, .cons a t _, _ => ⟨a, t, rfl, rfl⟩
  | _, _, i + 1, .cons _ _ h, hl => intsGet i h (Nat.lt_of_succ_lt_succ hl)
section
variable {w : World} {s : Shared} {mg mb : Str → Option Value} {mean : ExcName → Option Value} {loose : List Str} {base : Heap} {L fa DU ROW nd : Nat} {cd : Value} {u : Str → Option Value}
  {oK oR : Obj} {ys : List Value} {ns : List Int} {rst : List (Addr × Obj)} {Q : Flow → Shared → Prop} {E : Value → Shared → Prop} {px : Pos}
def JDue (L DU ROW : Nat) (u : Str → Option Value) (oR : Obj) (ys : List Value) (ns : List Int) (rst : List (Addr × Obj)) (i : Nat) (m : Str → Option Value) (nx : List (Addr × Obj)) : Prop :=
  m = (fun y => if y = Str.ofString "due" then some (.ref DU) else u y) ∧ ∃ dv nd oK, IntsAre dv (dueK ns i) ∧ (∃ v, oK.data = .cell v) ∧ nx = (DU, W.listOf dv.toArray nd) :: (L + 1 + 1, oK) :: (L + 1 + 1 + 1, oR) :: (ROW, LCg.lst ys) :: rst
theorem due_turn {i t I : Nat} {m₁ : Str → Option Value} {nx : List (Addr × Obj)} {oI : Obj} (X' : (Mine.hd.heap_39 w.params).In base) (T' : Top topProg loose mean mg mb base) (K' : Below callerA base [] base) (codeHd : CodeHd base 63 59)
    (hoff : OwnOff rst [DU, L + 1 + 1, L + 1 + 1 + 1, ROW]) (hne : NeAll [DU, L + 1 + 1, L + 1 + 1 + 1, ROW]) (dR : oR.data = .cell (some (.ref ROW))) (hIy : IntsAre ys ns) (hln : ns.length = 24) (hp : ∀ m ∈ ns, 0 < m) (hi : i < 24)
    (hJ : JDue L DU ROW u oR ys ns rst i m₁ nx) (hI : ∀ p ∈ nx, p.1 ≠ I) (F₁ : Fr base L s.heap m₁) (N₁ : News base L s.heap ((I, oI) :: nx)) :
    wpAny (model PySem.Challenge.rw_dn0266_02.row.prog w) (callerA.deeper (lawEnv L fa cd)) (assign (.Name (Str.ofString "k") px) (lawEnv L fa cd) (.int (0 + (i : Nat)) t))
      (fun _ s₃ => wpAny (model PySem.Challenge.rw_dn0266_02.row.prog w) (callerA.deeper (lawEnv L fa cd)) (execs (forBody lawDue) (lawEnv L fa cd)) (LtPost base L (JDue L DU ROW u oR ys ns rst (i + 1)) I oI s) E s₃) E s := by
  obtain ⟨rfl, dv, nd, oK, hdv, ⟨vK, dK⟩, rfl⟩ := hJ
  obtain ⟨x, tx, hx, hv⟩ := intsGet i hIy (by omega)
  have hly := intsAre_len hIy
  have hxp : 0 < x := hp x (List.mem_of_getElem? hx)
  have hps : ∀ m ∈ ns.take i, 0 < m := fun m hm => hp m (List.mem_of_mem_take hm)
  have hdl : dv.length ≤ 100 := by
    rw [intsAre_len hdv]
    have := dueL_len (ns.take i) []
    rw [List.length_take] at this
    unfold dueK
    omega
  have hv' : ys.toArray[i]? = some (.int x tx) := by simpa using hv
  have hoff5 : OwnOff rst [I, DU, L + 1 + 1, L + 1 + 1 + 1, ROW] := by
    intro p hp b hb
    rcases List.mem_cons.mp hb with rfl | hb
    · exact hI p (.tail _ (.tail _ (.tail _ (.tail _ hp))))
    · exact hoff p hp b hb
  have hne5 : NeAll [I, DU, L + 1 + 1, L + 1 + 1 + 1, ROW] := by
    refine ⟨?_, hne⟩
    simp only [NeTo, and_true]
    exact ⟨Ne.symm (hI _ (.head _)), Ne.symm (hI _ (.tail _ (.head _))), Ne.symm (hI _ (.tail _ (.tail _ (.head _)))), Ne.symm (hI _ (.tail _ (.tail _ (.tail _ (.head _)))))⟩
  have fin : ∀ (dv' : List Value) (nd' : Nat) (h' : Heap) (tk' : Nat) (oK' : Obj) (news' : List (Addr × Obj)), IntsAre dv' (dueK ns (i + 1)) → Fr base L h' (fun y => if y = Str.ofString "due" then some (.ref DU) else u y) → News base L h' news' →
      (∀ p ∈ ([(I, oI), (DU, W.listOf dv'.toArray nd'), (L + 1 + 1, oK'), (L + 1 + 1 + 1, oR), (ROW, LCg.lst ys)] : List (Addr × Obj)), p ∈ news') → (∀ p ∈ rst, p ∈ news') → (∃ v, oK'.data = .cell v) →
      LtPost base L (JDue L DU ROW u oR ys ns rst (i + 1)) I oI s .next { s with heap := h', toks := tk' } := by
    intro dv' nd' h' tk' oK' news' hd' F' N' hm hr dK'
    refine ⟨rfl, h', tk', _, news', (DU, W.listOf dv'.toArray nd') :: (L + 1 + 1, oK') :: (L + 1 + 1 + 1, oR) :: (ROW, LCg.lst ys) :: rst, rfl, F', N', ?_, hm _ (.head _), ?_, rfl, dv', nd', oK', hd', dK', rfl⟩
    · intro p hp
      rcases List.mem_append.mp (show p ∈ [(DU, W.listOf dv'.toArray nd'), (L + 1 + 1, oK'), (L + 1 + 1 + 1, oR), (ROW, LCg.lst ys)] ++ rst from hp) with hp | hp
      · exact hm p (.tail _ hp)
      · exact hr p hp
    · intro p hp
      rcases List.mem_append.mp (show p ∈ [(DU, W.listOf dv'.toArray nd'), (L + 1 + 1, oK'), (L + 1 + 1 + 1, oR), (ROW, LCg.lst ys)] ++ rst from hp) with hp | hp
      · simp only [List.mem_cons, List.not_mem_nil, or_false] at hp
        rcases hp with rfl | rfl | rfl | rfl
        · exact hI (DU, W.listOf dv.toArray nd) (.head _)
        · exact hI (L + 1 + 1, oK) (.tail _ (.head _))
        · exact hI _ (.tail _ (.tail _ (.head _)))
        · exact hI _ (.tail _ (.tail _ (.tail _ (.head _))))
      · exact hI p (.tail _ (.tail _ (.tail _ (.tail _ hp))))
  by_cases hd : hasDiv (ns.take i) x = true
  · have e := dueK_succ hx
    rw [if_pos hd] at e
    refine due_no (i := i) (px := px) X' T' K' codeHd F₁ N₁ hoff5 hne5 dK dR hIy (by omega) hi hv' (intsTake i hIy) hdv hdl hxp hps hd ?_
    intro h' tk' oK' news' F' N' hm hr dK'
    exact fin dv nd h' tk' oK' news' (e ▸ hdv) F' N' hm hr dK'
  · have e := dueK_succ hx
    rw [if_neg hd] at e
    refine due_yes (i := i) (px := px) X' T' K' codeHd F₁ N₁ hoff5 hne5 dK dR hIy (by omega) hi hv' (intsTake i hIy) hdv hdl hxp hps (Bool.eq_false_iff.mpr hd) ?_
    intro h' tk' oK' news' F' N' hm hr dK'
    rw [push_toArray] at hm
    exact fin (dv ++ [Value.int x tx]) (nd + 1) h' tk' oK' news' (by rw [e]; exact hdv.append (.cons _ _ .nil)) F' N' hm hr dK'
theorem due_loop {r : Addr} {b₀ : Int} {t₀ u₀ v₀ : Tok} {vK : Option Value} (X' : (Mine.hd.heap_39 w.params).In base) (T' : Top topProg loose mean mg mb base) (K' : Below callerA base [] base) (codeHd : CodeHd base 63 59)
    (hr : IsRange s.heap r 0 b₀ 1 t₀ u₀ v₀) (hb : b₀ = 24)
    (F : Fr base L s.heap (fun y => if y = Str.ofString "due" then some (.ref DU) else u y)) (N : News base L s.heap ((DU, W.listOf #[] nd) :: (L + 1 + 1, oK) :: (L + 1 + 1 + 1, oR) :: (ROW, LCg.lst ys) :: rst))
    (hoff : OwnOff rst [DU, L + 1 + 1, L + 1 + 1 + 1, ROW]) (hne : NeAll [DU, L + 1 + 1, L + 1 + 1 + 1, ROW]) (dK : oK.data = .cell vK) (dR : oR.data = .cell (some (.ref ROW))) (hIy : IntsAre ys ns) (hln : ns.length = 24) (hp : ∀ m ∈ ns, 0 < m)
    (done : ∀ dv nd' oK' h' tk', IntsAre dv (dueL [] ns) → dv.length ≤ 24 → Fr base L h' (fun y => if y = Str.ofString "due" then some (.ref DU) else u y) → News base L h' ((DU, W.listOf dv.toArray nd') :: (L + 1 + 1, oK') :: (L + 1 + 1 + 1, oR) :: (ROW, LCg.lst ys) :: rst) → (∃ v, oK'.data = .cell v) → Q .next { s with heap := h', toks := tk' }) :
    wpAny (model PySem.Challenge.rw_dn0266_02.row.prog w) (callerA.deeper (lawEnv L fa cd)) (pyIter (.ref r)) (fun it s₂ => LoopAtT PySem.Challenge.rw_dn0266_02.row.prog w (callerA.deeper (lawEnv L fa cd)) base (lawEnv L fa cd) (.Name (Str.ofString "k") px) (forBody lawDue) Q E it s₂) E s := by
  subst hb
  refine range_invT (n := 24) (JDue L DU ROW u oR ys ns rst) rfl hr (by decide) (by decide) F N ⟨rfl, [], nd, oK, .nil, ⟨_, dK⟩, rfl⟩ ?_ ?_
  · intro i t m₁ nx s₁ I oI hi hJ hI F₁ N₁
    exact due_turn X' T' K' codeHd hoff hne dR hIy hln hp hi hJ hI F₁ N₁
  · intro m₁ nx h tk hJ F₁ N₁
    obtain ⟨rfl, dv, nd', oK', hdv, dK', rfl⟩ := hJ
    have e : dueK ns 24 = dueL [] ns := by unfold dueK; rw [List.take_of_length_le (by omega)]
    rw [e] at hdv
    refine done dv nd' oK' h tk hdv ?_ F₁ N₁ dK'
    rw [intsAre_len hdv]
    have := dueL_len ns []
    omega
end
end Mine
namespace Mine
open PySem PySem.W PySem.Calls PyProof.Rows
set_option maxRecDepth 100000
set_option maxHeartbeats 400000
def NextFin (w : World) (base : Heap) (L fa : Addr) (cd : Value) (S : Nat → List (Addr × Obj) → Prop) (H : Nat) : Prop :=
  ∀ (c : Nat) (rst named : List (Addr × Obj)) (s : Shared) (m : Str → Option Value) (Q : Value → Shared → Prop) (E : Value → Shared → Prop), S c rst → c < 800 → OwnOff rst (named.map (·.1)) → Fr base L s.heap m → News base L s.heap (named ++ rst) →
    (∀ h' tk' rst', Fr base L h' m → News base L h' (named ++ rst') → OwnOff rst' (named.map (·.1)) → S (c + 1) rst' → Q .none { s with heap := h', toks := tk' }) →
    wpAny (model PySem.Challenge.rw_dn0266_02.row.prog w) (callerA.deeper (lawEnv L fa cd)) (call (.builtin "next") [.ref H, .none]) Q E s
theorem nextFin_use {w : World} {base : Heap} {L fa : Addr} {cd : Value} {S : Nat → List (Addr × Obj) → Prop} {H c : Nat} {rst named news : List (Addr × Obj)} {adr : List Addr} {s : Shared} {m : Str → Option Value} {Q : Value → Shared → Prop} {E : Value → Shared → Prop}
    (I : NextFin w base L fa cd S H) (hS : S c rst) (hc : c < 800) (F : Fr base L s.heap m) (N : News base L s.heap news) (e : news = named ++ rst) (ea : named.map (·.1) = adr) (ho : OwnOff rst adr)
    (k : ∀ h' tk' rst', Fr base L h' m → News base L h' (named ++ rst') → OwnOff rst' adr → S (c + 1) rst' → Q .none { s with heap := h', toks := tk' }) :
    wpAny (model PySem.Challenge.rw_dn0266_02.row.prog w) (callerA.deeper (lawEnv L fa cd)) (call (.builtin "next") [.ref H, .none]) Q E s :=
  I c rst named s m Q E hS hc (ea.symm ▸ ho) F (e ▸ N) (fun h' tk' rst' F' N' o' S' => k h' tk' rst' F' N' (ea ▸ o') S')
theorem ends0 {α : Type} (rest : List α) : rest = [] ++ rest := rfl
def AskFin (S : Nat → List (Addr × Obj) → Prop) (A : Nat) (sz : Int) : Prop := ∀ c rst, S c rst → ∃ va na nas, (A, W.listOf va.toArray na) ∈ rst ∧ IntsAre va nas ∧ (∀ x ∈ nas, x = sz) ∧ nas.length ≤ c
end Mine
namespace Mine
open PySem PySem.W PySem.Calls PyProof.Rows
set_option maxRecDepth 100000
set_option maxHeartbeats 1500000
local macro_rules | `(tactic| walk_at "none 0") => `(tactic| fail)
local macro_rules | `(tactic| walk_at "none 1") => `(tactic| fail)
local macro_rules | `(tactic| walk_at "none 2") => `(tactic| fail)
local macro_rules | `(tactic| walk_at "none 3") => `(tactic| fail)
local macro_rules | `(tactic| walk_at "none 4") => `(tactic| fail)
local macro_rules | `(tactic| walk_at "none 5") => `(tactic| fail)
local macro_rules | `(tactic| walk_at "none 6") => `(tactic| fail)
local macro_rules | `(tactic| walk_at "none 7") => `(tactic| fail)
local macro_rules | `(tactic| walk_at "none 8") => `(tactic| fail)
local macro_rules | `(tactic| k_ne) => `(tactic| (refine neN ?_; (try dsimp only); first | exact NeF.l (by with_reducible assumption) | exact NeF.r (by with_reducible assumption) | omega))
local macro_rules | `(tactic| walk_at "subscriptTail") => `(tactic| (k_here; (with_reducible show wpAny _ _ (subscriptTail _ _ (Value.ref _) (Value.int _ _)) _ _ _); (with_unfolding_all refine' item_at ?k1 ?k2 ?k3 ?k4 ?_ ?k6; (case k1 => is_list); (case k2 => assumption); (case k3 => omega); (case k4 => omega); (case k6 => with_unfolding_all rfl); k_whole)))
local macro_rules | `(tactic| walk_at "ite") => `(tactic| (first | ((refine ite_neg ?h ?_); (case h => (simp only [beq_iff_eq, bne_iff_ne, ne_eq, decide_eq_true_eq, Bool.false_bne, Bool.true_bne, Bool.not_eq_true', decide_eq_false_iff_not, reduceCtorEq, not_false_eq_true]; first | done | omega))) | ((refine ite_pos ?h ?_); (case h => (simp only [beq_iff_eq, bne_iff_ne, ne_eq, decide_eq_true_eq, Bool.false_bne, Bool.true_bne, Bool.not_eq_true', decide_eq_false_iff_not, reduceCtorEq, not_false_eq_true]; first | done | omega)))))
local macro_rules | `(tactic| walk_at "eval ListComp") => `(tactic| (k_here; lct_look; lcg_calm; k_dflt (refine LCt.ListComp_T (F₀ := by k_asm) (by with_unfolding_all rfl) (by decide) (by rfl) (by decide) (by rfl) ?_)))
local macro_rules | `(tactic| walk_at "call builtin:next") => `(tactic| (k_here; (with_reducible show wpAny _ _ (call (Value.builtin "next") [Value.ref _, _]) _ _ _); (refine' nextFin_use ?I ?S ?c ?F ?N ?e ?ea ?o ?_; (case I => assumption); (case F => k_asm); (case N => k_asm); (case e => exact ends_cons (ends_cons (ends_cons (ends_cons (ends_cons (ends_cons (ends0 _))))))); (case ea => exact rfl); (case S => assumption); (case c => omega); (case o => assumption); k_whole); intro h' tk' rst' F' N' hoff' hS'; (simp only [List.cons_append, List.nil_append] at N')))
theorem fin_zero {w : World} {s : Shared} {mg mb : Str → Option Value} {mean : ExcName → Option Value} {loose : List Str} {base : Heap} {L fa HA AS KE I nh na nk i j H A c : Nat} {cd : Value} {vK vZ : Option Value} {u : Str → Option Value}
  {oI oK oZ : Obj} {hvs avs kv : List Value} {t tz : Nat} {sz : Int} {rst : List (Addr × Obj)} {S : Nat → List (Addr × Obj) → Prop} {R : Flow → Shared → Prop} {E : Value → Shared → Prop} {px : Pos} 
  (X' : (Mine.hd.heap_39 w.params).In base) (T' : Top topProg loose mean mg mb base) (K' : Below callerA base [] base) (codeHd : CodeHd base 63 59)
  (F' : Fr base L s.heap (fun y => if y = Str.ofString "kept" then some (.ref KE) else if y = Str.ofString "hands" then some (.ref HA) else if y = Str.ofString "asked" then some (.ref AS) else u y))
  (N' : News base L s.heap ((I, oI) :: (L + 1 + 1, oK) :: (L + 1 + 1 + 1 + 1, oZ) :: (HA, W.listOf hvs.toArray nh) :: (AS, W.listOf avs.toArray na) :: (KE, W.listOf kv.toArray nk) :: rst))
  (hoff : OwnOff rst [I, L + 1 + 1, L + 1 + 1 + 1 + 1, HA, AS, KE]) (hne : NeAll [I, L + 1 + 1, L + 1 + 1 + 1 + 1, HA, AS, KE])
  (dK : oK.data = .cell vK) (dZ : oZ.data = .cell vZ) (hi : i < 100) (hH : hvs.toArray[i]? = some (.ref H)) (hA : avs.toArray[i]? = some (.ref A))
  (hI : NextFin w base L fa cd S H) (hS : S c rst) (hc : c < 700) (hask : AskFin S A sz)
  (hi0 : i = 0) (hsz : sz = 1)
  (hQ : ∀ h' tk' oK' oZ' news' rst', Fr base L h' (fun y => if y = Str.ofString "kept" then some (.ref KE) else if y = Str.ofString "hands" then some (.ref HA) else if y = Str.ofString "asked" then some (.ref AS) else u y) → News base L h' news' →
    (∀ p ∈ ([(I, oI), (L + 1 + 1, oK'), (L + 1 + 1 + 1 + 1, oZ'), (HA, W.listOf hvs.toArray nh), (AS, W.listOf avs.toArray na), (KE, W.listOf kv.toArray nk)] : List (Addr × Obj)), p ∈ news') → (∀ p ∈ rst', p ∈ news') → (∃ v, oK'.data = .cell v) → (∃ v, oZ'.data = .cell v) →
    OwnOff rst' [I, L + 1 + 1, L + 1 + 1 + 1 + 1, HA, AS, KE] → S (c + 1 + 1) rst' → R .next { s with heap := h', toks := tk' }) :
  wpAny (model PySem.Challenge.rw_dn0266_02.row.prog w) (callerA.deeper (lawEnv L fa cd)) (assign (.Name (Str.ofString "k") px) (lawEnv L fa cd) (.int (0 + (i : Nat)) t)) (fun _ s₃ => wpAny (model PySem.Challenge.rw_dn0266_02.row.prog w) (callerA.deeper (lawEnv L fa cd)) (execs (forBody lawFin) (lawEnv L fa cd)) R E s₃) E s := by
  simp only [NeAll, NeTo, and_true] at hne
  obtain ⟨⟨n0_1, n0_2, n0_3, n0_4, n0_5⟩, ⟨n1_2, n1_3, n1_4, n1_5⟩, ⟨n2_3, n2_4, n2_5⟩, ⟨n3_4, n3_5⟩, n4_5⟩ := hne
  obtain ⟨hp, gs, dr, tk, os⟩ := s
  dsimp only at F' N'
  w_top off
  revert X'; k_fill; intro X'
  with_unfolding_all show wpAny _ _ _ (fun _ s₃ => wpAny _ _ (execs (_ :: _) _) _ _ s₃) _ _
  k_steps
  all_goals (first | done | skip)
  rename S (c + 1 + 1) _ => hS2
  obtain ⟨va', na', nas', hvm, hvi, hvz, hvl⟩ := hask _ _ hS2
  have hval := intsAre_len hvi
  refine LCt.CompSrcT.ledger (by rfl) (by k_asm) (by k_asm) (.tail _ (.tail _ (.tail _ (.tail _ (.tail _ (.tail _ hvm)))))) (by (show va'.length ≤ _; rw [PySem.sizeLine_eq]; omega)) ?_
  intro g'
  refine kci_list (fun l _ => l) hvi (fun k' t' I' oI' C' oC' D' m' ys' l' h' tk' E' hk' hI' hC' hx' F' N' off' ne' hMark' => ?turn) ?fin (fun l _ => Nat.le_succ _)
  case turn =>
    obtain ⟨q1, q2, q3⟩ := ne'
    have offK := off'
    simp only [LCg.Off3, and_true] at off'
    have hz := hvz k' hk'
    k_steps
    all_goals (first | exact ⟨_, _, _, rfl, by assumption, by assumption, offK, .inr ⟨_, .tail _ (.tail _ (.tail _ (.tail _ (.tail _ (.tail _ hvm))))), rfl, _, rfl⟩, rfl, rfl⟩)
  case fin =>
    intro ys' hys hyl
    (have e0 : List.foldl (fun (l : List Int) (_ : Int) => l) [] nas' = [] := foldl_same _ _)
    rw [e0] at hys
    obtain rfl := IntsAre.nil_inv hys
    k_steps
    all_goals (refine' hQ _ _ _ _ _ _ ?F ?N ?m ?r ?d ?z ?o ?S; (case F => assumption); (case N => assumption); (case S => assumption); (case o => assumption); (case m => (with_unfolding_all k_allIn)); (case r => (intro p hp; k_ownIn)); (case d => exact ⟨_, by assumption⟩); (case z => exact ⟨_, by assumption⟩))
theorem fin_pos {w : World} {s : Shared} {mg mb : Str → Option Value} {mean : ExcName → Option Value} {loose : List Str} {base : Heap} {L fa HA AS KE I nh na nk i j H A c : Nat} {cd : Value} {vK vZ : Option Value} {u : Str → Option Value}
  {oI oK oZ : Obj} {hvs avs kv : List Value} {t tz : Nat} {sz : Int} {rst : List (Addr × Obj)} {S : Nat → List (Addr × Obj) → Prop} {R : Flow → Shared → Prop} {E : Value → Shared → Prop} {px : Pos} 
  (X' : (Mine.hd.heap_39 w.params).In base) (T' : Top topProg loose mean mg mb base) (K' : Below callerA base [] base) (codeHd : CodeHd base 63 59)
  (F' : Fr base L s.heap (fun y => if y = Str.ofString "kept" then some (.ref KE) else if y = Str.ofString "hands" then some (.ref HA) else if y = Str.ofString "asked" then some (.ref AS) else u y))
  (N' : News base L s.heap ((I, oI) :: (L + 1 + 1, oK) :: (L + 1 + 1 + 1 + 1, oZ) :: (HA, W.listOf hvs.toArray nh) :: (AS, W.listOf avs.toArray na) :: (KE, W.listOf kv.toArray nk) :: rst))
  (hoff : OwnOff rst [I, L + 1 + 1, L + 1 + 1 + 1 + 1, HA, AS, KE]) (hne : NeAll [I, L + 1 + 1, L + 1 + 1 + 1 + 1, HA, AS, KE])
  (dK : oK.data = .cell vK) (dZ : oZ.data = .cell vZ) (hi : i < 100) (hH : hvs.toArray[i]? = some (.ref H)) (hA : avs.toArray[i]? = some (.ref A))
  (hI : NextFin w base L fa cd S H) (hS : S c rst) (hc : c < 700) (hask : AskFin S A sz)
  (hi0 : i = j + 1) (hkp : kv.toArray[j]? = some (.int sz tz))
  (hQ : ∀ h' tk' oK' oZ' news' rst', Fr base L h' (fun y => if y = Str.ofString "kept" then some (.ref KE) else if y = Str.ofString "hands" then some (.ref HA) else if y = Str.ofString "asked" then some (.ref AS) else u y) → News base L h' news' →
    (∀ p ∈ ([(I, oI), (L + 1 + 1, oK'), (L + 1 + 1 + 1 + 1, oZ'), (HA, W.listOf hvs.toArray nh), (AS, W.listOf avs.toArray na), (KE, W.listOf kv.toArray nk)] : List (Addr × Obj)), p ∈ news') → (∀ p ∈ rst', p ∈ news') → (∃ v, oK'.data = .cell v) → (∃ v, oZ'.data = .cell v) →
    OwnOff rst' [I, L + 1 + 1, L + 1 + 1 + 1 + 1, HA, AS, KE] → S (c + 1 + 1) rst' → R .next { s with heap := h', toks := tk' }) :
  wpAny (model PySem.Challenge.rw_dn0266_02.row.prog w) (callerA.deeper (lawEnv L fa cd)) (assign (.Name (Str.ofString "k") px) (lawEnv L fa cd) (.int (0 + (i : Nat)) t)) (fun _ s₃ => wpAny (model PySem.Challenge.rw_dn0266_02.row.prog w) (callerA.deeper (lawEnv L fa cd)) (execs (forBody lawFin) (lawEnv L fa cd)) R E s₃) E s := by
  simp only [NeAll, NeTo, and_true] at hne
  obtain ⟨⟨n0_1, n0_2, n0_3, n0_4, n0_5⟩, ⟨n1_2, n1_3, n1_4, n1_5⟩, ⟨n2_3, n2_4, n2_5⟩, ⟨n3_4, n3_5⟩, n4_5⟩ := hne
  obtain ⟨hp, gs, dr, tk, os⟩ := s
  dsimp only at F' N'
  w_top off
  revert X'; k_fill; intro X'
  with_unfolding_all show wpAny _ _ _ (fun _ s₃ => wpAny _ _ (execs (_ :: _) _) _ _ s₃) _ _
  k_steps
  all_goals (first | done | skip)
  rename S (c + 1 + 1) _ => hS2
  obtain ⟨va', na', nas', hvm, hvi, hvz, hvl⟩ := hask _ _ hS2
  have hval := intsAre_len hvi
  refine LCt.CompSrcT.ledger (by rfl) (by k_asm) (by k_asm) (.tail _ (.tail _ (.tail _ (.tail _ (.tail _ (.tail _ hvm)))))) (by (show va'.length ≤ _; rw [PySem.sizeLine_eq]; omega)) ?_
  intro g'
  refine kci_list (fun l _ => l) hvi (fun k' t' I' oI' C' oC' D' m' ys' l' h' tk' E' hk' hI' hC' hx' F' N' off' ne' hMark' => ?turn) ?fin (fun l _ => Nat.le_succ _)
  case turn =>
    obtain ⟨q1, q2, q3⟩ := ne'
    have offK := off'
    simp only [LCg.Off3, and_true] at off'
    have hz := hvz k' hk'
    k_steps
    all_goals (first | exact ⟨_, _, _, rfl, by assumption, by assumption, offK, .inr ⟨_, .tail _ (.tail _ (.tail _ (.tail _ (.tail _ (.tail _ hvm))))), rfl, _, rfl⟩, rfl, rfl⟩)
  case fin =>
    intro ys' hys hyl
    (have e0 : List.foldl (fun (l : List Int) (_ : Int) => l) [] nas' = [] := foldl_same _ _)
    rw [e0] at hys
    obtain rfl := IntsAre.nil_inv hys
    k_steps
    all_goals (refine' hQ _ _ _ _ _ _ ?F ?N ?m ?r ?d ?z ?o ?S; (case F => assumption); (case N => assumption); (case S => assumption); (case o => assumption); (case m => (with_unfolding_all k_allIn)); (case r => (intro p hp; k_ownIn)); (case d => exact ⟨_, by assumption⟩); (case z => exact ⟨_, by assumption⟩))
end Mine
namespace Mine
open PySem PySem.W PySem.Calls PyProof.Rows
set_option maxRecDepth 100000
set_option maxHeartbeats 400000
theorem hv_at (r0 : HR) : ∀ (us vs : List HR), (hvI r0 (us ++ vs) ++ [Value.ref (hTop r0 (us ++ vs)).H])[vs.length]? = some (.ref (hTop r0 vs).H)
  | [], vs => by
    rw [List.nil_append, List.getElem?_append_right (by rw [hvI_len]; exact Nat.le_refl _), hvI_len]
    simp
  | u :: us, vs => by
    have h := hv_at r0 us vs
    have hl : vs.length < (hvI r0 (us ++ vs) ++ [Value.ref (hTop r0 (us ++ vs)).H]).length := by
      rw [List.length_append, hvI_len, List.length_append]; simp; omega
    show ((hvI r0 (us ++ vs) ++ [Value.ref (hTop r0 (us ++ vs)).H]) ++ _)[vs.length]? = _
    rw [List.getElem?_append_left hl]
    exact h
theorem av_at (r0 : HR) : ∀ (us vs : List HR), (avL r0 (us ++ vs))[vs.length]? = some (.ref (hTop r0 vs).A)
  | [], [] => rfl
  | [], v :: vs => by
    show (avL r0 vs ++ [Value.ref v.A])[vs.length + 1]? = _
    rw [List.getElem?_append_right (by rw [avL_len]; exact Nat.le_refl _), avL_len]
    simp [hTop]
  | u :: us, vs => by
    have h := av_at r0 us vs
    have hl : vs.length < (avL r0 (us ++ vs)).length := by rw [avL_len, List.length_append]; omega
    show (avL r0 (us ++ vs) ++ [Value.ref u.A])[vs.length]? = _
    rw [List.getElem?_append_left hl]
    exact h
theorem kv_at {kv : List Value} (us vs : List HR) (v : HR) (h : IntsAre kv ((us ++ v :: vs).map (·.sz)).reverse) : ∃ t, kv[vs.length]? = some (.int v.sz t) := by
  have e : ((us ++ v :: vs).map (·.sz)).reverse[vs.length]? = some v.sz := by
    rw [List.map_append, List.reverse_append, List.map_cons, List.reverse_cons, List.append_assoc]
    rw [List.getElem?_append_right (by simp)]
    simp
  have hl : vs.length < ((us ++ v :: vs).map (·.sz)).reverse.length := by simp
  obtain ⟨x, t, h1, h2⟩ := intsGet vs.length h hl
  rw [e] at h1
  cases h1
  exact ⟨t, h2⟩
section
variable {w : World} {s : Shared} {mg mb : Str → Option Value} {mean : ExcName → Option Value} {loose : List Str} {base base0 : Heap} {L fa : Addr} {cd : Value} {u : Str → Option Value}
  {KE HA AS LF nh na nk : Nat} {r0 : HR} {G P : List (Addr × Obj)} {rs : List HR} {Q : Flow → Shared → Prop} {E : Value → Shared → Prop} {px : Pos} {kv : List Value}
def FinS (w : World) (mg : Str → Option Value) (LF : Addr) (r0 : HR) (rs : List HR) (P : List (Addr × Obj)) (c : Nat) (rst : List (Addr × Obj)) : Prop :=
  ∃ rest, rst = P ++ rest ∧ ChL w mg LF r0 rs [] c rest ∧ AdrOff (P.map (·.1)) (rest.map (·.1))
theorem fin_next {us vs : List HR} (X' : (Mine.hd.heap_39 w.params).In base) (T' : Top topProg loose mean mg mb base) (K' : Below callerA base [] base) (codeHd : CodeHd base0 56 52) (ok : OkL G LF r0 (us ++ vs)) (hl : vs.length ≤ 24) (hG : ∀ p ∈ G, p ∈ P) :
    NextFin w base L fa cd (FinS w mg LF r0 (us ++ vs) P) (hTop r0 vs).H := by
  intro c rst named s m Q E hS hc hoff F N k
  obtain ⟨rest, rfl, hC, ho⟩ := hS
  obtain ⟨up, rv, rfl, hv, hov, kk⟩ := ChL.cut hC
  have I := nextOk_L (loose := loose) (mean := mean) (mb := mb) (base := base) ⟨X', T'⟩ codeHd ok.tail
  have inR : ∀ y ∈ rv.map (·.1), y ∈ List.map (·.1) (up ++ rv) := fun y hy => by rw [List.map_append]; exact List.mem_append_right _ hy
  have hadr : AdrOff (List.map (·.1) (named ++ (P ++ up))) (rv.map (·.1)) := by
    intro y hy z hz
    rw [List.map_append, List.map_append] at hy
    rcases List.mem_append.mp hy with hy | hy
    · obtain ⟨q, hq, rfl⟩ := List.mem_map.mp hz
      exact (hoff q (List.mem_append_right _ (List.mem_append_right _ hq)) y hy).symm
    · rcases List.mem_append.mp hy with hy | hy
      · exact ho y hy z (inR z hz)
      · exact hov y hy z hz
  have N1 : News base L s.heap ((named ++ (P ++ up)) ++ rv) := by rw [List.append_assoc, List.append_assoc]; exact N
  refine nextOk_use (P := named ++ (P ++ up)) (outer := []) I F N1 rfl hv (by simp; omega) hadr ?_ X' T' K' rfl rfl ?_ ?_ ?_
  · intro p hp
    exact List.mem_append_right _ (List.mem_append_left _ (hG p hp))
  · show _ + 10 * vs.length + 10 < 600
    have : callerA.depth = 301 := rfl
    omega
  · show _ + 100 * vs.length + 100 < 9000
    have : callerA.units = 4 := rfl
    omega
  · intro h₀' h' tk' rv' c' tx kT F2 N2 hmap B2 X2 T2 hC2 hc2
    have F3 := turn_fr0 kT F2
    have N3 := turn_news0 kT N2
    have hc3 : c' = c + 1 := by simpa [nextOf, gain] using hc2
    subst hc3
    have emap : List.map (·.1) (P ++ (up ++ rv')) = List.map (·.1) (P ++ (up ++ rv)) := by rw [List.map_append, List.map_append, List.map_append, List.map_append, hmap]
    refine k h' tk' (P ++ (up ++ rv')) F3 (by rw [List.append_assoc, List.append_assoc] at N3; exact N3) ?_ ⟨up ++ rv', rfl, kk _ rv' (Nat.le_succ _) hC2 hmap, ?_⟩
    · intro p hp b hb
      have : p.1 ∈ List.map (·.1) (P ++ (up ++ rv)) := emap ▸ List.mem_map_of_mem hp
      obtain ⟨q, hq, e⟩ := List.mem_map.mp this
      rw [← e]
      exact hoff q hq b hb
    · rw [List.map_append, hmap, ← List.map_append]
      exact ho
theorem fin_ask {us vs : List HR} : AskFin (FinS w mg LF r0 (us ++ vs) P) (hTop r0 vs).A (hTop r0 vs).sz := by
  intro c rst hS
  obtain ⟨rest, rfl, hC, ho⟩ := hS
  obtain ⟨up, rv, rfl, hv, hov, kk⟩ := ChL.cut hC
  obtain ⟨va, na, nas, hm, ha, hn, _⟩ := hv.ask
  exact ⟨va, na, nas, List.mem_append_right _ (List.mem_append_right _ hm), ha.1, ha.2, hn⟩
theorem fin_zero_ask {c : Nat} {rst : List (Addr × Obj)} (hS : FinS w mg LF r0 rs P c rst) : ∃ (va : List Value) (na : Nat), (r0.A, W.listOf va.toArray na) ∈ rst ∧ va.length = c := by
  obtain ⟨rest, rfl, hC, ho⟩ := hS
  obtain ⟨up, rv, rfl, hv, hov, kk⟩ := ChL.cut (us := rs) (vs := []) (by rw [List.append_nil]; exact hC)
  obtain ⟨va, na, nas, hm, ha, hn, h0⟩ := hv.ask
  exact ⟨va, na, List.mem_append_right _ (List.mem_append_right _ hm), by rw [intsAre_len ha.1]; exact h0 rfl⟩
abbrev fM (KE HA AS : Nat) (u : Str → Option Value) : Str → Option Value := fun y => if y = Str.ofString "kept" then some (.ref KE) else if y = Str.ofString "hands" then some (.ref HA) else if y = Str.ofString "asked" then some (.ref AS) else u y
def JFin (w : World) (mg : Str → Option Value) (L KE HA AS LF nh na nk : Nat) (u : Str → Option Value) (r0 : HR) (rs : List HR) (P : List (Addr × Obj)) (kv : List Value) (i : Nat) (m : Str → Option Value) (nx : List (Addr × Obj)) : Prop :=
  m = fM KE HA AS u ∧ ∃ oK oZ rst c, (∃ v, oK.data = .cell v) ∧ (∃ v, oZ.data = .cell v) ∧ FinS w mg LF r0 rs P c rst ∧ 25 ≤ c ∧ c ≤ 25 + 2 * i ∧ OwnOff rst [L + 1 + 1, L + 1 + 1 + 1 + 1, HA, AS, KE] ∧
    nx = (L + 1 + 1, oK) :: (L + 1 + 1 + 1 + 1, oZ) :: (HA, W.listOf (hvI r0 rs ++ [Value.ref (hTop r0 rs).H]).toArray nh) :: (AS, W.listOf (avL r0 rs).toArray na) :: (KE, W.listOf kv.toArray nk) :: rst
theorem fin_turn {i t I : Nat} {m₁ : Str → Option Value} {nx : List (Addr × Obj)} {oI : Obj} (X' : (Mine.hd.heap_39 w.params).In base) (T' : Top topProg loose mean mg mb base) (K' : Below callerA base [] base) (codeHd : CodeHd base 63 59) (codeHd2 : CodeHd base0 56 52)
    (hne : NeAll [L + 1 + 1, L + 1 + 1 + 1 + 1, HA, AS, KE]) (ok : OkL G LF r0 rs) (hl : rs.length ≤ 24) (hG : ∀ p ∈ G, p ∈ P) (hk : IntsAre kv (rs.map (·.sz)).reverse) (h1 : r0.sz = 1) (hi : i < rs.length + 1)
    (hJ : JFin w mg L KE HA AS LF nh na nk u r0 rs P kv i m₁ nx) (hI : ∀ p ∈ nx, p.1 ≠ I) (F₁ : Fr base L s.heap m₁) (N₁ : News base L s.heap ((I, oI) :: nx)) :
    wpAny (model PySem.Challenge.rw_dn0266_02.row.prog w) (callerA.deeper (lawEnv L fa cd)) (assign (.Name (Str.ofString "k") px) (lawEnv L fa cd) (.int (0 + (i : Nat)) t))
      (fun _ s₃ => wpAny (model PySem.Challenge.rw_dn0266_02.row.prog w) (callerA.deeper (lawEnv L fa cd)) (execs (forBody lawFin) (lawEnv L fa cd)) (LtPost base L (JFin w mg L KE HA AS LF nh na nk u r0 rs P kv (i + 1)) I oI s) E s₃) E s := by
  obtain ⟨rfl, oK, oZ, rst, c, ⟨vK, dK⟩, ⟨vZ, dZ⟩, hS, hc1, hc2, hoff, rfl⟩ := hJ
  have hne6 : NeAll [I, L + 1 + 1, L + 1 + 1 + 1 + 1, HA, AS, KE] := by
    refine ⟨?_, hne⟩
    simp only [NeTo, and_true]
    exact ⟨Ne.symm (hI _ (.head _)), Ne.symm (hI _ (.tail _ (.head _))), Ne.symm (hI _ (.tail _ (.tail _ (.head _)))), Ne.symm (hI _ (.tail _ (.tail _ (.tail _ (.head _))))), Ne.symm (hI _ (.tail _ (.tail _ (.tail _ (.tail _ (.head _))))))⟩
  have hoff6 : OwnOff rst [I, L + 1 + 1, L + 1 + 1 + 1 + 1, HA, AS, KE] := by
    intro p hp b hb
    rcases List.mem_cons.mp hb with rfl | hb
    · exact hI p (.tail _ (.tail _ (.tail _ (.tail _ (.tail _ hp)))))
    · exact hoff p hp b hb
  have fin : ∀ (h' : Heap) (tk' : Nat) (oK' oZ' : Obj) (news' rst' : List (Addr × Obj)), Fr base L h' (fM KE HA AS u) → News base L h' news' →
      (∀ p ∈ ([(I, oI), (L + 1 + 1, oK'), (L + 1 + 1 + 1 + 1, oZ'), (HA, W.listOf (hvI r0 rs ++ [Value.ref (hTop r0 rs).H]).toArray nh), (AS, W.listOf (avL r0 rs).toArray na), (KE, W.listOf kv.toArray nk)] : List (Addr × Obj)), p ∈ news') → (∀ p ∈ rst', p ∈ news') → (∃ v, oK'.data = .cell v) → (∃ v, oZ'.data = .cell v) →
      OwnOff rst' [I, L + 1 + 1, L + 1 + 1 + 1 + 1, HA, AS, KE] → FinS w mg LF r0 rs P (c + 1 + 1) rst' →
      LtPost base L (JFin w mg L KE HA AS LF nh na nk u r0 rs P kv (i + 1)) I oI s .next { s with heap := h', toks := tk' } := by
    intro h' tk' oK' oZ' news' rst' F' N' hm hr dK' dZ' ho' hS'
    refine ⟨rfl, h', tk', _, news', (L + 1 + 1, oK') :: (L + 1 + 1 + 1 + 1, oZ') :: (HA, W.listOf (hvI r0 rs ++ [Value.ref (hTop r0 rs).H]).toArray nh) :: (AS, W.listOf (avL r0 rs).toArray na) :: (KE, W.listOf kv.toArray nk) :: rst', rfl, F', N', ?_, hm _ (.head _), ?_, rfl, oK', oZ', rst', c + 1 + 1, dK', dZ', hS', by omega, by omega, ?_, rfl⟩
    · intro p hp
      rcases List.mem_append.mp (show p ∈ [(L + 1 + 1, oK'), (L + 1 + 1 + 1 + 1, oZ'), (HA, W.listOf (hvI r0 rs ++ [Value.ref (hTop r0 rs).H]).toArray nh), (AS, W.listOf (avL r0 rs).toArray na), (KE, W.listOf kv.toArray nk)] ++ rst' from hp) with hp | hp
      · exact hm p (.tail _ hp)
      · exact hr p hp
    · intro p hp
      rcases List.mem_append.mp (show p ∈ [(L + 1 + 1, oK'), (L + 1 + 1 + 1 + 1, oZ'), (HA, W.listOf (hvI r0 rs ++ [Value.ref (hTop r0 rs).H]).toArray nh), (AS, W.listOf (avL r0 rs).toArray na), (KE, W.listOf kv.toArray nk)] ++ rst' from hp) with hp | hp
      · simp only [List.mem_cons, List.not_mem_nil, or_false] at hp
        rcases hp with rfl | rfl | rfl | rfl | rfl
        · exact hI (L + 1 + 1, oK) (.head _)
        · exact hI (L + 1 + 1 + 1 + 1, oZ) (.tail _ (.head _))
        · exact hI _ (.tail _ (.tail _ (.head _)))
        · exact hI _ (.tail _ (.tail _ (.tail _ (.head _))))
        · exact hI _ (.tail _ (.tail _ (.tail _ (.tail _ (.head _)))))
      · exact ho' p hp I (.head _)
    · intro p hp b hb
      exact ho' p hp b (.tail _ hb)
  obtain ⟨us, vs, hrs, hvl⟩ : ∃ us vs, rs = us ++ vs ∧ vs.length = i := ⟨rs.take (rs.length - i), rs.drop (rs.length - i), (List.take_append_drop _ _).symm, by rw [List.length_drop]; omega⟩
  subst hrs
  subst hvl
  have hH : (hvI r0 (us ++ vs) ++ [Value.ref (hTop r0 (us ++ vs)).H]).toArray[vs.length]? = some (.ref (hTop r0 vs).H) := by rw [List.getElem?_toArray]; exact hv_at r0 us vs
  have hA : (avL r0 (us ++ vs)).toArray[vs.length]? = some (.ref (hTop r0 vs).A) := by rw [List.getElem?_toArray]; exact av_at r0 us vs
  have hl' : vs.length ≤ 24 := by rw [List.length_append] at hl; omega
  have hNF := fin_next (L := L) (fa := fa) (cd := cd) (P := P) X' T' K' codeHd2 ok hl' hG
  have hAF := fin_ask (w := w) (mg := mg) (LF := LF) (r0 := r0) (us := us) (vs := vs) (P := P)
  have hc7 : c < 700 := by omega
  have hi1 : vs.length < 100 := by omega
  cases vs with
  | nil => exact fin_zero (px := px) (j := 0) (tz := 0) X' T' K' codeHd F₁ N₁ hoff6 hne6 dK dZ hi1 hH hA hNF hS hc7 hAF rfl h1 fin
  | cons v vs =>
    obtain ⟨tz, hkv⟩ := kv_at us vs v hk
    have hkv' : kv.toArray[vs.length]? = some (.int v.sz tz) := by rw [List.getElem?_toArray]; exact hkv
    exact fin_pos (px := px) (j := vs.length) X' T' K' codeHd F₁ N₁ hoff6 hne6 dK dZ hi1 hH hA hNF hS hc7 hAF rfl hkv' fin
theorem fin_loop {r c : Nat} {b₀ : Int} {t₀ u₀ v₀ : Tok} {oK oZ : Obj} {rst : List (Addr × Obj)} (X' : (Mine.hd.heap_39 w.params).In base) (T' : Top topProg loose mean mg mb base) (K' : Below callerA base [] base) (codeHd : CodeHd base 63 59) (codeHd2 : CodeHd base0 56 52)
    (hr : IsRange s.heap r 0 b₀ 1 t₀ u₀ v₀) (hb : b₀ = (rs.length : Int) + 1)
    (hne : NeAll [L + 1 + 1, L + 1 + 1 + 1 + 1, HA, AS, KE]) (ok : OkL G LF r0 rs) (hl : rs.length ≤ 24) (hG : ∀ p ∈ G, p ∈ P) (hk : IntsAre kv (rs.map (·.sz)).reverse) (h1 : r0.sz = 1)
    (dK : ∃ v, oK.data = .cell v) (dZ : ∃ v, oZ.data = .cell v) (hS : FinS w mg LF r0 rs P c rst) (hc : c = 25) (hoff : OwnOff rst [L + 1 + 1, L + 1 + 1 + 1 + 1, HA, AS, KE])
    (F : Fr base L s.heap (fM KE HA AS u)) (N : News base L s.heap ((L + 1 + 1, oK) :: (L + 1 + 1 + 1 + 1, oZ) :: (HA, W.listOf (hvI r0 rs ++ [Value.ref (hTop r0 rs).H]).toArray nh) :: (AS, W.listOf (avL r0 rs).toArray na) :: (KE, W.listOf kv.toArray nk) :: rst))
    (done : ∀ (c' : Nat) (va : List Value) (nv : Nat) (news' : List (Addr × Obj)) (h' : Heap) (tk' : Nat), 25 ≤ c' → c' ≤ 100 → va.length = c' → (avL r0 rs).toArray[0]? = some (.ref r0.A) → Fr base L h' (fM KE HA AS u) → News base L h' ((AS, W.listOf (avL r0 rs).toArray na) :: (r0.A, W.listOf va.toArray nv) :: news') → (∀ p ∈ P, p ∈ news') → Q .next { s with heap := h', toks := tk' }) :
    wpAny (model PySem.Challenge.rw_dn0266_02.row.prog w) (callerA.deeper (lawEnv L fa cd)) (pyIter (.ref r)) (fun it s₂ => LoopAtT PySem.Challenge.rw_dn0266_02.row.prog w (callerA.deeper (lawEnv L fa cd)) base (lawEnv L fa cd) (.Name (Str.ofString "k") px) (forBody lawFin) Q E it s₂) E s := by
  refine range_invT (n := rs.length + 1) (JFin w mg L KE HA AS LF nh na nk u r0 rs P kv) rfl hr (small_one (by omega) (by omega) (by omega) (by omega)) ?_ F N ⟨rfl, oK, oZ, rst, c, dK, dZ, hS, by omega, by omega, hoff, rfl⟩ ?_ ?_
  · have := rangeSize_nat 0 b₀; rw [this]; omega
  · intro i t m₁ nx s₁ I oI hi hJ hI F₁ N₁
    exact fin_turn X' T' K' codeHd codeHd2 hne ok hl hG hk h1 hi hJ hI F₁ N₁
  · intro m₁ nx h tk hJ F₁ N₁
    obtain ⟨rfl, oK', oZ', rst', c', dK', dZ', hS', hc1, hc2, hoff', rfl⟩ := hJ
    obtain ⟨va, nv, hm, hv⟩ := fin_zero_ask hS'
    have hA := av_at r0 rs []
    rw [List.append_nil] at hA
    refine done c' va nv rst' h tk hc1 (by omega) hv (by rw [List.getElem?_toArray]; exact hA) F₁ (NewsSub N₁ ?_) ?_
    · intro p hp
      rcases List.mem_cons.mp hp with rfl | hp
      · exact .tail _ (.tail _ (.tail _ (.head _)))
      rcases List.mem_cons.mp hp with rfl | hp
      · exact .tail _ (.tail _ (.tail _ (.tail _ (.tail _ hm))))
      · exact .tail _ (.tail _ (.tail _ (.tail _ (.tail _ hp))))
    · intro p hp
      obtain ⟨rest, rfl, _, _⟩ := hS'
      exact List.mem_append_left _ hp
end
end Mine
namespace Mine
open PySem PySem.W PySem.Calls PyProof.Rows
set_option maxRecDepth 100000
set_option maxHeartbeats 600000
def lawRest (n : Nat) : List Stmt := (fnBody lawStmt).drop n
theorem fM_of {m : Str → Option Value} {KE HA AS : Nat} (h1 : m (Str.ofString "kept") = some (.ref KE)) (h2 : m (Str.ofString "hands") = some (.ref HA)) (h3 : m (Str.ofString "asked") = some (.ref AS)) (y : Str) : m y = fM KE HA AS m y := by
  unfold fM
  split
  · rename_i e; rw [e]; exact h1
  split
  · rename_i e; rw [e]; exact h2
  split
  · rename_i e; rw [e]; exact h3
  rfl
theorem offCons {a : Addr × Obj} {l : List (Addr × Obj)} {adr : List Addr} (h : ∀ b ∈ adr, a.1 ≠ b) (h2 : OwnOff l adr) : OwnOff (a :: l) adr := fun p hp => (List.mem_cons.mp hp).elim (fun e => e ▸ h) (h2 p)
local macro_rules | `(tactic| walk_at "none 0") => `(tactic| fail)
local macro_rules | `(tactic| walk_at "none 1") => `(tactic| fail)
local macro_rules | `(tactic| walk_at "none 2") => `(tactic| fail)
local macro_rules | `(tactic| walk_at "none 3") => `(tactic| fail)
local macro_rules | `(tactic| walk_at "none 4") => `(tactic| fail)
local macro_rules | `(tactic| walk_at "none 5") => `(tactic| fail)
local macro_rules | `(tactic| walk_at "none 6") => `(tactic| fail)
local macro_rules | `(tactic| walk_at "none 7") => `(tactic| fail)
local macro_rules | `(tactic| walk_at "none 8") => `(tactic| fail)
local macro_rules | `(tactic| walk_at "none 9") => `(tactic| fail)
local macro_rules | `(tactic| k_ne) => `(tactic| (refine neN ?_; (try dsimp only); first | exact NeF.l (by with_reducible assumption) | exact NeF.r (by with_reducible assumption) | omega))
local macro_rules | `(tactic| k_lt $h) => `(tactic| (have kept := $h; replace $h := allLt_of $h; simp only [AllLt, and_true] at $h:ident))
local macro_rules | `(tactic| walk_at "subscriptTail") => `(tactic| (k_here; (with_reducible show wpAny _ _ (subscriptTail _ _ (Value.ref _) (Value.int _ _)) _ _ _); (with_unfolding_all refine' item_at ?k1 ?k2 ?k3 ?k4 ?_ ?k6; (case k1 => is_list); (case k2 => assumption); (case k3 => omega); (case k4 => omega); (case k6 => with_unfolding_all rfl); k_whole)))
local macro_rules | `(tactic| walk_at "ite") => `(tactic| (first | ((refine ite_neg ?h ?_); (case h => (simp only [beq_iff_eq, bne_iff_ne, ne_eq, decide_eq_true_eq, Bool.false_bne, Bool.true_bne, Bool.not_eq_true', decide_eq_false_iff_not, reduceCtorEq, not_false_eq_true, eq_self, not_true_eq_false, decide_true, Bool.not_true, Bool.false_eq_true]; first | done | omega))) | ((refine ite_pos ?h ?_); (case h => (simp only [beq_iff_eq, bne_iff_ne, ne_eq, decide_eq_true_eq, Bool.false_bne, Bool.true_bne, Bool.not_eq_true', decide_eq_false_iff_not, reduceCtorEq, not_false_eq_true, eq_self, not_true_eq_false, decide_true, Bool.not_true, Bool.false_eq_true]; first | done | omega)))))
local macro_rules | `(tactic| walk_at "call builtin:len") => `(tactic| (k_here; (with_reducible show wpAny _ _ (call (Value.builtin "len") [Value.ref _]) _ _ _); (with_unfolding_all refine' len_eq ?k1 ?k2 ?k3 ?_; (case k1 => is_list); (case k2 => with_reducible assumption); (case k3 => omega); k_whole)))
local macro_rules | `(tactic| walk_at "exec For Name Call cons nil") => `(tactic| (k_here; (rename Fr _ _ _ _ => lF'); (rename PassesOwn _ _ _ _ => lE'); (with_unfolding_all refine' For_invTF lF' ?_ ?k1 lE'; (case k1 => (intro _; rfl)); k_whole)))
theorem law_tail {w : World} {s : Shared} {mg mb : Str → Option Value} {mean : ExcName → Option Value} {loose : List Str} {base base0 : Heap} {L fa KE HA AS ROW LF nk nh na T : Nat} {cd : Value} {vK vZ : Option Value} {u : Str → Option Value}
  {oK oR oZ : Obj} {kv hvs avs ys : List Value} {ns : List Int} {r0 : HR} {rs : List HR} {G P rst : List (Addr × Obj)} {Q : Flow → Shared → Prop} {E : Value → Shared → Prop} 
  (X' : (Mine.hd.heap_39 w.params).In base) (T' : Top topProg loose mean mg mb base) (K' : Below callerA base [] base) (codeHd : CodeHd base 63 59) (codeHd2 : CodeHd base0 56 52)
  (F' : Fr base L s.heap (fun y => if y = Str.ofString "n" then some .none else if y = Str.ofString "kept" then some (.ref KE) else if y = Str.ofString "hands" then some (.ref HA) else if y = Str.ofString "asked" then some (.ref AS) else u y))
  (N' : News base L s.heap ((KE, W.listOf kv.toArray nk) :: (HA, W.listOf hvs.toArray nh) :: (AS, W.listOf avs.toArray na) :: (L + 1 + 1, oK) :: (L + 1 + 1 + 1, oR) :: (L + 1 + 1 + 1 + 1, oZ) :: (ROW, LCg.lst ys) :: rst))
  (hoff : OwnOff rst [KE, HA, AS, L + 1 + 1, L + 1 + 1 + 1, L + 1 + 1 + 1 + 1, ROW]) (hne : NeAll [KE, HA, AS, L + 1 + 1, L + 1 + 1 + 1, L + 1 + 1 + 1 + 1, ROW])
  (dK : oK.data = .cell vK) (dR : oR.data = .cell (some (.ref ROW))) (dZ : oZ.data = .cell vZ)
  (hIy : IntsAre ys ns) (hln : ns.length = 24) (hps : ∀ m ∈ ns, 0 < m) (hKK : (rs.map (·.sz)).reverse = dueL [] ns) (hkl : kv.length ≤ 24)
  (hk2 : IntsAre kv (rs.map (·.sz)).reverse) (hvE : hvs = hvI r0 rs ++ [Value.ref (hTop r0 rs).H]) (havE : avs = avL r0 rs) (hT : hvs.length = T) (hTr : T = rs.length + 1)
  (ok : OkL G LF r0 rs) (hl : rs.length ≤ 24) (hG : ∀ p ∈ G, p ∈ P) (h1 : r0.sz = 1) (hS : FinS w mg LF r0 rs P 25 rst)
  (hE : PassesOwn (model PySem.Challenge.rw_dn0266_02.row.prog w) (callerA.deeper (lawEnv L fa cd)) (lawEnv L fa cd) E)
  (hQ : ∀ h' tk' m', Fr base L h' m' → News base L h' P → Q (.ret (.bool true)) { s with heap := h', toks := tk' })
 :
  wpAny (model PySem.Challenge.rw_dn0266_02.row.prog w) (callerA.deeper (lawEnv L fa cd)) (execs (lawRest 6) (lawEnv L fa cd)) Q E s := by
  simp only [NeAll, NeTo, and_true] at hne
  obtain ⟨⟨n0_1, n0_2, n0_3, n0_4, n0_5, n0_6⟩, ⟨n1_2, n1_3, n1_4, n1_5, n1_6⟩, ⟨n2_3, n2_4, n2_5, n2_6⟩, ⟨n3_4, n3_5, n3_6⟩, ⟨n4_5, n4_6⟩, n5_6⟩ := hne
  obtain ⟨hp, gs, dr, tk, os⟩ := s
  dsimp only at F' N'
  rw [hKK] at hk2
  w_top off
  revert X'; k_fill; intro X'
  with_unfolding_all show wpAny _ _ (execs (_ :: _) _) _ _ _
  k_steps
  rename News _ _ _ _ => N1
  rename Fr _ _ _ _ => F1
  rename IsRange _ _ _ _ _ _ _ _ => hr1
  rename (∀ q : Addr × Obj, q ∈ _ → q.1 < _) => lt1
  have ltR := fun p hp => lt1 p (.tail _ (.tail _ (.tail _ (.tail _ (.tail _ (.tail _ (.tail _ hp)))))))
  with_unfolding_all refine due_loop (nd := 0) (rst := (KE, W.listOf kv.toArray nk) :: (HA, W.listOf hvs.toArray nh) :: (AS, W.listOf avs.toArray na) :: (L + 1 + 1 + 1 + 1, oZ) :: rst) X' T' K' codeHd hr1 rfl F1 (NewsSub N1 ?sub) ?off ?ne dK dR hIy hln hps ?_
  case sub => (intro p hp; simp only [List.mem_cons] at hp ⊢; revert hp; exact (fun h => Or.elim h (fun h => .inl h) (fun h => Or.elim h (fun h => .inr (.inr (.inr (.inr (.inl h))))) (fun h => Or.elim h (fun h => .inr (.inr (.inr (.inr (.inr (.inl h)))))) (fun h => Or.elim h (fun h => .inr (.inr (.inr (.inr (.inr (.inr (.inr (.inl h)))))))) (fun h => Or.elim h (fun h => .inr (.inl h)) (fun h => Or.elim h (fun h => .inr (.inr (.inl h))) (fun h => Or.elim h (fun h => .inr (.inr (.inr (.inl h)))) (fun h => Or.elim h (fun h => .inr (.inr (.inr (.inr (.inr (.inr (.inl h))))))) (fun h => .inr (.inr (.inr (.inr (.inr (.inr (.inr (.inr (h))))))))))))))))))
  case off =>
    refine offCons ?_ (offCons ?_ (offCons ?_ (offCons ?_ ?_)))
    iterate 4 (focus (intro b hb; simp only [List.mem_cons, List.not_mem_nil, or_false] at hb; rcases hb with h | h | h | h <;> (rw [h]; (show _ ≠ _; first | k_ne | exact Nat.ne_of_gt (by omega) | exact Nat.ne_of_lt (by omega)))))
    intro p hp b hb
    rcases List.mem_cons.mp hb with h | hb
    · rw [h]; exact Nat.ne_of_lt (ltR p hp)
    · refine hoff p hp b ?_
      simp only [List.mem_cons, List.not_mem_nil, or_false] at hb ⊢
      rcases hb with h | h | h <;> simp [h]
  case ne =>
    simp only [NeAll, NeTo, and_true]
    refine ⟨⟨?_, ?_, ?_⟩, ⟨?_, ?_⟩, ?_⟩ <;> (show _ ≠ _; first | k_ne | exact Nat.ne_of_gt (by omega) | exact Nat.ne_of_lt (by omega))
  intro dv nd2 oK2 h2 tk2 hdv hdl F2 N2 dK2'
  obtain ⟨vK2, dK2⟩ := dK2'
  try dsimp only
  k_steps
  rename News _ _ _ _ => N3
  rename Fr _ _ _ _ => F3
  rename IsRange _ _ _ _ _ _ _ _ => hr3
  subst hvE
  subst havE
  with_unfolding_all refine fin_loop (P := P) (nh := nh) (na := na) (nk := nk) (kv := kv) X' T' K' codeHd codeHd2 hr3 ?hb ?ne2 ok hl hG (hKK.symm ▸ hk2) h1 ⟨_, dK2⟩ ⟨_, dZ⟩ hS rfl ?off2 (Fr.conv F3 (fM_of rfl rfl rfl)) (NewsSub N3 ?sub2) ?_
  case hb => omega
  case ne2 =>
    simp only [NeAll, NeTo, and_true]
    refine ⟨⟨?_, ?_, ?_, ?_⟩, ⟨?_, ?_, ?_⟩, ⟨?_, ?_⟩, ?_⟩ <;> (show _ ≠ _; first | k_ne | exact Nat.ne_of_gt (by omega) | exact Nat.ne_of_lt (by omega))
  case off2 =>
    intro p hp b hb
    refine hoff p hp b ?_
    simp only [List.mem_cons, List.not_mem_nil, or_false] at hb ⊢
    rcases hb with h | h | h | h | h <;> simp [h]
  case sub2 => (intro p hp; simp only [List.mem_cons] at hp ⊢; revert hp; exact (fun h => Or.elim h (fun h => .inr (.inl h)) (fun h => Or.elim h (fun h => .inr (.inr (.inr (.inr (.inr (.inr (.inr (.inl h)))))))) (fun h => Or.elim h (fun h => .inr (.inr (.inr (.inr (.inr (.inl h)))))) (fun h => Or.elim h (fun h => .inr (.inr (.inr (.inr (.inr (.inr (.inl h))))))) (fun h => Or.elim h (fun h => .inr (.inr (.inr (.inr (.inl h))))) (fun h => .inr (.inr (.inr (.inr (.inr (.inr (.inr (.inr (h)))))))))))))))
  intro c' va nv news' h4 tk4 hc1 hc2 hva hav F4 N4 hP4
  try dsimp only
  k_steps
  have e9 : decide ((24 : Int) < (c' : Int)) = true := decide_eq_true (by omega)
  rw [e9]
  exact hQ _ _ _ F4 (NewsSub N4 fun p hp => .tail _ (.tail _ (hP4 p hp)))
end Mine
namespace Mine
open PySem PySem.W PySem.Calls PyProof.Rows
set_option maxRecDepth 100000
set_option maxHeartbeats 400000
section
variable {w : World} {s : Shared} {mg mb : Str → Option Value} {mean : ExcName → Option Value} {loose : List Str} {base base0 : Heap} {L fa : Addr} {cd : Value} {u : Str → Option Value}
  {KE HA AS LF ROW : Nat} {r0 : HR} {oK oR oZ : Obj} {ps52 : Array Value} {vK vZ : Option Value} {ys : List Value} {ns : List Int} {Q : Flow → Shared → Prop} {E : Value → Shared → Prop}
abbrev PLof (L ROW : Nat) (oK oR oZ : Obj) (ps52 : Array Value) (ys : List Value) (r0 : HR) : List (Addr × Obj) := [(L + 1 + 1, oK), (L + 1 + 1 + 1, oR), (L + 1 + 1 + 1 + 1, oZ), (ROW, LCg.lst ys), (r0.cc, r0.oc), (52, tabObj ps52)]
theorem law_rest {res : Option Int} {left : List Int} {c tx nk nh na : Nat} {kv : List Value} {rest : List (Addr × Obj)}
    (X' : (Mine.hd.heap_39 w.params).In base) (T' : Top topProg loose mean mg mb base) (K' : Below callerA base [] base) (codeHd : CodeHd base 63 59) (codeHd2 : CodeHd base0 56 52)
    (hne0 : NeAll [L + 1 + 1, L + 1 + 1 + 1, L + 1 + 1 + 1 + 1, ROW, r0.cc, 52]) (dK : oK.data = .cell vK) (dR : oR.data = .cell (some (.ref ROW))) (dZ : oZ.data = .cell vZ)
    (hIy : IntsAre ys ns) (hln : ns.length = 24) (hps : ∀ m ∈ ns, 0 < m) (h1 : r0.sz = 1)
    (S : LawSt w mg base L u KE HA AS LF r0 (PLof L ROW oK oR oZ ps52 ys r0) (sift [] ns) [] res left c tx nk nh na kv rest s.heap)
    (hE : PassesOwn (model PySem.Challenge.rw_dn0266_02.row.prog w) (callerA.deeper (lawEnv L fa cd)) (lawEnv L fa cd) E)
    (hQ : ∀ h' tk' m' ps, Fr base L h' m' → News base L h' [(59, tabObj ps), (52, tabObj ps52)] → Q (.ret (.bool true)) { s with heap := h', toks := tk' }) :
    wpAny (model PySem.Challenge.rw_dn0266_02.row.prog w) (callerA.deeper (lawEnv L fa cd)) (execs (lawRest 5) (lawEnv L fa cd)) Q E s := by
  have hK : (sift [] ns).length ≤ 24 := by have := sift_len ns []; omega
  have hS0 : (r0.cc, r0.oc) ∈ PLof L ROW oK oR oZ ps52 ys r0 := .tail _ (.tail _ (.tail _ (.tail _ (.head _))))
  have e5 : lawRest 5 = lawWhile :: lawRest 6 := rfl
  rw [e5]
  refine wpAny_execs_cons ?_
  with_unfolding_all refine whl_start 1 ?_
  refine law_loop X' T' K' codeHd codeHd2 hK hS0 hE _ [] res left c tx nk nh na kv rest s 0 (Nat.le_refl _) S ?_
  intro rs c' tx' nk' nh' na' kv' rest' h' tk' S'
  show wpAny _ _ (execs (lawRest 6) _) _ _ _
  have hlen := S'.len hK
  have hsum := S'.sum
  have hKK : (rs.map (·.sz)).reverse = dueL [] ns := by
    rw [← sift_all, ← hsum]
    show _ = _ ++ []
    rw [List.append_nil]
  have hkl : kv'.length ≤ 24 := by rw [intsAre_len S'.ik]; simp; exact hlen
  have hc : c' = 25 := by
    have := S'.cnt
    simpa [gain] using this
  subst hc
  have o4 := off4 S'.off
  have n4 := neAll4 S'.ne
  simp only [NeAll, NeTo, and_true] at n4 hne0
  obtain ⟨⟨a1, a2, a4⟩, ⟨a3, a5⟩, a6⟩ := n4
  obtain ⟨⟨b1, b2, b3, b4, x1⟩, ⟨b5, b6, b7, x2⟩, ⟨b8, b9, x3⟩, ⟨b10, x4⟩, x5⟩ := hne0
  have pm : ∀ p ∈ PLof L ROW oK oR oZ ps52 ys r0, p.1 ≠ KE ∧ p.1 ≠ HA ∧ p.1 ≠ AS := fun p hp => ⟨o4 p (List.mem_append_left _ hp) KE (by simp), o4 p (List.mem_append_left _ hp) HA (by simp), o4 p (List.mem_append_left _ hp) AS (by simp)⟩
  have p1 := pm _ (.head _)
  have p2 := pm _ (.tail _ (.head _))
  have p3 := pm _ (.tail _ (.tail _ (.head _)))
  have p4 := pm _ (.tail _ (.tail _ (.tail _ (.head _))))
  have p5 := pm _ hS0
  have hS6 : (52, tabObj ps52) ∈ PLof L ROW oK oR oZ ps52 ys r0 := .tail _ (.tail _ (.tail _ (.tail _ (.tail _ (.head _)))))
  have p6 := pm _ hS6
  have p59 : ∀ p ∈ PLof L ROW oK oR oZ ps52 ys r0 ++ rest', p.1 ≠ 59 := fun p hp => o4 p hp 59 (by simp)
  obtain ⟨ps59, h59⟩ : ∃ ps, (59, tabObj ps) ∈ tabsOf rs := by
    cases rs with
    | nil => exact ⟨_, .head _⟩
    | cons r rs => exact ⟨_, .head _⟩
  dsimp only at p1 p2 p3 p4 p5 p6
  have cNe : ∀ q ∈ gOf r0 rs, q.1 = r0.cc ∨ (q ∈ tabsOf rs ∧ q.1 ≠ KE ∧ q.1 ≠ HA ∧ q.1 ≠ AS ∧ ∀ p ∈ PLof L ROW oK oR oZ ps52 ys r0 ++ rest', p.1 ≠ q.1) := by
    intro q hq
    cases rs with
    | nil => exact .inl (by rw [List.mem_singleton.mp hq])
    | cons r rs =>
      rcases List.mem_cons.mp hq with h | h
      · refine .inr ?_
        have n5 := S'.ne
        simp only [tabsOf, List.map_cons, List.map_nil, NeAll, NeTo, and_true] at n5
        obtain ⟨⟨_, _, _, d1⟩, ⟨_, _, d2⟩, ⟨_, d3⟩, _⟩ := n5
        rw [h]
        exact ⟨.tail _ (.head _), Ne.symm d1, Ne.symm d2, Ne.symm d3, fun p hp => S'.off p hp r.cc (by simp [tabsOf])⟩
      · exact .inl (by rw [List.mem_singleton.mp h])
  have hoff : OwnOff (((59, tabObj ps59) :: (52, tabObj ps52) :: gOf r0 rs) ++ rest') [KE, HA, AS, L + 1 + 1, L + 1 + 1 + 1, L + 1 + 1 + 1 + 1, ROW] := by
    intro p hp b hb
    simp only [List.mem_cons, List.not_mem_nil, or_false] at hb
    rcases List.mem_append.mp hp with hp | hp
    · rcases List.mem_cons.mp hp with rfl | hp
      · rcases hb with h | h | h | h | h | h | h <;> rw [h]
        · exact Ne.symm a4
        · exact Ne.symm a5
        · exact Ne.symm a6
        · exact (p59 (L + 1 + 1, oK) (List.mem_append_left _ (.head _))).symm
        · exact (p59 (L + 1 + 1 + 1, oR) (List.mem_append_left _ (.tail _ (.head _)))).symm
        · exact (p59 (L + 1 + 1 + 1 + 1, oZ) (List.mem_append_left _ (.tail _ (.tail _ (.head _))))).symm
        · exact (p59 (ROW, LCg.lst ys) (List.mem_append_left _ (.tail _ (.tail _ (.tail _ (.head _)))))).symm
      rcases List.mem_cons.mp hp with rfl | hp
      · rcases hb with h | h | h | h | h | h | h <;> rw [h]
        · exact p6.1
        · exact p6.2.1
        · exact p6.2.2
        · exact Ne.symm x1
        · exact Ne.symm x2
        · exact Ne.symm x3
        · exact Ne.symm x4
      rcases cNe p hp with h | ⟨_, h1, h2, h3, h4⟩
      · rw [h]
        rcases hb with h | h | h | h | h | h | h <;> rw [h]
        · exact p5.1
        · exact p5.2.1
        · exact p5.2.2
        · exact Ne.symm b4
        · exact Ne.symm b7
        · exact Ne.symm b9
        · exact Ne.symm b10
      · rcases hb with h | h | h | h | h | h | h <;> rw [h]
        · exact h1
        · exact h2
        · exact h3
        · exact (h4 (L + 1 + 1, oK) (List.mem_append_left _ (.head _))).symm
        · exact (h4 (L + 1 + 1 + 1, oR) (List.mem_append_left _ (.tail _ (.head _)))).symm
        · exact (h4 (L + 1 + 1 + 1 + 1, oZ) (List.mem_append_left _ (.tail _ (.tail _ (.head _))))).symm
        · exact (h4 (ROW, LCg.lst ys) (List.mem_append_left _ (.tail _ (.tail _ (.tail _ (.head _)))))).symm
    · have hm := List.mem_map_of_mem (f := (·.1)) hp
      have ho := S'.adr
      rcases hb with h | h | h | h | h | h | h <;> rw [h]
      · exact o4 p (List.mem_append_right _ hp) KE (by simp)
      · exact o4 p (List.mem_append_right _ hp) HA (by simp)
      · exact o4 p (List.mem_append_right _ hp) AS (by simp)
      · exact (ho (L + 1 + 1) (by simp) _ hm).symm
      · exact (ho (L + 1 + 1 + 1) (by simp) _ hm).symm
      · exact (ho (L + 1 + 1 + 1 + 1) (by simp) _ hm).symm
      · exact (ho ROW (by simp) _ hm).symm
  have hne : NeAll [KE, HA, AS, L + 1 + 1, L + 1 + 1 + 1, L + 1 + 1 + 1 + 1, ROW] := by
    simp only [NeAll, NeTo, and_true]
    exact ⟨⟨a1, a2, Ne.symm p1.1, Ne.symm p2.1, Ne.symm p3.1, Ne.symm p4.1⟩, ⟨a3, Ne.symm p1.2.1, Ne.symm p2.2.1, Ne.symm p3.2.1, Ne.symm p4.2.1⟩, ⟨Ne.symm p1.2.2, Ne.symm p2.2.2, Ne.symm p3.2.2, Ne.symm p4.2.2⟩, ⟨b1, b2, b3⟩, ⟨b5, b6⟩, b8⟩
  have hFS : FinS w mg LF r0 rs ((59, tabObj ps59) :: (52, tabObj ps52) :: gOf r0 rs) 25 (((59, tabObj ps59) :: (52, tabObj ps52) :: gOf r0 rs) ++ rest') := by
    refine ⟨rest', rfl, S'.ch, ?_⟩
    intro y hy z hz
    obtain ⟨q, hq, rfl⟩ := List.mem_map.mp hy
    obtain ⟨p, hp, rfl⟩ := List.mem_map.mp hz
    rcases List.mem_cons.mp hq with rfl | hq
    · exact (p59 p (List.mem_append_right _ hp)).symm
    rcases List.mem_cons.mp hq with rfl | hq
    · exact S'.adr 52 (by simp) _ (List.mem_map_of_mem hp)
    rcases cNe q hq with h | ⟨_, _, _, _, h4⟩
    · rw [h]; exact S'.adr r0.cc (by simp) _ (List.mem_map_of_mem hp)
    · exact (h4 p (List.mem_append_right _ hp)).symm
  refine law_tail (T := rs.length + 1) (P := (59, tabObj ps59) :: (52, tabObj ps52) :: gOf r0 rs) (hvs := hvI r0 rs ++ [Value.ref (hTop r0 rs).H]) (avs := avL r0 rs) (nk := nk') (nh := nh') (na := na') X' T' K' codeHd codeHd2 S'.F (NewsSub S'.N ?sub) hoff hne dK dR dZ hIy hln hps hKK hkl S'.ik rfl rfl (by rw [List.length_append, hvI_len]; rfl) rfl S'.ok hlen (fun _ h => .tail _ (.tail _ h)) h1 hFS hE ?fin
  case fin =>
    intro h2 tk2 m2 F2 N2
    exact hQ h2 tk2 m2 ps59 F2 (NewsSub N2 fun p hp => by
      rcases List.mem_cons.mp hp with rfl | hp
      · exact .head _
      · rw [List.mem_singleton.mp hp]; exact .tail _ (.head _))
  intro p hp
  have inP : ∀ q ∈ PLof L ROW oK oR oZ ps52 ys r0, q ∈ (KE, W.listOf kv'.toArray nk') :: (HA, W.listOf ((hvI r0 rs).toArray.push (.ref (hTop r0 rs).H)) nh') :: (AS, W.listOf (avL r0 rs).toArray na') :: (tabsOf rs ++ (PLof L ROW oK oR oZ ps52 ys r0 ++ rest')) :=
    fun q hq => .tail _ (.tail _ (.tail _ (List.mem_append_right _ (List.mem_append_left _ hq))))
  rw [← push_toArray] at hp
  rcases List.mem_append.mp (show p ∈ [(KE, W.listOf kv'.toArray nk'), (HA, W.listOf ((hvI r0 rs).toArray.push (.ref (hTop r0 rs).H)) nh'), (AS, W.listOf (avL r0 rs).toArray na'), (L + 1 + 1, oK), (L + 1 + 1 + 1, oR), (L + 1 + 1 + 1 + 1, oZ), (ROW, LCg.lst ys)] ++ (((59, tabObj ps59) :: (52, tabObj ps52) :: gOf r0 rs) ++ rest') from hp) with hp | hp
  · simp only [List.mem_cons, List.not_mem_nil, or_false] at hp
    rcases hp with rfl | rfl | rfl | rfl | rfl | rfl | rfl
    · exact .head _
    · exact .tail _ (.head _)
    · exact .tail _ (.tail _ (.head _))
    · exact inP _ (.head _)
    · exact inP _ (.tail _ (.head _))
    · exact inP _ (.tail _ (.tail _ (.head _)))
    · exact inP _ (.tail _ (.tail _ (.tail _ (.head _))))
  · rcases List.mem_append.mp hp with hp | hp
    · rcases List.mem_cons.mp hp with rfl | hp
      · exact .tail _ (.tail _ (.tail _ (List.mem_append_left _ h59)))
      rcases List.mem_cons.mp hp with rfl | hp
      · exact inP _ hS6
      cases rs with
      | nil => rw [List.mem_singleton.mp hp]; exact inP _ hS0
      | cons r rs =>
        rcases List.mem_cons.mp hp with h | h
        · rw [h]; exact .tail _ (.tail _ (.tail _ (.tail _ (.head _))))
        · rw [List.mem_singleton.mp h]; exact inP _ hS0
    · exact .tail _ (.tail _ (.tail _ (List.mem_append_right _ (List.mem_append_right _ hp))))
end
end Mine
namespace Mine
open PySem PySem.W PySem.Calls PyProof.Rows
set_option maxRecDepth 100000
set_option maxHeartbeats 400000
theorem store_n2 {w : World} {s : Shared} {base : Heap} {L fa : Addr} {cd v : Value} {m : Str → Option Value} {news : List (Addr × Obj)} {R : Shared → Prop} {E : Value → Shared → Prop}
    (F' : Fr base L s.heap m) (N' : News base L s.heap news)
    (hQ : ∀ h' tk', Fr base L h' (fun y => if y = Str.ofString "n" then some v else m y) → News base L h' news → R { s with heap := h', toks := tk' }) :
    wpAny (model PySem.Challenge.rw_dn0266_02.row.prog w) (callerA.deeper (lawEnv L fa cd)) (storeName (lawEnv L fa cd) (Str.ofString "n") v) (fun _ s' => R s') E s := by
  obtain ⟨hp, gs, dr, tk, os⟩ := s
  dsimp only at F' N'
  w_top off
  k_steps
  all_goals exact hQ _ _ (by assumption) (by assumption)
theorem mem_map_fst {a : Addr} {l : List (Addr × Obj)} : a ∈ l.map (·.1) → ∃ p ∈ l, p.1 = a := fun h => by
  obtain ⟨p, hp, e⟩ := List.mem_map.mp h
  exact ⟨p, hp, e⟩
section
variable {w : World} {s : Shared} {mg mb : Str → Option Value} {mean : ExcName → Option Value} {loose : List Str} {base base0 : Heap} {L fa : Nat} {cd : Value} {u : Str → Option Value}
  {KE HA AS LF ROW : Nat} {oK oR oZ : Obj} {ps52 : Array Value} {vK vZ : Option Value} {ys : List Value} {ns : List Int} {Q : Flow → Shared → Prop} {E : Value → Shared → Prop}
theorem law_first {r0 : HR} {nk nh na nl nA : Nat}
    (X' : (Mine.hd.heap_39 w.params).In base) (T' : Top topProg loose mean mg mb base) (K' : Below callerA base [] base) (codeHd : CodeHd base 63 59) (codeHd2 : CodeHd base0 56 52)
    (dK : oK.data = .cell vK) (dR : oR.data = .cell (some (.ref ROW))) (dZ : oZ.data = .cell vZ)
    (hIy : IntsAre ys ns) (hln : ns.length = 24) (hps : ∀ m ∈ ns, 0 < m) (h1 : r0.sz = 1)
    (d1 : r0.oA.data = .cell (some (.ref r0.A))) (d2 : r0.oX.data = .cell (some (.ref LF))) (d3 : r0.oc.data = .fields r0.vs') (d4 : r0.vs'[1]? = some (.str srcQual r0.t'))
    (c0 : 59 < L) (c1 : L + 1 + 1 + 1 + 1 < r0.A) (c2 : ROW < r0.A) (c3 : r0.A < AS) (c4 : AS < r0.cA) (c5 : r0.cA < r0.cX) (c6 : r0.cX < LF) (c7 : LF < r0.cc) (c8 : r0.cc < r0.R) (c9 : r0.R < r0.dB) (c10 : r0.dB < r0.B) (c11 : r0.B < r0.dH) (c12 : r0.dH < r0.H) (c13 : r0.H < HA) (c14 : HA < KE)
    (e0 : ROW ≠ 52) (e1 : ROW ≠ 59) (e2 : ROW ≠ L + 1 + 1) (e3 : ROW ≠ L + 1 + 1 + 1) (e4 : ROW ≠ L + 1 + 1 + 1 + 1)
    (F : Fr base L s.heap (mW KE HA AS u))
    (N : News base L s.heap (((KE, W.listOf #[] nk) :: (HA, W.listOf #[.ref r0.H] nh) :: (AS, W.listOf #[.ref r0.A] na) :: (59, tabObj #[]) :: PLof L ROW oK oR oZ ps52 ys r0) ++ ((LF, W.listOf ys.toArray nl) :: (r0.A, W.listOf #[] nA) :: fixOf w r0 (srcObj mg r0.cX r0.cA r0.doc r0.cc r0.ctv))))
    (hE : PassesOwn (model PySem.Challenge.rw_dn0266_02.row.prog w) (callerA.deeper (lawEnv L fa cd)) (lawEnv L fa cd) E)
    (hQ : ∀ h' tk' m' ps, Fr base L h' m' → News base L h' [(59, tabObj ps), (52, tabObj ps52)] → Q (.ret (.bool true)) { s with heap := h', toks := tk' }) :
    wpAny (model PySem.Challenge.rw_dn0266_02.row.prog w) (callerA.deeper (lawEnv L fa cd)) (call (.builtin "next") [.ref r0.H, .none])
      (fun v s₁ => wpAny (model PySem.Challenge.rw_dn0266_02.row.prog w) (callerA.deeper (lawEnv L fa cd)) (storeName (lawEnv L fa cd) (Str.ofString "n") v)
        (fun _ s' => wpAny (model PySem.Challenge.rw_dn0266_02.row.prog w) (callerA.deeper (lawEnv L fa cd)) (execs (lawRest 5) (lawEnv L fa cd)) Q E s') E s₁) E s := by
  have ok0 : r0.Ok [(r0.cc, r0.oc)] LF srcQual := ⟨.head _, by
    simp only [NeTo, HR.adr, and_true, NeF]
    refine ⟨?_, ?_, ?_, ?_, ?_, ?_, ?_⟩ <;> omega, d1, d2, d3, d4, by rw [h1]; decide⟩
  have hLF : NeTo LF (r0.A :: r0.adr) := by
    simp only [NeTo, HR.adr, and_true, NeF]
    refine ⟨?_, ?_, ?_, ?_, ?_, ?_, ?_, ?_⟩ <;> omega
  have hne0 : NeAll [L + 1 + 1, L + 1 + 1 + 1, L + 1 + 1 + 1 + 1, ROW, r0.cc, 52] := by
    simp only [NeAll, NeTo, and_true, NeF]
    refine ⟨⟨?_, ?_, ?_, ?_, ?_⟩, ⟨?_, ?_, ?_, ?_⟩, ⟨?_, ?_, ?_⟩, ⟨?_, ?_⟩, ?_⟩ <;> omega
  have hadr : AdrOff (List.map (·.1) ((KE, W.listOf #[] nk) :: (HA, W.listOf #[.ref r0.H] nh) :: (AS, W.listOf #[.ref r0.A] na) :: (59, tabObj #[]) :: PLof L ROW oK oR oZ ps52 ys r0)) (List.map (·.1) ((LF, W.listOf ys.toArray nl) :: (r0.A, W.listOf #[] nA) :: fixOf w r0 (srcObj mg r0.cX r0.cA r0.doc r0.cc r0.ctv))) := by
    intro (y : Nat) hy (z : Nat) hz
    have hy' : y ∈ [KE, HA, AS, 59, L + 1 + 1, L + 1 + 1 + 1, L + 1 + 1 + 1 + 1, ROW, r0.cc, 52] := hy
    have hz' : z ∈ [LF, r0.A, r0.H, r0.dH, r0.B, r0.dB, r0.R, r0.cA, r0.cX] := hz
    clear hy hz
    simp only [List.mem_cons, List.not_mem_nil, or_false] at hy' hz'
    have hz2 : z = r0.A ∨ AS < z := by
      rcases hz' with h | h | h | h | h | h | h | h | h <;> rw [h] <;> first | exact .inl rfl | (right; omega)
    have hz3 : z ≠ r0.cc ∧ z < HA := by
      rcases hz' with h | h | h | h | h | h | h | h | h <;> rw [h] <;> (constructor <;> omega)
    clear hz'
    obtain ⟨q1, q2⟩ := hz3
    rcases hy' with h | h | h | h | h | h | h | h | h | h
    · rw [h]; exact Nat.ne_of_gt (by omega)
    · rw [h]; exact Nat.ne_of_gt (by omega)
    · rw [h]; rcases hz2 with h2 | h2
      · rw [h2]; exact Nat.ne_of_gt (by omega)
      · exact Nat.ne_of_lt (by omega)
    · rw [h]; exact Nat.ne_of_lt (by rcases hz2 with h2 | h2 <;> omega)
    · rw [h]; exact Nat.ne_of_lt (by rcases hz2 with h2 | h2 <;> omega)
    · rw [h]; exact Nat.ne_of_lt (by rcases hz2 with h2 | h2 <;> omega)
    · rw [h]; exact Nat.ne_of_lt (by rcases hz2 with h2 | h2 <;> omega)
    · rw [h]; exact Nat.ne_of_lt (by rcases hz2 with h2 | h2 <;> omega)
    · rw [h]; exact Ne.symm q1
    · rw [h]; exact Nat.ne_of_lt (by rcases hz2 with h2 | h2 <;> omega)
  have hC : ChS w mg LF r0 ns 0 ((LF, W.listOf ys.toArray nl) :: (r0.A, W.listOf #[] nA) :: fixOf w r0 (srcObj mg r0.cX r0.cA r0.doc r0.cc r0.ctv)) :=
    ⟨ys, nl, [], nA, [], rfl, hIy, ⟨.nil, fun _ z => nomatch z⟩, rfl, hps⟩
  refine nextOk_use (P := (KE, W.listOf #[] nk) :: (HA, W.listOf #[.ref r0.H] nh) :: (AS, W.listOf #[.ref r0.A] na) :: (59, tabObj #[]) :: PLof L ROW oK oR oZ ps52 ys r0) (outer := []) (nextOk_src (loose := loose) (mean := mean) (mb := mb) (base := base) ⟨X', T'⟩ codeHd2 ok0 hLF) F N rfl hC (by omega) hadr ?_ X' T' K' rfl rfl ?_ ?_ ?_
  · intro p hp
    rw [List.mem_singleton.mp hp]
    exact .tail _ (.tail _ (.tail _ (.tail _ (.tail _ (.tail _ (.tail _ (.tail _ (.head _))))))))
  · show _ + 10 * 0 + 10 < 600
    have : callerA.depth = 301 := rfl
    omega
  · show _ + 100 * 0 + 100 < 9000
    have : callerA.units = 4 := rfl
    omega
  · intro h₀' h' tk' rest' c' tx kT F2 N2 hmap B2 X2 T2 hC2 hc2
    have F3 := turn_fr0 kT F2
    have N3 := turn_news0 kT N2
    refine store_n2 (R := fun s' => wpAny (model PySem.Challenge.rw_dn0266_02.row.prog w) (callerA.deeper (lawEnv L fa cd)) (execs (lawRest 5) (lawEnv L fa cd)) Q E s') F3 N3 fun h3 tk3 F4 N4 => ?_
    have hl := nextOf_len [] ns
    have hp := nextOf_mem [] ns hps
    have hadr' : ∀ y ∈ [KE, HA, AS, 59, L + 1 + 1, L + 1 + 1 + 1, L + 1 + 1 + 1 + 1, ROW, r0.cc, 52], ∀ p ∈ rest', p.1 ≠ y := fun y hy p hp e => hadr y hy p.1 (by rw [← hmap]; exact List.mem_map_of_mem hp) e.symm
    have S : LawSt w mg base L u KE HA AS LF r0 (PLof L ROW oK oR oZ ps52 ys r0) (sift [] ns) [] (nextOf [] ns).1 (nextOf [] ns).2 c' tx nk nh na [] rest' h3 :=
      { F := F4, N := N4, ch := hC2, ok := ⟨ok0, hLF⟩, ik := .nil
        off := by
          intro p hp (b : Nat) hb
          have hb' : b ∈ [KE, HA, AS, 59] := hb
          rcases List.mem_append.mp hp with hp | hp
          · have hp' : p.1 ∈ [L + 1 + 1, L + 1 + 1 + 1, L + 1 + 1 + 1 + 1, ROW, r0.cc, 52] := List.mem_map_of_mem (f := (·.1)) hp
            simp only [List.mem_cons, List.not_mem_nil, or_false] at hb' hp'
            rcases hp' with h | h | h | h | h | h <;> rw [h] <;> rcases hb' with h | h | h | h <;> rw [h] <;> (show @Ne Nat _ _; omega)
          · refine hadr' b ?_ p hp
            simp only [List.mem_cons, List.not_mem_nil, or_false] at hb' ⊢
            rcases hb' with h | h | h | h
            · exact .inl h
            · exact .inr (.inl h)
            · exact .inr (.inr (.inl h))
            · exact .inr (.inr (.inr (.inl h)))
        ne := by
          show NeAll [KE, HA, AS, 59]
          simp only [NeAll, NeTo, and_true, NeF]
          refine ⟨⟨?_, ?_, ?_⟩, ⟨?_, ?_⟩, ?_⟩ <;> omega
        adr := by
          intro y hy z hz
          obtain ⟨p, hp, rfl⟩ := mem_map_fst hz
          have hy' : y ∈ [L + 1 + 1, L + 1 + 1 + 1, L + 1 + 1 + 1 + 1, ROW, r0.cc, 52] := hy
          exact fun e => hadr' y (.tail _ (.tail _ (.tail _ (.tail _ hy')))) p hp e.symm
        sum := (sift_next [] ns).symm
        pos := hp.1
        cnt := by rw [hc2, hln]
        nil := hl.2 }
    exact law_rest X' T' K' codeHd codeHd2 hne0 dK dR dZ hIy hln hps h1 S hE hQ
theorem law_firstF {A H dH B dB R cA cX cc n1 n2 t1 t2 t3 t4 t5 t6 st t' nk nh na nl nA : Nat} {doc ctv : Value} {oA oX oc : Obj} {vs' : Array Value} {news : List (Addr × Obj)}
    (X' : (Mine.hd.heap_39 w.params).In base) (T' : Top topProg loose mean mg mb base) (K' : Below callerA base [] base) (codeHd : CodeHd base 63 59) (codeHd2 : CodeHd base0 56 52)
    (F : Fr base L s.heap (mW KE HA AS u)) (N : News base L s.heap news)
    (m : ∀ p ∈ ([(KE, W.listOf #[] nk), (HA, W.listOf #[.ref H] nh), (AS, W.listOf #[.ref A] na), (59, tabObj #[]), (L + 1 + 1, oK), (L + 1 + 1 + 1, oR), (L + 1 + 1 + 1 + 1, oZ), (H, instObj 46 dH), (dH, dictOf [entF w t1 (.ref B), entB w t2 (.int 1 st)] n1), (B, instObj 46 dB), (dB, dictOf [entF w t3 .none, entB w t4 (.int 8192 t5), entR w t6 (.ref R)] n2), (R, srcObj mg cX cA doc cc ctv), (cA, oA), (cX, oX), (cc, oc), (A, W.listOf #[] nA), (52, tabObj ps52)] : List (Addr × Obj)), p ∈ news)
    (dK : oK.data = .cell vK) (dR : oR.data = .cell (some (.ref ROW))) (dZ : oZ.data = .cell vZ)
    (d1 : oA.data = .cell (some (.ref A))) (d2 : oX.data = .cell (some (.ref LF))) (d3 : oc.data = .fields vs') (d4 : vs'[1]? = some (.str srcQual t'))
    (hIy : IntsAre ys ns) (m2 : (ROW, LCg.lst ys) ∈ news) (m3 : (LF, W.listOf ys.toArray nl) ∈ news) (hln : ns.length = 24) (hps : ∀ m ∈ ns, 0 < m)
    (c0 : 59 < L) (c1 : L + 1 + 1 + 1 + 1 < A) (c2 : ROW < A) (c3 : A < AS) (c4 : AS < cA) (c5 : cA < cX) (c6 : cX < LF) (c7 : LF < cc) (c8 : cc < R) (c9 : R < dB) (c10 : dB < B) (c11 : B < dH) (c12 : dH < H) (c13 : H < HA) (c14 : HA < KE)
    (e0 : ROW ≠ 52) (e1 : ROW ≠ 59) (e2 : ROW ≠ L + 1 + 1) (e3 : ROW ≠ L + 1 + 1 + 1) (e4 : ROW ≠ L + 1 + 1 + 1 + 1)
    (hE : PassesOwn (model PySem.Challenge.rw_dn0266_02.row.prog w) (callerA.deeper (lawEnv L fa cd)) (lawEnv L fa cd) E)
    (hQ : ∀ h' tk' m' ps, Fr base L h' m' → News base L h' [(59, tabObj ps), (52, tabObj ps52)] → Q (.ret (.bool true)) { s with heap := h', toks := tk' }) :
    wpAny (model PySem.Challenge.rw_dn0266_02.row.prog w) (callerA.deeper (lawEnv L fa cd)) (call (.builtin "next") [.ref H, .none])
      (fun v s₁ => wpAny (model PySem.Challenge.rw_dn0266_02.row.prog w) (callerA.deeper (lawEnv L fa cd)) (storeName (lawEnv L fa cd) (Str.ofString "n") v)
        (fun _ s' => wpAny (model PySem.Challenge.rw_dn0266_02.row.prog w) (callerA.deeper (lawEnv L fa cd)) (execs (lawRest 5) (lawEnv L fa cd)) Q E s') E s₁) E s := by
  refine law_first (r0 := { A := A, H := H, dH := dH, B := B, dB := dB, R := R, cA := cA, cX := cX, cc := cc, n1 := n1, n2 := n2, t1 := t1, t2 := t2, t3 := t3, t4 := t4, t5 := t5, t6 := t6, st := st, t' := t', sz := 1, doc := doc, ctv := ctv, oA := oA, oX := oX, oc := oc, vs' := vs' })
    (nk := nk) (nh := nh) (na := na) (nl := nl) (nA := nA) X' T' K' codeHd codeHd2 dK dR dZ hIy hln hps rfl d1 d2 d3 d4 c0 c1 c2 c3 c4 c5 c6 c7 c8 c9 c10 c11 c12 c13 c14 e0 e1 e2 e3 e4 F (NewsSub N ?_) hE hQ
  simp only [List.forall_mem_cons, List.not_mem_nil, false_implies, implies_true, and_true] at m
  obtain ⟨q1, q2, q3, q4, q5, q6, q7, q8, q9, q10, q11, q12, q13, q14, q15, q16, q17⟩ := m
  intro p hp
  simp only [List.cons_append, List.nil_append, List.mem_cons, List.not_mem_nil, or_false, fixOf] at hp
  rcases hp with rfl | rfl | rfl | rfl | rfl | rfl | rfl | rfl | rfl | rfl | rfl | rfl | rfl | rfl | rfl | rfl | rfl | rfl | rfl <;> assumption
end
theorem row_pos {g : Int → Int} {ks : List Int} : ∀ m ∈ ks.map (fun k => 2 + Int.fmod (g k) 90), 0 < m := by
  intro m hm
  obtain ⟨k, _, rfl⟩ := List.mem_map.mp hm
  have := Int.fmod_nonneg_of_pos (g k) (b := 90) (by decide)
  omega
end Mine
open PySem PySem.W PySem.Calls PyProof.Rows
set_option maxRecDepth 100000
set_option maxHeartbeats 1500000
local macro_rules | `(tactic| walk_at "none 0") => `(tactic| fail)
local macro_rules | `(tactic| walk_at "none 1") => `(tactic| fail)
local macro_rules | `(tactic| walk_at "none 2") => `(tactic| fail)
local macro_rules | `(tactic| walk_at "none 3") => `(tactic| fail)
local macro_rules | `(tactic| walk_at "none 4") => `(tactic| fail)
local macro_rules | `(tactic| walk_at "none 5") => `(tactic| fail)
local macro_rules | `(tactic| walk_at "none 6") => `(tactic| fail)
local macro_rules | `(tactic| walk_at "none 7") => `(tactic| fail)
local macro_rules | `(tactic| walk_at "none 8") => `(tactic| fail)
local macro_rules | `(tactic| walk_at "none 9") => `(tactic| fail)
local macro_rules | `(tactic| walk_at "none 10") => `(tactic| fail)
local macro_rules | `(tactic| walk_at "none 11") => `(tactic| fail)
local macro_rules | `(tactic| walk_at "call builtin:hasattr") => `(tactic| (k_here; (with_reducible show wpAny _ _ (call (Value.builtin _) [Value.none, _]) _ _ _); k_dflt (refine' Mine.hasattr_none_K ?k0 ?k1 ?k2 ?_; (case k0 => exact rfl); (case k1 => k_asm); (case k2 => k_asm); k_whole); intro h' tk' F' N'; (try k_sweep)))
local macro_rules | `(tactic| walk_at "call builtin:sum") => `(tactic| (k_here; (with_reducible show wpAny _ _ (call (Value.builtin "sum") [Value.ref _]) _ _ _); k_dflt (refine' Mine.sum_pick ?k0 ?k1 ?k2 ?k3 ?k4 ?_; (case k0 => with_unfolding_all rfl); (case k1 => k_asm); (case k2 => k_asm); (case k3 => k_mem); (case k4 => assumption); k_whole); intro h' tk' t' F' N'))
local macro_rules | `(tactic| walk_at "call builtin:hasattr") => `(tactic| (k_here; (with_reducible show wpAny _ _ (call (Value.builtin _) [Value.ref _, _]) _ _ _); k_dflt (first
  | (refine' Mine.has46_yes ?k1 ?k2 ?k3 ?k4 ?k5 ?_; (case k1 => k_asm); (case k2 => k_asm); (case k3 => k_inst); (case k4 => k_get); (case k5 => k_handed); k_whole)
  | (refine' Mine.has46_no ?k0 ?k1 ?k2 ?k3 ?k4 ?k5 ?_; (case k0 => exact rfl); (case k1 => k_asm); (case k2 => k_asm); (case k3 => k_asm); (case k4 => k_inst); (case k5 => k_get); k_whole; intro h' tk' F' N'; (try k_sweep)))))
set_option maxRecDepth 100000 in
set_option maxHeartbeats 8000000 in
theorem PySem.Challenge.cw_dn0266_02_holds : PySem.Challenge.rw_dn0266_02.Holds :=
  Mine.hd (by
  w_strict (k_go0; (all_goals try k_fold); k_steps; (with_unfolding_all refine' Mine.law_firstF ?X ?T ?K ?h1 ?h2 ?F ?N ?m ?dK ?dR ?dZ ?d1 ?d2 ?d3 ?d4 ?hI ?m2 ?m3 ?hln ?hps ?c0 ?c1 ?c2 ?c3 ?c4 ?c5 ?c6 ?c7 ?c8 ?c9 ?c10 ?c11 ?c12 ?c13 ?c14 ?e0 ?e1 ?e2 ?e3 ?e4 ?hE ?hQ; (case X => (k_asm)); (case T => (k_asm)); (case K => (k_asm)); (case h1 => (assumption)); (case h2 => (assumption)); (case F => (k_asm)); (case N => (k_asm)); (case m => (with_unfolding_all k_allIn)); (case dK => (assumption)); (case dR => (assumption)); (case dZ => (assumption)); (case d1 => (exact Eq.trans (by assumption) (by with_unfolding_all rfl))); (case d2 => (exact Eq.trans (by assumption) (by with_unfolding_all rfl))); (case d3 => (assumption)); (case d4 => (assumption)); (case hI => (assumption)); (case m2 => (k_mem)); (case m3 => (k_mem)); (case hln => (simp [rangeKs_length])); (case hps => (exact Mine.row_pos)); (case c0 => (omega)); (case c1 => (omega)); (case c2 => (omega)); (case c3 => (omega)); (case c4 => (omega)); (case c5 => (omega)); (case c6 => (omega)); (case c7 => (omega)); (case c8 => (omega)); (case c9 => (omega)); (case c10 => (omega)); (case c11 => (omega)); (case c12 => (omega)); (case c13 => (omega)); (case c14 => (omega)); (case e0 => (omega)); (case e1 => (omega)); (case e2 => (omega)); (case e3 => (omega)); (case e4 => (omega)); (case hE => (passes_own)); (intro h' tk' m' ps' F' N')); all_goals k_steps; done))
