import PyProof.Rows.All
import Wide.All
import OpenK.AllK
import Wide.FinOn
import PySem.Challenge.RW_dn0266_01
set_option Elab.async false
set_option linter.all false
namespace Mine
open PySem PySem.W PySem.Calls PyProof.Rows
set_option maxRecDepth 100000
set_option maxHeartbeats 4000000
section
variable {prog : Program} {w : World} {A : Around} {E : Value → Shared → Prop} {s : Shared}

theorem lk_none_close : typeLookup (.type "NoneType") (Str.ofString "close") = pure none := by rw [typeLookup_type, builtinLookup_eq_fast]; kernel_rfl
theorem entry_hasattr : entryFor table "hasattr" = some Builtin.«hasattr» := entryFor_of_tree (by kernel_rfl)
theorem args_hasattr (a b : Value) : argsOk "hasattr" ⟨[a, b], []⟩ := by unfold argsOk; kernel_rfl

theorem getAttrBy_miss_none {name : Str} {u : Tok} {Q : Value → Shared → Prop} (hmiss : typeLookup (.type "NoneType") name = pure none) (hA : A.handled = none)
    (h : ∀ h' tk e, Heap.NewAttrErr s.heap h' e .none name → E (.ref e) { s with heap := h', toks := tk }) (hsz : name.length + 100 ≤ sizeLine) :
    wpAny (model prog w) A (getAttrBy (.none) (.str name u) false) Q E s := by
  obtain ⟨hp, g, d, tk, os⟩ := s
  have hT : ∀ s' : Shared, s'.TypeIs (.none) "NoneType" := fun _ => rfl
  have f1 := sub_AttributeError
  have f3 := F.slot_NoneType_getattribute.lookup
  have f4 := F.slot_NoneType_getattribute.bind (.none)
  have f5 := am_none_getattr_none
  unfold getAttrBy
  repeat (any_goals (first | assumption | ((with_reducible show wpAny _ _ (call (Value.builtin "object.__getattribute__") _ _) _ _ _); refine call_meets F.slot_NoneType_getattribute (hT _) F.entry_object_getattribute (F.args_object_getattribute_2 _ _) (meets_getattribute_miss_none name _ hmiss hsz) ⟨hA, fun h' tk' e hx => ?_⟩) | wp_step))
  obtain ⟨t', u', he⟩ := hx.there
  show wpAny _ _ (getattributeRaised _ _ _ _ _ _ _) _ _ _
  unfold getattributeRaised
  repeat (any_goals (first | assumption | wp_step))
  exact h _ _ _ hx

theorem hasattr_none {tk : Tok} {Q : Value → Shared → Prop} (hh : A.handled = none)
    (h : ∀ h' tk', (∀ b o, s.heap.get? b = some o → h'.get? b = some o) → Q (.bool false) { s with heap := h', toks := tk' }) :
    wpAny (model prog w) A (call (.builtin "hasattr") [.none, .str (Str.ofString "close") tk]) Q E s := by
  refine call_function_entry (by decide +kernel) (by decide +kernel) entry_hasattr (args_hasattr _ _) ?_
  obtain ⟨hp, g, d, t, os⟩ := s
  have hT : ∀ s' : Shared, s'.TypeIs (.none) "NoneType" := fun _ => rfl
  have f1 := lk_none_close
  have f2 := sub_AttributeError
  unfold Builtin.«hasattr»
  repeat (any_goals (first | assumption | ((with_reducible show wpAny _ _ (getAttrBy _ _ _) _ _ _); refine getAttrBy_miss_none f1 (by exact hh) (fun h' tk' e hx => ?_) (by size_fits); obtain ⟨t', u', he⟩ := id hx.there) | wp_step))
  exact ⟨_, rfl, h _ _ hx.keeps⟩
end
end Mine
namespace Mine
open PySem PySem.W PySem.Calls PyProof.Rows
set_option maxRecDepth 100000
set_option maxHeartbeats 4000000
section
variable {prog : Program} {w : World} {A : Around} {E : Value → Shared → Prop} {s : Shared} {K : Frag} {x C : Addr} {ox : Obj} {od : Option Obj} {name : Str}

theorem getAttrBy_value {v : Value} {u : Tok} {Q : Value → Shared → Prop} (X : K.In s.heap) (I : InstAt s.heap x ox C od) (hga : findIn K (.ref C) "__getattribute__" = some (some (.builtin "object.__getattribute__")))
    (hf : findObj K C od name = some (.value v)) (hh : handedIn v = true) (h : Q v s) : wpAny (model prog w) A (getAttrBy (.ref x) (.str name u) false) Q E s := by
  obtain ⟨hp, g, d, t, os⟩ := s
  have L0 := I.type (M := model prog w)
  have L1 := looks_findIn (M := model prog w) X hga
  have L2 := looks_find (M := model prog w) X I hf
  unfold getAttrBy
  refine wpAny_holding (wpAny_bind (L0.at (wpAny_bind (L1.at ?_))))
  show wpAny _ _ (getAttrEveryday _ _ _) _ _ _
  refine wpAny_bind (wpAny_onRaise (wpAny_runValue (codeAny_builtin F.plainObj_entry_getattr_hooked ?_)))
  refine wpAny_bind (wpAny_pure (wpAny_bind (L0.at (wpAny_bind (L2.at ?_)))))
  refine wpAny_pure ?_
  show wpAny _ _ (handedOut v) _ _ _
  rw [handedOut_of hh]; exact wpAny_pure h

theorem raiseAttr_of_inst {α : Type} {cd : ClassData} {Q : α → Shared → Prop} (X : K.In s.heap) (I : InstAt s.heap x ox C od) (hc : clsIn K C = some cd) (hn : cd.name.cps.foldl (fun k c => k + (Str.utf8Of c).length) 0 ≤ 100)
    (hA : A.handled = none) (hsz : (Str.ofString (toString "'" ++ toString cd.name.toString ++ toString "' object has no attribute '") ++ name ++ Str.ofString "'").length ≤ sizeLine)
    (h : ∀ h' tk e, Heap.NewAttrErr s.heap h' e (.ref x) name → E (.ref e) { s with heap := h', toks := tk }) :
    wpAny (model prog w) A (Builtin.ObjectAttr.noSuchAttribute (.ref x) name : Sem α) Q E s := by
  obtain ⟨hp, g, d, t, os⟩ := s
  have L0 := I.type (M := model prog w)
  have L1 := looks_clsIn (M := model prog w) X hc
  unfold Builtin.ObjectAttr.noSuchAttribute typeNameOfCut shownTypeOf
  refine wpAny_bind (wpAny_bind (wpAny_bind (L0.at ?_)))
  refine wpAny_bind (wpAny_pure ?_)
  refine wpAny_pure ?_
  unfold typeNameCut
  refine wpAny_bind (L1.at ?_)
  dsimp only
  rw [if_pos hn]
  refine wpAny_pure ?_
  exact wpAny_raiseAttrError hA h hsz

theorem getAttrBy_missing {cd : ClassData} {u : Tok} {Q : Value → Shared → Prop} (X : K.In s.heap) (I : InstAt s.heap x ox C od) (hga : findIn K (.ref C) "__getattribute__" = some (some (.builtin "object.__getattribute__")))
    (hk : findIn K (.ref C) "__getattr__" = some none)
    (hf : findObj K C od name = some .missing) (hc : clsIn K C = some cd) (hn : cd.name.cps.foldl (fun k c => k + (Str.utf8Of c).length) 0 ≤ 100)
    (hA : A.handled = none) (hsz : (Str.ofString (toString "'" ++ toString cd.name.toString ++ toString "' object has no attribute '") ++ name ++ Str.ofString "'").length ≤ sizeLine)
    (h : ∀ h' tk e, Heap.NewAttrErr s.heap h' e (.ref x) name → E (.ref e) { s with heap := h', toks := tk }) : wpAny (model prog w) A (getAttrBy (.ref x) (.str name u) false) Q E s := by
  obtain ⟨hp, g, d, t, os⟩ := s
  have L0 := I.type (M := model prog w)
  have L1 := looks_findIn (M := model prog w) X hga
  have L2 := looks_find (M := model prog w) X I hf
  have L3 := looks_findIn (M := model prog w) X hk
  unfold getAttrBy
  refine wpAny_holding (wpAny_bind (L0.at (wpAny_bind (L1.at ?_))))
  show wpAny _ _ (getAttrEveryday _ _ _) _ _ _
  refine wpAny_bind (wpAny_onRaise (wpAny_runValue (codeAny_builtin F.plainObj_entry_getattr_hooked ?_)))
  refine wpAny_bind (wpAny_pure (wpAny_bind (L0.at (wpAny_bind (L2.at ?_)))))
  dsimp only
  refine wpAny_bind (L3.at ?_)
  show wpAny _ _ (Builtin.ObjectAttr.noSuchAttribute (.ref x) name) _ _ _
  refine raiseAttr_of_inst X I hc hn hA hsz fun h' tk e hx => ?_
  show wpAny _ _ (noteIf false _ _ _) _ _ _
  exact wpAny_pure (h h' tk e hx)

theorem hasattr_inst {tk : Tok} {Q : Value → Shared → Prop} (I : InstAt s.heap x ox C od) (X : K.In s.heap) (hm : mroIn K C (.type "module") = some false)
    (hg : wpAny (model prog w) A.in1 (getAttrBy (.ref x) (.str name tk) false) (fun _ s' => Q (.bool true) s') (fun e s' => (∃ a o, e = .ref a ∧ s'.heap.get? a = some o ∧ o.cls = .type "AttributeError") ∧ Q (.bool false) s') s) :
    wpAny (model prog w) A (call (.builtin "hasattr") [.ref x, .str name tk]) Q E s := by
  refine call_function_entry (by decide +kernel) (by decide +kernel) entry_hasattr (args_hasattr _ _) ?_
  obtain ⟨hp, g, d, t, os⟩ := s
  dsimp only at I X
  have L0 := I.type (M := model prog w)
  have LI : Looks (model prog w) hp (isInstance (.ref x) (.type "module")) false := L0.andThen (looks_mroIn X hm)
  have f2 := sub_AttributeError
  unfold Builtin.«hasattr»
  refine wpAny_bind (wpAny_pure ?_)
  dsimp only
  repeat (any_goals (first | assumption | (with_reducible refine Looks.at (by assumption) ?_) | ((with_reducible show wpAny _ _ (getAttrBy _ _ _) _ _ _); refine wpAny_mono hg (fun v s' hq => ?_) (fun e s' hq => ?_)) | wp_step))
  · exact ⟨_, rfl, hq⟩
  · obtain ⟨hp', g', d', t', os'⟩ := s'
    obtain ⟨⟨a, ⟨oc, odi, oda, osl⟩, rfl, hq1, rfl⟩, hq2⟩ := hq
    dsimp only at hq1 hq2
    repeat (any_goals (first | assumption | wp_step))
    exact ⟨_, rfl, hq2⟩

theorem hasattr_yes {v : Value} {es : List DictEntry} {n : Nat} {attr : Option Value} {tk : Tok} {Q : Value → Shared → Prop} (X : K.In s.heap) (I : InstAt s.heap x ox C (some (dictOf es n))) (hm : mroIn K C (.type "module") = some false)
    (hg : plainGet K C name = true) (hh : hasDictIn K C = true)
    (ha : findIn K (.ref C) name = some attr) (hn : noGet K attr = true) (hl : getL name es = some (some v)) (hv : handedIn v = true) (h : Q (.bool true) s) :
    wpAny (model prog w) A (call (.builtin "hasattr") [.ref x, .str name tk]) Q E s :=
  hasattr_inst I X hm (getAttrBy_value X I (plainGet_of hg).1 (findObj_own hh ha hn hl) hv h)

theorem findObj_miss {od : Obj} (hh : hasDictIn K C = true) (ha : findIn K (.ref C) name = some none) (hc : copiedNames.contains name = false) (hl : lookIn name od = some none) :
    findObj K C (some od) name = some .missing := by
  obtain ⟨cd, hc', hd⟩ := any_some hh
  unfold findObj
  have ho : PySem.W.ownOf cd (some od) name = some none := by unfold PySem.W.ownOf; rw [if_pos hd]; exact hl
  rw [hc', Option.bind_some, ha, Option.bind_some]
  simp only [Option.bind_some, ho, hc, Bool.false_and, Bool.false_eq_true, if_false]

theorem hasattr_no {cd : ClassData} {es : List DictEntry} {n : Nat} {tk : Tok} {Q : Value → Shared → Prop} (X : K.In s.heap) (I : InstAt s.heap x ox C (some (dictOf es n))) (hm : mroIn K C (.type "module") = some false)
    (hg : plainGet K C name = true) (hh : hasDictIn K C = true)
    (ha : findIn K (.ref C) name = some none) (hcn : copiedNames.contains name = false) (hl : getL name es = some none) (hc : clsIn K C = some cd) (hn : cd.name.cps.foldl (fun k c => k + (Str.utf8Of c).length) 0 ≤ 100)
    (hA : A.handled = none) (hsz : (Str.ofString (toString "'" ++ toString cd.name.toString ++ toString "' object has no attribute '") ++ name ++ Str.ofString "'").length ≤ sizeLine)
    (h : ∀ h' tk', (∀ b o, s.heap.get? b = some o → h'.get? b = some o) → Q (.bool false) { s with heap := h', toks := tk' }) :
    wpAny (model prog w) A (call (.builtin "hasattr") [.ref x, .str name tk]) Q E s :=
  hasattr_inst I X hm (getAttrBy_missing X I (plainGet_of hg).1 (plainGet_of hg).2 (findObj_miss hh ha hcn hl) hc hn hA hsz (fun h' tk' e hx => ⟨by
    obtain ⟨t, u, he⟩ := hx.there; exact ⟨e, _, rfl, he, rfl⟩, h h' tk' hx.keeps⟩))

variable {h₀ : Heap} {L : Addr} {m : Str → Option Value} {news : List (Addr × Obj)}
theorem hasattr_none_K {tk : Tok} {Q : Value → Shared → Prop} (hh : A.handled = none) (F : Fr h₀ L s.heap m) (N : News h₀ L s.heap news)
    (h : ∀ h' tk', Fr h₀ L h' m → News h₀ L h' news → Q (.bool false) { s with heap := h', toks := tk' }) :
    wpAny (model prog w) A (call (.builtin "hasattr") [.none, .str (Str.ofString "close") tk]) Q E s :=
  hasattr_none hh fun h' tk' hk => h h' tk' (F.keeps hk) (N.grown hk)
theorem hasattr_yes_K {v : Value} {es : List DictEntry} {n : Nat} {attr : Option Value} {tk : Tok} {Q : Value → Shared → Prop} (F : Fr h₀ L s.heap m) (X₀ : K.In h₀) (I : InstAt s.heap x ox C (some (dictOf es n))) (hm : mroIn K C (.type "module") = some false)
    (hg : plainGet K C name = true) (hh : hasDictIn K C = true)
    (ha : findIn K (.ref C) name = some attr) (hn : noGet K attr = true) (hl : getL name es = some (some v)) (hv : handedIn v = true) (h : Q (.bool true) s) :
    wpAny (model prog w) A (call (.builtin "hasattr") [.ref x, .str name tk]) Q E s :=
  hasattr_yes (X₀.keeps F.keep) I hm hg hh ha hn hl hv h
theorem hasattr_no_K {cd : ClassData} {es : List DictEntry} {n : Nat} {tk : Tok} {Q : Value → Shared → Prop} (hA : A.handled = none) (F : Fr h₀ L s.heap m) (N : News h₀ L s.heap news) (X₀ : K.In h₀) (I : InstAt s.heap x ox C (some (dictOf es n))) (hm : mroIn K C (.type "module") = some false)
    (hg : plainGet K C name = true) (hh : hasDictIn K C = true)
    (ha : findIn K (.ref C) name = some none) (hcn : copiedNames.contains name = false) (hl : getL name es = some none) (hc : clsIn K C = some cd) (hn : cd.name.cps.foldl (fun k c => k + (Str.utf8Of c).length) 0 ≤ 100)
    (hsz : (Str.ofString (toString "'" ++ toString cd.name.toString ++ toString "' object has no attribute '") ++ name ++ Str.ofString "'").length ≤ sizeLine)
    (h : ∀ h' tk', Fr h₀ L h' m → News h₀ L h' news → Q (.bool false) { s with heap := h', toks := tk' }) :
    wpAny (model prog w) A (call (.builtin "hasattr") [.ref x, .str name tk]) Q E s :=
  hasattr_no (X₀.keeps F.keep) I hm hg hh ha hcn hl hc hn hA hsz fun h' tk' hk => h h' tk' (F.keeps hk) (N.grown hk)
end
end Mine
namespace Mine
open PySem PySem.W PySem.Calls PyProof.Rows
set_option maxRecDepth 100000
set_option maxHeartbeats 4000000
def pickL (ns : List Int) (lo hi st : Option Int) : List Int :=
  (sliceRange (sliceBounds lo hi st ns.length).1 (sliceBounds lo hi st ns.length).2.1 (sliceBounds lo hi st ns.length).2.2).filterMap (ns[·]?)
theorem ints_filterMap {vs : List Value} {ns : List Int} (h : IntsAre vs ns) : ∀ is : List Nat, IntsAre (is.filterMap (vs[·]?)) (is.filterMap (ns[·]?))
  | [] => .nil
  | i :: is => by
    have ih := ints_filterMap h is
    have hl := h.length
    cases hn : ns[i]? with
    | none =>
      have hv : vs[i]? = none := by rw [List.getElem?_eq_none_iff] at hn ⊢; omega
      rw [List.filterMap_cons, List.filterMap_cons, hn, hv]; exact ih
    | some n =>
      obtain ⟨t, ht⟩ := h.get i n hn
      rw [List.filterMap_cons, List.filterMap_cons, hn, ht]; exact .cons _ _ ih
theorem ints_pick {vs : List Value} {ns : List Int} (h : IntsAre vs ns) (lo hi st : Option Int) : IntsAre (slicePick vs.toArray lo hi st).toList (pickL ns lo hi st) := by
  have e := ints_filterMap h (sliceRange (sliceBounds lo hi st ns.length).1 (sliceBounds lo hi st ns.length).2.1 (sliceBounds lo hi st ns.length).2.2)
  have hl : vs.toArray.size = ns.length := by simp [h.length]
  unfold slicePick pickL
  rw [hl]
  simpa using e
section
variable {prog : Program} {w : World} {A : Around} {E : Value → Shared → Prop} {s : Shared} {h₀ : Heap} {L : Addr} {m : Str → Option Value} {news : List (Addr × Obj)}
theorem sum_pick {l : Addr} {vs : List Value} {ns : List Int} {lo hi st : Option Int} {Q : Value → Shared → Prop} (hh : A.handled = none) (F : Fr h₀ L s.heap m) (N : News h₀ L s.heap news)
    (hm : (l, ({ cls := .type "list", data := .seq (slicePick vs.toArray lo hi st) } : Obj)) ∈ news) (hI : IntsAre vs ns)
    (h : ∀ h' tk t', Fr h₀ L h' m → News h₀ L h' news → Q (.int (pickL ns lo hi st).sum t') { s with heap := h', toks := tk }) :
    wpAny (model prog w) A (call (.builtin "sum") [.ref l]) Q E s :=
  sumK hh F N ⟨_, (N _ hm).1, rfl, 0, by simp⟩ (ints_pick hI lo hi st) h
end
end Mine
namespace Mine
open PySem PySem.W PySem.Calls PyProof.Rows
set_option maxRecDepth 100000
set_option maxHeartbeats 4000000
def NeF (a b : Nat) : Prop := a ≠ b
theorem NeF.l {a b : Nat} (h : NeF a b) : a ≠ b := h
theorem NeF.r {a b : Nat} (h : NeF a b) : b ≠ a := Ne.symm h
def NeTo (a : Nat) : List Nat → Prop | [] => True | b :: r => NeF a b ∧ NeTo a r
def NeAll : List Nat → Prop | [] => True | a :: r => NeTo a r ∧ NeAll r
theorem neTo_of {a : Nat} : ∀ {l : List Nat}, a ∉ l → NeTo a l
  | [], _ => trivial
  | _ :: _, h => ⟨fun e => h (by rw [e]; exact .head _), neTo_of fun e => h (.tail _ e)⟩
theorem neAll_of : ∀ {l : List Nat}, l.Nodup → NeAll l
  | [], _ => trivial
  | _ :: _, h => ⟨neTo_of (List.nodup_cons.mp h).1, neAll_of (List.nodup_cons.mp h).2⟩
section
variable {prog : Program} {w : World} {A : Around} {E : Value → Shared → Prop} {s : Shared}
theorem len_eq {l : Addr} {vs : List Value} {T : Nat} {Q : Value → Shared → Prop} (hl : s.heap.IsList l vs.toArray) (he : vs.length = T) (hfit : T < 2 ^ 62)
    (h : Q (.int (T : Nat) (s.toks + 1)) { s with toks := s.toks + 1 + 1 }) : wpAny (model prog w) A (call (.builtin "len") [.ref l]) Q E s :=
  len_list hl (by rw [List.size_toArray, he]; omega) (by rw [List.size_toArray, he]; exact h)
end
section
variable {prog : Program} {w : World} {A : Around} {E : Value → Shared → Prop} {s : Shared} {env : Env} {h₀ : Heap} {x : Str} {body : List Stmt} {Q : Flow → Shared → Prop}

def LpEnd (h₀ : Heap) (L : Addr) (J : (Str → Option Value) → List (Addr × Obj) → Prop) (I : Addr) (oI : Obj) (s₁ s₂ : Shared) : Prop :=
  ∃ h' tk m' news' nx, s₂ = { s₁ with heap := h', toks := tk } ∧ Fr h₀ L h' m' ∧ News h₀ L h' news' ∧ (∀ p ∈ nx, p ∈ news') ∧ (I, oI) ∈ news' ∧ (∀ p ∈ nx, p.1 ≠ I) ∧ J m' nx
def LpPost (h₀ : Heap) (L : Addr) (J : (Str → Option Value) → List (Addr × Obj) → Prop) (I : Addr) (oI : Obj) (s₁ : Shared) (Q : Flow → Shared → Prop) (f : Flow) (s₂ : Shared) : Prop :=
  match f with
  | .ret v => Q (.ret v) s₂
  | .brk => Q .next s₂
  | _ => LpEnd h₀ L J I oI s₁ s₂

theorem loop_inv {I : Addr} {fp wr : List Addr} {n : Nat} {P : Nat → Value → Prop} {St : Nat → Heap → Prop} {m₀ : Str → Option Value} {news : List (Addr × Obj)} (J : Nat → (Str → Option Value) → List (Addr × Obj) → Prop)
    (W : Walks prog w A I fp wr n P St) (hIf : I ∈ fp) (hfp : ∀ b ∈ fp, b = I ∨ ∃ q, h₀.get? b = some q) (hI0 : h₀.get? I = none) (hwr1 : wr = [I]) (hob : ∀ i h, St i h → ∃ o, h.get? I = some o)
    (hLf : env.locals ∉ fp) (hnw : ∀ p ∈ news, p.1 ≠ I) (hst : St 0 s.heap) (F : Fr h₀ env.locals s.heap m₀) (N : News h₀ env.locals s.heap news) (hj : J 0 m₀ news)
    (turn : ∀ i v m₁ nx h tk oI, i < n → P i v → J i m₁ nx → (∀ p ∈ nx, p.1 ≠ I) → Fr h₀ env.locals h (fun y => if y = x then some v else m₁ y) → News h₀ env.locals h ((I, oI) :: nx) →
      wpAny (model prog w) A (execs body env) (LpPost h₀ env.locals (J (i + 1)) I oI { s with heap := h, toks := tk } Q) E { s with heap := h, toks := tk })
    (done : ∀ m₁ nx h tk, J n m₁ nx → Fr h₀ env.locals h m₁ → News h₀ env.locals h nx → Q .next { s with heap := h, toks := tk }) :
    LoopAtV prog w A h₀ env x body Q E (.ref I) s := by
  have hwI : ∀ b ∈ wr, b = I := fun b hb => by rw [hwr1] at hb; exact List.mem_singleton.mp hb
  have hwr : ∀ b ∈ wr, h₀.get? b = none := fun b hb => by rw [hwI b hb]; exact hI0
  refine ⟨I, fp, wr, n, P, St, m₀, news, J, rfl, W, hLf, hwr, (fun p hp hb => hnw p hp (hwI _ hb)), hst, F, N, hj, ?_, ?_⟩
  · rintro i v m₁ nx s₁ own ⟨hh', tk', rfl⟩ hin hP hJ hoff hown _ hall hst' F₁ N₁
    obtain ⟨o, ho⟩ := hob _ _ hst'
    have hio : (I, o) ∈ own := hall I hIf hI0 o ho
    have hone := own_one hown hfp ho N₁
    have hoff' : ∀ p ∈ nx, p.1 ≠ I := fun p hp e => by
      exact hoff p hp (by rw [hwr1, e]; exact List.mem_singleton.mpr rfl)
    refine wpAny_mono (turn i v m₁ nx hh' tk' o hin hP hJ hoff' F₁ (news_one hio N₁)) (fun f s₂ p => ?_) fun _ _ e => e
    have fin : LpEnd h₀ env.locals (J (i + 1)) I o { s with heap := hh', toks := tk' } s₂ → LoopStepU h₀ env.locals wr own (J (i + 1)) { s with heap := hh', toks := tk' } .next s₂ := by
      rintro ⟨h', tk, m', news', nx', e, F', N', hn, hi, ha, hm⟩
      refine ⟨rfl, h', tk, m', nx', e, F', fun p hp => ?_, fun p hp hq => ha p hp (hwI _ hq), hm⟩
      rcases List.mem_append.mp hp with h1 | h1
      · rw [hone p h1]; exact N' _ hi
      · exact N' _ (hn p h1)
    cases f with
    | ret v => exact .ret p
    | brk => exact .brk p
    | next => exact .next (fin p)
    | cont => exact .cont (fin p)
  · rintro h' tk m' news' F' N' _ hJ
    exact done m' news' h' tk hJ F' N'

theorem range_inv {r : Addr} {a₀ b₀ : Int} {t₀ u₀ v₀ : Tok} {n : Nat} {m₀ : Str → Option Value} {news : List (Addr × Obj)} (J : Nat → (Str → Option Value) → List (Addr × Obj) → Prop)
    (hh : A.handled = none) (hr : IsRange s.heap r a₀ b₀ 1 t₀ u₀ v₀) (hsmall : Builtin.Range.small a₀ b₀ 1 = true) (hn : Builtin.Range.rangeSize a₀ b₀ 1 = (n : Int)) (F : Fr h₀ env.locals s.heap m₀) (N : News h₀ env.locals s.heap news) (hj : J 0 m₀ news)
    (turn : ∀ i t m₁ nx h tk I oI, i < n → J i m₁ nx → (∀ p ∈ nx, p.1 ≠ I) → Fr h₀ env.locals h (fun y => if y = x then some (.int (a₀ + i) t) else m₁ y) → News h₀ env.locals h ((I, oI) :: nx) →
      wpAny (model prog w) A (execs body env) (LpPost h₀ env.locals (J (i + 1)) I oI { s with heap := h, toks := tk } Q) E { s with heap := h, toks := tk })
    (done : ∀ m₁ nx h tk, J n m₁ nx → Fr h₀ env.locals h m₁ → News h₀ env.locals h nx → Q .next { s with heap := h, toks := tk }) :
    wpAny (model prog w) A (pyIter (.ref r)) (fun it s₂ => LoopAtV prog w A h₀ env x body Q E it s₂) E s := by
  refine wpAny_pyIter_range hr hsmall ?_
  have W : Walks prog w A s.heap.objs.size [s.heap.objs.size] [s.heap.objs.size] n (fun i v => i < n ∧ ∃ t, v = .int (a₀ + i * 1) t)
      (fun i h => IsRangeIter h s.heap.objs.size (a₀ + (i : Nat) * 1) ((n : Int) - (i : Nat)) 1) := (Walks.range hh _ a₀ 1 n).bound
  refine loop_inv J W (List.mem_singleton.mpr rfl) (fun b hb => .inl (List.mem_singleton.mp hb)) (next_is_new F) rfl (fun i h hs => ⟨_, hs⟩) ?_ ?_ (by show IsRangeIter _ _ _ _ _; rw [hn]; simpa using Heap.get?_push_size _ rfl) (F.push _) (fun p hp => ⟨Heap.get?_push_of_some _ (N p hp).1, (N p hp).2⟩) hj ?_ done
  · intro hm
    exact absurd F.ns.lt ((List.mem_singleton.mp hm) ▸ Nat.lt_irrefl _)
  · intro p hp hI
    exact absurd (Heap.lt_size (N p hp).1) (hI ▸ Nat.lt_irrefl _)
  · rintro i v m₁ nx h tk oI hi ⟨_, t, rfl⟩ hJ ho F₁ N₁
    refine turn i t m₁ nx h tk _ oI hi hJ ho ?_ N₁
    simpa using F₁
end
end Mine
namespace Mine
open PySem PySem.W PySem.Calls PyProof.Rows Builtin Builtin.ObjectAttr
set_option maxRecDepth 100000
set_option maxHeartbeats 4000000
theorem slot_del : Slot "object" "__delattr__" "object.__delattr__" :=
  .of (owner := "object") (n := "__delattr__") (by rw [typeLookup_type, builtinLookup_eq_fast]; kernel_rfl) (by decide +kernel) (by decide +kernel) (by decide +kernel)
    (by first | exact .inl (by decide +kernel) | exact .inr (by decide +kernel)) (by rw [isSubtype_type]; kernel_rfl)
theorem entry_del : entryFor table "object.__delattr__" = some Builtin.«object.__delattr__» := entryFor_of_tree (by kernel_rfl)
theorem args_del (a b : Value) : argsOk "object.__delattr__" ⟨[a, b], []⟩ := by unfold argsOk; kernel_rfl
theorem passes_del (self : Value) : refuseLoop self "__delattr__" [.type "object"] = pure () := by kernel_rfl
theorem refuse_del (self : Value) : ∀ {l : List Value}, onlyObject l = true → refuseLoop self "__delattr__" l = pure ()
  | [.type n], e => by rw [show n = "object" from beq_iff_eq.mp e]; exact passes_del self
  | .ref c :: r, e => by rw [refuseLoop_ref]; exact refuse_del self (by cases r <;> first | exact e | cases e)
theorem del_eq (self : Value) (name : Str) (tk : Tok) : Builtin.«object.__delattr__» ⟨[self, .str name tk], []⟩ = (refuseIfOverridden self "__delattr__" >>= fun _ => typeOf self >>= fun tp => typeLookup tp name >>= fun attr => storeTaker? attr >>= fun r =>
    match r with | some a => deleteByDescriptor a self | none => deleteInOwnDict self tp name attr.isSome) := by kernel_rfl
section
variable {prog : Program} {w : World} {A : Around} {E : Value → Shared → Prop} {s : Shared} {K : Frag} {x C dx : Addr} {h₀ : Heap} {L : Addr} {m : Str → Option Value} {news news' : List (Addr × Obj)} {ox od od' : Obj} {name : Str}
theorem del_dict {Q : Unit → Shared → Prop} (F : Fr h₀ L s.heap m) (X₀ : K.In h₀) (N : News h₀ L s.heap news) (I : InstAt s.heap x ox C (some od)) (hd : ox.dict = some dx)
    (hs : findIn K (.ref C) "__delattr__" = some (some (.builtin "object.__delattr__"))) (hp : plainOver K C = true) (ht : takerIn K C name = some none) (hh : hasDictIn K C = true)
    (hn : nsHas name od = pure true) (e : Obj.dropName name od = od') (hf : od'.isFreed = false) (U : Upd dx od od' news news')
    (h : ∀ h', Fr h₀ L h' m → News h₀ L h' news' → Q () { s with heap := h', toks := s.toks + 1 }) :
    wpAny (model prog w) A (delAttr (.ref x) name) Q E s := by
  have X := X₀.keeps F.keep
  obtain ⟨pre, post, rfl, rfl, h1, h2⟩ := U.split
  obtain ⟨hp', g, d, t, os⟩ := s
  dsimp only at F N I X
  obtain ⟨cd, hc, ho⟩ := any_some hp
  obtain ⟨cd2, hc2, hd'⟩ := any_some hh
  rw [hc] at hc2; cases hc2
  have ne : cd.mro.isEmpty = false := by cases q : cd.mro with | nil => rw [q] at ho; cases ho | cons _ _ => rfl
  have L0 := I.type (M := model prog w)
  have sub : Looks (model prog w) hp' (isInstance (.ref x) (.type "object")) true := L0.andThen (looks_mroIn X (by unfold mroIn; rw [hc, Option.bind_some, if_neg (by rw [ne]; decide), only_has ho]))
  have L1 := looks_findIn (M := model prog w) X hs
  obtain ⟨attr, ha, hr⟩ := Option.bind_eq_some_iff.mp ht
  have hm : Looks (model prog w) hp' (mroOf (.ref C)) cd.mro := (looks_clsIn X hc).andThen .now
  have L2 := looks_findIn (M := model prog w) X ha
  have L3 : Looks (model prog w) hp' (storeTaker? attr) none := by
    cases attr with
    | none => exact .now
    | some a =>
      obtain ⟨b, hb, e⟩ := Option.map_eq_some_iff.mp hr
      refine (looks_takesIn X hb).andThen ?_
      cases b
      · exact .now
      · cases e
  obtain ⟨U1, U2⟩ := news_upd (f := Obj.dropName name) F N h1 h2 e hf
  have D := (N (dx, od) (by simp)).1
  unfold delAttr
  refine wpAny_bind (wpAny_mkText (wpAny_bind (wpAny_bind (wpAny_bind (L0.at (L1.at (wpAny_holding ?_)))))))
  rw [slot_del.bind]
  refine wpAny_bind (wpAny_pure (wpAny_bind (wpAny_call ?_)))
  refine codeAny_call_builtin slot_del.plain entry_del (@check_slot (model prog w) _ _ _ "object.__delattr__" "object" "__delattr__" (.ref x) [.str name t] [] _ (by decide +kernel) (by decide +kernel) sub (args_del (.ref x) (.str name t)) ?_)
  show wpAny _ _ (Builtin.«object.__delattr__» ⟨[.ref x, .str name t], []⟩) _ _ _
  rw [del_eq, refuse_eq]
  refine wpAny_bind (wpAny_bind (L0.at (wpAny_bind (hm.at ?_))))
  rw [refuse_del _ ho]
  refine wpAny_pure (wpAny_bind (L0.at (wpAny_bind (L2.at (wpAny_bind (L3.at ?_))))))
  dsimp only
  obtain ⟨hx, hcl, hno, -⟩ := I
  obtain ⟨oc, odi, oda, osl⟩ := ox
  dsimp only at hcl hd
  subst hcl hd
  unfold deleteInOwnDict ownDictForStores instanceDict
  refine wpAny_bind (wpAny_pure (wpAny_bind (wpAny_bind (wpAny_loadPart hx (wpAny_bind ((looks_clsIn X hc).at ?_))))))
  rw [hd']
  refine wpAny_pure (a := some dx) ?_
  dsimp only
  unfold deleteInDict
  refine wpAny_ite_false rfl ?_
  unfold nsDel
  refine wpAny_bind (wpAny_bind (wpAny_loadPart D ?_))
  rw [hn]
  refine wpAny_bind (wpAny_pure ?_)
  refine wpAny_bind (wpAny_updatePart D (wpAny_pure ?_))
  exact wpAny_pure (wpAny_pure (wpAny_pure (h _ U1 U2)))

theorem is_apart {y : Addr} {oy : Obj} {M : Model} {Q : Value → Shared → Prop} (N : News h₀ L s.heap news) (hx : (x, ox) ∈ news) (hy : (y, oy) ∈ news) (hxy : x ≠ y) (hb : ox.cls = Value.type "function") (hq : Q (.bool false) s) : wpAny M A (compareOp .Is (.ref x) (.ref y)) Q E s :=
  wpAny_is_ref_other hxy (N _ hx).1 (N _ hy).1 (by rw [hb]; intro z; exact absurd (Value.type.inj z) (by decide)) hq
end
end Mine
namespace Mine
open PySem PySem.W PySem.Calls PyProof.Rows
theorem putL_le {name : Str} {hsh : Int} {key v : Value} : ∀ {es : List DictEntry}, (putL name hsh key v es).length ≤ es.length + 1
  | [] => by simp [putL]
  | e :: r => by
    have := putL_le (name := name) (hsh := hsh) (key := key) (v := v) (es := r)
    unfold putL
    split <;> simp <;> omega
theorem putL_le2 {name : Str} {hsh : Int} {key v : Value} {es : List DictEntry} (h : es.length ≤ 900) : (putL name hsh key v es).length ≤ 1000 := Nat.le_trans putL_le (by omega)
end Mine
namespace Mine
open PySem PySem.W PySem.Calls PyProof.Rows
set_option maxRecDepth 100000
set_option maxHeartbeats 4000000
def fnBody : Stmt → List Stmt | .FunctionDef _ _ b _ _ _ _ _ _ _ => b | _ => []
def fnScope : Stmt → Scope | .FunctionDef _ _ _ _ _ _ sc _ _ _ => sc | _ => default
def fnArgs : Stmt → Arguments | .FunctionDef _ a _ _ _ _ _ _ _ _ => a | _ => default
def forBody : Stmt → List Stmt | .For _ _ b _ _ => b | _ => []
def lawStmt : Stmt := PySem.Challenge.pw_dn0266_01.main.body.getD 4 default
def shutStmt : Stmt := PySem.Challenge.pw_dn0266_01.main.body.getD 3 default
def closeStmt : Stmt := (fnBody shutStmt).getD 0 default
def lawScope : Scope := fnScope lawStmt
def body1 : List Stmt := forBody ((fnBody lawStmt).getD 6 default)
def body2 : List Stmt := forBody ((fnBody lawStmt).getD 8 default)
def body3 : List Stmt := forBody (body2.getD 4 default)
abbrev lawEnv (L fa : Addr) (cd : Value) : Env := envOfC (Str.ofString "law") lawScope L fa cd
abbrev cloQual : Str := Str.ofString "_law_shut.<locals>.close"
abbrev cloObj (mg : Str → Option Value) (cN cC : Addr) (doc : Value) (c' : Addr) (ctv : Value) : Obj :=
  fnMade (Str.ofString "close") cloQual (fnArgs closeStmt) (fnBody closeStmt) (fnScope closeStmt) [(Str.ofString "n", cN), (Str.ofString "calls", cC)] doc ((mg (Str.ofString "__name__")).getD .none) c' ctv

abbrev entF (w : World) (t : Tok) (v : Value) : DictEntry := ⟨PyData.keyHash w.params (Str.ofString "filelike"), .str (Str.ofString "filelike") t, v⟩
abbrev entB (w : World) (t : Tok) (v : Value) : DictEntry := ⟨PyData.keyHash w.params (Str.ofString "blksize"), .str (Str.ofString "blksize") t, v⟩
abbrev entC (w : World) (t : Tok) (v : Value) : DictEntry := ⟨PyData.keyHash w.params (Str.ofString "close"), .str (Str.ofString "close") t, v⟩
def dictTh (w : World) (fl : Value) (bz : Int) (cl : Option Nat) (t1 t2 t3 bt : Tok) : List DictEntry :=
  match cl with
  | none => [entF w t1 fl, entB w t2 (.int bz bt)]
  | some f => [entF w t1 fl, entB w t2 (.int bz bt), entC w t3 (.ref f)]

structure Lay where
  lc : Nat
  lt : Nat
  lcl : Nat
  lo : Nat
  ls : Nat
  ln : Nat
def Names (a : Lay) (m : Str → Option Value) : Prop :=
  m (Str.ofString "numbers") = some (.ref a.ln) ∧ m (Str.ofString "sizes") = some (.ref a.ls) ∧ m (Str.ofString "over") = some (.ref a.lo) ∧ m (Str.ofString "closes") = some (.ref a.lcl) ∧ m (Str.ofString "things") = some (.ref a.lt) ∧ m (Str.ofString "calls") = some (.ref a.lc)
abbrev mNames (a : Lay) (u : Str → Option Value) : Str → Option Value := fun y => if y = Str.ofString "numbers" then some (.ref a.ln) else if y = Str.ofString "sizes" then some (.ref a.ls) else if y = Str.ofString "over" then some (.ref a.lo)
      else if y = Str.ofString "closes" then some (.ref a.lcl) else if y = Str.ofString "things" then some (.ref a.lt) else if y = Str.ofString "calls" then some (.ref a.lc) else u y
theorem names_eq {a : Lay} {m : Str → Option Value} (h : Names a m) : m = mNames a m := by
  obtain ⟨h1, h2, h3, h4, h5, h6⟩ := h
  funext y
  unfold mNames
  split
  · rename_i e; rw [e]; exact h1
  split
  · rename_i e; rw [e]; exact h2
  split
  · rename_i e; rw [e]; exact h3
  split
  · rename_i e; rw [e]; exact h4
  split
  · rename_i e; rw [e]; exact h5
  split
  · rename_i e; rw [e]; exact h6
  rfl
def led (a : Lay) (dk xk : Nat) (es : List DictEntry) (n : Nat) (ath acl aov asz aws : Array Value) (nc nt n1 n2 n3 : Nat) : List (Addr × Obj) :=
  [(dk, dictOf es n), (xk, instObj 46 dk), (a.lc, W.listOf #[] nc), (a.lt, W.listOf ath nt), (a.lcl, W.listOf acl n1), (a.lo, W.listOf aov n2), (a.ls, W.listOf asz n3), (a.ln, W.listOf aws 0)]
def AddK (w : World) (base : Heap) (L : Addr) (s : Shared) (Q : Flow → Shared → Prop) (a : Lay) (I : Nat) (oI : Obj) (rest : List (Addr × Obj)) (dk xk : Nat) (es : List DictEntry) (n : Nat) (vth vcl vov vsz ws : List Value) (nc nt n1 n2 n3 : Nat)
    (fl : Value) (bz : Int) (cl : Option Nat) (cv ov : Int) : Prop :=
  ∀ h' tk' m' news' x' d' t1 t2 t3 bt n' tc to ts, Fr base L h' m' → Names a m' → News base L h' news' →
    (∀ p ∈ ((x', instObj 46 d') :: (d', dictOf (dictTh w fl bz cl t1 t2 t3 bt) n') :: (I, oI) :: led a dk xk es n (vth.toArray.push (Value.ref x')) (vcl.toArray.push (Value.int cv tc)) (vov.toArray.push (Value.int ov to)) (vsz.toArray.push (Value.int bz ts)) ws.toArray nc (nt + 1) (n1 + 1) (n2 + 1) (n3 + 1)), p ∈ news') →
    (∀ p ∈ rest, p ∈ news') → I < d' → d' < x' → dk < d' → (∀ p ∈ rest, p.1 < d') → Q .next { s with heap := h', toks := tk' }
def ShutK (w : World) (mg : Str → Option Value) (base : Heap) (L : Addr) (s : Shared) (Q : Flow → Shared → Prop) (a : Lay) (I : Nat) (oI : Obj) (rest : List (Addr × Obj)) (dk xk : Nat) (es : List DictEntry) (n : Nat) (vth vcl vov vsz ws : List Value) (nc nt n1 n2 n3 : Nat) (k : Nat) (i : Int) : Prop :=
  ∀ h' tk' m' news' f cN cC oN oC doc ctv tN tkey c' oc' vs' t' ti, Fr base L h' m' → Names a m' → News base L h' news' →
    (∀ p ∈ ((f, cloObj mg cN cC doc c' ctv) :: (cN, oN) :: (cC, oC) :: (I, oI) :: led a dk xk (putL (Str.ofString "close") (PyData.keyHash w.params (Str.ofString "close")) (.str (Str.ofString "close") tkey) (.ref f) es) (putN (Str.ofString "close") es n) vth.toArray (vcl.set k (.int i ti)).toArray vov.toArray vsz.toArray ws.toArray nc nt n1 n2 n3
       ++ [(52, tabObj #[rawInt 21, rawInt 4, .ref c']), (c', oc')]), p ∈ news') →
    oN.data = .cell (some (.int i tN)) → oC.data = .cell (some (.ref a.lc)) → oc'.data = .fields vs' → vs'[1]? = some (.str cloQual t') →
    (∀ p ∈ rest, p ∈ news') → I < cN → I < cC → I < f → I ≠ c' → c' ≠ 52 → Q .next { s with heap := h', toks := tk' }
def DelK (base : Heap) (L : Addr) (s : Shared) (Q : Flow → Shared → Prop) (a : Lay) (I : Nat) (oI : Obj) (rest : List (Addr × Obj)) (dk xk : Nat) (es' : List DictEntry) (n' : Nat) (vth vcl vov vsz ws : List Value) (nc nt n1 n2 n3 : Nat) (k : Nat) : Prop :=
  ∀ h' tk' m' news' tc, Fr base L h' m' → Names a m' → News base L h' news' →
    (∀ p ∈ ((I, oI) :: led a dk xk es' n' vth.toArray (vcl.set k (.int (-1) tc)).toArray vov.toArray vsz.toArray ws.toArray nc nt n1 n2 n3), p ∈ news') →
    (∀ p ∈ rest, p ∈ news') → Q .next { s with heap := h', toks := tk' }
end Mine
namespace Mine
open PySem PySem.W PySem.Calls PyProof.Rows
def ShutK2 (w : World) (mg : Str → Option Value) (base : Heap) (L : Addr) (s : Shared) (Q : Flow → Shared → Prop) (a : Lay) (I : Nat) (oI : Obj) (rest : List (Addr × Obj)) (dk xk : Nat) (es : List DictEntry) (n : Nat) (vth vcl vov vsz ws : List Value) (nc nt n1 n2 n3 : Nat) (k : Nat) (i : Int) (cc : Option Nat) : Prop :=
  ∀ h' tk' m' news' f cN cC oN oC doc ctv tN tkey c' oc' vs' t' ti, Fr base L h' m' → Names a m' → News base L h' news' →
    (∀ p ∈ ((f, cloObj mg cN cC doc c' ctv) :: (cN, oN) :: (cC, oC) :: (I, oI) :: led a dk xk (putL (Str.ofString "close") (PyData.keyHash w.params (Str.ofString "close")) (.str (Str.ofString "close") tkey) (.ref f) es) (putN (Str.ofString "close") es n) vth.toArray (vcl.set k (.int i ti)).toArray vov.toArray vsz.toArray ws.toArray nc nt n1 n2 n3
       ++ [(52, tabObj #[rawInt 21, rawInt 4, .ref c']), (c', oc')]), p ∈ news') →
    oN.data = .cell (some (.int i tN)) → oC.data = .cell (some (.ref a.lc)) → oc'.data = .fields vs' → vs'[1]? = some (.str cloQual t') →
    (∀ p ∈ rest, p ∈ news') → I < cN → I < cC → I < f → I ≠ c' → c' ≠ 52 → (∀ c0, cc = some c0 → c' = c0) → Q .next { s with heap := h', toks := tk' }
end Mine
namespace Mine
set_option maxRecDepth 100000
set_option maxHeartbeats 8000000
open_top hd for PySem.Challenge.rw_dn0266_01
end Mine
namespace Mine
open PySem PySem.W PySem.Calls PyProof.Rows
set_option maxRecDepth 100000
set_option maxHeartbeats 4000000
theorem f_mro (P : Params) : mroIn (hd.heap_39 P) 46 (.type "module") = some false := by kernel_rfl
theorem f_get (P : Params) : plainGet (hd.heap_39 P) 46 (Str.ofString "close") = true := by kernel_rfl
theorem f_dict (P : Params) : hasDictIn (hd.heap_39 P) 46 = true := by kernel_rfl
theorem f_find (P : Params) : findIn (hd.heap_39 P) (.ref 46) (Str.ofString "close") = some none := by kernel_rfl
theorem f_noget (P : Params) : noGet (hd.heap_39 P) none = true := by kernel_rfl
theorem f_copied : copiedNames.contains (Str.ofString "close") = false := by kernel_rfl
def clsShort (K : Frag) (C : Addr) (name : Str) : Bool := (clsIn K C).any fun cd => decide (cd.name.cps.foldl (fun k c => k + (Str.utf8Of c).length) 0 ≤ 100) && decide ((Str.ofString (toString "'" ++ toString cd.name.toString ++ toString "' object has no attribute '") ++ name ++ Str.ofString "'").length ≤ sizeLine)
theorem f_short (P : Params) : clsShort (hd.heap_39 P) 46 (Str.ofString "close") = true := by kernel_rfl
section
variable {prog : Program} {w : World} {A : Around} {E : Value → Shared → Prop} {s : Shared} {x dx : Addr} {h₀ : Heap} {L : Addr} {m : Str → Option Value} {news : List (Addr × Obj)} {es : List DictEntry} {n : Nat} {tk : Tok} {Q : Value → Shared → Prop}
theorem has46_yes {v : Value} (F : Fr h₀ L s.heap m) (X₀ : (hd.heap_39 w.params).In h₀) (I : InstAt s.heap x (instObj 46 dx) 46 (some (dictOf es n))) (hl : getL (Str.ofString "close") es = some (some v)) (hv : handedIn v = true) (h : Q (.bool true) s) :
    wpAny (model prog w) A (call (.builtin "hasattr") [.ref x, .str (Str.ofString "close") tk]) Q E s :=
  hasattr_yes_K F X₀ I (f_mro _) (f_get _) (f_dict _) (f_find _) (f_noget _) hl hv h
theorem has46_no (hA : A.handled = none) (F : Fr h₀ L s.heap m) (N : News h₀ L s.heap news) (X₀ : (hd.heap_39 w.params).In h₀) (I : InstAt s.heap x (instObj 46 dx) 46 (some (dictOf es n))) (hl : getL (Str.ofString "close") es = some none)
    (h : ∀ h' tk', Fr h₀ L h' m → News h₀ L h' news → Q (.bool false) { s with heap := h', toks := tk' }) :
    wpAny (model prog w) A (call (.builtin "hasattr") [.ref x, .str (Str.ofString "close") tk]) Q E s := by
  have hs := f_short w.params
  unfold clsShort at hs
  cases hc : clsIn (hd.heap_39 w.params) 46 with
  | none => rw [hc] at hs; cases hs
  | some cd =>
    rw [hc] at hs
    simp only [Option.any_some, Bool.and_eq_true, decide_eq_true_eq] at hs
    exact hasattr_no_K hA F N X₀ I (f_mro _) (f_get _) (f_dict _) (f_find _) f_copied hl hc hs.1 hs.2 h
end
end Mine
namespace Mine
open PySem PySem.W PySem.Calls PyProof.Rows
set_option maxRecDepth 100000
set_option maxHeartbeats 4000000
def okind (o : Obj) : Nat := match o.data with
  | .seq .. => 1 | .dict .. => 2 | .plain => 3 | .fields .. => 4 | .func .. => 5 | .cell .. => 6 | _ => 0
theorem okind_of_fields {o : Obj} {vs : Array Value} (h : o.data = .fields vs) : okind o = 4 := by unfold okind; rw [h]
theorem okind_of_cell {o : Obj} {v : Option Value} (h : o.data = .cell v) : okind o = 6 := by unfold okind; rw [h]

theorem news_fun {h₀ h : Heap} {L : Addr} {nx : List (Addr × Obj)} (N : News h₀ L h nx) {p q : Addr × Obj} (hp : p ∈ nx) (hq : q ∈ nx) (e : p.1 = q.1) : p = q := by
  have h1 := (N p hp).1
  have h2 := (N q hq).1
  rw [e, h2] at h1
  exact Prod.ext e (Option.some.inj h1).symm

theorem split_led {h₀ h : Heap} {L I : Addr} {oI : Obj} {nx named : List (Addr × Obj)} (N : News h₀ L h ((I, oI) :: nx)) (hI : ∀ p ∈ nx, p.1 ≠ I) (hsub : ∀ p ∈ named, p ∈ nx) (hnd : (named.map (·.1)).Nodup) :
    ∃ rest, News h₀ L h ((I, oI) :: named ++ rest) ∧ OwnOff rest (I :: named.map (·.1)) ∧ NeAll (I :: named.map (·.1)) ∧ (∀ p ∈ rest, p ∈ nx) ∧ (∀ p ∈ nx, p ∈ named ∨ p ∈ rest) := by
  refine ⟨nx.filter fun p => decide (p.1 ∉ named.map (·.1)), ?_, ?_, ?_, ?_, ?_⟩
  · intro p hp
    rcases List.mem_append.mp hp with hp | hp
    · rcases List.mem_cons.mp hp with rfl | hp
      · exact N _ (.head _)
      · exact N _ (.tail _ (hsub p hp))
    · exact N _ (.tail _ (List.mem_filter.mp hp).1)
  · intro p hp b hb e
    obtain ⟨h1, h2⟩ := List.mem_filter.mp hp
    rcases List.mem_cons.mp hb with rfl | hb
    · exact hI p h1 e
    · exact of_decide_eq_true h2 (e ▸ hb)
  · refine neAll_of (List.nodup_cons.mpr ⟨fun hm => ?_, hnd⟩)
    obtain ⟨p, hp, e⟩ := List.mem_map.mp hm
    exact hI p (hsub p hp) e
  · intro p hp; exact (List.mem_filter.mp hp).1
  · intro p hp
    by_cases hm : p.1 ∈ named.map (·.1)
    · obtain ⟨q, hq, e⟩ := List.mem_map.mp hm
      have := news_fun N (.tail _ hp) (.tail _ (hsub q hq)) e.symm
      exact .inl (this ▸ hq)
    · exact .inr (List.mem_filter.mpr ⟨hp, decide_eq_true hm⟩)

structure Th where
  x : Nat
  d : Nat
  fl : Value
  bz : Int
  cl : Option Nat

def ThIn (w : World) (nx : List (Addr × Obj)) (t : Th) : Prop := (t.x, instObj 46 t.d) ∈ nx ∧ ∃ t1 t2 t3 bt n, (t.d, dictOf (dictTh w t.fl t.bz t.cl t1 t2 t3 bt) n) ∈ nx
def TabIn (nx : List (Addr × Obj)) : Option Nat → Prop
  | none => (52, tabObj #[]) ∈ nx
  | some c' => (52, tabObj #[rawInt 21, rawInt 4, .ref c']) ∈ nx ∧ c' ≠ 52 ∧ ∃ oc' vs' t', (c', oc') ∈ nx ∧ oc'.data = .fields vs' ∧ vs'[1]? = some (.str cloQual t')
def CloIn (mg : Str → Option Value) (lc : Nat) (nx : List (Addr × Obj)) (c : Option Nat) (f : Nat) (sN : Int) : Prop :=
  ∃ c' cN cC oN oC doc ctv tN, c = some c' ∧ (f, cloObj mg cN cC doc c' ctv) ∈ nx ∧ (cN, oN) ∈ nx ∧ oN.data = .cell (some (.int sN tN)) ∧ (cC, oC) ∈ nx ∧ oC.data = .cell (some (.ref lc))
structure Inv (w : World) (mg : Str → Option Value) (lc : Nat) (i : Nat) (nx : List (Addr × Obj)) (ths : List Th) (cls ovs szs : List Int) (fn : Int → Nat) (c : Option Nat) : Prop where
  pos : 0 < ths.length
  top : ths.length ≤ i + 1
  l1 : cls.length = ths.length
  l2 : ovs.length = ths.length
  l3 : szs.length = ths.length
  tab : TabIn nx c
  inj : ∀ (j j' : Nat) (t t' : Th), ths[j]? = some t → ths[j']? = some t' → t.d = t'.d → j = j'
  th : ∀ (j : Nat) (t : Th), ths[j]? = some t → ThIn w nx t
  sz : ∀ (j : Nat) (t : Th), ths[j]? = some t → szs[j]? = some t.bz
  ov : ∀ (j : Nat) (t : Th), ths[j]? = some t → ∃ o, ovs[j]? = some o ∧ ((o < 0 ∧ t.fl = .none) ∨ (0 ≤ o ∧ ∃ t' : Th, ths[o.toNat]? = some t' ∧ t.fl = .ref t'.x))
  cl : ∀ (j : Nat) (t : Th), ths[j]? = some t → ∃ c0, cls[j]? = some c0 ∧ ((c0 < 0 ∧ t.cl = none) ∨ (0 ≤ c0 ∧ c0 < i ∧ t.cl = some (fn c0) ∧ CloIn mg lc nx c (fn c0) c0))

theorem ThIn.keep {w : World} {nx nx' : List (Addr × Obj)} {t : Th} (h : ThIn w nx t) (h1 : ∀ p ∈ nx, okind p.2 = 3 → p ∈ nx') (h2 : ∀ p ∈ nx, okind p.2 = 2 → p.1 = t.d → p ∈ nx') : ThIn w nx' t := by
  obtain ⟨g1, t1, t2, t3, bt, n, g2⟩ := h
  exact ⟨h1 _ g1 rfl, t1, t2, t3, bt, n, h2 _ g2 rfl rfl⟩
theorem TabIn.keep {nx nx' : List (Addr × Obj)} {c : Option Nat} (h : TabIn nx c) (hk : ∀ p ∈ nx, okind p.2 = 4 → p ∈ nx') : TabIn nx' c := by
  cases c with
  | none => exact hk _ h rfl
  | some c' =>
    obtain ⟨h1, h2, oc', vs', t', h3, h4, h5⟩ := h
    exact ⟨hk _ h1 rfl, h2, oc', vs', t', hk _ h3 (okind_of_fields h4), h4, h5⟩
theorem CloIn.keep {mg : Str → Option Value} {lc : Nat} {nx nx' : List (Addr × Obj)} {c : Option Nat} {f : Nat} {sN : Int} (h : CloIn mg lc nx c f sN) (hk : ∀ p ∈ nx, okind p.2 = 5 ∨ okind p.2 = 6 → p ∈ nx') : CloIn mg lc nx' c f sN := by
  obtain ⟨c', cN, cC, oN, oC, doc, ctv, tN, h1, h2, h3, h4, h5, h6⟩ := h
  exact ⟨c', cN, cC, oN, oC, doc, ctv, tN, h1, hk _ h2 (.inl rfl), hk _ h3 (.inr (okind_of_cell h4)), h4, hk _ h5 (.inr (okind_of_cell h6)), h6⟩

theorem getL_close {w : World} {fl : Value} {bz : Int} {cl : Option Nat} {t1 t2 t3 bt : Tok} : getL (Str.ofString "close") (dictTh w fl bz cl t1 t2 t3 bt) = some (cl.map Value.ref) := by
  cases cl <;> kernel_rfl
theorem getL_fl {w : World} {fl : Value} {bz : Int} {cl : Option Nat} {t1 t2 t3 bt : Tok} : getL (Str.ofString "filelike") (dictTh w fl bz cl t1 t2 t3 bt) = some (some fl) := by
  cases cl <;> kernel_rfl
theorem getL_bz {w : World} {fl : Value} {bz : Int} {cl : Option Nat} {t1 t2 t3 bt : Tok} : getL (Str.ofString "blksize") (dictTh w fl bz cl t1 t2 t3 bt) = some (some (.int bz bt)) := by
  cases cl <;> kernel_rfl
theorem len_dictTh {w : World} {fl : Value} {bz : Int} {cl : Option Nat} {t1 t2 t3 bt : Tok} : (dictTh w fl bz cl t1 t2 t3 bt).length ≤ 900 := by
  cases cl <;> simp [dictTh]
theorem put_close {w : World} {fl : Value} {bz : Int} {cl : Option Nat} {t1 t2 t3 bt tkey : Tok} {f : Nat} :
    ∃ t3', putL (Str.ofString "close") (PyData.keyHash w.params (Str.ofString "close")) (.str (Str.ofString "close") tkey) (.ref f) (dictTh w fl bz cl t1 t2 t3 bt) = dictTh w fl bz (some f) t1 t2 t3' bt := by
  cases cl with
  | none => exact ⟨tkey, by kernel_rfl⟩
  | some g => exact ⟨t3, by kernel_rfl⟩

theorem get_app {α : Type} {l : List α} {a b : α} {j : Nat} (h : (l ++ [a])[j]? = some b) : l[j]? = some b ∨ (j = l.length ∧ b = a) := by
  rcases Nat.lt_trichotomy j l.length with h1 | h1 | h1
  · left; rwa [List.getElem?_append_left h1] at h
  · right
    subst h1
    simp at h
    exact ⟨rfl, h.symm⟩
  · rw [List.getElem?_eq_none (by simp; omega)] at h; cases h
theorem get_app_old {α : Type} {l : List α} {a b : α} {j : Nat} (h : l[j]? = some b) : (l ++ [a])[j]? = some b := by
  have hl := (List.getElem?_eq_some_iff.mp h).1
  rwa [List.getElem?_append_left hl]
theorem get_app_new {α : Type} {l : List α} {a : α} {n : Nat} (h : l.length = n) : (l ++ [a])[n]? = some a := by subst h; simp
theorem get_set {α : Type} {l : List α} {a b : α} {k j : Nat} (h : (l.set k a)[j]? = some b) : (j ≠ k ∧ l[j]? = some b) ∨ (j = k ∧ b = a) := by
  by_cases e : j = k
  · subst e
    right
    rw [List.getElem?_set] at h
    simp only [if_true] at h
    split at h
    · exact ⟨rfl, (Option.some.inj h).symm⟩
    · cases h
  · left
    rw [List.getElem?_set_ne (Ne.symm e)] at h
    exact ⟨e, h⟩
theorem get_set_ne {α : Type} {l : List α} {a b : α} {k j : Nat} (e : j ≠ k) (h : l[j]? = some b) : (l.set k a)[j]? = some b := by rw [List.getElem?_set_ne (Ne.symm e)]; exact h
theorem get_set_eq {α : Type} {l : List α} {a b : α} {k : Nat} (h : l[k]? = some b) : (l.set k a)[k]? = some a := by
  have hl := (List.getElem?_eq_some_iff.mp h).1
  rw [List.getElem?_set]; simp [hl]

theorem Inv.add {w : World} {mg : Str → Option Value} {lc i : Nat} {nx nx' : List (Addr × Obj)} {ths : List Th} {cls ovs szs : List Int} {fn : Int → Nat} {c : Option Nat} {t' : Th} {cv ov : Int}
    (h : Inv w mg lc i nx ths cls ovs szs fn c) (hk : ∀ p ∈ nx, okind p.2 ≠ 1 → p ∈ nx') (hn : ThIn w nx' t') (hd : ∀ p ∈ nx, okind p.2 = 2 → p.1 ≠ t'.d)
    (hc : (cv < 0 ∧ t'.cl = none) ∨ (0 ≤ cv ∧ cv < i ∧ t'.cl = some (fn cv) ∧ CloIn mg lc nx c (fn cv) cv))
    (ho : (ov < 0 ∧ t'.fl = .none) ∨ (0 ≤ ov ∧ ∃ t0 : Th, ths[ov.toNat]? = some t0 ∧ t'.fl = .ref t0.x)) :
    Inv w mg lc (i + 1) nx' (ths ++ [t']) (cls ++ [cv]) (ovs ++ [ov]) (szs ++ [t'.bz]) fn c := by
  have hclo : ∀ f s, CloIn mg lc nx c f s → CloIn mg lc nx' c f s := fun f s x => x.keep fun p hp hq => hk p hp (by rcases hq with e | e <;> rw [e] <;> decide)
  have hdn : ∀ (j : Nat) (t : Th), ths[j]? = some t → t.d ≠ t'.d := fun j t ht => by
    obtain ⟨_, _, _, _, _, _, h2⟩ := h.th j t ht
    exact hd _ h2 rfl
  refine ⟨by simp, ?_, ?_, ?_, ?_, h.tab.keep fun p hp hq => hk p hp (by rw [hq]; decide), ?_, ?_, ?_, ?_, ?_⟩
  · have := h.top; simp; omega
  · have := h.l1; simp; omega
  · have := h.l2; simp; omega
  · have := h.l3; simp; omega
  · intro j j' t t2 hj hj' e
    rcases get_app hj with h1 | ⟨h1, rfl⟩ <;> rcases get_app hj' with h2 | ⟨h2, rfl⟩
    · exact h.inj j j' t t2 h1 h2 e
    · exact absurd e (hdn j t h1)
    · exact absurd e.symm (hdn j' t2 h2)
    · omega
  · intro j t hj
    rcases get_app hj with h1 | ⟨h1, rfl⟩
    · exact (h.th j t h1).keep (fun p hp hq => hk p hp (by rw [hq]; decide)) (fun p hp hq _ => hk p hp (by rw [hq]; decide))
    · exact hn
  · intro j t hj
    rcases get_app hj with h1 | ⟨h1, rfl⟩
    · exact get_app_old (h.sz j t h1)
    · subst h1; exact get_app_new h.l3
  · intro j t hj
    rcases get_app hj with h1 | ⟨h1, rfl⟩
    · obtain ⟨o, g1, g2⟩ := h.ov j t h1
      refine ⟨o, get_app_old g1, g2.imp id fun ⟨a, t0, b, e⟩ => ⟨a, t0, get_app_old b, e⟩⟩
    · subst h1
      exact ⟨ov, get_app_new h.l2, ho.imp id fun ⟨a, t0, b, e⟩ => ⟨a, t0, get_app_old b, e⟩⟩
  · intro j t hj
    rcases get_app hj with h1 | ⟨h1, rfl⟩
    · obtain ⟨o, g1, g2⟩ := h.cl j t h1
      refine ⟨o, get_app_old g1, g2.imp id fun ⟨a, b, e, x⟩ => ⟨a, by omega, e, hclo _ _ x⟩⟩
    · subst h1
      exact ⟨cv, get_app_new h.l1, hc.imp id fun ⟨a, b, e, x⟩ => ⟨a, by omega, e, hclo _ _ x⟩⟩

theorem Inv.turn {w : World} {mg : Str → Option Value} {lc i k : Nat} {nx nx' : List (Addr × Obj)} {ths : List Th} {cls ovs szs : List Int} {fn fn' : Int → Nat} {c c' : Option Nat} {t : Th} {cl' : Option Nat} {c0 : Int}
    (h : Inv w mg lc i nx ths cls ovs szs fn c) (hkt : ths[k]? = some t) (htab : TabIn nx' c') (hclo : ∀ f s, CloIn mg lc nx c f s → CloIn mg lc nx' c' f s)
    (hth : ∀ t0 : Th, t0.d ≠ t.d → ThIn w nx t0 → ThIn w nx' t0) (hn : ThIn w nx' { t with cl := cl' }) (hfn : ∀ s : Int, s < (i : Int) → fn' s = fn s)
    (hc : (c0 < 0 ∧ cl' = none) ∨ (0 ≤ c0 ∧ c0 < (i : Int) + 1 ∧ cl' = some (fn' c0) ∧ CloIn mg lc nx' c' (fn' c0) c0)) :
    Inv w mg lc (i + 1) nx' (ths.set k { t with cl := cl' }) (cls.set k c0) ovs szs fn' c' := by
  have hinj : ∀ (j : Nat) (t0 : Th), j ≠ k → ths[j]? = some t0 → t0.d ≠ t.d := fun j t0 hj ht e => hj (h.inj j k t0 t ht hkt e)
  refine ⟨by simp [h.pos], ?_, ?_, ?_, ?_, htab, ?_, ?_, ?_, ?_, ?_⟩
  · have := h.top; simp; omega
  · have := h.l1; simp; omega
  · have := h.l2; simp; omega
  · have := h.l3; simp; omega
  · intro j j' a b hj hj' e
    rcases get_set hj with ⟨h1, h2⟩ | ⟨h1, rfl⟩ <;> rcases get_set hj' with ⟨h3, h4⟩ | ⟨h3, rfl⟩
    · exact h.inj j j' a b h2 h4 e
    · exact absurd e (hinj j a h1 h2)
    · exact absurd e.symm (hinj j' b h3 h4)
    · omega
  · intro j a hj
    rcases get_set hj with ⟨h1, h2⟩ | ⟨h1, rfl⟩
    · exact hth a (hinj j a h1 h2) (h.th j a h2)
    · exact hn
  · intro j a hj
    rcases get_set hj with ⟨h1, h2⟩ | ⟨h1, rfl⟩
    · exact h.sz j a h2
    · subst h1; exact h.sz j t hkt
  · intro j a hj
    have key : ∀ (j : Nat) (t1 : Th), ths[j]? = some t1 → ∃ o, ovs[j]? = some o ∧ ((o < 0 ∧ t1.fl = .none) ∨ (0 ≤ o ∧ ∃ t' : Th, (ths.set k { t with cl := cl' })[o.toNat]? = some t' ∧ t1.fl = .ref t'.x)) := by
      intro j t1 h2
      obtain ⟨o, g1, g2⟩ := h.ov j t1 h2
      refine ⟨o, g1, g2.imp id fun ⟨a, t0, b, e⟩ => ⟨a, ?_⟩⟩
      by_cases eo : o.toNat = k
      · refine ⟨{ t with cl := cl' }, by rw [eo]; exact get_set_eq hkt, ?_⟩
        rw [eo, hkt] at b; cases b; exact e
      · exact ⟨t0, get_set_ne eo b, e⟩
    rcases get_set hj with ⟨h1, h2⟩ | ⟨h1, rfl⟩
    · exact key j a h2
    · subst h1; exact key j t hkt
  · intro j a hj
    rcases get_set hj with ⟨h1, h2⟩ | ⟨h1, rfl⟩
    · obtain ⟨o, g1, g2⟩ := h.cl j a h2
      refine ⟨o, get_set_ne h1 g1, g2.imp id fun ⟨a, b, e, x⟩ => ⟨a, by omega, by rw [hfn o b]; exact e, by rw [hfn o b]; exact hclo _ _ x⟩⟩
    · subst h1
      obtain ⟨o, g1, _⟩ := h.cl j t hkt
      exact ⟨c0, get_set_eq g1, hc.imp id fun ⟨a, b, e, x⟩ => ⟨a, by omega, e, x⟩⟩

theorem Inv.turn2 {w : World} {mg : Str → Option Value} {lc i k : Nat} {nx nx' : List (Addr × Obj)} {ths : List Th} {cls ovs szs : List Int} {fn fn' : Int → Nat} {c c' : Option Nat} {t : Th} {cl' : Option Nat} {c0 : Int}
    (h : Inv w mg lc i nx ths cls ovs szs fn c) (hfun : ∀ p q, p ∈ nx → q ∈ nx → p.1 = q.1 → p = q) (hkt : ths[k]? = some t)
    (keep : ∀ p ∈ nx, okind p.2 ≠ 1 → okind p.2 ≠ 4 → p.1 ≠ t.d → p ∈ nx') (htab : TabIn nx' c') (hcc : c = c' ∨ c = none) (hn : ThIn w nx' { t with cl := cl' }) (hfn : ∀ s : Int, s < (i : Int) → fn' s = fn s)
    (hc : (c0 < 0 ∧ cl' = none) ∨ (0 ≤ c0 ∧ c0 < (i : Int) + 1 ∧ cl' = some (fn' c0) ∧ CloIn mg lc nx' c' (fn' c0) c0)) :
    Inv w mg lc (i + 1) nx' (ths.set k { t with cl := cl' }) (cls.set k c0) ovs szs fn' c' := by
  obtain ⟨_, t1, t2, t3, bt, n, g2⟩ := h.th k t hkt
  have ne : ∀ p ∈ nx, okind p.2 ≠ 2 → p.1 ≠ t.d := fun p hp hk e => by
    have := hfun p _ hp g2 e
    rw [this] at hk; exact hk rfl
  refine h.turn hkt htab (fun f s' x => ?_) (fun t0 hd x => ?_) hn hfn hc
  · have hc' : c = c' := by
      rcases hcc with e | e
      · exact e
      · obtain ⟨c1, _, _, _, _, _, _, _, e1, _⟩ := x
        rw [e] at e1; cases e1
    subst hc'
    exact x.keep fun p hp hk => keep p hp (by rcases hk with e | e <;> rw [e] <;> decide) (by rcases hk with e | e <;> rw [e] <;> decide) (ne p hp (by rcases hk with e | e <;> rw [e] <;> decide))
  · exact x.keep (fun p hp hk => keep p hp (by rw [hk]; decide) (by rw [hk]; decide) (ne p hp (by rw [hk]; decide))) (fun p hp hk e => keep p hp (by rw [hk]; decide) (by rw [hk]; decide) (by rw [e]; exact hd))
end Mine
namespace Mine
open PySem PySem.W PySem.Calls PyProof.Rows
set_option maxRecDepth 100000
set_option maxHeartbeats 3000000
local macro_rules | `(tactic| walk_at "call builtin:hasattr") => `(tactic| (k_here; (with_reducible show wpAny _ _ (call (Value.builtin _) [Value.none, _]) _ _ _); k_dflt (refine' Mine.hasattr_none_K ?k0 ?k1 ?k2 ?_; (case k0 => exact rfl); (case k1 => k_asm); (case k2 => k_asm); k_whole); intro h' tk' F' N'; (try k_sweep)))
local macro_rules | `(tactic| walk_at "call builtin:sum") => `(tactic| (k_here; (with_reducible show wpAny _ _ (call (Value.builtin "sum") [Value.ref _]) _ _ _); k_dflt (refine' Mine.sum_pick ?k0 ?k1 ?k2 ?k3 ?k4 ?_; (case k0 => with_unfolding_all rfl); (case k1 => k_asm); (case k2 => k_asm); (case k3 => k_mem); (case k4 => assumption); k_whole); intro h' tk' t' F' N'))
local macro_rules | `(tactic| walk_at "call builtin:hasattr") => `(tactic| (k_here; (with_reducible show wpAny _ _ (call (Value.builtin _) [Value.ref _, _]) _ _ _); k_dflt (first
  | (refine' has46_yes ?k1 ?k2 ?k3 ?k4 ?k5 ?_; (case k1 => k_asm); (case k2 => k_asm); (case k3 => k_inst); (case k4 => k_get); (case k5 => k_handed); k_whole)
  | (refine' has46_no ?k0 ?k1 ?k2 ?k3 ?k4 ?k5 ?_; (case k0 => exact rfl); (case k1 => k_asm); (case k2 => k_asm); (case k3 => k_asm); (case k4 => k_inst); (case k5 => k_get); k_whole; intro h' tk' F' N'; (try k_sweep)))))
local macro_rules | `(tactic| k_ne) => `(tactic| (refine neN ?_; (try dsimp only); first | exact NeF.l (by with_reducible assumption) | exact NeF.r (by with_reducible assumption) | omega))
local macro_rules | `(tactic| walk_at "call builtin:len") => `(tactic| (k_here; (with_reducible show wpAny _ _ (call (Value.builtin "len") [Value.ref _]) _ _ _); (with_unfolding_all refine' len_eq ?k1 ?k2 ?k3 ?_; (case k1 => is_list); (case k2 => with_reducible assumption); (case k3 => omega); k_whole)))
local macro_rules | `(tactic| walk_at "subscriptTail") => `(tactic| (k_here; (with_reducible show wpAny _ _ (subscriptTail _ _ (Value.ref _) (Value.int _ _)) _ _ _); (with_unfolding_all refine' item_litK ?k1 ?k2 ?k3 ?k4 ?_ ?k6; (case k1 => is_list); (case k4 => with_reducible assumption); (case k2 => l_idx); (case k3 => l_idx); (case k6 => with_unfolding_all rfl); k_whole)))
local macro_rules | `(tactic| walk_at "ite") => `(tactic| (first | ((refine ite_neg ?h ?_); (case h => (simp only [beq_iff_eq, bne_iff_ne, ne_eq, decide_eq_true_eq, Bool.false_bne, Bool.true_bne, Bool.not_eq_true', decide_eq_false_iff_not]; omega))) | ((refine ite_pos ?h ?_); (case h => (simp only [beq_iff_eq, bne_iff_ne, ne_eq, decide_eq_true_eq, Bool.false_bne, Bool.true_bne, Bool.not_eq_true', decide_eq_false_iff_not]; omega)))))
local macro_rules | `(tactic| k_get) => `(tactic| with_reducible assumption)
local macro_rules | `(tactic| walk_at "setAttr ref") => `(tactic| (k_here; k_dflt (refine' set_dict ?k1 ?k2 ?k3 ?k4 ?k5 ?k6 ?k7 ?k8 ?k9 ?k10 ?k11 ?k12 ?k13 ?_; (case k1 => k_asm); (case k2 => k_asm); (case k3 => k_asm); (case k4 => k_inst); (case k5 => exact rfl); (case k6 => k_is); (case k7 => k_is); (case k8 => k_is); (case k9 => k_is); (case k10 => with_reducible assumption); (case k11 => exact rfl); (case k12 => k_upd); (case k13 => exact putL_le2 (by assumption)); k_whole; intro h' F' N'; (try k_sweep))))
local macro_rules | `(tactic| k_lt $h) => `(tactic| (have kept := $h; replace $h := allLt_of $h; simp only [AllLt, and_true] at $h:ident))
theorem turn_none {w : World} {s : Shared} {mg mb : Str → Option Value} {mean : ExcName → Option Value} {loose : List Str} {base h : Heap} {L fa : Addr} {cd : Value} {tk : Nat} {u : Str → Option Value}
  {a : Lay} {dk xk I : Nat} {oI : Obj} {vth vcl vov vsz ws : List Value} {ncl nov nsz nns : List Int} {n nc nt n1 n2 n3 i ti : Nat} {rest : List (Addr × Obj)} {es : List DictEntry}
  {Q : Flow → Shared → Prop} {E : Value → Shared → Prop} 
  (X' : (Mine.hd.heap_39 w.params).In base) (T' : Top topProg loose mean mg mb base) (K' : Below callerA base [] base)
  (F' : Fr base L h (fun y => if y = Str.ofString "step" then some (.int i ti) else mNames a u y))
  (N' : News base L h ((I, oI) :: led a dk xk es n vth.toArray vcl.toArray vov.toArray vsz.toArray ws.toArray nc nt n1 n2 n3 ++ rest))
  (hoff : OwnOff rest [I, dk, xk, a.lc, a.lt, a.lcl, a.lo, a.ls, a.ln])
  (hne : NeAll [I, dk, xk, a.lc, a.lt, a.lcl, a.lo, a.ls, a.ln])
  (hI1 : IntsAre vcl ncl) (hI2 : IntsAre vov nov) (hI3 : IntsAre vsz nsz) (hI4 : IntsAre ws nns)
  (hlen1 : vth.length = ncl.length) (hlen2 : nov.length = ncl.length) (hlen3 : nsz.length = ncl.length) (hpos : 0 < ncl.length) (hle : ncl.length ≤ 100) (hin : i < nns.length) (hnl : nns.length ≤ 100)
  (hk0 : 0 ≤ ((nns.getD (Int.toNat (i : Int)) 0).fdiv 4).fmod (ncl.length : Int)) (hk1 : ((nns.getD (Int.toNat (i : Int)) 0).fdiv 4).fmod (ncl.length : Int) < (ncl.length : Int))
  (hth : vth[(((nns.getD (Int.toNat (i : Int)) 0).fdiv 4).fmod (ncl.length : Int)).toNat]? = some (.ref xk)) (hz : es.length ≤ 900)
  (hkind : (nns.getD (Int.toNat (i : Int)) 0).fmod 4 = 3) (hcl : ncl.getD (((nns.getD (Int.toNat (i : Int)) 0).fdiv 4).fmod (ncl.length : Int)).toNat 0 < 0)
  (hQ : AddK w base L s Q a I oI rest dk xk es n vth vcl vov vsz ws nc nt n1 n2 n3 .none 8192 none (-1) (-1)) :
  wpAny (model PySem.Challenge.rw_dn0266_01.row.prog w) (callerA.deeper (lawEnv L fa cd)) (execs body1 (lawEnv L fa cd)) Q E { s with heap := h, toks := tk } := by
  obtain ⟨lc, lt, lcl, lo, ls, ln⟩ := a
  simp only [NeAll, NeTo, and_true] at hne
  obtain ⟨⟨n0_1, n0_2, n0_3, n0_4, n0_5, n0_6, n0_7, n0_8⟩, ⟨n1_2, n1_3, n1_4, n1_5, n1_6, n1_7, n1_8⟩, ⟨n2_3, n2_4, n2_5, n2_6, n2_7, n2_8⟩, ⟨n3_4, n3_5, n3_6, n3_7, n3_8⟩, ⟨n4_5, n4_6, n4_7, n4_8⟩, ⟨n5_6, n5_7, n5_8⟩, ⟨n6_7, n6_8⟩, n7_8⟩ := hne
  simp only [led, List.cons_append, List.nil_append] at N'
  dsimp only [mNames] at F'
  dsimp only at hoff
  w_top off
  revert X'; k_fill; intro X'
  with_unfolding_all show wpAny _ _ (execs (_ :: _) _) _ _ _
  k_steps
  exact hQ _ _ _ _ _ _ _ _ 0 _ _ _ _ _ (by assumption) ⟨rfl, rfl, rfl, rfl, rfl, rfl⟩ (by assumption) (by (with_unfolding_all ((try simp only [led]); k_allIn))) (by (intro p hp; k_ownIn)) (by omega) (by omega) (by omega) (fun p hp => (by assumption : ∀ q ∈ _, q.1 < _) p (by k_ownIn))
theorem turn_zero_no {w : World} {s : Shared} {mg mb : Str → Option Value} {mean : ExcName → Option Value} {loose : List Str} {base h : Heap} {L fa : Addr} {cd : Value} {tk : Nat} {u : Str → Option Value}
  {a : Lay} {dk xk I : Nat} {oI : Obj} {vth vcl vov vsz ws : List Value} {ncl nov nsz nns : List Int} {n nc nt n1 n2 n3 i ti : Nat} {rest : List (Addr × Obj)} {es : List DictEntry}
  {Q : Flow → Shared → Prop} {E : Value → Shared → Prop} 
  (X' : (Mine.hd.heap_39 w.params).In base) (T' : Top topProg loose mean mg mb base) (K' : Below callerA base [] base)
  (F' : Fr base L h (fun y => if y = Str.ofString "step" then some (.int i ti) else mNames a u y))
  (N' : News base L h ((I, oI) :: led a dk xk es n vth.toArray vcl.toArray vov.toArray vsz.toArray ws.toArray nc nt n1 n2 n3 ++ rest))
  (hoff : OwnOff rest [I, dk, xk, a.lc, a.lt, a.lcl, a.lo, a.ls, a.ln])
  (hne : NeAll [I, dk, xk, a.lc, a.lt, a.lcl, a.lo, a.ls, a.ln])
  (hI1 : IntsAre vcl ncl) (hI2 : IntsAre vov nov) (hI3 : IntsAre vsz nsz) (hI4 : IntsAre ws nns)
  (hlen1 : vth.length = ncl.length) (hlen2 : nov.length = ncl.length) (hlen3 : nsz.length = ncl.length) (hpos : 0 < ncl.length) (hle : ncl.length ≤ 100) (hin : i < nns.length) (hnl : nns.length ≤ 100)
  (hk0 : 0 ≤ ((nns.getD (Int.toNat (i : Int)) 0).fdiv 4).fmod (ncl.length : Int)) (hk1 : ((nns.getD (Int.toNat (i : Int)) 0).fdiv 4).fmod (ncl.length : Int) < (ncl.length : Int))
  (hth : vth[(((nns.getD (Int.toNat (i : Int)) 0).fdiv 4).fmod (ncl.length : Int)).toNat]? = some (.ref xk)) (hz : es.length ≤ 900)
  (hkind : (nns.getD (Int.toNat (i : Int)) 0).fmod 4 = 0) (hcl : getL (Str.ofString "close") es = some none)
  (hQ : AddK w base L s Q a I oI rest dk xk es n vth vcl vov vsz ws nc nt n1 n2 n3 (.ref xk) 8192 none (ncl.getD (((nns.getD (Int.toNat (i : Int)) 0).fdiv 4).fmod (ncl.length : Int)).toNat 0) (((nns.getD (Int.toNat (i : Int)) 0).fdiv 4).fmod (ncl.length : Int))) :
  wpAny (model PySem.Challenge.rw_dn0266_01.row.prog w) (callerA.deeper (lawEnv L fa cd)) (execs body1 (lawEnv L fa cd)) Q E { s with heap := h, toks := tk } := by
  obtain ⟨lc, lt, lcl, lo, ls, ln⟩ := a
  simp only [NeAll, NeTo, and_true] at hne
  obtain ⟨⟨n0_1, n0_2, n0_3, n0_4, n0_5, n0_6, n0_7, n0_8⟩, ⟨n1_2, n1_3, n1_4, n1_5, n1_6, n1_7, n1_8⟩, ⟨n2_3, n2_4, n2_5, n2_6, n2_7, n2_8⟩, ⟨n3_4, n3_5, n3_6, n3_7, n3_8⟩, ⟨n4_5, n4_6, n4_7, n4_8⟩, ⟨n5_6, n5_7, n5_8⟩, ⟨n6_7, n6_8⟩, n7_8⟩ := hne
  simp only [led, List.cons_append, List.nil_append] at N'
  dsimp only [mNames] at F'
  dsimp only at hoff
  w_top off
  revert X'; k_fill; intro X'
  with_unfolding_all show wpAny _ _ (execs (_ :: _) _) _ _ _
  k_steps
  exact hQ _ _ _ _ _ _ _ _ 0 _ _ _ _ _ (by assumption) ⟨rfl, rfl, rfl, rfl, rfl, rfl⟩ (by assumption) (by (with_unfolding_all ((try simp only [led]); k_allIn))) (by (intro p hp; k_ownIn)) (by omega) (by omega) (by omega) (fun p hp => (by assumption : ∀ q ∈ _, q.1 < _) p (by k_ownIn))
theorem turn_zero_yes {w : World} {s : Shared} {mg mb : Str → Option Value} {mean : ExcName → Option Value} {loose : List Str} {base h : Heap} {L fa : Addr} {cd : Value} {tk : Nat} {u : Str → Option Value}
  {a : Lay} {dk xk I : Nat} {oI : Obj} {vth vcl vov vsz ws : List Value} {ncl nov nsz nns : List Int} {n nc nt n1 n2 n3 i ti : Nat} {rest : List (Addr × Obj)} {es : List DictEntry}
  {Q : Flow → Shared → Prop} {E : Value → Shared → Prop} {fk : Nat}
  (X' : (Mine.hd.heap_39 w.params).In base) (T' : Top topProg loose mean mg mb base) (K' : Below callerA base [] base)
  (F' : Fr base L h (fun y => if y = Str.ofString "step" then some (.int i ti) else mNames a u y))
  (N' : News base L h ((I, oI) :: led a dk xk es n vth.toArray vcl.toArray vov.toArray vsz.toArray ws.toArray nc nt n1 n2 n3 ++ rest))
  (hoff : OwnOff rest [I, dk, xk, a.lc, a.lt, a.lcl, a.lo, a.ls, a.ln])
  (hne : NeAll [I, dk, xk, a.lc, a.lt, a.lcl, a.lo, a.ls, a.ln])
  (hI1 : IntsAre vcl ncl) (hI2 : IntsAre vov nov) (hI3 : IntsAre vsz nsz) (hI4 : IntsAre ws nns)
  (hlen1 : vth.length = ncl.length) (hlen2 : nov.length = ncl.length) (hlen3 : nsz.length = ncl.length) (hpos : 0 < ncl.length) (hle : ncl.length ≤ 100) (hin : i < nns.length) (hnl : nns.length ≤ 100)
  (hk0 : 0 ≤ ((nns.getD (Int.toNat (i : Int)) 0).fdiv 4).fmod (ncl.length : Int)) (hk1 : ((nns.getD (Int.toNat (i : Int)) 0).fdiv 4).fmod (ncl.length : Int) < (ncl.length : Int))
  (hth : vth[(((nns.getD (Int.toNat (i : Int)) 0).fdiv 4).fmod (ncl.length : Int)).toNat]? = some (.ref xk)) (hz : es.length ≤ 900)
  (hkind : (nns.getD (Int.toNat (i : Int)) 0).fmod 4 = 0) (hcl : getL (Str.ofString "close") es = some (some (.ref fk)))
  (hQ : AddK w base L s Q a I oI rest dk xk es n vth vcl vov vsz ws nc nt n1 n2 n3 (.ref xk) 8192 (some fk) (ncl.getD (((nns.getD (Int.toNat (i : Int)) 0).fdiv 4).fmod (ncl.length : Int)).toNat 0) (((nns.getD (Int.toNat (i : Int)) 0).fdiv 4).fmod (ncl.length : Int))) :
  wpAny (model PySem.Challenge.rw_dn0266_01.row.prog w) (callerA.deeper (lawEnv L fa cd)) (execs body1 (lawEnv L fa cd)) Q E { s with heap := h, toks := tk } := by
  obtain ⟨lc, lt, lcl, lo, ls, ln⟩ := a
  simp only [NeAll, NeTo, and_true] at hne
  obtain ⟨⟨n0_1, n0_2, n0_3, n0_4, n0_5, n0_6, n0_7, n0_8⟩, ⟨n1_2, n1_3, n1_4, n1_5, n1_6, n1_7, n1_8⟩, ⟨n2_3, n2_4, n2_5, n2_6, n2_7, n2_8⟩, ⟨n3_4, n3_5, n3_6, n3_7, n3_8⟩, ⟨n4_5, n4_6, n4_7, n4_8⟩, ⟨n5_6, n5_7, n5_8⟩, ⟨n6_7, n6_8⟩, n7_8⟩ := hne
  simp only [led, List.cons_append, List.nil_append] at N'
  dsimp only [mNames] at F'
  dsimp only at hoff
  w_top off
  revert X'; k_fill; intro X'
  with_unfolding_all show wpAny _ _ (execs (_ :: _) _) _ _ _
  k_steps
  exact hQ _ _ _ _ _ _ _ _ _ _ _ _ _ _ (by assumption) ⟨rfl, rfl, rfl, rfl, rfl, rfl⟩ (by assumption) (by (with_unfolding_all ((try simp only [led]); k_allIn))) (by (intro p hp; k_ownIn)) (by omega) (by omega) (by omega) (fun p hp => (by assumption : ∀ q ∈ _, q.1 < _) p (by k_ownIn))
end Mine
namespace Mine
open PySem PySem.W PySem.Calls PyProof.Rows
set_option maxRecDepth 100000
set_option maxHeartbeats 3000000
local macro_rules | `(tactic| walk_at "none 0") => `(tactic| fail)
local macro_rules | `(tactic| walk_at "call builtin:hasattr") => `(tactic| (k_here; (with_reducible show wpAny _ _ (call (Value.builtin _) [Value.none, _]) _ _ _); k_dflt (refine' Mine.hasattr_none_K ?k0 ?k1 ?k2 ?_; (case k0 => exact rfl); (case k1 => k_asm); (case k2 => k_asm); k_whole); intro h' tk' F' N'; (try k_sweep)))
local macro_rules | `(tactic| walk_at "call builtin:sum") => `(tactic| (k_here; (with_reducible show wpAny _ _ (call (Value.builtin "sum") [Value.ref _]) _ _ _); k_dflt (refine' Mine.sum_pick ?k0 ?k1 ?k2 ?k3 ?k4 ?_; (case k0 => with_unfolding_all rfl); (case k1 => k_asm); (case k2 => k_asm); (case k3 => k_mem); (case k4 => assumption); k_whole); intro h' tk' t' F' N'))
local macro_rules | `(tactic| walk_at "call builtin:hasattr") => `(tactic| (k_here; (with_reducible show wpAny _ _ (call (Value.builtin _) [Value.ref _, _]) _ _ _); k_dflt (first
  | (refine' has46_yes ?k1 ?k2 ?k3 ?k4 ?k5 ?_; (case k1 => k_asm); (case k2 => k_asm); (case k3 => k_inst); (case k4 => k_get); (case k5 => k_handed); k_whole)
  | (refine' has46_no ?k0 ?k1 ?k2 ?k3 ?k4 ?k5 ?_; (case k0 => exact rfl); (case k1 => k_asm); (case k2 => k_asm); (case k3 => k_asm); (case k4 => k_inst); (case k5 => k_get); k_whole; intro h' tk' F' N'; (try k_sweep)))))
local macro_rules | `(tactic| k_ne) => `(tactic| (refine neN ?_; (try dsimp only); first | exact NeF.l (by with_reducible assumption) | exact NeF.r (by with_reducible assumption) | omega))
local macro_rules | `(tactic| walk_at "call builtin:len") => `(tactic| (k_here; (with_reducible show wpAny _ _ (call (Value.builtin "len") [Value.ref _]) _ _ _); (with_unfolding_all refine' len_eq ?k1 ?k2 ?k3 ?_; (case k1 => is_list); (case k2 => with_reducible assumption); (case k3 => omega); k_whole)))
local macro_rules | `(tactic| walk_at "subscriptTail") => `(tactic| (k_here; (with_reducible show wpAny _ _ (subscriptTail _ _ (Value.ref _) (Value.int _ _)) _ _ _); (with_unfolding_all refine' item_litK ?k1 ?k2 ?k3 ?k4 ?_ ?k6; (case k1 => is_list); (case k4 => with_reducible assumption); (case k2 => l_idx); (case k3 => l_idx); (case k6 => with_unfolding_all rfl); k_whole)))
local macro_rules | `(tactic| walk_at "ite") => `(tactic| (first | ((refine ite_neg ?h ?_); (case h => (simp only [beq_iff_eq, bne_iff_ne, ne_eq, decide_eq_true_eq, Bool.false_bne, Bool.true_bne, Bool.not_eq_true', decide_eq_false_iff_not]; omega))) | ((refine ite_pos ?h ?_); (case h => (simp only [beq_iff_eq, bne_iff_ne, ne_eq, decide_eq_true_eq, Bool.false_bne, Bool.true_bne, Bool.not_eq_true', decide_eq_false_iff_not]; omega)))))
local macro_rules | `(tactic| k_get) => `(tactic| with_reducible assumption)
local macro_rules | `(tactic| walk_at "setAttr ref") => `(tactic| (k_here; k_dflt (refine' set_dict ?k1 ?k2 ?k3 ?k4 ?k5 ?k6 ?k7 ?k8 ?k9 ?k10 ?k11 ?k12 ?k13 ?_; (case k1 => k_asm); (case k2 => k_asm); (case k3 => k_asm); (case k4 => k_inst); (case k5 => exact rfl); (case k6 => k_is); (case k7 => k_is); (case k8 => k_is); (case k9 => k_is); (case k10 => with_reducible assumption); (case k11 => exact rfl); (case k12 => k_upd); (case k13 => exact putL_le2 (by assumption)); k_whole; intro h' F' N'; (try k_sweep))))
local macro_rules | `(tactic| k_lt $h) => `(tactic| (have kept := $h; replace $h := allLt_of $h; simp only [AllLt, and_true] at $h:ident))
theorem turn_even_no {w : World} {s : Shared} {mg mb : Str → Option Value} {mean : ExcName → Option Value} {loose : List Str} {base h : Heap} {L fa : Addr} {cd : Value} {tk : Nat} {u : Str → Option Value}
  {a : Lay} {dk xk I : Nat} {oI : Obj} {vth vcl vov vsz ws : List Value} {ncl nov nsz nns : List Int} {n nc nt n1 n2 n3 i ti : Nat} {rest : List (Addr × Obj)} {es : List DictEntry}
  {Q : Flow → Shared → Prop} {E : Value → Shared → Prop} 
  (X' : (Mine.hd.heap_39 w.params).In base) (T' : Top topProg loose mean mg mb base) (K' : Below callerA base [] base)
  (F' : Fr base L h (fun y => if y = Str.ofString "step" then some (.int i ti) else mNames a u y))
  (N' : News base L h ((I, oI) :: led a dk xk es n vth.toArray vcl.toArray vov.toArray vsz.toArray ws.toArray nc nt n1 n2 n3 ++ rest))
  (hoff : OwnOff rest [I, dk, xk, a.lc, a.lt, a.lcl, a.lo, a.ls, a.ln])
  (hne : NeAll [I, dk, xk, a.lc, a.lt, a.lcl, a.lo, a.ls, a.ln])
  (hI1 : IntsAre vcl ncl) (hI2 : IntsAre vov nov) (hI3 : IntsAre vsz nsz) (hI4 : IntsAre ws nns)
  (hlen1 : vth.length = ncl.length) (hlen2 : nov.length = ncl.length) (hlen3 : nsz.length = ncl.length) (hpos : 0 < ncl.length) (hle : ncl.length ≤ 100) (hin : i < nns.length) (hnl : nns.length ≤ 100)
  (hk0 : 0 ≤ ((nns.getD (Int.toNat (i : Int)) 0).fdiv 4).fmod (ncl.length : Int)) (hk1 : ((nns.getD (Int.toNat (i : Int)) 0).fdiv 4).fmod (ncl.length : Int) < (ncl.length : Int))
  (hth : vth[(((nns.getD (Int.toNat (i : Int)) 0).fdiv 4).fmod (ncl.length : Int)).toNat]? = some (.ref xk)) (hz : es.length ≤ 900)
  (hkind : (nns.getD (Int.toNat (i : Int)) 0).fmod 4 = 1) (hev : ((nns.getD (Int.toNat (i : Int)) 0).fdiv 7).fmod 2 = 0) (hcl : getL (Str.ofString "close") es = some none)
  (hQ : AddK w base L s Q a I oI rest dk xk es n vth vcl vov vsz ws nc nt n1 n2 n3 (.ref xk) ((nns.getD (Int.toNat (i : Int)) 0).fdiv 7) none (ncl.getD (((nns.getD (Int.toNat (i : Int)) 0).fdiv 4).fmod (ncl.length : Int)).toNat 0) (((nns.getD (Int.toNat (i : Int)) 0).fdiv 4).fmod (ncl.length : Int))) :
  wpAny (model PySem.Challenge.rw_dn0266_01.row.prog w) (callerA.deeper (lawEnv L fa cd)) (execs body1 (lawEnv L fa cd)) Q E { s with heap := h, toks := tk } := by
  obtain ⟨lc, lt, lcl, lo, ls, ln⟩ := a
  simp only [NeAll, NeTo, and_true] at hne
  obtain ⟨⟨n0_1, n0_2, n0_3, n0_4, n0_5, n0_6, n0_7, n0_8⟩, ⟨n1_2, n1_3, n1_4, n1_5, n1_6, n1_7, n1_8⟩, ⟨n2_3, n2_4, n2_5, n2_6, n2_7, n2_8⟩, ⟨n3_4, n3_5, n3_6, n3_7, n3_8⟩, ⟨n4_5, n4_6, n4_7, n4_8⟩, ⟨n5_6, n5_7, n5_8⟩, ⟨n6_7, n6_8⟩, n7_8⟩ := hne
  simp only [led, List.cons_append, List.nil_append] at N'
  dsimp only [mNames] at F'
  dsimp only at hoff
  w_top off
  revert X'; k_fill; intro X'
  with_unfolding_all show wpAny _ _ (execs (_ :: _) _) _ _ _
  k_steps
  exact hQ _ _ _ _ _ _ _ _ 0 _ _ _ _ _ (by assumption) ⟨rfl, rfl, rfl, rfl, rfl, rfl⟩ (by assumption) (by (with_unfolding_all ((try simp only [led]); k_allIn))) (by (intro p hp; k_ownIn)) (by omega) (by omega) (by omega) (fun p hp => (by assumption : ∀ q ∈ _, q.1 < _) p (by k_ownIn))
theorem turn_even_yes {w : World} {s : Shared} {mg mb : Str → Option Value} {mean : ExcName → Option Value} {loose : List Str} {base h : Heap} {L fa : Addr} {cd : Value} {tk : Nat} {u : Str → Option Value}
  {a : Lay} {dk xk I : Nat} {oI : Obj} {vth vcl vov vsz ws : List Value} {ncl nov nsz nns : List Int} {n nc nt n1 n2 n3 i ti : Nat} {rest : List (Addr × Obj)} {es : List DictEntry}
  {Q : Flow → Shared → Prop} {E : Value → Shared → Prop} {fk : Nat}
  (X' : (Mine.hd.heap_39 w.params).In base) (T' : Top topProg loose mean mg mb base) (K' : Below callerA base [] base)
  (F' : Fr base L h (fun y => if y = Str.ofString "step" then some (.int i ti) else mNames a u y))
  (N' : News base L h ((I, oI) :: led a dk xk es n vth.toArray vcl.toArray vov.toArray vsz.toArray ws.toArray nc nt n1 n2 n3 ++ rest))
  (hoff : OwnOff rest [I, dk, xk, a.lc, a.lt, a.lcl, a.lo, a.ls, a.ln])
  (hne : NeAll [I, dk, xk, a.lc, a.lt, a.lcl, a.lo, a.ls, a.ln])
  (hI1 : IntsAre vcl ncl) (hI2 : IntsAre vov nov) (hI3 : IntsAre vsz nsz) (hI4 : IntsAre ws nns)
  (hlen1 : vth.length = ncl.length) (hlen2 : nov.length = ncl.length) (hlen3 : nsz.length = ncl.length) (hpos : 0 < ncl.length) (hle : ncl.length ≤ 100) (hin : i < nns.length) (hnl : nns.length ≤ 100)
  (hk0 : 0 ≤ ((nns.getD (Int.toNat (i : Int)) 0).fdiv 4).fmod (ncl.length : Int)) (hk1 : ((nns.getD (Int.toNat (i : Int)) 0).fdiv 4).fmod (ncl.length : Int) < (ncl.length : Int))
  (hth : vth[(((nns.getD (Int.toNat (i : Int)) 0).fdiv 4).fmod (ncl.length : Int)).toNat]? = some (.ref xk)) (hz : es.length ≤ 900)
  (hkind : (nns.getD (Int.toNat (i : Int)) 0).fmod 4 = 1) (hev : ((nns.getD (Int.toNat (i : Int)) 0).fdiv 7).fmod 2 = 0) (hcl : getL (Str.ofString "close") es = some (some (.ref fk)))
  (hQ : AddK w base L s Q a I oI rest dk xk es n vth vcl vov vsz ws nc nt n1 n2 n3 (.ref xk) ((nns.getD (Int.toNat (i : Int)) 0).fdiv 7) (some fk) (ncl.getD (((nns.getD (Int.toNat (i : Int)) 0).fdiv 4).fmod (ncl.length : Int)).toNat 0) (((nns.getD (Int.toNat (i : Int)) 0).fdiv 4).fmod (ncl.length : Int))) :
  wpAny (model PySem.Challenge.rw_dn0266_01.row.prog w) (callerA.deeper (lawEnv L fa cd)) (execs body1 (lawEnv L fa cd)) Q E { s with heap := h, toks := tk } := by
  obtain ⟨lc, lt, lcl, lo, ls, ln⟩ := a
  simp only [NeAll, NeTo, and_true] at hne
  obtain ⟨⟨n0_1, n0_2, n0_3, n0_4, n0_5, n0_6, n0_7, n0_8⟩, ⟨n1_2, n1_3, n1_4, n1_5, n1_6, n1_7, n1_8⟩, ⟨n2_3, n2_4, n2_5, n2_6, n2_7, n2_8⟩, ⟨n3_4, n3_5, n3_6, n3_7, n3_8⟩, ⟨n4_5, n4_6, n4_7, n4_8⟩, ⟨n5_6, n5_7, n5_8⟩, ⟨n6_7, n6_8⟩, n7_8⟩ := hne
  simp only [led, List.cons_append, List.nil_append] at N'
  dsimp only [mNames] at F'
  dsimp only at hoff
  w_top off
  revert X'; k_fill; intro X'
  with_unfolding_all show wpAny _ _ (execs (_ :: _) _) _ _ _
  k_steps
  exact hQ _ _ _ _ _ _ _ _ _ _ _ _ _ _ (by assumption) ⟨rfl, rfl, rfl, rfl, rfl, rfl⟩ (by assumption) (by (with_unfolding_all ((try simp only [led]); k_allIn))) (by (intro p hp; k_ownIn)) (by omega) (by omega) (by omega) (fun p hp => (by assumption : ∀ q ∈ _, q.1 < _) p (by k_ownIn))
end Mine
namespace Mine
open PySem PySem.W PySem.Calls PyProof.Rows
set_option maxRecDepth 100000
set_option maxHeartbeats 3000000
local macro_rules | `(tactic| walk_at "none 0") => `(tactic| fail)
local macro_rules | `(tactic| walk_at "none 1") => `(tactic| fail)
local macro_rules | `(tactic| walk_at "call builtin:hasattr") => `(tactic| (k_here; (with_reducible show wpAny _ _ (call (Value.builtin _) [Value.none, _]) _ _ _); k_dflt (refine' Mine.hasattr_none_K ?k0 ?k1 ?k2 ?_; (case k0 => exact rfl); (case k1 => k_asm); (case k2 => k_asm); k_whole); intro h' tk' F' N'; (try k_sweep)))
local macro_rules | `(tactic| walk_at "call builtin:sum") => `(tactic| (k_here; (with_reducible show wpAny _ _ (call (Value.builtin "sum") [Value.ref _]) _ _ _); k_dflt (refine' Mine.sum_pick ?k0 ?k1 ?k2 ?k3 ?k4 ?_; (case k0 => with_unfolding_all rfl); (case k1 => k_asm); (case k2 => k_asm); (case k3 => k_mem); (case k4 => assumption); k_whole); intro h' tk' t' F' N'))
local macro_rules | `(tactic| walk_at "call builtin:hasattr") => `(tactic| (k_here; (with_reducible show wpAny _ _ (call (Value.builtin _) [Value.ref _, _]) _ _ _); k_dflt (first
  | (refine' has46_yes ?k1 ?k2 ?k3 ?k4 ?k5 ?_; (case k1 => k_asm); (case k2 => k_asm); (case k3 => k_inst); (case k4 => k_get); (case k5 => k_handed); k_whole)
  | (refine' has46_no ?k0 ?k1 ?k2 ?k3 ?k4 ?k5 ?_; (case k0 => exact rfl); (case k1 => k_asm); (case k2 => k_asm); (case k3 => k_asm); (case k4 => k_inst); (case k5 => k_get); k_whole; intro h' tk' F' N'; (try k_sweep)))))
local macro_rules | `(tactic| k_ne) => `(tactic| (refine neN ?_; (try dsimp only); first | exact NeF.l (by with_reducible assumption) | exact NeF.r (by with_reducible assumption) | omega))
local macro_rules | `(tactic| walk_at "call builtin:len") => `(tactic| (k_here; (with_reducible show wpAny _ _ (call (Value.builtin "len") [Value.ref _]) _ _ _); (with_unfolding_all refine' len_eq ?k1 ?k2 ?k3 ?_; (case k1 => is_list); (case k2 => with_reducible assumption); (case k3 => omega); k_whole)))
local macro_rules | `(tactic| walk_at "subscriptTail") => `(tactic| (k_here; (with_reducible show wpAny _ _ (subscriptTail _ _ (Value.ref _) (Value.int _ _)) _ _ _); (with_unfolding_all refine' item_litK ?k1 ?k2 ?k3 ?k4 ?_ ?k6; (case k1 => is_list); (case k4 => with_reducible assumption); (case k2 => l_idx); (case k3 => l_idx); (case k6 => with_unfolding_all rfl); k_whole)))
local macro_rules | `(tactic| walk_at "ite") => `(tactic| (first | ((refine ite_neg ?h ?_); (case h => (simp only [beq_iff_eq, bne_iff_ne, ne_eq, decide_eq_true_eq, Bool.false_bne, Bool.true_bne, Bool.not_eq_true', decide_eq_false_iff_not]; omega))) | ((refine ite_pos ?h ?_); (case h => (simp only [beq_iff_eq, bne_iff_ne, ne_eq, decide_eq_true_eq, Bool.false_bne, Bool.true_bne, Bool.not_eq_true', decide_eq_false_iff_not]; omega)))))
local macro_rules | `(tactic| k_get) => `(tactic| with_reducible assumption)
local macro_rules | `(tactic| walk_at "setAttr ref") => `(tactic| (k_here; k_dflt (refine' set_dict ?k1 ?k2 ?k3 ?k4 ?k5 ?k6 ?k7 ?k8 ?k9 ?k10 ?k11 ?k12 ?k13 ?_; (case k1 => k_asm); (case k2 => k_asm); (case k3 => k_asm); (case k4 => k_inst); (case k5 => exact rfl); (case k6 => k_is); (case k7 => k_is); (case k8 => k_is); (case k9 => k_is); (case k10 => with_reducible assumption); (case k11 => exact rfl); (case k12 => k_upd); (case k13 => exact putL_le2 (by assumption)); k_whole; intro h' F' N'; (try k_sweep))))
local macro_rules | `(tactic| k_lt $h) => `(tactic| (have kept := $h; replace $h := allLt_of $h; simp only [AllLt, and_true] at $h:ident))
theorem turn_odd_no {w : World} {s : Shared} {mg mb : Str → Option Value} {mean : ExcName → Option Value} {loose : List Str} {base h : Heap} {L fa : Addr} {cd : Value} {tk : Nat} {u : Str → Option Value}
  {a : Lay} {dk xk I : Nat} {oI : Obj} {vth vcl vov vsz ws : List Value} {ncl nov nsz nns : List Int} {n nc nt n1 n2 n3 i ti : Nat} {rest : List (Addr × Obj)} {es : List DictEntry}
  {Q : Flow → Shared → Prop} {E : Value → Shared → Prop} 
  (X' : (Mine.hd.heap_39 w.params).In base) (T' : Top topProg loose mean mg mb base) (K' : Below callerA base [] base)
  (F' : Fr base L h (fun y => if y = Str.ofString "step" then some (.int i ti) else mNames a u y))
  (N' : News base L h ((I, oI) :: led a dk xk es n vth.toArray vcl.toArray vov.toArray vsz.toArray ws.toArray nc nt n1 n2 n3 ++ rest))
  (hoff : OwnOff rest [I, dk, xk, a.lc, a.lt, a.lcl, a.lo, a.ls, a.ln])
  (hne : NeAll [I, dk, xk, a.lc, a.lt, a.lcl, a.lo, a.ls, a.ln])
  (hI1 : IntsAre vcl ncl) (hI2 : IntsAre vov nov) (hI3 : IntsAre vsz nsz) (hI4 : IntsAre ws nns)
  (hlen1 : vth.length = ncl.length) (hlen2 : nov.length = ncl.length) (hlen3 : nsz.length = ncl.length) (hpos : 0 < ncl.length) (hle : ncl.length ≤ 100) (hin : i < nns.length) (hnl : nns.length ≤ 100)
  (hk0 : 0 ≤ ((nns.getD (Int.toNat (i : Int)) 0).fdiv 4).fmod (ncl.length : Int)) (hk1 : ((nns.getD (Int.toNat (i : Int)) 0).fdiv 4).fmod (ncl.length : Int) < (ncl.length : Int))
  (hth : vth[(((nns.getD (Int.toNat (i : Int)) 0).fdiv 4).fmod (ncl.length : Int)).toNat]? = some (.ref xk)) (hz : es.length ≤ 900)
  (hkind : (nns.getD (Int.toNat (i : Int)) 0).fmod 4 = 1) (hev : ((nns.getD (Int.toNat (i : Int)) 0).fdiv 7).fmod 2 ≠ 0) (hcl : getL (Str.ofString "close") es = some none)
  (hQ : AddK w base L s Q a I oI rest dk xk es n vth vcl vov vsz ws nc nt n1 n2 n3 (.ref xk) ((nns.getD (Int.toNat (i : Int)) 0).fdiv 7) none (ncl.getD (((nns.getD (Int.toNat (i : Int)) 0).fdiv 4).fmod (ncl.length : Int)).toNat 0) (((nns.getD (Int.toNat (i : Int)) 0).fdiv 4).fmod (ncl.length : Int))) :
  wpAny (model PySem.Challenge.rw_dn0266_01.row.prog w) (callerA.deeper (lawEnv L fa cd)) (execs body1 (lawEnv L fa cd)) Q E { s with heap := h, toks := tk } := by
  obtain ⟨lc, lt, lcl, lo, ls, ln⟩ := a
  simp only [NeAll, NeTo, and_true] at hne
  obtain ⟨⟨n0_1, n0_2, n0_3, n0_4, n0_5, n0_6, n0_7, n0_8⟩, ⟨n1_2, n1_3, n1_4, n1_5, n1_6, n1_7, n1_8⟩, ⟨n2_3, n2_4, n2_5, n2_6, n2_7, n2_8⟩, ⟨n3_4, n3_5, n3_6, n3_7, n3_8⟩, ⟨n4_5, n4_6, n4_7, n4_8⟩, ⟨n5_6, n5_7, n5_8⟩, ⟨n6_7, n6_8⟩, n7_8⟩ := hne
  simp only [led, List.cons_append, List.nil_append] at N'
  dsimp only [mNames] at F'
  dsimp only at hoff
  w_top off
  revert X'; k_fill; intro X'
  with_unfolding_all show wpAny _ _ (execs (_ :: _) _) _ _ _
  k_steps
  exact hQ _ _ _ _ _ _ _ _ 0 _ _ _ _ _ (by assumption) ⟨rfl, rfl, rfl, rfl, rfl, rfl⟩ (by assumption) (by (with_unfolding_all ((try simp only [led]); k_allIn))) (by (intro p hp; k_ownIn)) (by omega) (by omega) (by omega) (fun p hp => (by assumption : ∀ q ∈ _, q.1 < _) p (by k_ownIn))
theorem turn_odd_yes {w : World} {s : Shared} {mg mb : Str → Option Value} {mean : ExcName → Option Value} {loose : List Str} {base h : Heap} {L fa : Addr} {cd : Value} {tk : Nat} {u : Str → Option Value}
  {a : Lay} {dk xk I : Nat} {oI : Obj} {vth vcl vov vsz ws : List Value} {ncl nov nsz nns : List Int} {n nc nt n1 n2 n3 i ti : Nat} {rest : List (Addr × Obj)} {es : List DictEntry}
  {Q : Flow → Shared → Prop} {E : Value → Shared → Prop} {fk : Nat}
  (X' : (Mine.hd.heap_39 w.params).In base) (T' : Top topProg loose mean mg mb base) (K' : Below callerA base [] base)
  (F' : Fr base L h (fun y => if y = Str.ofString "step" then some (.int i ti) else mNames a u y))
  (N' : News base L h ((I, oI) :: led a dk xk es n vth.toArray vcl.toArray vov.toArray vsz.toArray ws.toArray nc nt n1 n2 n3 ++ rest))
  (hoff : OwnOff rest [I, dk, xk, a.lc, a.lt, a.lcl, a.lo, a.ls, a.ln])
  (hne : NeAll [I, dk, xk, a.lc, a.lt, a.lcl, a.lo, a.ls, a.ln])
  (hI1 : IntsAre vcl ncl) (hI2 : IntsAre vov nov) (hI3 : IntsAre vsz nsz) (hI4 : IntsAre ws nns)
  (hlen1 : vth.length = ncl.length) (hlen2 : nov.length = ncl.length) (hlen3 : nsz.length = ncl.length) (hpos : 0 < ncl.length) (hle : ncl.length ≤ 100) (hin : i < nns.length) (hnl : nns.length ≤ 100)
  (hk0 : 0 ≤ ((nns.getD (Int.toNat (i : Int)) 0).fdiv 4).fmod (ncl.length : Int)) (hk1 : ((nns.getD (Int.toNat (i : Int)) 0).fdiv 4).fmod (ncl.length : Int) < (ncl.length : Int))
  (hth : vth[(((nns.getD (Int.toNat (i : Int)) 0).fdiv 4).fmod (ncl.length : Int)).toNat]? = some (.ref xk)) (hz : es.length ≤ 900)
  (hkind : (nns.getD (Int.toNat (i : Int)) 0).fmod 4 = 1) (hev : ((nns.getD (Int.toNat (i : Int)) 0).fdiv 7).fmod 2 ≠ 0) (hcl : getL (Str.ofString "close") es = some (some (.ref fk)))
  (hQ : AddK w base L s Q a I oI rest dk xk es n vth vcl vov vsz ws nc nt n1 n2 n3 (.ref xk) ((nns.getD (Int.toNat (i : Int)) 0).fdiv 7) (some fk) (ncl.getD (((nns.getD (Int.toNat (i : Int)) 0).fdiv 4).fmod (ncl.length : Int)).toNat 0) (((nns.getD (Int.toNat (i : Int)) 0).fdiv 4).fmod (ncl.length : Int))) :
  wpAny (model PySem.Challenge.rw_dn0266_01.row.prog w) (callerA.deeper (lawEnv L fa cd)) (execs body1 (lawEnv L fa cd)) Q E { s with heap := h, toks := tk } := by
  obtain ⟨lc, lt, lcl, lo, ls, ln⟩ := a
  simp only [NeAll, NeTo, and_true] at hne
  obtain ⟨⟨n0_1, n0_2, n0_3, n0_4, n0_5, n0_6, n0_7, n0_8⟩, ⟨n1_2, n1_3, n1_4, n1_5, n1_6, n1_7, n1_8⟩, ⟨n2_3, n2_4, n2_5, n2_6, n2_7, n2_8⟩, ⟨n3_4, n3_5, n3_6, n3_7, n3_8⟩, ⟨n4_5, n4_6, n4_7, n4_8⟩, ⟨n5_6, n5_7, n5_8⟩, ⟨n6_7, n6_8⟩, n7_8⟩ := hne
  simp only [led, List.cons_append, List.nil_append] at N'
  dsimp only [mNames] at F'
  dsimp only at hoff
  w_top off
  revert X'; k_fill; intro X'
  with_unfolding_all show wpAny _ _ (execs (_ :: _) _) _ _ _
  k_steps
  exact hQ _ _ _ _ _ _ _ _ _ _ _ _ _ _ (by assumption) ⟨rfl, rfl, rfl, rfl, rfl, rfl⟩ (by assumption) (by (with_unfolding_all ((try simp only [led]); k_allIn))) (by (intro p hp; k_ownIn)) (by omega) (by omega) (by omega) (fun p hp => (by assumption : ∀ q ∈ _, q.1 < _) p (by k_ownIn))
end Mine
namespace Mine
open PySem PySem.W PySem.Calls PyProof.Rows
set_option maxRecDepth 100000
set_option maxHeartbeats 3000000
local macro_rules | `(tactic| walk_at "none 0") => `(tactic| fail)
local macro_rules | `(tactic| walk_at "none 1") => `(tactic| fail)
local macro_rules | `(tactic| walk_at "none 2") => `(tactic| fail)
local macro_rules | `(tactic| walk_at "call builtin:hasattr") => `(tactic| (k_here; (with_reducible show wpAny _ _ (call (Value.builtin _) [Value.none, _]) _ _ _); k_dflt (refine' Mine.hasattr_none_K ?k0 ?k1 ?k2 ?_; (case k0 => exact rfl); (case k1 => k_asm); (case k2 => k_asm); k_whole); intro h' tk' F' N'; (try k_sweep)))
local macro_rules | `(tactic| walk_at "call builtin:sum") => `(tactic| (k_here; (with_reducible show wpAny _ _ (call (Value.builtin "sum") [Value.ref _]) _ _ _); k_dflt (refine' Mine.sum_pick ?k0 ?k1 ?k2 ?k3 ?k4 ?_; (case k0 => with_unfolding_all rfl); (case k1 => k_asm); (case k2 => k_asm); (case k3 => k_mem); (case k4 => assumption); k_whole); intro h' tk' t' F' N'))
local macro_rules | `(tactic| walk_at "call builtin:hasattr") => `(tactic| (k_here; (with_reducible show wpAny _ _ (call (Value.builtin _) [Value.ref _, _]) _ _ _); k_dflt (first
  | (refine' has46_yes ?k1 ?k2 ?k3 ?k4 ?k5 ?_; (case k1 => k_asm); (case k2 => k_asm); (case k3 => k_inst); (case k4 => k_get); (case k5 => k_handed); k_whole)
  | (refine' has46_no ?k0 ?k1 ?k2 ?k3 ?k4 ?k5 ?_; (case k0 => exact rfl); (case k1 => k_asm); (case k2 => k_asm); (case k3 => k_asm); (case k4 => k_inst); (case k5 => k_get); k_whole; intro h' tk' F' N'; (try k_sweep)))))
local macro_rules | `(tactic| k_ne) => `(tactic| (refine neN ?_; (try dsimp only); first | exact NeF.l (by with_reducible assumption) | exact NeF.r (by with_reducible assumption) | omega))
local macro_rules | `(tactic| walk_at "call builtin:len") => `(tactic| (k_here; (with_reducible show wpAny _ _ (call (Value.builtin "len") [Value.ref _]) _ _ _); (with_unfolding_all refine' len_eq ?k1 ?k2 ?k3 ?_; (case k1 => is_list); (case k2 => with_reducible assumption); (case k3 => omega); k_whole)))
local macro_rules | `(tactic| walk_at "subscriptTail") => `(tactic| (k_here; (with_reducible show wpAny _ _ (subscriptTail _ _ (Value.ref _) (Value.int _ _)) _ _ _); (with_unfolding_all refine' item_litK ?k1 ?k2 ?k3 ?k4 ?_ ?k6; (case k1 => is_list); (case k4 => with_reducible assumption); (case k2 => l_idx); (case k3 => l_idx); (case k6 => with_unfolding_all rfl); k_whole)))
local macro_rules | `(tactic| walk_at "ite") => `(tactic| (first | ((refine ite_neg ?h ?_); (case h => (simp only [beq_iff_eq, bne_iff_ne, ne_eq, decide_eq_true_eq, Bool.false_bne, Bool.true_bne, Bool.not_eq_true', decide_eq_false_iff_not]; omega))) | ((refine ite_pos ?h ?_); (case h => (simp only [beq_iff_eq, bne_iff_ne, ne_eq, decide_eq_true_eq, Bool.false_bne, Bool.true_bne, Bool.not_eq_true', decide_eq_false_iff_not]; omega)))))
local macro_rules | `(tactic| k_get) => `(tactic| with_reducible assumption)
local macro_rules | `(tactic| walk_at "setAttr ref") => `(tactic| (k_here; k_dflt (refine' set_dict ?k1 ?k2 ?k3 ?k4 ?k5 ?k6 ?k7 ?k8 ?k9 ?k10 ?k11 ?k12 ?k13 ?_; (case k1 => k_asm); (case k2 => k_asm); (case k3 => k_asm); (case k4 => k_inst); (case k5 => exact rfl); (case k6 => k_is); (case k7 => k_is); (case k8 => k_is); (case k9 => k_is); (case k10 => with_reducible assumption); (case k11 => exact rfl); (case k12 => k_upd); (case k13 => exact putL_le2 (by assumption)); k_whole; intro h' F' N'; (try k_sweep))))
local macro_rules | `(tactic| k_lt $h) => `(tactic| (have kept := $h; replace $h := allLt_of $h; simp only [AllLt, and_true] at $h:ident))
theorem turn_shut_hit {w : World} {s : Shared} {mg mb : Str → Option Value} {mean : ExcName → Option Value} {loose : List Str} {base h : Heap} {L fa : Addr} {cd : Value} {tk : Nat} {u : Str → Option Value}
  {a : Lay} {dk xk I : Nat} {oI : Obj} {vth vcl vov vsz ws : List Value} {ncl nov nsz nns : List Int} {n nc nt n1 n2 n3 i ti : Nat} {rest : List (Addr × Obj)} {es : List DictEntry}
  {Q : Flow → Shared → Prop} {E : Value → Shared → Prop} {c' : Nat} {oc' : Obj} {vs' : Array Value} {t' : Nat}
  (X' : (Mine.hd.heap_39 w.params).In base) (T' : Top topProg loose mean mg mb base) (K' : Below callerA base [] base)
  (F' : Fr base L h (fun y => if y = Str.ofString "step" then some (.int i ti) else mNames a u y))
  (N' : News base L h ((I, oI) :: led a dk xk es n vth.toArray vcl.toArray vov.toArray vsz.toArray ws.toArray nc nt n1 n2 n3 ++ [(52, tabObj #[rawInt 21, rawInt 4, .ref c']), (c', oc')] ++ rest))
  (hoff : OwnOff rest [I, dk, xk, a.lc, a.lt, a.lcl, a.lo, a.ls, a.ln, 52, c'])
  (hne : NeAll [I, dk, xk, a.lc, a.lt, a.lcl, a.lo, a.ls, a.ln, 52, c'])
  (hI1 : IntsAre vcl ncl) (hI2 : IntsAre vov nov) (hI3 : IntsAre vsz nsz) (hI4 : IntsAre ws nns)
  (hlen1 : vth.length = ncl.length) (hlen2 : nov.length = ncl.length) (hlen3 : nsz.length = ncl.length) (hpos : 0 < ncl.length) (hle : ncl.length ≤ 100) (hin : i < nns.length) (hnl : nns.length ≤ 100)
  (hk0 : 0 ≤ ((nns.getD (Int.toNat (i : Int)) 0).fdiv 4).fmod (ncl.length : Int)) (hk1 : ((nns.getD (Int.toNat (i : Int)) 0).fdiv 4).fmod (ncl.length : Int) < (ncl.length : Int))
  (hth : vth[(((nns.getD (Int.toNat (i : Int)) 0).fdiv 4).fmod (ncl.length : Int)).toNat]? = some (.ref xk)) (hz : es.length ≤ 900)
  (codeHd : CodeHd base 56 52) (d1 : oc'.data = .fields vs') (d2 : vs'[1]? = some (.str cloQual t')) (hkind : (nns.getD (Int.toNat (i : Int)) 0).fmod 4 = 2) (hgl : (getL (Str.ofString "close") es).isSome = true)
  (hQ : ShutK2 w mg base L s Q a I oI rest dk xk es n vth vcl vov vsz ws nc nt n1 n2 n3 (((nns.getD (Int.toNat (i : Int)) 0).fdiv 4).fmod (ncl.length : Int)).toNat i (some c')) :
  wpAny (model PySem.Challenge.rw_dn0266_01.row.prog w) (callerA.deeper (lawEnv L fa cd)) (execs body1 (lawEnv L fa cd)) Q E { s with heap := h, toks := tk } := by
  obtain ⟨lc, lt, lcl, lo, ls, ln⟩ := a
  simp only [NeAll, NeTo, and_true] at hne
  obtain ⟨⟨n0_1, n0_2, n0_3, n0_4, n0_5, n0_6, n0_7, n0_8, n0_9, n0_10⟩, ⟨n1_2, n1_3, n1_4, n1_5, n1_6, n1_7, n1_8, n1_9, n1_10⟩, ⟨n2_3, n2_4, n2_5, n2_6, n2_7, n2_8, n2_9, n2_10⟩, ⟨n3_4, n3_5, n3_6, n3_7, n3_8, n3_9, n3_10⟩, ⟨n4_5, n4_6, n4_7, n4_8, n4_9, n4_10⟩, ⟨n5_6, n5_7, n5_8, n5_9, n5_10⟩, ⟨n6_7, n6_8, n6_9, n6_10⟩, ⟨n7_8, n7_9, n7_10⟩, ⟨n8_9, n8_10⟩, n9_10⟩ := hne
  simp only [led, List.cons_append, List.nil_append] at N'
  dsimp only [mNames] at F'
  dsimp only at hoff
  w_top off
  revert X'; k_fill; intro X'
  with_unfolding_all show wpAny _ _ (execs (_ :: _) _) _ _ _
  k_steps
  exact hQ _ _ _ _ _ _ _ _ _ _ _ _ _ _ _ _ _ _ (by assumption) ⟨rfl, rfl, rfl, rfl, rfl, rfl⟩ (by assumption) (by (with_unfolding_all ((try simp only [led, List.cons_append, List.nil_append]); k_allIn))) (Eq.trans (by assumption) (by with_unfolding_all rfl)) (Eq.trans (by assumption) (by with_unfolding_all rfl)) (by assumption) (by assumption) (by (intro p hp; k_ownIn)) (by omega) (by omega) (by omega) (by k_ne) (by k_ne) (fun _ e => Option.some.inj e)
end Mine
namespace Mine
open PySem PySem.W PySem.Calls PyProof.Rows
set_option maxRecDepth 100000
set_option maxHeartbeats 3000000
local macro_rules | `(tactic| walk_at "none 0") => `(tactic| fail)
local macro_rules | `(tactic| walk_at "none 1") => `(tactic| fail)
local macro_rules | `(tactic| walk_at "none 2") => `(tactic| fail)
local macro_rules | `(tactic| walk_at "none 3") => `(tactic| fail)
local macro_rules | `(tactic| walk_at "call builtin:hasattr") => `(tactic| (k_here; (with_reducible show wpAny _ _ (call (Value.builtin _) [Value.none, _]) _ _ _); k_dflt (refine' Mine.hasattr_none_K ?k0 ?k1 ?k2 ?_; (case k0 => exact rfl); (case k1 => k_asm); (case k2 => k_asm); k_whole); intro h' tk' F' N'; (try k_sweep)))
local macro_rules | `(tactic| walk_at "call builtin:sum") => `(tactic| (k_here; (with_reducible show wpAny _ _ (call (Value.builtin "sum") [Value.ref _]) _ _ _); k_dflt (refine' Mine.sum_pick ?k0 ?k1 ?k2 ?k3 ?k4 ?_; (case k0 => with_unfolding_all rfl); (case k1 => k_asm); (case k2 => k_asm); (case k3 => k_mem); (case k4 => assumption); k_whole); intro h' tk' t' F' N'))
local macro_rules | `(tactic| walk_at "call builtin:hasattr") => `(tactic| (k_here; (with_reducible show wpAny _ _ (call (Value.builtin _) [Value.ref _, _]) _ _ _); k_dflt (first
  | (refine' has46_yes ?k1 ?k2 ?k3 ?k4 ?k5 ?_; (case k1 => k_asm); (case k2 => k_asm); (case k3 => k_inst); (case k4 => k_get); (case k5 => k_handed); k_whole)
  | (refine' has46_no ?k0 ?k1 ?k2 ?k3 ?k4 ?k5 ?_; (case k0 => exact rfl); (case k1 => k_asm); (case k2 => k_asm); (case k3 => k_asm); (case k4 => k_inst); (case k5 => k_get); k_whole; intro h' tk' F' N'; (try k_sweep)))))
local macro_rules | `(tactic| k_ne) => `(tactic| (refine neN ?_; (try dsimp only); first | exact NeF.l (by with_reducible assumption) | exact NeF.r (by with_reducible assumption) | omega))
local macro_rules | `(tactic| walk_at "call builtin:len") => `(tactic| (k_here; (with_reducible show wpAny _ _ (call (Value.builtin "len") [Value.ref _]) _ _ _); (with_unfolding_all refine' len_eq ?k1 ?k2 ?k3 ?_; (case k1 => is_list); (case k2 => with_reducible assumption); (case k3 => omega); k_whole)))
local macro_rules | `(tactic| walk_at "subscriptTail") => `(tactic| (k_here; (with_reducible show wpAny _ _ (subscriptTail _ _ (Value.ref _) (Value.int _ _)) _ _ _); (with_unfolding_all refine' item_litK ?k1 ?k2 ?k3 ?k4 ?_ ?k6; (case k1 => is_list); (case k4 => with_reducible assumption); (case k2 => l_idx); (case k3 => l_idx); (case k6 => with_unfolding_all rfl); k_whole)))
local macro_rules | `(tactic| walk_at "ite") => `(tactic| (first | ((refine ite_neg ?h ?_); (case h => (simp only [beq_iff_eq, bne_iff_ne, ne_eq, decide_eq_true_eq, Bool.false_bne, Bool.true_bne, Bool.not_eq_true', decide_eq_false_iff_not]; omega))) | ((refine ite_pos ?h ?_); (case h => (simp only [beq_iff_eq, bne_iff_ne, ne_eq, decide_eq_true_eq, Bool.false_bne, Bool.true_bne, Bool.not_eq_true', decide_eq_false_iff_not]; omega)))))
local macro_rules | `(tactic| k_get) => `(tactic| with_reducible assumption)
local macro_rules | `(tactic| walk_at "setAttr ref") => `(tactic| (k_here; k_dflt (refine' set_dict ?k1 ?k2 ?k3 ?k4 ?k5 ?k6 ?k7 ?k8 ?k9 ?k10 ?k11 ?k12 ?k13 ?_; (case k1 => k_asm); (case k2 => k_asm); (case k3 => k_asm); (case k4 => k_inst); (case k5 => exact rfl); (case k6 => k_is); (case k7 => k_is); (case k8 => k_is); (case k9 => k_is); (case k10 => with_reducible assumption); (case k11 => exact rfl); (case k12 => k_upd); (case k13 => exact putL_le2 (by assumption)); k_whole; intro h' F' N'; (try k_sweep))))
local macro_rules | `(tactic| k_lt $h) => `(tactic| (have kept := $h; replace $h := allLt_of $h; simp only [AllLt, and_true] at $h:ident))
theorem turn_shut_miss {w : World} {s : Shared} {mg mb : Str → Option Value} {mean : ExcName → Option Value} {loose : List Str} {base h : Heap} {L fa : Addr} {cd : Value} {tk : Nat} {u : Str → Option Value}
  {a : Lay} {dk xk I : Nat} {oI : Obj} {vth vcl vov vsz ws : List Value} {ncl nov nsz nns : List Int} {n nc nt n1 n2 n3 i ti : Nat} {rest : List (Addr × Obj)} {es : List DictEntry}
  {Q : Flow → Shared → Prop} {E : Value → Shared → Prop} 
  (X' : (Mine.hd.heap_39 w.params).In base) (T' : Top topProg loose mean mg mb base) (K' : Below callerA base [] base)
  (F' : Fr base L h (fun y => if y = Str.ofString "step" then some (.int i ti) else mNames a u y))
  (N' : News base L h ((I, oI) :: led a dk xk es n vth.toArray vcl.toArray vov.toArray vsz.toArray ws.toArray nc nt n1 n2 n3 ++ [(52, tabObj #[])] ++ rest))
  (hoff : OwnOff rest [I, dk, xk, a.lc, a.lt, a.lcl, a.lo, a.ls, a.ln, 52])
  (hne : NeAll [I, dk, xk, a.lc, a.lt, a.lcl, a.lo, a.ls, a.ln, 52])
  (hI1 : IntsAre vcl ncl) (hI2 : IntsAre vov nov) (hI3 : IntsAre vsz nsz) (hI4 : IntsAre ws nns)
  (hlen1 : vth.length = ncl.length) (hlen2 : nov.length = ncl.length) (hlen3 : nsz.length = ncl.length) (hpos : 0 < ncl.length) (hle : ncl.length ≤ 100) (hin : i < nns.length) (hnl : nns.length ≤ 100)
  (hk0 : 0 ≤ ((nns.getD (Int.toNat (i : Int)) 0).fdiv 4).fmod (ncl.length : Int)) (hk1 : ((nns.getD (Int.toNat (i : Int)) 0).fdiv 4).fmod (ncl.length : Int) < (ncl.length : Int))
  (hth : vth[(((nns.getD (Int.toNat (i : Int)) 0).fdiv 4).fmod (ncl.length : Int)).toNat]? = some (.ref xk)) (hz : es.length ≤ 900)
  (codeHd : CodeHd base 56 52) (hkind : (nns.getD (Int.toNat (i : Int)) 0).fmod 4 = 2) (hgl : (getL (Str.ofString "close") es).isSome = true)
  (hQ : ShutK2 w mg base L s Q a I oI rest dk xk es n vth vcl vov vsz ws nc nt n1 n2 n3 (((nns.getD (Int.toNat (i : Int)) 0).fdiv 4).fmod (ncl.length : Int)).toNat i none) :
  wpAny (model PySem.Challenge.rw_dn0266_01.row.prog w) (callerA.deeper (lawEnv L fa cd)) (execs body1 (lawEnv L fa cd)) Q E { s with heap := h, toks := tk } := by
  obtain ⟨lc, lt, lcl, lo, ls, ln⟩ := a
  simp only [NeAll, NeTo, and_true] at hne
  obtain ⟨⟨n0_1, n0_2, n0_3, n0_4, n0_5, n0_6, n0_7, n0_8, n0_9⟩, ⟨n1_2, n1_3, n1_4, n1_5, n1_6, n1_7, n1_8, n1_9⟩, ⟨n2_3, n2_4, n2_5, n2_6, n2_7, n2_8, n2_9⟩, ⟨n3_4, n3_5, n3_6, n3_7, n3_8, n3_9⟩, ⟨n4_5, n4_6, n4_7, n4_8, n4_9⟩, ⟨n5_6, n5_7, n5_8, n5_9⟩, ⟨n6_7, n6_8, n6_9⟩, ⟨n7_8, n7_9⟩, n8_9⟩ := hne
  simp only [led, List.cons_append, List.nil_append] at N'
  dsimp only [mNames] at F'
  dsimp only at hoff
  w_top off
  revert X'; k_fill; intro X'
  with_unfolding_all show wpAny _ _ (execs (_ :: _) _) _ _ _
  k_steps
  exact hQ _ _ _ _ _ _ _ _ _ _ _ _ _ _ _ _ _ _ (by assumption) ⟨rfl, rfl, rfl, rfl, rfl, rfl⟩ (by assumption) (by (with_unfolding_all ((try simp only [led, List.cons_append, List.nil_append]); k_allIn))) (Eq.trans (by assumption) (by with_unfolding_all rfl)) (Eq.trans (by assumption) (by with_unfolding_all rfl)) (by assumption) (by assumption) (by (intro p hp; k_ownIn)) (by omega) (by omega) (by omega) (by k_ne) (by k_ne) (fun _ e => nomatch e)
end Mine
namespace Mine
open PySem PySem.W PySem.Calls PyProof.Rows
set_option maxRecDepth 100000
set_option maxHeartbeats 3000000
local macro_rules | `(tactic| walk_at "none 0") => `(tactic| fail)
local macro_rules | `(tactic| walk_at "none 1") => `(tactic| fail)
local macro_rules | `(tactic| walk_at "none 2") => `(tactic| fail)
local macro_rules | `(tactic| walk_at "none 3") => `(tactic| fail)
local macro_rules | `(tactic| walk_at "call builtin:hasattr") => `(tactic| (k_here; (with_reducible show wpAny _ _ (call (Value.builtin _) [Value.none, _]) _ _ _); k_dflt (refine' Mine.hasattr_none_K ?k0 ?k1 ?k2 ?_; (case k0 => exact rfl); (case k1 => k_asm); (case k2 => k_asm); k_whole); intro h' tk' F' N'; (try k_sweep)))
local macro_rules | `(tactic| walk_at "call builtin:sum") => `(tactic| (k_here; (with_reducible show wpAny _ _ (call (Value.builtin "sum") [Value.ref _]) _ _ _); k_dflt (refine' Mine.sum_pick ?k0 ?k1 ?k2 ?k3 ?k4 ?_; (case k0 => with_unfolding_all rfl); (case k1 => k_asm); (case k2 => k_asm); (case k3 => k_mem); (case k4 => assumption); k_whole); intro h' tk' t' F' N'))
local macro_rules | `(tactic| walk_at "call builtin:hasattr") => `(tactic| (k_here; (with_reducible show wpAny _ _ (call (Value.builtin _) [Value.ref _, _]) _ _ _); k_dflt (first
  | (refine' has46_yes ?k1 ?k2 ?k3 ?k4 ?k5 ?_; (case k1 => k_asm); (case k2 => k_asm); (case k3 => k_inst); (case k4 => k_get); (case k5 => k_handed); k_whole)
  | (refine' has46_no ?k0 ?k1 ?k2 ?k3 ?k4 ?k5 ?_; (case k0 => exact rfl); (case k1 => k_asm); (case k2 => k_asm); (case k3 => k_asm); (case k4 => k_inst); (case k5 => k_get); k_whole; intro h' tk' F' N'; (try k_sweep)))))
local macro_rules | `(tactic| k_ne) => `(tactic| (refine neN ?_; (try dsimp only); first | exact NeF.l (by with_reducible assumption) | exact NeF.r (by with_reducible assumption) | omega))
local macro_rules | `(tactic| walk_at "call builtin:len") => `(tactic| (k_here; (with_reducible show wpAny _ _ (call (Value.builtin "len") [Value.ref _]) _ _ _); (with_unfolding_all refine' len_eq ?k1 ?k2 ?k3 ?_; (case k1 => is_list); (case k2 => with_reducible assumption); (case k3 => omega); k_whole)))
local macro_rules | `(tactic| walk_at "subscriptTail") => `(tactic| (k_here; (with_reducible show wpAny _ _ (subscriptTail _ _ (Value.ref _) (Value.int _ _)) _ _ _); (with_unfolding_all refine' item_litK ?k1 ?k2 ?k3 ?k4 ?_ ?k6; (case k1 => is_list); (case k4 => with_reducible assumption); (case k2 => l_idx); (case k3 => l_idx); (case k6 => with_unfolding_all rfl); k_whole)))
local macro_rules | `(tactic| walk_at "ite") => `(tactic| (first | ((refine ite_neg ?h ?_); (case h => (simp only [beq_iff_eq, bne_iff_ne, ne_eq, decide_eq_true_eq, Bool.false_bne, Bool.true_bne, Bool.not_eq_true', decide_eq_false_iff_not]; omega))) | ((refine ite_pos ?h ?_); (case h => (simp only [beq_iff_eq, bne_iff_ne, ne_eq, decide_eq_true_eq, Bool.false_bne, Bool.true_bne, Bool.not_eq_true', decide_eq_false_iff_not]; omega)))))
local macro_rules | `(tactic| k_get) => `(tactic| with_reducible assumption)
local macro_rules | `(tactic| walk_at "setAttr ref") => `(tactic| (k_here; k_dflt (refine' set_dict ?k1 ?k2 ?k3 ?k4 ?k5 ?k6 ?k7 ?k8 ?k9 ?k10 ?k11 ?k12 ?k13 ?_; (case k1 => k_asm); (case k2 => k_asm); (case k3 => k_asm); (case k4 => k_inst); (case k5 => exact rfl); (case k6 => k_is); (case k7 => k_is); (case k8 => k_is); (case k9 => k_is); (case k10 => with_reducible assumption); (case k11 => exact rfl); (case k12 => k_upd); (case k13 => exact putL_le2 (by assumption)); k_whole; intro h' F' N'; (try k_sweep))))
local macro_rules | `(tactic| k_lt $h) => `(tactic| (have kept := $h; replace $h := allLt_of $h; simp only [AllLt, and_true] at $h:ident))
theorem f_delfind (P : Params) : findIn (hd.heap_39 P) (.ref 46) (Str.ofString "__delattr__") = some (some (.builtin "object.__delattr__")) := by kernel_rfl
theorem f_drop {w : World} {t1 t2 t3 : Tok} {fl bv cv : Value} {n : Nat} : Obj.dropName (Str.ofString "close") (dictOf [entF w t1 fl, entB w t2 bv, entC w t3 cv] n) = dictOf [entF w t1 fl, entB w t2 bv] (n + 1) := by kernel_rfl
theorem f_has {w : World} {t1 t2 t3 : Tok} {fl bv cv : Value} {n : Nat} : nsHas (Str.ofString "close") (dictOf [entF w t1 fl, entB w t2 bv, entC w t3 cv] n) = pure true := by kernel_rfl
local macro_rules | `(tactic| walk_at "delAttr ref") => `(tactic| (k_here; k_dflt (refine' del_dict ?k1 ?k2 ?k3 ?k4 ?k5 ?k6 ?k7 ?k8 ?k9 ?k10 ?k11 ?k12 ?k13 ?_; (case k1 => k_asm); (case k2 => k_asm); (case k3 => k_asm); (case k4 => k_inst); (case k5 => exact rfl); (case k6 => exact f_delfind _); (case k7 => k_is); (case k8 => k_is); (case k9 => k_is); (case k10 => exact f_has); (case k11 => exact f_drop); (case k12 => exact rfl); (case k13 => k_upd)); intro h' F' N'; (try k_sweep)))
theorem turn_del {w : World} {s : Shared} {mg mb : Str → Option Value} {mean : ExcName → Option Value} {loose : List Str} {base h : Heap} {L fa : Addr} {cd : Value} {tk : Nat} {u : Str → Option Value}
  {a : Lay} {dk xk I : Nat} {oI : Obj} {vth vcl vov vsz ws : List Value} {ncl nov nsz nns : List Int} {n nc nt n1 n2 n3 i ti : Nat} {rest : List (Addr × Obj)} {es : List DictEntry}
  {Q : Flow → Shared → Prop} {E : Value → Shared → Prop} {fk t1 t2 t3 bt : Nat} {fl : Value} {bz : Int}
  (X' : (Mine.hd.heap_39 w.params).In base) (T' : Top topProg loose mean mg mb base) (K' : Below callerA base [] base)
  (F' : Fr base L h (fun y => if y = Str.ofString "step" then some (.int i ti) else mNames a u y))
  (N' : News base L h ((I, oI) :: led a dk xk [entF w t1 fl, entB w t2 (.int bz bt), entC w t3 (.ref fk)] n vth.toArray vcl.toArray vov.toArray vsz.toArray ws.toArray nc nt n1 n2 n3 ++ rest))
  (hoff : OwnOff rest [I, dk, xk, a.lc, a.lt, a.lcl, a.lo, a.ls, a.ln])
  (hne : NeAll [I, dk, xk, a.lc, a.lt, a.lcl, a.lo, a.ls, a.ln])
  (hI1 : IntsAre vcl ncl) (hI2 : IntsAre vov nov) (hI3 : IntsAre vsz nsz) (hI4 : IntsAre ws nns)
  (hlen1 : vth.length = ncl.length) (hlen2 : nov.length = ncl.length) (hlen3 : nsz.length = ncl.length) (hpos : 0 < ncl.length) (hle : ncl.length ≤ 100) (hin : i < nns.length) (hnl : nns.length ≤ 100)
  (hk0 : 0 ≤ ((nns.getD (Int.toNat (i : Int)) 0).fdiv 4).fmod (ncl.length : Int)) (hk1 : ((nns.getD (Int.toNat (i : Int)) 0).fdiv 4).fmod (ncl.length : Int) < (ncl.length : Int))
  (hth : vth[(((nns.getD (Int.toNat (i : Int)) 0).fdiv 4).fmod (ncl.length : Int)).toNat]? = some (.ref xk))
  (hkind : (nns.getD (Int.toNat (i : Int)) 0).fmod 4 = 3) (hcl : 0 ≤ ncl.getD (((nns.getD (Int.toNat (i : Int)) 0).fdiv 4).fmod (ncl.length : Int)).toNat 0)
  (hQ : DelK base L s Q a I oI rest dk xk [entF w t1 fl, entB w t2 (.int bz bt)] (n + 1) vth vcl vov vsz ws nc nt n1 n2 n3 (((nns.getD (Int.toNat (i : Int)) 0).fdiv 4).fmod (ncl.length : Int)).toNat) :
  wpAny (model PySem.Challenge.rw_dn0266_01.row.prog w) (callerA.deeper (lawEnv L fa cd)) (execs body1 (lawEnv L fa cd)) Q E { s with heap := h, toks := tk } := by
  obtain ⟨lc, lt, lcl, lo, ls, ln⟩ := a
  simp only [NeAll, NeTo, and_true] at hne
  obtain ⟨⟨n0_1, n0_2, n0_3, n0_4, n0_5, n0_6, n0_7, n0_8⟩, ⟨n1_2, n1_3, n1_4, n1_5, n1_6, n1_7, n1_8⟩, ⟨n2_3, n2_4, n2_5, n2_6, n2_7, n2_8⟩, ⟨n3_4, n3_5, n3_6, n3_7, n3_8⟩, ⟨n4_5, n4_6, n4_7, n4_8⟩, ⟨n5_6, n5_7, n5_8⟩, ⟨n6_7, n6_8⟩, n7_8⟩ := hne
  simp only [led, List.cons_append, List.nil_append] at N'
  dsimp only [mNames] at F'
  dsimp only at hoff
  w_top off
  revert X'; k_fill; intro X'
  with_unfolding_all show wpAny _ _ (execs (_ :: _) _) _ _ _
  k_steps
  exact hQ _ _ _ _ _ (by assumption) ⟨rfl, rfl, rfl, rfl, rfl, rfl⟩ (by assumption) (by (with_unfolding_all ((try simp only [led]); k_allIn))) (by (intro p hp; k_ownIn))
end Mine
namespace Mine
open PySem PySem.W PySem.Calls PyProof.Rows
set_option maxRecDepth 100000
set_option maxHeartbeats 3000000
local macro_rules | `(tactic| walk_at "none 0") => `(tactic| fail)
local macro_rules | `(tactic| walk_at "none 1") => `(tactic| fail)
local macro_rules | `(tactic| walk_at "none 2") => `(tactic| fail)
local macro_rules | `(tactic| walk_at "none 3") => `(tactic| fail)
local macro_rules | `(tactic| walk_at "none 4") => `(tactic| fail)
local macro_rules | `(tactic| walk_at "call builtin:hasattr") => `(tactic| (k_here; (with_reducible show wpAny _ _ (call (Value.builtin _) [Value.none, _]) _ _ _); k_dflt (refine' Mine.hasattr_none_K ?k0 ?k1 ?k2 ?_; (case k0 => exact rfl); (case k1 => k_asm); (case k2 => k_asm); k_whole); intro h' tk' F' N'; (try k_sweep)))
local macro_rules | `(tactic| walk_at "call builtin:sum") => `(tactic| (k_here; (with_reducible show wpAny _ _ (call (Value.builtin "sum") [Value.ref _]) _ _ _); k_dflt (refine' Mine.sum_pick ?k0 ?k1 ?k2 ?k3 ?k4 ?_; (case k0 => with_unfolding_all rfl); (case k1 => k_asm); (case k2 => k_asm); (case k3 => k_mem); (case k4 => assumption); k_whole); intro h' tk' t' F' N'))
local macro_rules | `(tactic| walk_at "call builtin:hasattr") => `(tactic| (k_here; (with_reducible show wpAny _ _ (call (Value.builtin _) [Value.ref _, _]) _ _ _); k_dflt (first
  | (refine' has46_yes ?k1 ?k2 ?k3 ?k4 ?k5 ?_; (case k1 => k_asm); (case k2 => k_asm); (case k3 => k_inst); (case k4 => k_get); (case k5 => k_handed); k_whole)
  | (refine' has46_no ?k0 ?k1 ?k2 ?k3 ?k4 ?k5 ?_; (case k0 => exact rfl); (case k1 => k_asm); (case k2 => k_asm); (case k3 => k_asm); (case k4 => k_inst); (case k5 => k_get); k_whole; intro h' tk' F' N'; (try k_sweep)))))
local macro_rules | `(tactic| k_ne) => `(tactic| (refine neN ?_; (try dsimp only); first | exact NeF.l (by with_reducible assumption) | exact NeF.r (by with_reducible assumption) | omega))
local macro_rules | `(tactic| walk_at "call builtin:len") => `(tactic| (k_here; (with_reducible show wpAny _ _ (call (Value.builtin "len") [Value.ref _]) _ _ _); (with_unfolding_all refine' len_eq ?k1 ?k2 ?k3 ?_; (case k1 => is_list); (case k2 => with_reducible assumption); (case k3 => omega); k_whole)))
local macro_rules | `(tactic| walk_at "subscriptTail") => `(tactic| (k_here; (with_reducible show wpAny _ _ (subscriptTail _ _ (Value.ref _) (Value.int _ _)) _ _ _); (with_unfolding_all refine' item_litK ?k1 ?k2 ?k3 ?k4 ?_ ?k6; (case k1 => is_list); (case k4 => with_reducible assumption); (case k2 => l_idx); (case k3 => l_idx); (case k6 => with_unfolding_all rfl); k_whole)))
local macro_rules | `(tactic| walk_at "ite") => `(tactic| (first | ((refine ite_neg ?h ?_); (case h => (simp only [beq_iff_eq, decide_eq_true_eq]; omega))) | ((refine ite_pos ?h ?_); (case h => (simp only [beq_iff_eq, decide_eq_true_eq]; omega)))))
local macro_rules | `(tactic| k_get) => `(tactic| with_reducible assumption)
local macro_rules | `(tactic| walk_at "setAttr ref") => `(tactic| (k_here; k_dflt (refine' set_dict ?k1 ?k2 ?k3 ?k4 ?k5 ?k6 ?k7 ?k8 ?k9 ?k10 ?k11 ?k12 ?k13 ?_; (case k1 => k_asm); (case k2 => k_asm); (case k3 => k_asm); (case k4 => k_inst); (case k5 => exact rfl); (case k6 => k_is); (case k7 => k_is); (case k8 => k_is); (case k9 => k_is); (case k10 => with_reducible assumption); (case k11 => exact rfl); (case k12 => k_upd); (case k13 => skip); k_whole; intro h' F' N'; (try k_sweep))))
local macro_rules | `(tactic| k_lt $h) => `(tactic| (have kept := $h; replace $h := allLt_of $h; simp only [AllLt, and_true] at $h:ident))
local macro_rules | `(tactic| walk_at "compareOp Is ref ref") => `(tactic| (k_here; (with_reducible show wpAny _ _ (compareOp CmpOp.Is (Value.ref _) (Value.ref _)) _ _ _); k_dflt (first | (refine wpAny_is_ref_self ?_; k_whole) | (refine' is_apart ?a ?b ?c ?d ?e ?_; (case a => k_asm); (case d => exact NeF.l (by with_reducible assumption)); (case b => k_ownIn); (case c => k_ownIn); (case e => with_reducible assumption); k_whole))))

theorem turn_in_a {w : World} {s : Shared} {mg mb : Str → Option Value} {mean : ExcName → Option Value} {loose : List Str} {base h : Heap} {L fa : Addr} {cd : Value} {tk : Nat} {m : Str → Option Value}
  {lt lcl dk xk dj xj I k j : Nat} {tj tk0 : Nat} {oI : Obj} {vth vcl : List Value} {ncl : List Int} {n nj nt n1 : Nat} {rest : List (Addr × Obj)} {es esj : List DictEntry} {vk vj : Nat} {ofk ofj : Obj}
  {Q : Flow → Shared → Prop} {E : Value → Shared → Prop}
  (X' : (Mine.hd.heap_39 w.params).In base) (T' : Top topProg loose mean mg mb base) (K' : Below callerA base [] base)
  (F' : Fr base L h (fun y => if y = Str.ofString "j" then some (.int j tj) else if y = Str.ofString "k" then some (.int k tk0) else if y = Str.ofString "closes" then some (.ref lcl) else if y = Str.ofString "things" then some (.ref lt) else m y))
  (N' : News base L h ((I, oI) :: (dk, dictOf es n) :: (xk, instObj 46 dk) :: (dj, dictOf esj nj) :: (xj, instObj 46 dj) :: (lt, W.listOf vth.toArray nt) :: (lcl, W.listOf vcl.toArray n1) :: rest))
  (hI1 : IntsAre vcl ncl) (hlen1 : vth.length = ncl.length) (hle : ncl.length ≤ 100) (hj : j < k) (hk : k < ncl.length)
  (hthk : vth[Int.toNat (k : Int)]? = some (.ref xk)) (hthj : vth[Int.toNat (j : Int)]? = some (.ref xj))
  (hck : ncl.getD (Int.toNat (k : Int)) 0 < 0)
  (hQ : ∀ h' tk', Fr base L h' (fun y => if y = Str.ofString "j" then some (.int j tj) else if y = Str.ofString "k" then some (.int k tk0) else if y = Str.ofString "closes" then some (.ref lcl) else if y = Str.ofString "things" then some (.ref lt) else m y) →
      News base L h' ((I, oI) :: (dk, dictOf es n) :: (xk, instObj 46 dk) :: (dj, dictOf esj nj) :: (xj, instObj 46 dj) :: (lt, W.listOf vth.toArray nt) :: (lcl, W.listOf vcl.toArray n1) :: rest) → Q .next { s with heap := h', toks := tk' }) :
  wpAny (model PySem.Challenge.rw_dn0266_01.row.prog w) (callerA.deeper (lawEnv L fa cd)) (execs body3 (lawEnv L fa cd)) Q E { s with heap := h, toks := tk } := by
  w_top off
  revert X'; k_fill; intro X'
  with_unfolding_all show wpAny _ _ (execs (_ :: _) _) _ _ _
  k_steps
  all_goals (first | exact hQ _ _ (by assumption) (by assumption) | (exfalso; simp_all; done))

theorem turn_in_b {w : World} {s : Shared} {mg mb : Str → Option Value} {mean : ExcName → Option Value} {loose : List Str} {base h : Heap} {L fa : Addr} {cd : Value} {tk : Nat} {m : Str → Option Value}
  {lt lcl dk xk dj xj I k j : Nat} {tj tk0 : Nat} {oI : Obj} {vth vcl : List Value} {ncl : List Int} {n nj nt n1 : Nat} {rest : List (Addr × Obj)} {es esj : List DictEntry} {vk vj : Nat} {ofk ofj : Obj}
  {Q : Flow → Shared → Prop} {E : Value → Shared → Prop}
  (X' : (Mine.hd.heap_39 w.params).In base) (T' : Top topProg loose mean mg mb base) (K' : Below callerA base [] base)
  (F' : Fr base L h (fun y => if y = Str.ofString "j" then some (.int j tj) else if y = Str.ofString "k" then some (.int k tk0) else if y = Str.ofString "closes" then some (.ref lcl) else if y = Str.ofString "things" then some (.ref lt) else m y))
  (N' : News base L h ((I, oI) :: (dk, dictOf es n) :: (xk, instObj 46 dk) :: (dj, dictOf esj nj) :: (xj, instObj 46 dj) :: (lt, W.listOf vth.toArray nt) :: (lcl, W.listOf vcl.toArray n1) :: rest))
  (hI1 : IntsAre vcl ncl) (hlen1 : vth.length = ncl.length) (hle : ncl.length ≤ 100) (hj : j < k) (hk : k < ncl.length)
  (hthk : vth[Int.toNat (k : Int)]? = some (.ref xk)) (hthj : vth[Int.toNat (j : Int)]? = some (.ref xj))
  (hck : 0 ≤ ncl.getD (Int.toNat (k : Int)) 0) (hcj : ncl.getD (Int.toNat (j : Int)) 0 < 0)
  (hQ : ∀ h' tk', Fr base L h' (fun y => if y = Str.ofString "j" then some (.int j tj) else if y = Str.ofString "k" then some (.int k tk0) else if y = Str.ofString "closes" then some (.ref lcl) else if y = Str.ofString "things" then some (.ref lt) else m y) →
      News base L h' ((I, oI) :: (dk, dictOf es n) :: (xk, instObj 46 dk) :: (dj, dictOf esj nj) :: (xj, instObj 46 dj) :: (lt, W.listOf vth.toArray nt) :: (lcl, W.listOf vcl.toArray n1) :: rest) → Q .next { s with heap := h', toks := tk' }) :
  wpAny (model PySem.Challenge.rw_dn0266_01.row.prog w) (callerA.deeper (lawEnv L fa cd)) (execs body3 (lawEnv L fa cd)) Q E { s with heap := h, toks := tk } := by
  w_top off
  revert X'; k_fill; intro X'
  with_unfolding_all show wpAny _ _ (execs (_ :: _) _) _ _ _
  k_steps
  all_goals (first | exact hQ _ _ (by assumption) (by assumption) | (exfalso; simp_all; done))

theorem turn_in_c {w : World} {s : Shared} {mg mb : Str → Option Value} {mean : ExcName → Option Value} {loose : List Str} {base h : Heap} {L fa : Addr} {cd : Value} {tk : Nat} {m : Str → Option Value}
  {lt lcl dk xk dj xj I k j : Nat} {tj tk0 : Nat} {oI : Obj} {vth vcl : List Value} {ncl : List Int} {n nj nt n1 : Nat} {rest : List (Addr × Obj)} {es esj : List DictEntry} {vk vj : Nat} {ofk ofj : Obj}
  {Q : Flow → Shared → Prop} {E : Value → Shared → Prop}
  (X' : (Mine.hd.heap_39 w.params).In base) (T' : Top topProg loose mean mg mb base) (K' : Below callerA base [] base)
  (F' : Fr base L h (fun y => if y = Str.ofString "j" then some (.int j tj) else if y = Str.ofString "k" then some (.int k tk0) else if y = Str.ofString "closes" then some (.ref lcl) else if y = Str.ofString "things" then some (.ref lt) else m y))
  (N' : News base L h ((I, oI) :: (dk, dictOf es n) :: (xk, instObj 46 dk) :: (dj, dictOf esj nj) :: (xj, instObj 46 dj) :: (lt, W.listOf vth.toArray nt) :: (lcl, W.listOf vcl.toArray n1) :: rest))
  (hI1 : IntsAre vcl ncl) (hlen1 : vth.length = ncl.length) (hle : ncl.length ≤ 100) (hj : j < k) (hk : k < ncl.length)
  (hthk : vth[Int.toNat (k : Int)]? = some (.ref xk)) (hthj : vth[Int.toNat (j : Int)]? = some (.ref xj))
  (hck : 0 ≤ ncl.getD (Int.toNat (k : Int)) 0) (hcj : 0 ≤ ncl.getD (Int.toNat (j : Int)) 0) (hgk : getL (Str.ofString "close") es = some (some (.ref vk))) (hgj : getL (Str.ofString "close") esj = some (some (.ref vk))) (hcc : ncl.getD (Int.toNat (k : Int)) 0 = ncl.getD (Int.toNat (j : Int)) 0)
  (hQ : ∀ h' tk', Fr base L h' (fun y => if y = Str.ofString "j" then some (.int j tj) else if y = Str.ofString "k" then some (.int k tk0) else if y = Str.ofString "closes" then some (.ref lcl) else if y = Str.ofString "things" then some (.ref lt) else m y) →
      News base L h' ((I, oI) :: (dk, dictOf es n) :: (xk, instObj 46 dk) :: (dj, dictOf esj nj) :: (xj, instObj 46 dj) :: (lt, W.listOf vth.toArray nt) :: (lcl, W.listOf vcl.toArray n1) :: rest) → Q .next { s with heap := h', toks := tk' }) :
  wpAny (model PySem.Challenge.rw_dn0266_01.row.prog w) (callerA.deeper (lawEnv L fa cd)) (execs body3 (lawEnv L fa cd)) Q E { s with heap := h, toks := tk } := by
  w_top off
  revert X'; k_fill; intro X'
  with_unfolding_all show wpAny _ _ (execs (_ :: _) _) _ _ _
  k_steps
  all_goals (first | exact hQ _ _ (by assumption) (by assumption) | (exfalso; simp_all; done))

theorem turn_in_d {w : World} {s : Shared} {mg mb : Str → Option Value} {mean : ExcName → Option Value} {loose : List Str} {base h : Heap} {L fa : Addr} {cd : Value} {tk : Nat} {m : Str → Option Value}
  {lt lcl dk xk dj xj I k j : Nat} {tj tk0 : Nat} {oI : Obj} {vth vcl : List Value} {ncl : List Int} {n nj nt n1 : Nat} {rest : List (Addr × Obj)} {es esj : List DictEntry} {vk vj : Nat} {ofk ofj : Obj}
  {Q : Flow → Shared → Prop} {E : Value → Shared → Prop}
  (X' : (Mine.hd.heap_39 w.params).In base) (T' : Top topProg loose mean mg mb base) (K' : Below callerA base [] base)
  (F' : Fr base L h (fun y => if y = Str.ofString "j" then some (.int j tj) else if y = Str.ofString "k" then some (.int k tk0) else if y = Str.ofString "closes" then some (.ref lcl) else if y = Str.ofString "things" then some (.ref lt) else m y))
  (N' : News base L h ((I, oI) :: (dk, dictOf es n) :: (xk, instObj 46 dk) :: (dj, dictOf esj nj) :: (xj, instObj 46 dj) :: (lt, W.listOf vth.toArray nt) :: (lcl, W.listOf vcl.toArray n1) :: rest))
  (hI1 : IntsAre vcl ncl) (hlen1 : vth.length = ncl.length) (hle : ncl.length ≤ 100) (hj : j < k) (hk : k < ncl.length)
  (hthk : vth[Int.toNat (k : Int)]? = some (.ref xk)) (hthj : vth[Int.toNat (j : Int)]? = some (.ref xj))
  (hck : 0 ≤ ncl.getD (Int.toNat (k : Int)) 0) (hcj : 0 ≤ ncl.getD (Int.toNat (j : Int)) 0) (hgk : getL (Str.ofString "close") es = some (some (.ref vk))) (hgj : getL (Str.ofString "close") esj = some (some (.ref vj))) (hnv : NeF vk vj) (hcc : ncl.getD (Int.toNat (k : Int)) 0 ≠ ncl.getD (Int.toNat (j : Int)) 0) (hfk : (vk, ofk) ∈ rest) (hfj : (vj, ofj) ∈ rest) (hcf : ofk.cls = .type "function")
  (hQ : ∀ h' tk', Fr base L h' (fun y => if y = Str.ofString "j" then some (.int j tj) else if y = Str.ofString "k" then some (.int k tk0) else if y = Str.ofString "closes" then some (.ref lcl) else if y = Str.ofString "things" then some (.ref lt) else m y) →
      News base L h' ((I, oI) :: (dk, dictOf es n) :: (xk, instObj 46 dk) :: (dj, dictOf esj nj) :: (xj, instObj 46 dj) :: (lt, W.listOf vth.toArray nt) :: (lcl, W.listOf vcl.toArray n1) :: rest) → Q .next { s with heap := h', toks := tk' }) :
  wpAny (model PySem.Challenge.rw_dn0266_01.row.prog w) (callerA.deeper (lawEnv L fa cd)) (execs body3 (lawEnv L fa cd)) Q E { s with heap := h, toks := tk } := by
  w_top off
  revert X'; k_fill; intro X'
  with_unfolding_all show wpAny _ _ (execs (_ :: _) _) _ _ _
  k_steps
  all_goals (first | exact hQ _ _ (by assumption) (by assumption) | (exfalso; simp_all; done))
end Mine
namespace Mine
open PySem PySem.W PySem.Calls PyProof.Rows
set_option maxRecDepth 100000
set_option maxHeartbeats 4000000
theorem getD_eq {l : List Int} {k : Nat} : l.getD (Int.toNat (k : Int)) 0 = l.getD k 0 := by rw [Int.toNat_natCast]
def Before (news : List (Addr × Obj)) (vth : List Value) (ncl : List Int) (es : List DictEntry) (k : Nat) : Prop :=
  ∀ j, j < k → ∃ xj dj esj nj, (dj, dictOf esj nj) ∈ news ∧ (xj, instObj 46 dj) ∈ news ∧ vth[j]? = some (.ref xj) ∧
    (ncl.getD k 0 < 0 ∨ ncl.getD j 0 < 0 ∨ (0 ≤ ncl.getD k 0 ∧ 0 ≤ ncl.getD j 0 ∧ ∃ vk vj, getL (Str.ofString "close") es = some (some (.ref vk)) ∧ getL (Str.ofString "close") esj = some (some (.ref vj)) ∧
      ((vk = vj ∧ ncl.getD k 0 = ncl.getD j 0) ∨ (NeF vk vj ∧ ncl.getD k 0 ≠ ncl.getD j 0 ∧ ∃ ofk ofj, (vk, ofk) ∈ news ∧ (vj, ofj) ∈ news ∧ ofk.cls = .type "function"))))
theorem inner_loop {w : World} {s : Shared} {mg mb : Str → Option Value} {mean : ExcName → Option Value} {loose : List Str} {base : Heap} {L fa : Addr} {cd : Value} {m : Str → Option Value}
  {lt lcl dk xk k r : Nat} {tk0 t₀ u₀ v₀ : Nat} {vth vcl : List Value} {ncl : List Int} {n nt n1 : Nat} {news : List (Addr × Obj)} {es : List DictEntry}
  {Q : Flow → Shared → Prop} {E : Value → Shared → Prop}
  (X' : (Mine.hd.heap_39 w.params).In base) (T' : Top topProg loose mean mg mb base) (K' : Below callerA base [] base)
  (hr : IsRange s.heap r 0 (k : Int) 1 t₀ u₀ v₀)
  (F : Fr base L s.heap m) (N : News base L s.heap news)
  (hmk : m (Str.ofString "k") = some (.int k tk0)) (hmc : m (Str.ofString "closes") = some (.ref lcl)) (hmt : m (Str.ofString "things") = some (.ref lt))
  (h1 : (dk, dictOf es n) ∈ news) (h2 : (xk, instObj 46 dk) ∈ news) (h3 : (lt, W.listOf vth.toArray nt) ∈ news) (h4 : (lcl, W.listOf vcl.toArray n1) ∈ news)
  (hI1 : IntsAre vcl ncl) (hlen1 : vth.length = ncl.length) (hle : ncl.length ≤ 100) (hk : k < ncl.length)
  (hthk : vth[Int.toNat (k : Int)]? = some (.ref xk)) (hB : Before news vth ncl es k)
  (done : ∀ h' tk' (u : Str → Option Value), Fr base L h' (fun y => if y = Str.ofString "j" then u y else m y) → News base L h' news → Q .next { s with heap := h', toks := tk' }) :
  wpAny (model PySem.Challenge.rw_dn0266_01.row.prog w) (callerA.deeper (lawEnv L fa cd)) (pyIter (.ref r)) (fun it s₂ => LoopAtV PySem.Challenge.rw_dn0266_01.row.prog w (callerA.deeper (lawEnv L fa cd)) base (lawEnv L fa cd) (Str.ofString "j") body3 Q E it s₂) E s := by
  refine range_inv (n := k) (m₀ := m) (news := news) (fun _ m₁ nx => nx = news ∧ ∀ y, y ≠ Str.ofString "j" → m₁ y = m y) rfl hr (small_one (by omega) (by omega) (by omega) (by omega)) ?_ F N ⟨rfl, fun _ _ => rfl⟩ ?_ ?_
  · have := rangeSize_nat 0 (k : Int); simpa using this
  · rintro j t m₁ nx h tk I oI hj ⟨rfl, hm⟩ hoff F₁ N₁
    obtain ⟨xj, dj, esj, nj, g1, g2, g3, g4⟩ := hB j hj
    have em : (fun y => if y = Str.ofString "j" then some (Value.int (0 + (j : Int)) t) else m₁ y) = (fun y => if y = Str.ofString "j" then some (Value.int j t) else if y = Str.ofString "k" then some (.int k tk0) else if y = Str.ofString "closes" then some (.ref lcl) else if y = Str.ofString "things" then some (.ref lt) else m y) := by
      funext y
      by_cases e1 : y = Str.ofString "j"
      · simp [e1]
      · simp only [if_neg e1]
        rw [hm y e1]
        split
        · rename_i e; rw [e]; exact hmk
        split
        · rename_i e; rw [e]; exact hmc
        split
        · rename_i e; rw [e]; exact hmt
        rfl
    rw [em] at F₁
    have N₂ : News base L h ((I, oI) :: (dk, dictOf es n) :: (xk, instObj 46 dk) :: (dj, dictOf esj nj) :: (xj, instObj 46 dj) :: (lt, W.listOf vth.toArray nt) :: (lcl, W.listOf vcl.toArray n1) :: nx) := by
      intro p hp
      rcases List.mem_cons.mp hp with rfl | hp
      · exact N₁ _ (.head _)
      simp only [List.mem_cons] at hp
      rcases hp with rfl | rfl | rfl | rfl | rfl | rfl | hp
      · exact N₁ _ (.tail _ h1)
      · exact N₁ _ (.tail _ h2)
      · exact N₁ _ (.tail _ g1)
      · exact N₁ _ (.tail _ g2)
      · exact N₁ _ (.tail _ h3)
      · exact N₁ _ (.tail _ h4)
      · exact N₁ _ (.tail _ hp)
    have hQ : ∀ h' tk', Fr base L h' (fun y => if y = Str.ofString "j" then some (Value.int j t) else if y = Str.ofString "k" then some (.int k tk0) else if y = Str.ofString "closes" then some (.ref lcl) else if y = Str.ofString "things" then some (.ref lt) else m y) →
      News base L h' ((I, oI) :: (dk, dictOf es n) :: (xk, instObj 46 dk) :: (dj, dictOf esj nj) :: (xj, instObj 46 dj) :: (lt, W.listOf vth.toArray nt) :: (lcl, W.listOf vcl.toArray n1) :: nx) →
      LpPost base (lawEnv L fa cd).locals (fun m₁ nx' => nx' = nx ∧ ∀ y, y ≠ Str.ofString "j" → m₁ y = m y) I oI { s with heap := h, toks := tk } Q .next { s with heap := h', toks := tk' } := by
      intro h' tk' F' N'
      refine ⟨h', tk', _, _, nx, rfl, F', N', fun p hp => ?_, .head _, hoff, rfl, fun y hy => ?_⟩
      · iterate 7 refine .tail _ ?_
        exact hp
      · simp only [if_neg hy]
        split
        · rename_i e; rw [e]; exact hmk.symm
        split
        · rename_i e; rw [e]; exact hmc.symm
        split
        · rename_i e; rw [e]; exact hmt.symm
        rfl
    have g3' : vth[Int.toNat (j : Int)]? = some (.ref xj) := by rw [Int.toNat_natCast]; exact g3
    by_cases hck : ncl.getD (Int.toNat (k : Int)) 0 < 0
    · exact turn_in_a (vk := 0) (vj := 0) (ofk := default) (ofj := default) (s := { s with heap := h, toks := tk }) X' T' K' F₁ N₂ hI1 hlen1 hle hj hk hthk g3' hck hQ
    by_cases hcj : ncl.getD (Int.toNat (j : Int)) 0 < 0
    · exact turn_in_b (vk := 0) (vj := 0) (ofk := default) (ofj := default) (s := { s with heap := h, toks := tk }) X' T' K' F₁ N₂ hI1 hlen1 hle hj hk hthk g3' (by omega) hcj hQ
    rw [getD_eq] at hck hcj
    rcases g4 with g4 | g4 | ⟨g4, g5, vk, vj, g6, g7, g8⟩
    · omega
    · omega
    rcases g8 with ⟨rfl, g8⟩ | ⟨g8, g9, ofk, ofj, g10, g11, g12⟩
    · exact turn_in_c (vk := vk) (vj := 0) (ofk := default) (ofj := default) (s := { s with heap := h, toks := tk }) X' T' K' F₁ N₂ hI1 hlen1 hle hj hk hthk g3' (by rw [getD_eq]; exact g4) (by rw [getD_eq]; exact g5) g6 g7 (by rw [getD_eq, getD_eq]; exact g8) hQ
    · exact turn_in_d (vk := vk) (vj := vj) (ofk := ofk) (ofj := ofj) (s := { s with heap := h, toks := tk }) X' T' K' F₁ N₂ hI1 hlen1 hle hj hk hthk g3' (by rw [getD_eq]; exact g4) (by rw [getD_eq]; exact g5) g6 g7 g8 (by rw [getD_eq, getD_eq]; exact g9) g10 g11 g12 hQ
  · rintro m₁ nx h tk ⟨rfl, hm⟩ F' N'
    refine done h tk m₁ ?_ N'
    have e : (fun y => if y = Str.ofString "j" then m₁ y else m y) = m₁ := by
      funext y
      by_cases e1 : y = Str.ofString "j"
      · simp [e1]
      · simp only [if_neg e1]; exact (hm y e1).symm
    rw [e]; exact F'
end Mine
namespace Mine
open PySem PySem.W PySem.Calls PyProof.Rows
set_option maxRecDepth 100000
set_option maxHeartbeats 3000000
local macro_rules | `(tactic| walk_at "none 0") => `(tactic| fail)
local macro_rules | `(tactic| walk_at "none 1") => `(tactic| fail)
local macro_rules | `(tactic| walk_at "none 2") => `(tactic| fail)
local macro_rules | `(tactic| walk_at "none 3") => `(tactic| fail)
local macro_rules | `(tactic| walk_at "call builtin:hasattr") => `(tactic| (k_here; (with_reducible show wpAny _ _ (call (Value.builtin _) [Value.none, _]) _ _ _); k_dflt (refine' Mine.hasattr_none_K ?k0 ?k1 ?k2 ?_; (case k0 => exact rfl); (case k1 => k_asm); (case k2 => k_asm); k_whole); intro h' tk' F' N'; (try k_sweep)))
local macro_rules | `(tactic| walk_at "call builtin:sum") => `(tactic| (k_here; (with_reducible show wpAny _ _ (call (Value.builtin "sum") [Value.ref _]) _ _ _); k_dflt (refine' Mine.sum_pick ?k0 ?k1 ?k2 ?k3 ?k4 ?_; (case k0 => with_unfolding_all rfl); (case k1 => k_asm); (case k2 => k_asm); (case k3 => k_mem); (case k4 => assumption); k_whole); intro h' tk' t' F' N'))
local macro_rules | `(tactic| walk_at "call builtin:hasattr") => `(tactic| (k_here; (with_reducible show wpAny _ _ (call (Value.builtin _) [Value.ref _, _]) _ _ _); k_dflt (first
  | (refine' has46_yes ?k1 ?k2 ?k3 ?k4 ?k5 ?_; (case k1 => k_asm); (case k2 => k_asm); (case k3 => k_inst); (case k4 => k_get); (case k5 => k_handed); k_whole)
  | (refine' has46_no ?k0 ?k1 ?k2 ?k3 ?k4 ?k5 ?_; (case k0 => exact rfl); (case k1 => k_asm); (case k2 => k_asm); (case k3 => k_asm); (case k4 => k_inst); (case k5 => k_get); k_whole; intro h' tk' F' N'; (try k_sweep)))))
local macro_rules | `(tactic| k_ne) => `(tactic| (refine neN ?_; (try dsimp only); first | exact NeF.l (by with_reducible assumption) | exact NeF.r (by with_reducible assumption) | omega))
local macro_rules | `(tactic| walk_at "call builtin:len") => `(tactic| (k_here; (with_reducible show wpAny _ _ (call (Value.builtin "len") [Value.ref _]) _ _ _); (with_unfolding_all refine' len_eq ?k1 ?k2 ?k3 ?_; (case k1 => is_list); (case k2 => with_reducible assumption); (case k3 => omega); k_whole)))
local macro_rules | `(tactic| walk_at "subscriptTail") => `(tactic| (k_here; (with_reducible show wpAny _ _ (subscriptTail _ _ (Value.ref _) (Value.int _ _)) _ _ _); (with_unfolding_all refine' item_litK ?k1 ?k2 ?k3 ?k4 ?_ ?k6; (case k1 => is_list); (case k4 => with_reducible assumption); (case k2 => l_idx); (case k3 => l_idx); (case k6 => with_unfolding_all rfl); k_whole)))
local macro_rules | `(tactic| walk_at "ite") => `(tactic| (first | ((refine ite_neg ?h ?_); (case h => (simp only [beq_iff_eq, bne_iff_ne, ne_eq, decide_eq_true_eq, Bool.false_bne, Bool.true_bne, Bool.not_eq_true', decide_eq_false_iff_not]; omega))) | ((refine ite_pos ?h ?_); (case h => (simp only [beq_iff_eq, bne_iff_ne, ne_eq, decide_eq_true_eq, Bool.false_bne, Bool.true_bne, Bool.not_eq_true', decide_eq_false_iff_not]; omega)))))
local macro_rules | `(tactic| k_get) => `(tactic| with_reducible assumption)
local macro_rules | `(tactic| walk_at "setAttr ref") => `(tactic| (k_here; k_dflt (refine' set_dict ?k1 ?k2 ?k3 ?k4 ?k5 ?k6 ?k7 ?k8 ?k9 ?k10 ?k11 ?k12 ?k13 ?_; (case k1 => k_asm); (case k2 => k_asm); (case k3 => k_asm); (case k4 => k_inst); (case k5 => exact rfl); (case k6 => k_is); (case k7 => k_is); (case k8 => k_is); (case k9 => k_is); (case k10 => with_reducible assumption); (case k11 => exact rfl); (case k12 => k_upd); (case k13 => skip); k_whole; intro h' F' N'; (try k_sweep))))
local macro_rules | `(tactic| k_lt $h) => `(tactic| (have kept := $h; replace $h := allLt_of $h; simp only [AllLt, and_true] at $h:ident))
local macro_rules | `(tactic| passes_own) => `(tactic| assumption)
local macro_rules | `(tactic| walk_at "compareOp IsNot ref ref") => `(tactic| (k_here; (with_reducible show wpAny _ _ (compareOp CmpOp.IsNot (Value.ref _) (Value.ref _)) _ _ _); k_dflt (refine wpAny_isNot_ref_self ?_; k_whole)))
local macro_rules | `(tactic| walk_at "exec For Name Call cons nil") => `(tactic| (k_here; (rename Fr _ _ _ _ => lF'); (with_unfolding_all refine' For_invVF lF' ?k1 ?k2 ?_; (case k1 => exact rfl); (case k2 => exact rfl); k_whole)))
local macro_rules | `(tactic| walk_at "pyIter ref") => `(tactic| ((with_reducible show wpAny _ _ (pyIter (Value.ref _)) (fun it s₂ => LoopAtV _ _ _ _ _ _ _ _ _ it s₂) _ _); with_unfolding_all refine' inner_loop (dk := _) (xk := _) (vth := _) (vcl := _) (ncl := _) ?k1 ?k2 ?k3 ?k4 ?k5 ?k6 ?k7 ?k8 ?k9 ?k10 ?k11 ?k12 ?k13 ?k14 ?k15 ?k16 ?k17 ?k18 ?k19 ?_; (case k1 => k_asm); (case k2 => k_asm); (case k3 => k_asm); (case k4 => assumption); (case k5 => k_asm); (case k6 => k_asm); (case k7 => exact rfl); (case k8 => exact rfl); (case k9 => exact rfl); (case k18 => with_reducible assumption); (case k11 => k_mem); (case k10 => k_mem); (case k12 => k_mem); (case k13 => k_mem); (case k14 => with_reducible assumption); (case k15 => with_reducible assumption); (case k16 => with_reducible assumption); (case k17 => with_reducible assumption); (case k19 => with_reducible assumption); k_whole; intro h' tk' u' F' N'; (try k_sweep)))
theorem turn_ask_nn {w : World} {s : Shared} {mg mb : Str → Option Value} {mean : ExcName → Option Value} {loose : List Str} {base h : Heap} {L fa : Addr} {cd : Value} {tk : Nat} {u : Str → Option Value}
  {lc lt lcl lo ls ld dk xk I k : Nat} {oI : Obj} {vth vcl vov vsz vca vdu : List Value} {ncl nov nsz nca ndu : List Int} {n nc nt n1 n2 n3 n4 ti bt : Nat} {bz : Int} {rest : List (Addr × Obj)} {es : List DictEntry}
  {Q : Flow → Shared → Prop} {E : Value → Shared → Prop}  
  (X' : (Mine.hd.heap_39 w.params).In base) (T' : Top topProg loose mean mg mb base) (K' : Below callerA base [] base) (codeHd : CodeHd base 56 52) (hE : PassesOwn (model PySem.Challenge.rw_dn0266_01.row.prog w) (callerA.deeper (lawEnv L fa cd)) (lawEnv L fa cd) E)
  (F' : Fr base L h (fun y => if y = Str.ofString "k" then some (.int k ti) else if y = Str.ofString "due" then some (.ref ld) else if y = Str.ofString "sizes" then some (.ref ls) else if y = Str.ofString "over" then some (.ref lo)
      else if y = Str.ofString "closes" then some (.ref lcl) else if y = Str.ofString "things" then some (.ref lt) else if y = Str.ofString "calls" then some (.ref lc) else u y))
  (N' : News base L h ((I, oI) :: (dk, dictOf es n) :: (xk, instObj 46 dk) :: (lc, W.listOf vca.toArray nc) :: (lt, W.listOf vth.toArray nt) :: (lcl, W.listOf vcl.toArray n1) :: (lo, W.listOf vov.toArray n2) :: (ls, W.listOf vsz.toArray n3) :: (ld, W.listOf vdu.toArray n4) ::  rest))
  (hoff : OwnOff rest [lc, ld]) (hne1 : NeTo lc (ld :: [I, dk, xk, lt, lcl, lo, ls])) (hne2 : NeTo ld [I, dk, xk, lt, lcl, lo, ls])
  (hI1 : IntsAre vcl ncl) (hI2 : IntsAre vov nov) (hI3 : IntsAre vsz nsz) (hI5 : IntsAre vca nca) (hI6 : IntsAre vdu ndu)
  (hlen1 : vth.length = ncl.length) (hlen2 : nov.length = ncl.length) (hlen3 : nsz.length = ncl.length) (hle : ncl.length ≤ 100) (hk : k < ncl.length) (hla : nca.length ≤ k) (hld : ndu.length ≤ k)
  (hthk : vth[Int.toNat (k : Int)]? = some (.ref xk)) (hB : Before ((I, oI) :: (dk, dictOf es n) :: (xk, instObj 46 dk) :: (lc, W.listOf vca.toArray nc) :: (lt, W.listOf vth.toArray nt) :: (lcl, W.listOf vcl.toArray n1) :: (lo, W.listOf vov.toArray n2) :: (ls, W.listOf vsz.toArray n3) :: (ld, W.listOf vdu.toArray n4) ::  rest) vth ncl es k)
  (hbz : getL (Str.ofString "blksize") es = some (some (.int bz bt))) (hsz : bz = nsz.getD (Int.toNat (k : Int)) 0)
  (hov : nov.getD (Int.toNat (k : Int)) 0 < 0) (hfl : getL (Str.ofString "filelike") es = some (some .none))
  (hcl : ncl.getD (Int.toNat (k : Int)) 0 < 0) (hgc : getL (Str.ofString "close") es = some none)
  (hQ : ∀ h' tk' m', Fr base L h' m' → m' (Str.ofString "due") = some (.ref ld) → m' (Str.ofString "sizes") = some (.ref ls) → m' (Str.ofString "over") = some (.ref lo) → m' (Str.ofString "closes") = some (.ref lcl) → m' (Str.ofString "things") = some (.ref lt) → m' (Str.ofString "calls") = some (.ref lc) → News base L h' ((I, oI) :: (dk, dictOf es n) :: (xk, instObj 46 dk) :: (lc, W.listOf vca.toArray nc) :: (lt, W.listOf vth.toArray nt) :: (lcl, W.listOf vcl.toArray n1) :: (lo, W.listOf vov.toArray n2) :: (ls, W.listOf vsz.toArray n3) :: (ld, W.listOf vdu.toArray n4) ::  rest) → Q .next { s with heap := h', toks := tk' }) :
  wpAny (model PySem.Challenge.rw_dn0266_01.row.prog w) (callerA.deeper (lawEnv L fa cd)) (execs body2 (lawEnv L fa cd)) Q E { s with heap := h, toks := tk } := by
  simp only [NeTo, and_true] at hne1 hne2
  obtain ⟨a0, a1, a2, a3, a4, a5, a6, a7⟩ := hne1
  obtain ⟨b0, b1, b2, b3, b4, b5, b6⟩ := hne2
  w_top off
  revert X'; k_fill; intro X'
  with_unfolding_all show wpAny _ _ (execs (_ :: _) _) _ _ _
  k_steps
  all_goals (first | exact hQ _ _ _ (by assumption) rfl rfl rfl rfl rfl rfl (by assumption) | (exfalso; omega))
theorem turn_ask_yn {w : World} {s : Shared} {mg mb : Str → Option Value} {mean : ExcName → Option Value} {loose : List Str} {base h : Heap} {L fa : Addr} {cd : Value} {tk : Nat} {u : Str → Option Value}
  {lc lt lcl lo ls ld dk xk I k : Nat} {oI : Obj} {vth vcl vov vsz vca vdu : List Value} {ncl nov nsz nca ndu : List Int} {n nc nt n1 n2 n3 n4 ti bt : Nat} {bz : Int} {rest : List (Addr × Obj)} {es : List DictEntry}
  {Q : Flow → Shared → Prop} {E : Value → Shared → Prop} {xo : Nat} 
  (X' : (Mine.hd.heap_39 w.params).In base) (T' : Top topProg loose mean mg mb base) (K' : Below callerA base [] base) (codeHd : CodeHd base 56 52) (hE : PassesOwn (model PySem.Challenge.rw_dn0266_01.row.prog w) (callerA.deeper (lawEnv L fa cd)) (lawEnv L fa cd) E)
  (F' : Fr base L h (fun y => if y = Str.ofString "k" then some (.int k ti) else if y = Str.ofString "due" then some (.ref ld) else if y = Str.ofString "sizes" then some (.ref ls) else if y = Str.ofString "over" then some (.ref lo)
      else if y = Str.ofString "closes" then some (.ref lcl) else if y = Str.ofString "things" then some (.ref lt) else if y = Str.ofString "calls" then some (.ref lc) else u y))
  (N' : News base L h ((I, oI) :: (dk, dictOf es n) :: (xk, instObj 46 dk) :: (lc, W.listOf vca.toArray nc) :: (lt, W.listOf vth.toArray nt) :: (lcl, W.listOf vcl.toArray n1) :: (lo, W.listOf vov.toArray n2) :: (ls, W.listOf vsz.toArray n3) :: (ld, W.listOf vdu.toArray n4) ::  rest))
  (hoff : OwnOff rest [lc, ld]) (hne1 : NeTo lc (ld :: [I, dk, xk, lt, lcl, lo, ls])) (hne2 : NeTo ld [I, dk, xk, lt, lcl, lo, ls])
  (hI1 : IntsAre vcl ncl) (hI2 : IntsAre vov nov) (hI3 : IntsAre vsz nsz) (hI5 : IntsAre vca nca) (hI6 : IntsAre vdu ndu)
  (hlen1 : vth.length = ncl.length) (hlen2 : nov.length = ncl.length) (hlen3 : nsz.length = ncl.length) (hle : ncl.length ≤ 100) (hk : k < ncl.length) (hla : nca.length ≤ k) (hld : ndu.length ≤ k)
  (hthk : vth[Int.toNat (k : Int)]? = some (.ref xk)) (hB : Before ((I, oI) :: (dk, dictOf es n) :: (xk, instObj 46 dk) :: (lc, W.listOf vca.toArray nc) :: (lt, W.listOf vth.toArray nt) :: (lcl, W.listOf vcl.toArray n1) :: (lo, W.listOf vov.toArray n2) :: (ls, W.listOf vsz.toArray n3) :: (ld, W.listOf vdu.toArray n4) ::  rest) vth ncl es k)
  (hbz : getL (Str.ofString "blksize") es = some (some (.int bz bt))) (hsz : bz = nsz.getD (Int.toNat (k : Int)) 0)
  (hov : 0 ≤ nov.getD (Int.toNat (k : Int)) 0) (hov2 : nov.getD (Int.toNat (k : Int)) 0 < ncl.length) (hfl : getL (Str.ofString "filelike") es = some (some (.ref xo))) (htho : vth[(nov.getD (Int.toNat (k : Int)) 0).toNat]? = some (.ref xo))
  (hcl : ncl.getD (Int.toNat (k : Int)) 0 < 0) (hgc : getL (Str.ofString "close") es = some none)
  (hQ : ∀ h' tk' m', Fr base L h' m' → m' (Str.ofString "due") = some (.ref ld) → m' (Str.ofString "sizes") = some (.ref ls) → m' (Str.ofString "over") = some (.ref lo) → m' (Str.ofString "closes") = some (.ref lcl) → m' (Str.ofString "things") = some (.ref lt) → m' (Str.ofString "calls") = some (.ref lc) → News base L h' ((I, oI) :: (dk, dictOf es n) :: (xk, instObj 46 dk) :: (lc, W.listOf vca.toArray nc) :: (lt, W.listOf vth.toArray nt) :: (lcl, W.listOf vcl.toArray n1) :: (lo, W.listOf vov.toArray n2) :: (ls, W.listOf vsz.toArray n3) :: (ld, W.listOf vdu.toArray n4) ::  rest) → Q .next { s with heap := h', toks := tk' }) :
  wpAny (model PySem.Challenge.rw_dn0266_01.row.prog w) (callerA.deeper (lawEnv L fa cd)) (execs body2 (lawEnv L fa cd)) Q E { s with heap := h, toks := tk } := by
  simp only [NeTo, and_true] at hne1 hne2
  obtain ⟨a0, a1, a2, a3, a4, a5, a6, a7⟩ := hne1
  obtain ⟨b0, b1, b2, b3, b4, b5, b6⟩ := hne2
  w_top off
  revert X'; k_fill; intro X'
  with_unfolding_all show wpAny _ _ (execs (_ :: _) _) _ _ _
  k_steps
  all_goals (first | exact hQ _ _ _ (by assumption) rfl rfl rfl rfl rfl rfl (by assumption) | (exfalso; omega))
end Mine
namespace Mine
open PySem PySem.W PySem.Calls PyProof.Rows
set_option maxRecDepth 100000
set_option maxHeartbeats 3000000
local macro_rules | `(tactic| walk_at "none 0") => `(tactic| fail)
local macro_rules | `(tactic| walk_at "none 1") => `(tactic| fail)
local macro_rules | `(tactic| walk_at "none 2") => `(tactic| fail)
local macro_rules | `(tactic| walk_at "none 3") => `(tactic| fail)
local macro_rules | `(tactic| walk_at "none 4") => `(tactic| fail)
local macro_rules | `(tactic| walk_at "call builtin:hasattr") => `(tactic| (k_here; (with_reducible show wpAny _ _ (call (Value.builtin _) [Value.none, _]) _ _ _); k_dflt (refine' Mine.hasattr_none_K ?k0 ?k1 ?k2 ?_; (case k0 => exact rfl); (case k1 => k_asm); (case k2 => k_asm); k_whole); intro h' tk' F' N'; (try k_sweep)))
local macro_rules | `(tactic| walk_at "call builtin:sum") => `(tactic| (k_here; (with_reducible show wpAny _ _ (call (Value.builtin "sum") [Value.ref _]) _ _ _); k_dflt (refine' Mine.sum_pick ?k0 ?k1 ?k2 ?k3 ?k4 ?_; (case k0 => with_unfolding_all rfl); (case k1 => k_asm); (case k2 => k_asm); (case k3 => k_mem); (case k4 => assumption); k_whole); intro h' tk' t' F' N'))
local macro_rules | `(tactic| walk_at "call builtin:hasattr") => `(tactic| (k_here; (with_reducible show wpAny _ _ (call (Value.builtin _) [Value.ref _, _]) _ _ _); k_dflt (first
  | (refine' has46_yes ?k1 ?k2 ?k3 ?k4 ?k5 ?_; (case k1 => k_asm); (case k2 => k_asm); (case k3 => k_inst); (case k4 => k_get); (case k5 => k_handed); k_whole)
  | (refine' has46_no ?k0 ?k1 ?k2 ?k3 ?k4 ?k5 ?_; (case k0 => exact rfl); (case k1 => k_asm); (case k2 => k_asm); (case k3 => k_asm); (case k4 => k_inst); (case k5 => k_get); k_whole; intro h' tk' F' N'; (try k_sweep)))))
local macro_rules | `(tactic| k_ne) => `(tactic| (refine neN ?_; (try dsimp only); first | exact NeF.l (by with_reducible assumption) | exact NeF.r (by with_reducible assumption) | omega))
local macro_rules | `(tactic| walk_at "call builtin:len") => `(tactic| (k_here; (with_reducible show wpAny _ _ (call (Value.builtin "len") [Value.ref _]) _ _ _); (with_unfolding_all refine' len_eq ?k1 ?k2 ?k3 ?_; (case k1 => is_list); (case k2 => with_reducible assumption); (case k3 => omega); k_whole)))
local macro_rules | `(tactic| walk_at "subscriptTail") => `(tactic| (k_here; (with_reducible show wpAny _ _ (subscriptTail _ _ (Value.ref _) (Value.int _ _)) _ _ _); (with_unfolding_all refine' item_litK ?k1 ?k2 ?k3 ?k4 ?_ ?k6; (case k1 => is_list); (case k4 => with_reducible assumption); (case k2 => l_idx); (case k3 => l_idx); (case k6 => with_unfolding_all rfl); k_whole)))
local macro_rules | `(tactic| walk_at "ite") => `(tactic| (first | ((refine ite_neg ?h ?_); (case h => (simp only [beq_iff_eq, bne_iff_ne, ne_eq, decide_eq_true_eq, Bool.false_bne, Bool.true_bne, Bool.not_eq_true', decide_eq_false_iff_not]; omega))) | ((refine ite_pos ?h ?_); (case h => (simp only [beq_iff_eq, bne_iff_ne, ne_eq, decide_eq_true_eq, Bool.false_bne, Bool.true_bne, Bool.not_eq_true', decide_eq_false_iff_not]; omega)))))
local macro_rules | `(tactic| k_get) => `(tactic| with_reducible assumption)
local macro_rules | `(tactic| walk_at "setAttr ref") => `(tactic| (k_here; k_dflt (refine' set_dict ?k1 ?k2 ?k3 ?k4 ?k5 ?k6 ?k7 ?k8 ?k9 ?k10 ?k11 ?k12 ?k13 ?_; (case k1 => k_asm); (case k2 => k_asm); (case k3 => k_asm); (case k4 => k_inst); (case k5 => exact rfl); (case k6 => k_is); (case k7 => k_is); (case k8 => k_is); (case k9 => k_is); (case k10 => with_reducible assumption); (case k11 => exact rfl); (case k12 => k_upd); (case k13 => skip); k_whole; intro h' F' N'; (try k_sweep))))
local macro_rules | `(tactic| k_lt $h) => `(tactic| (have kept := $h; replace $h := allLt_of $h; simp only [AllLt, and_true] at $h:ident))
local macro_rules | `(tactic| passes_own) => `(tactic| assumption)
local macro_rules | `(tactic| walk_at "compareOp IsNot ref ref") => `(tactic| (k_here; (with_reducible show wpAny _ _ (compareOp CmpOp.IsNot (Value.ref _) (Value.ref _)) _ _ _); k_dflt (refine wpAny_isNot_ref_self ?_; k_whole)))
local macro_rules | `(tactic| walk_at "exec For Name Call cons nil") => `(tactic| (k_here; (rename Fr _ _ _ _ => lF'); (with_unfolding_all refine' For_invVF lF' ?k1 ?k2 ?_; (case k1 => exact rfl); (case k2 => exact rfl); k_whole)))
local macro_rules | `(tactic| walk_at "pyIter ref") => `(tactic| ((with_reducible show wpAny _ _ (pyIter (Value.ref _)) (fun it s₂ => LoopAtV _ _ _ _ _ _ _ _ _ it s₂) _ _); with_unfolding_all refine' inner_loop (dk := _) (xk := _) (vth := _) (vcl := _) (ncl := _) ?k1 ?k2 ?k3 ?k4 ?k5 ?k6 ?k7 ?k8 ?k9 ?k10 ?k11 ?k12 ?k13 ?k14 ?k15 ?k16 ?k17 ?k18 ?k19 ?_; (case k1 => k_asm); (case k2 => k_asm); (case k3 => k_asm); (case k4 => assumption); (case k5 => k_asm); (case k6 => k_asm); (case k7 => exact rfl); (case k8 => exact rfl); (case k9 => exact rfl); (case k18 => with_reducible assumption); (case k11 => k_mem); (case k10 => k_mem); (case k12 => k_mem); (case k13 => k_mem); (case k14 => with_reducible assumption); (case k15 => with_reducible assumption); (case k16 => with_reducible assumption); (case k17 => with_reducible assumption); (case k19 => with_reducible assumption); k_whole; intro h' tk' u' F' N'; (try k_sweep)))
theorem turn_ask_ny {w : World} {s : Shared} {mg mb : Str → Option Value} {mean : ExcName → Option Value} {loose : List Str} {base h : Heap} {L fa : Addr} {cd : Value} {tk : Nat} {u : Str → Option Value}
  {lc lt lcl lo ls ld dk xk I k : Nat} {oI : Obj} {vth vcl vov vsz vca vdu : List Value} {ncl nov nsz nca ndu : List Int} {n nc nt n1 n2 n3 n4 ti bt : Nat} {bz : Int} {rest : List (Addr × Obj)} {es : List DictEntry}
  {Q : Flow → Shared → Prop} {E : Value → Shared → Prop}  {f cN cC c' tN t' : Nat} {oN oC oc' : Obj} {doc ctv : Value} {vs' : Array Value}
  (X' : (Mine.hd.heap_39 w.params).In base) (T' : Top topProg loose mean mg mb base) (K' : Below callerA base [] base) (codeHd : CodeHd base 56 52) (hE : PassesOwn (model PySem.Challenge.rw_dn0266_01.row.prog w) (callerA.deeper (lawEnv L fa cd)) (lawEnv L fa cd) E)
  (F' : Fr base L h (fun y => if y = Str.ofString "k" then some (.int k ti) else if y = Str.ofString "due" then some (.ref ld) else if y = Str.ofString "sizes" then some (.ref ls) else if y = Str.ofString "over" then some (.ref lo)
      else if y = Str.ofString "closes" then some (.ref lcl) else if y = Str.ofString "things" then some (.ref lt) else if y = Str.ofString "calls" then some (.ref lc) else u y))
  (N' : News base L h ((I, oI) :: (dk, dictOf es n) :: (xk, instObj 46 dk) :: (lc, W.listOf vca.toArray nc) :: (lt, W.listOf vth.toArray nt) :: (lcl, W.listOf vcl.toArray n1) :: (lo, W.listOf vov.toArray n2) :: (ls, W.listOf vsz.toArray n3) :: (ld, W.listOf vdu.toArray n4) :: (f, cloObj mg cN cC doc c' ctv) :: (cN, oN) :: (cC, oC) :: (c', oc') :: rest))
  (hoff : OwnOff rest [lc, ld]) (hne1 : NeTo lc (ld :: [I, dk, xk, lt, lcl, lo, ls, f, cN, cC, c'])) (hne2 : NeTo ld [I, dk, xk, lt, lcl, lo, ls, f, cN, cC, c'])
  (hI1 : IntsAre vcl ncl) (hI2 : IntsAre vov nov) (hI3 : IntsAre vsz nsz) (hI5 : IntsAre vca nca) (hI6 : IntsAre vdu ndu)
  (hlen1 : vth.length = ncl.length) (hlen2 : nov.length = ncl.length) (hlen3 : nsz.length = ncl.length) (hle : ncl.length ≤ 100) (hk : k < ncl.length) (hla : nca.length ≤ k) (hld : ndu.length ≤ k)
  (hthk : vth[Int.toNat (k : Int)]? = some (.ref xk)) (hB : Before ((I, oI) :: (dk, dictOf es n) :: (xk, instObj 46 dk) :: (lc, W.listOf vca.toArray nc) :: (lt, W.listOf vth.toArray nt) :: (lcl, W.listOf vcl.toArray n1) :: (lo, W.listOf vov.toArray n2) :: (ls, W.listOf vsz.toArray n3) :: (ld, W.listOf vdu.toArray n4) :: (f, cloObj mg cN cC doc c' ctv) :: (cN, oN) :: (cC, oC) :: (c', oc') :: rest) vth ncl es k)
  (hbz : getL (Str.ofString "blksize") es = some (some (.int bz bt))) (hsz : bz = nsz.getD (Int.toNat (k : Int)) 0)
  (hov : nov.getD (Int.toNat (k : Int)) 0 < 0) (hfl : getL (Str.ofString "filelike") es = some (some .none))
  (hcl : 0 ≤ ncl.getD (Int.toNat (k : Int)) 0) (hgc : getL (Str.ofString "close") es = some (some (.ref f))) (d1 : oc'.data = .fields vs') (d2 : vs'[1]? = some (.str cloQual t')) (d3 : oN.data = .cell (some (.int (ncl.getD (Int.toNat (k : Int)) 0) tN))) (d4 : oC.data = .cell (some (.ref lc)))
  (hQ : ∀ h' tk' m' ta td, Fr base L h' m' → m' (Str.ofString "due") = some (.ref ld) → m' (Str.ofString "sizes") = some (.ref ls) → m' (Str.ofString "over") = some (.ref lo) → m' (Str.ofString "closes") = some (.ref lcl) → m' (Str.ofString "things") = some (.ref lt) → m' (Str.ofString "calls") = some (.ref lc) → News base L h' ((I, oI) :: (dk, dictOf es n) :: (xk, instObj 46 dk) :: (lc, W.listOf (vca.toArray.push (.int (ncl.getD (Int.toNat (k : Int)) 0) ta)) (nc + 1)) :: (lt, W.listOf vth.toArray nt) :: (lcl, W.listOf vcl.toArray n1) :: (lo, W.listOf vov.toArray n2) :: (ls, W.listOf vsz.toArray n3) :: (ld, W.listOf (vdu.toArray.push (.int (ncl.getD (Int.toNat (k : Int)) 0) td)) (n4 + 1)) :: (f, cloObj mg cN cC doc c' ctv) :: (cN, oN) :: (cC, oC) :: (c', oc') :: rest) → Q .next { s with heap := h', toks := tk' }) :
  wpAny (model PySem.Challenge.rw_dn0266_01.row.prog w) (callerA.deeper (lawEnv L fa cd)) (execs body2 (lawEnv L fa cd)) Q E { s with heap := h, toks := tk } := by
  simp only [NeTo, and_true] at hne1 hne2
  obtain ⟨a0, a1, a2, a3, a4, a5, a6, a7, a8, a9, a10, a11⟩ := hne1
  obtain ⟨b0, b1, b2, b3, b4, b5, b6, b7, b8, b9, b10⟩ := hne2
  w_top off
  revert X'; k_fill; intro X'
  with_unfolding_all show wpAny _ _ (execs (_ :: _) _) _ _ _
  k_steps
  all_goals (first | exact hQ _ _ _ _ _ (by assumption) rfl rfl rfl rfl rfl rfl (by assumption) | (exfalso; omega))
theorem turn_ask_yy {w : World} {s : Shared} {mg mb : Str → Option Value} {mean : ExcName → Option Value} {loose : List Str} {base h : Heap} {L fa : Addr} {cd : Value} {tk : Nat} {u : Str → Option Value}
  {lc lt lcl lo ls ld dk xk I k : Nat} {oI : Obj} {vth vcl vov vsz vca vdu : List Value} {ncl nov nsz nca ndu : List Int} {n nc nt n1 n2 n3 n4 ti bt : Nat} {bz : Int} {rest : List (Addr × Obj)} {es : List DictEntry}
  {Q : Flow → Shared → Prop} {E : Value → Shared → Prop} {xo : Nat} {f cN cC c' tN t' : Nat} {oN oC oc' : Obj} {doc ctv : Value} {vs' : Array Value}
  (X' : (Mine.hd.heap_39 w.params).In base) (T' : Top topProg loose mean mg mb base) (K' : Below callerA base [] base) (codeHd : CodeHd base 56 52) (hE : PassesOwn (model PySem.Challenge.rw_dn0266_01.row.prog w) (callerA.deeper (lawEnv L fa cd)) (lawEnv L fa cd) E)
  (F' : Fr base L h (fun y => if y = Str.ofString "k" then some (.int k ti) else if y = Str.ofString "due" then some (.ref ld) else if y = Str.ofString "sizes" then some (.ref ls) else if y = Str.ofString "over" then some (.ref lo)
      else if y = Str.ofString "closes" then some (.ref lcl) else if y = Str.ofString "things" then some (.ref lt) else if y = Str.ofString "calls" then some (.ref lc) else u y))
  (N' : News base L h ((I, oI) :: (dk, dictOf es n) :: (xk, instObj 46 dk) :: (lc, W.listOf vca.toArray nc) :: (lt, W.listOf vth.toArray nt) :: (lcl, W.listOf vcl.toArray n1) :: (lo, W.listOf vov.toArray n2) :: (ls, W.listOf vsz.toArray n3) :: (ld, W.listOf vdu.toArray n4) :: (f, cloObj mg cN cC doc c' ctv) :: (cN, oN) :: (cC, oC) :: (c', oc') :: rest))
  (hoff : OwnOff rest [lc, ld]) (hne1 : NeTo lc (ld :: [I, dk, xk, lt, lcl, lo, ls, f, cN, cC, c'])) (hne2 : NeTo ld [I, dk, xk, lt, lcl, lo, ls, f, cN, cC, c'])
  (hI1 : IntsAre vcl ncl) (hI2 : IntsAre vov nov) (hI3 : IntsAre vsz nsz) (hI5 : IntsAre vca nca) (hI6 : IntsAre vdu ndu)
  (hlen1 : vth.length = ncl.length) (hlen2 : nov.length = ncl.length) (hlen3 : nsz.length = ncl.length) (hle : ncl.length ≤ 100) (hk : k < ncl.length) (hla : nca.length ≤ k) (hld : ndu.length ≤ k)
  (hthk : vth[Int.toNat (k : Int)]? = some (.ref xk)) (hB : Before ((I, oI) :: (dk, dictOf es n) :: (xk, instObj 46 dk) :: (lc, W.listOf vca.toArray nc) :: (lt, W.listOf vth.toArray nt) :: (lcl, W.listOf vcl.toArray n1) :: (lo, W.listOf vov.toArray n2) :: (ls, W.listOf vsz.toArray n3) :: (ld, W.listOf vdu.toArray n4) :: (f, cloObj mg cN cC doc c' ctv) :: (cN, oN) :: (cC, oC) :: (c', oc') :: rest) vth ncl es k)
  (hbz : getL (Str.ofString "blksize") es = some (some (.int bz bt))) (hsz : bz = nsz.getD (Int.toNat (k : Int)) 0)
  (hov : 0 ≤ nov.getD (Int.toNat (k : Int)) 0) (hov2 : nov.getD (Int.toNat (k : Int)) 0 < ncl.length) (hfl : getL (Str.ofString "filelike") es = some (some (.ref xo))) (htho : vth[(nov.getD (Int.toNat (k : Int)) 0).toNat]? = some (.ref xo))
  (hcl : 0 ≤ ncl.getD (Int.toNat (k : Int)) 0) (hgc : getL (Str.ofString "close") es = some (some (.ref f))) (d1 : oc'.data = .fields vs') (d2 : vs'[1]? = some (.str cloQual t')) (d3 : oN.data = .cell (some (.int (ncl.getD (Int.toNat (k : Int)) 0) tN))) (d4 : oC.data = .cell (some (.ref lc)))
  (hQ : ∀ h' tk' m' ta td, Fr base L h' m' → m' (Str.ofString "due") = some (.ref ld) → m' (Str.ofString "sizes") = some (.ref ls) → m' (Str.ofString "over") = some (.ref lo) → m' (Str.ofString "closes") = some (.ref lcl) → m' (Str.ofString "things") = some (.ref lt) → m' (Str.ofString "calls") = some (.ref lc) → News base L h' ((I, oI) :: (dk, dictOf es n) :: (xk, instObj 46 dk) :: (lc, W.listOf (vca.toArray.push (.int (ncl.getD (Int.toNat (k : Int)) 0) ta)) (nc + 1)) :: (lt, W.listOf vth.toArray nt) :: (lcl, W.listOf vcl.toArray n1) :: (lo, W.listOf vov.toArray n2) :: (ls, W.listOf vsz.toArray n3) :: (ld, W.listOf (vdu.toArray.push (.int (ncl.getD (Int.toNat (k : Int)) 0) td)) (n4 + 1)) :: (f, cloObj mg cN cC doc c' ctv) :: (cN, oN) :: (cC, oC) :: (c', oc') :: rest) → Q .next { s with heap := h', toks := tk' }) :
  wpAny (model PySem.Challenge.rw_dn0266_01.row.prog w) (callerA.deeper (lawEnv L fa cd)) (execs body2 (lawEnv L fa cd)) Q E { s with heap := h, toks := tk } := by
  simp only [NeTo, and_true] at hne1 hne2
  obtain ⟨a0, a1, a2, a3, a4, a5, a6, a7, a8, a9, a10, a11⟩ := hne1
  obtain ⟨b0, b1, b2, b3, b4, b5, b6, b7, b8, b9, b10⟩ := hne2
  w_top off
  revert X'; k_fill; intro X'
  with_unfolding_all show wpAny _ _ (execs (_ :: _) _) _ _ _
  k_steps
  all_goals (first | exact hQ _ _ _ _ _ (by assumption) rfl rfl rfl rfl rfl rfl (by assumption) | (exfalso; omega))
end Mine
namespace Mine
open PySem PySem.W PySem.Calls PyProof.Rows
set_option maxRecDepth 100000
set_option maxHeartbeats 4000000
theorem Inv_getD {l : List Int} {k : Nat} {c : Int} (h : l[k]? = some c) : l.getD k 0 = c := by simp [List.getD, h]
def J1 (w : World) (mg : Str → Option Value) (a : Lay) (ws : List Value) (i : Nat) (m : Str → Option Value) (nx : List (Addr × Obj)) : Prop :=
  Names a m ∧ ∃ ths cls ovs szs fn c vcl vov vsz nc nt n1 n2 n3, Inv w mg a.lc i nx ths cls ovs szs fn c ∧ IntsAre vcl cls ∧ IntsAre vov ovs ∧ IntsAre vsz szs ∧
    (∀ p ∈ [(a.lc, W.listOf #[] nc), (a.lt, W.listOf (ths.map fun t => Value.ref t.x).toArray nt), (a.lcl, W.listOf vcl.toArray n1), (a.lo, W.listOf vov.toArray n2), (a.ls, W.listOf vsz.toArray n3), (a.ln, W.listOf ws.toArray 0)], p ∈ nx)

theorem led_nodup {h₀ h : Heap} {L : Addr} {nx : List (Addr × Obj)} (N : News h₀ L h nx) {a : Lay} {dk xk : Nat} {es : List DictEntry} {n : Nat} {ath acl aov asz aws : Array Value} {nc nt n1 n2 n3 : Nat}
    (hsub : ∀ p ∈ led a dk xk es n ath acl aov asz aws nc nt n1 n2 n3, p ∈ nx) (ha : [a.lc, a.lt, a.lcl, a.lo, a.ls, a.ln].Nodup) : ((led a dk xk es n ath acl aov asz aws nc nt n1 n2 n3).map (·.1)).Nodup := by
  have ne : ∀ (p q : Addr × Obj) (i j : Nat), p ∈ nx → q ∈ nx → okind p.2 = i → okind q.2 = j → i ≠ j → p.1 ≠ q.1 := fun p q i j hp hq h1 h2 hk e => hk (by rw [← h1, ← h2, news_fun N hp hq e])
  have hm := hsub
  simp only [led, List.mem_cons, List.not_mem_nil, or_false, forall_eq_or_imp, forall_eq] at hm
  obtain ⟨m1, m2, m3, m4, m5, m6, m7, m8⟩ := hm
  show [dk, xk, a.lc, a.lt, a.lcl, a.lo, a.ls, a.ln].Nodup
  refine List.nodup_cons.mpr ⟨?_, List.nodup_cons.mpr ⟨?_, ha⟩⟩
  · simp only [List.mem_cons, List.not_mem_nil, or_false, not_or]
    exact ⟨ne _ _ 2 3 m1 m2 rfl rfl (by decide), ne _ _ 2 1 m1 m3 rfl rfl (by decide), ne _ _ 2 1 m1 m4 rfl rfl (by decide), ne _ _ 2 1 m1 m5 rfl rfl (by decide), ne _ _ 2 1 m1 m6 rfl rfl (by decide), ne _ _ 2 1 m1 m7 rfl rfl (by decide), ne _ _ 2 1 m1 m8 rfl rfl (by decide)⟩
  · simp only [List.mem_cons, List.not_mem_nil, or_false, not_or]
    exact ⟨ne _ _ 3 1 m2 m3 rfl rfl (by decide), ne _ _ 3 1 m2 m4 rfl rfl (by decide), ne _ _ 3 1 m2 m5 rfl rfl (by decide), ne _ _ 3 1 m2 m6 rfl rfl (by decide), ne _ _ 3 1 m2 m7 rfl rfl (by decide), ne _ _ 3 1 m2 m8 rfl rfl (by decide)⟩

theorem map_ref_app {ths : List Th} {t : Th} : (ths.map fun t => Value.ref t.x).toArray.push (Value.ref t.x) = ((ths ++ [t]).map fun t => Value.ref t.x).toArray := by simp
theorem ints_app {vs : List Value} {ns : List Int} {c : Int} {t : Tok} (h : IntsAre vs ns) : IntsAre (vs ++ [.int c t]) (ns ++ [c]) := IntsAre.append h (.cons c t .nil)

theorem addK_of {w : World} {mg : Str → Option Value} {base : Heap} {L : Addr} {s : Shared} {h h0 : Heap} {tk : Nat} {Q : Flow → Shared → Prop} {a : Lay} {I : Nat} {oI : Obj} {nx rest : List (Addr × Obj)} {dk xk : Nat} {es : List DictEntry} {n : Nat}
    {ws vcl vov vsz : List Value} {nc nt n1 n2 n3 i : Nat} {ths : List Th} {cls ovs szs : List Int} {fn : Int → Nat} {c : Option Nat} {fl : Value} {bz : Int} {cl : Option Nat} {cv ov : Int}
    (N0 : News base L h0 ((I, oI) :: nx))
    (hInv : Inv w mg a.lc i nx ths cls ovs szs fn c) (hv1 : IntsAre vcl cls) (hv2 : IntsAre vov ovs) (hv3 : IntsAre vsz szs)
    (hsub : ∀ p ∈ led a dk xk es n (ths.map fun t => Value.ref t.x).toArray vcl.toArray vov.toArray vsz.toArray ws.toArray nc nt n1 n2 n3, p ∈ nx)
    (hoff : OwnOff rest (I :: (led a dk xk es n (ths.map fun t => Value.ref t.x).toArray vcl.toArray vov.toArray vsz.toArray ws.toArray nc nt n1 n2 n3).map (·.1)))
    (hI : ∀ p ∈ nx, p.1 ≠ I) (hr1 : ∀ p ∈ rest, p ∈ nx)
    (hr2 : ∀ p ∈ nx, p ∈ led a dk xk es n (ths.map fun t => Value.ref t.x).toArray vcl.toArray vov.toArray vsz.toArray ws.toArray nc nt n1 n2 n3 ∨ p ∈ rest)
    (hc : (cv < 0 ∧ cl = none) ∨ (0 ≤ cv ∧ cv < i ∧ cl = some (fn cv) ∧ CloIn mg a.lc nx c (fn cv) cv))
    (ho : (ov < 0 ∧ fl = .none) ∨ (0 ≤ ov ∧ ∃ t0 : Th, ths[ov.toNat]? = some t0 ∧ fl = .ref t0.x)) :
    AddK w base L s (LpPost base L (J1 w mg a ws (i + 1)) I oI { s with heap := h, toks := tk } Q) a I oI rest dk xk es n (ths.map fun t => Value.ref t.x) vcl vov vsz ws nc nt n1 n2 n3 fl bz cl cv ov := by
  intro h' tk' m' news' x' d' t1 t2 t3 bt n' tc to ts F' hm N' hall hrest hId hdx hdk hrl
  have hm' := hsub
  simp only [led, List.mem_cons, List.not_mem_nil, or_false, forall_eq_or_imp, forall_eq] at hm'
  obtain ⟨q1, q2, q3, q4, q5, q6, q7, q8⟩ := hm'
  simp only [led, List.mem_cons, List.not_mem_nil, or_false, forall_eq_or_imp, forall_eq] at hall
  obtain ⟨p1, p2, p0, p3, p4, p5, p6, p7, p8, p9, p10⟩ := hall
  refine ⟨h', tk', m', news', (x', instObj 46 d') :: (d', dictOf (dictTh w fl bz cl t1 t2 t3 bt) n') :: led a dk xk es n ((ths.map fun t => Value.ref t.x).toArray.push (Value.ref x')) (vcl.toArray.push (Value.int cv tc)) (vov.toArray.push (Value.int ov to)) (vsz.toArray.push (Value.int bz ts)) ws.toArray nc (nt + 1) (n1 + 1) (n2 + 1) (n3 + 1) ++ rest, rfl, F', N', ?_, p0, ?_, hm, ?_⟩
  · intro p hp
    rcases List.mem_append.mp hp with hp | hp
    · simp only [led, List.mem_cons, List.not_mem_nil, or_false] at hp
      rcases hp with rfl | rfl | rfl | rfl | rfl | rfl | rfl | rfl | rfl | rfl <;> assumption
    · exact hrest p hp
  · intro p hp
    rcases List.mem_append.mp hp with hp | hp
    · simp only [led, List.mem_cons, List.not_mem_nil, or_false] at hp
      rcases hp with rfl | rfl | rfl | rfl | rfl | rfl | rfl | rfl | rfl | rfl
      · exact Nat.ne_of_gt (Nat.lt_trans hId hdx)
      · exact Nat.ne_of_gt hId
      · exact hI _ q1
      · exact hI _ q2
      · exact hI _ q3
      · exact (show a.lt ≠ I from hI (a.lt, _) q4)
      · exact (show a.lcl ≠ I from hI (a.lcl, _) q5)
      · exact (show a.lo ≠ I from hI (a.lo, _) q6)
      · exact (show a.ls ≠ I from hI (a.ls, _) q7)
      · exact hI _ q8
    · exact hI p (hr1 p hp)
  · have e1 : (ths.map fun t => Value.ref t.x).toArray.push (Value.ref x') = ((ths ++ [(⟨x', d', fl, bz, cl⟩ : Th)]).map fun t => Value.ref t.x).toArray := map_ref_app (t := ⟨x', d', fl, bz, cl⟩)
    refine ⟨ths ++ [⟨x', d', fl, bz, cl⟩], cls ++ [cv], ovs ++ [ov], szs ++ [bz], fn, c, vcl ++ [.int cv tc], vov ++ [.int ov to], vsz ++ [.int bz ts], nc, nt + 1, n1 + 1, n2 + 1, n3 + 1, ?_, ints_app hv1, ints_app hv2, ints_app hv3, ?_⟩
    · refine hInv.add (t' := ⟨x', d', fl, bz, cl⟩) ?_ ⟨.head _, t1, t2, t3, bt, n', .tail _ (.head _)⟩ ?_ hc ho
      · intro p hp hk
        rcases hr2 p hp with hq | hq
        · simp only [led, List.mem_cons, List.not_mem_nil, or_false] at hq
          refine List.mem_append_left _ (.tail _ (.tail _ ?_))
          simp only [led, List.mem_cons, List.not_mem_nil, or_false]
          rcases hq with rfl | rfl | rfl | rfl | rfl | rfl | rfl | rfl
          · k_mem
          · k_mem
          all_goals exact absurd rfl hk
        · exact List.mem_append_right _ hq
      · intro p hp hk
        show p.1 ≠ d'
        rcases hr2 p hp with hq | hq
        · simp only [led, List.mem_cons, List.not_mem_nil, or_false] at hq
          rcases hq with rfl | rfl | rfl | rfl | rfl | rfl | rfl | rfl
          · exact Nat.ne_of_lt hdk
          · exact absurd (show (3 : Nat) = 2 from hk) (by decide)
          all_goals exact absurd (show (1 : Nat) = 2 from hk) (by decide)
        · exact Nat.ne_of_lt (hrl p hq)
    · intro p hp
      simp only [List.mem_cons, List.not_mem_nil, or_false] at hp
      refine List.mem_append_left _ (.tail _ (.tail _ ?_))
      simp only [led, e1, List.push_toArray, List.mem_cons, List.not_mem_nil, or_false]
      rcases hp with rfl | rfl | rfl | rfl | rfl | rfl
      all_goals k_mem
end Mine
namespace Mine
open PySem PySem.W PySem.Calls PyProof.Rows
set_option maxRecDepth 100000
set_option maxHeartbeats 4000000
theorem map_ref_set {ths : List Th} {t : Th} {k : Nat} {cl' : Option Nat} (h : ths[k]? = some t) : ((ths.set k { t with cl := cl' }).map fun t => Value.ref t.x) = (ths.map fun t => Value.ref t.x) := by
  apply List.ext_getElem?
  intro j
  rw [List.getElem?_map, List.getElem?_map]
  by_cases e : j = k
  · subst e; rw [get_set_eq h, h]; rfl
  · rw [List.getElem?_set_ne (Ne.symm e)]

section
variable {w : World} {mg : Str → Option Value} {base : Heap} {L : Addr} {s : Shared} {h h0 : Heap} {tk : Nat} {Q : Flow → Shared → Prop} {a : Lay} {I : Nat} {oI : Obj} {nx rest : List (Addr × Obj)}
    {n : Nat} {ws vcl vov vsz : List Value} {nc nt n1 n2 n3 i k : Nat} {ths : List Th} {cls ovs szs : List Int} {fn : Int → Nat} {c : Option Nat} {t : Th} {t1 t2 t3 bt : Tok}

theorem delK_of {fk : Nat} (hfun : ∀ p q, p ∈ nx → q ∈ nx → p.1 = q.1 → p = q)
    (hInv : Inv w mg a.lc i nx ths cls ovs szs fn c) (hv1 : IntsAre vcl cls) (hv2 : IntsAre vov ovs) (hv3 : IntsAre vsz szs) (hkt : ths[k]? = some t)
    (hsub : ∀ p ∈ led a t.d t.x [entF w t1 t.fl, entB w t2 (.int t.bz bt), entC w t3 (.ref fk)] n (ths.map fun t => Value.ref t.x).toArray vcl.toArray vov.toArray vsz.toArray ws.toArray nc nt n1 n2 n3, p ∈ nx)
    (hI : ∀ p ∈ nx, p.1 ≠ I) (hr1 : ∀ p ∈ rest, p ∈ nx)
    (hr2 : ∀ p ∈ nx, p ∈ led a t.d t.x [entF w t1 t.fl, entB w t2 (.int t.bz bt), entC w t3 (.ref fk)] n (ths.map fun t => Value.ref t.x).toArray vcl.toArray vov.toArray vsz.toArray ws.toArray nc nt n1 n2 n3 ∨ p ∈ rest) :
    DelK base L s (LpPost base L (J1 w mg a ws (i + 1)) I oI { s with heap := h, toks := tk } Q) a I oI rest t.d t.x [entF w t1 t.fl, entB w t2 (.int t.bz bt)] (n + 1) (ths.map fun t => Value.ref t.x) vcl vov vsz ws nc nt n1 n2 n3 k := by
  intro h' tk' m' news' tc F' hm N' hall hrest
  have hm' := hsub
  simp only [led, List.mem_cons, List.not_mem_nil, or_false, forall_eq_or_imp, forall_eq] at hm'
  obtain ⟨q1, q2, q3, q4, q5, q6, q7, q8⟩ := hm'
  simp only [led, List.mem_cons, List.not_mem_nil, or_false, forall_eq_or_imp, forall_eq] at hall
  obtain ⟨p0, p3, p4, p5, p6, p7, p8, p9, p10⟩ := hall
  refine ⟨h', tk', m', news', led a t.d t.x [entF w t1 t.fl, entB w t2 (.int t.bz bt)] (n + 1) (ths.map fun t => Value.ref t.x).toArray (vcl.set k (.int (-1) tc)).toArray vov.toArray vsz.toArray ws.toArray nc nt n1 n2 n3 ++ rest, rfl, F', N', ?_, p0, ?_, hm, ?_⟩
  · intro p hp
    rcases List.mem_append.mp hp with hp | hp
    · simp only [led, List.mem_cons, List.not_mem_nil, or_false] at hp
      rcases hp with rfl | rfl | rfl | rfl | rfl | rfl | rfl | rfl <;> assumption
    · exact hrest p hp
  · intro p hp
    rcases List.mem_append.mp hp with hp | hp
    · simp only [led, List.mem_cons, List.not_mem_nil, or_false] at hp
      rcases hp with rfl | rfl | rfl | rfl | rfl | rfl | rfl | rfl
      · exact (show t.d ≠ I from hI (t.d, _) q1)
      · exact hI _ q2
      · exact hI _ q3
      · exact hI _ q4
      · exact (show a.lcl ≠ I from hI (a.lcl, _) q5)
      · exact hI _ q6
      · exact hI _ q7
      · exact hI _ q8
    · exact hI p (hr1 p hp)
  · have keep : ∀ p ∈ nx, okind p.2 ≠ 1 → p.1 ≠ t.d → p ∈ led a t.d t.x [entF w t1 t.fl, entB w t2 (.int t.bz bt)] (n + 1) (ths.map fun t => Value.ref t.x).toArray (vcl.set k (.int (-1) tc)).toArray vov.toArray vsz.toArray ws.toArray nc nt n1 n2 n3 ++ rest := by
      intro p hp hk hd
      rcases hr2 p hp with hq | hq
      · simp only [led, List.mem_cons, List.not_mem_nil, or_false] at hq
        refine List.mem_append_left _ ?_
        rcases hq with rfl | rfl | rfl | rfl | rfl | rfl | rfl | rfl
        · exact absurd rfl hd
        · simp only [led]; k_mem
        all_goals exact absurd rfl hk
      · exact List.mem_append_right _ hq
    refine ⟨ths.set k { t with cl := none }, cls.set k (-1), ovs, szs, fn, c, vcl.set k (.int (-1) tc), vov, vsz, nc, nt, n1, n2, n3, ?_, ints_set hv1 k, hv2, hv3, ?_⟩
    · refine hInv.turn2 hfun hkt (fun p hp h1 _ h3 => keep p hp h1 h3) (hInv.tab.keep fun p hp hk => keep p hp (by rw [hk]; decide) (fun e => by rw [hfun p _ hp q1 e] at hk; cases hk)) (.inl rfl) ⟨?_, t1, t2, 0, bt, n + 1, ?_⟩ (fun _ _ => rfl) (.inl ⟨by decide, rfl⟩)
      · exact List.mem_append_left _ (by simp only [led]; k_mem)
      · exact List.mem_append_left _ (by simp only [led]; exact .head _)
    · intro p hp
      rw [map_ref_set hkt] at hp
      simp only [List.mem_cons, List.not_mem_nil, or_false] at hp
      refine List.mem_append_left _ ?_
      simp only [led]
      rcases hp with rfl | rfl | rfl | rfl | rfl | rfl
      all_goals k_mem

theorem shutK_of {tabs : List (Addr × Obj)} (hfun : ∀ p q, p ∈ nx → q ∈ nx → p.1 = q.1 → p = q)
    (hInv : Inv w mg a.lc i nx ths cls ovs szs fn c) (hv1 : IntsAre vcl cls) (hv2 : IntsAre vov ovs) (hv3 : IntsAre vsz szs) (hkt : ths[k]? = some t)
    (hsub : ∀ p ∈ led a t.d t.x (dictTh w t.fl t.bz t.cl t1 t2 t3 bt) n (ths.map fun t => Value.ref t.x).toArray vcl.toArray vov.toArray vsz.toArray ws.toArray nc nt n1 n2 n3, p ∈ nx)
    (hI : ∀ p ∈ nx, p.1 ≠ I) (hr1 : ∀ p ∈ rest, p ∈ nx) (h52 : 52 ≠ I) (htabs : ∀ p ∈ tabs, okind p.2 = 4)
    (hr2 : ∀ p ∈ nx, p ∈ led a t.d t.x (dictTh w t.fl t.bz t.cl t1 t2 t3 bt) n (ths.map fun t => Value.ref t.x).toArray vcl.toArray vov.toArray vsz.toArray ws.toArray nc nt n1 n2 n3 ++ tabs ∨ p ∈ rest) :
    ShutK2 w mg base L s (LpPost base L (J1 w mg a ws (i + 1)) I oI { s with heap := h, toks := tk } Q) a I oI rest t.d t.x (dictTh w t.fl t.bz t.cl t1 t2 t3 bt) n (ths.map fun t => Value.ref t.x) vcl vov vsz ws nc nt n1 n2 n3 k i c := by
  intro h' tk' m' news' f cN cC oN oC doc ctv tN tkey c' oc' vs' t' ti F' hm N' hall d1 d2 d3 d4 hrest g1 g2 g3 g4 g5 g6
  obtain ⟨t3', hput⟩ := put_close (w := w) (fl := t.fl) (bz := t.bz) (cl := t.cl) (t1 := t1) (t2 := t2) (t3 := t3) (bt := bt) (tkey := tkey) (f := f)
  rw [hput] at hall
  have hm' := hsub
  simp only [led, List.mem_cons, List.not_mem_nil, or_false, forall_eq_or_imp, forall_eq] at hm'
  obtain ⟨q1, q2, q3, q4, q5, q6, q7, q8⟩ := hm'
  simp only [led, List.cons_append, List.nil_append, List.mem_cons, List.not_mem_nil, or_false, forall_eq_or_imp, forall_eq] at hall
  obtain ⟨pf, pN, pC, p0, p3, p4, p5, p6, p7, p8, p9, p10, p11, p12⟩ := hall
  refine ⟨h', tk', m', news', (f, cloObj mg cN cC doc c' ctv) :: (cN, oN) :: (cC, oC) :: (52, tabObj #[rawInt 21, rawInt 4, .ref c']) :: (c', oc') :: led a t.d t.x (dictTh w t.fl t.bz (some f) t1 t2 t3' bt) (putN (Str.ofString "close") (dictTh w t.fl t.bz t.cl t1 t2 t3 bt) n) (ths.map fun t => Value.ref t.x).toArray (vcl.set k (.int i ti)).toArray vov.toArray vsz.toArray ws.toArray nc nt n1 n2 n3 ++ rest, rfl, F', N', ?_, p0, ?_, hm, ?_⟩
  · intro p hp
    rcases List.mem_append.mp hp with hp | hp
    · simp only [led, List.mem_cons, List.not_mem_nil, or_false] at hp
      rcases hp with rfl | rfl | rfl | rfl | rfl | rfl | rfl | rfl | rfl | rfl | rfl | rfl | rfl <;> assumption
    · exact hrest p hp
  · intro p hp
    rcases List.mem_append.mp hp with hp | hp
    · simp only [led, List.mem_cons, List.not_mem_nil, or_false] at hp
      rcases hp with rfl | rfl | rfl | rfl | rfl | rfl | rfl | rfl | rfl | rfl | rfl | rfl | rfl
      · exact Nat.ne_of_gt g3
      · exact Nat.ne_of_gt g1
      · exact Nat.ne_of_gt g2
      · exact h52
      · exact fun e => g4 e.symm
      · exact (show t.d ≠ I from hI (t.d, _) q1)
      · exact hI _ q2
      · exact hI _ q3
      · exact hI _ q4
      · exact (show a.lcl ≠ I from hI (a.lcl, _) q5)
      · exact hI _ q6
      · exact hI _ q7
      · exact hI _ q8
    · exact hI p (hr1 p hp)
  · have keep : ∀ p ∈ nx, okind p.2 ≠ 1 → okind p.2 ≠ 4 → p.1 ≠ t.d → p ∈ (f, cloObj mg cN cC doc c' ctv) :: (cN, oN) :: (cC, oC) :: (52, tabObj #[rawInt 21, rawInt 4, .ref c']) :: (c', oc') :: led a t.d t.x (dictTh w t.fl t.bz (some f) t1 t2 t3' bt) (putN (Str.ofString "close") (dictTh w t.fl t.bz t.cl t1 t2 t3 bt) n) (ths.map fun t => Value.ref t.x).toArray (vcl.set k (.int i ti)).toArray vov.toArray vsz.toArray ws.toArray nc nt n1 n2 n3 ++ rest := by
      intro p hp hk hk4 hd
      rcases hr2 p hp with hq | hq
      · rcases List.mem_append.mp hq with hq | hq
        · simp only [led, List.mem_cons, List.not_mem_nil, or_false] at hq
          refine List.mem_append_left _ ?_
          rcases hq with rfl | rfl | rfl | rfl | rfl | rfl | rfl | rfl
          · exact absurd rfl hd
          · simp only [led]; k_mem
          all_goals exact absurd rfl hk
        · exact absurd (htabs p hq) hk4
      · exact List.mem_append_right _ hq
    refine ⟨ths.set k { t with cl := some f }, cls.set k i, ovs, szs, (fun s' => if s' = (i : Int) then f else fn s'), some c', vcl.set k (.int i ti), vov, vsz, nc, nt, n1, n2, n3, ?_, ints_set hv1 k, hv2, hv3, ?_⟩
    · refine hInv.turn2 hfun hkt keep ⟨?_, g5, oc', vs', t', ?_, d3, d4⟩ ?_ ⟨?_, t1, t2, t3', bt, putN (Str.ofString "close") (dictTh w t.fl t.bz t.cl t1 t2 t3 bt) n, ?_⟩ (fun s' hs => if_neg (by omega)) (.inr ⟨by omega, by omega, by rw [if_pos rfl], ?_⟩)
      · exact List.mem_append_left _ (by k_mem)
      · exact List.mem_append_left _ (by k_mem)
      · cases c with
        | none => exact .inr rfl
        | some c0 => exact .inl (by rw [g6 c0 rfl])
      · exact List.mem_append_left _ (by simp only [led]; k_mem)
      · exact List.mem_append_left _ (by simp only [led]; k_mem)
      · rw [if_pos rfl]
        exact ⟨c', cN, cC, oN, oC, doc, ctv, tN, rfl, List.mem_append_left _ (by k_mem), List.mem_append_left _ (by k_mem), d1, List.mem_append_left _ (by k_mem), d2⟩
    · intro p hp
      rw [map_ref_set hkt] at hp
      simp only [List.mem_cons, List.not_mem_nil, or_false] at hp
      refine List.mem_append_left _ ?_
      simp only [led]
      rcases hp with rfl | rfl | rfl | rfl | rfl | rfl
      all_goals k_mem
end

theorem fmod_bounds (x : Int) {n : Nat} (h : 0 < n) : 0 ≤ x.fmod (n : Int) ∧ x.fmod (n : Int) < (n : Int) := by
  rw [Int.fmod_eq_emod_of_nonneg x (by omega)]
  exact ⟨Int.emod_nonneg _ (by omega), Int.emod_lt_of_pos _ (by omega)⟩

theorem turn1_all {w : World} {s : Shared} {mg mb : Str → Option Value} {mean : ExcName → Option Value} {loose : List Str} {base h : Heap} {L fa : Addr} {cd : Value} {tk : Nat} {m₁ : Str → Option Value}
    {a : Lay} {I : Nat} {oI : Obj} {nx : List (Addr × Obj)} {ws : List Value} {nns : List Int} {i ti : Nat} {Q : Flow → Shared → Prop} {E : Value → Shared → Prop}
    (X' : (Mine.hd.heap_39 w.params).In base) (T' : Top topProg loose mean mg mb base) (K' : Below callerA base [] base) (codeHd : CodeHd base 56 52)
    (ha : [a.lc, a.lt, a.lcl, a.lo, a.ls, a.ln].Nodup) (hI4 : IntsAre ws nns) (hnl : nns.length ≤ 30) (hin : i < nns.length)
    (hJ : J1 w mg a ws i m₁ nx) (hI : ∀ p ∈ nx, p.1 ≠ I)
    (F : Fr base L h (fun y => if y = Str.ofString "step" then some (.int i ti) else m₁ y)) (N : News base L h ((I, oI) :: nx)) :
    wpAny (model PySem.Challenge.rw_dn0266_01.row.prog w) (callerA.deeper (lawEnv L fa cd)) (execs body1 (lawEnv L fa cd)) (LpPost base L (J1 w mg a ws (i + 1)) I oI { s with heap := h, toks := tk } Q) E { s with heap := h, toks := tk } := by
  obtain ⟨hm, ths, cls, ovs, szs, fn, c, vcl, vov, vsz, nc, nt, n1, n2, n3, hInv, hv1, hv2, hv3, hlists⟩ := hJ
  rw [names_eq hm] at F
  have hfun : ∀ p q, p ∈ nx → q ∈ nx → p.1 = q.1 → p = q := fun p q hp hq e => news_fun N (.tail _ hp) (.tail _ hq) e
  have hl1 := hInv.l1
  have hl2 := hInv.l2
  have hl3 := hInv.l3
  have hpos := hInv.pos
  have htop := hInv.top
  obtain ⟨hk0, hk1⟩ := fmod_bounds ((nns.getD (Int.toNat (i : Int)) 0).fdiv 4) (n := cls.length) (by omega)
  obtain ⟨hd0, hd1⟩ := fmod_bounds (nns.getD (Int.toNat (i : Int)) 0) (n := 4) (by omega)
  have hkl : (((nns.getD (Int.toNat (i : Int)) 0).fdiv 4).fmod (cls.length : Int)).toNat < ths.length := by omega
  obtain ⟨t, hkt⟩ : ∃ t, ths[(((nns.getD (Int.toNat (i : Int)) 0).fdiv 4).fmod (cls.length : Int)).toNat]? = some t := ⟨_, List.getElem?_eq_getElem hkl⟩
  have hth : (ths.map fun t : Th => Value.ref t.x)[(((nns.getD (Int.toNat (i : Int)) 0).fdiv 4).fmod (cls.length : Int)).toNat]? = some (.ref t.x) := by rw [List.getElem?_map, hkt]; rfl
  have hlen1 : (ths.map fun t : Th => Value.ref t.x).length = cls.length := by rw [List.length_map]; exact hl1.symm
  obtain ⟨hx, t1, t2, t3, bt, n, hdk⟩ := hInv.th _ t hkt
  obtain ⟨c0, hc0, hcase⟩ := hInv.cl _ t hkt
  have hg0 : cls.getD (((nns.getD (Int.toNat (i : Int)) 0).fdiv 4).fmod (cls.length : Int)).toNat 0 = c0 := Inv_getD hc0
  simp only [List.mem_cons, List.not_mem_nil, or_false, forall_eq_or_imp, forall_eq] at hlists
  obtain ⟨q3, q4, q5, q6, q7, q8⟩ := hlists
  have hsub : ∀ p ∈ led a t.d t.x (dictTh w t.fl t.bz t.cl t1 t2 t3 bt) n (ths.map fun t : Th => Value.ref t.x).toArray vcl.toArray vov.toArray vsz.toArray ws.toArray nc nt n1 n2 n3, p ∈ nx := by
    simp only [led, List.mem_cons, List.not_mem_nil, or_false, forall_eq_or_imp, forall_eq]
    exact ⟨hdk, hx, q3, q4, q5, q6, q7, q8⟩
  have hnd := led_nodup (fun p hp => N p (.tail _ hp)) hsub ha
  have hkind : (nns.getD (Int.toNat (i : Int)) 0).fmod 4 = 0 ∨ (nns.getD (Int.toNat (i : Int)) 0).fmod 4 = 1 ∨ (nns.getD (Int.toNat (i : Int)) 0).fmod 4 = 2 ∨ (nns.getD (Int.toNat (i : Int)) 0).fmod 4 = 3 := by
    have : (4 : Int) = ((4 : Nat) : Int) := rfl
    rw [this]; omega
  by_cases hk2 : (nns.getD (Int.toNat (i : Int)) 0).fmod 4 = 2
  · -- a close is laid
    cases hcc : c with
    | none =>
      rw [hcc] at hInv
      have htab : (52, tabObj #[]) ∈ nx := hInv.tab
      have hnd2 : ((led a t.d t.x (dictTh w t.fl t.bz t.cl t1 t2 t3 bt) n (ths.map fun t : Th => Value.ref t.x).toArray vcl.toArray vov.toArray vsz.toArray ws.toArray nc nt n1 n2 n3 ++ [(52, tabObj #[])]).map (fun p : Addr × Obj => p.1)).Nodup := by
        rw [List.map_append]
        refine List.nodup_append.mpr ⟨hnd, by simp, ?_⟩
        intro b hb b' hb' e
        simp only [List.map_cons, List.map_nil, List.mem_singleton] at hb'
        subst hb'
        obtain ⟨p, hp, rfl⟩ := List.mem_map.mp hb
        have := hfun p _ (hsub p hp) htab e
        rw [this] at hp
        simp [led] at hp
      obtain ⟨rest, N2, hoff, hne, hr1, hr2⟩ := split_led N hI (named := led a t.d t.x (dictTh w t.fl t.bz t.cl t1 t2 t3 bt) n (ths.map fun t : Th => Value.ref t.x).toArray vcl.toArray vov.toArray vsz.toArray ws.toArray nc nt n1 n2 n3 ++ [(52, tabObj #[])]) (by
        intro p hp
        rcases List.mem_append.mp hp with hp | hp
        · exact hsub p hp
        · rw [List.mem_singleton.mp hp]; exact htab) hnd2
      exact turn_shut_miss X' T' K' F N2 hoff hne hv1 hv2 hv3 hI4 hlen1 (by omega) (by omega) (by omega) (by omega) hin (by omega) hk0 hk1 hth len_dictTh codeHd hk2 (by rw [getL_close]; rfl)
        (shutK_of (tabs := [(52, tabObj #[])]) hfun hInv hv1 hv2 hv3 hkt hsub hI hr1 (hI _ htab) (by simp [okind]) hr2)
    | some c' =>
      rw [hcc] at hInv
      obtain ⟨htab, h52, oc', vs', t', htc, htd, hte⟩ := hInv.tab
      have hk4 := okind_of_fields htd
      have hled4 : ∀ p ∈ led a t.d t.x (dictTh w t.fl t.bz t.cl t1 t2 t3 bt) n (ths.map fun t : Th => Value.ref t.x).toArray vcl.toArray vov.toArray vsz.toArray ws.toArray nc nt n1 n2 n3, okind p.2 ≠ 4 := by
        intro p hp
        simp only [led, List.mem_cons, List.not_mem_nil, or_false] at hp
        rcases hp with rfl | rfl | rfl | rfl | rfl | rfl | rfl | rfl <;> simp [okind]
      have hnd2 : ((led a t.d t.x (dictTh w t.fl t.bz t.cl t1 t2 t3 bt) n (ths.map fun t : Th => Value.ref t.x).toArray vcl.toArray vov.toArray vsz.toArray ws.toArray nc nt n1 n2 n3 ++ [(52, tabObj #[rawInt 21, rawInt 4, .ref c']), (c', oc')]).map (fun p : Addr × Obj => p.1)).Nodup := by
        rw [List.map_append]
        refine List.nodup_append.mpr ⟨hnd, by simp [Ne.symm h52], ?_⟩
        intro b hb b' hb' e
        simp only [List.map_cons, List.map_nil, List.mem_cons, List.not_mem_nil, or_false] at hb'
        obtain ⟨p, hp, rfl⟩ := List.mem_map.mp hb
        rcases hb' with rfl | rfl
        · have := hfun p _ (hsub p hp) htab e
          exact hled4 p hp (by rw [this]; rfl)
        · have := hfun p _ (hsub p hp) htc e
          exact hled4 p hp (by rw [this]; exact hk4)
      obtain ⟨rest, N2, hoff, hne, hr1, hr2⟩ := split_led N hI (named := led a t.d t.x (dictTh w t.fl t.bz t.cl t1 t2 t3 bt) n (ths.map fun t : Th => Value.ref t.x).toArray vcl.toArray vov.toArray vsz.toArray ws.toArray nc nt n1 n2 n3 ++ [(52, tabObj #[rawInt 21, rawInt 4, .ref c']), (c', oc')]) (by
        intro p hp
        rcases List.mem_append.mp hp with hp | hp
        · exact hsub p hp
        · simp only [List.mem_cons, List.not_mem_nil, or_false] at hp
          rcases hp with rfl | rfl
          · exact htab
          · exact htc) hnd2
      exact turn_shut_hit X' T' K' F N2 hoff hne hv1 hv2 hv3 hI4 hlen1 (by omega) (by omega) (by omega) (by omega) hin (by omega) hk0 hk1 hth len_dictTh codeHd htd hte hk2 (by rw [getL_close]; rfl)
        (shutK_of (tabs := [(52, tabObj #[rawInt 21, rawInt 4, .ref c']), (c', oc')]) hfun hInv hv1 hv2 hv3 hkt hsub hI hr1 (hI _ htab) (by
          intro p hp
          simp only [List.mem_cons, List.not_mem_nil, or_false] at hp
          rcases hp with rfl | rfl
          · rfl
          · exact hk4) hr2)
  · obtain ⟨rest, N2, hoff, hne, hr1, hr2⟩ := split_led N hI hsub hnd
    by_cases hk3 : (nns.getD (Int.toNat (i : Int)) 0).fmod 4 = 3
    · by_cases hneg : c0 < 0
      · -- a new one over None
        exact turn_none X' T' K' F N2 hoff hne hv1 hv2 hv3 hI4 hlen1 (by omega) (by omega) (by omega) (by omega) hin (by omega) hk0 hk1 hth len_dictTh hk3 (by rw [hg0]; exact hneg)
          (addK_of N hInv hv1 hv2 hv3 hsub hoff hI hr1 hr2 (.inl ⟨by omega, rfl⟩) (.inl ⟨by omega, rfl⟩))
      · -- the close is taken off
        rcases hcase with ⟨h1, _⟩ | ⟨h1, h2, h3, h4⟩
        · exact absurd h1 hneg
        have e : dictTh w t.fl t.bz t.cl t1 t2 t3 bt = [entF w t1 t.fl, entB w t2 (.int t.bz bt), entC w t3 (.ref (fn c0))] := by rw [h3]; rfl
        rw [e] at hsub N2 hoff hne hr2
        exact turn_del (es := []) X' T' K' F N2 hoff hne hv1 hv2 hv3 hI4 hlen1 (by omega) (by omega) (by omega) (by omega) hin (by omega) hk0 hk1 hth hk3 (by rw [hg0]; exact h1)
          (delK_of hfun hInv hv1 hv2 hv3 hkt hsub hI hr1 hr2)
    · have hov : 0 ≤ ((nns.getD (Int.toNat (i : Int)) 0).fdiv 4).fmod (cls.length : Int) ∧ ∃ t0 : Th, ths[(((nns.getD (Int.toNat (i : Int)) 0).fdiv 4).fmod (cls.length : Int)).toNat]? = some t0 ∧ Value.ref t.x = .ref t0.x := ⟨hk0, t, hkt, rfl⟩
      by_cases hkz : (nns.getD (Int.toNat (i : Int)) 0).fmod 4 = 0
      · rcases hcase with ⟨h1, h2⟩ | ⟨h1, h2, h3, h4⟩
        · exact turn_zero_no X' T' K' F N2 hoff hne hv1 hv2 hv3 hI4 hlen1 (by omega) (by omega) (by omega) (by omega) hin (by omega) hk0 hk1 hth len_dictTh hkz (by rw [getL_close, h2]; rfl)
            (addK_of N hInv hv1 hv2 hv3 hsub hoff hI hr1 hr2 (by rw [hg0]; exact .inl ⟨h1, rfl⟩) (.inr hov))
        · exact turn_zero_yes X' T' K' F N2 hoff hne hv1 hv2 hv3 hI4 hlen1 (by omega) (by omega) (by omega) (by omega) hin (by omega) hk0 hk1 hth len_dictTh hkz (by rw [getL_close, h3]; rfl)
            (addK_of N hInv hv1 hv2 hv3 hsub hoff hI hr1 hr2 (by rw [hg0]; exact .inr ⟨h1, h2, rfl, h4⟩) (.inr hov))
      · have hk1' : (nns.getD (Int.toNat (i : Int)) 0).fmod 4 = 1 := by omega
        by_cases hev : ((nns.getD (Int.toNat (i : Int)) 0).fdiv 7).fmod 2 = 0
        · rcases hcase with ⟨h1, h2⟩ | ⟨h1, h2, h3, h4⟩
          · exact turn_even_no X' T' K' F N2 hoff hne hv1 hv2 hv3 hI4 hlen1 (by omega) (by omega) (by omega) (by omega) hin (by omega) hk0 hk1 hth len_dictTh hk1' hev (by rw [getL_close, h2]; rfl)
              (addK_of N hInv hv1 hv2 hv3 hsub hoff hI hr1 hr2 (by rw [hg0]; exact .inl ⟨h1, rfl⟩) (.inr hov))
          · exact turn_even_yes X' T' K' F N2 hoff hne hv1 hv2 hv3 hI4 hlen1 (by omega) (by omega) (by omega) (by omega) hin (by omega) hk0 hk1 hth len_dictTh hk1' hev (by rw [getL_close, h3]; rfl)
              (addK_of N hInv hv1 hv2 hv3 hsub hoff hI hr1 hr2 (by rw [hg0]; exact .inr ⟨h1, h2, rfl, h4⟩) (.inr hov))
        · rcases hcase with ⟨h1, h2⟩ | ⟨h1, h2, h3, h4⟩
          · exact turn_odd_no X' T' K' F N2 hoff hne hv1 hv2 hv3 hI4 hlen1 (by omega) (by omega) (by omega) (by omega) hin (by omega) hk0 hk1 hth len_dictTh hk1' hev (by rw [getL_close, h2]; rfl)
              (addK_of N hInv hv1 hv2 hv3 hsub hoff hI hr1 hr2 (by rw [hg0]; exact .inl ⟨h1, rfl⟩) (.inr hov))
          · exact turn_odd_yes X' T' K' F N2 hoff hne hv1 hv2 hv3 hI4 hlen1 (by omega) (by omega) (by omega) (by omega) hin (by omega) hk0 hk1 hth len_dictTh hk1' hev (by rw [getL_close, h3]; rfl)
              (addK_of N hInv hv1 hv2 hv3 hsub hoff hI hr1 hr2 (by rw [hg0]; exact .inr ⟨h1, h2, rfl, h4⟩) (.inr hov))
end Mine
namespace Mine
open PySem PySem.W PySem.Calls PyProof.Rows
set_option maxRecDepth 100000
set_option maxHeartbeats 4000000
def Names2 (a : Lay) (ld : Nat) (m : Str → Option Value) : Prop :=
  m (Str.ofString "due") = some (.ref ld) ∧ m (Str.ofString "sizes") = some (.ref a.ls) ∧ m (Str.ofString "over") = some (.ref a.lo) ∧ m (Str.ofString "closes") = some (.ref a.lcl) ∧ m (Str.ofString "things") = some (.ref a.lt) ∧ m (Str.ofString "calls") = some (.ref a.lc)
abbrev mNames2 (a : Lay) (ld : Nat) (u : Str → Option Value) : Str → Option Value := fun y => if y = Str.ofString "due" then some (.ref ld) else if y = Str.ofString "sizes" then some (.ref a.ls) else if y = Str.ofString "over" then some (.ref a.lo)
      else if y = Str.ofString "closes" then some (.ref a.lcl) else if y = Str.ofString "things" then some (.ref a.lt) else if y = Str.ofString "calls" then some (.ref a.lc) else u y
theorem names2_eq {a : Lay} {ld : Nat} {m : Str → Option Value} (h : Names2 a ld m) : m = mNames2 a ld m := by
  obtain ⟨h1, h2, h3, h4, h5, h6⟩ := h
  funext y
  unfold mNames2
  split
  · rename_i e; rw [e]; exact h1
  split
  · rename_i e; rw [e]; exact h2
  split
  · rename_i e; rw [e]; exact h3
  split
  · rename_i e; rw [e]; exact h4
  split
  · rename_i e; rw [e]; exact h5
  split
  · rename_i e; rw [e]; exact h6
  rfl
def J2 (w : World) (mg : Str → Option Value) (a : Lay) (ld n T : Nat) (k : Nat) (m : Str → Option Value) (nx : List (Addr × Obj)) : Prop :=
  Names2 a ld m ∧ ∃ ths cls ovs szs fn c vcl vov vsz vca vdu q nc nt n1 n2 n3 n4, Inv w mg a.lc n nx ths cls ovs szs fn c ∧ ths.length = T ∧ IntsAre vcl cls ∧ IntsAre vov ovs ∧ IntsAre vsz szs ∧ IntsAre vca q ∧ IntsAre vdu q ∧ q.length ≤ k ∧
    (∀ p ∈ [(a.lc, W.listOf vca.toArray nc), (a.lt, W.listOf (ths.map fun t : Th => Value.ref t.x).toArray nt), (a.lcl, W.listOf vcl.toArray n1), (a.lo, W.listOf vov.toArray n2), (a.ls, W.listOf vsz.toArray n3), (ld, W.listOf vdu.toArray n4)], p ∈ nx)

def closOf (o : Obj) : List (Str × Addr) := match o.data with | .func fd => fd.closure | _ => []
theorem clo_inj {mg : Str → Option Value} {lc : Nat} {nx : List (Addr × Obj)} {c : Option Nat} {f : Nat} {s1 s2 : Int} (hfun : ∀ p q, p ∈ nx → q ∈ nx → p.1 = q.1 → p = q) (h1 : CloIn mg lc nx c f s1) (h2 : CloIn mg lc nx c f s2) : s1 = s2 := by
  obtain ⟨c1, cN, cC, oN, oC, doc, ctv, tN, _, a2, a3, a4, _, _⟩ := h1
  obtain ⟨c1', cN', cC', oN', oC', doc', ctv', tN', _, b2, b3, b4, _, _⟩ := h2
  have e := hfun _ _ a2 b2 rfl
  have e2 := congrArg (fun p : Addr × Obj => closOf p.2) e
  have e3 : [(Str.ofString "n", cN), (Str.ofString "calls", cC)] = [(Str.ofString "n", cN'), (Str.ofString "calls", cC')] := e2
  have e4 : cN = cN' := by
    have := (List.cons.inj e3).1
    exact (Prod.mk.inj this).2
  subst e4
  have e5 := hfun _ _ a3 b3 rfl
  have e6 : oN = oN' := (Prod.mk.inj e5).2
  rw [e6, b4] at a4
  have e7 := Data.cell.inj a4
  have e8 := Option.some.inj e7
  exact (Value.int.inj e8).1.symm
theorem kinds_ne {nx : List (Addr × Obj)} (hfun : ∀ p q, p ∈ nx → q ∈ nx → p.1 = q.1 → p = q) (p q : Addr × Obj) (i j : Nat) (hp : p ∈ nx) (hq : q ∈ nx) (h1 : okind p.2 = i) (h2 : okind q.2 = j) (hk : i ≠ j) : NeF p.1 q.1 := fun e => hk (by rw [← h1, ← h2, hfun p q hp hq e])
theorem getD_nat {l : List Int} {k : Nat} : l.getD (Int.toNat (k : Int)) 0 = l.getD k 0 := by rw [Int.toNat_natCast]

theorem turn2_all {w : World} {s : Shared} {mg mb : Str → Option Value} {mean : ExcName → Option Value} {loose : List Str} {base h : Heap} {L fa : Addr} {cd : Value} {tk : Nat} {m₁ : Str → Option Value}
    {a : Lay} {I ld n T : Nat} {oI : Obj} {nx : List (Addr × Obj)} {k ti : Nat} {Q : Flow → Shared → Prop} {E : Value → Shared → Prop}
    (X' : (Mine.hd.heap_39 w.params).In base) (T' : Top topProg loose mean mg mb base) (K' : Below callerA base [] base) (codeHd : CodeHd base 56 52) (hE : PassesOwn (model PySem.Challenge.rw_dn0266_01.row.prog w) (callerA.deeper (lawEnv L fa cd)) (lawEnv L fa cd) E)
    (ha : [a.lc, a.lt, a.lcl, a.lo, a.ls, ld].Nodup) (hT : T ≤ 40) (hkT : k < T)
    (hJ : J2 w mg a ld n T k m₁ nx) (hI : ∀ p ∈ nx, p.1 ≠ I)
    (F : Fr base L h (fun y => if y = Str.ofString "k" then some (.int k ti) else m₁ y)) (N : News base L h ((I, oI) :: nx)) :
    wpAny (model PySem.Challenge.rw_dn0266_01.row.prog w) (callerA.deeper (lawEnv L fa cd)) (execs body2 (lawEnv L fa cd)) (LpPost base L (J2 w mg a ld n T (k + 1)) I oI { s with heap := h, toks := tk } Q) E { s with heap := h, toks := tk } := by
  obtain ⟨hm, ths, cls, ovs, szs, fn, c, vcl, vov, vsz, vca, vdu, q, nc, nt, n1, n2, n3, n4, hInv, hTl, hv1, hv2, hv3, hv4, hv5, hql, hlists⟩ := hJ
  rw [names2_eq hm] at F
  have hfun : ∀ p q, p ∈ nx → q ∈ nx → p.1 = q.1 → p = q := fun p q hp hq e => news_fun N (.tail _ hp) (.tail _ hq) e
  have hl1 := hInv.l1
  have hl2 := hInv.l2
  have hl3 := hInv.l3
  obtain ⟨t, hkt⟩ : ∃ t, ths[k]? = some t := ⟨_, List.getElem?_eq_getElem (by omega)⟩
  have hthk : (ths.map fun t : Th => Value.ref t.x)[Int.toNat (k : Int)]? = some (.ref t.x) := by rw [Int.toNat_natCast, List.getElem?_map, hkt]; rfl
  have hlen1 : (ths.map fun t : Th => Value.ref t.x).length = cls.length := by rw [List.length_map]; exact hl1.symm
  obtain ⟨hx, t1, t2, t3, bt, nd, hdk⟩ := hInv.th _ t hkt
  obtain ⟨c0, hc0, hcase⟩ := hInv.cl _ t hkt
  have hg0 : cls.getD (Int.toNat (k : Int)) 0 = c0 := by rw [getD_nat]; exact Inv_getD hc0
  obtain ⟨o0, ho0, hocase⟩ := hInv.ov _ t hkt
  have hgo : ovs.getD (Int.toNat (k : Int)) 0 = o0 := by rw [getD_nat]; exact Inv_getD ho0
  have hsz : t.bz = szs.getD (Int.toNat (k : Int)) 0 := by rw [getD_nat]; exact (Inv_getD (hInv.sz _ t hkt)).symm
  simp only [List.mem_cons, List.not_mem_nil, or_false, forall_eq_or_imp, forall_eq] at hlists
  obtain ⟨q1, q2, q3, q4, q5, q6⟩ := hlists
  simp only [List.nodup_cons, List.mem_cons, List.not_mem_nil, or_false, not_or, not_false_eq_true, List.nodup_nil, and_true] at ha
  obtain ⟨⟨a1, a2, a3, a4, a5⟩, ⟨b1, b2, b3, b4⟩, ⟨c1, c2, c3⟩, ⟨d1, d2⟩, e1⟩ := ha
  have hsp : ∃ rest, (∀ p ∈ rest, p ∈ nx) ∧ OwnOff rest [a.lc, ld] ∧ ∀ p ∈ nx, okind p.2 ≠ 1 → p ∈ rest := by
    refine ⟨nx.filter fun p => decide (p.1 ≠ a.lc ∧ p.1 ≠ ld), fun p hp => (List.mem_filter.mp hp).1, ?_, ?_⟩
    · intro p hp b hb e
      have := of_decide_eq_true (List.mem_filter.mp hp).2
      simp only [List.mem_cons, List.not_mem_nil, or_false] at hb
      rcases hb with rfl | rfl
      · exact this.1 e
      · exact this.2 e
    · intro p hp hk
      refine List.mem_filter.mpr ⟨hp, decide_eq_true ⟨fun e => ?_, fun e => ?_⟩⟩
      · rw [hfun p _ hp q1 e] at hk; exact hk rfl
      · rw [hfun p _ hp q6 e] at hk; exact hk rfl
  obtain ⟨rest, hr1, hoff, hr2⟩ := hsp
  have hB : ∀ LED : List (Addr × Obj), (∀ p ∈ rest, p ∈ LED) → Before LED (ths.map fun t : Th => Value.ref t.x) cls (dictTh w t.fl t.bz t.cl t1 t2 t3 bt) k := by
    intro LED hsubL j hj
    obtain ⟨tj, hjt⟩ : ∃ tj, ths[j]? = some tj := ⟨_, List.getElem?_eq_getElem (by omega)⟩
    obtain ⟨gx, u1, u2, u3, ub, un, gd⟩ := hInv.th _ tj hjt
    obtain ⟨cj, hcj, hcasej⟩ := hInv.cl _ tj hjt
    refine ⟨tj.x, tj.d, _, un, hsubL _ (hr2 _ gd (by show (2 : Nat) ≠ 1; decide)), hsubL _ (hr2 _ gx (by show (3 : Nat) ≠ 1; decide)), by rw [List.getElem?_map, hjt]; rfl, ?_⟩
    rw [Inv_getD hc0, Inv_getD hcj]
    rcases hcase with ⟨h1, h2⟩ | ⟨h1, h2, h3, h4⟩
    · exact .inl h1
    rcases hcasej with ⟨g1, g2⟩ | ⟨g1, g2, g3, g4⟩
    · exact .inr (.inl g1)
    refine .inr (.inr ⟨h1, g1, fn c0, fn cj, by rw [getL_close, h3]; rfl, by rw [getL_close, g3]; rfl, ?_⟩)
    by_cases ec : c0 = cj
    · subst ec; exact .inl ⟨rfl, rfl⟩
    · refine .inr ⟨fun e => ec ?_, ec, ?_⟩
      · rw [e] at h4; exact clo_inj hfun h4 g4
      · obtain ⟨_, _, _, _, _, _, _, _, _, k2, _, _, _, _⟩ := h4
        obtain ⟨_, _, _, _, _, _, _, _, _, k2', _, _, _, _⟩ := g4
        exact ⟨_, _, hsubL _ (hr2 _ k2 (by show (5 : Nat) ≠ 1; decide)), hsubL _ (hr2 _ k2' (by show (5 : Nat) ≠ 1; decide)), rfl⟩
  -- the ledger's tail and the end of the turn
  have hkeep : ∀ nx' : List (Addr × Obj), (∀ p ∈ rest, p ∈ nx') → Inv w mg a.lc n nx' ths cls ovs szs fn c := by
    intro nx' hs
    have hk : ∀ p ∈ nx, okind p.2 ≠ 1 → p ∈ nx' := fun p hp h1 => hs _ (hr2 p hp h1)
    exact { hInv with
      tab := hInv.tab.keep fun p hp hq => hk p hp (by rw [hq]; decide)
      th := fun j t ht => (hInv.th j t ht).keep (fun p hp hq => hk p hp (by rw [hq]; decide)) (fun p hp hq _ => hk p hp (by rw [hq]; decide))
      cl := fun j t ht => by
        obtain ⟨o, g1, g2⟩ := hInv.cl j t ht
        exact ⟨o, g1, g2.imp id fun ⟨a, b, e, x⟩ => ⟨a, b, e, x.keep fun p hp hq => hk p hp (by rcases hq with e | e <;> rw [e] <;> decide)⟩⟩ }
  have hNe : ∀ (b : Nat) (o : Obj), (b, o) ∈ nx → okind o ≠ 1 → NeF a.lc b ∧ NeF ld b := fun b o hb hk =>
    ⟨kinds_ne hfun (a.lc, _) (b, o) 1 (okind o) q1 hb rfl rfl (Ne.symm hk), kinds_ne hfun (ld, _) (b, o) 1 (okind o) q6 hb rfl rfl (Ne.symm hk)⟩
  have hnI1 : NeF a.lc I := hI _ q1
  have hnI2 : NeF ld I := hI _ q6
  obtain ⟨nd1, nd2⟩ := hNe _ _ hdk (by show (2 : Nat) ≠ 1; decide)
  obtain ⟨nx1, nx2⟩ := hNe _ _ hx (by show (3 : Nat) ≠ 1; decide)
  have fin : ∀ (extra : List (Addr × Obj)) (vca' vdu' : Array Value) (nc' n4' : Nat) (wca wdu : List Value) (q' : List Int) h' tk' m', (∀ p ∈ extra, p ∈ nx) → vca' = wca.toArray → vdu' = wdu.toArray → IntsAre wca q' → IntsAre wdu q' → q'.length ≤ k + 1 →
      Fr base L h' m' → m' (Str.ofString "due") = some (.ref ld) → m' (Str.ofString "sizes") = some (.ref a.ls) → m' (Str.ofString "over") = some (.ref a.lo) → m' (Str.ofString "closes") = some (.ref a.lcl) → m' (Str.ofString "things") = some (.ref a.lt) → m' (Str.ofString "calls") = some (.ref a.lc) →
      News base L h' ((I, oI) :: (t.d, dictOf (dictTh w t.fl t.bz t.cl t1 t2 t3 bt) nd) :: (t.x, instObj 46 t.d) :: (a.lc, W.listOf vca' nc') :: (a.lt, W.listOf (ths.map fun t : Th => Value.ref t.x).toArray nt) :: (a.lcl, W.listOf vcl.toArray n1) :: (a.lo, W.listOf vov.toArray n2) :: (a.ls, W.listOf vsz.toArray n3) :: (ld, W.listOf vdu' n4') :: (extra ++ rest)) →
      LpPost base L (J2 w mg a ld n T (k + 1)) I oI { s with heap := h, toks := tk } Q .next { s with heap := h', toks := tk' } := by
    intro extra vca' vdu' nc' n4' wca wdu q' h' tk' m' hex e1' e2' i1 i2 hq' F' w1 w2 w3 w4 w5 w6 N'
    subst e1' e2'
    refine ⟨h', tk', m', _, (a.lc, W.listOf wca.toArray nc') :: (a.lt, W.listOf (ths.map fun t : Th => Value.ref t.x).toArray nt) :: (a.lcl, W.listOf vcl.toArray n1) :: (a.lo, W.listOf vov.toArray n2) :: (a.ls, W.listOf vsz.toArray n3) :: (ld, W.listOf wdu.toArray n4') :: rest, rfl, F', N', ?_, .head _, ?_, ⟨w1, w2, w3, w4, w5, w6⟩, ?_⟩
    · intro p hp
      simp only [List.mem_cons] at hp
      rcases hp with rfl | rfl | rfl | rfl | rfl | rfl | hp
      iterate 6 k_mem
      iterate 9 refine .tail _ ?_
      exact List.mem_append_right _ hp
    · intro p hp
      simp only [List.mem_cons] at hp
      rcases hp with rfl | rfl | rfl | rfl | rfl | rfl | hp
      · exact hnI1
      · exact hI _ q2
      · exact hI _ q3
      · exact hI _ q4
      · exact hI _ q5
      · exact hnI2
      · exact hI p (hr1 p hp)
    · refine ⟨ths, cls, ovs, szs, fn, c, vcl, vov, vsz, wca, wdu, q', nc', nt, n1, n2, n3, n4', hkeep _ fun p hp => ?_, hTl, hv1, hv2, hv3, i1, i2, hq', ?_⟩
      · iterate 6 refine .tail _ ?_
        exact hp
      · intro p hp
        simp only [List.mem_cons, List.not_mem_nil, or_false] at hp
        rcases hp with rfl | rfl | rfl | rfl | rfl | rfl
        all_goals k_mem
  have mkN : ∀ extra : List (Addr × Obj), (∀ p ∈ extra, p ∈ nx) → News base L h ((I, oI) :: (t.d, dictOf (dictTh w t.fl t.bz t.cl t1 t2 t3 bt) nd) :: (t.x, instObj 46 t.d) :: (a.lc, W.listOf vca.toArray nc) :: (a.lt, W.listOf (ths.map fun t : Th => Value.ref t.x).toArray nt) :: (a.lcl, W.listOf vcl.toArray n1) :: (a.lo, W.listOf vov.toArray n2) :: (a.ls, W.listOf vsz.toArray n3) :: (ld, W.listOf vdu.toArray n4) :: (extra ++ rest)) := by
    intro extra hex p hp
    rcases List.mem_cons.mp hp with rfl | hp
    · exact N _ (.head _)
    refine N _ (.tail _ ?_)
    simp only [List.mem_cons, List.mem_append] at hp
    rcases hp with rfl | rfl | rfl | rfl | rfl | rfl | rfl | rfl | hp | hp
    · exact hdk
    · exact hx
    · exact q1
    · exact q2
    · exact q3
    · exact q4
    · exact q5
    · exact q6
    · exact hex p hp
    · exact hr1 p hp
  have hqa : q.length ≤ k := hql
  rcases hcase with ⟨h1, h2⟩ | ⟨h1, h2, h3, h4⟩
  · have N2 := mkN [] (by simp)
    have hne1 : NeTo a.lc (ld :: [I, t.d, t.x, a.lt, a.lcl, a.lo, a.ls]) := ⟨a5, hnI1, nd1, nx1, a1, a2, a3, a4, trivial⟩
    have hne2 : NeTo ld [I, t.d, t.x, a.lt, a.lcl, a.lo, a.ls] := ⟨hnI2, nd2, nx2, Ne.symm b4, Ne.symm c3, Ne.symm d2, Ne.symm e1, trivial⟩
    have hBB := hB _ (fun p hp => (by iterate 9 refine .tail _ ?_
                                      exact hp : p ∈ (I, oI) :: (t.d, dictOf (dictTh w t.fl t.bz t.cl t1 t2 t3 bt) nd) :: (t.x, instObj 46 t.d) :: (a.lc, W.listOf vca.toArray nc) :: (a.lt, W.listOf (ths.map fun t : Th => Value.ref t.x).toArray nt) :: (a.lcl, W.listOf vcl.toArray n1) :: (a.lo, W.listOf vov.toArray n2) :: (a.ls, W.listOf vsz.toArray n3) :: (ld, W.listOf vdu.toArray n4) :: rest))
    have hQ := fun h' tk' m' F' w1 w2 w3 w4 w5 w6 N' => fin [] vca.toArray vdu.toArray nc n4 vca vdu q h' tk' m' (by simp) rfl rfl hv4 hv5 (by omega) F' w1 w2 w3 w4 w5 w6 N'
    rcases hocase with ⟨o1, o2⟩ | ⟨o1, t0, o2, o3⟩
    · exact turn_ask_nn X' T' K' codeHd hE F N2 hoff hne1 hne2 hv1 hv2 hv3 hv4 hv5 hlen1 (by omega) (by omega) (by omega) (by omega) hqa hqa hthk hBB getL_bz hsz (by rw [hgo]; exact o1) (by rw [getL_fl, o2]) (by rw [hg0]; exact h1) (by rw [getL_close, h2]; rfl) hQ
    · exact turn_ask_yn (xo := t0.x) X' T' K' codeHd hE F N2 hoff hne1 hne2 hv1 hv2 hv3 hv4 hv5 hlen1 (by omega) (by omega) (by omega) (by omega) hqa hqa hthk hBB getL_bz hsz (by rw [hgo]; exact o1) (by rw [hgo]; have := (List.getElem?_eq_some_iff.mp o2).1; omega) (by rw [getL_fl, o3]) (by rw [hgo, List.getElem?_map, o2]; rfl) (by rw [hg0]; exact h1) (by rw [getL_close, h2]; rfl) hQ
  · obtain ⟨c', cN, cC, oN, oC, doc, ctv, tN, k1, k2, k3, k4, k5, k6⟩ := h4
    have htab := hInv.tab
    rw [k1] at htab
    obtain ⟨_, _, oc', vs', t', m1, m2, m3⟩ := htab
    have hex : ∀ p ∈ [(fn c0, cloObj mg cN cC doc c' ctv), (cN, oN), (cC, oC), (c', oc')], p ∈ nx := by
      intro p hp
      simp only [List.mem_cons, List.not_mem_nil, or_false] at hp
      rcases hp with rfl | rfl | rfl | rfl <;> assumption
    have N2 := mkN _ hex
    obtain ⟨nf1, nf2⟩ := hNe _ _ k2 (by show (5 : Nat) ≠ 1; decide)
    obtain ⟨ng1, ng2⟩ := hNe _ _ k3 (by rw [okind_of_cell k4]; decide)
    obtain ⟨nh1, nh2⟩ := hNe _ _ k5 (by rw [okind_of_cell k6]; decide)
    obtain ⟨nj1, nj2⟩ := hNe _ _ m1 (by rw [okind_of_fields m2]; decide)
    have hne1 : NeTo a.lc (ld :: [I, t.d, t.x, a.lt, a.lcl, a.lo, a.ls, fn c0, cN, cC, c']) := ⟨a5, hnI1, nd1, nx1, a1, a2, a3, a4, nf1, ng1, nh1, nj1, trivial⟩
    have hne2 : NeTo ld [I, t.d, t.x, a.lt, a.lcl, a.lo, a.ls, fn c0, cN, cC, c'] := ⟨hnI2, nd2, nx2, Ne.symm b4, Ne.symm c3, Ne.symm d2, Ne.symm e1, nf2, ng2, nh2, nj2, trivial⟩
    have hBB := hB _ (fun p hp => (by iterate 13 refine .tail _ ?_
                                      exact hp : p ∈ (I, oI) :: (t.d, dictOf (dictTh w t.fl t.bz t.cl t1 t2 t3 bt) nd) :: (t.x, instObj 46 t.d) :: (a.lc, W.listOf vca.toArray nc) :: (a.lt, W.listOf (ths.map fun t : Th => Value.ref t.x).toArray nt) :: (a.lcl, W.listOf vcl.toArray n1) :: (a.lo, W.listOf vov.toArray n2) :: (a.ls, W.listOf vsz.toArray n3) :: (ld, W.listOf vdu.toArray n4) :: (fn c0, cloObj mg cN cC doc c' ctv) :: (cN, oN) :: (cC, oC) :: (c', oc') :: rest))
    have hQ := fun h' tk' m' ta td F' w1 w2 w3 w4 w5 w6 N' => fin [(fn c0, cloObj mg cN cC doc c' ctv), (cN, oN), (cC, oC), (c', oc')] (vca.toArray.push (.int (cls.getD (Int.toNat (k : Int)) 0) ta)) (vdu.toArray.push (.int (cls.getD (Int.toNat (k : Int)) 0) td)) (nc + 1) (n4 + 1) (vca ++ [.int (cls.getD (Int.toNat (k : Int)) 0) ta]) (vdu ++ [.int (cls.getD (Int.toNat (k : Int)) 0) td]) (q ++ [cls.getD (Int.toNat (k : Int)) 0]) h' tk' m' hex (by simp) (by simp) (ints_app hv4) (ints_app hv5) (by simp; omega) F' w1 w2 w3 w4 w5 w6 N'
    have k4' : oN.data = .cell (some (.int (cls.getD (Int.toNat (k : Int)) 0) tN)) := by rw [hg0]; exact k4
    rcases hocase with ⟨o1, o2⟩ | ⟨o1, t0, o2, o3⟩
    · exact turn_ask_ny X' T' K' codeHd hE F N2 hoff hne1 hne2 hv1 hv2 hv3 hv4 hv5 hlen1 (by omega) (by omega) (by omega) (by omega) hqa hqa hthk hBB getL_bz hsz (by rw [hgo]; exact o1) (by rw [getL_fl, o2]) (by rw [hg0]; exact h1) (by rw [getL_close, h3]; rfl) m2 m3 k4' k6 hQ
    · exact turn_ask_yy (xo := t0.x) X' T' K' codeHd hE F N2 hoff hne1 hne2 hv1 hv2 hv3 hv4 hv5 hlen1 (by omega) (by omega) (by omega) (by omega) hqa hqa hthk hBB getL_bz hsz (by rw [hgo]; exact o1) (by rw [hgo]; have := (List.getElem?_eq_some_iff.mp o2).1; omega) (by rw [getL_fl, o3]) (by rw [hgo, List.getElem?_map, o2]; rfl) (by rw [hg0]; exact h1) (by rw [getL_close, h3]; rfl) m2 m3 k4' k6 hQ
end Mine
namespace Mine
open PySem PySem.W PySem.Calls PyProof.Rows
set_option maxRecDepth 100000
set_option maxHeartbeats 4000000
theorem loop1 {w : World} {s : Shared} {mg mb : Str → Option Value} {mean : ExcName → Option Value} {loose : List Str} {base : Heap} {L fa : Addr} {cd : Value} {m : Str → Option Value}
    {lc lt lcl lo ls ln x0 d0 r : Nat} {b₀ : Int} {t₀ u₀ v₀ : Tok} {news : List (Addr × Obj)} {ws : List Value} {nns : List Int} {nc nt n1 n2 n3 nd t1 t2 bt tc to ts : Nat} {Q : Flow → Shared → Prop} {E : Value → Shared → Prop}
    (X' : (Mine.hd.heap_39 w.params).In base) (T' : Top topProg loose mean mg mb base) (K' : Below callerA base [] base) (codeHd : CodeHd base 56 52)
    (hr : IsRange s.heap r 0 b₀ 1 t₀ u₀ v₀) (hb : b₀ = (nns.length : Int))
    (F : Fr base L s.heap m) (hm : Names ⟨lc, lt, lcl, lo, ls, ln⟩ m) (N : News base L s.heap news)
    (p1 : (lc, W.listOf #[] nc) ∈ news) (p2 : (lt, W.listOf #[Value.ref x0] nt) ∈ news) (p3 : (lcl, W.listOf #[Value.int (-1) tc] n1) ∈ news) (p4 : (lo, W.listOf #[Value.int (-1) to] n2) ∈ news) (p5 : (ls, W.listOf #[Value.int 8192 ts] n3) ∈ news) (p6 : (ln, W.listOf ws.toArray 0) ∈ news)
    (p7 : (x0, instObj 46 d0) ∈ news) (p8 : (d0, dictOf [entF w t1 .none, entB w t2 (.int 8192 bt)] nd) ∈ news) (p9 : (52, tabObj #[]) ∈ news)
    (ha : [lc, lt, lcl, lo, ls, ln].Nodup) (hI4 : IntsAre ws nns) (hnl : nns.length ≤ 30)
    (done : ∀ (u : Str → Option Value) (ths : List Th) cls ovs szs fn c vcl vov vsz nc nt n1 n2 n3 ps nx' h' tk', Inv w mg lc nns.length nx' ths cls ovs szs fn c → IntsAre vcl cls → IntsAre vov ovs → IntsAre vsz szs → ths.length ≤ 31 → (ths.map fun t : Th => Value.ref t.x).length = ths.length →
      Fr base L h' (fun y => if y = Str.ofString "numbers" then some (.ref ln) else if y = Str.ofString "sizes" then some (.ref ls) else if y = Str.ofString "over" then some (.ref lo) else if y = Str.ofString "closes" then some (.ref lcl) else if y = Str.ofString "things" then some (.ref lt) else if y = Str.ofString "calls" then some (.ref lc) else u y) →
      News base L h' ((lc, W.listOf #[] nc) :: (lt, W.listOf (ths.map fun t : Th => Value.ref t.x).toArray nt) :: (lcl, W.listOf vcl.toArray n1) :: (lo, W.listOf vov.toArray n2) :: (ls, W.listOf vsz.toArray n3) :: (52, tabObj ps) :: nx') → Q .next { s with heap := h', toks := tk' }) :
    wpAny (model PySem.Challenge.rw_dn0266_01.row.prog w) (callerA.deeper (lawEnv L fa cd)) (pyIter (.ref r)) (fun it s₂ => LoopAtV PySem.Challenge.rw_dn0266_01.row.prog w (callerA.deeper (lawEnv L fa cd)) base (lawEnv L fa cd) (Str.ofString "step") body1 Q E it s₂) E s := by
  have tabOf : ∀ {nx : List (Addr × Obj)} {c : Option Nat}, TabIn nx c → ∃ ps, (52, tabObj ps) ∈ nx := by
    intro nx c h
    cases c with
    | none => exact ⟨_, h⟩
    | some c' => exact ⟨_, h.1⟩
  refine range_inv (n := nns.length) (m₀ := m) (news := news) (J1 w mg ⟨lc, lt, lcl, lo, ls, ln⟩ ws) rfl hr (small_one (by omega) (by omega) (by omega) (by omega)) ?_ F N ?_ ?_ (fun m' nx' h' tk' hJ F' N' => by
    obtain ⟨hm, ths, cls, ovs, szs, fn, c, vcl, vov, vsz, nc, nt, n1, n2, n3, hInv, hv1, hv2, hv3, hlists⟩ := hJ
    obtain ⟨ps, hps⟩ := tabOf hInv.tab
    rw [names_eq hm] at F'
    refine done m' ths cls ovs szs fn c vcl vov vsz nc nt n1 n2 n3 ps nx' h' tk' hInv hv1 hv2 hv3 (by have := hInv.top; omega) (by simp) F' ?_
    simp only [List.mem_cons, List.not_mem_nil, or_false, forall_eq_or_imp, forall_eq] at hlists
    obtain ⟨q1, q2, q3, q4, q5, q6⟩ := hlists
    intro p hp
    simp only [List.mem_cons] at hp
    rcases hp with rfl | rfl | rfl | rfl | rfl | rfl | hp
    · exact N' _ q1
    · exact N' _ q2
    · exact N' _ q3
    · exact N' _ q4
    · exact N' _ q5
    · exact N' _ hps
    · exact N' _ hp)
  · have := rangeSize_nat 0 b₀; rw [this]; omega
  · refine ⟨hm, [⟨x0, d0, .none, 8192, none⟩], [-1], [-1], [8192], fun _ => 0, none, [.int (-1) tc], [.int (-1) to], [.int 8192 ts], nc, nt, n1, n2, n3, ?_, .cons _ _ .nil, .cons _ _ .nil, .cons _ _ .nil, ?_⟩
    · have one : ∀ {α : Type} {a b : α} {j : Nat}, [a][j]? = some b → j = 0 ∧ b = a := by
        intro α a b j h
        cases j with
        | zero => exact ⟨rfl, (Option.some.inj h).symm⟩
        | succ j => simp at h
      refine ⟨by simp, by simp, rfl, rfl, rfl, p9, ?_, ?_, ?_, ?_, ?_⟩
      · intro j j' t t' h1 h2 _
        rw [(one h1).1, (one h2).1]
      · intro j t h1
        obtain ⟨_, rfl⟩ := one h1
        exact ⟨p7, t1, t2, 0, bt, nd, p8⟩
      · intro j t h1
        obtain ⟨rfl, rfl⟩ := one h1
        rfl
      · intro j t h1
        obtain ⟨rfl, rfl⟩ := one h1
        exact ⟨-1, rfl, .inl ⟨by decide, rfl⟩⟩
      · intro j t h1
        obtain ⟨rfl, rfl⟩ := one h1
        exact ⟨-1, rfl, .inl ⟨by decide, rfl⟩⟩
    · intro p hp
      simp only [List.mem_cons, List.not_mem_nil, or_false] at hp
      rcases hp with rfl | rfl | rfl | rfl | rfl | rfl
      · exact p1
      · exact p2
      · exact p3
      · exact p4
      · exact p5
      · exact p6
  · intro i t m₁ nx h tk I oI hi hJ hI F₁ N₁
    refine turn1_all (ti := t) (s := { s with heap := h, toks := tk }) X' T' K' codeHd ha hI4 hnl hi hJ hI ?_ N₁
    rw [show (0 : Int) + (i : Int) = (i : Int) by omega] at F₁
    exact F₁

theorem loop2 {w : World} {s : Shared} {mg mb : Str → Option Value} {mean : ExcName → Option Value} {loose : List Str} {base : Heap} {L fa : Addr} {cd : Value} {m : Str → Option Value}
    {a : Lay} {ld n T r : Nat} {b₀ : Int} {t₀ u₀ v₀ : Tok} {news nx : List (Addr × Obj)} {Q : Flow → Shared → Prop} {E : Value → Shared → Prop} {ths : List Th} {cls ovs szs : List Int} {fn : Int → Nat} {c : Option Nat} {vcl vov vsz : List Value} {nc nt n1 n2 n3 n4 : Nat}
    (X' : (Mine.hd.heap_39 w.params).In base) (T' : Top topProg loose mean mg mb base) (K' : Below callerA base [] base) (codeHd : CodeHd base 56 52) (hE : PassesOwn (model PySem.Challenge.rw_dn0266_01.row.prog w) (callerA.deeper (lawEnv L fa cd)) (lawEnv L fa cd) E)
    (hr : IsRange s.heap r 0 b₀ 1 t₀ u₀ v₀) (hb : b₀ = (ths.length : Int))
    (F : Fr base L s.heap m) (hm : Names2 a ld m) (N : News base L s.heap news)
    (ha : [a.lc, a.lt, a.lcl, a.lo, a.ls, ld].Nodup) (hT : ths.length ≤ 40)
    (hInv : Inv w mg a.lc n nx ths cls ovs szs fn c) (hv1 : IntsAre vcl cls) (hv2 : IntsAre vov ovs) (hv3 : IntsAre vsz szs) (hsub : ∀ p ∈ nx, p ∈ news)
    (p1 : (a.lc, W.listOf #[] nc) ∈ news) (p2 : (a.lt, W.listOf (ths.map fun t : Th => Value.ref t.x).toArray nt) ∈ news) (p3 : (a.lcl, W.listOf vcl.toArray n1) ∈ news) (p4 : (a.lo, W.listOf vov.toArray n2) ∈ news) (p5 : (a.ls, W.listOf vsz.toArray n3) ∈ news) (p6 : (ld, W.listOf #[] n4) ∈ news)
    (done : ∀ (u : Str → Option Value) q vca vdu nc n4 ps h' tk', IntsAre vca q → IntsAre vdu q → q.length ≤ 40 →
      Fr base L h' (fun y => if y = Str.ofString "due" then some (.ref ld) else if y = Str.ofString "calls" then some (.ref a.lc) else u y) →
      News base L h' [(a.lc, W.listOf vca.toArray nc), (ld, W.listOf vdu.toArray n4), (52, tabObj ps)] → Q .next { s with heap := h', toks := tk' }) :
    wpAny (model PySem.Challenge.rw_dn0266_01.row.prog w) (callerA.deeper (lawEnv L fa cd)) (pyIter (.ref r)) (fun it s₂ => LoopAtV PySem.Challenge.rw_dn0266_01.row.prog w (callerA.deeper (lawEnv L fa cd)) base (lawEnv L fa cd) (Str.ofString "k") body2 Q E it s₂) E s := by
  have tabOf : ∀ {nx : List (Addr × Obj)} {c : Option Nat}, TabIn nx c → ∃ ps, (52, tabObj ps) ∈ nx := by
    intro nx c h
    cases c with
    | none => exact ⟨_, h⟩
    | some c' => exact ⟨_, h.1⟩
  refine range_inv (n := ths.length) (m₀ := m) (news := news) (J2 w mg a ld n ths.length) rfl hr (small_one (by omega) (by omega) (by omega) (by omega)) ?_ F N ?_ ?_ (fun m' nx' h' tk' hJ F' N' => by
    obtain ⟨hm, ths', cls, ovs, szs, fn, c, vcl, vov, vsz, vca, vdu, q, nc, nt, n1, n2, n3, n4, hInv, hTl, hv1, hv2, hv3, hv4, hv5, hql, hlists⟩ := hJ
    obtain ⟨ps, hps⟩ := tabOf hInv.tab
    have em : m' = (fun y => if y = Str.ofString "due" then some (.ref ld) else if y = Str.ofString "calls" then some (.ref a.lc) else m' y) := by
      funext y
      split
      · rename_i e; rw [e]; exact hm.1
      split
      · rename_i e; rw [e]; exact hm.2.2.2.2.2
      rfl
    rw [em] at F'
    refine done m' q vca vdu nc n4 ps h' tk' hv4 hv5 (by omega) F' ?_
    simp only [List.mem_cons, List.not_mem_nil, or_false, forall_eq_or_imp, forall_eq] at hlists
    obtain ⟨q1, q2, q3, q4, q5, q6⟩ := hlists
    intro p hp
    simp only [List.mem_cons, List.not_mem_nil, or_false] at hp
    rcases hp with rfl | rfl | rfl
    · exact N' _ q1
    · exact N' _ q6
    · exact N' _ hps)
  · have := rangeSize_nat 0 b₀; rw [this]; omega
  · refine ⟨hm, ths, cls, ovs, szs, fn, c, vcl, vov, vsz, [], [], [], nc, nt, n1, n2, n3, n4, ?_, rfl, hv1, hv2, hv3, .nil, .nil, Nat.le_refl _, ?_⟩
    · exact { hInv with
        tab := hInv.tab.keep fun p hp _ => hsub p hp
        th := fun j t ht => (hInv.th j t ht).keep (fun p hp _ => hsub p hp) (fun p hp _ _ => hsub p hp)
        cl := fun j t ht => by
          obtain ⟨o, g1, g2⟩ := hInv.cl j t ht
          exact ⟨o, g1, g2.imp id fun ⟨a, b, e, x⟩ => ⟨a, b, e, x.keep fun p hp _ => hsub p hp⟩⟩ }
    · intro p hp
      simp only [List.mem_cons, List.not_mem_nil, or_false] at hp
      rcases hp with rfl | rfl | rfl | rfl | rfl | rfl
      · exact p1
      · exact p2
      · exact p3
      · exact p4
      · exact p5
      · exact p6
  · intro i t m₁ nx h tk I oI hi hJ hI F₁ N₁
    refine turn2_all (ti := t) (s := { s with heap := h, toks := tk }) X' T' K' codeHd hE ha hT hi hJ hI ?_ N₁
    rw [show (0 : Int) + (i : Int) = (i : Int) by omega] at F₁
    exact F₁

theorem loop2' {w : World} {s : Shared} {mg mb : Str → Option Value} {mean : ExcName → Option Value} {loose : List Str} {base : Heap} {L fa : Addr} {cd : Value} {m : Str → Option Value}
    {lc lt lcl lo ls ld n r : Nat} {b₀ : Int} {t₀ u₀ v₀ : Tok} {news nx : List (Addr × Obj)} {Q : Flow → Shared → Prop} {E : Value → Shared → Prop} {ths : List Th} {cls ovs szs : List Int} {fn : Int → Nat} {c : Option Nat} {vcl vov vsz : List Value} {nc nt n1 n2 n3 n4 : Nat}
    (hInv : Inv w mg lc n nx ths cls ovs szs fn c)
    (X' : (Mine.hd.heap_39 w.params).In base) (T' : Top topProg loose mean mg mb base) (K' : Below callerA base [] base) (codeHd : CodeHd base 56 52) (hE : PassesOwn (model PySem.Challenge.rw_dn0266_01.row.prog w) (callerA.deeper (lawEnv L fa cd)) (lawEnv L fa cd) E)
    (hr : IsRange s.heap r 0 b₀ 1 t₀ u₀ v₀) (hb : b₀ = (ths.length : Int))
    (F : Fr base L s.heap m) (h1 : m (Str.ofString "due") = some (.ref ld)) (h2 : m (Str.ofString "sizes") = some (.ref ls)) (h3 : m (Str.ofString "over") = some (.ref lo)) (h4 : m (Str.ofString "closes") = some (.ref lcl)) (h5 : m (Str.ofString "things") = some (.ref lt)) (h6 : m (Str.ofString "calls") = some (.ref lc)) (N : News base L s.heap news)
    (hv1 : IntsAre vcl cls) (hv2 : IntsAre vov ovs) (hv3 : IntsAre vsz szs) (hsub : ∀ p ∈ nx, p ∈ news)
    (p1 : (lc, W.listOf #[] nc) ∈ news) (p2 : (lt, W.listOf (ths.map fun t : Th => Value.ref t.x).toArray nt) ∈ news) (p3 : (lcl, W.listOf vcl.toArray n1) ∈ news) (p4 : (lo, W.listOf vov.toArray n2) ∈ news) (p5 : (ls, W.listOf vsz.toArray n3) ∈ news) (p6 : (ld, W.listOf #[] n4) ∈ news)
    (ha : [lc, lt, lcl, lo, ls, ld].Nodup) (hT : ths.length ≤ 40)
    (done : ∀ (u : Str → Option Value) q vca vdu nc n4 ps h' tk', IntsAre vca q → IntsAre vdu q → q.length ≤ 40 →
      Fr base L h' (fun y => if y = Str.ofString "due" then some (.ref ld) else if y = Str.ofString "calls" then some (.ref lc) else u y) →
      News base L h' [(lc, W.listOf vca.toArray nc), (ld, W.listOf vdu.toArray n4), (52, tabObj ps)] → Q .next { s with heap := h', toks := tk' }) :
    wpAny (model PySem.Challenge.rw_dn0266_01.row.prog w) (callerA.deeper (lawEnv L fa cd)) (pyIter (.ref r)) (fun it s₂ => LoopAtV PySem.Challenge.rw_dn0266_01.row.prog w (callerA.deeper (lawEnv L fa cd)) base (lawEnv L fa cd) (Str.ofString "k") body2 Q E it s₂) E s :=
  loop2 (T := 0) (a := ⟨lc, lt, lcl, lo, ls, 0⟩) X' T' K' codeHd hE hr hb F ⟨h1, h2, h3, h4, h5, h6⟩ N ha hT hInv hv1 hv2 hv3 hsub p1 p2 p3 p4 p5 p6 done
end Mine
open PySem PySem.W PySem.Calls PyProof.Rows
set_option maxRecDepth 100000
set_option maxHeartbeats 8000000
local macro_rules | `(tactic| walk_at "none 0") => `(tactic| fail)
local macro_rules | `(tactic| walk_at "none 1") => `(tactic| fail)
local macro_rules | `(tactic| walk_at "none 2") => `(tactic| fail)
local macro_rules | `(tactic| walk_at "none 3") => `(tactic| fail)
local macro_rules | `(tactic| walk_at "none 4") => `(tactic| fail)
local macro_rules | `(tactic| walk_at "none 5") => `(tactic| fail)
local macro_rules | `(tactic| walk_at "none 6") => `(tactic| fail)
local macro_rules | `(tactic| walk_at "none 7") => `(tactic| fail)
local macro_rules | `(tactic| walk_at "none 8") => `(tactic| fail)
local macro_rules | `(tactic| walk_at "call builtin:hasattr") => `(tactic| (k_here; (with_reducible show wpAny _ _ (call (Value.builtin _) [Value.none, _]) _ _ _); k_dflt (refine' Mine.hasattr_none_K ?k0 ?k1 ?k2 ?_; (case k0 => exact rfl); (case k1 => k_asm); (case k2 => k_asm); k_whole); intro h' tk' F' N'; (try k_sweep)))
local macro_rules | `(tactic| walk_at "call builtin:sum") => `(tactic| (k_here; (with_reducible show wpAny _ _ (call (Value.builtin "sum") [Value.ref _]) _ _ _); k_dflt (refine' Mine.sum_pick ?k0 ?k1 ?k2 ?k3 ?k4 ?_; (case k0 => with_unfolding_all rfl); (case k1 => k_asm); (case k2 => k_asm); (case k3 => k_mem); (case k4 => assumption); k_whole); intro h' tk' t' F' N'))
local macro_rules | `(tactic| walk_at "eval ListComp") => `(tactic| (k_here; k_dflt (refine LCg.ListComp_U (F₀ := by k_asm) (by with_unfolding_all rfl) (by decide) (by rfl) (by decide) (by rfl) ?_)))
local macro_rules | `(tactic| walk_at "pyIter ref") => `(tactic| ((with_reducible show wpAny _ _ (pyIter (Value.ref _)) (fun it s₂ => LoopAtV _ _ _ _ _ _ _ _ _ it s₂) _ _); with_unfolding_all refine' Mine.loop1 ?k1 ?k2 ?k3 ?k4 ?k5 ?k6 ?k7 ?k8 ?k9 ?k10 ?k11 ?k12 ?k13 ?k14 ?k15 ?k16 ?k17 ?k18 ?k19 ?k20 ?k21 ?_; (case k1 => k_asm); (case k2 => k_asm); (case k3 => k_asm); (case k4 => assumption); (case k5 => assumption); (case k7 => k_asm); (case k8 => exact ⟨rfl, rfl, rfl, rfl, rfl, rfl⟩); (case k9 => k_asm); (case k10 => k_mem); (case k11 => k_mem); (case k12 => k_mem); (case k13 => k_mem); (case k14 => k_mem); (case k15 => k_mem); (case k16 => k_mem); (case k17 => k_mem); (case k18 => k_mem); (case k20 => assumption); (case k6 => (simp; omega)); (case k19 => (simp; omega)); (case k21 => (simp [rangeKs_length]; omega)); k_whole; intro u' ths' cls' ovs' szs' fn' c' vcl' vov' vsz' nc' nt' n1' n2' n3' ps' nx' h' tk' hInv' hv1' hv2' hv3' hT' hl' F' N'; (try k_sweep)))
local macro_rules | `(tactic| walk_at "call builtin:len") => `(tactic| (k_here; (with_reducible show wpAny _ _ (call (Value.builtin "len") [Value.ref _]) _ _ _); (with_unfolding_all refine' Mine.len_eq ?k1 ?k2 ?k3 ?_; (case k1 => is_list); (case k2 => with_reducible assumption); (case k3 => omega); k_whole)))
local macro_rules | `(tactic| walk_at "exec For Name Call cons nil") => `(tactic| (k_here; (rename Fr _ _ _ _ => lF'); (with_unfolding_all refine' For_invVF lF' ?k1 ?k2 ?_; (case k1 => exact rfl); (case k2 => exact rfl); k_whole)))
local macro_rules | `(tactic| walk_at "pyIter ref") => `(tactic| ((with_reducible show wpAny _ _ (pyIter (Value.ref _)) (fun it s₂ => LoopAtV _ _ _ _ _ _ _ _ _ it s₂) _ _); (rename Mine.Inv _ _ _ _ _ _ _ _ _ _ _ => hInv'); with_unfolding_all refine' Mine.loop2' hInv' ?k1 ?k2 ?k3 ?k4 ?k5 ?k6 ?k7 ?k8 ?h1 ?h2 ?h3 ?h4 ?h5 ?h6 ?k10 ?k14 ?k15 ?k16 ?k17 ?k18 ?k19 ?k20 ?k21 ?k22 ?k23 ?k11 ?k12 ?_; (case k1 => k_asm); (case k2 => k_asm); (case k3 => k_asm); (case k4 => assumption); (case k5 => passes_own); (case k6 => assumption); (case k8 => k_asm); (case h1 => exact rfl); (case h2 => exact rfl); (case h3 => exact rfl); (case h4 => exact rfl); (case h5 => exact rfl); (case h6 => exact rfl); (case k10 => k_asm);  (case k14 => with_reducible assumption); (case k15 => with_reducible assumption); (case k16 => with_reducible assumption); (case k17 => (intro p hp; k_ownIn)); (case k18 => k_mem); (case k19 => k_mem); (case k20 => k_mem); (case k21 => k_mem); (case k22 => k_mem); (case k23 => k_mem); (case k7 => omega); (case k11 => (simp; omega)); (case k12 => omega); k_whole; intro u' q' vca' vdu' nc' n4' ps' h' tk' hva' hvd' hq' F' N'; (try k_sweep)))
set_option maxRecDepth 100000 in
set_option maxHeartbeats 8000000 in
theorem PySem.Challenge.cw_dn0266_01_holds : PySem.Challenge.rw_dn0266_01.Holds :=
  Mine.hd (by w_strict (k_go0; (all_goals try k_fold); k_steps))
